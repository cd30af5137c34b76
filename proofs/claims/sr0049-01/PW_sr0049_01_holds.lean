import PyProof.Rows.All
import Wide.All
import OpenK.AllK
import Wide.FinOn
import KE.KxPercentT
import KE.KCallOwn
import PySem.Challenge.RW_sr0049_01
set_option Elab.async false
set_option linter.all false
set_option maxRecDepth 100000
open PySem PySem.W PyProof.Rows PySem.Calls
namespace Mine
/-! M1 -/
section

noncomputable abbrev PM := Addr → Option Obj
/-- pure data of the program's values -/
inductive D where
  | v (x : Value)
  | int (i : Int)
  | str (s : Str)
  | list (l : List D)
  | tup (l : List D)
  | hdr (l : List D)
  | slc (lo hi st : Option Int)
  | dic

noncomputable abbrev D.bool (b : Bool) : D := .v (.bool b)
noncomputable abbrev D.none : D := .v .none

noncomputable abbrev lstO (vs : List Value) (n : Nat) : Obj := { cls := .type "list", data := .seq vs.toArray n }
noncomputable abbrev tupO (vs : List Value) (n : Nat) : Obj := { cls := .type "tuple", data := .seq vs.toArray n }
/-- the class Headers -/
noncomputable abbrev hdrC : Addr := 218
noncomputable abbrev hdrEs (h : Int) (t : Tok) (l : Addr) : List DictEntry := [⟨h, .str (Str.ofString "_headers") t, .ref l⟩]

mutual
inductive Rep (b : PM) : Value → D → Prop
  | v {x : Value} : Rep b x (.v x)
  | int {i : Int} {t : Tok} : Rep b (.int i t) (.int i)
  | str {s : Str} {t : Tok} : Rep b (.str s t) (.str s)
  | list {a : Addr} {vs : List Value} {n : Nat} {ds : List D} : b a = some (lstO vs n) → RepL b vs ds → Rep b (.ref a) (.list ds)
  | tup {a : Addr} {vs : List Value} {n : Nat} {ds : List D} : b a = some (tupO vs n) → RepL b vs ds → Rep b (.ref a) (.tup ds)
  | hdr {x dx l : Addr} {vs : List Value} {n k : Nat} {hh : Int} {t : Tok} {ds : List D} : b x = some (instObj hdrC dx) → b dx = some (dictOf (hdrEs hh t l) k) → b l = some (lstO vs n) → RepL b vs ds → Rep b (.ref x) (.hdr ds)
  | slc {a : Addr} {u v z : Value} {lo hi st : Option Int} : b a = some { cls := .type "slice", data := .fields #[u, v, z] } → IsPart u lo → IsPart v hi → IsPart z st → Rep b (.ref a) (.slc lo hi st)
  | dic {a : Addr} : b a = some (dictOf [] 0) → (a == sysModules) = false → Rep b (.ref a) .dic
inductive RepL (b : PM) : List Value → List D → Prop
  | nil : RepL b [] []
  | cons {v : Value} {d : D} {vs : List Value} {ds : List D} : Rep b v d → RepL b vs ds → RepL b (v :: vs) (d :: ds)
end

noncomputable def Sub (b b' : PM) : Prop := ∀ a o, b a = some o → b' a = some o
theorem Sub.refl {b : PM} : Sub b b := fun _ _ e => e
theorem Sub.trans {b b' b'' : PM} (x : Sub b b') (y : Sub b' b'') : Sub b b'' := fun a o e => y a o (x a o e)

theorem Rep.mono {b b' : PM} (s : Sub b b') {v : Value} {d : D} (h : Rep b v d) : Rep b' v d :=
  Rep.rec (motive_1 := fun v d _ => Rep b' v d) (motive_2 := fun vs ds _ => RepL b' vs ds) .v .int .str (fun e _ r => .list (s _ _ e) r) (fun e _ r => .tup (s _ _ e) r) (fun e1 e2 e3 _ r => .hdr (s _ _ e1) (s _ _ e2) (s _ _ e3) r) (fun e x y z => .slc (s _ _ e) x y z) (fun e x => .dic (s _ _ e) x) .nil (fun _ _ r t => .cons r t) h
theorem RepL.ind {b : PM} {M : List Value → List D → Prop} (z : M [] []) (c : ∀ {v d vs ds}, Rep b v d → M vs ds → M (v :: vs) (d :: ds)) {vs : List Value} {ds : List D} (h : RepL b vs ds) : M vs ds :=
  RepL.rec (motive_1 := fun _ _ _ => True) (motive_2 := fun vs ds _ => M vs ds) trivial trivial trivial (fun _ _ _ => trivial) (fun _ _ _ => trivial) (fun _ _ _ _ _ => trivial) (fun _ _ _ _ => trivial) (fun _ _ => trivial) z (fun r _ _ t => c r t) h
theorem RepL.mono {b b' : PM} (s : Sub b b') {vs : List Value} {ds : List D} (h : RepL b vs ds) : RepL b' vs ds := h.ind .nil fun r t => .cons (r.mono s) t
theorem Rep.vI {b : PM} {v x : Value} (h : Rep b v (.v x)) : v = x := by cases h; rfl
theorem Rep.intI {b : PM} {v : Value} {i : Int} (h : Rep b v (.int i)) : ∃ t, v = .int i t := by cases h; exact ⟨_, rfl⟩
theorem Rep.strI {b : PM} {v : Value} {i : Str} (h : Rep b v (.str i)) : ∃ t, v = .str i t := by cases h; exact ⟨_, rfl⟩
theorem Rep.listI {b : PM} {v : Value} {ds : List D} (h : Rep b v (.list ds)) : ∃ a vs n, v = .ref a ∧ b a = some (lstO vs n) ∧ RepL b vs ds := by cases h with | list e r => exact ⟨_, _, _, rfl, e, r⟩
theorem Rep.tupI {b : PM} {v : Value} {ds : List D} (h : Rep b v (.tup ds)) : ∃ a vs n, v = .ref a ∧ b a = some (tupO vs n) ∧ RepL b vs ds := by cases h with | tup e r => exact ⟨_, _, _, rfl, e, r⟩
theorem RepL.nilI {b : PM} {vs : List Value} (h : RepL b vs []) : vs = [] := by cases h; rfl
theorem RepL.consI {b : PM} {vs : List Value} {d : D} {ds : List D} (h : RepL b vs (d :: ds)) : ∃ v vs', vs = v :: vs' ∧ Rep b v d ∧ RepL b vs' ds := by cases h with | cons r t => exact ⟨_, _, rfl, r, t⟩
theorem RepL.two {b : PM} {vs : List Value} {d e : D} (h : RepL b vs [d, e]) : ∃ v u, vs = [v, u] ∧ Rep b v d ∧ Rep b u e := by
  obtain ⟨v, _, rfl, r, t⟩ := h.consI
  obtain ⟨u, _, rfl, r', t⟩ := t.consI
  cases t.nilI
  exact ⟨_, _, rfl, r, r'⟩

theorem RepL.length {b : PM} {vs : List Value} {ds : List D} (h : RepL b vs ds) : vs.length = ds.length := h.ind (M := fun vs ds => vs.length = ds.length) rfl fun _ t => congrArg (· + 1) t
theorem RepL.get {b : PM} {vs : List Value} {ds : List D} (h : RepL b vs ds) : ∀ {i : Nat} {d : D}, ds[i]? = some d → ∃ v, vs[i]? = some v ∧ Rep b v d :=
  h.ind (M := fun vs ds => ∀ {i : Nat} {d : D}, ds[i]? = some d → ∃ v, vs[i]? = some v ∧ Rep b v d) (fun e => nomatch e) fun r t => by
    intro i _ e
    cases i with
    | zero => exact ⟨_, rfl, Option.some.inj e ▸ r⟩
    | succ i => exact t e
theorem RepL.getV {b : PM} {vs : List Value} {ds : List D} (h : RepL b vs ds) : ∀ {i : Nat} {v : Value}, vs[i]? = some v → ∃ d, ds[i]? = some d ∧ Rep b v d :=
  h.ind (M := fun vs ds => ∀ {i : Nat} {v : Value}, vs[i]? = some v → ∃ d, ds[i]? = some d ∧ Rep b v d) (fun e => nomatch e) fun r t => by
    intro i _ e
    cases i with
    | zero => exact ⟨_, rfl, Option.some.inj e ▸ r⟩
    | succ i => exact t e
theorem RepL.append {b : PM} {vs : List Value} {ds : List D} {vs' : List Value} {ds' : List D} (h : RepL b vs ds) (h' : RepL b vs' ds') : RepL b (vs ++ vs') (ds ++ ds') := h.ind (M := fun vs ds => RepL b (vs ++ vs') (ds ++ ds')) h' fun r t => .cons r t
theorem RepL.drop {b : PM} : ∀ (n : Nat) {vs : List Value} {ds : List D}, RepL b vs ds → RepL b (vs.drop n) (ds.drop n)
  | 0, _, _, h => h
  | _ + 1, _, _, .nil => .nil
  | n + 1, _, _, .cons _ t => RepL.drop n t
theorem RepL.take {b : PM} : ∀ (n : Nat) {vs : List Value} {ds : List D}, RepL b vs ds → RepL b (vs.take n) (ds.take n)
  | 0, _, _, _ => .nil
  | _ + 1, _, _, .nil => .nil
  | n + 1, _, _, .cons r t => .cons r (RepL.take n t)
theorem RepL.snoc {b : PM} {vs : List Value} {ds : List D} {v : Value} {d : D} (h : RepL b vs ds) (r : Rep b v d) : RepL b (vs ++ [v]) (ds ++ [d]) := h.append (.cons r .nil)
theorem RepL.reverse {b : PM} {vs : List Value} {ds : List D} (h : RepL b vs ds) : RepL b vs.reverse ds.reverse :=
  h.ind (M := fun vs ds => RepL b vs.reverse ds.reverse) .nil fun r t => by rw [List.reverse_cons, List.reverse_cons]; exact t.snoc r
/-! cells: the objects that are still turned -/
inductive AV where
  | d (x : D)
  | c (i : Nat)
inductive Cell where
  | lst (ds : List D)
  | inst (l : Option Nat)
  | itr (ds : List D)
  | box (r : Option AV)
  | gone
noncomputable abbrev Foot := List (Addr × Obj)
noncomputable def headA (f : Foot) : Option Addr := f.head?.map (·.1)
noncomputable def RepA (b : PM) (fs : List Foot) (v : Value) : AV → Prop
  | .d x => Rep b v x
  | .c i => ∃ f a, fs[i]? = some f ∧ headA f = some a ∧ v = .ref a
noncomputable def Keep (n : Nat) (fs fs' : List Foot) : Prop := ∀ i f, i < n → fs[i]? = some f → ∃ f', fs'[i]? = some f' ∧ headA f' = headA f
theorem Keep.refl {n : Nat} {fs : List Foot} : Keep n fs fs := fun _ f _ e => ⟨f, e, rfl⟩
theorem Keep.trans {n : Nat} {fs fs' fs'' : List Foot} (x : Keep n fs fs') (y : Keep n fs' fs'') : Keep n fs fs'' := fun i f hi e =>
  let ⟨f', e', q⟩ := x i f hi e
  let ⟨f'', e'', q'⟩ := y i f' hi e'
  ⟨f'', e'', q'.trans q⟩
theorem Keep.le {n m : Nat} {fs fs' : List Foot} (x : Keep n fs fs') (h : m ≤ n) : Keep m fs fs' := fun i f hi e => x i f (Nat.lt_of_lt_of_le hi h) e
theorem Keep.len {fs fs' : List Foot} (x : Keep fs.length fs fs') : fs.length ≤ fs'.length := by
  by_cases h : fs.length = 0
  · omega
  · have hl : fs.length - 1 < fs.length := by omega
    obtain ⟨f', e, _⟩ := x (fs.length - 1) fs[fs.length - 1] hl (by simp [hl])
    have := (List.getElem?_eq_some_iff.mp e).1
    omega
theorem Keep.then {fs fs' fs'' : List Foot} (x : Keep fs.length fs fs') (y : Keep fs'.length fs' fs'') : Keep fs.length fs fs'' := x.trans (y.le x.len)
theorem RepA.mono {b b' : PM} {fs fs' : List Foot} {v : Value} {r : AV} (s : Sub b b') (k : Keep fs.length fs fs') (h : RepA b fs v r) : RepA b' fs' v r := by
  cases r with
  | d x => exact Rep.mono s h
  | c i =>
    obtain ⟨f, a, e, q, hv⟩ := h
    obtain ⟨f', e', q'⟩ := k i f (List.getElem?_eq_some_iff.mp e).1 e
    exact ⟨f', a, e', q'.trans q, hv⟩

noncomputable def CellOk (b : PM) (fs : List Foot) : Cell → Foot → Prop
  | .lst ds, f => ∃ a vs n, f = [(a, lstO vs n)] ∧ RepL b vs ds
  | .inst none, f => ∃ x dx, f = [(x, instObj hdrC dx), (dx, dictOf [] 0)]
  | .inst (some j), f => ∃ x dx l hh t k g, f = [(x, instObj hdrC dx), (dx, dictOf (hdrEs hh t l) k)] ∧ fs[j]? = some g ∧ headA g = some l
  | .itr ds, f => ∃ a o l vs n k, f = [(a, o)] ∧ o.cls = .type "list_iterator" ∧ o.data = .fields #[.ref l, .int (k : Nat) 0] ∧ b l = some (lstO vs n) ∧ k ≤ vs.length ∧ RepL b (vs.drop k) ds
  | .box none, f => ∃ c o v, f = [(c, o)] ∧ o.data = .cell v
  | .box (some r), f => ∃ c o v, f = [(c, o)] ∧ o.data = .cell (some v) ∧ RepA b fs v r
  | .gone, f => f = []

noncomputable def CellsOk (b : PM) (fs : List Foot) (C : List Cell) : Prop := fs.length = C.length ∧ ∀ (i : Nat) (c : Cell) (f : Foot), C[i]? = some c → fs[i]? = some f → CellOk b fs c f

theorem CellOk.mono {b b' : PM} {fs fs' : List Foot} {c : Cell} {f : Foot} (s : Sub b b') (k : Keep fs.length fs fs') (h : CellOk b fs c f) : CellOk b' fs' c f := by
  cases c with
  | lst ds => obtain ⟨a, vs, n, e, r⟩ := h; exact ⟨a, vs, n, e, r.mono s⟩
  | inst j =>
    cases j with
    | none => exact h
    | some j =>
      obtain ⟨x, dx, l, hh, t, kk, g, e, eg, hg⟩ := h
      obtain ⟨g', e', q'⟩ := k j g (List.getElem?_eq_some_iff.mp eg).1 eg
      exact ⟨x, dx, l, hh, t, kk, g', e, e', q'.trans hg⟩
  | itr ds => obtain ⟨a, o, l, vs, n, kk, e, h1, h2, h3, h4, r⟩ := h; exact ⟨a, o, l, vs, n, kk, e, h1, h2, s _ _ h3, h4, r.mono s⟩
  | box r =>
    cases r with
    | none => exact h
    | some r => obtain ⟨c, o, v, e, h1, r'⟩ := h; exact ⟨c, o, v, e, h1, r'.mono s k⟩
  | gone => exact h

/-- the frames (and other objects) that stand as they stood, up to their slots -/
noncomputable abbrev Kp := List (Addr × (Obj → Prop))

structure St (K : Frag) (b : PM) (kp : Kp) (fs : List Foot) (C : List Cell) (h : Heap) : Prop where
  base : ∀ a o, b a = some o → h.get? a = some o
  top : ∀ a o, K.lookup a = some o → b a = some o
  kept : ∀ p ∈ kp, (∃ o, h.get? p.1 = some o ∧ p.2 o) ∧ b p.1 = none
  foot : ∀ p ∈ fs.flatten, h.get? p.1 = some p.2 ∧ b p.1 = none ∧ ∀ q ∈ kp, q.1 ≠ p.1
  nodup : (fs.flatten.map (·.1)).Nodup
  cells : CellsOk b fs C

inductive VB where
  | loc (r : AV)
  | box (i : Nat)
noncomputable abbrev Gam := List (Str × VB)
noncomputable def VarOk (b : PM) (fs : List Foot) (env : Env) (m : Str → Option Value) (x : Str) : VB → Prop
  | .loc r => env.kindOf x = some .local ∧ ∃ v, m x = some v ∧ RepA b fs v r
  | .box i => (env.kindOf x = some .cell ∨ env.kindOf x = some .free) ∧ ∃ c f, env.cells.lookup x = some c ∧ fs[i]? = some f ∧ headA f = some c
structure Frm (b : PM) (kp : Kp) (fs : List Foot) (env : Env) (Γ : Gam) (h : Heap) : Prop where
  fn : env.scope.kind = .function
  gl : env.globals = mainGlobals
  bu : env.builtins = builtinsNs
  off : b env.locals = none ∧ (∀ q ∈ kp, q.1 ≠ env.locals) ∧ ∀ p ∈ fs.flatten, p.1 ≠ env.locals
  ns : ∃ m, h.Ns env.locals m ∧ ∀ x r, Γ.lookup x = some r → VarOk b fs env m x r

theorem VarOk.mono {b b' : PM} {fs fs' : List Foot} {env : Env} {m : Str → Option Value} {x : Str} {r : VB} (s : Sub b b') (k : Keep fs.length fs fs') (h : VarOk b fs env m x r) : VarOk b' fs' env m x r := by
  cases r with
  | loc r => obtain ⟨a, v, e, q⟩ := h; exact ⟨a, v, e, q.mono s k⟩
  | box i =>
    obtain ⟨a, c, f, e, ef, hf⟩ := h
    obtain ⟨f', e', q'⟩ := k i f (List.getElem?_eq_some_iff.mp ef).1 ef
    exact ⟨a, c, f', e, e', q'.trans hf⟩


noncomputable def PM.put (b : PM) (a : Addr) (o : Obj) : PM := fun c => if c = a then some o else b c
theorem PM.put_self {b : PM} {a : Addr} {o : Obj} : b.put a o a = some o := if_pos rfl
theorem PM.put_ne {b : PM} {a c : Addr} {o : Obj} (h : c ≠ a) : b.put a o c = b c := if_neg h
theorem Sub.put {b : PM} {a : Addr} {o : Obj} (h : b a = none) : Sub b (b.put a o) := fun c o' e => by
  by_cases q : c = a
  · subst q; rw [h] at e; cases e
  · rw [PM.put_ne q]; exact e

section
variable {K : Frag} {b b' : PM} {kp : Kp} {fs fs' : List Foot} {C C' : List Cell} {h h' : Heap} {env : Env} {Γ : Gam}

theorem St.len (S : St K b kp fs C h) : fs.length = C.length := S.cells.1
theorem St.keeps (S : St K b kp fs C h) (hk : ∀ a o, h.get? a = some o → h'.get? a = some o) : St K b kp fs C h' where
  base := fun a o e => hk _ _ (S.base a o e)
  top := S.top
  kept := fun p hp => let ⟨⟨o, e, d⟩, q⟩ := S.kept p hp; ⟨⟨o, hk _ _ e, d⟩, q⟩
  foot := fun p hp => let ⟨e, q⟩ := S.foot p hp; ⟨hk _ _ e, q⟩
  nodup := S.nodup
  cells := S.cells
theorem Frm.keeps (F : Frm b kp fs env Γ h) (hk : ∀ a o, h.get? a = some o → h'.get? a = some o) : Frm b kp fs env Γ h' where
  fn := F.fn
  gl := F.gl
  bu := F.bu
  off := F.off
  ns := let ⟨m, n, v⟩ := F.ns; ⟨m, n.keeps hk, v⟩

theorem St.fresh (S : St K b kp fs C h) {a : Addr} (ha : h.get? a = none) : b a = none ∧ (∀ q ∈ kp, q.1 ≠ a) ∧ ∀ p ∈ fs.flatten, p.1 ≠ a := by
  refine ⟨?_, fun q hq e => ?_, fun p hp e => ?_⟩
  · cases e : b a with
    | none => rfl
    | some o => have := S.base _ _ e; rw [ha] at this; cases this
  · obtain ⟨⟨o, x, _⟩, _⟩ := S.kept q hq; rw [e, ha] at x; cases x
  · have := (S.foot p hp).1; rw [e, ha] at this; cases this

/-- a new object that is not turned any more -/
theorem St.frozen (S : St K b kp fs C h) {a : Addr} {o : Obj} (ha : h.get? a = none) (ho : h'.get? a = some o) (hk : ∀ c o', h.get? c = some o' → h'.get? c = some o') : St K (b.put a o) kp fs C h' := by
  obtain ⟨f1, f2, f3⟩ := S.fresh ha
  have sb : Sub b (b.put a o) := Sub.put f1
  refine ⟨fun c o' e => ?_, fun c o' e => sb _ _ (S.top c o' e), fun p hp => ?_, fun p hp => ?_, S.nodup, S.cells.1, fun i c f hc hf => (S.cells.2 i c f hc hf).mono sb Keep.refl⟩
  · by_cases q : c = a
    · subst q; rw [PM.put_self] at e; cases e; exact ho
    · rw [PM.put_ne q] at e; exact hk _ _ (S.base _ _ e)
  · obtain ⟨⟨o', e, d⟩, q⟩ := S.kept p hp
    exact ⟨⟨o', hk _ _ e, d⟩, by rw [PM.put_ne (f2 p hp)]; exact q⟩
  · obtain ⟨e, q, r⟩ := S.foot p hp
    exact ⟨hk _ _ e, by rw [PM.put_ne (f3 p hp)]; exact q, r⟩

theorem keep_append {f : Foot} : Keep fs.length fs (fs ++ [f]) := fun i g hi e => ⟨g, by rw [List.getElem?_append_left hi]; exact e, rfl⟩

/-- new objects that are turned: a cell -/
theorem St.cell (S : St K b kp fs C h) {f : Foot} {c : Cell} (hn : ∀ p ∈ f, h.get? p.1 = none ∧ h'.get? p.1 = some p.2) (hd : (f.map (·.1)).Nodup) (hc : CellOk b (fs ++ [f]) c f) (hk : ∀ c o', h.get? c = some o' → h'.get? c = some o') :
    St K b kp (fs ++ [f]) (C ++ [c]) h' := by
  refine ⟨fun c o' e => hk _ _ (S.base _ _ e), S.top, fun p hp => let ⟨⟨o', e, d⟩, q⟩ := S.kept p hp; ⟨⟨o', hk _ _ e, d⟩, q⟩, fun p hp => ?_, ?_, ?_, fun i c' g hc' hg => ?_⟩
  · rw [List.flatten_append, List.mem_append] at hp
    rcases hp with hp | hp
    · obtain ⟨e, q⟩ := S.foot p hp; exact ⟨hk _ _ e, q⟩
    · simp only [List.flatten_cons, List.flatten_nil, List.append_nil] at hp
      obtain ⟨e1, e2⟩ := hn p hp
      obtain ⟨f1, f2, f3⟩ := S.fresh e1
      exact ⟨e2, f1, f2⟩
  · rw [List.flatten_append, List.map_append]
    simp only [List.flatten_cons, List.flatten_nil, List.append_nil]
    refine List.nodup_append.mpr ⟨S.nodup, hd, ?_⟩
    intro x hx y hy e
    obtain ⟨p, hp, rfl⟩ := List.mem_map.mp hx
    obtain ⟨q, hq, rfl⟩ := List.mem_map.mp hy
    have := (S.foot p hp).1
    rw [e, (hn q hq).1] at this; cases this
  · simp [S.cells.1]
  · by_cases hi : i < C.length
    · rw [List.getElem?_append_left hi] at hc'
      rw [List.getElem?_append_left (by rw [S.cells.1]; exact hi)] at hg
      exact (S.cells.2 i c' g hc' hg).mono Sub.refl keep_append
    · have hi' := Nat.not_lt.mp hi
      have hi2 := hi'
      rw [← S.cells.1] at hi2
      rw [List.getElem?_append_right hi'] at hc'
      rw [List.getElem?_append_right hi2] at hg
      have z : i - C.length = 0 := by
        by_cases q : i - C.length = 0
        · exact q
        · rw [List.getElem?_eq_none (by simp; omega)] at hc'; cases hc'
      have z2 : i - fs.length = 0 := by rw [S.cells.1]; exact z
      rw [z] at hc'; rw [z2] at hg
      simp at hc' hg
      subst hc'; subst hg; exact hc

theorem flatten_set : ∀ (fs : List Foot) (i : Nat) (f g : Foot), fs[i]? = some f → ∃ l r, fs.flatten = l ++ f ++ r ∧ (fs.set i g).flatten = l ++ g ++ r
  | [], i, f, g, h => by simp at h
  | x :: fs, 0, f, g, h => by simp at h; subst h; exact ⟨[], fs.flatten, by simp, by simp⟩
  | x :: fs, i + 1, f, g, h => by
    obtain ⟨l, r, e1, e2⟩ := flatten_set fs i f g (List.getElem?_cons_succ ▸ h)
    exact ⟨x ++ l, r, by simp [e1], by simp [e2]⟩

theorem keep_set {i : Nat} {f g : Foot} {n : Nat} (hf : fs[i]? = some f) (hg : headA g = headA f) : Keep n fs (fs.set i g) := fun j x _ e => by
  by_cases q : i = j
  · subst q
    rw [hf] at e; cases e
    exact ⟨g, by rw [List.getElem?_set_self (List.getElem?_eq_some_iff.mp hf).1], hg⟩
  · exact ⟨x, by rw [List.getElem?_set_ne q]; exact e, rfl⟩

/-- a cell is turned -/
theorem St.turn (S : St K b kp fs C h) {i : Nat} {f g : Foot} {c : Cell} (hf : fs[i]? = some f) (hi : i < C.length) (ha : g.map (·.1) = f.map (·.1))
    (hg : ∀ p ∈ g, h'.get? p.1 = some p.2) (hk : ∀ a o, (∀ p ∈ f, p.1 ≠ a) → h.get? a = some o → h'.get? a = some o) (hc : CellOk b (fs.set i g) c g) : St K b kp (fs.set i g) (C.set i c) h' := by
  obtain ⟨l, r, e1, e2⟩ := flatten_set fs i f g hf
  have hh : headA g = headA f := by
    have := congrArg List.head? ha
    simpa [headA] using this
  have inF : ∀ p ∈ f, p ∈ fs.flatten := fun p hp => by rw [e1]; simp [hp]
  have nd := S.nodup
  have mapG : ((fs.set i g).flatten.map (·.1)) = fs.flatten.map (·.1) := by rw [e1, e2]; simp [ha]
  have gf : ∀ p ∈ g, ∃ q ∈ f, q.1 = p.1 := fun p hp => by
    have : p.1 ∈ f.map (·.1) := by rw [← ha]; exact List.mem_map.mpr ⟨p, hp, rfl⟩
    obtain ⟨q, hq, e⟩ := List.mem_map.mp this
    exact ⟨q, hq, e⟩
  refine ⟨fun a o e => hk _ _ (fun p hp q => ?_) (S.base _ _ e), S.top, fun p hp => ?_, fun p hp => ?_, by rw [mapG]; exact nd, by simp [S.cells.1], fun j c' g' hc' hg' => ?_⟩
  · have := (S.foot p (inF p hp)).2.1; rw [q, e] at this; cases this
  · obtain ⟨⟨o, e, d⟩, q⟩ := S.kept p hp
    exact ⟨⟨o, hk _ _ (fun x hx z => (S.foot x (inF x hx)).2.2 p hp z.symm) e, d⟩, q⟩
  · rw [e2] at hp
    rcases List.mem_append.mp hp with hp | hp
    · rcases List.mem_append.mp hp with hp | hp
      · have hpF : p ∈ fs.flatten := by rw [e1]; simp [hp]
        obtain ⟨a1, a2⟩ := S.foot p hpF
        refine ⟨hk _ _ (fun q hq z => ?_) a1, a2⟩
        rw [e1, List.map_append, List.map_append] at nd
        have := (List.nodup_append.mp (List.nodup_append.mp nd).1).2.2
        exact this p.1 (List.mem_map.mpr ⟨p, hp, rfl⟩) q.1 (List.mem_map.mpr ⟨q, hq, rfl⟩) z.symm
      · obtain ⟨q, hq, z⟩ := gf p hp
        have := (S.foot q (inF q hq)).2
        rw [z] at this
        exact ⟨hg p hp, this⟩
    · have hpF : p ∈ fs.flatten := by rw [e1]; simp [hp]
      obtain ⟨a1, a2⟩ := S.foot p hpF
      refine ⟨hk _ _ (fun q hq z => ?_) a1, a2⟩
      rw [e1, List.map_append] at nd
      have := (List.nodup_append.mp nd).2.2
      exact this q.1 (List.mem_map.mpr ⟨q, List.mem_append_right _ hq, rfl⟩) p.1 (List.mem_map.mpr ⟨p, hp, rfl⟩) z
  · by_cases q : i = j
    · subst q
      rw [List.getElem?_set_self hi] at hc'
      rw [List.getElem?_set_self (List.getElem?_eq_some_iff.mp hf).1] at hg'
      cases hc'; cases hg'; exact hc
    · rw [List.getElem?_set_ne q] at hc' hg'
      exact (S.cells.2 j c' g' hc' hg').mono Sub.refl (keep_set hf hh)

/-- a cell's objects are turned no more -/
theorem St.freeze (S : St K b kp fs C h) {i : Nat} {f : Foot} (hf : fs[i]? = some f) (hi : i < C.length) (hno : ∀ j c g, j ≠ i → C[j]? = some c → fs[j]? = some g → CellOk b (fs.set i []) c g) :
    ∃ b', Sub b b' ∧ (∀ p ∈ f, b' p.1 = some p.2) ∧ (∀ a, b a = none → (∀ p ∈ f, p.1 ≠ a) → b' a = none) ∧ St K b' kp (fs.set i []) (C.set i .gone) h := by
  obtain ⟨l, r, e1, e2⟩ := flatten_set fs i f [] hf
  have inF : ∀ p ∈ f, p ∈ fs.flatten := fun p hp => by rw [e1]; simp [hp]
  have nd := S.nodup
  rw [e1, List.map_append, List.map_append] at nd
  let b' : PM := fun a => match f.find? (fun p => p.1 == a) with | some p => some p.2 | none => b a
  have hb' : ∀ a o, b' a = some o → b a = some o ∨ ∃ p ∈ f, p.1 = a ∧ p.2 = o := fun a o e => by
    show _ ∨ _
    simp only [b'] at e
    split at e
    · rename_i p hp
      right
      cases e
      exact ⟨p, List.mem_of_find?_eq_some hp, by simpa using List.find?_some hp, rfl⟩
    · exact .inl e
  have sb : Sub b b' := fun a o e => by
    simp only [b']
    split
    · rename_i p hp
      have h1 := List.mem_of_find?_eq_some hp
      have h2 : p.1 = a := by simpa using List.find?_some hp
      have := (S.foot p (inF p h1)).2.1
      rw [h2, e] at this; cases this
    · exact e
  have hin : ∀ p ∈ f, b' p.1 = some p.2 := fun p hp => by
    simp only [b']
    split
    · rename_i q hq
      have h1 := List.mem_of_find?_eq_some hq
      have h2 : q.1 = p.1 := by simpa using List.find?_some hq
      have e1 := (S.foot p (inF p hp)).1
      have e2 := (S.foot q (inF q h1)).1
      rw [h2, e1] at e2; exact e2.symm
    · rename_i hq
      have := List.find?_eq_none.mp hq p hp
      simp at this
  have hnone : ∀ a, b a = none → (∀ p ∈ f, p.1 ≠ a) → b' a = none := fun a e q => by
    simp only [b']
    split
    · rename_i p hp
      exact absurd (by simpa using List.find?_some hp) (q p (List.mem_of_find?_eq_some hp))
    · exact e
  refine ⟨b', sb, hin, hnone, fun a o e => ?_, fun a o e => sb _ _ (S.top a o e), fun p hp => ?_, fun p hp => ?_, ?_, by simp [S.cells.1], fun j c g hc hg => ?_⟩
  · rcases hb' a o e with e | ⟨p, hp, rfl, rfl⟩
    · exact S.base _ _ e
    · exact (S.foot p (inF p hp)).1
  · obtain ⟨x, q⟩ := S.kept p hp
    exact ⟨x, hnone _ q fun y hy z => (S.foot y (inF y hy)).2.2 p hp z.symm⟩
  · rw [e2] at hp
    simp only [List.append_nil, List.mem_append] at hp
    have hpF : p ∈ fs.flatten := by rw [e1]; rcases hp with hp | hp <;> simp [hp]
    obtain ⟨a1, a2, a3⟩ := S.foot p hpF
    refine ⟨a1, hnone _ a2 fun q hq z => ?_, a3⟩
    rcases hp with hp | hp
    · exact (List.nodup_append.mp (List.nodup_append.mp nd).1).2.2 p.1 (List.mem_map.mpr ⟨p, hp, rfl⟩) q.1 (List.mem_map.mpr ⟨q, hq, rfl⟩) z.symm
    · exact (List.nodup_append.mp nd).2.2 q.1 (List.mem_append_right _ (List.mem_map.mpr ⟨q, hq, rfl⟩)) p.1 (List.mem_map.mpr ⟨p, hp, rfl⟩) z
  · rw [e2]
    simp only [List.append_nil, List.map_append]
    refine List.nodup_append.mpr ⟨(List.nodup_append.mp (List.nodup_append.mp nd).1).1, (List.nodup_append.mp nd).2.1, fun x hx y hy => (List.nodup_append.mp nd).2.2 x (List.mem_append_left _ hx) y hy⟩
  · by_cases q : i = j
    · subst q
      rw [List.getElem?_set_self hi] at hc
      rw [List.getElem?_set_self (List.getElem?_eq_some_iff.mp hf).1] at hg
      cases hc; cases hg; rfl
    · rw [List.getElem?_set_ne q] at hc hg
      exact (hno j c g (Ne.symm q) hc hg).mono sb Keep.refl

/-- cells at the end may be forgotten -/
theorem St.drop (S : St K b kp fs C h) (n : Nat) (hC : ∀ i c, i < n → C[i]? = some c → ∀ f, fs[i]? = some f → CellOk b (fs.take n) c f) : St K b kp (fs.take n) (C.take n) h := by
  have sub : ∀ p ∈ (fs.take n).flatten, p ∈ fs.flatten := fun p hp => by
    obtain ⟨f, hf, hp⟩ := List.mem_flatten.mp hp
    exact List.mem_flatten.mpr ⟨f, List.mem_of_mem_take hf, hp⟩
  refine ⟨S.base, S.top, S.kept, fun p hp => S.foot p (sub p hp), ?_, by simp [S.cells.1], fun i c f hc hf => ?_⟩
  · have e : fs.flatten = (fs.take n).flatten ++ (fs.drop n).flatten := by rw [← List.flatten_append, List.take_append_drop]
    have := S.nodup
    rw [e, List.map_append] at this
    exact (List.nodup_append.mp this).1
  · rw [List.getElem?_take] at hc hf
    split at hc
    · rename_i hi
      rw [if_pos hi] at hf
      exact hC i c hi hc f hf
    · cases hc
end

/-- room for calls; ok: where the frames of the stack stand -/
structure Room (k : Nat) (ok : Addr → Prop) (A : Around) : Prop where
  depth : A.depth + k < recursionLimit
  units : A.units + 8 * k < cLine
  handled : A.handled = none
  frames : ∃ outer, A.frames = some outer ∧ ∀ e ∈ outer, e.scope.kind ≠ .module ∧ ∃ L, e.frame = some L ∧ ok L
theorem Room.le {k j : Nat} {ok : Addr → Prop} {A : Around} (R : Room k ok A) (h : j ≤ k) : Room j ok A :=
  ⟨by have := R.depth; omega, by have := R.units; omega, R.handled, R.frames⟩
theorem Room.weak {k : Nat} {ok ok' : Addr → Prop} {A : Around} (R : Room k ok A) (h : ∀ a, ok a → ok' a) : Room k ok' A :=
  ⟨R.depth, R.units, R.handled, let ⟨o, e, q⟩ := R.frames; ⟨o, e, fun x hx => let ⟨a, L, f, g⟩ := q x hx; ⟨a, L, f, h _ g⟩⟩⟩
noncomputable def okK (kp : Kp) (a : Addr) : Prop := ∃ P, (a, P) ∈ kp ∧ ∀ o, P o → ∀ vs, o.data ≠ .fields vs
noncomputable def okL (kp : Kp) (L : Addr) (a : Addr) : Prop := a = L ∨ okK kp a

noncomputable abbrev prg : Program := PySem.Challenge.pw_sr0049_01
noncomputable def RepAs (b : PM) (fs : List Foot) : List Value → List AV → Prop
  | [], [] => True
  | v :: vs, r :: rs => RepA b fs v r ∧ RepAs b fs vs rs
  | _, _ => False
theorem RepAs.nilI {b : PM} {fs : List Foot} {vs : List Value} (h : RepAs b fs vs []) : vs = [] := by
  cases vs with
  | nil => rfl
  | cons => exact h.elim
theorem RepAs.consI {b : PM} {fs : List Foot} {vs : List Value} {x : AV} {xs : List AV} (h : RepAs b fs vs (x :: xs)) : ∃ u us, vs = u :: us ∧ RepA b fs u x ∧ RepAs b fs us xs := by
  cases vs with
  | nil => exact h.elim
  | cons u us => exact ⟨u, us, rfl, h.1, h.2⟩
theorem RepAs.one {b : PM} {fs : List Foot} {vs : List Value} {x : AV} (h : RepAs b fs vs [x]) : ∃ u, vs = [u] ∧ RepA b fs u x := by
  obtain ⟨u, _, rfl, r, h⟩ := h.consI
  exact ⟨u, h.nilI ▸ rfl, r⟩
theorem RepAs.two {b : PM} {fs : List Foot} {vs : List Value} {x y : AV} (h : RepAs b fs vs [x, y]) : ∃ u v, vs = [u, v] ∧ RepA b fs u x ∧ RepA b fs v y := by
  obtain ⟨u, _, rfl, r, h⟩ := h.consI
  obtain ⟨v, rfl, r'⟩ := h.one
  exact ⟨u, v, rfl, r, r'⟩
theorem RepAs.three {b : PM} {fs : List Foot} {vs : List Value} {x y z : AV} (h : RepAs b fs vs [x, y, z]) : ∃ u v t, vs = [u, v, t] ∧ RepA b fs u x ∧ RepA b fs v y ∧ RepA b fs t z := by
  obtain ⟨u, _, rfl, r, h⟩ := h.consI
  obtain ⟨v, t, rfl, r'⟩ := h.two
  exact ⟨u, v, t, rfl, r, r'⟩
theorem len1 {vs : List Value} (h : vs.length = 1) : ∃ a, vs = [a] := List.length_eq_one_iff.mp h
theorem len2 {vs : List Value} (h : vs.length = 2) : ∃ a b, vs = [a, b] := by
  cases vs with
  | nil => cases h
  | cons a t =>
    obtain ⟨b, rfl⟩ := len1 (Nat.succ.inj h)
    exact ⟨a, b, rfl⟩
theorem len3 {vs : List Value} (h : vs.length = 3) : ∃ a b c, vs = [a, b, c] := by
  cases vs with
  | nil => cases h
  | cons a t =>
    obtain ⟨b, c, rfl⟩ := len2 (Nat.succ.inj h)
    exact ⟨a, b, c, rfl⟩
theorem RepAs.mono {b b' : PM} {fs fs' : List Foot} (s : Sub b b') (k : Keep fs.length fs fs') : ∀ {vs : List Value} {rs : List AV}, RepAs b fs vs rs → RepAs b' fs' vs rs
  | [], [], _ => trivial
  | _ :: _, _ :: _, h => ⟨h.1.mono s k, RepAs.mono s k h.2⟩
  | [], _ :: _, h => h.elim
  | _ :: _, [], h => h.elim

section
variable (K : Frag) (w : World)
/-- an operation on values: what it gives, frameless -/
noncomputable def OpG {α : Type} (k : Nat) (C : List Cell) (T : List Value → Sem α) (args : List AV) (R : PM → List Foot → α → Prop) (C' : List Cell) : Prop :=
  ∀ (A : Around) (s : Shared) (b : PM) (kp : Kp) (fs : List Foot) (vs : List Value) (Q : α → Shared → Prop) (E : Value → Shared → Prop),
    Room k (okK kp) A → St K b kp fs C s.heap → RepAs b fs vs args →
    (∀ b' fs' h' tk v, Sub b b' → Keep fs.length fs fs' → St K b' kp fs' C' h' → R b' fs' v → Q v { s with heap := h', toks := tk }) →
    wpAny (model prg w) A (T vs) Q E s
noncomputable def Op (k : Nat) (C : List Cell) (T : List Value → Sem Value) (args : List AV) (r : AV) (C' : List Cell) : Prop := OpG K w k C T args (fun b fs v => RepA b fs v r) C'
noncomputable def OpB (k : Nat) (C : List Cell) (T : List Value → Sem Bool) (args : List AV) (r : Bool) (C' : List Cell) : Prop := OpG K w k C T args (fun _ _ v => v = r) C'

noncomputable def TreeTo {α : Type} (k : Nat) (env : Env) (Γ : Gam) (C : List Cell) (T : Sem α) (R : PM → List Foot → α → Prop) (Γ' : Gam) (C' : List Cell) : Prop :=
  ∀ (A : Around) (s : Shared) (b : PM) (kp : Kp) (fs : List Foot) (Q : α → Shared → Prop) (E : Value → Shared → Prop),
    Room k (okL kp env.locals) A → St K b kp fs C s.heap → Frm b kp fs env Γ s.heap →
    (∀ b' fs' h' tk v, Sub b b' → Keep fs.length fs fs' → St K b' kp fs' C' h' → Frm b' kp fs' env Γ' h' → R b' fs' v → Q v { s with heap := h', toks := tk }) →
    wpAny (model prg w) A T Q E s
noncomputable def EvalTo (k : Nat) (env : Env) (Γ : Gam) (C : List Cell) (e : Expr) (r : AV) (C' : List Cell) : Prop := TreeTo K w k env Γ C (eval e env) (fun b fs v => RepA b fs v r) Γ C'
noncomputable def TestTo (k : Nat) (env : Env) (Γ : Gam) (C : List Cell) (e : Expr) (r : Bool) (C' : List Cell) : Prop := TreeTo K w k env Γ C (isTrue e env (eval e env)) (fun _ _ v => v = r) Γ C'
end

section
variable {K : Frag} {w : World} {k : Nat} {env : Env} {Γ : Gam} {C C' : List Cell}
/-- an operation in a frame -/
theorem OpG.tree {α : Type} {T : List Value → Sem α} {args : List AV} {R : PM → List Foot → α → Prop} (h : OpG K w k C T args R C')
    {A : Around} {s : Shared} {b : PM} {kp : Kp} {fs : List Foot} {vs : List Value} {Q : α → Shared → Prop} {E : Value → Shared → Prop}
    (hR : Room k (okL kp env.locals) A) (S : St K b kp fs C s.heap) (F : Frm b kp fs env Γ s.heap) (hv : RepAs b fs vs args)
    (q : ∀ b' fs' h' tk v, Sub b b' → Keep fs.length fs fs' → St K b' kp fs' C' h' → Frm b' kp fs' env Γ h' → R b' fs' v → Q v { s with heap := h', toks := tk }) :
    wpAny (model prg w) A (T vs) Q E s := by
  obtain ⟨m, hn, hm⟩ := F.ns
  obtain ⟨o, es, ep, ho, hd, hs, hf⟩ := id hn
  obtain ⟨f1, f2, f3⟩ := F.off
  have S' : St K b ((env.locals, fun x => x.data = o.data) :: kp) fs C s.heap := ⟨S.base, S.top, fun p hp => by
    rcases List.mem_cons.mp hp with rfl | hp
    · exact ⟨⟨o, ho, rfl⟩, f1⟩
    · exact S.kept p hp, fun p hp => ⟨(S.foot p hp).1, (S.foot p hp).2.1, fun q hq => by
      rcases List.mem_cons.mp hq with rfl | hq
      · exact Ne.symm (f3 p hp)
      · exact (S.foot p hp).2.2 q hq⟩, S.nodup, S.cells⟩
  have hR' : Room k (okK ((env.locals, fun x => x.data = o.data) :: kp)) A := hR.weak fun a ha => by
    rcases ha with rfl | ⟨d, hd, hv⟩
    · exact ⟨_, List.mem_cons_self, fun y hy vs e => by rw [show y.data = o.data from hy, hd] at e; cases e⟩
    · exact ⟨d, List.mem_cons_of_mem _ hd, hv⟩
  refine h A s b _ fs vs Q E hR' S' hv fun b' fs' h' tk v sb kf S₁ r => ?_
  have S₂ : St K b' kp fs' C' h' := ⟨S₁.base, S₁.top, fun p hp => S₁.kept p (List.mem_cons_of_mem _ hp), fun p hp => ⟨(S₁.foot p hp).1, (S₁.foot p hp).2.1, fun q hq => (S₁.foot p hp).2.2 q (List.mem_cons_of_mem _ hq)⟩, S₁.nodup, S₁.cells⟩
  obtain ⟨⟨o', ho', hd'⟩, hb'⟩ := S₁.kept (env.locals, fun x => x.data = o.data) List.mem_cons_self
  have F₂ : Frm b' kp fs' env Γ h' := ⟨F.fn, F.gl, F.bu, ⟨hb', f2, fun p hp => Ne.symm ((S₁.foot p hp).2.2 _ List.mem_cons_self)⟩, m, ⟨o', es, ep, ho', (show o'.data = o.data from hd').trans hd, hs, hf⟩, fun x r hx => (hm x r hx).mono sb kf⟩
  exact q b' fs' h' tk v sb kf S₂ F₂ r
end

end
/-! MK -/
section
/-! where the text's defs stand, and what stands of the heap behind the text's top (printed by S_print) -/
noncomputable def topAt (i : Nat) : Stmt := prg.main.body.getD i (.Pass ⟨0, 0, 0, 0⟩)
noncomputable def stBody : Stmt → List Stmt
  | .FunctionDef _ _ b _ _ _ _ _ _ _ => b
  | .ClassDef _ _ _ b _ _ _ _ _ _ _ => b
  | _ => []
noncomputable def clsAt (i j : Nat) : Stmt := (stBody (topAt i)).getD j (.Pass ⟨0, 0, 0, 0⟩)
noncomputable def stArgs : Stmt → Arguments
  | .FunctionDef _ a _ _ _ _ _ _ _ _ => a
  | _ => ⟨[], [], none, [], [], none, []⟩
noncomputable def stScope : Stmt → Scope
  | .FunctionDef _ _ _ _ _ _ c _ _ _ => c
  | _ => { kind := .function, names := [], isGenerator := false, isCoroutine := false, more := [] }
noncomputable def k0 (P : Params) : Obj := { cls := (.type "dict"), dict := none, data := .dict #[⟨PyData.keyHash P (Str.ofString "__name__"), (.str (Str.ofString "__name__") 1), (.str (Str.ofString "builtins") 160)⟩, ⟨PyData.keyHash P (Str.ofString "__doc__"), (.str (Str.ofString "__doc__") 2), (.builtin "builtins.__doc__:str#opaque")⟩, ⟨PyData.keyHash P (Str.ofString "__package__"), (.str (Str.ofString "__package__") 3), (.builtin "builtins.__package__:str#opaque")⟩, ⟨PyData.keyHash P (Str.ofString "__loader__"), (.str (Str.ofString "__loader__") 4), (.builtin "builtins.__loader__:shared#opaque")⟩, ⟨PyData.keyHash P (Str.ofString "__spec__"), (.str (Str.ofString "__spec__") 5), (.builtin "builtins.__spec__#opaque")⟩, ⟨PyData.keyHash P (Str.ofString "__build_class__"), (.str (Str.ofString "__build_class__") 6), (.builtin "__build_class__")⟩, ⟨PyData.keyHash P (Str.ofString "__import__"), (.str (Str.ofString "__import__") 7), (.builtin "__import__")⟩, ⟨PyData.keyHash P (Str.ofString "abs"), (.str (Str.ofString "abs") 8), (.builtin "abs")⟩, ⟨PyData.keyHash P (Str.ofString "all"), (.str (Str.ofString "all") 9), (.builtin "all")⟩, ⟨PyData.keyHash P (Str.ofString "any"), (.str (Str.ofString "any") 10), (.builtin "any")⟩, ⟨PyData.keyHash P (Str.ofString "ascii"), (.str (Str.ofString "ascii") 11), (.builtin "ascii")⟩, ⟨PyData.keyHash P (Str.ofString "bin"), (.str (Str.ofString "bin") 12), (.builtin "bin")⟩, ⟨PyData.keyHash P (Str.ofString "breakpoint"), (.str (Str.ofString "breakpoint") 13), (.builtin "breakpoint")⟩, ⟨PyData.keyHash P (Str.ofString "callable"), (.str (Str.ofString "callable") 14), (.builtin "callable")⟩, ⟨PyData.keyHash P (Str.ofString "chr"), (.str (Str.ofString "chr") 15), (.builtin "chr")⟩, ⟨PyData.keyHash P (Str.ofString "compile"), (.str (Str.ofString "compile") 16), (.builtin "compile")⟩, ⟨PyData.keyHash P (Str.ofString "delattr"), (.str (Str.ofString "delattr") 17), (.builtin "delattr")⟩, ⟨PyData.keyHash P (Str.ofString "dir"), (.str (Str.ofString "dir") 18), (.builtin "dir")⟩, ⟨PyData.keyHash P (Str.ofString "divmod"), (.str (Str.ofString "divmod") 19), (.builtin "divmod")⟩, ⟨PyData.keyHash P (Str.ofString "eval"), (.str (Str.ofString "eval") 20), (.builtin "eval")⟩, ⟨PyData.keyHash P (Str.ofString "exec"), (.str (Str.ofString "exec") 21), (.builtin "exec")⟩, ⟨PyData.keyHash P (Str.ofString "format"), (.str (Str.ofString "format") 22), (.builtin "format")⟩, ⟨PyData.keyHash P (Str.ofString "getattr"), (.str (Str.ofString "getattr") 23), (.builtin "getattr")⟩, ⟨PyData.keyHash P (Str.ofString "globals"), (.str (Str.ofString "globals") 24), (.builtin "globals")⟩, ⟨PyData.keyHash P (Str.ofString "hasattr"), (.str (Str.ofString "hasattr") 25), (.builtin "hasattr")⟩, ⟨PyData.keyHash P (Str.ofString "hash"), (.str (Str.ofString "hash") 26), (.builtin "hash")⟩, ⟨PyData.keyHash P (Str.ofString "hex"), (.str (Str.ofString "hex") 27), (.builtin "hex")⟩, ⟨PyData.keyHash P (Str.ofString "id"), (.str (Str.ofString "id") 28), (.builtin "id")⟩, ⟨PyData.keyHash P (Str.ofString "input"), (.str (Str.ofString "input") 29), (.builtin "input")⟩, ⟨PyData.keyHash P (Str.ofString "isinstance"), (.str (Str.ofString "isinstance") 30), (.builtin "isinstance")⟩, ⟨PyData.keyHash P (Str.ofString "issubclass"), (.str (Str.ofString "issubclass") 31), (.builtin "issubclass")⟩, ⟨PyData.keyHash P (Str.ofString "iter"), (.str (Str.ofString "iter") 32), (.builtin "iter")⟩, ⟨PyData.keyHash P (Str.ofString "aiter"), (.str (Str.ofString "aiter") 33), (.builtin "aiter")⟩, ⟨PyData.keyHash P (Str.ofString "len"), (.str (Str.ofString "len") 34), (.builtin "len")⟩, ⟨PyData.keyHash P (Str.ofString "locals"), (.str (Str.ofString "locals") 35), (.builtin "locals")⟩, ⟨PyData.keyHash P (Str.ofString "max"), (.str (Str.ofString "max") 36), (.builtin "max")⟩, ⟨PyData.keyHash P (Str.ofString "min"), (.str (Str.ofString "min") 37), (.builtin "min")⟩, ⟨PyData.keyHash P (Str.ofString "next"), (.str (Str.ofString "next") 38), (.builtin "next")⟩, ⟨PyData.keyHash P (Str.ofString "anext"), (.str (Str.ofString "anext") 39), (.builtin "anext")⟩, ⟨PyData.keyHash P (Str.ofString "oct"), (.str (Str.ofString "oct") 40), (.builtin "oct")⟩, ⟨PyData.keyHash P (Str.ofString "ord"), (.str (Str.ofString "ord") 41), (.builtin "ord")⟩, ⟨PyData.keyHash P (Str.ofString "pow"), (.str (Str.ofString "pow") 42), (.builtin "pow")⟩, ⟨PyData.keyHash P (Str.ofString "print"), (.str (Str.ofString "print") 43), (.builtin "print")⟩, ⟨PyData.keyHash P (Str.ofString "repr"), (.str (Str.ofString "repr") 44), (.builtin "repr")⟩, ⟨PyData.keyHash P (Str.ofString "round"), (.str (Str.ofString "round") 45), (.builtin "round")⟩, ⟨PyData.keyHash P (Str.ofString "setattr"), (.str (Str.ofString "setattr") 46), (.builtin "setattr")⟩, ⟨PyData.keyHash P (Str.ofString "sorted"), (.str (Str.ofString "sorted") 47), (.builtin "sorted")⟩, ⟨PyData.keyHash P (Str.ofString "sum"), (.str (Str.ofString "sum") 48), (.builtin "sum")⟩, ⟨PyData.keyHash P (Str.ofString "vars"), (.str (Str.ofString "vars") 49), (.builtin "vars")⟩, ⟨PyData.keyHash P (Str.ofString "None"), (.str (Str.ofString "None") 50), .none⟩, ⟨PyData.keyHash P (Str.ofString "Ellipsis"), (.str (Str.ofString "Ellipsis") 51), .ellipsis⟩, ⟨PyData.keyHash P (Str.ofString "NotImplemented"), (.str (Str.ofString "NotImplemented") 52), .notImplemented⟩, ⟨PyData.keyHash P (Str.ofString "False"), (.str (Str.ofString "False") 53), (.bool false)⟩, ⟨PyData.keyHash P (Str.ofString "True"), (.str (Str.ofString "True") 54), (.bool true)⟩, ⟨PyData.keyHash P (Str.ofString "bool"), (.str (Str.ofString "bool") 55), (.type "bool")⟩, ⟨PyData.keyHash P (Str.ofString "memoryview"), (.str (Str.ofString "memoryview") 56), (.type "memoryview")⟩, ⟨PyData.keyHash P (Str.ofString "bytearray"), (.str (Str.ofString "bytearray") 57), (.type "bytearray")⟩, ⟨PyData.keyHash P (Str.ofString "bytes"), (.str (Str.ofString "bytes") 58), (.type "bytes")⟩, ⟨PyData.keyHash P (Str.ofString "classmethod"), (.str (Str.ofString "classmethod") 59), (.type "classmethod")⟩, ⟨PyData.keyHash P (Str.ofString "complex"), (.str (Str.ofString "complex") 60), (.type "complex")⟩, ⟨PyData.keyHash P (Str.ofString "dict"), (.str (Str.ofString "dict") 61), (.type "dict")⟩, ⟨PyData.keyHash P (Str.ofString "enumerate"), (.str (Str.ofString "enumerate") 62), (.type "enumerate")⟩, ⟨PyData.keyHash P (Str.ofString "filter"), (.str (Str.ofString "filter") 63), (.type "filter")⟩, ⟨PyData.keyHash P (Str.ofString "float"), (.str (Str.ofString "float") 64), (.type "float")⟩, ⟨PyData.keyHash P (Str.ofString "frozenset"), (.str (Str.ofString "frozenset") 65), (.type "frozenset")⟩, ⟨PyData.keyHash P (Str.ofString "property"), (.str (Str.ofString "property") 66), (.type "property")⟩, ⟨PyData.keyHash P (Str.ofString "int"), (.str (Str.ofString "int") 67), (.type "int")⟩, ⟨PyData.keyHash P (Str.ofString "list"), (.str (Str.ofString "list") 68), (.type "list")⟩, ⟨PyData.keyHash P (Str.ofString "map"), (.str (Str.ofString "map") 69), (.type "map")⟩, ⟨PyData.keyHash P (Str.ofString "object"), (.str (Str.ofString "object") 70), (.type "object")⟩, ⟨PyData.keyHash P (Str.ofString "range"), (.str (Str.ofString "range") 71), (.type "range")⟩, ⟨PyData.keyHash P (Str.ofString "reversed"), (.str (Str.ofString "reversed") 72), (.type "reversed")⟩, ⟨PyData.keyHash P (Str.ofString "set"), (.str (Str.ofString "set") 73), (.type "set")⟩, ⟨PyData.keyHash P (Str.ofString "slice"), (.str (Str.ofString "slice") 74), (.type "slice")⟩, ⟨PyData.keyHash P (Str.ofString "staticmethod"), (.str (Str.ofString "staticmethod") 75), (.type "staticmethod")⟩, ⟨PyData.keyHash P (Str.ofString "str"), (.str (Str.ofString "str") 76), (.type "str")⟩, ⟨PyData.keyHash P (Str.ofString "super"), (.str (Str.ofString "super") 77), (.type "super")⟩, ⟨PyData.keyHash P (Str.ofString "tuple"), (.str (Str.ofString "tuple") 78), (.type "tuple")⟩, ⟨PyData.keyHash P (Str.ofString "type"), (.str (Str.ofString "type") 79), (.type "type")⟩, ⟨PyData.keyHash P (Str.ofString "zip"), (.str (Str.ofString "zip") 80), (.type "zip")⟩, ⟨PyData.keyHash P (Str.ofString "__debug__"), (.str (Str.ofString "__debug__") 81), (.bool true)⟩, ⟨PyData.keyHash P (Str.ofString "BaseException"), (.str (Str.ofString "BaseException") 82), (.type "BaseException")⟩, ⟨PyData.keyHash P (Str.ofString "BaseExceptionGroup"), (.str (Str.ofString "BaseExceptionGroup") 83), (.type "BaseExceptionGroup")⟩, ⟨PyData.keyHash P (Str.ofString "Exception"), (.str (Str.ofString "Exception") 84), (.type "Exception")⟩, ⟨PyData.keyHash P (Str.ofString "GeneratorExit"), (.str (Str.ofString "GeneratorExit") 85), (.type "GeneratorExit")⟩, ⟨PyData.keyHash P (Str.ofString "KeyboardInterrupt"), (.str (Str.ofString "KeyboardInterrupt") 86), (.type "KeyboardInterrupt")⟩, ⟨PyData.keyHash P (Str.ofString "SystemExit"), (.str (Str.ofString "SystemExit") 87), (.type "SystemExit")⟩, ⟨PyData.keyHash P (Str.ofString "ArithmeticError"), (.str (Str.ofString "ArithmeticError") 88), (.type "ArithmeticError")⟩, ⟨PyData.keyHash P (Str.ofString "AssertionError"), (.str (Str.ofString "AssertionError") 89), (.type "AssertionError")⟩, ⟨PyData.keyHash P (Str.ofString "AttributeError"), (.str (Str.ofString "AttributeError") 90), (.type "AttributeError")⟩, ⟨PyData.keyHash P (Str.ofString "BufferError"), (.str (Str.ofString "BufferError") 91), (.type "BufferError")⟩, ⟨PyData.keyHash P (Str.ofString "EOFError"), (.str (Str.ofString "EOFError") 92), (.type "EOFError")⟩, ⟨PyData.keyHash P (Str.ofString "ImportError"), (.str (Str.ofString "ImportError") 93), (.type "ImportError")⟩, ⟨PyData.keyHash P (Str.ofString "LookupError"), (.str (Str.ofString "LookupError") 94), (.type "LookupError")⟩, ⟨PyData.keyHash P (Str.ofString "MemoryError"), (.str (Str.ofString "MemoryError") 95), (.type "MemoryError")⟩, ⟨PyData.keyHash P (Str.ofString "NameError"), (.str (Str.ofString "NameError") 96), (.type "NameError")⟩, ⟨PyData.keyHash P (Str.ofString "OSError"), (.str (Str.ofString "OSError") 97), (.type "OSError")⟩, ⟨PyData.keyHash P (Str.ofString "ReferenceError"), (.str (Str.ofString "ReferenceError") 98), (.type "ReferenceError")⟩, ⟨PyData.keyHash P (Str.ofString "RuntimeError"), (.str (Str.ofString "RuntimeError") 99), (.type "RuntimeError")⟩, ⟨PyData.keyHash P (Str.ofString "StopAsyncIteration"), (.str (Str.ofString "StopAsyncIteration") 100), (.type "StopAsyncIteration")⟩, ⟨PyData.keyHash P (Str.ofString "StopIteration"), (.str (Str.ofString "StopIteration") 101), (.type "StopIteration")⟩, ⟨PyData.keyHash P (Str.ofString "SyntaxError"), (.str (Str.ofString "SyntaxError") 102), (.type "SyntaxError")⟩, ⟨PyData.keyHash P (Str.ofString "SystemError"), (.str (Str.ofString "SystemError") 103), (.type "SystemError")⟩, ⟨PyData.keyHash P (Str.ofString "TypeError"), (.str (Str.ofString "TypeError") 104), (.type "TypeError")⟩, ⟨PyData.keyHash P (Str.ofString "ValueError"), (.str (Str.ofString "ValueError") 105), (.type "ValueError")⟩, ⟨PyData.keyHash P (Str.ofString "Warning"), (.str (Str.ofString "Warning") 106), (.type "Warning")⟩, ⟨PyData.keyHash P (Str.ofString "FloatingPointError"), (.str (Str.ofString "FloatingPointError") 107), (.type "FloatingPointError")⟩, ⟨PyData.keyHash P (Str.ofString "OverflowError"), (.str (Str.ofString "OverflowError") 108), (.type "OverflowError")⟩, ⟨PyData.keyHash P (Str.ofString "ZeroDivisionError"), (.str (Str.ofString "ZeroDivisionError") 109), (.type "ZeroDivisionError")⟩, ⟨PyData.keyHash P (Str.ofString "BytesWarning"), (.str (Str.ofString "BytesWarning") 110), (.type "BytesWarning")⟩, ⟨PyData.keyHash P (Str.ofString "DeprecationWarning"), (.str (Str.ofString "DeprecationWarning") 111), (.type "DeprecationWarning")⟩, ⟨PyData.keyHash P (Str.ofString "EncodingWarning"), (.str (Str.ofString "EncodingWarning") 112), (.type "EncodingWarning")⟩, ⟨PyData.keyHash P (Str.ofString "FutureWarning"), (.str (Str.ofString "FutureWarning") 113), (.type "FutureWarning")⟩, ⟨PyData.keyHash P (Str.ofString "ImportWarning"), (.str (Str.ofString "ImportWarning") 114), (.type "ImportWarning")⟩, ⟨PyData.keyHash P (Str.ofString "PendingDeprecationWarning"), (.str (Str.ofString "PendingDeprecationWarning") 115), (.type "PendingDeprecationWarning")⟩, ⟨PyData.keyHash P (Str.ofString "ResourceWarning"), (.str (Str.ofString "ResourceWarning") 116), (.type "ResourceWarning")⟩, ⟨PyData.keyHash P (Str.ofString "RuntimeWarning"), (.str (Str.ofString "RuntimeWarning") 117), (.type "RuntimeWarning")⟩, ⟨PyData.keyHash P (Str.ofString "SyntaxWarning"), (.str (Str.ofString "SyntaxWarning") 118), (.type "SyntaxWarning")⟩, ⟨PyData.keyHash P (Str.ofString "UnicodeWarning"), (.str (Str.ofString "UnicodeWarning") 119), (.type "UnicodeWarning")⟩, ⟨PyData.keyHash P (Str.ofString "UserWarning"), (.str (Str.ofString "UserWarning") 120), (.type "UserWarning")⟩, ⟨PyData.keyHash P (Str.ofString "BlockingIOError"), (.str (Str.ofString "BlockingIOError") 121), (.type "BlockingIOError")⟩, ⟨PyData.keyHash P (Str.ofString "ChildProcessError"), (.str (Str.ofString "ChildProcessError") 122), (.type "ChildProcessError")⟩, ⟨PyData.keyHash P (Str.ofString "ConnectionError"), (.str (Str.ofString "ConnectionError") 123), (.type "ConnectionError")⟩, ⟨PyData.keyHash P (Str.ofString "FileExistsError"), (.str (Str.ofString "FileExistsError") 124), (.type "FileExistsError")⟩, ⟨PyData.keyHash P (Str.ofString "FileNotFoundError"), (.str (Str.ofString "FileNotFoundError") 125), (.type "FileNotFoundError")⟩, ⟨PyData.keyHash P (Str.ofString "InterruptedError"), (.str (Str.ofString "InterruptedError") 126), (.type "InterruptedError")⟩, ⟨PyData.keyHash P (Str.ofString "IsADirectoryError"), (.str (Str.ofString "IsADirectoryError") 127), (.type "IsADirectoryError")⟩, ⟨PyData.keyHash P (Str.ofString "NotADirectoryError"), (.str (Str.ofString "NotADirectoryError") 128), (.type "NotADirectoryError")⟩, ⟨PyData.keyHash P (Str.ofString "PermissionError"), (.str (Str.ofString "PermissionError") 129), (.type "PermissionError")⟩, ⟨PyData.keyHash P (Str.ofString "ProcessLookupError"), (.str (Str.ofString "ProcessLookupError") 130), (.type "ProcessLookupError")⟩, ⟨PyData.keyHash P (Str.ofString "TimeoutError"), (.str (Str.ofString "TimeoutError") 131), (.type "TimeoutError")⟩, ⟨PyData.keyHash P (Str.ofString "IndentationError"), (.str (Str.ofString "IndentationError") 132), (.type "IndentationError")⟩, ⟨PyData.keyHash P (Str.ofString "_IncompleteInputError"), (.str (Str.ofString "_IncompleteInputError") 133), (.type "_IncompleteInputError")⟩, ⟨PyData.keyHash P (Str.ofString "IndexError"), (.str (Str.ofString "IndexError") 134), (.type "IndexError")⟩, ⟨PyData.keyHash P (Str.ofString "KeyError"), (.str (Str.ofString "KeyError") 135), (.type "KeyError")⟩, ⟨PyData.keyHash P (Str.ofString "ModuleNotFoundError"), (.str (Str.ofString "ModuleNotFoundError") 136), (.type "ModuleNotFoundError")⟩, ⟨PyData.keyHash P (Str.ofString "NotImplementedError"), (.str (Str.ofString "NotImplementedError") 137), (.type "NotImplementedError")⟩, ⟨PyData.keyHash P (Str.ofString "PythonFinalizationError"), (.str (Str.ofString "PythonFinalizationError") 138), (.type "PythonFinalizationError")⟩, ⟨PyData.keyHash P (Str.ofString "RecursionError"), (.str (Str.ofString "RecursionError") 139), (.type "RecursionError")⟩, ⟨PyData.keyHash P (Str.ofString "UnboundLocalError"), (.str (Str.ofString "UnboundLocalError") 140), (.type "UnboundLocalError")⟩, ⟨PyData.keyHash P (Str.ofString "UnicodeError"), (.str (Str.ofString "UnicodeError") 141), (.type "UnicodeError")⟩, ⟨PyData.keyHash P (Str.ofString "BrokenPipeError"), (.str (Str.ofString "BrokenPipeError") 142), (.type "BrokenPipeError")⟩, ⟨PyData.keyHash P (Str.ofString "ConnectionAbortedError"), (.str (Str.ofString "ConnectionAbortedError") 143), (.type "ConnectionAbortedError")⟩, ⟨PyData.keyHash P (Str.ofString "ConnectionRefusedError"), (.str (Str.ofString "ConnectionRefusedError") 144), (.type "ConnectionRefusedError")⟩, ⟨PyData.keyHash P (Str.ofString "ConnectionResetError"), (.str (Str.ofString "ConnectionResetError") 145), (.type "ConnectionResetError")⟩, ⟨PyData.keyHash P (Str.ofString "TabError"), (.str (Str.ofString "TabError") 146), (.type "TabError")⟩, ⟨PyData.keyHash P (Str.ofString "UnicodeDecodeError"), (.str (Str.ofString "UnicodeDecodeError") 147), (.type "UnicodeDecodeError")⟩, ⟨PyData.keyHash P (Str.ofString "UnicodeEncodeError"), (.str (Str.ofString "UnicodeEncodeError") 148), (.type "UnicodeEncodeError")⟩, ⟨PyData.keyHash P (Str.ofString "UnicodeTranslateError"), (.str (Str.ofString "UnicodeTranslateError") 149), (.type "UnicodeTranslateError")⟩, ⟨PyData.keyHash P (Str.ofString "ExceptionGroup"), (.str (Str.ofString "ExceptionGroup") 150), (.type "ExceptionGroup")⟩, ⟨PyData.keyHash P (Str.ofString "EnvironmentError"), (.str (Str.ofString "EnvironmentError") 151), (.type "OSError")⟩, ⟨PyData.keyHash P (Str.ofString "IOError"), (.str (Str.ofString "IOError") 152), (.type "OSError")⟩, ⟨PyData.keyHash P (Str.ofString "open"), (.str (Str.ofString "open") 153), (.builtin "open")⟩, ⟨PyData.keyHash P (Str.ofString "quit"), (.str (Str.ofString "quit") 154), (.builtin "builtins.quit#opaque")⟩, ⟨PyData.keyHash P (Str.ofString "exit"), (.str (Str.ofString "exit") 155), (.builtin "builtins.exit#opaque")⟩, ⟨PyData.keyHash P (Str.ofString "copyright"), (.str (Str.ofString "copyright") 156), (.builtin "builtins.copyright#opaque")⟩, ⟨PyData.keyHash P (Str.ofString "credits"), (.str (Str.ofString "credits") 157), (.builtin "builtins.credits#opaque")⟩, ⟨PyData.keyHash P (Str.ofString "license"), (.str (Str.ofString "license") 158), (.builtin "builtins.license#opaque")⟩, ⟨PyData.keyHash P (Str.ofString "help"), (.str (Str.ofString "help") 159), (.builtin "builtins.help#opaque")⟩] 159, slots := #[] }
noncomputable def k2 (P : Params) : Obj := { cls := .none, dict := none, data := .dict #[⟨PyData.keyHash P (Str.mk #[105, 109, 112, 111, 114, 116, 46, 108, 111, 97, 100, 101, 100, 46, 95, 115, 114, 101]), (.str (Str.mk #[105, 109, 112, 111, 114, 116, 46, 108, 111, 97, 100, 101, 100, 46, 95, 115, 114, 101]) 183), (.bool true)⟩, ⟨PyData.keyHash P (Str.ofString "class._frozen_importlib.BuiltinImporter"), (.str (Str.ofString "class._frozen_importlib.BuiltinImporter") 185), (.ref 14)⟩, ⟨PyData.keyHash P (Str.mk #[119, 97, 116, 99, 104, 101, 100, 46, 105, 109, 112, 111, 114, 116]), (.str (Str.mk #[119, 97, 116, 99, 104, 101, 100, 46, 105, 109, 112, 111, 114, 116]) 206), (.ref 18)⟩, ⟨PyData.keyHash P (Str.ofString "class._frozen_importlib.ModuleSpec"), (.str (Str.ofString "class._frozen_importlib.ModuleSpec") 216), (.ref 22)⟩, ⟨PyData.keyHash P (Str.ofString "sys.modules.booked-epoch"), (.str (Str.ofString "sys.modules.booked-epoch") 245), (.int 3 0)⟩, ⟨PyData.keyHash P (Str.mk #[105, 109, 112, 111, 114, 116, 46, 108, 97, 116, 101, 114, 45, 108, 97, 105, 100, 46, 95, 115, 114, 101]), (.str (Str.mk #[105, 109, 112, 111, 114, 116, 46, 108, 97, 116, 101, 114, 45, 108, 97, 105, 100, 46, 95, 115, 114, 101]) 270), (.bool true)⟩, ⟨PyData.keyHash P (Str.ofString "watched.library"), (.str (Str.ofString "watched.library") 272), (.ref 27)⟩, ⟨PyData.keyHash P (Str.ofString "watched.library-objects"), (.str (Str.ofString "watched.library-objects") 0), (.str (Str.mk #[12]) 0)⟩, ⟨PyData.keyHash P (Str.ofString "watched.library-deep._sre"), (.str (Str.ofString "watched.library-deep._sre") 273), (.str (Str.mk #[4, 0, 0, 11, 4, 0, 0, 11, 4, 0, 0, 3, 4, 0, 0, 11, 8, 4, 100, 105, 99, 116, 2]) 0)⟩] 9, slots := #[] }
noncomputable def k3 (P : Params) : Obj := { cls := (.type "dict"), dict := none, data := .dict #[⟨PyData.keyHash P (Str.ofString "__name__"), (.str (Str.ofString "__name__") 165), (.str (Str.ofString "law_sr0049_01") 669)⟩, ⟨PyData.keyHash P (Str.ofString "__doc__"), (.str (Str.ofString "__doc__") 166), .none⟩, ⟨PyData.keyHash P (Str.ofString "__package__"), (.str (Str.ofString "__package__") 167), .none⟩, ⟨PyData.keyHash P (Str.ofString "__loader__"), (.str (Str.ofString "__loader__") 168), (.builtin "__main__.__loader__#opaque")⟩, ⟨PyData.keyHash P (Str.ofString "__spec__"), (.str (Str.ofString "__spec__") 169), .none⟩, ⟨PyData.keyHash P (Str.ofString "__annotations__"), (.str (Str.ofString "__annotations__") 170), (.ref 6)⟩, ⟨PyData.keyHash P (Str.ofString "__builtins__"), (.str (Str.ofString "__builtins__") 171), (.ref 4)⟩, ⟨PyData.keyHash P (Str.ofString "__file__"), (.str (Str.ofString "__file__") 173), (.str (Str.ofString "/claim/cut.py") 172)⟩, ⟨PyData.keyHash P (Str.ofString "__cached__"), (.str (Str.ofString "__cached__") 174), .none⟩, ⟨PyData.keyHash P (Str.ofString "_sre"), (.str (Str.ofString "_sre") 275), (.ref 12)⟩, ⟨PyData.keyHash P (Str.ofString "_wall"), (.str (Str.ofString "_wall") 288), (.ref 38)⟩, ⟨PyData.keyHash P (Str.ofString "c7_set"), (.str (Str.ofString "c7_set") 318), (.ref 40)⟩, ⟨PyData.keyHash P (Str.ofString "in_table_c7"), (.str (Str.ofString "in_table_c7") 325), (.ref 50)⟩, ⟨PyData.keyHash P (Str.ofString "_parse_varint"), (.str (Str.ofString "_parse_varint") 336), (.ref 57)⟩, ⟨PyData.keyHash P (Str.ofString "_twin_re_1"), (.str (Str.ofString "_twin_re_1") 354), (.ref 62)⟩, ⟨PyData.keyHash P (Str.ofString "_twin_re_2"), (.str (Str.ofString "_twin_re_2") 396), (.ref 67)⟩, ⟨PyData.keyHash P (Str.ofString "CRLF"), (.str (Str.ofString "CRLF") 398), (.str (Str.mk #[13, 10]) 397)⟩, ⟨PyData.keyHash P (Str.ofString "quotedata"), (.str (Str.ofString "quotedata") 405), (.ref 74)⟩, ⟨PyData.keyHash P (Str.ofString "tspecials"), (.str (Str.ofString "tspecials") 441), (.ref 79)⟩, ⟨PyData.keyHash P (Str.ofString "_name_disallowed_re"), (.str (Str.ofString "_name_disallowed_re") 467), (.ref 84)⟩, ⟨PyData.keyHash P (Str.ofString "_value_disallowed_re"), (.str (Str.ofString "_value_disallowed_re") 501), (.ref 89)⟩, ⟨PyData.keyHash P (Str.ofString "_formatparam"), (.str (Str.ofString "_formatparam") 511), (.ref 97)⟩, ⟨PyData.keyHash P (Str.ofString "Headers"), (.str (Str.ofString "Headers") 668), (.ref 218)⟩, ⟨PyData.keyHash P (Str.ofString "_law_grown"), (.str (Str.ofString "_law_grown") 676), (.ref 227)⟩, ⟨PyData.keyHash P (Str.ofString "_law_read"), (.str (Str.ofString "_law_read") 689), (.ref 234)⟩, ⟨PyData.keyHash P (Str.ofString "_law_arms"), (.str (Str.ofString "_law_arms") 704), (.ref 241)⟩, ⟨PyData.keyHash P (Str.ofString "_law_sent"), (.str (Str.ofString "_law_sent") 710), (.ref 246)⟩, ⟨PyData.keyHash P (Str.ofString "_law_least"), (.str (Str.ofString "_law_least") 717), (.ref 253)⟩, ⟨PyData.keyHash P (Str.ofString "_law_again"), (.str (Str.ofString "_law_again") 727), (.ref 260)⟩, ⟨PyData.keyHash P (Str.ofString "_law_rows"), (.str (Str.ofString "_law_rows") 739), (.ref 267)⟩, ⟨PyData.keyHash P (Str.ofString "_law_bounded"), (.str (Str.ofString "_law_bounded") 752), (.ref 274)⟩, ⟨PyData.keyHash P (Str.ofString "law"), (.str (Str.ofString "law") 758), (.ref 279)⟩] 32, slots := #[] }
noncomputable def k40 (P : Params) : Obj := { cls := (.type "set"), dict := none, data := .set #[(12272, (.int 12272 294)), (12273, (.int 12273 296)), (12274, (.int 12274 298)), (12275, (.int 12275 300)), (12276, (.int 12276 302)), (12277, (.int 12277 304)), (12278, (.int 12278 306)), (12279, (.int 12279 308)), (12280, (.int 12280 310)), (12281, (.int 12281 312)), (12282, (.int 12282 314)), (12283, (.int 12283 316))] 13 ⟨31, #[16, 17, 18, 19, 20, 21, 22, 23, 24, 25, 26, 27], #[], 0, !(Params.followText P "set-order"), 1, true⟩, slots := #[] }
noncomputable def k49 (_ : Params) : Obj := { cls := (.type "code"), dict := none, data := .fields #[(.str (Str.ofString "in_table_c7") 319), (.str (Str.ofString "in_table_c7") 320), (.str (Str.ofString "/claim/cut.py") 321), (.int 7 0), (.int 1 0), (.int 0 0), (.int 0 0), (.int 3 0), (.ref 44), (.bool true), (.int 276 0), (.ref 45), .none, (.ref 46), (.ref 47), (.ref 48), (.int 323 0), (.int 7 0), (.str (Str.ofString "/claim/cut.py") 324)], slots := #[] }
noncomputable def k50 (_ : Params) : Obj := { cls := (.type "function"), dict := none, data := .func { name := (Str.ofString "in_table_c7"), qualname := (Str.ofString "in_table_c7"), params := stArgs (topAt 4), body := .stmts (stBody (topAt 4)), scope := stScope (topAt 4), globals := 3, closure := [], defaults := .none, kwdefaults := .none, doc := .none, pyModule := (.str (Str.ofString "cpy313.stringprep") 289), annotations := none, code := (.ref 49), closureTuple := .none, builtins := 0 }, slots := #[] }
noncomputable def k56 (_ : Params) : Obj := { cls := (.type "code"), dict := none, data := .fields #[(.str (Str.ofString "_parse_varint") 328), (.str (Str.ofString "_parse_varint") 329), (.str (Str.ofString "/claim/cut.py") 330), (.int 10 0), (.int 1 0), (.int 0 0), (.int 0 0), (.int 3 0), (.ref 51), (.bool true), (.int 276 0), (.ref 52), .none, (.ref 53), (.ref 54), (.ref 55), (.int 334 0), (.int 10 0), (.str (Str.ofString "/claim/cut.py") 335)], slots := #[] }
noncomputable def k57 (_ : Params) : Obj := { cls := (.type "function"), dict := none, data := .func { name := (Str.ofString "_parse_varint"), qualname := (Str.ofString "_parse_varint"), params := stArgs (topAt 6), body := .stmts (stBody (topAt 6)), scope := stScope (topAt 6), globals := 3, closure := [], defaults := .none, kwdefaults := .none, doc := .none, pyModule := (.str (Str.ofString "cpy313.dis") 326), annotations := none, code := (.ref 56), closureTuple := .none, builtins := 0 }, slots := #[] }
noncomputable def k61 (_ : Params) : Obj := { cls := (.type "tuple"), dict := none, data := .seq #[(.int 14 0), (.int 4 0), (.int 0 0), (.int 1 0), (.int 1 0), (.int 6 0), (.int 1 0), (.int 16 0), (.int 46 0), (.int 1 0)] 0, slots := #[] }
noncomputable def k62 (_ : Params) : Obj := { cls := (.type "re.Pattern"), dict := none, data := .fields #[(.str (Str.mk #[40, 63, 109, 41, 94, 92, 46]) 340), (.int 40 353), (.int 0 0), .none, .none, (.ref 61), (.int 0 0)], slots := #[] }
noncomputable def k66 (_ : Params) : Obj := { cls := (.type "tuple"), dict := none, data := .seq #[(.int 14 0), (.int 9 0), (.int 4 0), (.int 1 0), (.int 2 0), (.int 16 0), (.int 10 0), (.int 16 0), (.int 13 0), (.int 0 0), (.int 7 0), (.int 7 0), (.int 16 0), (.int 13 0), (.int 16 0), (.int 10 0), (.int 15 0), (.int 18 0), (.int 5 0), (.int 16 0), (.int 10 0), (.int 15 0), (.int 13 0), (.int 11 0), (.int 16 0), (.int 13 0), (.int 5 0), (.int 5 0), (.int 0 0), (.int 16 0), (.int 10 0), (.int 1 0), (.int 15 0), (.int 2 0), (.int 0 0), (.int 1 0)] 0, slots := #[] }
noncomputable def k67 (_ : Params) : Obj := { cls := (.type "re.Pattern"), dict := none, data := .fields #[(.str (Str.mk #[40, 63, 58, 92, 114, 92, 110, 124, 92, 110, 124, 92, 114, 40, 63, 33, 92, 110, 41, 41]) 356), (.int 32 395), (.int 0 0), .none, .none, (.ref 66), (.int 0 0)], slots := #[] }
noncomputable def k73 (_ : Params) : Obj := { cls := (.type "code"), dict := none, data := .fields #[(.str (Str.ofString "quotedata") 399), (.str (Str.ofString "quotedata") 400), (.str (Str.ofString "/claim/cut.py") 401), (.int 22 0), (.int 1 0), (.int 0 0), (.int 0 0), (.int 3 0), (.ref 68), (.bool true), (.int 276 0), (.ref 69), .none, (.ref 70), (.ref 71), (.ref 72), (.int 403 0), (.int 22 0), (.str (Str.ofString "/claim/cut.py") 404)], slots := #[] }
noncomputable def k74 (_ : Params) : Obj := { cls := (.type "function"), dict := none, data := .func { name := (Str.ofString "quotedata"), qualname := (Str.ofString "quotedata"), params := stArgs (topAt 11), body := .stmts (stBody (topAt 11)), scope := stScope (topAt 11), globals := 3, closure := [], defaults := .none, kwdefaults := .none, doc := .none, pyModule := (.str (Str.ofString "cpy313.smtplib") 337), annotations := none, code := (.ref 73), closureTuple := .none, builtins := 0 }, slots := #[] }
noncomputable def k83 (_ : Params) : Obj := { cls := (.type "tuple"), dict := none, data := .seq #[(.int 14 0), (.int 10 0), (.int 4 0), (.int 1 0), (.int 1 0), (.int 22 0), (.int 0 0), (.int 31 0), (.int 16 0), (.int 127 0), (.int 0 0), (.int 13 0), (.int 7 0), (.int 22 0), (.int 0 0), (.int 31 0), (.int 16 0), (.int 127 0), (.int 0 0), (.int 1 0)] 0, slots := #[] }
noncomputable def k84 (_ : Params) : Obj := { cls := (.type "re.Pattern"), dict := none, data := .fields #[(.str (Str.mk #[91, 92, 120, 48, 48, 45, 92, 120, 49, 70, 92, 120, 55, 70, 93]) 443), (.int 32 466), (.int 0 0), .none, .none, (.ref 83), (.int 0 0)], slots := #[] }
noncomputable def k88 (_ : Params) : Obj := { cls := (.type "tuple"), dict := none, data := .seq #[(.int 14 0), (.int 14 0), (.int 4 0), (.int 1 0), (.int 1 0), (.int 9 0), (.int 4294966783 0), (.int 0 0), (.int 0 0), (.int 2147483648 0), (.int 0 0), (.int 0 0), (.int 0 0), (.int 0 0), (.int 0 0), (.int 13 0), (.int 11 0), (.int 9 0), (.int 4294966783 0), (.int 0 0), (.int 0 0), (.int 2147483648 0), (.int 0 0), (.int 0 0), (.int 0 0), (.int 0 0), (.int 0 0), (.int 1 0)] 0, slots := #[] }
noncomputable def k89 (_ : Params) : Obj := { cls := (.type "re.Pattern"), dict := none, data := .fields #[(.str (Str.mk #[91, 92, 120, 48, 48, 45, 92, 120, 48, 56, 92, 120, 48, 65, 45, 92, 120, 49, 70, 92, 120, 55, 70, 93]) 469), (.int 32 500), (.int 0 0), .none, .none, (.ref 88), (.int 0 0)], slots := #[] }
noncomputable def k105 (_ : Params) : Obj := { cls := (.type "tuple"), dict := none, data := .seq #[.none] 0, slots := #[] }
noncomputable def k111 (_ : Params) : Obj := { cls := (.type "code"), dict := none, data := .fields #[(.str (Str.ofString "__init__") 524), (.str (Str.ofString "Headers.__init__") 525), (.str (Str.ofString "/claim/cut.py") 526), (.int 39 0), (.int 2 0), (.int 0 0), (.int 0 0), (.int 3 0), (.ref 106), (.bool true), (.int 276 0), (.ref 107), .none, (.ref 108), (.ref 109), (.ref 110), (.int 531 0), (.int 39 0), (.str (Str.ofString "/claim/cut.py") 532)], slots := #[] }
noncomputable def k112 (_ : Params) : Obj := { cls := (.type "function"), dict := none, data := .func { name := (Str.ofString "__init__"), qualname := (Str.ofString "Headers.__init__"), params := stArgs (clsAt 17 0), body := .stmts (stBody (clsAt 17 0)), scope := stScope (clsAt 17 0), globals := 3, closure := [], defaults := (.ref 105), kwdefaults := .none, doc := .none, pyModule := (.str (Str.ofString "cpy313.wsgiref.headers") 406), annotations := none, code := (.ref 111), closureTuple := .none, builtins := 0 }, slots := #[] }
noncomputable def k118 (_ : Params) : Obj := { cls := (.type "code"), dict := none, data := .fields #[(.str (Str.ofString "_convert_string_type") 534), (.str (Str.ofString "Headers._convert_string_type") 535), (.str (Str.ofString "/claim/cut.py") 536), (.int 49 0), (.int 2 0), (.int 0 0), (.int 1 0), (.int 3 0), (.ref 113), (.bool true), (.int 276 0), (.ref 114), .none, (.ref 115), (.ref 116), (.ref 117), (.int 541 0), (.int 49 0), (.str (Str.ofString "/claim/cut.py") 542)], slots := #[] }
noncomputable def k119 (_ : Params) : Obj := { cls := (.type "function"), dict := none, data := .func { name := (Str.ofString "_convert_string_type"), qualname := (Str.ofString "Headers._convert_string_type"), params := stArgs (clsAt 17 1), body := .stmts (stBody (clsAt 17 1)), scope := stScope (clsAt 17 1), globals := 3, closure := [], defaults := .none, kwdefaults := .none, doc := .none, pyModule := (.str (Str.ofString "cpy313.wsgiref.headers") 406), annotations := none, code := (.ref 118), closureTuple := .none, builtins := 0 }, slots := #[] }
noncomputable def k156 (_ : Params) : Obj := { cls := (.type "code"), dict := none, data := .fields #[(.str (Str.ofString "get_all") 582), (.str (Str.ofString "Headers.get_all") 583), (.str (Str.ofString "/claim/cut.py") 584), (.int 74 0), (.int 2 0), (.int 0 0), (.int 0 0), (.int 3 0), (.ref 153), (.bool true), (.int 276 0), (.ref 154), .none, .none, .none, (.ref 155), (.int 585 0), (.int 74 0), (.str (Str.ofString "/claim/cut.py") 586)], slots := #[] }
noncomputable def k157 (_ : Params) : Obj := { cls := (.type "function"), dict := none, data := .func { name := (Str.ofString "get_all"), qualname := (Str.ofString "Headers.get_all"), params := stArgs (clsAt 17 7), body := .stmts (stBody (clsAt 17 7)), scope := stScope (clsAt 17 7), globals := 3, closure := [], defaults := .none, kwdefaults := .none, doc := .none, pyModule := (.str (Str.ofString "cpy313.wsgiref.headers") 406), annotations := none, code := (.ref 156), closureTuple := .none, builtins := 0 }, slots := #[] }
noncomputable def k181 (_ : Params) : Obj := { cls := (.type "code"), dict := none, data := .fields #[(.str (Str.ofString "items") 611), (.str (Str.ofString "Headers.items") 612), (.str (Str.ofString "/claim/cut.py") 613), (.int 91 0), (.int 1 0), (.int 0 0), (.int 0 0), (.int 3 0), (.ref 176), (.bool true), (.int 276 0), (.ref 177), .none, (.ref 178), (.ref 179), (.ref 180), (.int 615 0), (.int 91 0), (.str (Str.ofString "/claim/cut.py") 616)], slots := #[] }
noncomputable def k182 (_ : Params) : Obj := { cls := (.type "function"), dict := none, data := .func { name := (Str.ofString "items"), qualname := (Str.ofString "Headers.items"), params := stArgs (clsAt 17 11), body := .stmts (stBody (clsAt 17 11)), scope := stScope (clsAt 17 11), globals := 3, closure := [], defaults := .none, kwdefaults := .none, doc := .none, pyModule := (.str (Str.ofString "cpy313.wsgiref.headers") 406), annotations := none, code := (.ref 181), closureTuple := .none, builtins := 0 }, slots := #[] }
noncomputable def k193 (_ : Params) : Obj := { cls := (.type "code"), dict := none, data := .fields #[(.str (Str.ofString "__str__") 625), (.str (Str.ofString "Headers.__str__") 626), (.str (Str.ofString "/claim/cut.py") 627), (.int 97 0), (.int 1 0), (.int 0 0), (.int 0 0), (.int 3 0), (.ref 190), (.bool true), (.int 276 0), (.ref 191), .none, .none, .none, (.ref 192), (.int 628 0), (.int 97 0), (.str (Str.ofString "/claim/cut.py") 629)], slots := #[] }
noncomputable def k194 (_ : Params) : Obj := { cls := (.type "function"), dict := none, data := .func { name := (Str.ofString "__str__"), qualname := (Str.ofString "Headers.__str__"), params := stArgs (clsAt 17 13), body := .stmts (stBody (clsAt 17 13)), scope := stScope (clsAt 17 13), globals := 3, closure := [], defaults := .none, kwdefaults := .none, doc := .none, pyModule := (.str (Str.ofString "cpy313.wsgiref.headers") 406), annotations := none, code := (.ref 193), closureTuple := .none, builtins := 0 }, slots := #[] }
noncomputable def k214 (_ : Params) : Obj := { cls := (.type "code"), dict := none, data := .fields #[(.str (Str.ofString "add_header") 647), (.str (Str.ofString "Headers.add_header") 648), (.str (Str.ofString "/claim/cut.py") 649), (.int 106 0), (.int 3 0), (.int 0 0), (.int 0 0), (.int 11 0), (.ref 209), (.bool true), (.int 276 0), (.ref 210), .none, (.ref 211), (.ref 212), (.ref 213), (.int 657 0), (.int 106 0), (.str (Str.ofString "/claim/cut.py") 658)], slots := #[] }
noncomputable def k215 (_ : Params) : Obj := { cls := (.type "function"), dict := none, data := .func { name := (Str.ofString "add_header"), qualname := (Str.ofString "Headers.add_header"), params := stArgs (clsAt 17 16), body := .stmts (stBody (clsAt 17 16)), scope := stScope (clsAt 17 16), globals := 3, closure := [], defaults := .none, kwdefaults := .none, doc := .none, pyModule := (.str (Str.ofString "cpy313.wsgiref.headers") 406), annotations := none, code := (.ref 214), closureTuple := .none, builtins := 0 }, slots := #[] }
noncomputable def k217 (P : Params) : Obj := { cls := (.type "dict"), dict := none, data := .dict #[⟨PyData.keyHash P (Str.ofString "__module__"), (.str (Str.ofString "__module__") 519), (.str (Str.ofString "cpy313.wsgiref.headers") 406)⟩, ⟨PyData.keyHash P (Str.ofString "__firstlineno__"), (.str (Str.ofString "__firstlineno__") 523), (.int 37 522)⟩, ⟨PyData.keyHash P (Str.ofString "__init__"), (.str (Str.ofString "__init__") 533), (.ref 112)⟩, ⟨PyData.keyHash P (Str.ofString "_convert_string_type"), (.str (Str.ofString "_convert_string_type") 543), (.ref 119)⟩, ⟨PyData.keyHash P (Str.ofString "__len__"), (.str (Str.ofString "__len__") 550), (.ref 126)⟩, ⟨PyData.keyHash P (Str.ofString "__setitem__"), (.str (Str.ofString "__setitem__") 559), (.ref 133)⟩, ⟨PyData.keyHash P (Str.ofString "__delitem__"), (.str (Str.ofString "__delitem__") 565), (.ref 138)⟩, ⟨PyData.keyHash P (Str.ofString "__getitem__"), (.str (Str.ofString "__getitem__") 573), (.ref 145)⟩, ⟨PyData.keyHash P (Str.ofString "__contains__"), (.str (Str.ofString "__contains__") 581), (.ref 152)⟩, ⟨PyData.keyHash P (Str.ofString "get_all"), (.str (Str.ofString "get_all") 587), (.ref 157)⟩, ⟨PyData.keyHash P (Str.ofString "get"), (.str (Str.ofString "get") 598), (.ref 165)⟩, ⟨PyData.keyHash P (Str.ofString "keys"), (.str (Str.ofString "keys") 604), (.ref 170)⟩, ⟨PyData.keyHash P (Str.ofString "values"), (.str (Str.ofString "values") 610), (.ref 175)⟩, ⟨PyData.keyHash P (Str.ofString "items"), (.str (Str.ofString "items") 617), (.ref 182)⟩, ⟨PyData.keyHash P (Str.ofString "__repr__"), (.str (Str.ofString "__repr__") 624), (.ref 189)⟩, ⟨PyData.keyHash P (Str.ofString "__str__"), (.str (Str.ofString "__str__") 630), (.ref 194)⟩, ⟨PyData.keyHash P (Str.ofString "__bytes__"), (.str (Str.ofString "__bytes__") 637), (.ref 201)⟩, ⟨PyData.keyHash P (Str.ofString "setdefault"), (.str (Str.ofString "setdefault") 646), (.ref 208)⟩, ⟨PyData.keyHash P (Str.ofString "add_header"), (.str (Str.ofString "add_header") 659), (.ref 215)⟩, ⟨PyData.keyHash P (Str.ofString "__static_attributes__"), (.str (Str.ofString "__static_attributes__") 661), (.ref 216)⟩, ⟨PyData.keyHash P (Str.ofString "__dict__"), (.str (Str.ofString "__dict__") 663), (.ref 219)⟩, ⟨PyData.keyHash P (Str.ofString "__weakref__"), (.str (Str.ofString "__weakref__") 665), (.ref 220)⟩, ⟨PyData.keyHash P (Str.ofString "__doc__"), (.str (Str.ofString "__doc__") 666), .none⟩] 4, slots := #[] }
noncomputable def k218 (_ : Params) : Obj := { cls := (.type "type"), dict := none, data := .cls { name := (Str.ofString "Headers"), bases := [(.type "object")], mro := [(.ref 218), (.type "object")], ns := 217, qualname := (Str.ofString "Headers"), hasDict := true, slotNames := [], subclasses := [], abstract := false, collection := none, hasDel := false }, slots := #[none, none, (some (.str (Str.ofString "Headers") 512)), (some (.str (Str.ofString "Headers") 520)), (some (.builtin "object.__new__")), (some (.bool true))] }
noncomputable def k226 (_ : Params) : Obj := { cls := (.type "code"), dict := none, data := .fields #[(.str (Str.ofString "_law_grown") 671), (.str (Str.ofString "_law_grown") 672), (.str (Str.ofString "/claim/cut.py") 673), (.int 120 0), (.int 1 0), (.int 0 0), (.int 0 0), (.int 3 0), (.ref 223), (.bool true), (.int 276 0), (.ref 224), .none, .none, .none, (.ref 225), (.int 674 0), (.int 120 0), (.str (Str.ofString "/claim/cut.py") 675)], slots := #[] }
noncomputable def k227 (_ : Params) : Obj := { cls := (.type "function"), dict := none, data := .func { name := (Str.ofString "_law_grown"), qualname := (Str.ofString "_law_grown"), params := stArgs (topAt 19), body := .stmts (stBody (topAt 19)), scope := stScope (topAt 19), globals := 3, closure := [], defaults := .none, kwdefaults := .none, doc := .none, pyModule := (.str (Str.ofString "law_sr0049_01") 669), annotations := none, code := (.ref 226), closureTuple := .none, builtins := 0 }, slots := #[] }
noncomputable def k233 (_ : Params) : Obj := { cls := (.type "code"), dict := none, data := .fields #[(.str (Str.ofString "_law_read") 677), (.str (Str.ofString "_law_read") 678), (.str (Str.ofString "/claim/cut.py") 679), (.int 134 0), (.int 1 0), (.int 0 0), (.int 0 0), (.int 3 0), (.ref 228), (.bool true), (.int 276 0), (.ref 229), .none, (.ref 230), (.ref 231), (.ref 232), (.int 687 0), (.int 134 0), (.str (Str.ofString "/claim/cut.py") 688)], slots := #[] }
noncomputable def k234 (_ : Params) : Obj := { cls := (.type "function"), dict := none, data := .func { name := (Str.ofString "_law_read"), qualname := (Str.ofString "_law_read"), params := stArgs (topAt 20), body := .stmts (stBody (topAt 20)), scope := stScope (topAt 20), globals := 3, closure := [], defaults := .none, kwdefaults := .none, doc := .none, pyModule := (.str (Str.ofString "law_sr0049_01") 669), annotations := none, code := (.ref 233), closureTuple := .none, builtins := 0 }, slots := #[] }
noncomputable def k240 (_ : Params) : Obj := { cls := (.type "code"), dict := none, data := .fields #[(.str (Str.ofString "_law_arms") 690), (.str (Str.ofString "_law_arms") 691), (.str (Str.ofString "/claim/cut.py") 692), (.int 150 0), (.int 2 0), (.int 0 0), (.int 0 0), (.int 3 0), (.ref 235), (.bool true), (.int 276 0), (.ref 236), .none, (.ref 237), (.ref 238), (.ref 239), (.int 702 0), (.int 150 0), (.str (Str.ofString "/claim/cut.py") 703)], slots := #[] }
noncomputable def k241 (_ : Params) : Obj := { cls := (.type "function"), dict := none, data := .func { name := (Str.ofString "_law_arms"), qualname := (Str.ofString "_law_arms"), params := stArgs (topAt 21), body := .stmts (stBody (topAt 21)), scope := stScope (topAt 21), globals := 3, closure := [], defaults := .none, kwdefaults := .none, doc := .none, pyModule := (.str (Str.ofString "law_sr0049_01") 669), annotations := none, code := (.ref 240), closureTuple := .none, builtins := 0 }, slots := #[] }
noncomputable def k245 (_ : Params) : Obj := { cls := (.type "code"), dict := none, data := .fields #[(.str (Str.ofString "_law_sent") 705), (.str (Str.ofString "_law_sent") 706), (.str (Str.ofString "/claim/cut.py") 707), (.int 160 0), (.int 2 0), (.int 0 0), (.int 0 0), (.int 3 0), (.ref 242), (.bool true), (.int 276 0), (.ref 243), .none, .none, .none, (.ref 244), (.int 708 0), (.int 160 0), (.str (Str.ofString "/claim/cut.py") 709)], slots := #[] }
noncomputable def k246 (_ : Params) : Obj := { cls := (.type "function"), dict := none, data := .func { name := (Str.ofString "_law_sent"), qualname := (Str.ofString "_law_sent"), params := stArgs (topAt 22), body := .stmts (stBody (topAt 22)), scope := stScope (topAt 22), globals := 3, closure := [], defaults := .none, kwdefaults := .none, doc := .none, pyModule := (.str (Str.ofString "law_sr0049_01") 669), annotations := none, code := (.ref 245), closureTuple := .none, builtins := 0 }, slots := #[] }
noncomputable def k252 (_ : Params) : Obj := { cls := (.type "code"), dict := none, data := .fields #[(.str (Str.ofString "_law_least") 711), (.str (Str.ofString "_law_least") 712), (.str (Str.ofString "/claim/cut.py") 713), (.int 168 0), (.int 1 0), (.int 0 0), (.int 0 0), (.int 3 0), (.ref 247), (.bool true), (.int 276 0), (.ref 248), .none, (.ref 249), (.ref 250), (.ref 251), (.int 715 0), (.int 168 0), (.str (Str.ofString "/claim/cut.py") 716)], slots := #[] }
noncomputable def k253 (_ : Params) : Obj := { cls := (.type "function"), dict := none, data := .func { name := (Str.ofString "_law_least"), qualname := (Str.ofString "_law_least"), params := stArgs (topAt 23), body := .stmts (stBody (topAt 23)), scope := stScope (topAt 23), globals := 3, closure := [], defaults := .none, kwdefaults := .none, doc := .none, pyModule := (.str (Str.ofString "law_sr0049_01") 669), annotations := none, code := (.ref 252), closureTuple := .none, builtins := 0 }, slots := #[] }
noncomputable def k259 (_ : Params) : Obj := { cls := (.type "code"), dict := none, data := .fields #[(.str (Str.ofString "_law_again") 718), (.str (Str.ofString "_law_again") 719), (.str (Str.ofString "/claim/cut.py") 720), (.int 170 0), (.int 3 0), (.int 0 0), (.int 0 0), (.int 3 0), (.ref 254), (.bool true), (.int 276 0), (.ref 255), .none, (.ref 256), (.ref 257), (.ref 258), (.int 725 0), (.int 170 0), (.str (Str.ofString "/claim/cut.py") 726)], slots := #[] }
noncomputable def k260 (_ : Params) : Obj := { cls := (.type "function"), dict := none, data := .func { name := (Str.ofString "_law_again"), qualname := (Str.ofString "_law_again"), params := stArgs (topAt 24), body := .stmts (stBody (topAt 24)), scope := stScope (topAt 24), globals := 3, closure := [], defaults := .none, kwdefaults := .none, doc := .none, pyModule := (.str (Str.ofString "law_sr0049_01") 669), annotations := none, code := (.ref 259), closureTuple := .none, builtins := 0 }, slots := #[] }
noncomputable def k266 (_ : Params) : Obj := { cls := (.type "code"), dict := none, data := .fields #[(.str (Str.ofString "_law_rows") 728), (.str (Str.ofString "_law_rows") 729), (.str (Str.ofString "/claim/cut.py") 730), (.int 177 0), (.int 1 0), (.int 0 0), (.int 0 0), (.int 3 0), (.ref 261), (.bool true), (.int 276 0), (.ref 262), .none, (.ref 263), (.ref 264), (.ref 265), (.int 737 0), (.int 177 0), (.str (Str.ofString "/claim/cut.py") 738)], slots := #[] }
noncomputable def k267 (_ : Params) : Obj := { cls := (.type "function"), dict := none, data := .func { name := (Str.ofString "_law_rows"), qualname := (Str.ofString "_law_rows"), params := stArgs (topAt 25), body := .stmts (stBody (topAt 25)), scope := stScope (topAt 25), globals := 3, closure := [], defaults := .none, kwdefaults := .none, doc := .none, pyModule := (.str (Str.ofString "law_sr0049_01") 669), annotations := none, code := (.ref 266), closureTuple := .none, builtins := 0 }, slots := #[] }
noncomputable def k273 (_ : Params) : Obj := { cls := (.type "code"), dict := none, data := .fields #[(.str (Str.ofString "_law_bounded") 740), (.str (Str.ofString "_law_bounded") 741), (.str (Str.ofString "/claim/cut.py") 742), (.int 188 0), (.int 2 0), (.int 0 0), (.int 0 0), (.int 3 0), (.ref 268), (.bool true), (.int 276 0), (.ref 269), .none, (.ref 270), (.ref 271), (.ref 272), (.int 750 0), (.int 188 0), (.str (Str.ofString "/claim/cut.py") 751)], slots := #[] }
noncomputable def k274 (_ : Params) : Obj := { cls := (.type "function"), dict := none, data := .func { name := (Str.ofString "_law_bounded"), qualname := (Str.ofString "_law_bounded"), params := stArgs (topAt 26), body := .stmts (stBody (topAt 26)), scope := stScope (topAt 26), globals := 3, closure := [], defaults := .none, kwdefaults := .none, doc := .none, pyModule := (.str (Str.ofString "law_sr0049_01") 669), annotations := none, code := (.ref 273), closureTuple := .none, builtins := 0 }, slots := #[] }
noncomputable def k278 (_ : Params) : Obj := { cls := (.type "code"), dict := none, data := .fields #[(.str (Str.ofString "law") 753), (.str (Str.ofString "law") 754), (.str (Str.ofString "/claim/cut.py") 755), (.int 197 0), (.int 1 0), (.int 0 0), (.int 0 0), (.int 3 0), (.ref 275), (.bool true), (.int 276 0), (.ref 276), .none, .none, .none, (.ref 277), (.int 756 0), (.int 197 0), (.str (Str.ofString "/claim/cut.py") 757)], slots := #[] }
noncomputable def k279 (_ : Params) : Obj := { cls := (.type "function"), dict := none, data := .func { name := (Str.ofString "law"), qualname := (Str.ofString "law"), params := stArgs (topAt 27), body := .stmts (stBody (topAt 27)), scope := stScope (topAt 27), globals := 3, closure := [], defaults := .none, kwdefaults := .none, doc := .none, pyModule := (.str (Str.ofString "law_sr0049_01") 669), annotations := none, code := (.ref 278), closureTuple := .none, builtins := 0 }, slots := #[] }
noncomputable def KK (P : Params) : Frag := [(0, k0 P), (2, k2 P), (3, k3 P), (40, k40 P), (49, k49 P), (50, k50 P), (56, k56 P), (57, k57 P), (61, k61 P), (62, k62 P), (66, k66 P), (67, k67 P), (73, k73 P), (74, k74 P), (83, k83 P), (84, k84 P), (88, k88 P), (89, k89 P), (105, k105 P), (111, k111 P), (112, k112 P), (118, k118 P), (119, k119 P), (156, k156 P), (157, k157 P), (181, k181 P), (182, k182 P), (193, k193 P), (194, k194 P), (214, k214 P), (215, k215 P), (217, k217 P), (218, k218 P), (226, k226 P), (227, k227 P), (233, k233 P), (234, k234 P), (240, k240 P), (241, k241 P), (245, k245 P), (246, k246 P), (252, k252 P), (253, k253 P), (259, k259 P), (260, k260 P), (266, k266 P), (267, k267 P), (273, k273 P), (274, k274 P), (278, k278 P), (279, k279 P)]

noncomputable def codeOf (P : Params) (a : Addr) : FuncData := match (KK P).lookup a with
  | some ⟨_, _, .func f, _⟩ => f
  | _ => ⟨Str.empty, Str.empty, ⟨[], [], none, [], [], none, []⟩, .stmts [], stScope (topAt 0), 0, [], .none, .none, .none, .none, none, .none, .none, 0⟩
theorem strKeys_of {es : Array DictEntry} (h : (es.toList.all fun e => match e.key with | .str _ _ => true | _ => false) = true) : StrKeys es := fun e he => by
  have := (List.all_eq_true.mp h) e (by simpa using he)
  cases hk : e.key with
  | str n t => exact ⟨n, t, rfl⟩
  | _ => rw [hk] at this; cases this
theorem lim_KK (P : Params) : ∃ o es ep, (KK P).lookup cStatics = some o ∧ o.data = .dict es ep ∧ StrKeys es ∧ nsFind es "sys.recursionlimit" = none :=
  ⟨k2 P, _, _, rfl, rfl, strKeys_of rfl, rfl⟩

end
/-! MH -/
section
/-! the states of the text's top at four cuts (printed by S_heaps) -/
noncomputable def a1 (P : Params) : Obj := { cls := (.type "dict"), dict := none, data := .dict #[⟨PyData.keyHash P (Str.ofString "builtins"), (.str (Str.ofString "builtins") 162), (.ref 4)⟩, ⟨PyData.keyHash P (Str.ofString "__main__"), (.str (Str.ofString "__main__") 163), (.ref 5)⟩, ⟨PyData.keyHash P (Str.ofString "_sre"), (.str (Str.ofString "_sre") 244), (.ref 12)⟩] 3, slots := #[] }
noncomputable def a3 (P : Params) : Obj := { cls := (.type "dict"), dict := none, data := .dict #[⟨PyData.keyHash P (Str.ofString "__name__"), (.str (Str.ofString "__name__") 165), (.str (Str.ofString "__main__") 164)⟩, ⟨PyData.keyHash P (Str.ofString "__doc__"), (.str (Str.ofString "__doc__") 166), .none⟩, ⟨PyData.keyHash P (Str.ofString "__package__"), (.str (Str.ofString "__package__") 167), .none⟩, ⟨PyData.keyHash P (Str.ofString "__loader__"), (.str (Str.ofString "__loader__") 168), (.builtin "__main__.__loader__#opaque")⟩, ⟨PyData.keyHash P (Str.ofString "__spec__"), (.str (Str.ofString "__spec__") 169), .none⟩, ⟨PyData.keyHash P (Str.ofString "__annotations__"), (.str (Str.ofString "__annotations__") 170), (.ref 6)⟩, ⟨PyData.keyHash P (Str.ofString "__builtins__"), (.str (Str.ofString "__builtins__") 171), (.ref 4)⟩, ⟨PyData.keyHash P (Str.ofString "__file__"), (.str (Str.ofString "__file__") 173), (.str (Str.ofString "/claim/cut.py") 172)⟩, ⟨PyData.keyHash P (Str.ofString "__cached__"), (.str (Str.ofString "__cached__") 174), .none⟩, ⟨PyData.keyHash P (Str.ofString "_sre"), (.str (Str.ofString "_sre") 275), (.ref 12)⟩] 10, slots := #[] }
noncomputable def a4 (P : Params) : Obj := { cls := (.type "module"), dict := (some 0), data := .plain, slots := #[] }
noncomputable def a5 (P : Params) : Obj := { cls := (.type "module"), dict := (some 3), data := .plain, slots := #[] }
noncomputable def a6 (P : Params) : Obj := { cls := (.type "dict"), dict := none, data := .dict #[] 0, slots := #[] }
noncomputable def a7 (P : Params) : Obj := { cls := (.type "tuple"), dict := none, data := .seq #[] 0, slots := #[] }
noncomputable def a8 (P : Params) : Obj := { cls := .none, dict := none, data := .fields #[], slots := #[] }
noncomputable def a9 (P : Params) : Obj := { cls := (.type "code"), dict := none, data := .fields #[(.str (Str.ofString "<module>") 176), (.str (Str.ofString "<module>") 177), (.str (Str.ofString "/claim/cut.py") 178), (.int 1 0), (.int 0 0), (.int 0 0), (.int 0 0), (.int 0 0), (.ref 7), (.bool false), (.int 175 0), (.ref 8), .none, .none, .none, .none, (.int 179 0), (.int 1 0), (.str (Str.ofString "/claim/cut.py") 180)], slots := #[] }
noncomputable def a10 (P : Params) : Obj := { cls := (.type "frame"), dict := none, data := .plain, slots := #[(some (.ref 9)), (some (.ref 3)), (some (.ref 3)), none, (some (.str (Str.ofString "__main__") 164)), none, (some (.ref 0))] }
noncomputable def a11 (P : Params) : Obj := { cls := (.type "dict"), dict := none, data := .dict #[⟨PyData.keyHash P (Str.ofString "__name__"), (.str (Str.ofString "__name__") 247), (.str (Str.ofString "_sre") 246)⟩, ⟨PyData.keyHash P (Str.ofString "__doc__"), (.str (Str.ofString "__doc__") 248), .none⟩, ⟨PyData.keyHash P (Str.ofString "__package__"), (.str (Str.ofString "__package__") 250), (.str (Str.ofString "") 249)⟩, ⟨PyData.keyHash P (Str.ofString "__loader__"), (.str (Str.ofString "__loader__") 251), (.builtin "off-the-table:_sre.__loader__:shared#opaque")⟩, ⟨PyData.keyHash P (Str.ofString "__spec__"), (.str (Str.ofString "__spec__") 252), (.builtin "off-the-table:_sre.__spec__:shared#opaque")⟩, ⟨PyData.keyHash P (Str.ofString "compile"), (.str (Str.ofString "compile") 253), (.builtin "_sre.compile")⟩, ⟨PyData.keyHash P (Str.ofString "template"), (.str (Str.ofString "template") 254), (.builtin "off-the-table:_sre.template:shared#opaque")⟩, ⟨PyData.keyHash P (Str.ofString "getcodesize"), (.str (Str.ofString "getcodesize") 255), (.builtin "off-the-table:_sre.getcodesize:shared#opaque")⟩, ⟨PyData.keyHash P (Str.ofString "ascii_iscased"), (.str (Str.ofString "ascii_iscased") 256), (.builtin "off-the-table:_sre.ascii_iscased:shared#opaque")⟩, ⟨PyData.keyHash P (Str.ofString "unicode_iscased"), (.str (Str.ofString "unicode_iscased") 257), (.builtin "off-the-table:_sre.unicode_iscased:shared#opaque")⟩, ⟨PyData.keyHash P (Str.ofString "ascii_tolower"), (.str (Str.ofString "ascii_tolower") 258), (.builtin "off-the-table:_sre.ascii_tolower:shared#opaque")⟩, ⟨PyData.keyHash P (Str.ofString "unicode_tolower"), (.str (Str.ofString "unicode_tolower") 259), (.builtin "off-the-table:_sre.unicode_tolower:shared#opaque")⟩, ⟨PyData.keyHash P (Str.ofString "MAGIC"), (.str (Str.ofString "MAGIC") 261), (.int 20230612 260)⟩, ⟨PyData.keyHash P (Str.ofString "CODESIZE"), (.str (Str.ofString "CODESIZE") 263), (.int 4 262)⟩, ⟨PyData.keyHash P (Str.ofString "MAXREPEAT"), (.str (Str.ofString "MAXREPEAT") 265), (.int 4294967295 264)⟩, ⟨PyData.keyHash P (Str.ofString "MAXGROUPS"), (.str (Str.ofString "MAXGROUPS") 267), (.int 1073741823 266)⟩, ⟨PyData.keyHash P (Str.ofString "copyright"), (.str (Str.ofString "copyright") 269), (.str (Str.ofString " SRE 2.2.2 Copyright (c) 1997-2002 by Secret Labs AB ") 268)⟩] 17, slots := #[] }
noncomputable def a12 (P : Params) : Obj := { cls := (.type "module"), dict := (some 11), data := .plain, slots := #[] }
noncomputable def a13 (P : Params) : Obj := { cls := (.type "dict"), dict := none, data := .dict #[⟨PyData.keyHash P (Str.ofString "__module__"), (.str (Str.ofString "__module__") 189), (.str (Str.ofString "_frozen_importlib") 186)⟩, ⟨PyData.keyHash P (Str.ofString "__firstlineno__"), (.str (Str.ofString "__firstlineno__") 190), (.int 971 187)⟩, ⟨PyData.keyHash P (Str.ofString "__doc__"), (.str (Str.ofString "__doc__") 191), (.builtin "_frozen_importlib.BuiltinImporter.__doc__:str#opaque")⟩, ⟨PyData.keyHash P (Str.ofString "_ORIGIN"), (.str (Str.ofString "_ORIGIN") 192), (.str (Str.ofString "built-in") 188)⟩, ⟨PyData.keyHash P (Str.ofString "find_spec"), (.str (Str.ofString "find_spec") 193), (.builtin "_frozen_importlib.BuiltinImporter.find_spec#opaque")⟩, ⟨PyData.keyHash P (Str.ofString "create_module"), (.str (Str.ofString "create_module") 194), (.builtin "_frozen_importlib.BuiltinImporter.create_module#opaque")⟩, ⟨PyData.keyHash P (Str.ofString "exec_module"), (.str (Str.ofString "exec_module") 195), (.builtin "_frozen_importlib.BuiltinImporter.exec_module#opaque")⟩, ⟨PyData.keyHash P (Str.ofString "get_code"), (.str (Str.ofString "get_code") 196), (.builtin "_frozen_importlib.BuiltinImporter.get_code#opaque")⟩, ⟨PyData.keyHash P (Str.ofString "get_source"), (.str (Str.ofString "get_source") 197), (.builtin "_frozen_importlib.BuiltinImporter.get_source#opaque")⟩, ⟨PyData.keyHash P (Str.ofString "is_package"), (.str (Str.ofString "is_package") 198), (.builtin "_frozen_importlib.BuiltinImporter.is_package#opaque")⟩, ⟨PyData.keyHash P (Str.ofString "load_module"), (.str (Str.ofString "load_module") 199), (.builtin "_frozen_importlib.BuiltinImporter.load_module#opaque")⟩, ⟨PyData.keyHash P (Str.ofString "__static_attributes__"), (.str (Str.ofString "__static_attributes__") 200), (.ref 15)⟩, ⟨PyData.keyHash P (Str.ofString "__dict__"), (.str (Str.ofString "__dict__") 202), (.ref 16)⟩, ⟨PyData.keyHash P (Str.ofString "__weakref__"), (.str (Str.ofString "__weakref__") 204), (.ref 17)⟩] 14, slots := #[] }
noncomputable def a14 (P : Params) : Obj := { cls := (.type "type"), dict := none, data := .cls { name := (Str.ofString "BuiltinImporter"), bases := [(.type "object")], mro := [(.ref 14), (.type "object")], ns := 13, qualname := (Str.ofString "BuiltinImporter"), hasDict := true, slotNames := [], subclasses := [], abstract := false, collection := none, hasDel := false }, slots := #[] }
noncomputable def a16 (P : Params) : Obj := { cls := (.type "getset_descriptor"), dict := none, data := .fields #[(.str (Str.ofString "__dict__") 201), (.ref 14), (.builtin "function.__dict__"), (.builtin "function.__dict__#set")], slots := #[] }
noncomputable def a17 (P : Params) : Obj := { cls := (.type "getset_descriptor"), dict := none, data := .fields #[(.str (Str.ofString "__weakref__") 203), (.ref 14), (.builtin "ExceptionGroup.__weakref__"), .none], slots := #[] }
noncomputable def a18 (P : Params) : Obj := { cls := .none, dict := none, data := .seq #[(.int 13 0), (.str (Str.mk #[6, 189, 10, 95, 95, 109, 111, 100, 117, 108, 101, 95, 95, 6, 186, 17, 95, 102, 114, 111, 122, 101, 110, 95, 105, 109, 112, 111, 114, 116, 108, 105, 98, 6, 190, 15, 95, 95, 102, 105, 114, 115, 116, 108, 105, 110, 101, 110, 111, 95, 95, 4, 187, 0, 971, 6, 191, 7, 95, 95, 100, 111, 99, 95, 95, 9, 52, 95, 102, 114, 111, 122, 101, 110, 95, 105, 109, 112, 111, 114, 116, 108, 105, 98, 46, 66, 117, 105, 108, 116, 105, 110, 73, 109, 112, 111, 114, 116, 101, 114, 46, 95, 95, 100, 111, 99, 95, 95, 58, 115, 116, 114, 35, 111, 112, 97, 113, 117, 101, 6, 192, 7, 95, 79, 82, 73, 71, 73, 78, 6, 188, 8, 98, 117, 105, 108, 116, 45, 105, 110, 6, 193, 9, 102, 105, 110, 100, 95, 115, 112, 101, 99, 9, 50, 95, 102, 114, 111, 122, 101, 110, 95, 105, 109, 112, 111, 114, 116, 108, 105, 98, 46, 66, 117, 105, 108, 116, 105, 110, 73, 109, 112, 111, 114, 116, 101, 114, 46, 102, 105, 110, 100, 95, 115, 112, 101, 99, 35, 111, 112, 97, 113, 117, 101, 6, 194, 13, 99, 114, 101, 97, 116, 101, 95, 109, 111, 100, 117, 108, 101, 9, 54, 95, 102, 114, 111, 122, 101, 110, 95, 105, 109, 112, 111, 114, 116, 108, 105, 98, 46, 66, 117, 105, 108, 116, 105, 110, 73, 109, 112, 111, 114, 116, 101, 114, 46, 99, 114, 101, 97, 116, 101, 95, 109, 111, 100, 117, 108, 101, 35, 111, 112, 97, 113, 117, 101, 6, 195, 11, 101, 120, 101, 99, 95, 109, 111, 100, 117, 108, 101, 9, 52, 95, 102, 114, 111, 122, 101, 110, 95, 105, 109, 112, 111, 114, 116, 108, 105, 98, 46, 66, 117, 105, 108, 116, 105, 110, 73, 109, 112, 111, 114, 116, 101, 114, 46, 101, 120, 101, 99, 95, 109, 111, 100, 117, 108, 101, 35, 111, 112, 97, 113, 117, 101, 6, 196, 8, 103, 101, 116, 95, 99, 111, 100, 101, 9, 49, 95, 102, 114, 111, 122, 101, 110, 95, 105, 109, 112, 111, 114, 116, 108, 105, 98, 46, 66, 117, 105, 108, 116, 105, 110, 73, 109, 112, 111, 114, 116, 101, 114, 46, 103, 101, 116, 95, 99, 111, 100, 101, 35, 111, 112, 97, 113, 117, 101, 6, 197, 10, 103, 101, 116, 95, 115, 111, 117, 114, 99, 101, 9, 51, 95, 102, 114, 111, 122, 101, 110, 95, 105, 109, 112, 111, 114, 116, 108, 105, 98, 46, 66, 117, 105, 108, 116, 105, 110, 73, 109, 112, 111, 114, 116, 101, 114, 46, 103, 101, 116, 95, 115, 111, 117, 114, 99, 101, 35, 111, 112, 97, 113, 117, 101, 6, 198, 10, 105, 115, 95, 112, 97, 99, 107, 97, 103, 101, 9, 51, 95, 102, 114, 111, 122, 101, 110, 95, 105, 109, 112, 111, 114, 116, 108, 105, 98, 46, 66, 117, 105, 108, 116, 105, 110, 73, 109, 112, 111, 114, 116, 101, 114, 46, 105, 115, 95, 112, 97, 99, 107, 97, 103, 101, 35, 111, 112, 97, 113, 117, 101, 6, 199, 11, 108, 111, 97, 100, 95, 109, 111, 100, 117, 108, 101, 9, 52, 95, 102, 114, 111, 122, 101, 110, 95, 105, 109, 112, 111, 114, 116, 108, 105, 98, 46, 66, 117, 105, 108, 116, 105, 110, 73, 109, 112, 111, 114, 116, 101, 114, 46, 108, 111, 97, 100, 95, 109, 111, 100, 117, 108, 101, 35, 111, 112, 97, 113, 117, 101, 6, 200, 21, 95, 95, 115, 116, 97, 116, 105, 99, 95, 97, 116, 116, 114, 105, 98, 117, 116, 101, 115, 95, 95, 4, 0, 0, 15, 6, 202, 8, 95, 95, 100, 105, 99, 116, 95, 95, 4, 0, 0, 16, 6, 204, 11, 95, 95, 119, 101, 97, 107, 114, 101, 102, 95, 95, 4, 0, 0, 17]) 0), (.bool true), (.bool true), (.str (Str.ofString "") 205), (.int 21 0), (.str (Str.mk #[6, 227, 10, 95, 95, 109, 111, 100, 117, 108, 101, 95, 95, 6, 217, 17, 95, 102, 114, 111, 122, 101, 110, 95, 105, 109, 112, 111, 114, 116, 108, 105, 98, 6, 228, 15, 95, 95, 102, 105, 114, 115, 116, 108, 105, 110, 101, 110, 111, 95, 95, 4, 218, 0, 562, 6, 229, 7, 95, 95, 100, 111, 99, 95, 95, 9, 47, 95, 102, 114, 111, 122, 101, 110, 95, 105, 109, 112, 111, 114, 116, 108, 105, 98, 46, 77, 111, 100, 117, 108, 101, 83, 112, 101, 99, 46, 95, 95, 100, 111, 99, 95, 95, 58, 115, 116, 114, 35, 111, 112, 97, 113, 117, 101, 6, 230, 8, 95, 95, 105, 110, 105, 116, 95, 95, 9, 44, 95, 102, 114, 111, 122, 101, 110, 95, 105, 109, 112, 111, 114, 116, 108, 105, 98, 46, 77, 111, 100, 117, 108, 101, 83, 112, 101, 99, 46, 95, 95, 105, 110, 105, 116, 95, 95, 35, 111, 112, 97, 113, 117, 101, 6, 231, 8, 95, 95, 114, 101, 112, 114, 95, 95, 9, 44, 95, 102, 114, 111, 122, 101, 110, 95, 105, 109, 112, 111, 114, 116, 108, 105, 98, 46, 77, 111, 100, 117, 108, 101, 83, 112, 101, 99, 46, 95, 95, 114, 101, 112, 114, 95, 95, 35, 111, 112, 97, 113, 117, 101, 6, 232, 6, 95, 95, 101, 113, 95, 95, 9, 42, 95, 102, 114, 111, 122, 101, 110, 95, 105, 109, 112, 111, 114, 116, 108, 105, 98, 46, 77, 111, 100, 117, 108, 101, 83, 112, 101, 99, 46, 95, 95, 101, 113, 95, 95, 35, 111, 112, 97, 113, 117, 101, 6, 233, 6, 99, 97, 99, 104, 101, 100, 9, 42, 95, 102, 114, 111, 122, 101, 110, 95, 105, 109, 112, 111, 114, 116, 108, 105, 98, 46, 77, 111, 100, 117, 108, 101, 83, 112, 101, 99, 46, 99, 97, 99, 104, 101, 100, 35, 111, 112, 97, 113, 117, 101, 6, 234, 6, 112, 97, 114, 101, 110, 116, 9, 42, 95, 102, 114, 111, 122, 101, 110, 95, 105, 109, 112, 111, 114, 116, 108, 105, 98, 46, 77, 111, 100, 117, 108, 101, 83, 112, 101, 99, 46, 112, 97, 114, 101, 110, 116, 35, 111, 112, 97, 113, 117, 101, 6, 235, 12, 104, 97, 115, 95, 108, 111, 99, 97, 116, 105, 111, 110, 9, 48, 95, 102, 114, 111, 122, 101, 110, 95, 105, 109, 112, 111, 114, 116, 108, 105, 98, 46, 77, 111, 100, 117, 108, 101, 83, 112, 101, 99, 46, 104, 97, 115, 95, 108, 111, 99, 97, 116, 105, 111, 110, 35, 111, 112, 97, 113, 117, 101, 6, 236, 21, 95, 95, 115, 116, 97, 116, 105, 99, 95, 97, 116, 116, 114, 105, 98, 117, 116, 101, 115, 95, 95, 4, 0, 0, 23, 6, 238, 8, 95, 95, 100, 105, 99, 116, 95, 95, 4, 0, 0, 24, 6, 240, 11, 95, 95, 119, 101, 97, 107, 114, 101, 102, 95, 95, 4, 0, 0, 25, 6, 241, 8, 95, 95, 104, 97, 115, 104, 95, 95, 0]) 0), (.bool true), (.bool true), (.str (Str.ofString "") 242)] 1, slots := #[] }
noncomputable def a19 (P : Params) : Obj := { cls := (.type "list"), dict := none, data := .seq #[] 0, slots := #[] }
noncomputable def a20 (P : Params) : Obj := { cls := (.type "dict"), dict := none, data := .dict #[⟨PyData.keyHash P (Str.ofString "name"), (.str (Str.ofString "name") 208), (.str (Str.ofString "_sre") 207)⟩, ⟨PyData.keyHash P (Str.ofString "loader"), (.str (Str.ofString "loader") 209), (.ref 14)⟩, ⟨PyData.keyHash P (Str.ofString "origin"), (.str (Str.ofString "origin") 210), (.str (Str.ofString "built-in") 184)⟩, ⟨PyData.keyHash P (Str.ofString "loader_state"), (.str (Str.ofString "loader_state") 211), .none⟩, ⟨PyData.keyHash P (Str.ofString "submodule_search_locations"), (.str (Str.ofString "submodule_search_locations") 212), .none⟩, ⟨PyData.keyHash P (Str.ofString "_uninitialized_submodules"), (.str (Str.ofString "_uninitialized_submodules") 213), (.ref 19)⟩, ⟨PyData.keyHash P (Str.ofString "_set_fileattr"), (.str (Str.ofString "_set_fileattr") 214), (.bool false)⟩, ⟨PyData.keyHash P (Str.ofString "_cached"), (.str (Str.ofString "_cached") 215), .none⟩, ⟨PyData.keyHash P (Str.ofString "_initializing"), (.str (Str.ofString "_initializing") 243), (.bool false)⟩] 9, slots := #[] }
noncomputable def a21 (P : Params) : Obj := { cls := (.type "dict"), dict := none, data := .dict #[⟨PyData.keyHash P (Str.ofString "__module__"), (.str (Str.ofString "__module__") 227), (.str (Str.ofString "_frozen_importlib") 217)⟩, ⟨PyData.keyHash P (Str.ofString "__firstlineno__"), (.str (Str.ofString "__firstlineno__") 228), (.int 562 218)⟩, ⟨PyData.keyHash P (Str.ofString "__doc__"), (.str (Str.ofString "__doc__") 229), (.builtin "_frozen_importlib.ModuleSpec.__doc__:str#opaque")⟩, ⟨PyData.keyHash P (Str.ofString "__init__"), (.str (Str.ofString "__init__") 230), (.builtin "_frozen_importlib.ModuleSpec.__init__#opaque")⟩, ⟨PyData.keyHash P (Str.ofString "__repr__"), (.str (Str.ofString "__repr__") 231), (.builtin "_frozen_importlib.ModuleSpec.__repr__#opaque")⟩, ⟨PyData.keyHash P (Str.ofString "__eq__"), (.str (Str.ofString "__eq__") 232), (.builtin "_frozen_importlib.ModuleSpec.__eq__#opaque")⟩, ⟨PyData.keyHash P (Str.ofString "cached"), (.str (Str.ofString "cached") 233), (.builtin "_frozen_importlib.ModuleSpec.cached#opaque")⟩, ⟨PyData.keyHash P (Str.ofString "parent"), (.str (Str.ofString "parent") 234), (.builtin "_frozen_importlib.ModuleSpec.parent#opaque")⟩, ⟨PyData.keyHash P (Str.ofString "has_location"), (.str (Str.ofString "has_location") 235), (.builtin "_frozen_importlib.ModuleSpec.has_location#opaque")⟩, ⟨PyData.keyHash P (Str.ofString "__static_attributes__"), (.str (Str.ofString "__static_attributes__") 236), (.ref 23)⟩, ⟨PyData.keyHash P (Str.ofString "__dict__"), (.str (Str.ofString "__dict__") 238), (.ref 24)⟩, ⟨PyData.keyHash P (Str.ofString "__weakref__"), (.str (Str.ofString "__weakref__") 240), (.ref 25)⟩, ⟨PyData.keyHash P (Str.ofString "__hash__"), (.str (Str.ofString "__hash__") 241), .none⟩] 13, slots := #[] }
noncomputable def a22 (P : Params) : Obj := { cls := (.type "type"), dict := none, data := .cls { name := (Str.ofString "ModuleSpec"), bases := [(.type "object")], mro := [(.ref 22), (.type "object")], ns := 21, qualname := (Str.ofString "ModuleSpec"), hasDict := true, slotNames := [], subclasses := [], abstract := false, collection := none, hasDel := false }, slots := #[] }
noncomputable def a23 (P : Params) : Obj := { cls := (.type "tuple"), dict := none, data := .seq #[(.str (Str.ofString "_cached") 219), (.str (Str.ofString "_set_fileattr") 220), (.str (Str.ofString "_uninitialized_submodules") 221), (.str (Str.ofString "loader") 222), (.str (Str.ofString "loader_state") 223), (.str (Str.ofString "name") 224), (.str (Str.ofString "origin") 225), (.str (Str.ofString "submodule_search_locations") 226)] 0, slots := #[] }
noncomputable def a24 (P : Params) : Obj := { cls := (.type "getset_descriptor"), dict := none, data := .fields #[(.str (Str.ofString "__dict__") 237), (.ref 22), (.builtin "function.__dict__"), (.builtin "function.__dict__#set")], slots := #[] }
noncomputable def a25 (P : Params) : Obj := { cls := (.type "getset_descriptor"), dict := none, data := .fields #[(.str (Str.ofString "__weakref__") 239), (.ref 22), (.builtin "ExceptionGroup.__weakref__"), .none], slots := #[] }
noncomputable def a26 (P : Params) : Obj := { cls := (.ref 22), dict := (some 20), data := .plain, slots := #[] }
noncomputable def a27 (P : Params) : Obj := { cls := .none, dict := none, data := .seq #[(.int 11 0), (.str (Str.mk #[6, 247, 8, 95, 95, 110, 97, 109, 101, 95, 95, 6, 246, 4, 95, 115, 114, 101, 6, 248, 7, 95, 95, 100, 111, 99, 95, 95, 0, 6, 250, 11, 95, 95, 112, 97, 99, 107, 97, 103, 101, 95, 95, 6, 249, 0, 6, 251, 10, 95, 95, 108, 111, 97, 100, 101, 114, 95, 95, 4, 0, 0, 14, 6, 252, 8, 95, 95, 115, 112, 101, 99, 95, 95, 4, 0, 0, 26, 6, 253, 7, 99, 111, 109, 112, 105, 108, 101, 9, 12, 95, 115, 114, 101, 46, 99, 111, 109, 112, 105, 108, 101, 6, 254, 8, 116, 101, 109, 112, 108, 97, 116, 101, 9, 13, 95, 115, 114, 101, 46, 116, 101, 109, 112, 108, 97, 116, 101, 6, 255, 11, 103, 101, 116, 99, 111, 100, 101, 115, 105, 122, 101, 9, 16, 95, 115, 114, 101, 46, 103, 101, 116, 99, 111, 100, 101, 115, 105, 122, 101, 6, 256, 13, 97, 115, 99, 105, 105, 95, 105, 115, 99, 97, 115, 101, 100, 9, 18, 95, 115, 114, 101, 46, 97, 115, 99, 105, 105, 95, 105, 115, 99, 97, 115, 101, 100, 6, 257, 15, 117, 110, 105, 99, 111, 100, 101, 95, 105, 115, 99, 97, 115, 101, 100, 9, 20, 95, 115, 114, 101, 46, 117, 110, 105, 99, 111, 100, 101, 95, 105, 115, 99, 97, 115, 101, 100, 6, 258, 13, 97, 115, 99, 105, 105, 95, 116, 111, 108, 111, 119, 101, 114, 9, 18, 95, 115, 114, 101, 46, 97, 115, 99, 105, 105, 95, 116, 111, 108, 111, 119, 101, 114, 6, 259, 15, 117, 110, 105, 99, 111, 100, 101, 95, 116, 111, 108, 111, 119, 101, 114, 9, 20, 95, 115, 114, 101, 46, 117, 110, 105, 99, 111, 100, 101, 95, 116, 111, 108, 111, 119, 101, 114, 6, 261, 5, 77, 65, 71, 73, 67, 4, 260, 0, 20230612, 6, 263, 8, 67, 79, 68, 69, 83, 73, 90, 69, 4, 262, 0, 4, 6, 265, 9, 77, 65, 88, 82, 69, 80, 69, 65, 84, 4, 264, 0, 4294967295, 6, 267, 9, 77, 65, 88, 71, 82, 79, 85, 80, 83, 4, 266, 0, 1073741823, 6, 269, 9, 99, 111, 112, 121, 114, 105, 103, 104, 116, 6, 268, 53, 32, 83, 82, 69, 32, 50, 46, 50, 46, 50, 32, 67, 111, 112, 121, 114, 105, 103, 104, 116, 32, 40, 99, 41, 32, 49, 57, 57, 55, 45, 50, 48, 48, 50, 32, 98, 121, 32, 83, 101, 99, 114, 101, 116, 32, 76, 97, 98, 115, 32, 65, 66, 32]) 0), (.bool true), (.bool false), (.str (Str.ofString "_sre") 271)] 0, slots := #[] }
noncomputable def aHeap (P : Params) : Heap := ⟨#[k0 P, a1 P, k2 P, a3 P, a4 P, a5 P, a6 P, a7 P, a8 P, a9 P, a10 P, a11 P, a12 P, a13 P, a14 P, a7 P, a16 P, a17 P, a18 P, a19 P, a20 P, a21 P, a22 P, a23 P, a24 P, a25 P, a26 P, a27 P], {}⟩
noncomputable def b30 (P : Params) : Obj := { cls := (.type "code"), dict := none, data := .fields #[(.str (Str.ofString "<module>") 277), (.str (Str.ofString "<module>") 278), (.str (Str.ofString "/claim/cut.py") 279), (.int 1 0), (.int 0 0), (.int 0 0), (.int 0 0), (.int 0 0), (.ref 28), (.bool false), (.int 276 0), (.ref 29), .none, .none, .none, .none, (.int 280 0), (.int 1 0), (.str (Str.ofString "/claim/cut.py") 281)], slots := #[] }
noncomputable def b31 (P : Params) : Obj := { cls := (.type "frame"), dict := none, data := .plain, slots := #[(some (.ref 30)), (some (.ref 3)), (some (.ref 3)), none, (some (.str (Str.ofString "__main__") 164)), none, (some (.ref 0))] }
noncomputable def bHeap (P : Params) : Heap := ⟨#[k0 P, a1 P, k2 P, a3 P, a4 P, a5 P, a6 P, a7 P, a8 P, a9 P, a10 P, a11 P, a12 P, a13 P, a14 P, a7 P, a16 P, a17 P, a18 P, a19 P, a20 P, a21 P, a22 P, a23 P, a24 P, a25 P, a26 P, a27 P, a7 P, a8 P, b30 P, b31 P], {}⟩
noncomputable def c3 (P : Params) : Obj := { cls := (.type "dict"), dict := none, data := .dict #[⟨PyData.keyHash P (Str.ofString "__name__"), (.str (Str.ofString "__name__") 165), (.str (Str.ofString "cpy313.stringprep") 289)⟩, ⟨PyData.keyHash P (Str.ofString "__doc__"), (.str (Str.ofString "__doc__") 166), .none⟩, ⟨PyData.keyHash P (Str.ofString "__package__"), (.str (Str.ofString "__package__") 167), .none⟩, ⟨PyData.keyHash P (Str.ofString "__loader__"), (.str (Str.ofString "__loader__") 168), (.builtin "__main__.__loader__#opaque")⟩, ⟨PyData.keyHash P (Str.ofString "__spec__"), (.str (Str.ofString "__spec__") 169), .none⟩, ⟨PyData.keyHash P (Str.ofString "__annotations__"), (.str (Str.ofString "__annotations__") 170), (.ref 6)⟩, ⟨PyData.keyHash P (Str.ofString "__builtins__"), (.str (Str.ofString "__builtins__") 171), (.ref 4)⟩, ⟨PyData.keyHash P (Str.ofString "__file__"), (.str (Str.ofString "__file__") 173), (.str (Str.ofString "/claim/cut.py") 172)⟩, ⟨PyData.keyHash P (Str.ofString "__cached__"), (.str (Str.ofString "__cached__") 174), .none⟩, ⟨PyData.keyHash P (Str.ofString "_sre"), (.str (Str.ofString "_sre") 275), (.ref 12)⟩, ⟨PyData.keyHash P (Str.ofString "_wall"), (.str (Str.ofString "_wall") 288), (.ref 38)⟩, ⟨PyData.keyHash P (Str.ofString "c7_set"), (.str (Str.ofString "c7_set") 318), (.ref 40)⟩] 12, slots := #[] }
noncomputable def c29 (P : Params) : Obj := { cls := .none, dict := none, data := .fields #[(.int 2 0), (.int 0 0), (.ref 37)], slots := #[] }
noncomputable def c34 (P : Params) : Obj := { cls := (.type "tuple"), dict := none, data := .seq #[(.str (Str.ofString "k") 285)] 0, slots := #[] }
noncomputable def c36 (P : Params) : Obj := { cls := .none, dict := none, data := .func { name := (Str.ofString "_wall"), qualname := (Str.ofString "_wall"), params := stArgs (topAt 1), body := .stmts (stBody (topAt 1)), scope := stScope (topAt 1), globals := 0, closure := [], defaults := .none, kwdefaults := .none, doc := .none, pyModule := .none, annotations := none, code := .none, closureTuple := .none, builtins := 0 }, slots := #[] }
noncomputable def c37 (P : Params) : Obj := { cls := (.type "code"), dict := none, data := .fields #[(.str (Str.ofString "_wall") 282), (.str (Str.ofString "_wall") 283), (.str (Str.ofString "/claim/cut.py") 284), (.int 2 0), (.int 1 0), (.int 0 0), (.int 0 0), (.int 3 0), (.ref 32), (.bool true), (.int 276 0), (.ref 33), .none, (.ref 34), (.ref 35), (.ref 36), (.int 286 0), (.int 2 0), (.str (Str.ofString "/claim/cut.py") 287)], slots := #[] }
noncomputable def c38 (P : Params) : Obj := { cls := (.type "function"), dict := none, data := .func { name := (Str.ofString "_wall"), qualname := (Str.ofString "_wall"), params := stArgs (topAt 1), body := .stmts (stBody (topAt 1)), scope := stScope (topAt 1), globals := 3, closure := [], defaults := .none, kwdefaults := .none, doc := .none, pyModule := (.str (Str.ofString "__main__") 164), annotations := none, code := (.ref 37), closureTuple := .none, builtins := 0 }, slots := #[] }
noncomputable def c39 (P : Params) : Obj := { cls := (.type "range"), dict := none, data := .fields #[(.int 12272 291), (.int 12284 292), (.int 1 293)], slots := #[] }
noncomputable def c41 (P : Params) : Obj := { cls := (.type "range_iterator"), dict := none, data := .fields #[(.int 12284 0), (.int 0 0), (.int 1 0)], slots := #[] }
noncomputable def c43 (P : Params) : Obj := { cls := (.type "StopIteration"), dict := none, data := .fields #[(.ref 42), .none, .none, .none, (.bool false), .none], slots := #[] }
noncomputable def cHeap (P : Params) : Heap := ⟨#[k0 P, a1 P, k2 P, c3 P, a4 P, a5 P, a6 P, a7 P, a8 P, a9 P, a10 P, a11 P, a12 P, a13 P, a14 P, a7 P, a16 P, a17 P, a18 P, a19 P, a20 P, a21 P, a22 P, a23 P, a24 P, a25 P, a26 P, a27 P, a7 P, c29 P, b30 P, b31 P, a7 P, a8 P, c34 P, a7 P, c36 P, c37 P, c38 P, c39 P, k40 P, c41 P, a7 P, c43 P], {}⟩
noncomputable def d3 (P : Params) : Obj := { cls := (.type "dict"), dict := none, data := .dict #[⟨PyData.keyHash P (Str.ofString "__name__"), (.str (Str.ofString "__name__") 165), (.str (Str.ofString "cpy313.wsgiref.headers") 406)⟩, ⟨PyData.keyHash P (Str.ofString "__doc__"), (.str (Str.ofString "__doc__") 166), .none⟩, ⟨PyData.keyHash P (Str.ofString "__package__"), (.str (Str.ofString "__package__") 167), .none⟩, ⟨PyData.keyHash P (Str.ofString "__loader__"), (.str (Str.ofString "__loader__") 168), (.builtin "__main__.__loader__#opaque")⟩, ⟨PyData.keyHash P (Str.ofString "__spec__"), (.str (Str.ofString "__spec__") 169), .none⟩, ⟨PyData.keyHash P (Str.ofString "__annotations__"), (.str (Str.ofString "__annotations__") 170), (.ref 6)⟩, ⟨PyData.keyHash P (Str.ofString "__builtins__"), (.str (Str.ofString "__builtins__") 171), (.ref 4)⟩, ⟨PyData.keyHash P (Str.ofString "__file__"), (.str (Str.ofString "__file__") 173), (.str (Str.ofString "/claim/cut.py") 172)⟩, ⟨PyData.keyHash P (Str.ofString "__cached__"), (.str (Str.ofString "__cached__") 174), .none⟩, ⟨PyData.keyHash P (Str.ofString "_sre"), (.str (Str.ofString "_sre") 275), (.ref 12)⟩, ⟨PyData.keyHash P (Str.ofString "_wall"), (.str (Str.ofString "_wall") 288), (.ref 38)⟩, ⟨PyData.keyHash P (Str.ofString "c7_set"), (.str (Str.ofString "c7_set") 318), (.ref 40)⟩, ⟨PyData.keyHash P (Str.ofString "in_table_c7"), (.str (Str.ofString "in_table_c7") 325), (.ref 50)⟩, ⟨PyData.keyHash P (Str.ofString "_parse_varint"), (.str (Str.ofString "_parse_varint") 336), (.ref 57)⟩, ⟨PyData.keyHash P (Str.ofString "_twin_re_1"), (.str (Str.ofString "_twin_re_1") 354), (.ref 62)⟩, ⟨PyData.keyHash P (Str.ofString "_twin_re_2"), (.str (Str.ofString "_twin_re_2") 396), (.ref 67)⟩, ⟨PyData.keyHash P (Str.ofString "CRLF"), (.str (Str.ofString "CRLF") 398), (.str (Str.mk #[13, 10]) 397)⟩, ⟨PyData.keyHash P (Str.ofString "quotedata"), (.str (Str.ofString "quotedata") 405), (.ref 74)⟩, ⟨PyData.keyHash P (Str.ofString "tspecials"), (.str (Str.ofString "tspecials") 441), (.ref 79)⟩, ⟨PyData.keyHash P (Str.ofString "_name_disallowed_re"), (.str (Str.ofString "_name_disallowed_re") 467), (.ref 84)⟩, ⟨PyData.keyHash P (Str.ofString "_value_disallowed_re"), (.str (Str.ofString "_value_disallowed_re") 501), (.ref 89)⟩, ⟨PyData.keyHash P (Str.ofString "_formatparam"), (.str (Str.ofString "_formatparam") 511), (.ref 97)⟩] 22, slots := #[] }
noncomputable def d29 (P : Params) : Obj := { cls := .none, dict := none, data := .fields #[(.int 2 0), (.int 0 0), (.ref 37), (.int 7 0), (.int 0 0), (.ref 49), (.int 10 0), (.int 0 0), (.ref 56), (.int 22 0), (.int 0 0), (.ref 73), (.int 28 0), (.int 0 0), (.ref 96)], slots := #[] }
noncomputable def d46 (P : Params) : Obj := { cls := (.type "tuple"), dict := none, data := .seq #[(.str (Str.ofString "code") 322)] 0, slots := #[] }
noncomputable def d48 (P : Params) : Obj := { cls := .none, dict := none, data := .func { name := (Str.ofString "in_table_c7"), qualname := (Str.ofString "in_table_c7"), params := stArgs (topAt 4), body := .stmts (stBody (topAt 4)), scope := stScope (topAt 4), globals := 0, closure := [], defaults := .none, kwdefaults := .none, doc := .none, pyModule := .none, annotations := none, code := .none, closureTuple := .none, builtins := 0 }, slots := #[] }
noncomputable def d53 (P : Params) : Obj := { cls := (.type "tuple"), dict := none, data := .seq #[(.str (Str.ofString "iterator") 331), (.str (Str.ofString "b") 332), (.str (Str.ofString "val") 333)] 0, slots := #[] }
noncomputable def d55 (P : Params) : Obj := { cls := .none, dict := none, data := .func { name := (Str.ofString "_parse_varint"), qualname := (Str.ofString "_parse_varint"), params := stArgs (topAt 6), body := .stmts (stBody (topAt 6)), scope := stScope (topAt 6), globals := 0, closure := [], defaults := .none, kwdefaults := .none, doc := .none, pyModule := .none, annotations := none, code := .none, closureTuple := .none, builtins := 0 }, slots := #[] }
noncomputable def d58 (P : Params) : Obj := { cls := (.type "list"), dict := none, data := .seq #[(.int 14 342), (.int 4 343), (.int 0 344), (.int 1 345), (.int 1 346), (.int 6 347), (.int 1 348), (.int 16 349), (.int 46 350), (.int 1 351)] 0, slots := #[] }
noncomputable def d63 (P : Params) : Obj := { cls := (.type "list"), dict := none, data := .seq #[(.int 14 358), (.int 9 359), (.int 4 360), (.int 1 361), (.int 2 362), (.int 16 363), (.int 10 364), (.int 16 365), (.int 13 366), (.int 0 367), (.int 7 368), (.int 7 369), (.int 16 370), (.int 13 371), (.int 16 372), (.int 10 373), (.int 15 374), (.int 18 375), (.int 5 376), (.int 16 377), (.int 10 378), (.int 15 379), (.int 13 380), (.int 11 381), (.int 16 382), (.int 13 383), (.int 5 384), (.int 5 385), (.int 0 386), (.int 16 387), (.int 10 388), (.int 1 389), (.int 15 390), (.int 2 391), (.int 0 392), (.int 1 393)] 0, slots := #[] }
noncomputable def d70 (P : Params) : Obj := { cls := (.type "tuple"), dict := none, data := .seq #[(.str (Str.ofString "data") 402)] 0, slots := #[] }
noncomputable def d72 (P : Params) : Obj := { cls := .none, dict := none, data := .func { name := (Str.ofString "quotedata"), qualname := (Str.ofString "quotedata"), params := stArgs (topAt 11), body := .stmts (stBody (topAt 11)), scope := stScope (topAt 11), globals := 0, closure := [], defaults := .none, kwdefaults := .none, doc := .none, pyModule := .none, annotations := none, code := .none, closureTuple := .none, builtins := 0 }, slots := #[] }
noncomputable def d75 (P : Params) : Obj := { cls := (.type "list"), dict := none, data := .seq #[(.int 14 411), (.int 14 412), (.int 4 413), (.int 1 414), (.int 1 415), (.int 9 416), (.int 0 417), (.int 4227896069 418), (.int 939524097 419), (.int 0 420), (.int 0 421), (.int 0 422), (.int 0 423), (.int 0 424), (.int 0 425), (.int 13 426), (.int 11 427), (.int 9 428), (.int 0 429), (.int 4227896069 430), (.int 939524097 431), (.int 0 432), (.int 0 433), (.int 0 434), (.int 0 435), (.int 0 436), (.int 0 437), (.int 1 438)] 0, slots := #[] }
noncomputable def d78 (P : Params) : Obj := { cls := (.type "tuple"), dict := none, data := .seq #[(.int 14 0), (.int 14 0), (.int 4 0), (.int 1 0), (.int 1 0), (.int 9 0), (.int 0 0), (.int 4227896069 0), (.int 939524097 0), (.int 0 0), (.int 0 0), (.int 0 0), (.int 0 0), (.int 0 0), (.int 0 0), (.int 13 0), (.int 11 0), (.int 9 0), (.int 0 0), (.int 4227896069 0), (.int 939524097 0), (.int 0 0), (.int 0 0), (.int 0 0), (.int 0 0), (.int 0 0), (.int 0 0), (.int 1 0)] 0, slots := #[] }
noncomputable def d79 (P : Params) : Obj := { cls := (.type "re.Pattern"), dict := none, data := .fields #[(.str (Str.mk #[91, 32, 92, 40, 92, 41, 60, 62, 64, 44, 59, 58, 92, 92, 34, 47, 92, 91, 92, 93, 92, 63, 61, 93]) 409), (.int 32 440), (.int 0 0), .none, .none, (.ref 78), (.int 0 0)], slots := #[] }
noncomputable def d80 (P : Params) : Obj := { cls := (.type "list"), dict := none, data := .seq #[(.int 14 445), (.int 10 446), (.int 4 447), (.int 1 448), (.int 1 449), (.int 22 450), (.int 0 451), (.int 31 452), (.int 16 453), (.int 127 454), (.int 0 455), (.int 13 456), (.int 7 457), (.int 22 458), (.int 0 459), (.int 31 460), (.int 16 461), (.int 127 462), (.int 0 463), (.int 1 464)] 0, slots := #[] }
noncomputable def d85 (P : Params) : Obj := { cls := (.type "list"), dict := none, data := .seq #[(.int 14 471), (.int 14 472), (.int 4 473), (.int 1 474), (.int 1 475), (.int 9 476), (.int 4294966783 477), (.int 0 478), (.int 0 479), (.int 2147483648 480), (.int 0 481), (.int 0 482), (.int 0 483), (.int 0 484), (.int 0 485), (.int 13 486), (.int 11 487), (.int 9 488), (.int 4294966783 489), (.int 0 490), (.int 0 491), (.int 2147483648 492), (.int 0 493), (.int 0 494), (.int 0 495), (.int 0 496), (.int 0 497), (.int 1 498)] 0, slots := #[] }
noncomputable def d90 (P : Params) : Obj := { cls := (.type "tuple"), dict := none, data := .seq #[.none, (.int 1 502)] 0, slots := #[] }
noncomputable def d93 (P : Params) : Obj := { cls := (.type "tuple"), dict := none, data := .seq #[(.str (Str.ofString "param") 506), (.str (Str.ofString "value") 507), (.str (Str.ofString "quote") 508)] 0, slots := #[] }
noncomputable def d95 (P : Params) : Obj := { cls := .none, dict := none, data := .func { name := (Str.ofString "_formatparam"), qualname := (Str.ofString "_formatparam"), params := stArgs (topAt 16), body := .stmts (stBody (topAt 16)), scope := stScope (topAt 16), globals := 0, closure := [], defaults := .none, kwdefaults := .none, doc := .none, pyModule := .none, annotations := none, code := .none, closureTuple := .none, builtins := 0 }, slots := #[] }
noncomputable def d96 (P : Params) : Obj := { cls := (.type "code"), dict := none, data := .fields #[(.str (Str.ofString "_formatparam") 503), (.str (Str.ofString "_formatparam") 504), (.str (Str.ofString "/claim/cut.py") 505), (.int 28 0), (.int 3 0), (.int 0 0), (.int 0 0), (.int 3 0), (.ref 91), (.bool true), (.int 276 0), (.ref 92), .none, (.ref 93), (.ref 94), (.ref 95), (.int 509 0), (.int 28 0), (.str (Str.ofString "/claim/cut.py") 510)], slots := #[] }
noncomputable def d97 (P : Params) : Obj := { cls := (.type "function"), dict := none, data := .func { name := (Str.ofString "_formatparam"), qualname := (Str.ofString "_formatparam"), params := stArgs (topAt 16), body := .stmts (stBody (topAt 16)), scope := stScope (topAt 16), globals := 3, closure := [], defaults := (.ref 90), kwdefaults := .none, doc := .none, pyModule := (.str (Str.ofString "cpy313.wsgiref.headers") 406), annotations := none, code := (.ref 96), closureTuple := .none, builtins := 0 }, slots := #[] }
noncomputable def dHeap (P : Params) : Heap := ⟨#[k0 P, a1 P, k2 P, d3 P, a4 P, a5 P, a6 P, a7 P, a8 P, a9 P, a10 P, a11 P, a12 P, a13 P, a14 P, a7 P, a16 P, a17 P, a18 P, a19 P, a20 P, a21 P, a22 P, a23 P, a24 P, a25 P, a26 P, a27 P, a7 P, d29 P, b30 P, b31 P, a7 P, a8 P, c34 P, a7 P, c36 P, c37 P, c38 P, c39 P, k40 P, c41 P, a7 P, c43 P, a7 P, a8 P, d46 P, a7 P, d48 P, k49 P, k50 P, a7 P, a8 P, d53 P, a7 P, d55 P, k56 P, k57 P, d58 P, a6 P, k105 P, k61 P, k62 P, d63 P, a6 P, k105 P, k66 P, k67 P, a7 P, a8 P, d70 P, a7 P, d72 P, k73 P, k74 P, d75 P, a6 P, k105 P, d78 P, d79 P, d80 P, a6 P, k105 P, k83 P, k84 P, d85 P, a6 P, k105 P, k88 P, k89 P, d90 P, a7 P, a8 P, d93 P, a7 P, d95 P, d96 P, d97 P], {}⟩
noncomputable def e3 (P : Params) : Obj := { cls := (.type "dict"), dict := none, data := .dict #[⟨PyData.keyHash P (Str.ofString "__name__"), (.str (Str.ofString "__name__") 165), (.str (Str.ofString "cpy313.wsgiref.headers") 406)⟩, ⟨PyData.keyHash P (Str.ofString "__doc__"), (.str (Str.ofString "__doc__") 166), .none⟩, ⟨PyData.keyHash P (Str.ofString "__package__"), (.str (Str.ofString "__package__") 167), .none⟩, ⟨PyData.keyHash P (Str.ofString "__loader__"), (.str (Str.ofString "__loader__") 168), (.builtin "__main__.__loader__#opaque")⟩, ⟨PyData.keyHash P (Str.ofString "__spec__"), (.str (Str.ofString "__spec__") 169), .none⟩, ⟨PyData.keyHash P (Str.ofString "__annotations__"), (.str (Str.ofString "__annotations__") 170), (.ref 6)⟩, ⟨PyData.keyHash P (Str.ofString "__builtins__"), (.str (Str.ofString "__builtins__") 171), (.ref 4)⟩, ⟨PyData.keyHash P (Str.ofString "__file__"), (.str (Str.ofString "__file__") 173), (.str (Str.ofString "/claim/cut.py") 172)⟩, ⟨PyData.keyHash P (Str.ofString "__cached__"), (.str (Str.ofString "__cached__") 174), .none⟩, ⟨PyData.keyHash P (Str.ofString "_sre"), (.str (Str.ofString "_sre") 275), (.ref 12)⟩, ⟨PyData.keyHash P (Str.ofString "_wall"), (.str (Str.ofString "_wall") 288), (.ref 38)⟩, ⟨PyData.keyHash P (Str.ofString "c7_set"), (.str (Str.ofString "c7_set") 318), (.ref 40)⟩, ⟨PyData.keyHash P (Str.ofString "in_table_c7"), (.str (Str.ofString "in_table_c7") 325), (.ref 50)⟩, ⟨PyData.keyHash P (Str.ofString "_parse_varint"), (.str (Str.ofString "_parse_varint") 336), (.ref 57)⟩, ⟨PyData.keyHash P (Str.ofString "_twin_re_1"), (.str (Str.ofString "_twin_re_1") 354), (.ref 62)⟩, ⟨PyData.keyHash P (Str.ofString "_twin_re_2"), (.str (Str.ofString "_twin_re_2") 396), (.ref 67)⟩, ⟨PyData.keyHash P (Str.ofString "CRLF"), (.str (Str.ofString "CRLF") 398), (.str (Str.mk #[13, 10]) 397)⟩, ⟨PyData.keyHash P (Str.ofString "quotedata"), (.str (Str.ofString "quotedata") 405), (.ref 74)⟩, ⟨PyData.keyHash P (Str.ofString "tspecials"), (.str (Str.ofString "tspecials") 441), (.ref 79)⟩, ⟨PyData.keyHash P (Str.ofString "_name_disallowed_re"), (.str (Str.ofString "_name_disallowed_re") 467), (.ref 84)⟩, ⟨PyData.keyHash P (Str.ofString "_value_disallowed_re"), (.str (Str.ofString "_value_disallowed_re") 501), (.ref 89)⟩, ⟨PyData.keyHash P (Str.ofString "_formatparam"), (.str (Str.ofString "_formatparam") 511), (.ref 97)⟩, ⟨PyData.keyHash P (Str.ofString "Headers"), (.str (Str.ofString "Headers") 668), (.ref 218)⟩] 23, slots := #[] }
noncomputable def e29 (P : Params) : Obj := { cls := .none, dict := none, data := .fields #[(.int 2 0), (.int 0 0), (.ref 37), (.int 7 0), (.int 0 0), (.ref 49), (.int 10 0), (.int 0 0), (.ref 56), (.int 22 0), (.int 0 0), (.ref 73), (.int 28 0), (.int 0 0), (.ref 96), (.int 37 0), (.int 0 0), (.ref 103)], slots := #[] }
noncomputable def e99 (P : Params) : Obj := { cls := (.type "builtin_function_or_method"), dict := none, data := .fields #[(.builtin "type.__prepare__"), (.type "type")], slots := #[] }
noncomputable def e100 (P : Params) : Obj := { cls := (.type "dict"), dict := none, data := .dict #[⟨PyData.keyHash P (Str.ofString "__module__"), (.str (Str.ofString "__module__") 519), (.str (Str.ofString "cpy313.wsgiref.headers") 406)⟩, ⟨PyData.keyHash P (Str.ofString "__qualname__"), (.str (Str.ofString "__qualname__") 521), (.str (Str.ofString "Headers") 520)⟩, ⟨PyData.keyHash P (Str.ofString "__firstlineno__"), (.str (Str.ofString "__firstlineno__") 523), (.int 37 522)⟩, ⟨PyData.keyHash P (Str.ofString "__init__"), (.str (Str.ofString "__init__") 533), (.ref 112)⟩, ⟨PyData.keyHash P (Str.ofString "_convert_string_type"), (.str (Str.ofString "_convert_string_type") 543), (.ref 119)⟩, ⟨PyData.keyHash P (Str.ofString "__len__"), (.str (Str.ofString "__len__") 550), (.ref 126)⟩, ⟨PyData.keyHash P (Str.ofString "__setitem__"), (.str (Str.ofString "__setitem__") 559), (.ref 133)⟩, ⟨PyData.keyHash P (Str.ofString "__delitem__"), (.str (Str.ofString "__delitem__") 565), (.ref 138)⟩, ⟨PyData.keyHash P (Str.ofString "__getitem__"), (.str (Str.ofString "__getitem__") 573), (.ref 145)⟩, ⟨PyData.keyHash P (Str.ofString "__contains__"), (.str (Str.ofString "__contains__") 581), (.ref 152)⟩, ⟨PyData.keyHash P (Str.ofString "get_all"), (.str (Str.ofString "get_all") 587), (.ref 157)⟩, ⟨PyData.keyHash P (Str.ofString "get"), (.str (Str.ofString "get") 598), (.ref 165)⟩, ⟨PyData.keyHash P (Str.ofString "keys"), (.str (Str.ofString "keys") 604), (.ref 170)⟩, ⟨PyData.keyHash P (Str.ofString "values"), (.str (Str.ofString "values") 610), (.ref 175)⟩, ⟨PyData.keyHash P (Str.ofString "items"), (.str (Str.ofString "items") 617), (.ref 182)⟩, ⟨PyData.keyHash P (Str.ofString "__repr__"), (.str (Str.ofString "__repr__") 624), (.ref 189)⟩, ⟨PyData.keyHash P (Str.ofString "__str__"), (.str (Str.ofString "__str__") 630), (.ref 194)⟩, ⟨PyData.keyHash P (Str.ofString "__bytes__"), (.str (Str.ofString "__bytes__") 637), (.ref 201)⟩, ⟨PyData.keyHash P (Str.ofString "setdefault"), (.str (Str.ofString "setdefault") 646), (.ref 208)⟩, ⟨PyData.keyHash P (Str.ofString "add_header"), (.str (Str.ofString "add_header") 659), (.ref 215)⟩, ⟨PyData.keyHash P (Str.ofString "__static_attributes__"), (.str (Str.ofString "__static_attributes__") 661), (.ref 216)⟩] 21, slots := #[] }
noncomputable def e102 (P : Params) : Obj := { cls := .none, dict := none, data := .fields #[(.int 39 0), (.int 4 0), (.ref 111), (.int 49 0), (.int 4 0), (.ref 118), (.int 57 0), (.int 4 0), (.ref 125), (.int 60 0), (.int 4 0), (.ref 132), (.int 64 0), (.int 4 0), (.ref 137), (.int 68 0), (.int 4 0), (.ref 144), (.int 71 0), (.int 4 0), (.ref 151), (.int 74 0), (.int 4 0), (.ref 156), (.int 78 0), (.int 4 0), (.ref 164), (.int 85 0), (.int 4 0), (.ref 169), (.int 88 0), (.int 4 0), (.ref 174), (.int 91 0), (.int 4 0), (.ref 181), (.int 94 0), (.int 4 0), (.ref 188), (.int 97 0), (.int 4 0), (.ref 193), (.int 100 0), (.int 4 0), (.ref 200), (.int 103 0), (.int 4 0), (.ref 207), (.int 106 0), (.int 4 0), (.ref 214)], slots := #[] }
noncomputable def e103 (P : Params) : Obj := { cls := (.type "code"), dict := none, data := .fields #[(.str (Str.ofString "Headers") 514), (.str (Str.ofString "Headers") 515), (.str (Str.ofString "/claim/cut.py") 516), (.int 37 0), (.int 0 0), (.int 0 0), (.int 0 0), (.int 0 0), (.ref 101), (.bool false), (.int 276 0), (.ref 102), .none, .none, .none, .none, (.int 517 0), (.int 37 0), (.str (Str.ofString "/claim/cut.py") 518)], slots := #[] }
noncomputable def e104 (P : Params) : Obj := { cls := (.type "frame"), dict := none, data := .plain, slots := #[(some (.ref 103)), (some (.ref 3)), (some (.ref 100)), none, (some (.str (Str.ofString "cpy313.wsgiref.headers") 406)), none, (some (.ref 0))] }
noncomputable def e108 (P : Params) : Obj := { cls := (.type "tuple"), dict := none, data := .seq #[(.str (Str.ofString "self") 527), (.str (Str.ofString "headers") 528), (.str (Str.ofString "k") 529), (.str (Str.ofString "v") 530)] 0, slots := #[] }
noncomputable def e110 (P : Params) : Obj := { cls := .none, dict := none, data := .func { name := (Str.ofString "__init__"), qualname := (Str.ofString "Headers.__init__"), params := stArgs (clsAt 17 0), body := .stmts (stBody (clsAt 17 0)), scope := stScope (clsAt 17 0), globals := 0, closure := [], defaults := .none, kwdefaults := .none, doc := .none, pyModule := .none, annotations := none, code := .none, closureTuple := .none, builtins := 0 }, slots := #[] }
noncomputable def e115 (P : Params) : Obj := { cls := (.type "tuple"), dict := none, data := .seq #[(.str (Str.ofString "self") 537), (.str (Str.ofString "value") 538), (.str (Str.ofString "name") 539), (.str (Str.ofString "regex") 540)] 0, slots := #[] }
noncomputable def e117 (P : Params) : Obj := { cls := .none, dict := none, data := .func { name := (Str.ofString "_convert_string_type"), qualname := (Str.ofString "Headers._convert_string_type"), params := stArgs (clsAt 17 1), body := .stmts (stBody (clsAt 17 1)), scope := stScope (clsAt 17 1), globals := 0, closure := [], defaults := .none, kwdefaults := .none, doc := .none, pyModule := .none, annotations := none, code := .none, closureTuple := .none, builtins := 0 }, slots := #[] }
noncomputable def e122 (P : Params) : Obj := { cls := (.type "tuple"), dict := none, data := .seq #[(.str (Str.ofString "self") 547)] 0, slots := #[] }
noncomputable def e124 (P : Params) : Obj := { cls := .none, dict := none, data := .func { name := (Str.ofString "__len__"), qualname := (Str.ofString "Headers.__len__"), params := stArgs (clsAt 17 2), body := .stmts (stBody (clsAt 17 2)), scope := stScope (clsAt 17 2), globals := 0, closure := [], defaults := .none, kwdefaults := .none, doc := .none, pyModule := .none, annotations := none, code := .none, closureTuple := .none, builtins := 0 }, slots := #[] }
noncomputable def e125 (P : Params) : Obj := { cls := (.type "code"), dict := none, data := .fields #[(.str (Str.ofString "__len__") 544), (.str (Str.ofString "Headers.__len__") 545), (.str (Str.ofString "/claim/cut.py") 546), (.int 57 0), (.int 1 0), (.int 0 0), (.int 0 0), (.int 3 0), (.ref 120), (.bool true), (.int 276 0), (.ref 121), .none, (.ref 122), (.ref 123), (.ref 124), (.int 548 0), (.int 57 0), (.str (Str.ofString "/claim/cut.py") 549)], slots := #[] }
noncomputable def e126 (P : Params) : Obj := { cls := (.type "function"), dict := none, data := .func { name := (Str.ofString "__len__"), qualname := (Str.ofString "Headers.__len__"), params := stArgs (clsAt 17 2), body := .stmts (stBody (clsAt 17 2)), scope := stScope (clsAt 17 2), globals := 3, closure := [], defaults := .none, kwdefaults := .none, doc := .none, pyModule := (.str (Str.ofString "cpy313.wsgiref.headers") 406), annotations := none, code := (.ref 125), closureTuple := .none, builtins := 0 }, slots := #[] }
noncomputable def e129 (P : Params) : Obj := { cls := (.type "tuple"), dict := none, data := .seq #[(.str (Str.ofString "self") 554), (.str (Str.ofString "name") 555), (.str (Str.ofString "val") 556)] 0, slots := #[] }
noncomputable def e131 (P : Params) : Obj := { cls := .none, dict := none, data := .func { name := (Str.ofString "__setitem__"), qualname := (Str.ofString "Headers.__setitem__"), params := stArgs (clsAt 17 3), body := .stmts (stBody (clsAt 17 3)), scope := stScope (clsAt 17 3), globals := 0, closure := [], defaults := .none, kwdefaults := .none, doc := .none, pyModule := .none, annotations := none, code := .none, closureTuple := .none, builtins := 0 }, slots := #[] }
noncomputable def e132 (P : Params) : Obj := { cls := (.type "code"), dict := none, data := .fields #[(.str (Str.ofString "__setitem__") 551), (.str (Str.ofString "Headers.__setitem__") 552), (.str (Str.ofString "/claim/cut.py") 553), (.int 60 0), (.int 3 0), (.int 0 0), (.int 0 0), (.int 3 0), (.ref 127), (.bool true), (.int 276 0), (.ref 128), .none, (.ref 129), (.ref 130), (.ref 131), (.int 557 0), (.int 60 0), (.str (Str.ofString "/claim/cut.py") 558)], slots := #[] }
noncomputable def e133 (P : Params) : Obj := { cls := (.type "function"), dict := none, data := .func { name := (Str.ofString "__setitem__"), qualname := (Str.ofString "Headers.__setitem__"), params := stArgs (clsAt 17 3), body := .stmts (stBody (clsAt 17 3)), scope := stScope (clsAt 17 3), globals := 3, closure := [], defaults := .none, kwdefaults := .none, doc := .none, pyModule := (.str (Str.ofString "cpy313.wsgiref.headers") 406), annotations := none, code := (.ref 132), closureTuple := .none, builtins := 0 }, slots := #[] }
noncomputable def e136 (P : Params) : Obj := { cls := .none, dict := none, data := .func { name := (Str.ofString "__delitem__"), qualname := (Str.ofString "Headers.__delitem__"), params := stArgs (clsAt 17 4), body := .stmts (stBody (clsAt 17 4)), scope := stScope (clsAt 17 4), globals := 0, closure := [], defaults := .none, kwdefaults := .none, doc := .none, pyModule := .none, annotations := none, code := .none, closureTuple := .none, builtins := 0 }, slots := #[] }
noncomputable def e137 (P : Params) : Obj := { cls := (.type "code"), dict := none, data := .fields #[(.str (Str.ofString "__delitem__") 560), (.str (Str.ofString "Headers.__delitem__") 561), (.str (Str.ofString "/claim/cut.py") 562), (.int 64 0), (.int 2 0), (.int 0 0), (.int 0 0), (.int 3 0), (.ref 134), (.bool true), (.int 276 0), (.ref 135), .none, .none, .none, (.ref 136), (.int 563 0), (.int 64 0), (.str (Str.ofString "/claim/cut.py") 564)], slots := #[] }
noncomputable def e138 (P : Params) : Obj := { cls := (.type "function"), dict := none, data := .func { name := (Str.ofString "__delitem__"), qualname := (Str.ofString "Headers.__delitem__"), params := stArgs (clsAt 17 4), body := .stmts (stBody (clsAt 17 4)), scope := stScope (clsAt 17 4), globals := 3, closure := [], defaults := .none, kwdefaults := .none, doc := .none, pyModule := (.str (Str.ofString "cpy313.wsgiref.headers") 406), annotations := none, code := (.ref 137), closureTuple := .none, builtins := 0 }, slots := #[] }
noncomputable def e141 (P : Params) : Obj := { cls := (.type "tuple"), dict := none, data := .seq #[(.str (Str.ofString "self") 569), (.str (Str.ofString "name") 570)] 0, slots := #[] }
noncomputable def e143 (P : Params) : Obj := { cls := .none, dict := none, data := .func { name := (Str.ofString "__getitem__"), qualname := (Str.ofString "Headers.__getitem__"), params := stArgs (clsAt 17 5), body := .stmts (stBody (clsAt 17 5)), scope := stScope (clsAt 17 5), globals := 0, closure := [], defaults := .none, kwdefaults := .none, doc := .none, pyModule := .none, annotations := none, code := .none, closureTuple := .none, builtins := 0 }, slots := #[] }
noncomputable def e144 (P : Params) : Obj := { cls := (.type "code"), dict := none, data := .fields #[(.str (Str.ofString "__getitem__") 566), (.str (Str.ofString "Headers.__getitem__") 567), (.str (Str.ofString "/claim/cut.py") 568), (.int 68 0), (.int 2 0), (.int 0 0), (.int 0 0), (.int 3 0), (.ref 139), (.bool true), (.int 276 0), (.ref 140), .none, (.ref 141), (.ref 142), (.ref 143), (.int 571 0), (.int 68 0), (.str (Str.ofString "/claim/cut.py") 572)], slots := #[] }
noncomputable def e145 (P : Params) : Obj := { cls := (.type "function"), dict := none, data := .func { name := (Str.ofString "__getitem__"), qualname := (Str.ofString "Headers.__getitem__"), params := stArgs (clsAt 17 5), body := .stmts (stBody (clsAt 17 5)), scope := stScope (clsAt 17 5), globals := 3, closure := [], defaults := .none, kwdefaults := .none, doc := .none, pyModule := (.str (Str.ofString "cpy313.wsgiref.headers") 406), annotations := none, code := (.ref 144), closureTuple := .none, builtins := 0 }, slots := #[] }
noncomputable def e148 (P : Params) : Obj := { cls := (.type "tuple"), dict := none, data := .seq #[(.str (Str.ofString "self") 577), (.str (Str.ofString "name") 578)] 0, slots := #[] }
noncomputable def e150 (P : Params) : Obj := { cls := .none, dict := none, data := .func { name := (Str.ofString "__contains__"), qualname := (Str.ofString "Headers.__contains__"), params := stArgs (clsAt 17 6), body := .stmts (stBody (clsAt 17 6)), scope := stScope (clsAt 17 6), globals := 0, closure := [], defaults := .none, kwdefaults := .none, doc := .none, pyModule := .none, annotations := none, code := .none, closureTuple := .none, builtins := 0 }, slots := #[] }
noncomputable def e151 (P : Params) : Obj := { cls := (.type "code"), dict := none, data := .fields #[(.str (Str.ofString "__contains__") 574), (.str (Str.ofString "Headers.__contains__") 575), (.str (Str.ofString "/claim/cut.py") 576), (.int 71 0), (.int 2 0), (.int 0 0), (.int 0 0), (.int 3 0), (.ref 146), (.bool true), (.int 276 0), (.ref 147), .none, (.ref 148), (.ref 149), (.ref 150), (.int 579 0), (.int 71 0), (.str (Str.ofString "/claim/cut.py") 580)], slots := #[] }
noncomputable def e152 (P : Params) : Obj := { cls := (.type "function"), dict := none, data := .func { name := (Str.ofString "__contains__"), qualname := (Str.ofString "Headers.__contains__"), params := stArgs (clsAt 17 6), body := .stmts (stBody (clsAt 17 6)), scope := stScope (clsAt 17 6), globals := 3, closure := [], defaults := .none, kwdefaults := .none, doc := .none, pyModule := (.str (Str.ofString "cpy313.wsgiref.headers") 406), annotations := none, code := (.ref 151), closureTuple := .none, builtins := 0 }, slots := #[] }
noncomputable def e155 (P : Params) : Obj := { cls := .none, dict := none, data := .func { name := (Str.ofString "get_all"), qualname := (Str.ofString "Headers.get_all"), params := stArgs (clsAt 17 7), body := .stmts (stBody (clsAt 17 7)), scope := stScope (clsAt 17 7), globals := 0, closure := [], defaults := .none, kwdefaults := .none, doc := .none, pyModule := .none, annotations := none, code := .none, closureTuple := .none, builtins := 0 }, slots := #[] }
noncomputable def e161 (P : Params) : Obj := { cls := (.type "tuple"), dict := none, data := .seq #[(.str (Str.ofString "self") 591), (.str (Str.ofString "name") 592), (.str (Str.ofString "default") 593), (.str (Str.ofString "k") 594), (.str (Str.ofString "v") 595)] 0, slots := #[] }
noncomputable def e163 (P : Params) : Obj := { cls := .none, dict := none, data := .func { name := (Str.ofString "get"), qualname := (Str.ofString "Headers.get"), params := stArgs (clsAt 17 8), body := .stmts (stBody (clsAt 17 8)), scope := stScope (clsAt 17 8), globals := 0, closure := [], defaults := .none, kwdefaults := .none, doc := .none, pyModule := .none, annotations := none, code := .none, closureTuple := .none, builtins := 0 }, slots := #[] }
noncomputable def e164 (P : Params) : Obj := { cls := (.type "code"), dict := none, data := .fields #[(.str (Str.ofString "get") 588), (.str (Str.ofString "Headers.get") 589), (.str (Str.ofString "/claim/cut.py") 590), (.int 78 0), (.int 3 0), (.int 0 0), (.int 0 0), (.int 3 0), (.ref 159), (.bool true), (.int 276 0), (.ref 160), .none, (.ref 161), (.ref 162), (.ref 163), (.int 596 0), (.int 78 0), (.str (Str.ofString "/claim/cut.py") 597)], slots := #[] }
noncomputable def e165 (P : Params) : Obj := { cls := (.type "function"), dict := none, data := .func { name := (Str.ofString "get"), qualname := (Str.ofString "Headers.get"), params := stArgs (clsAt 17 8), body := .stmts (stBody (clsAt 17 8)), scope := stScope (clsAt 17 8), globals := 3, closure := [], defaults := (.ref 158), kwdefaults := .none, doc := .none, pyModule := (.str (Str.ofString "cpy313.wsgiref.headers") 406), annotations := none, code := (.ref 164), closureTuple := .none, builtins := 0 }, slots := #[] }
noncomputable def e168 (P : Params) : Obj := { cls := .none, dict := none, data := .func { name := (Str.ofString "keys"), qualname := (Str.ofString "Headers.keys"), params := stArgs (clsAt 17 9), body := .stmts (stBody (clsAt 17 9)), scope := stScope (clsAt 17 9), globals := 0, closure := [], defaults := .none, kwdefaults := .none, doc := .none, pyModule := .none, annotations := none, code := .none, closureTuple := .none, builtins := 0 }, slots := #[] }
noncomputable def e169 (P : Params) : Obj := { cls := (.type "code"), dict := none, data := .fields #[(.str (Str.ofString "keys") 599), (.str (Str.ofString "Headers.keys") 600), (.str (Str.ofString "/claim/cut.py") 601), (.int 85 0), (.int 1 0), (.int 0 0), (.int 0 0), (.int 3 0), (.ref 166), (.bool true), (.int 276 0), (.ref 167), .none, .none, .none, (.ref 168), (.int 602 0), (.int 85 0), (.str (Str.ofString "/claim/cut.py") 603)], slots := #[] }
noncomputable def e170 (P : Params) : Obj := { cls := (.type "function"), dict := none, data := .func { name := (Str.ofString "keys"), qualname := (Str.ofString "Headers.keys"), params := stArgs (clsAt 17 9), body := .stmts (stBody (clsAt 17 9)), scope := stScope (clsAt 17 9), globals := 3, closure := [], defaults := .none, kwdefaults := .none, doc := .none, pyModule := (.str (Str.ofString "cpy313.wsgiref.headers") 406), annotations := none, code := (.ref 169), closureTuple := .none, builtins := 0 }, slots := #[] }
noncomputable def e173 (P : Params) : Obj := { cls := .none, dict := none, data := .func { name := (Str.ofString "values"), qualname := (Str.ofString "Headers.values"), params := stArgs (clsAt 17 10), body := .stmts (stBody (clsAt 17 10)), scope := stScope (clsAt 17 10), globals := 0, closure := [], defaults := .none, kwdefaults := .none, doc := .none, pyModule := .none, annotations := none, code := .none, closureTuple := .none, builtins := 0 }, slots := #[] }
noncomputable def e174 (P : Params) : Obj := { cls := (.type "code"), dict := none, data := .fields #[(.str (Str.ofString "values") 605), (.str (Str.ofString "Headers.values") 606), (.str (Str.ofString "/claim/cut.py") 607), (.int 88 0), (.int 1 0), (.int 0 0), (.int 0 0), (.int 3 0), (.ref 171), (.bool true), (.int 276 0), (.ref 172), .none, .none, .none, (.ref 173), (.int 608 0), (.int 88 0), (.str (Str.ofString "/claim/cut.py") 609)], slots := #[] }
noncomputable def e175 (P : Params) : Obj := { cls := (.type "function"), dict := none, data := .func { name := (Str.ofString "values"), qualname := (Str.ofString "Headers.values"), params := stArgs (clsAt 17 10), body := .stmts (stBody (clsAt 17 10)), scope := stScope (clsAt 17 10), globals := 3, closure := [], defaults := .none, kwdefaults := .none, doc := .none, pyModule := (.str (Str.ofString "cpy313.wsgiref.headers") 406), annotations := none, code := (.ref 174), closureTuple := .none, builtins := 0 }, slots := #[] }
noncomputable def e178 (P : Params) : Obj := { cls := (.type "tuple"), dict := none, data := .seq #[(.str (Str.ofString "self") 614)] 0, slots := #[] }
noncomputable def e180 (P : Params) : Obj := { cls := .none, dict := none, data := .func { name := (Str.ofString "items"), qualname := (Str.ofString "Headers.items"), params := stArgs (clsAt 17 11), body := .stmts (stBody (clsAt 17 11)), scope := stScope (clsAt 17 11), globals := 0, closure := [], defaults := .none, kwdefaults := .none, doc := .none, pyModule := .none, annotations := none, code := .none, closureTuple := .none, builtins := 0 }, slots := #[] }
noncomputable def e185 (P : Params) : Obj := { cls := (.type "tuple"), dict := none, data := .seq #[(.str (Str.ofString "self") 621)] 0, slots := #[] }
noncomputable def e187 (P : Params) : Obj := { cls := .none, dict := none, data := .func { name := (Str.ofString "__repr__"), qualname := (Str.ofString "Headers.__repr__"), params := stArgs (clsAt 17 12), body := .stmts (stBody (clsAt 17 12)), scope := stScope (clsAt 17 12), globals := 0, closure := [], defaults := .none, kwdefaults := .none, doc := .none, pyModule := .none, annotations := none, code := .none, closureTuple := .none, builtins := 0 }, slots := #[] }
noncomputable def e188 (P : Params) : Obj := { cls := (.type "code"), dict := none, data := .fields #[(.str (Str.ofString "__repr__") 618), (.str (Str.ofString "Headers.__repr__") 619), (.str (Str.ofString "/claim/cut.py") 620), (.int 94 0), (.int 1 0), (.int 0 0), (.int 0 0), (.int 3 0), (.ref 183), (.bool true), (.int 276 0), (.ref 184), .none, (.ref 185), (.ref 186), (.ref 187), (.int 622 0), (.int 94 0), (.str (Str.ofString "/claim/cut.py") 623)], slots := #[] }
noncomputable def e189 (P : Params) : Obj := { cls := (.type "function"), dict := none, data := .func { name := (Str.ofString "__repr__"), qualname := (Str.ofString "Headers.__repr__"), params := stArgs (clsAt 17 12), body := .stmts (stBody (clsAt 17 12)), scope := stScope (clsAt 17 12), globals := 3, closure := [], defaults := .none, kwdefaults := .none, doc := .none, pyModule := (.str (Str.ofString "cpy313.wsgiref.headers") 406), annotations := none, code := (.ref 188), closureTuple := .none, builtins := 0 }, slots := #[] }
noncomputable def e192 (P : Params) : Obj := { cls := .none, dict := none, data := .func { name := (Str.ofString "__str__"), qualname := (Str.ofString "Headers.__str__"), params := stArgs (clsAt 17 13), body := .stmts (stBody (clsAt 17 13)), scope := stScope (clsAt 17 13), globals := 0, closure := [], defaults := .none, kwdefaults := .none, doc := .none, pyModule := .none, annotations := none, code := .none, closureTuple := .none, builtins := 0 }, slots := #[] }
noncomputable def e197 (P : Params) : Obj := { cls := (.type "tuple"), dict := none, data := .seq #[(.str (Str.ofString "self") 634)] 0, slots := #[] }
noncomputable def e199 (P : Params) : Obj := { cls := .none, dict := none, data := .func { name := (Str.ofString "__bytes__"), qualname := (Str.ofString "Headers.__bytes__"), params := stArgs (clsAt 17 14), body := .stmts (stBody (clsAt 17 14)), scope := stScope (clsAt 17 14), globals := 0, closure := [], defaults := .none, kwdefaults := .none, doc := .none, pyModule := .none, annotations := none, code := .none, closureTuple := .none, builtins := 0 }, slots := #[] }
noncomputable def e200 (P : Params) : Obj := { cls := (.type "code"), dict := none, data := .fields #[(.str (Str.ofString "__bytes__") 631), (.str (Str.ofString "Headers.__bytes__") 632), (.str (Str.ofString "/claim/cut.py") 633), (.int 100 0), (.int 1 0), (.int 0 0), (.int 0 0), (.int 3 0), (.ref 195), (.bool true), (.int 276 0), (.ref 196), .none, (.ref 197), (.ref 198), (.ref 199), (.int 635 0), (.int 100 0), (.str (Str.ofString "/claim/cut.py") 636)], slots := #[] }
noncomputable def e201 (P : Params) : Obj := { cls := (.type "function"), dict := none, data := .func { name := (Str.ofString "__bytes__"), qualname := (Str.ofString "Headers.__bytes__"), params := stArgs (clsAt 17 14), body := .stmts (stBody (clsAt 17 14)), scope := stScope (clsAt 17 14), globals := 3, closure := [], defaults := .none, kwdefaults := .none, doc := .none, pyModule := (.str (Str.ofString "cpy313.wsgiref.headers") 406), annotations := none, code := (.ref 200), closureTuple := .none, builtins := 0 }, slots := #[] }
noncomputable def e204 (P : Params) : Obj := { cls := (.type "tuple"), dict := none, data := .seq #[(.str (Str.ofString "self") 641), (.str (Str.ofString "name") 642), (.str (Str.ofString "value") 643)] 0, slots := #[] }
noncomputable def e206 (P : Params) : Obj := { cls := .none, dict := none, data := .func { name := (Str.ofString "setdefault"), qualname := (Str.ofString "Headers.setdefault"), params := stArgs (clsAt 17 15), body := .stmts (stBody (clsAt 17 15)), scope := stScope (clsAt 17 15), globals := 0, closure := [], defaults := .none, kwdefaults := .none, doc := .none, pyModule := .none, annotations := none, code := .none, closureTuple := .none, builtins := 0 }, slots := #[] }
noncomputable def e207 (P : Params) : Obj := { cls := (.type "code"), dict := none, data := .fields #[(.str (Str.ofString "setdefault") 638), (.str (Str.ofString "Headers.setdefault") 639), (.str (Str.ofString "/claim/cut.py") 640), (.int 103 0), (.int 3 0), (.int 0 0), (.int 0 0), (.int 3 0), (.ref 202), (.bool true), (.int 276 0), (.ref 203), .none, (.ref 204), (.ref 205), (.ref 206), (.int 644 0), (.int 103 0), (.str (Str.ofString "/claim/cut.py") 645)], slots := #[] }
noncomputable def e208 (P : Params) : Obj := { cls := (.type "function"), dict := none, data := .func { name := (Str.ofString "setdefault"), qualname := (Str.ofString "Headers.setdefault"), params := stArgs (clsAt 17 15), body := .stmts (stBody (clsAt 17 15)), scope := stScope (clsAt 17 15), globals := 3, closure := [], defaults := .none, kwdefaults := .none, doc := .none, pyModule := (.str (Str.ofString "cpy313.wsgiref.headers") 406), annotations := none, code := (.ref 207), closureTuple := .none, builtins := 0 }, slots := #[] }
noncomputable def e211 (P : Params) : Obj := { cls := (.type "tuple"), dict := none, data := .seq #[(.str (Str.ofString "self") 650), (.str (Str.ofString "_name") 651), (.str (Str.ofString "_value") 652), (.str (Str.ofString "_params") 653), (.str (Str.ofString "parts") 654), (.str (Str.ofString "k") 655), (.str (Str.ofString "v") 656)] 0, slots := #[] }
noncomputable def e213 (P : Params) : Obj := { cls := .none, dict := none, data := .func { name := (Str.ofString "add_header"), qualname := (Str.ofString "Headers.add_header"), params := stArgs (clsAt 17 16), body := .stmts (stBody (clsAt 17 16)), scope := stScope (clsAt 17 16), globals := 0, closure := [], defaults := .none, kwdefaults := .none, doc := .none, pyModule := .none, annotations := none, code := .none, closureTuple := .none, builtins := 0 }, slots := #[] }
noncomputable def e216 (P : Params) : Obj := { cls := (.type "tuple"), dict := none, data := .seq #[(.str (Str.ofString "_headers") 660)] 0, slots := #[] }
noncomputable def e219 (P : Params) : Obj := { cls := (.type "getset_descriptor"), dict := none, data := .fields #[(.str (Str.ofString "__dict__") 662), (.ref 218), (.builtin "function.__dict__"), (.builtin "function.__dict__#set")], slots := #[] }
noncomputable def e220 (P : Params) : Obj := { cls := (.type "getset_descriptor"), dict := none, data := .fields #[(.str (Str.ofString "__weakref__") 664), (.ref 218), (.builtin "ExceptionGroup.__weakref__"), .none], slots := #[] }
noncomputable def e221 (P : Params) : Obj := { cls := (.type "super"), dict := none, data := .fields #[(.ref 218), (.ref 218), (.ref 218)], slots := #[] }
noncomputable def e222 (P : Params) : Obj := { cls := (.type "builtin_function_or_method"), dict := none, data := .fields #[(.builtin "object.__init_subclass__"), (.ref 218)], slots := #[] }
noncomputable def eHeap (P : Params) : Heap := ⟨#[k0 P, a1 P, k2 P, e3 P, a4 P, a5 P, a6 P, a7 P, a8 P, a9 P, a10 P, a11 P, a12 P, a13 P, a14 P, a7 P, a16 P, a17 P, a18 P, a19 P, a20 P, a21 P, a22 P, a23 P, a24 P, a25 P, a26 P, a27 P, a7 P, e29 P, b30 P, b31 P, a7 P, a8 P, c34 P, a7 P, c36 P, c37 P, c38 P, c39 P, k40 P, c41 P, a7 P, c43 P, a7 P, a8 P, d46 P, a7 P, d48 P, k49 P, k50 P, a7 P, a8 P, d53 P, a7 P, d55 P, k56 P, k57 P, d58 P, a6 P, k105 P, k61 P, k62 P, d63 P, a6 P, k105 P, k66 P, k67 P, a7 P, a8 P, d70 P, a7 P, d72 P, k73 P, k74 P, d75 P, a6 P, k105 P, d78 P, d79 P, d80 P, a6 P, k105 P, k83 P, k84 P, d85 P, a6 P, k105 P, k88 P, k89 P, d90 P, a7 P, a8 P, d93 P, a7 P, d95 P, d96 P, d97 P, a7 P, e99 P, e100 P, a7 P, e102 P, e103 P, e104 P, k105 P, a7 P, a8 P, e108 P, a7 P, e110 P, k111 P, k112 P, a7 P, a8 P, e115 P, a7 P, e117 P, k118 P, k119 P, a7 P, a8 P, e122 P, a7 P, e124 P, e125 P, e126 P, a7 P, a8 P, e129 P, a7 P, e131 P, e132 P, e133 P, a7 P, a8 P, e136 P, e137 P, e138 P, a7 P, a8 P, e141 P, a7 P, e143 P, e144 P, e145 P, a7 P, a8 P, e148 P, a7 P, e150 P, e151 P, e152 P, a7 P, a8 P, e155 P, k156 P, k157 P, k105 P, a7 P, a8 P, e161 P, a7 P, e163 P, e164 P, e165 P, a7 P, a8 P, e168 P, e169 P, e170 P, a7 P, a8 P, e173 P, e174 P, e175 P, a7 P, a8 P, e178 P, a7 P, e180 P, k181 P, k182 P, a7 P, a8 P, e185 P, a7 P, e187 P, e188 P, e189 P, a7 P, a8 P, e192 P, k193 P, k194 P, a7 P, a8 P, e197 P, a7 P, e199 P, e200 P, e201 P, a7 P, a8 P, e204 P, a7 P, e206 P, e207 P, e208 P, a7 P, a8 P, e211 P, a7 P, e213 P, k214 P, k215 P, e216 P, k217 P, k218 P, e219 P, e220 P, e221 P, e222 P], {}⟩
noncomputable def cBT (P : Params) : BT := .node (k0 P) (.node (a1 P) (.node (c3 P) (.node (a7 P) (.node (a7 P) (.node (b31 P) .nil .nil) .nil) (.node (a23 P) (.node (c39 P) .nil .nil) .nil)) (.node (a11 P) (.node (a19 P) (.node (a7 P) .nil .nil) .nil) (.node (a27 P) (.node (c43 P) .nil .nil) .nil))) (.node (a5 P) (.node (a9 P) (.node (a17 P) (.node (a8 P) .nil .nil) .nil) (.node (a25 P) (.node (c41 P) .nil .nil) .nil)) (.node (a13 P) (.node (a21 P) (.node (c37 P) .nil .nil) .nil) (.node (c29 P) .nil .nil)))) (.node (k2 P) (.node (a4 P) (.node (a8 P) (.node (a16 P) (.node (a7 P) .nil .nil) .nil) (.node (a24 P) (.node (k40 P) .nil .nil) .nil)) (.node (a12 P) (.node (a20 P) (.node (c36 P) .nil .nil) .nil) (.node (a7 P) .nil .nil))) (.node (a6 P) (.node (a10 P) (.node (a18 P) (.node (c34 P) .nil .nil) .nil) (.node (a26 P) (.node (a7 P) .nil .nil) .nil)) (.node (a14 P) (.node (a22 P) (.node (c38 P) .nil .nil) .nil) (.node (b30 P) .nil .nil))))
noncomputable def dBT (P : Params) : BT := .node (k0 P) (.node (a1 P) (.node (d3 P) (.node (a7 P) (.node (a7 P) (.node (b31 P) (.node (d63 P) .nil .nil) (.node (d95 P) .nil .nil)) (.node (a7 P) (.node (d79 P) .nil .nil) .nil)) (.node (a23 P) (.node (c39 P) (.node (a7 P) .nil .nil) .nil) (.node (d55 P) (.node (k105 P) .nil .nil) .nil))) (.node (a11 P) (.node (a19 P) (.node (a7 P) (.node (k67 P) .nil .nil) .nil) (.node (a7 P) (.node (k83 P) .nil .nil) .nil)) (.node (a27 P) (.node (c43 P) (.node (d75 P) .nil .nil) .nil) (.node (a6 P) (.node (a7 P) .nil .nil) .nil)))) (.node (a5 P) (.node (a9 P) (.node (a17 P) (.node (a8 P) (.node (k105 P) .nil .nil) (.node (d97 P) .nil .nil)) (.node (k49 P) (.node (a6 P) .nil .nil) .nil)) (.node (a25 P) (.node (c41 P) (.node (k73 P) .nil .nil) .nil) (.node (k57 P) (.node (k89 P) .nil .nil) .nil))) (.node (a13 P) (.node (a21 P) (.node (c37 P) (.node (a8 P) .nil .nil) .nil) (.node (d53 P) (.node (d85 P) .nil .nil) .nil)) (.node (d29 P) (.node (a8 P) (.node (k105 P) .nil .nil) .nil) (.node (k61 P) (.node (d93 P) .nil .nil) .nil))))) (.node (k2 P) (.node (a4 P) (.node (a8 P) (.node (a16 P) (.node (a7 P) (.node (a6 P) .nil .nil) (.node (d96 P) .nil .nil)) (.node (d48 P) (.node (d80 P) .nil .nil) .nil)) (.node (a24 P) (.node (k40 P) (.node (d72 P) .nil .nil) .nil) (.node (k56 P) (.node (k88 P) .nil .nil) .nil))) (.node (a12 P) (.node (a20 P) (.node (c36 P) (.node (a7 P) .nil .nil) .nil) (.node (a8 P) (.node (k84 P) .nil .nil) .nil)) (.node (a7 P) (.node (a7 P) (.node (a6 P) .nil .nil) .nil) (.node (k105 P) (.node (a8 P) .nil .nil) .nil)))) (.node (a6 P) (.node (a10 P) (.node (a18 P) (.node (c34 P) (.node (k66 P) .nil .nil) .nil) (.node (k50 P) (.node (k105 P) .nil .nil) .nil)) (.node (a26 P) (.node (a7 P) (.node (k74 P) .nil .nil) .nil) (.node (d58 P) (.node (d90 P) .nil .nil) .nil))) (.node (a14 P) (.node (a22 P) (.node (c38 P) (.node (d70 P) .nil .nil) .nil) (.node (a7 P) (.node (a6 P) .nil .nil) .nil)) (.node (b30 P) (.node (d46 P) (.node (d78 P) .nil .nil) .nil) (.node (k62 P) (.node (a7 P) .nil .nil) .nil)))))
noncomputable def eBT (P : Params) : BT := .node (k0 P) (.node (a1 P) (.node (e3 P) (.node (a7 P) (.node (a7 P) (.node (b31 P) (.node (d63 P) (.node (a7 P) .nil .nil) (.node (a8 P) .nil .nil)) (.node (d95 P) (.node (a7 P) .nil .nil) .nil)) (.node (a7 P) (.node (d79 P) (.node (e143 P) .nil .nil) (.node (e207 P) .nil .nil)) (.node (k111 P) (.node (e175 P) .nil .nil) .nil))) (.node (a23 P) (.node (c39 P) (.node (a7 P) (.node (a8 P) .nil .nil) (.node (e199 P) .nil .nil)) (.node (e103 P) (.node (a8 P) .nil .nil) .nil)) (.node (d55 P) (.node (k105 P) (.node (e151 P) .nil .nil) (.node (k215 P) .nil .nil)) (.node (k119 P) (.node (a7 P) .nil .nil) .nil)))) (.node (a11 P) (.node (a19 P) (.node (a7 P) (.node (k67 P) (.node (e131 P) .nil .nil) (.node (a7 P) .nil .nil)) (.node (e99 P) (.node (e163 P) .nil .nil) .nil)) (.node (a7 P) (.node (k83 P) (.node (a8 P) .nil .nil) (.node (e211 P) .nil .nil)) (.node (e115 P) (.node (a7 P) .nil .nil) .nil))) (.node (a27 P) (.node (c43 P) (.node (d75 P) (.node (a7 P) .nil .nil) (.node (a8 P) .nil .nil)) (.node (a8 P) (.node (a7 P) .nil .nil) .nil)) (.node (a6 P) (.node (a7 P) (.node (e155 P) .nil .nil) (.node (e219 P) .nil .nil)) (.node (a7 P) (.node (e187 P) .nil .nil) .nil))))) (.node (a5 P) (.node (a9 P) (.node (a17 P) (.node (a8 P) (.node (k105 P) (.node (e129 P) .nil .nil) (.node (k193 P) .nil .nil)) (.node (d97 P) (.node (e161 P) .nil .nil) .nil)) (.node (k49 P) (.node (a6 P) (.node (e145 P) .nil .nil) (.node (a7 P) .nil .nil)) (.node (a7 P) (.node (a8 P) .nil .nil) .nil))) (.node (a25 P) (.node (c41 P) (.node (k73 P) (.node (e137 P) .nil .nil) (.node (e201 P) .nil .nil)) (.node (k105 P) (.node (e169 P) .nil .nil) .nil)) (.node (k57 P) (.node (k89 P) (.node (a7 P) .nil .nil) (.node (k217 P) .nil .nil)) (.node (a8 P) (.node (e185 P) .nil .nil) .nil)))) (.node (a13 P) (.node (a21 P) (.node (c37 P) (.node (a8 P) (.node (e133 P) .nil .nil) (.node (e197 P) .nil .nil)) (.node (a7 P) (.node (e165 P) .nil .nil) .nil)) (.node (d53 P) (.node (d85 P) (.node (a7 P) .nil .nil) (.node (e213 P) .nil .nil)) (.node (e117 P) (.node (k181 P) .nil .nil) .nil))) (.node (e29 P) (.node (a8 P) (.node (k105 P) (.node (e141 P) .nil .nil) (.node (a7 P) .nil .nil)) (.node (a7 P) (.node (e173 P) .nil .nil) .nil)) (.node (k61 P) (.node (d93 P) (.node (k157 P) .nil .nil) (.node (e221 P) .nil .nil)) (.node (e125 P) (.node (e189 P) .nil .nil) .nil)))))) (.node (k2 P) (.node (a4 P) (.node (a8 P) (.node (a16 P) (.node (a7 P) (.node (a6 P) (.node (a8 P) .nil .nil) (.node (e192 P) .nil .nil)) (.node (d96 P) (.node (a8 P) .nil .nil) .nil)) (.node (d48 P) (.node (d80 P) (.node (e144 P) .nil .nil) (.node (e208 P) .nil .nil)) (.node (k112 P) (.node (a7 P) .nil .nil) .nil))) (.node (a24 P) (.node (k40 P) (.node (d72 P) (.node (e136 P) .nil .nil) (.node (e200 P) .nil .nil)) (.node (e104 P) (.node (e168 P) .nil .nil) .nil)) (.node (k56 P) (.node (k88 P) (.node (e152 P) .nil .nil) (.node (e216 P) .nil .nil)) (.node (a7 P) (.node (a8 P) .nil .nil) .nil)))) (.node (a12 P) (.node (a20 P) (.node (c36 P) (.node (a7 P) (.node (e132 P) .nil .nil) (.node (a8 P) .nil .nil)) (.node (e100 P) (.node (e164 P) .nil .nil) .nil)) (.node (a8 P) (.node (k84 P) (.node (e148 P) .nil .nil) (.node (a7 P) .nil .nil)) (.node (a7 P) (.node (e180 P) .nil .nil) .nil))) (.node (a7 P) (.node (a7 P) (.node (a6 P) (.node (a8 P) .nil .nil) (.node (e204 P) .nil .nil)) (.node (e108 P) (.node (a8 P) .nil .nil) .nil)) (.node (k105 P) (.node (a8 P) (.node (k156 P) .nil .nil) (.node (e220 P) .nil .nil)) (.node (e124 P) (.node (e188 P) .nil .nil) .nil))))) (.node (a6 P) (.node (a10 P) (.node (a18 P) (.node (c34 P) (.node (k66 P) (.node (a7 P) .nil .nil) (.node (k194 P) .nil .nil)) (.node (a7 P) (.node (a7 P) .nil .nil) .nil)) (.node (k50 P) (.node (k105 P) (.node (a7 P) .nil .nil) (.node (a8 P) .nil .nil)) (.node (a8 P) (.node (e178 P) .nil .nil) .nil))) (.node (a26 P) (.node (a7 P) (.node (k74 P) (.node (e138 P) .nil .nil) (.node (a7 P) .nil .nil)) (.node (a7 P) (.node (e170 P) .nil .nil) .nil)) (.node (d58 P) (.node (d90 P) (.node (a8 P) .nil .nil) (.node (k218 P) .nil .nil)) (.node (e122 P) (.node (a7 P) .nil .nil) .nil)))) (.node (a14 P) (.node (a22 P) (.node (c38 P) (.node (d70 P) (.node (a7 P) .nil .nil) (.node (a7 P) .nil .nil)) (.node (e102 P) (.node (a7 P) .nil .nil) .nil)) (.node (a7 P) (.node (a6 P) (.node (e150 P) .nil .nil) (.node (k214 P) .nil .nil)) (.node (k118 P) (.node (k182 P) .nil .nil) .nil))) (.node (b30 P) (.node (d46 P) (.node (d78 P) (.node (a7 P) .nil .nil) (.node (e206 P) .nil .nil)) (.node (e110 P) (.node (e174 P) .nil .nil) .nil)) (.node (k62 P) (.node (a7 P) (.node (k105 P) .nil .nil) (.node (e222 P) .nil .nil)) (.node (e126 P) (.node (a7 P) .nil .nil) .nil))))))

end
/-! Q0 -/
section
noncomputable def view : Program := { prg with main := { prg.main with body := [topAt 0, topAt 1, topAt 3, topAt 4, topAt 6, topAt 8, topAt 9, topAt 10, topAt 11, topAt 13, topAt 14, topAt 15, topAt 17, topAt 19, topAt 20, topAt 21, topAt 22, topAt 23, topAt 24, topAt 25, topAt 26, topAt 27] } }
noncomputable abbrev loose : List Str := [Str.ofString "c7_set", Str.ofString "_twin_re_1", Str.ofString "_twin_re_2", Str.ofString "tspecials", Str.ofString "_name_disallowed_re", Str.ofString "_value_disallowed_re", Str.ofString "_formatparam"]
noncomputable abbrev addrs : List Addr := [0, 2, 3, 40, 49, 50, 56, 57, 61, 62, 66, 67, 73, 74, 83, 84, 88, 89, 105, 111, 112, 118, 119, 156, 157, 181, 182, 193, 194, 214, 215, 217, 218, 226, 227, 233, 234, 240, 241, 245, 246, 252, 253, 259, 260, 266, 267, 273, 274, 278, 279]
noncomputable def okX (s : Shared) : Bool := xlAt view [] s && recOk (RowW.records PySem.Challenge.rw_sr0049_01.row.toRowW) s
noncomputable abbrev PZ : Pos := ⟨0, 0, 0, 0⟩
noncomputable abbrev PC : Pos := ⟨6, 0, 6, 6⟩
noncomputable abbrev PD : Pos := ⟨28, 0, 36, 20⟩
noncomputable abbrev PE : Pos := ⟨37, 0, 118, 93⟩
noncomputable def env0 : Env := { scope := prg.main.scope, locals := mainNs, globals := mainNs, cells := [], code := .ref 30, frame := some 31 }
noncomputable abbrev bd0 : List Stmt := behindTheImports prg
noncomputable abbrev c0 : Code := .body bd0 env0
noncomputable abbrev an0 : Option Value := some (.ref 6)
noncomputable abbrev SA (w : World) (os : OsState) : Shared := ⟨aHeap w.params, #[], {}, 276, os⟩
noncomputable abbrev SB (w : World) (os : OsState) : Shared := ⟨bHeap w.params, #[], {}, 282, os⟩
noncomputable abbrev SC (w : World) (os : OsState) : Shared := ⟨cHeap w.params, #[], {}, 319, os⟩
noncomputable abbrev SD (w : World) (os : OsState) : Shared := ⟨dHeap w.params, #[], {}, 512, os⟩
noncomputable abbrev SE (w : World) (os : OsState) : Shared := ⟨eHeap w.params, #[], {}, 669, os⟩
theorem h_open (w : World) : (fencedOpening treeTable prg w 4002).map (fun s => (s.heap, s.gens, s.drawn, s.toks)) = some (aHeap w.params, #[], {}, 276) := by kernel_rfl
theorem h_pre (w : World) (os : OsState) : topGo treeTable prg w 28 an0 12 (SA w os) (topStub prg) = some (SB w os, ⟨denote treeTable c0, c0, PZ, [topFrame PZ]⟩) := by kernel_rfl
theorem h_block (w : World) (os : OsState) : segRun treeTable prg w 28 an0 1 1 (SB w os) (blockOf bd0 env0 c0 PZ [topFrame PZ]) = some (.next, SB w os, c0, PZ) := by kernel_rfl
noncomputable def CP (w : World) : Prop := (fun os => segRun treeTable prg w 28 an0 1 399 (SB w os) (piecesOf (bd0.take 3) env0 c0 PZ [topFrame PZ])) = fun os => some (.next, SC w os, c0, PC)
theorem h_c0 (w : World) : CP (w.withFollow "special-get-raises" false) := by
  unfold CP
  kernel_rfl
theorem h_c1 (w : World) : CP (w.withFollow "special-get-raises" true) := by
  unfold CP
  kernel_rfl
theorem h_c (w : World) (os : OsState) : segRun treeTable prg w 28 an0 1 399 (SB w os) (piecesOf (bd0.take 3) env0 c0 PZ [topFrame PZ]) = some (.next, SC w os, c0, PC) := congrFun (byRow2 "special-get-raises" (P := CP) h_c0 h_c1 w) os
noncomputable abbrev TC (w : World) (os : OsState) : SharedT := ⟨cBT w.params, 44, {}, #[], {}, 319, os⟩
noncomputable abbrev TD (w : World) (os : OsState) : SharedT := ⟨dBT w.params, 98, {}, #[], {}, 512, os⟩
noncomputable abbrev TE (w : World) (os : OsState) : SharedT := ⟨eBT w.params, 223, {}, #[], {}, 669, os⟩
theorem t_c (w : World) (os : OsState) : (TC w os).abs = SC w os := by kernel_rfl
theorem t_d (w : World) (os : OsState) : (TD w os).abs = SD w os := by kernel_rfl
theorem t_e (w : World) (os : OsState) : (TE w os).abs = SE w os := by kernel_rfl
theorem h_dT (w : World) (os : OsState) : segRunT treeTable prg w 28 an0 1 526 (TC w os) (piecesOf ((bd0.drop 3).take 13) env0 c0 PC [topFrame PZ]) = some (.next, TD w os, c0, PD) := by kernel_rfl
theorem h_eT (w : World) (os : OsState) : segRunT treeTable prg w 28 an0 1 727 (TD w os) (piecesOf ((bd0.drop 16).take 1) env0 c0 PD [topFrame PZ]) = some (.next, TE w os, c0, PE) := by kernel_rfl
theorem h_d (w : World) (os : OsState) : segRun treeTable prg w 28 an0 1 526 (SC w os) (piecesOf ((bd0.drop 3).take 13) env0 c0 PC [topFrame PZ]) = some (.next, SD w os, c0, PD) := by
  rw [← t_c, ← t_d]
  exact segRun_of (h_dT w os)
theorem h_e (w : World) (os : OsState) : segRun treeTable prg w 28 an0 1 727 (SD w os) (piecesOf ((bd0.drop 16).take 1) env0 c0 PD [topFrame PZ]) = some (.next, SE w os, c0, PE) := by
  rw [← t_d, ← t_e]
  exact segRun_of (h_eT w os)
noncomputable def endS (w : World) (s : Shared) : Option Shared := match staticsOk (importedModules prg.main.body) (aHeap w.params) s.heap && namesBound prg s.heap && gensDone s && laidKept (aHeap w.params) s.heap with
  | true => some s
  | false => none
theorem h_fin (w : World) (os : OsState) : ((topRun treeTable prg w 28 an0 400 (SE w os) (restOf (bd0.drop 17) env0 c0 PE [topFrame PZ])).bind (endS w)).map (fun s => (openSeen view loose (importedModules prg.main.body) okX true s, X.obsZ addrs s)) = some (openGood view loose, X.valZ KK 280 759 w) := by kernel_rfl
theorem h_body : bd0 = bd0.take 3 ++ ((bd0.drop 3).take 13 ++ ((bd0.drop 16).take 1 ++ bd0.drop 17)) := by kernel_rfl
theorem h_run (w : World) (os : OsState) {r : Shared} (h : topRun treeTable prg w 28 an0 400 (SE w os) (restOf (bd0.drop 17) env0 c0 PE [topFrame PZ]) = some r) : topRun treeTable prg w 28 an0 (12 + (1 + (399 + (526 + (727 + 400))))) (SA w os) (topStub prg) = some r := by
  refine go_top (h_pre w os) (piece_block (h_block w os) ?_)
  have e : restOf bd0 env0 c0 PZ [topFrame PZ] = restOf (bd0.take 3 ++ ((bd0.drop 3).take 13 ++ ((bd0.drop 16).take 1 ++ bd0.drop 17))) env0 c0 PZ [topFrame PZ] := congrArg (fun b => restOf b env0 c0 PZ [topFrame PZ]) h_body
  rw [e]
  exact piece_app (h_c w os) (piece_app (h_d w os) (piece_app (h_e w os) h))
theorem h_top (w : World) (os : OsState) : topFrom treeTable prg w 4002 (SA w os) = (topRun treeTable prg w 28 an0 4002 (SA w os) (topStub prg)).bind (endS w) := by kernel_rfl
theorem left_all : LeftO PySem.Challenge.rw_sr0049_01.row.prog view loose okX (X.obsZ addrs) (X.valZ KK 280 759) 4002 := by
  intro w
  have ho := h_open w
  show (Option.bind (fencedOpening treeTable prg w 4002) (topFrom treeTable prg w 4002)).map _ = _
  cases e : fencedOpening treeTable prg w 4002 with
  | none => rw [e] at ho; cases ho
  | some s =>
    rw [e] at ho
    have hs : s = SA w s.os := by
      obtain ⟨h, gs, d, k, os⟩ := s
      have h4 : (h, gs, d, k) = (aHeap w.params, #[], {}, 276) := Option.some.inj ho
      rw [Prod.mk.injEq, Prod.mk.injEq, Prod.mk.injEq] at h4
      rw [h4.1, h4.2.1, h4.2.2.1, h4.2.2.2]
    rw [hs, Option.bind_some, h_top]
    have hf := h_fin w s.os
    cases hr : topRun treeTable prg w 28 an0 400 (SE w s.os) (restOf (bd0.drop 17) env0 c0 PE [topFrame PZ]) with
    | none => rw [hr] at hf; cases hf
    | some r =>
      rw [hr] at hf
      rw [topRun_mono 1937 _ _ _ _ (h_run w s.os hr)]
      exact hf

end
/-! QS -/
section
set_option maxHeartbeats 4000000 in
theorem looks_said : looksOpen PySem.Challenge.rw_sr0049_01.row.prog = true := by
  unfold looksOpen
  repeat' (with_reducible apply look_both)
  all_goals decide +kernel
set_option maxHeartbeats 4000000 in
theorem part_said : PySem.Challenge.rw_sr0049_01.row.partSaid = true := by
  unfold OpenRow.partSaid
  repeat' (with_reducible apply look_both)
  · exact looks_said
  all_goals decide +kernel
set_option maxHeartbeats 4000000 in
theorem row_said0 : PySem.Challenge.rw_sr0049_01.row.wellSaid = true := by
  unfold OpenRow.wellSaid
  repeat' (with_reducible apply look_both)
  · exact part_said
  all_goals decide +kernel
set_option maxHeartbeats 4000000 in
theorem law_said : PySem.Challenge.rw_sr0049_01.wellSaid = true := by
  unfold OpenLaw.wellSaid
  repeat' (with_reducible apply look_both)
  · exact row_said0
  all_goals decide +kernel

end
/-! M2 -/
section

noncomputable abbrev v0 (vs : List Value) : Value := vs.getD 0 .none
noncomputable abbrev v1 (vs : List Value) : Value := vs.getD 1 .none
noncomputable abbrev v2 (vs : List Value) : Value := vs.getD 2 .none

section
variable {K : Frag} {w : World} {k : Nat} {env : Env} {Γ Γ' : Gam} {C C' C₁ C₂ C₃ : List Cell}

theorem Frm.same {b b' : PM} {kp : Kp} {fs fs' : List Foot} {env : Env} {Γ : Gam} {h h' : Heap} (F : Frm b kp fs env Γ h) (s : Sub b b') (kf : Keep fs.length fs fs') (hb : b' env.locals = none) (hf : ∀ p ∈ fs'.flatten, p.1 ≠ env.locals)
    (hk : ∀ o, h.get? env.locals = some o → h'.get? env.locals = some o) : Frm b' kp fs' env Γ h' :=
  ⟨F.fn, F.gl, F.bu, ⟨hb, F.off.2.1, hf⟩, let ⟨m, n, v⟩ := F.ns; ⟨m, let ⟨o, es, ep, e, r⟩ := n; ⟨o, es, ep, hk _ e, r⟩, fun x r hx => (v x r hx).mono s kf⟩⟩

theorem St.top_in {b : PM} {kp : Kp} {fs : List Foot} {h : Heap} (S : St K b kp fs C h) : K.In h := fun a o e => S.base _ _ (S.top a o e)

/-- nothing changes but the tokens -/
theorem TreeTo.still {α : Type} {T : Sem α} {R : PM → List Foot → α → Prop}
    (h : ∀ (A : Around) (s : Shared) (b : PM) (kp : Kp) (fs : List Foot) (Q : α → Shared → Prop) (E : Value → Shared → Prop), Room k (okL kp env.locals) A → St K b kp fs C s.heap → Frm b kp fs env Γ s.heap →
      (∀ v tk, R b fs v → Q v { s with toks := tk }) → wpAny (model prg w) A T Q E s) : TreeTo K w k env Γ C T R Γ C :=
  fun A s b kp fs Q E hR S F q => h A s b kp fs Q E hR S F fun v tk r => q b fs s.heap tk v Sub.refl Keep.refl S F r

theorem ev_int {i : Int} {kk : Nat} {pos : Pos} : EvalTo K w k env Γ C (.Constant (.int i) kk pos) (.d (.int i)) C := by
  refine TreeTo.still fun A s b kp fs Q E hR S F q => ?_
  exact fun _ _ _ => q (.int i s.toks) (s.toks + 1) .int
theorem ev_str {x : Str} {kk : Nat} {pos : Pos} : EvalTo K w k env Γ C (.Constant (.str x) kk pos) (.d (.str x)) C := by
  refine TreeTo.still fun A s b kp fs Q E hR S F q => ?_
  exact wpAny_Constant_str (q (.str x s.toks) (s.toks + 1) .str)
theorem ev_none {kk : Nat} {pos : Pos} : EvalTo K w k env Γ C (.Constant .none kk pos) (.d .none) C := by
  refine TreeTo.still fun A s b kp fs Q E hR S F q => ?_
  exact wpAny_Constant_none (q .none s.toks .v)
theorem ev_bool {x : Bool} {kk : Nat} {pos : Pos} : EvalTo K w k env Γ C (.Constant (.bool x) kk pos) (.d (.bool x)) C := by
  refine TreeTo.still fun A s b kp fs Q E hR S F q => ?_
  exact wpAny_Constant_bool (q (.bool x) s.toks .v)

theorem load_var {x : Str} {r : AV} (hx : Γ.lookup x = some (.loc r)) : TreeTo K w k env Γ C (loadName env x) (fun b fs v => RepA b fs v r) Γ C := by
  refine TreeTo.still fun A s b kp fs Q E hR S F q => ?_
  obtain ⟨m, hn, hv⟩ := F.ns
  obtain ⟨hl, v, e, rv⟩ := hv x _ hx
  exact wpAny_loadName_local F.fn hl hn e (q v s.toks rv)
theorem ev_name {x : Str} {pos : Pos} {r : AV} (hx : Γ.lookup x = some (.loc r)) (hd : (x == ("__debug__" : Str)) = false := by decide) : EvalTo K w k env Γ C (.Name x pos) r C := by
  intro A s b kp fs Q E hR S F q
  exact wpAny_Name (load_var hx A s b kp fs Q E hR S F q) hd
theorem load_box {x : Str} {i : Nat} {r : AV} (hx : Γ.lookup x = some (.box i)) (hi : C[i]? = some (.box (some r))) (hn : (x == ("__classdict__" : Str)) = false := by decide) :
    TreeTo K w k env Γ C (loadName env x) (fun b fs v => RepA b fs v r) Γ C := by
  refine TreeTo.still fun A s b kp fs Q E hR S F q => ?_
  obtain ⟨m, _, hv⟩ := F.ns
  obtain ⟨hl, c, f, e, hf, hc⟩ := hv x _ hx
  obtain ⟨c', o, v, rfl, ho, rv⟩ := S.cells.2 i _ f hi hf
  obtain rfl : c' = c := by simpa [headA] using hc
  have hs : s.heap.IsCell c' (some v) := ⟨o, (S.foot (c', o) (List.mem_flatten.mpr ⟨_, List.mem_of_getElem? hf, List.mem_cons_self⟩)).1, ho⟩
  rcases hl with hl | hl
  · exact wpAny_loadName_cell F.fn hl e hs (q v s.toks rv)
  · exact wpAny_loadName_free F.fn hl e hs (q v s.toks rv) hn
theorem ev_box {x : Str} {pos : Pos} {i : Nat} {r : AV} (hx : Γ.lookup x = some (.box i)) (hi : C[i]? = some (.box (some r))) (hn : (x == ("__classdict__" : Str)) = false := by decide) (hd : (x == ("__debug__" : Str)) = false := by decide) :
    EvalTo K w k env Γ C (.Name x pos) r C := by
  intro A s b kp fs Q E hR S F q
  exact wpAny_Name (load_box hx hi hn A s b kp fs Q E hR S F q) hd
theorem loadGlobal_in {A : Around} {s : Shared} {Q : Value → Shared → Prop} {E : Value → Shared → Prop} {x : Str} {v : Value} (X : K.In s.heap) (hg : env.globals = mainGlobals) (hb : env.builtins = builtinsNs)
    (e : nsIn K mainGlobals x = some (some v) ∨ (nsIn K mainGlobals x = some none ∧ nsIn K builtinsNs x = some (some v))) (q : Q v s) : wpAny (model prg w) A (loadGlobal env x) Q E s := by
  unfold loadGlobal
  rw [hg, hb]
  rcases e with e | ⟨e, e'⟩
  · exact wpAny_bind ((looks_nsIn X e).here (wpAny_pure q))
  · exact wpAny_bind ((looks_nsIn X e).here (wpAny_bind ((looks_nsIn X e').here (wpAny_pure q))))
theorem ev_glob {x : Str} {pos : Pos} {v : Value} (hl : env.kindOf x = some .globalImplicit)
    (e : nsIn K mainGlobals x = some (some v) ∨ (nsIn K mainGlobals x = some none ∧ nsIn K builtinsNs x = some (some v))) (hd : (x == ("__debug__" : Str)) = false := by decide) : EvalTo K w k env Γ C (.Name x pos) (.d (.v v)) C := by
  refine TreeTo.still fun A s b kp fs Q E hR S F q => ?_
  exact Calls.Name_function_global F.fn hl (loadGlobal_in S.top_in F.gl F.bu e (q v s.toks .v)) hd

theorem TreeTo.mono {α : Type} {T : Sem α} {R R' : PM → List Foot → α → Prop} (h : TreeTo K w k env Γ C T R Γ' C') (hr : ∀ b fs v, R b fs v → R' b fs v) : TreeTo K w k env Γ C T R' Γ' C' :=
  fun A s b kp fs Q E hR S F q => h A s b kp fs Q E hR S F fun b' fs' h' tk v sb kf S' F' r => q b' fs' h' tk v sb kf S' F' (hr _ _ _ r)

end
/-- the lists of trees: what they give -/
inductive EvalsTo (K : Frag) (w : World) (k : Nat) (env : Env) (Γ : Gam) : List Cell → List Expr → List AV → List Cell → Prop
  | nil {C : List Cell} : EvalsTo K w k env Γ C [] [] C
  | cons {C C₁ C₂ : List Cell} {e : Expr} {es : List Expr} {r : AV} {rs : List AV} : EvalTo K w k env Γ C e r C₁ → EvalsTo K w k env Γ C₁ es rs C₂ → starEach (e :: es) env = (false, eval e env) :: starEach es env → EvalsTo K w k env Γ C (e :: es) (r :: rs) C₂
section
variable {K : Frag} {w : World} {k : Nat} {env : Env} {Γ Γ' : Gam} {C C' C₁ C₂ C₃ : List Cell}
theorem spliced_to {pos : Pos} : ∀ {es : List Expr} {rs : List AV} {C C' : List Cell}, EvalsTo K w k env Γ C es rs C' → TreeTo K w k env Γ C (spliced (backTo pos (starEach es env))) (fun b fs vs => RepAs b fs vs rs) Γ C' := by
  intro es rs C C' h
  induction h with
  | nil => exact TreeTo.still fun A s b kp fs Q E hR S F q => wpAny_items_nil (q [] s.toks trivial)
  | @cons C C₁ C₂ e es r rs h1 _ hs ih =>
    refine fun A s b kp fs Q E hR S F q => ?_
    refine wpAny_items_cons (h := ?_) (he := hs)
    refine h1 A s b kp fs _ E hR S F fun b₁ fs₁ h₁ tk₁ v sb₁ kf₁ S₁ F₁ r₁ => ?_
    refine ih A _ b₁ kp fs₁ _ E hR S₁ F₁ fun b₂ fs₂ h₂ tk₂ vs sb₂ kf₂ S₂ F₂ r₂ => ?_
    exact q b₂ fs₂ h₂ tk₂ (v :: vs) (sb₁.trans sb₂) (kf₁.then kf₂) S₂ F₂ ⟨r₁.mono sb₂ kf₂, r₂⟩

/-- one tree, then an operation on its value -/
theorem TreeTo.op1 {α : Type} {e : Expr} {r : AV} {T : List Value → Sem α} {R : PM → List Foot → α → Prop} (h1 : EvalTo K w k env Γ C e r C₁) (h2 : OpG K w k C₁ T [r] R C₂)
    {A : Around} {s : Shared} {b : PM} {kp : Kp} {fs : List Foot} {Q : α → Shared → Prop} {E : Value → Shared → Prop}
    (hR : Room k (okL kp env.locals) A) (S : St K b kp fs C s.heap) (F : Frm b kp fs env Γ s.heap)
    (q : ∀ b' fs' h' tk v, Sub b b' → Keep fs.length fs fs' → St K b' kp fs' C₂ h' → Frm b' kp fs' env Γ h' → R b' fs' v → Q v { s with heap := h', toks := tk }) :
    wpAny (model prg w) A (eval e env) (fun v s₁ => wpAny (model prg w) A (T [v]) Q E s₁) E s := by
  refine h1 A s b kp fs _ E hR S F fun b₁ fs₁ h₁ tk₁ v sb₁ kf₁ S₁ F₁ r₁ => ?_
  exact h2.tree (s := { s with heap := h₁, toks := tk₁ }) hR S₁ F₁ ⟨r₁, trivial⟩ fun b₂ fs₂ h₂ tk₂ u sb₂ kf₂ S₂ F₂ r₂ => q b₂ fs₂ h₂ tk₂ u (sb₁.trans sb₂) (kf₁.then kf₂) S₂ F₂ r₂
/-- two trees, then an operation on their values -/
theorem TreeTo.op2 {α : Type} {e e' : Expr} {r r' : AV} {T : List Value → Sem α} {R : PM → List Foot → α → Prop} (h1 : EvalTo K w k env Γ C e r C₁) (h2 : EvalTo K w k env Γ C₁ e' r' C₂) (h3 : OpG K w k C₂ T [r, r'] R C₃)
    {A : Around} {s : Shared} {b : PM} {kp : Kp} {fs : List Foot} {Q : α → Shared → Prop} {E : Value → Shared → Prop}
    (hR : Room k (okL kp env.locals) A) (S : St K b kp fs C s.heap) (F : Frm b kp fs env Γ s.heap)
    (q : ∀ b' fs' h' tk v, Sub b b' → Keep fs.length fs fs' → St K b' kp fs' C₃ h' → Frm b' kp fs' env Γ h' → R b' fs' v → Q v { s with heap := h', toks := tk }) :
    wpAny (model prg w) A (eval e env) (fun v s₁ => wpAny (model prg w) A (eval e' env) (fun v' s₂ => wpAny (model prg w) A (T [v, v']) Q E s₂) E s₁) E s := by
  refine h1 A s b kp fs _ E hR S F fun b₁ fs₁ h₁ tk₁ v sb₁ kf₁ S₁ F₁ r₁ => ?_
  refine h2 A _ b₁ kp fs₁ _ E hR S₁ F₁ fun b₂ fs₂ h₂ tk₂ u sb₂ kf₂ S₂ F₂ r₂ => ?_
  exact h3.tree (s := { s with heap := h₂, toks := tk₂ }) hR S₂ F₂ ⟨r₁.mono sb₂ kf₂, r₂, trivial⟩ fun b₃ fs₃ h₃ tk₃ x sb₃ kf₃ S₃ F₃ r₃ =>
    q b₃ fs₃ h₃ tk₃ x (sb₁.trans (sb₂.trans sb₃)) (kf₁.then (kf₂.then kf₃)) S₃ F₃ r₃

noncomputable abbrev tBin (op : Operator) : List Value → Sem Value := fun vs => binaryOp op (v0 vs) (v1 vs)
noncomputable abbrev tIn (op : Operator) : List Value → Sem Value := fun vs => inplaceOp op (v0 vs) (v1 vs)
noncomputable abbrev tUn (op : UnaryOp) : List Value → Sem Value := fun vs => unaryOp op (v0 vs)
noncomputable abbrev tCmp (op : CmpOp) : List Value → Sem Value := fun vs => compareOp op (v0 vs) (v1 vs)
noncomputable abbrev tTruth : List Value → Sem Bool := fun vs => truthy (v0 vs)

theorem ev_bin {l r : Expr} {op : Operator} {pos : Pos} {x y z : AV} (h1 : EvalTo K w k env Γ C l x C₁) (h2 : EvalTo K w k env Γ C₁ r y C₂) (h3 : Op K w k C₂ (tBin op) [x, y] z C₃) : EvalTo K w k env Γ C (.BinOp l op r pos) z C₃ :=
  fun _ _ _ _ _ _ _ hR S F q => wpAny_BinOp (TreeTo.op2 (T := tBin op) h1 h2 h3 hR S F q)
theorem ev_un {x : Expr} {op : UnaryOp} {pos : Pos} {a z : AV} (h1 : EvalTo K w k env Γ C x a C₁) (h3 : Op K w k C₁ (tUn op) [a] z C₂) : EvalTo K w k env Γ C (.UnaryOp op x pos) z C₂ :=
  fun _ _ _ _ _ _ _ hR S F q => wpAny_UnaryOp (TreeTo.op1 (T := tUn op) h1 h3 hR S F q)
theorem ev_cmp {l r : Expr} {op : CmpOp} {pos : Pos} {x y z : AV} (h1 : EvalTo K w k env Γ C l x C₁) (h2 : EvalTo K w k env Γ C₁ r y C₂) (h3 : Op K w k C₂ (tCmp op) [x, y] z C₃) (hm : behindInMarks op r = false) :
    EvalTo K w k env Γ C (.Compare l [op] [r] pos) z C₃ :=
  fun _ _ _ _ _ _ _ hR S F q => wpAny_Compare1 (TreeTo.op2 (T := tCmp op) h1 h2 h3 hR S F q) hm

/-- a test by a value -/
theorem tst_val {e : Expr} {r : AV} {z : Bool} (h1 : EvalTo K w k env Γ C e r C₁) (h2 : OpB K w k C₁ tTruth [r] z C₂) (hp : isTrue e env (eval e env) = (do let v ← eval e env; standAt e.pos; holding [v] (truthy v))) : TestTo K w k env Γ C e z C₂ := by
  intro A s b kp fs Q E hR S F q
  rw [hp]
  refine wpAny_bind (wpAny_mono (TreeTo.op1 (T := tTruth) h1 h2 hR S F q) (fun v s₁ h => wpAny_bind (wpAny_standAt (wpAny_holding h))) fun _ _ x => x)
theorem truth_bool {z : Bool} : OpB K w k C tTruth [.d (.bool z)] z C := by
  intro A s b kp fs vs Q E hR S hv q
  have h_vs := RepAs.one hv; clear hv; obtain ⟨v, rfl, hv⟩ := h_vs
  cases hv
  exact wpAny_truthy_bool (q b fs s.heap s.toks z Sub.refl Keep.refl S rfl)
theorem tst_cmp {l r : Expr} {op : CmpOp} {pos : Pos} {x y : AV} {z : Bool} (h1 : EvalTo K w k env Γ C l x C₁) (h2 : EvalTo K w k env Γ C₁ r y C₂) (h3 : Op K w k C₂ (tCmp op) [x, y] (.d (.bool z)) C₃) (hm : behindInMarks op r = false) :
    TestTo K w k env Γ C (.Compare l [op] [r] pos) z C₃ := by
  intro A s b kp fs Q E hR S F q
  refine wpAny_isTrue_Compare1 (TreeTo.op2 (T := tCmp op) h1 h2 h3 hR S F fun b' fs' h' tk v sb kf S' F' r => ?_) hm
  cases r
  exact wpAny_truthy_bool (q b' fs' h' tk z sb kf S' F' rfl)
theorem tst_not {x : Expr} {pos : Pos} {z : Bool} (h : TestTo K w k env Γ C x z C₁) : TestTo K w k env Γ C (.UnaryOp .Not x pos) (!z) C₁ := by
  intro A s b kp fs Q E hR S F q
  refine wpAny_isTrue_Not (h A s b kp fs _ E hR S F fun b' fs' h' tk v sb kf S' F' r => ?_)
  exact q b' fs' h' tk _ sb kf S' F' (by rw [r])
theorem tst_and {x y : Expr} {pos : Pos} {p z : Bool} (h : TestTo K w k env Γ C x p C₁) (h' : p = true → TestTo K w k env Γ C₁ y z C₁) : TestTo K w k env Γ C (.BoolOp .And [x, y] pos) (p && z) C₁ := by
  intro A s b kp fs Q E hR S F q
  refine wpAny_isTrue_BoolOp (wpAny_allTrue_And_cons (h A s b kp fs _ E hR S F fun b' fs' h'' tk v sb kf S' F' r => ?_))
  subst r
  cases v with
  | false => simp only [Bool.false_eq_true, if_false]; exact q b' fs' h'' tk _ sb kf S' F' rfl
  | true =>
    simp only [if_true]
    refine wpAny_allTrue_And_cons (h' rfl A _ b' kp fs' _ E hR S' F' fun b₂ fs₂ h₂ tk₂ v₂ sb₂ kf₂ S₂ F₂ r₂ => ?_)
    subst r₂
    cases v₂ with
    | false => simp only [Bool.false_eq_true, if_false]; exact q b₂ fs₂ h₂ tk₂ _ (sb.trans sb₂) (kf.then kf₂) S₂ F₂ rfl
    | true => simp only [if_true]; exact wpAny_allTrue_And_nil (q b₂ fs₂ h₂ tk₂ _ (sb.trans sb₂) (kf.then kf₂) S₂ F₂ rfl)
theorem tst_or {x y : Expr} {pos : Pos} {p z : Bool} (h : TestTo K w k env Γ C x p C₁) (h' : p = false → TestTo K w k env Γ C₁ y z C₁) : TestTo K w k env Γ C (.BoolOp .Or [x, y] pos) (p || z) C₁ := by
  intro A s b kp fs Q E hR S F q
  refine wpAny_isTrue_BoolOp (wpAny_allTrue_Or_cons (h A s b kp fs _ E hR S F fun b' fs' h'' tk v sb kf S' F' r => ?_))
  subst r
  cases v with
  | true => simp only [if_true]; exact q b' fs' h'' tk _ sb kf S' F' rfl
  | false =>
    simp only [Bool.false_eq_true, if_false]
    refine wpAny_allTrue_Or_cons (h' rfl A _ b' kp fs' _ E hR S' F' fun b₂ fs₂ h₂ tk₂ v₂ sb₂ kf₂ S₂ F₂ r₂ => ?_)
    subst r₂
    cases v₂ with
    | true => simp only [if_true]; exact q b₂ fs₂ h₂ tk₂ _ (sb.trans sb₂) (kf.then kf₂) S₂ F₂ rfl
    | false => simp only [Bool.false_eq_true, if_false]; exact wpAny_allTrue_Or_nil (q b₂ fs₂ h₂ tk₂ _ (sb.trans sb₂) (kf.then kf₂) S₂ F₂ rfl)
theorem ev_if {t x y : Expr} {pos : Pos} {p : Bool} {r : AV} (h : TestTo K w k env Γ C t p C₁) (ht : p = true → EvalTo K w k env Γ C₁ x r C₂) (hf : p = false → EvalTo K w k env Γ C₁ y r C₂) : EvalTo K w k env Γ C (.IfExp t x y pos) r C₂ := by
  intro A s b kp fs Q E hR S F q
  refine wpAny_IfExp (h A s b kp fs _ E hR S F fun b' fs' h' tk v sb kf S' F' r => ?_)
  subst r
  cases v with
  | true => simp only [if_true]; exact ht rfl A _ b' kp fs' Q E hR S' F' fun b₂ fs₂ h₂ tk₂ v₂ sb₂ kf₂ S₂ F₂ r₂ => q b₂ fs₂ h₂ tk₂ v₂ (sb.trans sb₂) (kf.then kf₂) S₂ F₂ r₂
  | false => simp only [Bool.false_eq_true, if_false]; exact hf rfl A _ b' kp fs' Q E hR S' F' fun b₂ fs₂ h₂ tk₂ v₂ sb₂ kf₂ S₂ F₂ r₂ => q b₂ fs₂ h₂ tk₂ v₂ (sb.trans sb₂) (kf.then kf₂) S₂ F₂ r₂
end

end
/-! M3 -/
section
section
variable {K : Frag} {w : World} {k : Nat} {C : List Cell}

theorem op_two {x y r : D} {T : List Value → Sem Value} (h : ∀ {A : Around} {s : Shared} {b : PM} {va vb : Value} {Q : Value → Shared → Prop} {E : Value → Shared → Prop}, Rep b va x → Rep b vb y → (∀ v tk, Rep b v r → Q v { s with toks := tk }) → wpAny (model prg w) A (T [va, vb]) Q E s) : Op K w k C T [.d x, .d y] (.d r) C := by
  intro A s b kp fs vs Q E hR S hv q
  have h_vs := RepAs.two hv; clear hv; obtain ⟨va, vb, rfl, ha, hb⟩ := h_vs
  exact h ha hb fun v tk e => q b fs s.heap tk v Sub.refl Keep.refl S e
theorem op_ii {x y : Int} {r : D} {T : List Value → Sem Value} (h : ∀ {A : Around} {s : Shared} {b : PM} {t u : Tok} {Q : Value → Shared → Prop} {E : Value → Shared → Prop}, (∀ v tk, Rep b v r → Q v { s with toks := tk }) → wpAny (model prg w) A (T [.int x t, .int y u]) Q E s) : Op K w k C T [.d (.int x), .d (.int y)] (.d r) C :=
  op_two fun ha hb q => let ⟨_, e⟩ := ha.intI; let ⟨_, e'⟩ := hb.intI; e ▸ e' ▸ h q
theorem op_ss {x y : Str} {r : D} {T : List Value → Sem Value} (h : ∀ {A : Around} {s : Shared} {b : PM} {t u : Tok} {Q : Value → Shared → Prop} {E : Value → Shared → Prop}, (∀ v tk, Rep b v r → Q v { s with toks := tk }) → wpAny (model prg w) A (T [.str x t, .str y u]) Q E s) : Op K w k C T [.d (.str x), .d (.str y)] (.d r) C :=
  op_two fun ha hb q => let ⟨_, e⟩ := ha.strI; let ⟨_, e'⟩ := hb.strI; e ▸ e' ▸ h q
theorem op_vv {x y : Value} {r : D} {T : List Value → Sem Value} (h : ∀ {A : Around} {s : Shared} {b : PM} {Q : Value → Shared → Prop} {E : Value → Shared → Prop}, (∀ v tk, Rep b v r → Q v { s with toks := tk }) → wpAny (model prg w) A (T [x, y]) Q E s) : Op K w k C T [.d (.v x), .d (.v y)] (.d r) C :=
  op_two fun ha hb q => ha.vI ▸ hb.vI ▸ h q

theorem o_add {x y : Int}  : Op K w k C (tBin .Add) [.d (.int x), .d (.int y)] (.d (.int (x + y))) C := by
  exact op_ii fun q => PySem.P.add_int (q _ _ .int)

theorem o_sub {x y : Int}  : Op K w k C (tBin .Sub) [.d (.int x), .d (.int y)] (.d (.int (x - y))) C := by
  exact op_ii fun q => PySem.P.sub_int (q _ _ .int)

theorem o_mod {x y : Int} (hy : y ≠ 0) : Op K w k C (tBin .Mod) [.d (.int x), .d (.int y)] (.d (.int (x.fmod y))) C := by
  exact op_ii fun q => PyProof.Rows.mod_int' hy (q _ _ .int)

theorem o_fdiv {x y : Int} (hy : y ≠ 0) (hp : Builtin.divisionGoesByPylong x y = false) : Op K w k C (tBin .FloorDiv) [.d (.int x), .d (.int y)] (.d (.int (x.fdiv y))) C := by
  exact op_ii fun q => (fun h => PyProof.Rows.floordiv_int hy h (Or.inl hp)) (q _ _ .int)

theorem o_ifdiv {x y : Int} (hy : y ≠ 0) (hp : Builtin.divisionGoesByPylong x y = false) : Op K w k C (tIn .FloorDiv) [.d (.int x), .d (.int y)] (.d (.int (x.fdiv y))) C := by
  exact op_ii fun q => (fun h => PyProof.Rows.ifloordiv_int hy h (Or.inl hp)) (q _ _ .int)

theorem o_mul {x y : Int} (hm : IntMulOk x y) : Op K w k C (tBin .Mult) [.d (.int x), .d (.int y)] (.d (.int (x * y))) C := by
  exact op_ii fun q => (fun h => PySem.P.mul_int h hm) (q _ _ .int)

theorem o_iadd {x y : Int}  : Op K w k C (tIn .Add) [.d (.int x), .d (.int y)] (.d (.int (x + y))) C := by
  exact op_ii fun q => PySem.P.iadd_int (q _ _ .int)

theorem o_and {x y : Int}  : Op K w k C (tBin .BitAnd) [.d (.int x), .d (.int y)] (.d (.int (Builtin.bitAnd x y))) C := by
  exact op_ii fun q => PyProof.Rows.and_int (q _ _ .int)

theorem o_ior {x y : Int}  : Op K w k C (tIn .BitOr) [.d (.int x), .d (.int y)] (.d (.int (Builtin.bitOr x y))) C := by
  exact op_ii fun q => PyProof.Rows.ior_int (q _ _ .int)

theorem o_ishl {x y : Int} (h0 : 0 ≤ y) (h1 : y ≤ 1000000) (h2 : x.natAbs < 2 ^ 64) : Op K w k C (tIn .LShift) [.d (.int x), .d (.int y)] (.d (.int (x * 2 ^ y.toNat))) C := by
  exact op_ii fun q => PyProof.Rows.ilshift_int_small h0 h1 h2 (q _ _ .int)

theorem o_eq {x y : Int}  : Op K w k C (tCmp .Eq) [.d (.int x), .d (.int y)] (.d (.bool (x == y))) C := by
  exact op_ii fun q => PySem.P.eq_int (q _ _ .v)

theorem o_lt {x y : Int}  : Op K w k C (tCmp .Lt) [.d (.int x), .d (.int y)] (.d (.bool (decide (x < y)))) C := by
  exact op_ii fun q => PySem.P.lt_int (q _ _ .v)

theorem o_le {x y : Int}  : Op K w k C (tCmp .LtE) [.d (.int x), .d (.int y)] (.d (.bool (decide (x ≤ y)))) C := by
  exact op_ii fun q => PySem.P.le_int (q _ _ .v)

theorem o_gt {x y : Int}  : Op K w k C (tCmp .Gt) [.d (.int x), .d (.int y)] (.d (.bool (decide (x > y)))) C := by
  exact op_ii fun q => PySem.P.gt_int (q _ _ .v)

theorem o_ge {x y : Int}  : Op K w k C (tCmp .GtE) [.d (.int x), .d (.int y)] (.d (.bool (decide (x ≥ y)))) C := by
  exact op_ii fun q => PySem.P.ge_int (q _ _ .v)

theorem o_neb {x y : Bool}  : Op K w k C (tCmp .NotEq) [.d (.bool x), .d (.bool y)] (.d (.bool (x != y))) C := by
  exact op_vv fun q => PyProof.Rows.ne_bool (q _ _ .v)

theorem o_eqs {x y : Str}  : Op K w k C (tCmp .Eq) [.d (.str x), .d (.str y)] (.d (.bool (x.cps.toList == y.cps.toList))) C := by
  exact op_ss fun q => PySem.P.eq_str (q _ _ .v)

theorem o_neg {x : Int} : Op K w k C (tUn .USub) [.d (.int x)] (.d (.int (-x))) C := by
  intro A s b kp fs vs Q E hR S hv q
  have h_vs := RepAs.one hv; clear hv; obtain ⟨va, rfl, ha⟩ := h_vs
  cases ha
  exact PySem.P.neg_int (q b fs s.heap _ _ Sub.refl Keep.refl S .int)
theorem o_isNotNone {r : AV} {z : Bool} (hz : ∀ b fs v, RepA b fs v r → (v == .none) = z) : Op K w k C (tCmp .IsNot) [r, .d .none] (.d (.bool (!z))) C := by
  intro A s b kp fs vs Q E hR S hv q
  have h_vs := RepAs.two hv; clear hv; obtain ⟨va, vb, rfl, ha, hb⟩ := h_vs
  cases hb
  have := hz _ _ _ ha
  refine isNot_none ?_
  show Q (.bool (!(va == .none))) s
  rw [this]; exact q b fs s.heap _ _ Sub.refl Keep.refl S .v
theorem t_none : OpB K w k C tTruth [.d .none] false C := by
  intro A s b kp fs vs Q E hR S hv q
  have h_vs := RepAs.one hv; clear hv; obtain ⟨va, rfl, ha⟩ := h_vs
  cases ha
  exact wpAny_pure (q b fs s.heap s.toks _ Sub.refl Keep.refl S rfl)

end

end
/-! M4 -/
section

inductive Out where
  | nxt (Γ : Gam)
  | brk (Γ : Gam)
  | ret (r : AV)
noncomputable def OutOk (b : PM) (kp : Kp) (fs : List Foot) (env : Env) (h : Heap) : Out → Flow → Prop
  | .nxt Γ, f => f = .next ∧ Frm b kp fs env Γ h
  | .brk Γ, f => f = .brk ∧ Frm b kp fs env Γ h
  | .ret r, f => ∃ v, f = .ret v ∧ RepA b fs v r

/-- what statements do; n: how many cells keep their place -/
noncomputable def ExecT (K : Frag) (w : World) (n k : Nat) (env : Env) (Γ : Gam) (C : List Cell) (T : Sem Flow) (o : Out) (C' : List Cell) : Prop :=
  ∀ (A : Around) (s : Shared) (b : PM) (kp : Kp) (fs : List Foot) (Q : Flow → Shared → Prop) (E : Value → Shared → Prop),
    Room k (okL kp env.locals) A → St K b kp fs C s.heap → Frm b kp fs env Γ s.heap → n ≤ fs.length →
    (∀ b' fs' h' tk f, Sub b b' → Keep n fs fs' → n ≤ fs'.length → St K b' kp fs' C' h' → OutOk b' kp fs' env h' o f → Q f { s with heap := h', toks := tk }) →
    wpAny (model prg w) A T Q E s

theorem Frm.weak {b : PM} {kp : Kp} {fs : List Foot} {env : Env} {Γ Γ' : Gam} {h : Heap} (F : Frm b kp fs env Γ h) (hw : ∀ x r, Γ'.lookup x = some r → Γ.lookup x = some r) : Frm b kp fs env Γ' h :=
  ⟨F.fn, F.gl, F.bu, F.off, let ⟨m, n, v⟩ := F.ns; ⟨m, n, fun x r e => v x r (hw x r e)⟩⟩

section
variable {K : Frag} {w : World} {n k : Nat} {env : Env} {Γ Γ₁ Γ₂ Γ' : Gam} {C C' C₁ C₂ C₃ : List Cell}

theorem Frm.store {b : PM} {kp : Kp} {fs : List Foot} {h h' : Heap} {x : Str} {v : Value} {r : AV} (F : Frm b kp fs env Γ h) (hl : env.kindOf x = some .local) (hr : RepA b fs v r)
    (hn : ∃ m, h.Ns env.locals m ∧ (∀ x r, Γ.lookup x = some r → VarOk b fs env m x r) ∧ h'.Ns env.locals (fun y => if y = x then some v else m y)) : Frm b kp fs env ((x, .loc r) :: Γ) h' := by
  obtain ⟨m, _, hv, hn'⟩ := hn
  refine ⟨F.fn, F.gl, F.bu, F.off, _, hn', fun y r' hy => ?_⟩
  rw [List.lookup_cons] at hy
  by_cases q : y = x
  · subst q
    simp only [beq_self_eq_true, Option.some.injEq] at hy
    subst hy
    exact ⟨hl, v, by simp, hr⟩
  · have q' : (y == x) = false := by simpa using q
    rw [q'] at hy
    have := hv y r' hy
    cases r' with
    | loc r' => obtain ⟨a, u, e, z⟩ := this; exact ⟨a, u, by simp [q, e], z⟩
    | box i => exact this

theorem St.local {b : PM} {kp : Kp} {fs : List Foot} {h h' : Heap} {L : Addr} (S : St K b kp fs C h) (off : b L = none ∧ (∀ q ∈ kp, q.1 ≠ L) ∧ ∀ p ∈ fs.flatten, p.1 ≠ L) (hs : Heap.SameBut L h h') : St K b kp fs C h' :=
  ⟨fun a o e => hs.extBut a o (by rintro rfl; rw [off.1] at e; cases e) (S.base a o e), S.top,
   fun p hp => let ⟨⟨o, e, d⟩, q⟩ := S.kept p hp; ⟨⟨o, hs.extBut _ _ (off.2.1 p hp) e, d⟩, q⟩, fun p hp => let ⟨e, q⟩ := S.foot p hp; ⟨hs.extBut _ _ (off.2.2 p hp) e, q⟩, S.nodup, S.cells⟩

theorem store_to {x : Str} {v : Value} {r : AV} {A : Around} {s : Shared} {b : PM} {kp : Kp} {fs : List Foot} {Q : Unit → Shared → Prop} {E : Value → Shared → Prop} (hl : env.kindOf x = some .local)
    (S : St K b kp fs C s.heap) (F : Frm b kp fs env Γ s.heap) (hr : RepA b fs v r)
    (q : ∀ h' tk, St K b kp fs C h' → Frm b kp fs env ((x, .loc r) :: Γ) h' → Q () { s with heap := h', toks := tk }) : wpAny (model prg w) A (storeName env x v) Q E s := by
  obtain ⟨m, hn, hv⟩ := F.ns
  refine wpAny_storeName_local hl hn (fun h' hn' hs => q h' _ (S.local F.off hs) (F.store hl hr ⟨m, hn, hv, hn'⟩)) ?_
  rw [F.fn]; rfl

theorem exs_nil : ExecT K w n k env Γ C (execs [] env) (.nxt Γ) C :=
  fun _ s b _ fs _ _ _ S F hn q => wpAny_execs_nil (q b fs s.heap s.toks .next Sub.refl Keep.refl hn S ⟨rfl, F⟩)
theorem exs_cons {st : Stmt} {rest : List Stmt} {o : Out} (h1 : ExecT K w n k env Γ C (exec st env) (.nxt Γ₁) C₁) (h2 : ExecT K w n k env Γ₁ C₁ (execs rest env) o C₂) : ExecT K w n k env Γ C (execs (st :: rest) env) o C₂ := by
  intro A s b kp fs Q E hR S F hn q
  refine wpAny_execs_cons (h1 A s b kp fs _ E hR S F hn fun b₁ fs₁ hp₁ tk₁ f sb₁ kf₁ hn₁ S₁ ho => ?_)
  obtain ⟨rfl, F₁⟩ := ho
  exact h2 A _ b₁ kp fs₁ Q E hR S₁ F₁ hn₁ fun b₂ fs₂ hp₂ tk₂ f sb₂ kf₂ hn₂ S₂ ho => q b₂ fs₂ hp₂ tk₂ f (sb₁.trans sb₂) (kf₁.trans kf₂) hn₂ S₂ ho
theorem exs_ret {st : Stmt} {rest : List Stmt} {r : AV} (h1 : ExecT K w n k env Γ C (exec st env) (.ret r) C₁) : ExecT K w n k env Γ C (execs (st :: rest) env) (.ret r) C₁ := by
  intro A s b kp fs Q E hR S F hn q
  refine wpAny_execs_cons (h1 A s b kp fs _ E hR S F hn fun b₁ fs₁ hp₁ tk₁ f sb₁ kf₁ hn₁ S₁ ho => ?_)
  obtain ⟨v, rfl, rv⟩ := ho
  exact q b₁ fs₁ hp₁ tk₁ _ sb₁ kf₁ hn₁ S₁ ⟨v, rfl, rv⟩
theorem ExecT.weak {T : Sem Flow} {o : Out} (h : ExecT K w n k env Γ' C T o C') (hw : ∀ x r, Γ'.lookup x = some r → Γ.lookup x = some r) : ExecT K w n k env Γ C T o C' :=
  fun A s b kp fs Q E hR S F hn q => h A s b kp fs Q E hR S (F.weak hw) hn q
theorem ExecT.less {T : Sem Flow} (h : ExecT K w n k env Γ C T (.nxt Γ₁) C') (hw : ∀ x r, Γ₂.lookup x = some r → Γ₁.lookup x = some r) : ExecT K w n k env Γ C T (.nxt Γ₂) C' :=
  fun A s b kp fs Q E hR S F hn q => h A s b kp fs Q E hR S F hn fun b' fs' h' tk f sb kf hn' S' ho => q b' fs' h' tk f sb kf hn' S' ⟨ho.1, ho.2.weak hw⟩

theorem ex_assign {x : Str} {np pos : Pos} {e : Expr} {r : AV} (h : EvalTo K w k env Γ C e r C₁) (hl : env.kindOf x = some .local) (hs : swapsWith e (some (.Name x np)) pos.line env = pure false) :
    ExecT K w n k env Γ C (exec (.Assign [.Name x np] e pos) env) (.nxt ((x, .loc r) :: Γ)) C₁ := by
  intro A s b kp fs Q E hR S F hn q
  refine wpAny_Assign_Name (h A s b kp fs _ E hR S F fun b₁ fs₁ h₁ tk₁ v sb₁ kf₁ S₁ F₁ r₁ => ?_) hs
  exact store_to (s := { s with heap := h₁, toks := tk₁ }) hl S₁ F₁ r₁ fun h' tk S' F' => q b₁ fs₁ h' tk .next sb₁ (kf₁.le hn) (Nat.le_trans hn kf₁.len) S' ⟨rfl, F'⟩
theorem ex_aug {x : Str} {np pos : Pos} {op : Operator} {e : Expr} {r r' z : AV} (hx : Γ.lookup x = some (.loc r)) (h : EvalTo K w k env Γ C e r' C₁) (ho : Op K w k C₁ (tIn op) [r, r'] z C₂) (hl : env.kindOf x = some .local) :
    ExecT K w n k env Γ C (exec (.AugAssign (.Name x np) op e pos) env) (.nxt ((x, .loc z) :: Γ)) C₂ := by
  intro A s b kp fs Q E hR S F hn q
  refine wpAny_AugAssign_Name (load_var (k := k) hx A s b kp fs _ E hR S F fun b₁ fs₁ h₁ tk₁ v sb₁ kf₁ S₁ F₁ r₁ => ?_)
  refine h A _ b₁ kp fs₁ _ E hR S₁ F₁ fun b₂ fs₂ h₂ tk₂ u sb₂ kf₂ S₂ F₂ r₂ => ?_
  refine ho.tree (s := { s with heap := h₂, toks := tk₂ }) hR S₂ F₂ (vs := [v, u]) ⟨r₁.mono sb₂ kf₂, r₂, trivial⟩ fun b₃ fs₃ h₃ tk₃ y sb₃ kf₃ S₃ F₃ r₃ => ?_
  have kf := kf₁.then (kf₂.then kf₃)
  exact store_to (s := { s with heap := h₃, toks := tk₃ }) hl S₃ F₃ r₃ fun h' tk S' F' => q b₃ fs₃ h' tk .next (sb₁.trans (sb₂.trans sb₃)) (kf.le hn) (Nat.le_trans hn kf.len) S' ⟨rfl, F'⟩
theorem ex_return {e : Expr} {pos : Pos} {r : AV} (h : EvalTo K w k env Γ C e r C₁) : ExecT K w n k env Γ C (exec (.Return (some e) pos) env) (.ret r) C₁ := by
  intro A s b kp fs Q E hR S F hn q
  exact wpAny_Return_some (h A s b kp fs _ E hR S F fun b₁ fs₁ h₁ tk₁ v sb₁ kf₁ S₁ F₁ r₁ => q b₁ fs₁ h₁ tk₁ _ sb₁ (kf₁.le hn) (Nat.le_trans hn kf₁.len) S₁ ⟨v, rfl, r₁⟩)
theorem ex_expr {e : Expr} {pos : Pos} (h : EvalTo K w k env Γ C e (.d .none) C₁) (hi : interactive env = false) (hs : swapsWith e none pos.line env = pure false) : ExecT K w n k env Γ C (exec (.Expr e pos) env) (.nxt Γ) C₁ := by
  intro A s b kp fs Q E hR S F hn q
  refine wpAny_Expr (h A s b kp fs _ E hR S F fun b₁ fs₁ h₁ tk₁ v sb₁ kf₁ S₁ F₁ r₁ => ?_) hi hs
  cases r₁
  exact q b₁ fs₁ h₁ tk₁ .next sb₁ (kf₁.le hn) (Nat.le_trans hn kf₁.len) S₁ ⟨rfl, F₁⟩
theorem ex_if {t : Expr} {x y : List Stmt} {pos : Pos} {p : Bool} {o : Out} (h : TestTo K w k env Γ C t p C₁) (ht : p = true → ExecT K w n k env Γ C₁ (execs x env) o C₂) (hf : p = false → ExecT K w n k env Γ C₁ (execs y env) o C₂) :
    ExecT K w n k env Γ C (exec (.If t x y pos) env) o C₂ := by
  intro A s b kp fs Q E hR S F hn q
  refine wpAny_If (h A s b kp fs _ E hR S F fun b₁ fs₁ h₁ tk₁ v sb₁ kf₁ S₁ F₁ r₁ => ?_)
  subst r₁
  have go : ∀ {T : Sem Flow}, ExecT K w n k env Γ C₁ T o C₂ → wpAny (model prg w) A T Q E { s with heap := h₁, toks := tk₁ } := fun hT =>
    hT A _ b₁ kp fs₁ Q E hR S₁ F₁ (Nat.le_trans hn kf₁.len) fun b₂ fs₂ h₂ tk₂ f sb₂ kf₂ hn₂ S₂ ho => q b₂ fs₂ h₂ tk₂ f (sb₁.trans sb₂) ((kf₁.le hn).trans kf₂) hn₂ S₂ ho
  cases v with
  | true => simp only [if_true]; exact go (ht rfl)
  | false => simp only [Bool.false_eq_true, if_false]; exact go (hf rfl)
end

/-! calls -/
noncomputable def Cell.refs : Cell → List Nat
  | .inst (some j) => [j]
  | .box (some (.c j)) => [j]
  | _ => []
noncomputable def AV.closed (n : Nat) : AV → Prop
  | .d _ => True
  | .c i => i < n
theorem CellOk.take {b : PM} {fs : List Foot} {c : Cell} {f : Foot} {n : Nat} (h : CellOk b fs c f) (hr : ∀ j ∈ c.refs, j < n) : CellOk b (fs.take n) c f := by
  cases c with
  | lst ds => exact h
  | inst j =>
    cases j with
    | none => exact h
    | some j =>
      obtain ⟨x, dx, l, hh, t, k, g, e, eg, hg⟩ := h
      have hj : j < n := hr j (by simp [Cell.refs])
      exact ⟨x, dx, l, hh, t, k, g, e, by rw [List.getElem?_take, if_pos hj]; exact eg, hg⟩
  | itr ds => exact h
  | box r =>
    cases r with
    | none => exact h
    | some r =>
      obtain ⟨c, o, v, e, h1, r'⟩ := h
      refine ⟨c, o, v, e, h1, ?_⟩
      cases r with
      | d x => exact r'
      | c j =>
        obtain ⟨g, a, eg, hg, hv⟩ := r'
        have hj : j < n := hr j (by simp [Cell.refs])
        exact ⟨g, a, by rw [List.getElem?_take, if_pos hj]; exact eg, hg, hv⟩
  | gone => exact h
theorem RepA.take {b : PM} {fs : List Foot} {v : Value} {r : AV} {n : Nat} (h : RepA b fs v r) (hr : r.closed n) : RepA b (fs.take n) v r := by
  cases r with
  | d x => exact h
  | c j =>
    obtain ⟨g, a, eg, hg, hv⟩ := h
    have hj : j < n := hr
    exact ⟨g, a, by rw [List.getElem?_take, if_pos hj]; exact eg, hg, hv⟩

section
variable {K : Frag} {w : World} {n k : Nat} {Γ Γ₁ Γ₂ Γ' : Gam} {C C' C₁ C₂ C₃ : List Cell}

noncomputable def gamOf : List Str → List AV → Gam
  | p :: ps, r :: rs => (p, .loc r) :: gamOf ps rs
  | _, _ => []

theorem lookup_gam {b : PM} {fs : List Foot} {env : Env} : ∀ (ps : List Str) (vs : List Value) (rs : List AV), ps.Nodup → RepAs b fs vs rs → (∀ p ∈ ps, env.kindOf p = some .local) →
    ∀ x r, (gamOf ps rs).lookup x = some r → VarOk b fs env (fun y => ((ps.zip vs).reverse.lookup y)) x r := by
  intro ps
  induction ps with
  | nil => intro vs rs _ _ _ x r h; simp [gamOf] at h
  | cons p ps ih =>
    intro vs rs nd hv hl x r h
    match vs, rs, hv with
    | [], [], _ => simp [gamOf] at h
    | v :: vs, r₀ :: rs, ⟨h1, h2⟩ =>
      simp only [gamOf, List.lookup_cons] at h
      by_cases q : x = p
      · subst q
        simp only [beq_self_eq_true, Option.some.injEq] at h
        subst h
        refine ⟨hl x List.mem_cons_self, v, ?_, h1⟩
        simp only [List.zip_cons_cons, List.reverse_cons]
        rw [List.lookup_append]
        have : (ps.zip vs).reverse.lookup x = none := by
          rw [List.lookup_eq_none_iff]
          intro y hy
          have hy' := List.mem_reverse.mp hy
          have := List.of_mem_zip hy'
          have nx : y.1 ≠ x := fun e => (List.nodup_cons.mp nd).1 (e ▸ this.1)
          simpa using Ne.symm nx
        rw [this]; simp
      · have q' : (x == p) = false := by simpa using q
        rw [q'] at h
        have := ih vs rs (List.nodup_cons.mp nd).2 h2 (fun y hy => hl y (List.mem_cons_of_mem _ hy)) x r h
        cases r with
        | box i => exact this
        | loc r =>
          obtain ⟨a, u, e, z⟩ := this
          refine ⟨a, u, ?_, z⟩
          simp only [List.zip_cons_cons, List.reverse_cons]
          rw [List.lookup_append]
          have e' : (ps.zip vs).reverse.lookup x = some u := e
          rw [e']; rfl

theorem RepAs.length {b : PM} {fs : List Foot} : ∀ {vs : List Value} {rs : List AV}, RepAs b fs vs rs → vs.length = rs.length
  | [], [], _ => rfl
  | _ :: _, _ :: _, h => by rw [List.length_cons, List.length_cons, RepAs.length h.2]
  | [], _ :: _, h => h.elim
  | _ :: _, [], h => h.elim


theorem St.nolimit {b : PM} {kp : Kp} {fs : List Foot} {h : Heap} (S : St K b kp fs C h) {o : Obj} {es : Array DictEntry} {ep : Nat} (hlim : K.lookup cStatics = some o) (hd : o.data = .dict es ep) (hk : StrKeys es) (hn : nsFind es "sys.recursionlimit" = none) : h.NoLimit :=
  ⟨_, ⟨o, es, ep, S.top_in _ _ hlim, hd, hk, fun _ => rfl⟩, hn⟩

theorem St.closed {b : PM} {kp : Kp} {fs : List Foot} {h : Heap} (S : St K b kp fs C h) : ∀ c ∈ C, ∀ j ∈ c.refs, j < C.length := fun c hc j hj => by
  obtain ⟨i, hi, e⟩ := List.getElem_of_mem hc
  have hi' : i < fs.length := by rw [S.len]; exact hi
  have ok := S.cells.2 i c fs[i] (by simp [hi, e]) (by simp [hi'])
  cases c with
  | inst r =>
    cases r with
    | none => simp [Cell.refs] at hj
    | some m =>
      simp [Cell.refs] at hj; subst hj
      obtain ⟨_, _, _, _, _, _, g, _, eg, _⟩ := ok
      rw [← S.len]; exact (List.getElem?_eq_some_iff.mp eg).1
  | box r =>
    cases r with
    | none => simp [Cell.refs] at hj
    | some r =>
      cases r with
      | d x => simp [Cell.refs] at hj
      | c m =>
        simp [Cell.refs] at hj; subst hj
        obtain ⟨_, _, _, _, _, g, _, eg, _⟩ := ok
        rw [← S.len]; exact (List.getElem?_eq_some_iff.mp eg).1
  | lst _ => simp [Cell.refs] at hj
  | itr _ => simp [Cell.refs] at hj
  | gone => simp [Cell.refs] at hj
structure Lim (K : Frag) : Prop where
  ex : ∃ o es ep, K.lookup cStatics = some o ∧ o.data = .dict es ep ∧ StrKeys es ∧ nsFind es "sys.recursionlimit" = none

/-- what stands of a def -/
structure DefAt (K : Frag) (a : Addr) (fd : FuncData) (body : List Stmt) : Prop where
  at_ : ∃ oc od osl, K.lookup a = some ⟨oc, od, .func fd, osl⟩
  cl : fd.closure = []
  gl : fd.globals = mainGlobals
  bu : fd.builtins = builtinsNs
  body : fd.body = .stmts body
  code : codeIn K fd.code fd.qualname = true
  co : fd.scope.isCoroutine = false
  gen : fd.scope.isGenerator = false
  kind : fd.scope.kind = .function

/-- a def of the text is called: what its body gives -/
theorem call_fn {a : Addr} {fd : FuncData} {body : List Stmt} {ps : List Str} {kw : List (Str × Value)} {args pargs : List AV} {r : AV} (ext : List Value → List Value)
    (D : DefAt K a fd body) (hlim : Lim K)
    (hbind : ∀ (s : Shared) (vs : List Value), K.In s.heap → vs.length = args.length → BindsTo s fd ⟨vs, kw⟩ (ps.zip (ext vs)))
    (hext : ∀ b fs vs, RepAs b fs vs args → RepAs b fs (ext vs) pargs)
    (hloc : ∀ p ∈ ps, fd.scope.names.lookup p = some .local) (hnd : ps.Nodup) (hcell : ∀ x ∈ fd.scope.names, x.2 ≠ .cell)
    (hlen : C'.length = C.length) (hC : (∀ c ∈ C, ∀ j ∈ c.refs, j < C.length) → ∀ c ∈ C', ∀ j ∈ c.refs, j < C.length) (hr : r.closed C.length)
    (h : ∀ L, ExecT K w C.length k (envOf fd.qualname fd.scope L a fd.code) (gamOf ps pargs) C (execs body (envOf fd.qualname fd.scope L a fd.code)) (.ret r) (C' ++ C₁)) :
    Op K w (k + 1) C (fun vs => call (.ref a) vs kw) args r C' := by
  intro A s b kp fs vs Q E hR S hv q
  obtain ⟨oc, od, osl, ho⟩ := D.at_
  obtain ⟨lo, les, lep, l1, l2, l3, l4⟩ := hlim.ex
  have hdep := hR.depth
  have huni := hR.units
  refine wpAny_call (codeAny_call_function (fd := fd) (body := body) (by omega) (S.top_in _ _ ho) rfl D.co D.gen D.body (codeRec_of S.top_in D.code) ?_)
  refine (hbind s vs S.top_in hv.length) _ _ _ _ ?_
  rw [D.cl, D.gl, D.bu]
  have hL : s.heap.get? s.heap.objs.size = none := Heap.get?_none_of_le (Nat.le_refl _)
  refine wpAny_newFunctionEnv hcell (fun x hx => hloc _ (List.of_mem_zip hx).1) (fun h' hn hs => ?_) D.kind
  have hk : ∀ c o, s.heap.get? c = some o → h'.get? c = some o := fun c o e => hs.extBut c o (Nat.ne_of_lt (Heap.lt_size e)) (Heap.get?_push_of_some _ e)
  have S' : St K b kp fs C h' := S.keeps hk
  refine ⟨S'.nolimit l1 l2 l3 l4, ?_⟩
  show codeAny _ _ (.func body (envOf fd.qualname fd.scope s.heap.objs.size a fd.code)) _ _
  refine codeAny_func ?_
  have F' : Frm b kp fs (envOf fd.qualname fd.scope s.heap.objs.size a fd.code) (gamOf ps pargs) h' :=
    ⟨D.kind, rfl, rfl, S.fresh hL, _, hn, lookup_gam ps (ext vs) pargs hnd (hext _ _ _ hv) hloc⟩
  have hR' : Room k (okL kp s.heap.objs.size) (A.deeper (envOf fd.qualname fd.scope s.heap.objs.size a fd.code)) := by
    refine ⟨by show A.depth + 1 + k < _; omega, by show A.units + 3 + 8 * k < _; omega, hR.handled, ?_⟩
    obtain ⟨outer, e, hx⟩ := hR.frames
    refine ⟨envOf fd.qualname fd.scope s.heap.objs.size a fd.code :: outer, by show A.frames.map _ = _; rw [e]; rfl, fun x hxm => ?_⟩
    rcases List.mem_cons.mp hxm with rfl | hxm
    · exact ⟨by show fd.scope.kind ≠ .module; rw [D.kind]; decide, _, rfl, .inl rfl⟩
    · obtain ⟨a1, L, a2, a3⟩ := hx x hxm
      exact ⟨a1, L, a2, .inr a3⟩
  refine h _ _ _ b kp fs _ _ hR' S' F' (by rw [S.len]; exact Nat.le_refl _) fun b' fs' h'' tk f sb kf hn' S'' hf => ?_
  obtain ⟨v, rfl, rv⟩ := hf
  have hlen2 : fs'.length = C'.length + C₁.length := by rw [S''.len, List.length_append]
  have hlt : (C' ++ C₁).take C.length = C' := by rw [← hlen, List.take_left]
  have S₃ := S''.drop C.length fun i c hi hc g hg => (S''.cells.2 i c g hc hg).take fun j hj => by
    refine hC S.closed c ?_ j hj
    rw [List.getElem?_append_left (by omega)] at hc
    exact List.mem_of_getElem? hc
  rw [hlt] at S₃
  refine q b' (fs'.take C.length) h'' tk v sb (fun i g hi hg => ?_) S₃ (rv.take hr)
  obtain ⟨g', e', z⟩ := kf i g (by rw [← S.len]; exact hi) hg
  exact ⟨g', by rw [List.getElem?_take, if_pos (by rw [← S.len]; exact hi)]; exact e', z⟩
end

end
/-! M5 -/
section
section
variable {K : Frag} {w : World} {n k : Nat} {env : Env} {Γ Γ₁ Γ₂ Γ' : Gam} {C C' C₁ C₂ C₃ : List Cell}

noncomputable def keepOk (K : Frag) (f : Value) : Bool := match f with
  | .builtin _ => true
  | .type _ => true
  | f => keepIn K f
theorem keeps_ok {K : Frag} {f : Value} (hk : keepOk K f = true) (h : Heap) (X : K.In h) : ∃ k, (k = Keeper.frame ∨ k = Keeper.machine ∨ k = Keeper.boundFrame) ∧ Looks (model prg w) h (keeperOf f) k := by
  cases f with
  | builtin n => exact ⟨.machine, .inr (.inl rfl), Looks.of_pure rfl⟩
  | type n => exact ⟨.machine, .inr (.inl rfl), Looks.of_pure rfl⟩
  | ref a => exact keeps_K (K := K) (f := .ref a) hk h X
  | _ => exact Bool.noConfusion (show false = true from hk)
theorem RepAs.append {b : PM} {fs : List Foot} : ∀ {vs : List Value} {rs : List AV} {vs' : List Value} {rs' : List AV}, RepAs b fs vs rs → RepAs b fs vs' rs' → RepAs b fs (vs ++ vs') (rs ++ rs')
  | [], [], _, _, _, h => h
  | _ :: _, _ :: _, _, _, h, h' => ⟨h.1, RepAs.append h.2 h'⟩
  | [], _ :: _, _, _, h, _ => h.elim
  | _ :: _, [], _, _, h, _ => h.elim

theorem args_to {f : Value} {pos : Pos} {es : List Expr} {rs : List AV} (h : EvalsTo K w k env Γ C es rs C₁) : TreeTo K w k env Γ C (evalArgs f true (backTo pos (starEach es env)) []) (fun b fs a => a.kw = [] ∧ RepAs b fs a.pos rs) Γ C₁ := by
  cases h with
  | nil => exact TreeTo.still fun A s b kp fs Q E hR S F q => evalArgs_nil3 (q ⟨[], []⟩ s.toks ⟨rfl, trivial⟩)
  | @cons C C' C₂ e es r rs h1 h2 hs =>
    intro A s b kp fs Q E hR S F q
    have h' := spliced_to (pos := pos) (EvalsTo.cons h1 h2 hs)
    rw [hs] at h' ⊢
    exact evalArgs_plain (h' A s b kp fs _ E hR S F fun b' fs' h' tk vs sb kf S' F' r => q b' fs' h' tk ⟨vs, []⟩ sb kf S' F' ⟨rfl, r⟩)
theorem args_kw1 {f : Value} {pos p : Pos} {es : List Expr} {rs : List AV} {nm : Str} {e : Expr} {x : Value} (h : EvalsTo K w k env Γ C es rs C₁) (hx : EvalTo K w k env Γ C₁ e (.d (.v x)) C₂) :
    TreeTo K w k env Γ C (evalArgs f true (backTo pos (starEach es env)) (backToKw pos (keywordEach [⟨some nm, e, p⟩] env))) (fun b fs a => a.kw = [(nm, x)] ∧ RepAs b fs a.pos rs) Γ C₂ := by
  have kw : ∀ {A : Around} {s : Shared} {b : PM} {kp : Kp} {fs : List Foot} {Q : List Value → Shared → Prop} {E : Value → Shared → Prop}, Room k (okL kp env.locals) A → St K b kp fs C₁ s.heap → Frm b kp fs env Γ s.heap →
      (∀ b' fs' h' tk, Sub b b' → Keep fs.length fs fs' → St K b' kp fs' C₂ h' → Frm b' kp fs' env Γ h' → Q [x] { s with heap := h', toks := tk }) →
      wpAny (model prg w) A (evalAll ((backToKw pos (keywordEach [⟨some nm, e, p⟩] env)).map (·.2))) Q E s := fun hR S F q => by
    refine kwAll_cons (hx _ _ _ _ _ _ _ hR S F fun b₁ fs₁ h₁ tk₁ v sb₁ kf₁ S₁ F₁ r₁ => ?_)
    cases r₁
    exact kwAll_nil (q b₁ fs₁ h₁ tk₁ sb₁ kf₁ S₁ F₁)
  cases h with
  | nil =>
    intro A s b kp fs Q E hR S F q
    exact evalArgs_kw2_nil rfl (kw hR S F fun b' fs' h' tk sb kf S' F' => q b' fs' h' tk ⟨[], [(nm, x)]⟩ sb kf S' F' ⟨rfl, trivial⟩)
  | @cons C C' C₂ e es r rs h1 h2 hs =>
    intro A s b kp fs Q E hR S F q
    refine evalArgs_kw2 rfl (spliced_to (pos := pos) (EvalsTo.cons h1 h2 hs) A s b kp fs _ E hR S F fun b₁ fs₁ h₁ tk₁ vs sb₁ kf₁ S₁ F₁ r₁ => ?_) hs
    exact kw (s := { s with heap := h₁, toks := tk₁ }) hR S₁ F₁ fun b₂ fs₂ h₂ tk₂ sb₂ kf₂ S₂ F₂ => q b₂ fs₂ h₂ tk₂ ⟨vs, [(nm, x)]⟩ (sb₁.trans sb₂) (kf₁.then kf₂) S₂ F₂ ⟨rfl, r₁.mono sb₂ kf₂⟩

theorem callWith_to {pos : Pos} {f : Value} {first : List Value} {firsts rs : List AV} {trees : List (Bool × Sem Value)} {keywords : List (Option Str × Sem Value)} {kw : List (Str × Value)} {r : AV}
    (hk : keepOk K f = true) (hp : (trees.any (·.1) || keywords.any (·.1.isNone)) = false)
    (hargs : TreeTo K w k env Γ C (evalArgs f true trees keywords) (fun b fs a => a.kw = kw ∧ RepAs b fs a.pos rs) Γ C₁) (hop : Op K w k C₁ (fun vs => call f vs kw) (firsts ++ rs) r C₂)
    {A : Around} {s : Shared} {b : PM} {kp : Kp} {fs : List Foot} {Q : Value → Shared → Prop} {E : Value → Shared → Prop}
    (hR : Room k (okL kp env.locals) A) (S : St K b kp fs C s.heap) (F : Frm b kp fs env Γ s.heap) (hf : RepAs b fs first firsts)
    (q : ∀ b' fs' h' tk v, Sub b b' → Keep fs.length fs fs' → St K b' kp fs' C₂ h' → Frm b' kp fs' env Γ h' → RepA b' fs' v r → Q v { s with heap := h', toks := tk }) :
    wpAny (model prg w) A (callWith pos f first trees keywords) Q E s := by
  refine callWith_of hp (keeps_ok hk) (hargs A s b kp fs _ E hR S F fun b₁ fs₁ h₁ tk₁ a sb₁ kf₁ S₁ F₁ r₁ => ?_)
  obtain ⟨e, r₁⟩ := r₁
  refine ⟨S₁.top_in, ?_⟩
  rw [e]
  exact hop.tree (s := { s with heap := h₁, toks := tk₁ }) hR S₁ F₁ ((hf.mono sb₁ kf₁).append r₁) fun b₂ fs₂ h₂ tk₂ v sb₂ kf₂ S₂ F₂ r₂ => q b₂ fs₂ h₂ tk₂ v (sb₁.trans sb₂) (kf₁.then kf₂) S₂ F₂ r₂

theorem backTo_plain {pos : Pos} {es : List Expr} (h : (starEach es env).any (·.1) = false) : (backTo pos (starEach es env)).any (·.1) = false := by
  unfold backTo
  rw [List.any_map]
  exact h
theorem EvalsTo.plain {es : List Expr} {rs : List AV} (h : EvalsTo K w k env Γ C es rs C₁) : (starEach es env).any (·.1) = false := by
  induction h with
  | nil => rfl
  | cons _ _ hs ih => rw [hs, List.any_cons, ih]; rfl

theorem ev_call {x : Str} {np pos : Pos} {f : Value} {es : List Expr} {rs : List AV} {r : AV} (h1 : EvalTo K w k env Γ C (.Name x np) (.d (.v f)) C₁) (hk : keepOk K f = true) (h2 : EvalsTo K w k env Γ C₁ es rs C₂)
    (h3 : Op K w k C₂ (fun vs => call f vs []) rs r C₃) : EvalTo K w k env Γ C (.Call (.Name x np) es [] pos) r C₃ := by
  intro A s b kp fs Q E hR S F q
  show wpAny _ _ (do callWith pos (← eval (.Name x np) env) [] (backTo pos (starEach es env)) []) _ _ _
  refine wpAny_bind (h1 A s b kp fs _ E hR S F fun b₁ fs₁ h₁ tk₁ v sb₁ kf₁ S₁ F₁ r₁ => ?_)
  cases r₁
  exact callWith_to (s := { s with heap := h₁, toks := tk₁ }) (firsts := []) hk (by rw [backTo_plain h2.plain]; rfl) (args_to h2) h3 hR S₁ F₁ trivial fun b₂ fs₂ h₂ tk₂ v sb₂ kf₂ S₂ F₂ r₂ => q b₂ fs₂ h₂ tk₂ v (sb₁.trans sb₂) (kf₁.then kf₂) S₂ F₂ r₂

/-- a method found upon a value -/
noncomputable def MethG (K : Frag) (w : World) (k : Nat) (C : List Cell) (name : Str) (r₀ : AV) (f : Value) : Prop :=
  ∀ pl : Sem Bool, OpG K w k C (fun vs => getMethod (v0 vs) name pl) [r₀] (fun b fs fx => fx.1 = f ∧ RepAs b fs fx.2 [r₀]) C

theorem ev_meth {o : Expr} {name : Str} {apos pos : Pos} {f : Value} {es : List Expr} {rs : List AV} {r₀ r : AV} {pl : Sem Bool} (h1 : EvalTo K w k env Γ C o r₀ C₁) (hm : MethG K w k C₁ name r₀ f) (hk : keepOk K f = true) (h2 : EvalsTo K w k env Γ C₁ es rs C₂)
    (h3 : Op K w k C₂ (fun vs => call f vs []) (r₀ :: rs) r C₃)
    (he : eval (.Call (.Attribute o name apos) es [] pos) env = (do
      let ov ← eval o env
      standAt apos.atName
      let (f, first) ← holding [ov] (getMethod ov name pl)
      callWith pos f first (backTo pos (starEach es env)) (backToKw pos (keywordEach [] env)))) : EvalTo K w k env Γ C (.Call (.Attribute o name apos) es [] pos) r C₃ := by
  intro A s b kp fs Q E hR S F q
  refine methodCall_KW (pl := pl) ?_ he
  refine h1 A s b kp fs _ E hR S F fun b₁ fs₁ h₁ tk₁ v sb₁ kf₁ S₁ F₁ r₁ => ?_
  refine (hm pl).tree (s := { s with heap := h₁, toks := tk₁ }) (vs := [v]) hR S₁ F₁ ⟨r₁, trivial⟩ fun b₂ fs₂ h₂ tk₂ fx sb₂ kf₂ S₂ F₂ r₂ => ?_
  obtain ⟨e, r₂⟩ := r₂
  rw [e]
  exact callWith_to (s := { s with heap := h₂, toks := tk₂ }) (firsts := [r₀]) (kw := []) hk (by rw [backTo_plain h2.plain]; rfl) (args_to h2) h3 hR S₂ F₂ r₂ fun b₃ fs₃ h₃ tk₃ v sb₃ kf₃ S₃ F₃ r₃ => q b₃ fs₃ h₃ tk₃ v (sb₁.trans (sb₂.trans sb₃)) (kf₁.then (kf₂.then kf₃)) S₃ F₃ r₃
theorem ev_meth_kw {o : Expr} {name : Str} {apos pos p : Pos} {f x : Value} {es : List Expr} {rs : List AV} {r₀ r : AV} {nm : Str} {e : Expr} {pl : Sem Bool} (h1 : EvalTo K w k env Γ C o r₀ C₁) (hm : MethG K w k C₁ name r₀ f) (hk : keepOk K f = true) (h2 : EvalsTo K w k env Γ C₁ es rs C₂)
    (hx : EvalTo K w k env Γ C₂ e (.d (.v x)) C₂) (h3 : Op K w k C₂ (fun vs => call f vs [(nm, x)]) (r₀ :: rs) r C₃)
    (he : eval (.Call (.Attribute o name apos) es [⟨some nm, e, p⟩] pos) env = (do
      let ov ← eval o env
      standAt apos.atName
      let (f, first) ← holding [ov] (getMethod ov name pl)
      callWith pos f first (backTo pos (starEach es env)) (backToKw pos (keywordEach [⟨some nm, e, p⟩] env)))) : EvalTo K w k env Γ C (.Call (.Attribute o name apos) es [⟨some nm, e, p⟩] pos) r C₃ := by
  intro A s b kp fs Q E hR S F q
  refine methodCall_KW (pl := pl) ?_ he
  refine h1 A s b kp fs _ E hR S F fun b₁ fs₁ h₁ tk₁ v sb₁ kf₁ S₁ F₁ r₁ => ?_
  refine (hm pl).tree (s := { s with heap := h₁, toks := tk₁ }) (vs := [v]) hR S₁ F₁ ⟨r₁, trivial⟩ fun b₂ fs₂ h₂ tk₂ fx sb₂ kf₂ S₂ F₂ r₂ => ?_
  obtain ⟨e', r₂⟩ := r₂
  rw [e']
  exact callWith_to (s := { s with heap := h₂, toks := tk₂ }) (firsts := [r₀]) (kw := [(nm, x)]) hk (by rw [backTo_plain h2.plain]; rfl) (args_kw1 h2 hx) h3 hR S₂ F₂ r₂ fun b₃ fs₃ h₃ tk₃ v sb₃ kf₃ S₃ F₃ r₃ => q b₃ fs₃ h₃ tk₃ v (sb₁.trans (sb₂.trans sb₃)) (kf₁.then (kf₂.then kf₃)) S₃ F₃ r₃
end

end
/-! M6 -/
section
section
variable {K : Frag} {w : World} {n k : Nat} {env : Env} {Γ Γ₁ Γ₂ Γ' : Gam} {C C' C₁ C₂ C₃ : List Cell} {b b' : PM} {kp : Kp} {fs fs' : List Foot} {h h' : Heap}

/-! what stands of values in the heap -/
theorem rep_list {v : Value} {ds : List D} (S : St K b kp fs C h) (r : Rep b v (.list ds)) : ∃ a vs n, v = .ref a ∧ h.get? a = some (lstO vs n) ∧ RepL b vs ds := by
  cases r with
  | list e q => exact ⟨_, _, _, rfl, S.base _ _ e, q⟩
theorem rep_tup {v : Value} {ds : List D} (S : St K b kp fs C h) (r : Rep b v (.tup ds)) : ∃ a vs n, v = .ref a ∧ h.get? a = some (tupO vs n) ∧ RepL b vs ds := by
  cases r with
  | tup e q => exact ⟨_, _, _, rfl, S.base _ _ e, q⟩
theorem rep_slc {v : Value} {lo hi st : Option Int} (S : St K b kp fs C h) (r : Rep b v (.slc lo hi st)) : ∃ a x y z, v = .ref a ∧ h.get? a = some { cls := .type "slice", data := .fields #[x, y, z] } ∧ IsPart x lo ∧ IsPart y hi ∧ IsPart z st := by
  cases r with
  | slc e x y z => exact ⟨_, _, _, _, rfl, S.base _ _ e, x, y, z⟩
theorem rep_cell {v : Value} {i : Nat} {ds : List D} (S : St K b kp fs C h) (hi : C[i]? = some (.lst ds)) (r : RepA b fs v (.c i)) :
    ∃ a vs n, v = .ref a ∧ fs[i]? = some [(a, lstO vs n)] ∧ h.get? a = some (lstO vs n) ∧ RepL b vs ds := by
  obtain ⟨f, a, hf, ha, rfl⟩ := r
  obtain ⟨a', vs, n, rfl, q⟩ := S.cells.2 i _ f hi hf
  obtain rfl : a' = a := by simpa [headA] using ha
  exact ⟨a', vs, n, rfl, hf, (S.foot (a', lstO vs n) (List.mem_flatten.mpr ⟨_, List.mem_of_getElem? hf, List.mem_cons_self⟩)).1, q⟩

theorem isList_of {a : Addr} {vs : List Value} {n : Nat} (e : h.get? a = some (lstO vs n)) : h.IsList a vs.toArray := ⟨_, e, rfl, n, rfl⟩
theorem isTup_of {a : Addr} {vs : List Value} {n : Nat} (e : h.get? a = some (tupO vs n)) : h.IsTuple a vs.toArray := ⟨_, e, rfl, n, rfl⟩

theorem St.push (S : St K b kp fs C h) (o : Obj) (ho : o.isFreed = false) : St K (b.put h.objs.size o) kp fs C (h.push o) :=
  S.frozen (Heap.get?_none_of_le (Nat.le_refl _)) (Heap.get?_push_size _ ho) fun _ _ e => Heap.get?_push_of_some _ e
theorem St.sub_push (S : St K b kp fs C h) (o : Obj) : Sub b (b.put h.objs.size o) := Sub.put (S.fresh (Heap.get?_none_of_le (Nat.le_refl _))).1
/-- a new list, turned no more -/
theorem St.pushL (S : St K b kp fs C h) {vs : List Value} {ds : List D} (r : RepL b vs ds) : ∃ b', Sub b b' ∧ St K b' kp fs C (h.push (lstO vs 0)) ∧ Rep b' (.ref h.objs.size) (.list ds) :=
  ⟨_, S.sub_push _, S.push _ rfl, .list PM.put_self (r.mono (S.sub_push _))⟩
theorem St.pushT (S : St K b kp fs C h) {vs : List Value} {ds : List D} (r : RepL b vs ds) : ∃ b', Sub b b' ∧ St K b' kp fs C (h.push (tupO vs 0)) ∧ Rep b' (.ref h.objs.size) (.tup ds) :=
  ⟨_, S.sub_push _, S.push _ rfl, .tup PM.put_self (r.mono (S.sub_push _))⟩
/-- a new list that is still turned -/
theorem St.pushC (S : St K b kp fs C h) {vs : List Value} {ds : List D} (r : RepL b vs ds) : St K b kp (fs ++ [[(h.objs.size, lstO vs 0)]]) (C ++ [.lst ds]) (h.push (lstO vs 0)) ∧ RepA b (fs ++ [[(h.objs.size, lstO vs 0)]]) (.ref h.objs.size) (.c C.length) := by
  refine ⟨S.cell (fun p hp => ?_) (by simp) ⟨_, vs, 0, rfl, r⟩ fun _ _ e => Heap.get?_push_of_some _ e, ⟨[(h.objs.size, lstO vs 0)], h.objs.size, by rw [← S.len]; simp, rfl, rfl⟩⟩
  simp at hp; subst hp
  exact ⟨Heap.get?_none_of_le (Nat.le_refl _), Heap.get?_push_size _ rfl⟩
theorem St.turnL (S : St K b kp fs C h) {i : Nat} {a : Addr} {vs vs' : List Value} {n : Nat} {ds ds' : List D} {f : Array Value → Array Value} (hi : C[i]? = some (.lst ds)) (hf : fs[i]? = some [(a, lstO vs n)]) (hv : f vs.toArray = vs'.toArray) (r : RepL b vs' ds') :
    ∃ n', St K b kp (fs.set i [(a, lstO vs' n')]) (C.set i (.lst ds')) (h.update a (Obj.mapSeq f)) ∧ Keep fs.length fs (fs.set i [(a, lstO vs' n')]) := by
  have ha : h.get? a = some (lstO vs n) := (S.foot (a, lstO vs n) (List.mem_flatten.mpr ⟨_, List.mem_of_getElem? hf, List.mem_cons_self⟩)).1
  have e : ∃ n', (lstO vs n).mapSeq f = lstO vs' n' := ⟨_, by simp only [Obj.mapSeq, lstO]; rw [hv]⟩
  obtain ⟨n', e⟩ := e
  refine ⟨n', S.turn hf (List.getElem?_eq_some_iff.mp hi).1 rfl (fun p hp => ?_) (fun c o hc ho => ?_) ⟨a, vs', n', rfl, r⟩, keep_set hf rfl⟩
  · simp at hp; subst hp
    have := Heap.get?_update_self (Obj.mapSeq f) ha (by rw [e]; rfl)
    rw [e] at this; exact this
  · exact (Heap.SameBut.update h a (Obj.mapSeq f)).extBut c o (Ne.symm (hc _ List.mem_cons_self)) ho

theorem Frm.push (F : Frm b kp fs env Γ h) (S : St K b kp fs C h) (o : Obj) : Frm (b.put h.objs.size o) kp fs env Γ (h.push o) := by
  obtain ⟨m, hn, hv⟩ := id F.ns
  refine F.same (S.sub_push o) Keep.refl ?_ F.off.2.2 fun _ e => Heap.get?_push_of_some _ e
  rw [PM.put_ne (Nat.ne_of_lt hn.lt)]; exact F.off.1

/-! displays -/
theorem repL_of {ds : List D} : ∀ {vs : List Value}, RepAs b fs vs (ds.map .d) → RepL b vs ds := by
  induction ds with
  | nil => intro vs h; cases vs with | nil => exact .nil | cons _ _ => exact h.elim
  | cons d ds ih => intro vs h; cases vs with | nil => exact h.elim | cons v vs => exact .cons h.1 (ih h.2)
theorem o_newlist {ds : List D} (hz : ds.length ≤ sizeLine) : Op K w k C newList (ds.map .d) (.d (.list ds)) C := by
  intro A s b kp fs vs Q E hR S hv q
  have r := repL_of hv
  obtain ⟨b', sb, S', r'⟩ := S.pushL r
  exact wpAny_newList (q b' fs _ s.toks _ sb Keep.refl S' r') (by rw [r.length]; exact hz)
theorem o_newtup {ds : List D} (hz : ds.length ≤ sizeLine) : Op K w k C newTuple (ds.map .d) (.d (.tup ds)) C := by
  intro A s b kp fs vs Q E hR S hv q
  have r := repL_of hv
  obtain ⟨b', sb, S', r'⟩ := S.pushT r
  exact wpAny_newTuple (q b' fs _ s.toks _ sb Keep.refl S' r') (by rw [r.length]; exact hz)
theorem o_newcell {ds : List D} (hz : ds.length ≤ sizeLine) : Op K w k C newList (ds.map .d) (.c C.length) (C ++ [.lst ds]) := by
  intro A s b kp fs vs Q E hR S hv q
  have r := repL_of hv
  obtain ⟨S', r'⟩ := S.pushC r
  exact wpAny_newList (q b _ _ s.toks _ Sub.refl keep_append S' r') (by rw [r.length]; exact hz)

inductive EvalsD (K : Frag) (w : World) (k : Nat) (env : Env) (Γ : Gam) : List Cell → List Expr → List D → List Cell → Prop
  | nil {C : List Cell} : EvalsD K w k env Γ C [] [] C
  | cons {C C₁ C₂ : List Cell} {e : Expr} {es : List Expr} {r : D} {rs : List D} : EvalTo K w k env Γ C e (.d r) C₁ → EvalsD K w k env Γ C₁ es rs C₂ → starEach (e :: es) env = (false, eval e env) :: starEach es env → EvalsD K w k env Γ C (e :: es) (r :: rs) C₂
theorem EvalsD.c {e : Expr} {es : List Expr} {r : D} {rs : List D} (h : EvalTo K w k env Γ C e (.d r) C₁) (h' : EvalsD K w k env Γ C₁ es rs C₂) (hs : starEach (e :: es) env = (false, eval e env) :: starEach es env := by rfl) : EvalsD K w k env Γ C (e :: es) (r :: rs) C₂ := .cons h h' hs
theorem EvalsTo.c {e : Expr} {es : List Expr} {r : AV} {rs : List AV} (h : EvalTo K w k env Γ C e r C₁) (h' : EvalsTo K w k env Γ C₁ es rs C₂) (hs : starEach (e :: es) env = (false, eval e env) :: starEach es env := by rfl) : EvalsTo K w k env Γ C (e :: es) (r :: rs) C₂ := .cons h h' hs
theorem EvalsD.to {es : List Expr} {ds : List D} (h : EvalsD K w k env Γ C es ds C₁) : EvalsTo K w k env Γ C es (ds.map .d) C₁ := by
  induction h with
  | nil => exact .nil
  | cons h1 _ hs ih => exact .cons h1 ih hs
theorem EvalsTo.spl {α : Type} {es : List Expr} {rs : List AV} {pos : Pos} {T : List Value → Sem α} {R : PM → List Foot → α → Prop} (h : EvalsTo K w k env Γ C es rs C₁) (h2 : OpG K w k C₁ T rs R C₂) :
    TreeTo K w k env Γ C (do T (← spliced (backTo pos (starEach es env)))) R Γ C₂ := by
  intro A s b kp fs Q E hR S F q
  refine wpAny_bind (spliced_to h A s b kp fs _ E hR S F fun b₁ fs₁ h₁ tk₁ vs sb₁ kf₁ S₁ F₁ r₁ => ?_)
  exact h2.tree (s := { s with heap := h₁, toks := tk₁ }) hR S₁ F₁ r₁ fun b₂ fs₂ h₂ tk₂ v sb₂ kf₂ S₂ F₂ r₂ => q b₂ fs₂ h₂ tk₂ v (sb₁.trans sb₂) (kf₁.then kf₂) S₂ F₂ r₂
theorem ev_of_tree {e : Expr} {r : AV} {pos : Pos} {T : Sem Value} (h : TreeTo K w k env Γ C T (fun b fs v => RepA b fs v r) Γ C₁) (he : eval e env = (do standAt pos; T)) : EvalTo K w k env Γ C e r C₁ := by
  intro A s b kp fs Q E hR S F q
  rw [he]
  exact wpAny_bind (wpAny_standAt (h A s b kp fs Q E hR S F q))
theorem ev_list {es : List Expr} {ds : List D} {pos : Pos} (h : EvalsD K w k env Γ C es ds C₁) (hz : ds.length ≤ sizeLine := by first | decide | simp [sizeLine]) : EvalTo K w k env Γ C (.List es pos) (.d (.list ds)) C₁ :=
  ev_of_tree (h.to.spl (o_newlist hz)) (arm_eval_List es pos env)
theorem ev_listc {es : List Expr} {ds : List D} {pos : Pos} (h : EvalsD K w k env Γ C es ds C₁) (hz : ds.length ≤ sizeLine := by first | decide | simp [sizeLine]) : EvalTo K w k env Γ C (.List es pos) (.c C₁.length) (C₁ ++ [.lst ds]) :=
  ev_of_tree (h.to.spl (o_newcell hz)) (arm_eval_List es pos env)
theorem ev_tuple {es : List Expr} {ds : List D} {kk : Nat} {pos : Pos} (h : EvalsD K w k env Γ C es ds C₁) (hz : ds.length ≤ sizeLine := by first | decide | simp [sizeLine]) : EvalTo K w k env Γ C (.Tuple es kk pos) (.d (.tup ds)) C₁ :=
  ev_of_tree (h.to.spl (o_newtup hz)) (arm_eval_Tuple es kk pos env)

/-! slices, subscripts -/
noncomputable def PartTo (K : Frag) (w : World) (k : Nat) (env : Env) (Γ : Gam) (C : List Cell) (e : Option Expr) (x : Option Int) (C' : List Cell) : Prop :=
  match e with
  | none => x = none ∧ C' = C
  | some e => match x with
    | none => EvalTo K w k env Γ C e (.d .none) C'
    | some i => EvalTo K w k env Γ C e (.d (.int i)) C'
theorem pt_none : PartTo K w k env Γ C none none C := ⟨rfl, rfl⟩
theorem pt_some {e : Expr} {i : Int} (h : EvalTo K w k env Γ C e (.d (.int i)) C') : PartTo K w k env Γ C (some e) (some i) C' := h
theorem PartTo.tree {e : Option Expr} {x : Option Int} (h : PartTo K w k env Γ C e x C') : TreeTo K w k env Γ C (evalPart e env) (fun _ _ v => IsPart v x) Γ C' := by
  cases e with
  | none =>
    obtain ⟨rfl, rfl⟩ := h
    exact TreeTo.still fun A s b kp fs Q E hR S F q => wpAny_pure (q .none s.toks .none)
  | some e =>
    cases x with
    | none => exact TreeTo.mono h fun b fs v r => by cases r; exact .none
    | some i => exact TreeTo.mono h fun b fs v r => by cases r; exact .int _ _
theorem ev_slice {lo hi st : Option Expr} {x y z : Option Int} {pos : Pos} (h1 : PartTo K w k env Γ C lo x C₁) (h2 : PartTo K w k env Γ C₁ hi y C₂) (h3 : PartTo K w k env Γ C₂ st z C₃) : EvalTo K w k env Γ C (.Slice lo hi st pos) (.d (.slc x y z)) C₃ := by
  intro A s b kp fs Q E hR S F q
  refine wpAny_Slice (h1.tree A s b kp fs _ E hR S F fun b₁ fs₁ h₁ tk₁ v sb₁ kf₁ S₁ F₁ r₁ => ?_)
  refine h2.tree A _ b₁ kp fs₁ _ E hR S₁ F₁ fun b₂ fs₂ h₂ tk₂ u sb₂ kf₂ S₂ F₂ r₂ => ?_
  refine h3.tree A _ b₂ kp fs₂ _ E hR S₂ F₂ fun b₃ fs₃ h₃ tk₃ x sb₃ kf₃ S₃ F₃ r₃ => ?_
  exact q _ fs₃ _ tk₃ _ (sb₁.trans (sb₂.trans (sb₃.trans (S₃.sub_push _)))) (kf₁.then (kf₂.then kf₃)) (S₃.push _ rfl) (F₃.push S₃ _) (.slc PM.put_self r₁ r₂ r₃)

/-- what type a value is of -/
noncomputable def TyG (C : List Cell) (r : AV) (T : String) : Prop := ∀ (K : Frag) (s : Shared) (b : PM) (kp : Kp) (fs : List Foot) (v : Value), St K b kp fs C s.heap → RepA b fs v r → s.TypeIs v T
theorem ty_tup {ds : List D} : TyG C (.d (.tup ds)) "tuple" := fun K s b kp fs v S r => by
  obtain ⟨a, vs, n, rfl, e, _⟩ := rep_tup S r; exact ⟨_, e, rfl⟩
theorem ty_str {x : Str} : TyG C (.d (.str x)) "str" := fun K s b kp fs v S r => by
  cases r; exact typeIs_str s _ _
noncomputable abbrev tGet : List Value → Sem Value := fun vs => getItem (v0 vs) (v1 vs)
theorem ev_sub {o i : Expr} {pos : Pos} {T id : String} {x y z : AV} (h1 : EvalTo K w k env Γ C o x C₁) (h2 : EvalTo K w k env Γ C₁ i y C₂) (hT : TyG C₂ x T) (hl : typeLookup (.type T) "__getitem__" = pure (some (.builtin id)))
    (h3 : Op K w k C₂ tGet [x, y] z C₃) (hs : ∀ u v, subscripted i false u v = operate [u, v] (getItem u v) ∨ subscripted i false u v = operate [v, u] (getItem u v)) : EvalTo K w k env Γ C (.Subscript o i pos) z C₃ := by
  intro A s b kp fs Q E hR S F q
  refine Subscript_ (h1 A s b kp fs _ E hR S F fun b₁ fs₁ h₁ tk₁ v sb₁ kf₁ S₁ F₁ r₁ => ?_)
  refine h2 A _ b₁ kp fs₁ _ E hR S₁ F₁ fun b₂ fs₂ h₂ tk₂ u sb₂ kf₂ S₂ F₂ r₂ => ?_
  have r₁' := r₁.mono sb₂ kf₂
  have hTv := hT K { s with heap := h₂, toks := tk₂ } b₂ kp fs₂ v S₂ r₁'
  unfold subscriptTail
  refine wpAny_bind ?_
  rw [getitemInPython_of_ne hTv.not_modules]
  refine wpAny_bind (wpAny_specialOf hTv hl ?_)
  have fin : wpAny (model prg w) A (subscripted i false v u) (fun r s₃ => wpAny (model prg w) A (letTemporaryGo o v r >>= fun _ => pure r) Q E s₃) E { s with heap := h₂, toks := tk₂ } := by
    have body := h3.tree (A := A) (s := { s with heap := h₂, toks := tk₂ }) (vs := [v, u]) (E := E) (Q := fun r s₃ => wpAny (model prg w) A (letTemporaryGo o v r >>= fun _ => pure r) Q E s₃) hR S₂ F₂ ⟨r₁', r₂, trivial⟩ fun b₃ fs₃ h₃ tk₃ x sb₃ kf₃ S₃ F₃ r₃ =>
      wpAny_bind (wpAny_letTemporaryGo (wpAny_pure (q b₃ fs₃ h₃ tk₃ x (sb₁.trans (sb₂.trans sb₃)) (kf₁.then (kf₂.then kf₃)) S₃ F₃ r₃)))
    rcases hs v u with e | e
    · rw [e]; exact wpAny_operating body
    · rw [e]; exact wpAny_operating body
  first
    | exact wpAny_pure (wpAny_bind fin)
    | exact wpAny_bind (wpAny_pure (wpAny_bind fin))
    | exact wpAny_bind fin
end

end
/-! M7 -/
section
section
variable {K : Frag} {w : World} {n k : Nat} {env : Env} {Γ Γ₁ Γ₂ Γ' : Gam} {C C' C₁ C₂ C₃ : List Cell} {b b' : PM} {kp : Kp} {fs fs' : List Foot} {h h' : Heap}

/-- a value that is a list: frozen or still turned -/
inductive LstV (C : List Cell) : AV → List D → Prop
  | d {ds : List D} : LstV C (.d (.list ds)) ds
  | c {i : Nat} {ds : List D} : C[i]? = some (.lst ds) → LstV C (.c i) ds
theorem LstV.at {v : Value} {r : AV} {ds : List D} (L : LstV C r ds) (S : St K b kp fs C h) (hr : RepA b fs v r) : ∃ a vs n, v = .ref a ∧ h.get? a = some (lstO vs n) ∧ RepL b vs ds := by
  cases L with
  | d => exact rep_list S hr
  | c hi => obtain ⟨a, vs, n, e, _, g, q⟩ := rep_cell S hi hr; exact ⟨a, vs, n, e, g, q⟩
theorem LstV.ty {r : AV} {ds : List D} (L : LstV C r ds) : TyG C r "list" := fun K s b kp fs v S hr => by
  obtain ⟨a, vs, n, rfl, e, _⟩ := L.at S hr; exact ⟨_, e, rfl⟩

theorem o_get {r : AV} {ds : List D} {i : Int} {d : D} (L : LstV C r ds) (h0 : 0 ≤ i) (h1 : i < 2 ^ 63) (hd : ds[i.toNat]? = some d) : Op K w k C tGet [r, .d (.int i)] (.d d) C := by
  intro A s b kp fs vs Q E hR S hv q
  have h_vs := RepAs.two hv; clear hv; obtain ⟨va, vb, rfl, ha, hb⟩ := h_vs
  obtain ⟨a, vs, n, rfl, e, rl⟩ := L.at S ha
  cases hb
  obtain ⟨v, ev, rv⟩ := rl.get hd
  exact wpAny_getItem_list (isList_of e) h0 h1 (by simpa using ev) (q b fs s.heap s.toks v Sub.refl Keep.refl S rv)
theorem seqIdx {i : Int} {n : Nat} (h0 : 0 ≤ i) (h : i.toNat < n) : seqIndex? i n = some i.toNat := by
  unfold seqIndex?
  have : ¬ i < 0 := by omega
  simp only [this, if_false]
  first | (rw [if_pos (by omega)]) | (rw [if_neg (by omega)]) | (simp; omega)
theorem o_gett {ds : List D} {i : Int} {d : D} (h0 : 0 ≤ i) (h1 : i < 2 ^ 63) (hd : ds[i.toNat]? = some d) : Op K w k C tGet [.d (.tup ds), .d (.int i)] (.d d) C := by
  intro A s b kp fs vs Q E hR S hv q
  have h_vs := RepAs.two hv; clear hv; obtain ⟨va, vb, rfl, ha, hb⟩ := h_vs
  obtain ⟨a, vs, n, rfl, e, rl⟩ := rep_tup S ha
  cases hb
  obtain ⟨v, ev, rv⟩ := rl.get hd
  have hlt : i.toNat < vs.toArray.size := by simpa using (List.getElem?_eq_some_iff.mp ev).1
  exact PySem.P.getItem_tuple (n := n) e (by omega) h1 (k := i.toNat) (seqIdx h0 hlt) (by simpa using ev) (q b fs s.heap s.toks v Sub.refl Keep.refl S rv)
theorem o_gets {x : Str} {i : Int} {c : Nat} (h0 : 0 ≤ i) (h1 : i < 2 ^ 63) (hd : x.cps[i.toNat]? = some c) : Op K w k C tGet [.d (.str x), .d (.int i)] (.d (.str ⟨#[c]⟩)) C := by
  intro A s b kp fs vs Q E hR S hv q
  have h_vs := RepAs.two hv; clear hv; obtain ⟨va, vb, rfl, ha, hb⟩ := h_vs
  cases ha; cases hb
  refine getItem_str (c := c) (by simp; omega) ?_ (q b fs s.heap _ _ Sub.refl Keep.refl S .str)
  have hlt : i.toNat < x.cps.size := (Array.getElem?_eq_some_iff.mp hd).1
  have : seqIndex? i x.length = some i.toNat := seqIdx h0 hlt
  rw [this]; exact hd

/-- a slice of a list -/
theorem o_getsl {r : AV} {ds : List D} {lo hi st : Option Int} {f : List Value → List Value} (L : LstV C r ds) (h0 : st ≠ some 0) (hz : ds.length ≤ sizeLine)
    (hp : ∀ vs : List Value, vs.length = ds.length → slicePick vs.toArray lo hi st = (f vs).toArray) {es : List D} (hf : ∀ b vs, RepL b vs ds → RepL b (f vs) es) : Op K w k C tGet [r, .d (.slc lo hi st)] (.d (.list es)) C := by
  intro A s b kp fs vs Q E hR S hv q
  have h_vs := RepAs.two hv; clear hv; obtain ⟨va, vb, rfl, ha, hb⟩ := h_vs
  obtain ⟨a, vs, n, rfl, e, rl⟩ := L.at S ha
  obtain ⟨sl, x, y, z, rfl, e2, px, py, pz⟩ := rep_slc S hb
  obtain ⟨b', sb, S', r'⟩ := S.pushL (hf b vs rl)
  refine wpAny_getItem_list_slice (isList_of e) ⟨_, e2, rfl, rfl⟩ px py pz h0 ?_ (by simp [rl.length]; exact hz)
  rw [hp vs rl.length]
  exact q b' fs _ s.toks _ sb Keep.refl S' r'
theorem pick_run (vs : List Value) {a c : Nat} (h : a ≤ c) (h' : c ≤ vs.length) : slicePick vs.toArray (some (a : Int)) (some (c : Int)) none = ((vs.drop a).take (c - a)).toArray := by
  rw [slicePick_run _ a c (by simpa using h') h]
theorem o_run {r : AV} {ds : List D} {a c : Int} (L : LstV C r ds) (ha : 0 ≤ a) (h : a ≤ c) (h' : c ≤ ds.length) (hz : ds.length ≤ sizeLine) : Op K w k C tGet [r, .d (.slc (some a) (some c) none)] (.d (.list ((ds.drop a.toNat).take (c.toNat - a.toNat)))) C := by
  obtain ⟨a, rfl⟩ := Int.eq_ofNat_of_zero_le ha
  obtain ⟨c, rfl⟩ := Int.eq_ofNat_of_zero_le (Int.le_trans ha h)
  exact o_getsl L (by simp) hz (fun vs hl => pick_run vs (by omega) (by omega)) fun b vs rl => (rl.drop _).take _
theorem o_upto {r : AV} {ds : List D} {c : Int} (L : LstV C r ds) (ha : 0 ≤ c) (hz : ds.length ≤ sizeLine) : Op K w k C tGet [r, .d (.slc none (some c) none)] (.d (.list (ds.take c.toNat))) C := by
  obtain ⟨c, rfl⟩ := Int.eq_ofNat_of_zero_le ha
  exact o_getsl L (by simp) hz (fun vs hl => slicePick_upto' _ c) fun b vs rl => rl.take _
theorem o_from {r : AV} {ds : List D} {c : Int} (L : LstV C r ds) (ha : 0 ≤ c) (hz : ds.length ≤ sizeLine) : Op K w k C tGet [r, .d (.slc (some c) none none)] (.d (.list (ds.drop c.toNat))) C := by
  obtain ⟨c, rfl⟩ := Int.eq_ofNat_of_zero_le ha
  exact o_getsl L (by simp) hz (fun vs hl => slicePick_from' _ c) fun b vs rl => rl.drop _
theorem o_butlast {r : AV} {ds : List D} (L : LstV C r ds) (hz : ds.length ≤ sizeLine) : Op K w k C tGet [r, .d (.slc none (some (-1)) none)] (.d (.list (ds.take (ds.length - 1)))) C :=
  o_getsl L (by simp) hz (fun vs hl => by have := slicePick_butLast vs.toArray 1 (Nat.le_refl _); rw [← hl]; simpa using this) fun b vs rl => rl.take _
theorem o_rev {r : AV} {ds : List D} (L : LstV C r ds) (hz : ds.length ≤ sizeLine) : Op K w k C tGet [r, .d (.slc none none (some (-1)))] (.d (.list ds.reverse)) C :=
  o_getsl L (by simp) hz (fun vs hl => by rw [krv_pick]) fun b vs rl => rl.reverse
theorem o_all {r : AV} {ds : List D} (L : LstV C r ds) (hz : ds.length ≤ sizeLine) : Op K w k C tGet [r, .d (.slc none none none)] (.d (.list ds)) C :=
  o_getsl (f := id) L (by simp) hz (fun vs hl => by rw [slicePick_all]; rfl) fun b vs rl => rl

/-! methods of lists that are turned -/
theorem o_append {i : Nat} {ds : List D} {x : D} (hi : C[i]? = some (.lst ds)) (hz : ds.length ≤ sizeLine) : Op K w k C (fun vs => call (.builtin "list.append") vs []) [.c i, .d x] (.d .none) (C.set i (.lst (ds ++ [x]))) := by
  intro A s b kp fs vs Q E hR S hv q
  have h_vs := RepAs.two hv; clear hv; obtain ⟨va, vb, rfl, ha, hb⟩ := h_vs
  obtain ⟨a, vs, n, rfl, hf, e, rl⟩ := rep_cell S hi ha
  obtain ⟨n', S', kf⟩ := S.turnL (f := fun x => x.push vb) (vs' := vs ++ [vb]) hi hf (by simp) (rl.snoc hb)
  exact call_meets F.slot_list_append ⟨_, e, rfl⟩ F.entry_list_append (F.args_list_append_2 _ _) (AutoListH.list_append_list_val_0 a vs.toArray n vb (by simp [rl.length]; exact hz)) ⟨e, q b _ _ s.toks .none Sub.refl kf S' .v⟩
theorem o_extend {i : Nat} {ds es : List D} {r : AV} (L : LstV C r es) (hi : C[i]? = some (.lst ds)) (hz : ds.length + es.length ≤ sizeLine) : Op K w k C (fun vs => call (.builtin "list.extend") vs []) [.c i, r] (.d .none) (C.set i (.lst (ds ++ es))) := by
  intro A s b kp fs vs Q E hR S hv q
  have h_vs := RepAs.two hv; clear hv; obtain ⟨va, vb, rfl, ha, hb⟩ := h_vs
  obtain ⟨a, vs, n, rfl, hf, e, rl⟩ := rep_cell S hi ha
  obtain ⟨a2, vs2, n2, rfl, e2, rl2⟩ := L.at S hb
  obtain ⟨n', S', kf⟩ := S.turnL (f := fun x => x ++ vs2.toArray) (vs' := vs ++ vs2) hi hf (by simp) (rl.append rl2)
  have hl1 := rl.length
  have hl2 := rl2.length
  refine call_meets F.slot_list_extend ⟨_, e, rfl⟩ F.entry_list_extend (F.args_list_extend_2 _ _) (AutoSeq1.list_extend_list_list_0 a vs.toArray n a2 vs2.toArray n2 ?_ (by simp; omega) (by simp; omega)) ⟨e, e2, q b _ _ s.toks .none Sub.refl kf S' .v⟩
  unfold sizeLine at hz
  simp [Builtin.List.listTooLong, sizeLine]; omega
theorem o_insert {i : Nat} {ds : List D} {x : D} {j : Int} (hi : C[i]? = some (.lst ds)) (h0 : 0 ≤ j) (h1 : j < 2 ^ 62) (hz : ds.length ≤ sizeLine) :
    Op K w k C (fun vs => call (.builtin "list.insert") vs []) [.c i, .d (.int j), .d x] (.d .none) (C.set i (.lst (ds.take j.toNat ++ x :: ds.drop j.toNat))) := by
  intro A s b kp fs vs Q E hR S hv q
  have h_vs := RepAs.three hv; clear hv; obtain ⟨va, vj, vb, rfl, ha, hj, hb⟩ := h_vs
  cases hj
  rename_i tj
  obtain ⟨a, vs, n, rfl, hf, e, rl⟩ := rep_cell S hi ha
  have e3 : min j.toNat vs.length = min j.toNat vs.length := rfl
  obtain ⟨n', S', kf⟩ := S.turnL (f := fun xs => have k := if j < 0 then (j + ((xs.size : Nat) : Int)).toNat else min j.toNat xs.size; (xs.extract 0 k).push vb ++ xs.extract k) (vs' := vs.take j.toNat ++ vb :: vs.drop j.toNat) hi hf
    (by
      have : ¬ j < 0 := by omega
      simp only [this, if_false]
      apply Array.toList_inj.mp
      simp only [Array.toList_append, Array.toList_push, Array.toList_extract, List.extract_eq_drop_take, List.size_toArray, Nat.sub_zero, List.drop_zero]
      by_cases hle : j.toNat ≤ vs.length
      · rw [Nat.min_eq_left hle, List.take_of_length_le (l := List.drop _ _) (by simp)]; simp
      · have hle' : vs.length ≤ j.toNat := by omega
        rw [Nat.min_eq_right hle', List.take_of_length_le (Nat.le_refl _), List.take_of_length_le hle', List.drop_eq_nil_of_le hle']; simp)
    ((rl.take _).append (.cons hb (rl.drop _)))
  exact call_meets F.slot_list_insert ⟨_, e, rfl⟩ F.entry_list_insert (F.args_list_insert_3 _ _ _) (AutoListH.list_insert_list_int_val_1 a vs.toArray n j tj vb (by simp [Builtin.List.listFitsIndex]; omega) (by simp [rl.length]; exact hz)) ⟨e, q b _ _ s.toks .none Sub.refl kf S' .v⟩
end

end
/-! M8 -/
section
section
variable {K : Frag} {w : World} {n k : Nat} {env : Env} {Γ Γ₁ Γ₂ Γ' : Gam} {C C' C₁ C₂ C₃ : List Cell} {b b' : PM} {kp : Kp} {fs fs' : List Foot} {h h' : Heap}

theorem o_pop {i : Nat} {ds : List D} {x : D} (hi : C[i]? = some (.lst (ds ++ [x]))) (hz : ds.length + 1 ≤ sizeLine) : Op K w k C (fun vs => call (.builtin "list.pop") vs []) [.c i] (.d x) (C.set i (.lst ds)) := by
  intro A s b kp fs vs Q E hR S hv q
  have h_vs := RepAs.one hv; clear hv; obtain ⟨va, rfl, ha⟩ := h_vs
  obtain ⟨a, vs, n, rfl, hf, e, rl⟩ := rep_cell S hi ha
  have hlen := rl.length
  simp at hlen
  obtain ⟨y, hy, ry⟩ := rl.get (i := ds.length) (d := x) (by simp)
  have rl' : RepL b (vs.take ds.length) ds := by have := rl.take ds.length; simpa using this
  obtain ⟨n', S', kf⟩ := S.turnL (f := fun xs => xs.eraseIdxIfInBounds (vs.toArray.size - 1)) (vs' := vs.take ds.length) hi hf
    (by
      apply Array.toList_inj.mp
      have e1 : vs.toArray.size - 1 = ds.length := by simp; omega
      rw [e1]
      unfold Array.eraseIdxIfInBounds
      rw [dif_pos (by simp; omega)]
      simp only [Array.toList_eraseIdx]
      rw [List.eraseIdx_eq_take_drop_succ, List.drop_eq_nil_of_le (by omega), List.append_nil]) rl'
  refine call_meets F.slot_list_pop ⟨_, e, rfl⟩ F.entry_list_pop (F.args_list_pop_1 _) (MeetsSeq.list_pop_last a vs.toArray n y ?_ (by simp; omega)) ⟨e, q b _ _ s.toks y Sub.refl kf S' ry⟩
  have e1 : vs.toArray.size - 1 = ds.length := by simp; omega
  rw [e1]; simpa using hy
theorem o_addl {r r' : AV} {ds es : List D} (L : LstV C r ds) (L' : LstV C r' es) (hz : ds.length + es.length ≤ sizeLine) : Op K w k C (tBin .Add) [r, r'] (.d (.list (ds ++ es))) C := by
  intro A s b kp fs vs Q E hR S hv q
  have h_vs := RepAs.two hv; clear hv; obtain ⟨va, vb, rfl, ha, hb⟩ := h_vs
  obtain ⟨a, vs, n, rfl, e, rl⟩ := L.at S ha
  obtain ⟨a2, vs2, n2, rfl, e2, rl2⟩ := L'.at S hb
  obtain ⟨b', sb, S', r'⟩ := S.pushL (rl.append rl2)
  refine PySem.P.add_list (n := n) (n2 := n2) e e2 ?_ (by simp [rl.length, rl2.length]; exact hz)
  have := q b' fs _ s.toks _ sb Keep.refl S' r'
  simpa using this
theorem repL_rep {v : Value} {d : D} (r : Rep b v d) : ∀ m : Nat, RepL b (List.replicate m v) (List.replicate m d)
  | 0 => .nil
  | m + 1 => by rw [List.replicate_succ, List.replicate_succ]; exact .cons r (repL_rep r m)
theorem fold_rep (v : Value) : ∀ (m : Nat) (acc : List Value), ((List.replicate m #[v]).foldl (fun (x1 x2 : Array Value) => x1 ++ x2) acc.toArray) = (acc ++ List.replicate m v).toArray
  | 0, acc => by simp
  | m + 1, acc => by
    rw [List.replicate_succ, List.foldl_cons]
    have : acc.toArray ++ #[v] = (acc ++ [v]).toArray := by simp
    rw [this, fold_rep v m]
    simp [List.replicate_succ]
/-- [x] * m -/
theorem o_mull {r : AV} {d : D} {m : Int} (L : LstV C r [d]) (h0 : 0 ≤ m) (hz : m ≤ 2 ^ 20) : Op K w k C (tBin .Mult) [r, .d (.int m)] (.d (.list (List.replicate m.toNat d))) C := by
  intro A s b kp fs vs Q E hR S hv q
  have h_vs := RepAs.two hv; clear hv; obtain ⟨va, vb, rfl, ha, hb⟩ := h_vs
  obtain ⟨a, vs, n, rfl, e, rl⟩ := L.at S ha
  cases hb
  rename_i u
  cases rl with
  | cons r1 r2 =>
    cases r2
    rename_i v
    obtain ⟨b', sb, S', r'⟩ := S.pushL (repL_rep r1 m.toNat)
    refine wpAny_binaryOp_repeat_ref (T := "list") (U := "int") (by decide) ⟨_, e, rfl⟩ (fun s' => typeIs_int s' m u) noFill_list_mul F.fills_int_mul F.slot_int_rmul repeat_list F.slot_int_index.lookup
      (call_meets F.slot_int_rmul (typeIs_int s m u) F.entry_int_rmul (F.args_int_rmul_2 _ _) (int___rmul___int_list m u a [v].toArray n)
        ⟨e, rfl, ⟨_, e, rfl⟩, call_meets F.slot_list_mul ⟨_, e, rfl⟩ F.entry_list_mul (F.args_list_mul_2 _ _) (AutoListH.list___mul___list_int_3 a [v].toArray n m u
          (by simp [Builtin.List.listFitsIndex]; omega) (by simp; omega) (by simp [Builtin.List.listTooLong, sizeLine]; omega)) ⟨e, ?_⟩⟩)
    have := q b' fs _ s.toks _ sb Keep.refl S' r'
    have e5 : (List.foldl (fun x1 x2 => x1 ++ x2) #[] (List.replicate (if [v].toArray.isEmpty = true then 0 else m.toNat) [v].toArray)) = (List.replicate m.toNat v).toArray := by
      have := fold_rep v m.toNat []
      simpa using this
    show Q _ _
    rw [e5]; exact this
theorem o_adds {x y : Str} (hz : x.length + y.length ≤ sizeLine) : Op K w k C (tBin .Add) [.d (.str x), .d (.str y)] (.d (.str (x ++ y))) C := by
  intro A s b kp fs vs Q E hR S hv q
  have h_vs := RepAs.two hv; clear hv; obtain ⟨va, vb, rfl, ha, hb⟩ := h_vs
  cases ha; cases hb
  exact add_str (fun t' tk => q b fs s.heap tk _ Sub.refl Keep.refl S .str) hz
theorem o_iadds {x y : Str} (hz : x.length + y.length ≤ sizeLine) : Op K w k C (tIn .Add) [.d (.str x), .d (.str y)] (.d (.str (x ++ y))) C := by
  intro A s b kp fs vs Q E hR S hv q
  have h_vs := RepAs.two hv; clear hv; obtain ⟨va, vb, rfl, ha, hb⟩ := h_vs
  cases ha; cases hb
  exact iadd_str (fun t' tk => q b fs s.heap tk _ Sub.refl Keep.refl S .str) hz
theorem fold_reps (c : Nat) : ∀ (m : Nat) (acc : List Nat), ((List.replicate m #[c]).foldl (fun (x1 x2 : Array Nat) => x1 ++ x2) acc.toArray) = (acc ++ List.replicate m c).toArray
  | 0, acc => by simp
  | m + 1, acc => by
    rw [List.replicate_succ, List.foldl_cons]
    have : acc.toArray ++ #[c] = (acc ++ [c]).toArray := by simp
    rw [this, fold_reps c m]
    simp [List.replicate_succ]
/-- 'c' * m -/
theorem o_muls {c : Nat} {m : Int} (h0 : 0 ≤ m) (hz : m ≤ 2 ^ 20) : Op K w k C (tBin .Mult) [.d (.str ⟨#[c]⟩), .d (.int m)] (.d (.str ⟨(List.replicate m.toNat c).toArray⟩)) C := by
  intro A s b kp fs vs Q E hR S hv q
  have h_vs := RepAs.two hv; clear hv; obtain ⟨va, vb, rfl, ha, hb⟩ := h_vs
  cases ha; cases hb
  rename_i t u
  refine PySem.P.mul_str (by simp; omega) (fun h1 h2 => ?_) (fun h1 h2 => ?_) ?_
  · have : ((Str.length ⟨#[c]⟩ : Nat) : Int) = 1 := rfl
    rw [this]
    have : 1 ≤ (2 ^ 63 - 1) / m := (Int.le_ediv_iff_mul_le (by omega)).mpr (by omega)
    omega
  · have : Str.length ⟨#[c]⟩ = 1 := rfl
    rw [this]
    simp [Builtin.Str.tooLong, sizeLine]; omega
  · by_cases hm : m < 1
    · have : m = 0 := by omega
      subst this
      refine ⟨by decide, ?_⟩
      exact q b fs s.heap _ _ Sub.refl Keep.refl S .str
    · rw [if_neg hm]
      by_cases h1 : (m == 1 || Str.length ⟨#[c]⟩ == 0) = true
      · rw [if_pos h1]
        have : m = 1 := by simpa [Str.length] using h1
        subst this
        exact q b fs s.heap s.toks _ Sub.refl Keep.refl S .str
      · rw [if_neg h1]
        have e5 : (List.replicate m.toNat #[c]).foldl (fun x1 x2 => x1 ++ x2) #[] = (List.replicate m.toNat c).toArray := by
          have := fold_reps c m.toNat []
          simpa using this
        show (Made.str ⟨(List.replicate m.toNat #[c]).foldl (fun x1 x2 => x1 ++ x2) #[]⟩).post Q s
        rw [e5]
        refine ⟨?_, q b fs s.heap _ _ Sub.refl Keep.refl S .str⟩
        simp [Str.length, sizeLine]; omega
theorem o_len {r : AV} {ds : List D} (L : LstV C r ds) (hz : ds.length ≤ sizeLine) : Op K w k C (fun vs => call (.builtin "len") vs []) [r] (.d (.int ds.length)) C := by
  intro A s b kp fs vs Q E hR S hv q
  have h_vs := RepAs.one hv; clear hv; obtain ⟨va, rfl, ha⟩ := h_vs
  obtain ⟨a, vs, n, rfl, e, rl⟩ := L.at S ha
  have hl := rl.length
  unfold sizeLine at hz
  refine call_len_list (isList_of e) (by simp; omega) ?_
  simp only [List.size_toArray, hl]
  exact q b fs s.heap _ _ Sub.refl Keep.refl S .int
theorem o_lens {x : Str} (hz : x.length ≤ sizeLine) : Op K w k C (fun vs => call (.builtin "len") vs []) [.d (.str x)] (.d (.int x.length)) C := by
  intro A s b kp fs vs Q E hR S hv q
  have h_vs := RepAs.one hv; clear hv; obtain ⟨va, rfl, ha⟩ := h_vs
  cases ha
  unfold sizeLine at hz
  exact len_str (by omega) (q b fs s.heap _ _ Sub.refl Keep.refl S .int)
end

end
/-! M9 -/
section

noncomputable def sumL (xs : List Int) : Int := xs.foldl (· + ·) 0
theorem foldl_add (xs : List Int) : ∀ a : Int, xs.foldl (· + ·) a = a + xs.foldl (· + ·) 0 := by
  induction xs with
  | nil => intro a; simp
  | cons x xs ih => intro a; simp only [List.foldl_cons]; rw [ih (a + x), ih (0 + x)]; omega
theorem sumL_cons (x : Int) (xs : List Int) : sumL (x :: xs) = x + sumL xs := by
  unfold sumL; rw [List.foldl_cons, foldl_add]; omega
theorem sumL_nil : sumL [] = 0 := rfl
theorem preSum_sumL : ∀ xs : List Int, preSum (fun i => xs.getD i 0) xs.length = sumL xs
  | [] => rfl
  | x :: xs => by
    rw [List.length_cons, kdu_shift, sumL_cons]
    have := preSum_sumL xs
    simpa using this
noncomputable def maxL (xs : List Int) : Int := xs.tail.foldl max (xs.headD 0)
noncomputable def minL (xs : List Int) : Int := xs.tail.foldl min (xs.headD 0)
theorem foldl_max (xs : List Int) : ∀ a : Int, a ≤ xs.foldl max a ∧ (∀ x ∈ xs, x ≤ xs.foldl max a) ∧ (xs.foldl max a = a ∨ xs.foldl max a ∈ xs) := by
  induction xs with
  | nil => intro a; simp
  | cons x xs ih =>
    intro a
    obtain ⟨h1, h2, h3⟩ := ih (max a x)
    simp only [List.foldl_cons]
    refine ⟨by omega, fun y hy => ?_, ?_⟩
    · rcases List.mem_cons.mp hy with rfl | hy
      · omega
      · exact h2 y hy
    · rcases h3 with h3 | h3
      · rw [h3]
        by_cases q : a ≤ x
        · right; rw [Int.max_eq_right q]; exact List.mem_cons_self
        · left; omega
      · exact .inr (List.mem_cons_of_mem _ h3)
theorem foldl_min (xs : List Int) : ∀ a : Int, xs.foldl min a ≤ a ∧ (∀ x ∈ xs, xs.foldl min a ≤ x) ∧ (xs.foldl min a = a ∨ xs.foldl min a ∈ xs) := by
  induction xs with
  | nil => intro a; simp
  | cons x xs ih =>
    intro a
    obtain ⟨h1, h2, h3⟩ := ih (min a x)
    simp only [List.foldl_cons]
    refine ⟨by omega, fun y hy => ?_, ?_⟩
    · rcases List.mem_cons.mp hy with rfl | hy
      · omega
      · exact h2 y hy
    · rcases h3 with h3 | h3
      · rw [h3]
        by_cases q : a ≤ x
        · left; omega
        · right; rw [Int.min_eq_right (by omega)]; exact List.mem_cons_self
      · exact .inr (List.mem_cons_of_mem _ h3)
theorem maxL_eq {xs : List Int} {m : Int} (h1 : ∀ x ∈ xs, x ≤ m) (h2 : m ∈ xs) : m = maxL xs := by
  cases xs with
  | nil => simp at h2
  | cons x xs =>
    obtain ⟨a1, a2, a3⟩ := foldl_max xs x
    show m = xs.foldl max x
    have b1 : m ≤ xs.foldl max x := by
      rcases List.mem_cons.mp h2 with rfl | h
      · exact a1
      · exact a2 m h
    have b2 : xs.foldl max x ≤ m := by
      rcases a3 with e | h
      · rw [e]; exact h1 x List.mem_cons_self
      · exact h1 _ (List.mem_cons_of_mem _ h)
    omega
theorem minL_eq {xs : List Int} {m : Int} (h1 : ∀ x ∈ xs, m ≤ x) (h2 : m ∈ xs) : m = minL xs := by
  cases xs with
  | nil => simp at h2
  | cons x xs =>
    obtain ⟨a1, a2, a3⟩ := foldl_min xs x
    show m = xs.foldl min x
    have b1 : xs.foldl min x ≤ m := by
      rcases List.mem_cons.mp h2 with rfl | h
      · exact a1
      · exact a2 m h
    have b2 : m ≤ xs.foldl min x := by
      rcases a3 with e | h
      · rw [e]; exact h1 x List.mem_cons_self
      · exact h1 _ (List.mem_cons_of_mem _ h)
    omega

section
variable {K : Frag} {w : World} {n k : Nat} {env : Env} {Γ Γ₁ Γ₂ Γ' : Gam} {C C' C₁ C₂ C₃ : List Cell} {b b' : PM} {kp : Kp} {fs fs' : List Foot} {h h' : Heap}

noncomputable abbrev dInts (xs : List Int) : List D := xs.map D.int
theorem ints_at {vs : List Value} {xs : List Int} (r : RepL b vs (dInts xs)) : ∀ (i : Nat) (v : Value), vs.toArray[i]? = some v → ∃ t : Tok, v = Value.int (xs.getD i 0) t := fun i v hv => by
  have hv' : vs[i]? = some v := by simpa using hv
  obtain ⟨d, hd, rd⟩ := r.getV hv'
  rw [List.getElem?_map] at hd
  obtain ⟨x, hx, rfl⟩ := Option.map_eq_some_iff.mp hd
  cases rd
  exact ⟨_, by rw [List.getD_eq_getElem?_getD, hx]; rfl⟩
theorem keepI {s : Shared} {o : Obj} {h' : Heap} (hk : ∀ b o', b ∉ [s.heap.objs.size] → (s.heap.push o).get? b = some o' → h'.get? b = some o') : ∀ a o', s.heap.get? a = some o' → h'.get? a = some o' := fun a o' e =>
  hk a o' (by simp; exact Nat.ne_of_lt (Heap.lt_size e)) (Heap.get?_push_of_some _ e)
theorem below2 {s : Shared} {o : Obj} {a : Addr} (ha : a < s.heap.objs.size) : ∀ c ∈ [s.heap.objs.size, a], c < (s.heap.push o).objs.size := by
  intro c hc
  rw [Heap.size_push]
  rcases List.mem_cons.mp hc with rfl | hc
  · exact Nat.lt_succ_self _
  · rcases List.mem_cons.mp hc with rfl | hc
    · exact Nat.lt_succ_of_lt ha
    · cases hc
theorem o_sum {r : AV} {xs : List Int} (L : LstV C r (dInts xs)) : Op K w k C (fun vs => call (.builtin "sum") vs []) [r] (.d (.int (sumL xs))) C := by
  intro A s b kp fs vs Q E hR S hv q
  have h_vs := RepAs.one hv; clear hv; obtain ⟨va, rfl, ha⟩ := h_vs
  obtain ⟨a, vs, n, rfl, e, rl⟩ := L.at S ha
  have hne : a ≠ s.heap.objs.size := Nat.ne_of_lt (Heap.lt_size e)
  have hlen : vs.length = xs.length := by have := rl.length; simpa using this
  refine call_sum_walkAnyS (wpAny_pyIter_list (isList_of e) ⟨_, _, _, _, _, _, _, fun i => xs.getD i 0, rfl, (Walks.list (A := A.in1) hR.handled s.heap.objs.size a hne vs.toArray).toS, ⟨⟨_, Heap.get?_push_size _ rfl, rfl, rfl⟩, (isList_of e).push _⟩, ?_, ints_at rl, ?_⟩)
  · exact below2 (Heap.lt_size e)
  · intro s' t' hm
    obtain ⟨hk, hg, hd, ho, ht⟩ := hm
    have es : s' = { s with heap := s'.heap, toks := s'.toks } := by
      cases s'; simp only at hg hd ho ⊢; subst hg; subst hd; subst ho; rfl
    rw [es]
    have e1 : preSum (fun i => xs.getD i 0) vs.toArray.size = sumL xs := by rw [← preSum_sumL]; simp [hlen]
    rw [e1]
    exact q b fs _ _ _ Sub.refl Keep.refl (S.keeps (keepI hk)) .int
theorem at_best {xs : List Int} {j : Nat} (h : j < xs.length) : xs.getD j 0 ∈ xs := by
  rw [List.getD_eq_getElem?_getD, List.getElem?_eq_getElem h]; exact List.getElem_mem h
theorem o_maxl {r : AV} {xs : List Int} (L : LstV C r (dInts xs)) (hx : xs ≠ []) : Op K w k C (fun vs => call (.builtin "max") vs []) [r] (.d (.int (maxL xs))) C := by
  intro A s b kp fs vs Q E hR S hv q
  have h_vs := RepAs.one hv; clear hv; obtain ⟨va, rfl, ha⟩ := h_vs
  obtain ⟨a, vs, n, rfl, e, rl⟩ := L.at S ha
  have hne : a ≠ s.heap.objs.size := Nat.ne_of_lt (Heap.lt_size e)
  have hlen : vs.length = xs.length := by have := rl.length; simpa using this
  have hpos : 0 < xs.length := List.length_pos_iff.mpr hx
  refine call_max_walk (wpAny_pyIter_list (isList_of e) ⟨_, _, _, _, _, _, fun i j => decide (xs.getD i 0 > xs.getD j 0), rfl, Walks.list (A := A.in1) hR.handled s.heap.objs.size a hne vs.toArray, ⟨⟨_, Heap.get?_push_size _ rfl, rfl, rfl⟩, (isList_of e).push _⟩, ?_, by simp; omega, CmpOf.ints_gt (fun i => xs.getD i 0) (ints_at rl), ?_⟩)
  · exact below2 (Heap.lt_size e)
  · intro v h' tk hP hk
    obtain ⟨t, rfl⟩ := ints_at rl _ v hP
    obtain ⟨g1, g2⟩ := argBest_gt (fun i => xs.getD i 0) (vs.toArray.size - 1)
    have hs : vs.toArray.size = xs.length := by simp [hlen]
    rw [hs] at g1 g2
    have e1 : xs.getD (argBest (fun i j => decide (xs.getD i 0 > xs.getD j 0)) (vs.toArray.size - 1)) 0 = maxL xs := by
      rw [hs]
      refine maxL_eq (fun x hx => ?_) (at_best (by omega))
      obtain ⟨j, hj, rfl⟩ := List.getElem_of_mem hx
      have := g2 j (by omega)
      rw [List.getD_eq_getElem?_getD (i := j), List.getElem?_eq_getElem hj] at this
      exact this
    rw [e1]
    exact q b fs _ _ _ Sub.refl Keep.refl (S.keeps (keepI hk)) .int
theorem o_minl {r : AV} {xs : List Int} (L : LstV C r (dInts xs)) (hx : xs ≠ []) : Op K w k C (fun vs => call (.builtin "min") vs []) [r] (.d (.int (minL xs))) C := by
  intro A s b kp fs vs Q E hR S hv q
  have h_vs := RepAs.one hv; clear hv; obtain ⟨va, rfl, ha⟩ := h_vs
  obtain ⟨a, vs, n, rfl, e, rl⟩ := L.at S ha
  have hne : a ≠ s.heap.objs.size := Nat.ne_of_lt (Heap.lt_size e)
  have hlen : vs.length = xs.length := by have := rl.length; simpa using this
  have hpos : 0 < xs.length := List.length_pos_iff.mpr hx
  refine call_min_walk (wpAny_pyIter_list (isList_of e) ⟨_, _, _, _, _, _, fun i j => decide (xs.getD i 0 < xs.getD j 0), rfl, Walks.list (A := A.in1) hR.handled s.heap.objs.size a hne vs.toArray, ⟨⟨_, Heap.get?_push_size _ rfl, rfl, rfl⟩, (isList_of e).push _⟩, ?_, by simp; omega, CmpOf.ints_lt (fun i => xs.getD i 0) (ints_at rl), ?_⟩)
  · exact below2 (Heap.lt_size e)
  · intro v h' tk hP hk
    obtain ⟨t, rfl⟩ := ints_at rl _ v hP
    obtain ⟨g1, g2⟩ := argBest_lt (fun i => xs.getD i 0) (vs.toArray.size - 1)
    have hs : vs.toArray.size = xs.length := by simp [hlen]
    rw [hs] at g1 g2
    have e1 : xs.getD (argBest (fun i j => decide (xs.getD i 0 < xs.getD j 0)) (vs.toArray.size - 1)) 0 = minL xs := by
      rw [hs]
      refine minL_eq (fun x hx => ?_) (at_best (by omega))
      obtain ⟨j, hj, rfl⟩ := List.getElem_of_mem hx
      have := g2 j (by omega)
      rw [List.getD_eq_getElem?_getD (i := j), List.getElem?_eq_getElem hj] at this
      exact this
    rw [e1]
    exact q b fs _ _ _ Sub.refl Keep.refl (S.keeps (keepI hk)) .int
theorem o_max2 {x y : Int} : Op K w k C (fun vs => call (.builtin "max") vs []) [.d (.int x), .d (.int y)] (.d (.int (max x y))) C := by
  intro A s b kp fs vs Q E hR S hv q
  have h_vs := RepAs.two hv; clear hv; obtain ⟨va, vb, rfl, ha, hb⟩ := h_vs
  cases ha; cases hb
  rename_i t u
  refine max_two_ints hR.handled fun h' tk hk => ?_
  have r : Rep b (if y > x then Value.int y u else .int x t) (.int (max x y)) := by
    by_cases g : y > x
    · rw [if_pos g, Int.max_eq_right (by omega)]; exact .int
    · rw [if_neg g, Int.max_eq_left (by omega)]; exact .int
  exact q b fs _ _ _ Sub.refl Keep.refl (S.keeps hk) r
end

end
/-! M10 -/
section
section
variable {K : Frag} {w : World} {n k : Nat} {env : Env} {Γ Γ₁ Γ₂ Γ' : Gam} {C C' C₁ C₂ C₃ : List Cell} {b b' : PM} {kp : Kp} {fs fs' : List Foot} {h h' : Heap}

/-- a kind of value of which two may be compared -/
noncomputable def EqK {α : Type} [DecidableEq α] (f : α → D) : Prop := ∀ (b : PM) (u v : Value) (x y : α) (A : Around) (s : Shared), Rep b u (f x) → Rep b v (f y) → SeqAt.EqAt A s u v (decide (x = y))
theorem eqk_int : EqK D.int := fun b u v x y A s h1 h2 => by
  cases h1; cases h2; exact (show decide (x = y) = (x == y) from rfl) ▸ SeqAt.EqAt.int_int _ _ _ _
theorem eqk_str : EqK D.str := fun b u v x y A s h1 h2 => by
  cases h1; cases h2; have e : decide (x = y) = (x == y) := (by rw [Bool.eq_iff_iff]; simp); rw [e]; exact SeqAt.EqAt.str_str _ _ _ _
theorem eqk_bool : EqK (fun b : Bool => D.v (.bool b)) := fun b u v x y A s h1 h2 => by
  cases h1; cases h2; have e : decide (x = y) = (x == y) := (by rw [Bool.eq_iff_iff]; simp); rw [e]; exact SeqAt.EqAt.bool_bool _ _
theorem eqk_same (x : Value) : EqK (fun _ : Unit => D.v x) := fun b u v _ _ A s h1 h2 => by
  cases h1; cases h2; exact SeqAt.EqAt.same _
theorem all_eq {α : Type} [DecidableEq α] : ∀ {xs ys : List α} (d : α), xs.length = ys.length → ((List.range xs.length).all fun i => decide (xs.getD i d = ys.getD i d)) = decide (xs = ys) := by
  intro xs ys d hl
  rw [Bool.eq_iff_iff]
  simp only [List.all_eq_true, List.mem_range, decide_eq_true_eq]
  refine ⟨fun h => List.ext_getElem hl fun i h1 h2 => ?_, fun h i hi => by rw [h]⟩
  have := h i h1
  simpa [List.getD_eq_getElem?_getD, h1, h2] using this
theorem rep_at {α : Type} {f : α → D} {vs : List Value} {xs : List α} {d : α} (r : RepL b vs (xs.map f)) {j : Nat} (h : j < vs.toArray.size) : Rep b vs.toArray[j] (f (xs.getD j d)) := by
  have hj : j < vs.length := by simpa using h
  obtain ⟨e, he, re⟩ := r.getV (i := j) (v := vs[j]) (by simp [hj])
  rw [List.getElem?_map] at he
  obtain ⟨x, hx, rfl⟩ := Option.map_eq_some_iff.mp he
  have : xs.getD j d = x := by rw [List.getD_eq_getElem?_getD, hx]; rfl
  rw [this]
  simpa using re
theorem o_eql {α : Type} [DecidableEq α] {f : α → D} (hf : EqK f) {r r' : AV} {xs ys : List α} (L : LstV C r (xs.map f)) (L' : LstV C r' (ys.map f)) : Op K w k C (tCmp .Eq) [r, r'] (.d (.bool (decide (xs = ys)))) C := by
  intro A s b kp fs vs Q E hR S hv q
  have h_vs := RepAs.two hv; clear hv; obtain ⟨va, vb, rfl, ha, hb⟩ := h_vs
  obtain ⟨a, vs, n, rfl, e, rl⟩ := L.at S ha
  obtain ⟨a2, vs2, n2, rfl, e2, rl2⟩ := L'.at S hb
  have l1 : vs.length = xs.length := by have := rl.length; simpa using this
  have l2 : vs2.length = ys.length := by have := rl2.length; simpa using this
  have hu : A.units < cLine := by have := hR.units; omega
  have q' := q b fs s.heap s.toks (.bool (decide (xs = ys))) Sub.refl Keep.refl S .v
  show wpAny _ _ (richCompare .Eq (.ref a) (.ref a2)) Q E s
  by_cases hl : xs.length = ys.length
  · cases xs with
    | nil =>
      have hy : ys = [] := List.length_eq_zero_iff.mp hl.symm
      subst hy
      have := SeqAt.RcAt.lists (A := A) (s := s) (e := fun _ => true) (isList_of e) (isList_of e2) (by simp [l1, l2]) hu (fun j h1 h2 => by simp [l1] at h1)
      have z : vs.toArray.size = 0 := by simpa using l1
      rw [z] at this
      exact this prg w E Q q'
    | cons x xs =>
      have := SeqAt.RcAt.lists (A := A) (s := s) (e := fun i => decide ((x :: xs).getD i x = ys.getD i x)) (isList_of e) (isList_of e2) (by simp [l1, l2, hl]) hu (fun j h1 h2 => hf b _ _ _ _ A.in1 s (rep_at rl h1) (rep_at rl2 h2))
      have z : vs.toArray.size = (x :: xs).length := by rw [← l1]; simp
      rw [z, all_eq x hl] at this
      exact this prg w E Q q'
  · have := SeqAt.RcAt.lists_lengths (A := A) (s := s) (isList_of e) (isList_of e2) (by simp [l1, l2, hl]) hu
    have z : decide (xs = ys) = false := by simp; intro c; exact hl (by rw [c])
    rw [z] at q'
    exact this prg w E Q q'
theorem o_nel {α : Type} [DecidableEq α] {f : α → D} (hf : EqK f) {r r' : AV} {xs ys : List α} (L : LstV C r (xs.map f)) (L' : LstV C r' (ys.map f)) : Op K w k C (tCmp .NotEq) [r, r'] (.d (.bool (!decide (xs = ys)))) C := by
  intro A s b kp fs vs Q E hR S hv q
  have h_vs := RepAs.two hv; clear hv; obtain ⟨va, vb, rfl, ha, hb⟩ := h_vs
  obtain ⟨a, vs, n, rfl, e, rl⟩ := L.at S ha
  obtain ⟨a2, vs2, n2, rfl, e2, rl2⟩ := L'.at S hb
  have l1 : vs.length = xs.length := by have := rl.length; simpa using this
  have l2 : vs2.length = ys.length := by have := rl2.length; simpa using this
  have hu : A.units < cLine := by have := hR.units; omega
  have q' := q b fs s.heap s.toks (.bool (!decide (xs = ys))) Sub.refl Keep.refl S .v
  show wpAny _ _ (richCompare .NotEq (.ref a) (.ref a2)) Q E s
  by_cases hl : xs.length = ys.length
  · cases xs with
    | nil =>
      have hy : ys = [] := List.length_eq_zero_iff.mp hl.symm
      subst hy
      have := SeqAt.RcNeAt.lists (A := A) (s := s) (e := fun _ => true) (isList_of e) (isList_of e2) (by simp [l1, l2]) hu (fun j h1 h2 => by simp [l1] at h1)
      have z : vs.toArray.size = 0 := by simpa using l1
      rw [z] at this
      exact this prg w E Q q'
    | cons x xs =>
      have := SeqAt.RcNeAt.lists (A := A) (s := s) (e := fun i => decide ((x :: xs).getD i x = ys.getD i x)) (isList_of e) (isList_of e2) (by simp [l1, l2, hl]) hu (fun j h1 h2 => hf b _ _ _ _ A.in1 s (rep_at rl h1) (rep_at rl2 h2))
      have z : vs.toArray.size = (x :: xs).length := by rw [← l1]; simp
      rw [z, all_eq x hl] at this
      exact this prg w E Q q'
  · have := SeqAt.RcNeAt.lists_lengths (A := A) (s := s) (isList_of e) (isList_of e2) (by simp [l1, l2, hl]) hu
    have z : decide (xs = ys) = false := by simp; intro c; exact hl (by rw [c])
    rw [z] at q'
    exact this prg w E Q q'

theorem o_ord {c : Nat} : Op K w k C (fun vs => call (.builtin "ord") vs []) [.d (.str ⟨#[c]⟩)] (.d (.int c)) C := by
  intro A s b kp fs vs Q E hR S hv q
  have h_vs := RepAs.one hv; clear hv; obtain ⟨va, rfl, ha⟩ := h_vs
  cases ha
  exact PySem.P.ord_of_char (q b fs s.heap _ _ Sub.refl Keep.refl S .int)
theorem o_chr {i : Int} (h0 : 0 ≤ i) (h1 : i < 1114112) : Op K w k C (fun vs => call (.builtin "chr") vs []) [.d (.int i)] (.d (.str ⟨#[i.toNat]⟩)) C := by
  intro A s b kp fs vs Q E hR S hv q
  have h_vs := RepAs.one hv; clear hv; obtain ⟨va, rfl, ha⟩ := h_vs
  cases ha
  exact PySem.P.chr_of_int (by simp; omega) (q b fs s.heap _ _ Sub.refl Keep.refl S .str)
theorem o_typeb {z : Bool} : Op K w k C (fun vs => call (.type "type") vs []) [.d (.bool z)] (.d (.v (.type "bool"))) C := by
  intro A s b kp fs vs Q E hR S hv q
  have h_vs := RepAs.one hv; clear hv; obtain ⟨va, rfl, ha⟩ := h_vs
  cases ha
  exact call_type_of (Tx := "bool") (PySem.typeIs_bool s z) rfl (q b fs s.heap s.toks _ Sub.refl Keep.refl S .v)
theorem o_typel {r : AV} {ds : List D} (L : LstV C r ds) : Op K w k C (fun vs => call (.type "type") vs []) [r] (.d (.v (.type "list"))) C := by
  intro A s b kp fs vs Q E hR S hv q
  have h_vs := RepAs.one hv; clear hv; obtain ⟨va, rfl, ha⟩ := h_vs
  obtain ⟨a, vs, n, rfl, e, rl⟩ := L.at S ha
  exact call_type_of (Tx := "list") ⟨_, e, rfl⟩ rfl (q b fs s.heap s.toks _ Sub.refl Keep.refl S .v)
theorem o_types {x : Str} : Op K w k C (fun vs => call (.type "type") vs []) [.d (.str x)] (.d (.v (.type "str"))) C := by
  intro A s b kp fs vs Q E hR S hv q
  have h_vs := RepAs.one hv; clear hv; obtain ⟨va, rfl, ha⟩ := h_vs
  cases ha
  exact call_type_of (Tx := "str") (typeIs_str s _ _) rfl (q b fs s.heap s.toks _ Sub.refl Keep.refl S .v)

/-! text -/
theorem repL_strs {l : List (Str × Tok)} : RepL b (strValues l) ((l.map (·.1)).map .str) := by
  induction l with
  | nil => exact .nil
  | cons p l ih => exact .cons .str ih
theorem strs_of {xs : List Str} : ∀ {vs : List Value}, RepL b vs (xs.map .str) → ∃ l, vs = strValues l ∧ l.map (·.1) = xs := by
  induction xs with
  | nil => intro vs r; cases r; exact ⟨[], rfl, rfl⟩
  | cons x xs ih =>
    intro vs r
    cases r with
    | cons r1 r2 =>
      cases r1
      rename_i t
      obtain ⟨l, rfl, e⟩ := ih r2
      exact ⟨(x, t) :: l, rfl, by simp [e]⟩
theorem o_split {x y : Str} (hy : (y.length == 0) = false) (hx : x.length ≤ sizeLine) (hn : (Builtin.Str.partsBetween x (Builtin.Str.occurrences x y 0 x.length (x.length + 1)) y.length).length ≤ sizeLine) :
    Op K w k C (fun vs => call (.builtin "str.split") vs []) [.d (.str x), .d (.str y)] (.d (.list ((Txt.split x y).map .str))) C := by
  intro A s b kp fs vs Q E hR S hv q
  have h_vs := RepAs.two hv; clear hv; obtain ⟨va, vb, rfl, ha, hb⟩ := h_vs
  cases ha; cases hb
  rename_i t u
  have fin : ∀ (l : List (Str × Tok)) (tk : Nat), l.map (·.1) = Txt.split x y → wants Q E (.ok (.ret (.ref s.heap.objs.size))) { s with toks := tk, heap := s.heap.push (lstO (strValues l) 0) } := fun l tk e => by
    obtain ⟨b', sb, S', r'⟩ := S.pushL (repL_strs (b := b) (l := l))
    rw [e] at r'
    exact q b' fs _ tk _ sb Keep.refl S' r'
  cases h1 : (decide (x.length < y.length) || decide (Builtin.Str.strKind x < Builtin.Str.strKind y))
  · cases hf : (Builtin.Str.occurrences x y 0 x.length (x.length + 1)).isEmpty
    · refine call_meets F.slot_str_split (typeIs_str _ _ _) F.entry_str_split (F.args_str_split_2 _ _) (meets_str_split_sep x y t u h1 hy hf hx hn) ?_
      show wants Q E _ { s with toks := _, heap := s.heap.push { cls := .type "list", data := .seq (strsFrom s.toks (Builtin.Str.partsBetween x (Builtin.Str.occurrences x y 0 x.length (x.length + 1)) y.length)).toArray } }
      rw [strsFrom_eq]
      exact fin _ _ ((numbered_texts _ _).trans ((if_neg (ne_true_of_eq_false h1)).trans (if_neg (ne_true_of_eq_false hf))).symm)
    · exact call_meets F.slot_str_split (typeIs_str _ _ _) F.entry_str_split (F.args_str_split_2 _ _) (meets_str_split_not_found x y t u h1 hy hf) (fin [(x, t)] s.toks ((if_neg (ne_true_of_eq_false h1)).trans (if_pos hf)).symm)
  · exact call_meets F.slot_str_split (typeIs_str _ _ _) F.entry_str_split (F.args_str_split_2 _ _) (meets_str_split_cannot_occur x y t u h1) (fin [(x, t)] s.toks (if_pos h1).symm)
theorem o_join {x : Str} {r : AV} {ys : List Str} (L : LstV C r (ys.map .str)) (hok : JoinOk x ys = true) : Op K w k C (fun vs => call (.builtin "str.join") vs []) [.d (.str x), r] (.d (.str (Txt.join x ys))) C := by
  intro A s b kp fs vs Q E hR S hv q
  have h_vs := RepAs.two hv; clear hv; obtain ⟨va, vb, rfl, ha, hb⟩ := h_vs
  cases ha
  obtain ⟨a2, vs2, n2, rfl, e2, rl2⟩ := L.at S hb
  obtain ⟨l, rfl, e⟩ := strs_of rl2
  exact SC.join (isList_of e2) e hok fun t' tk => q b fs s.heap tk _ Sub.refl Keep.refl S .str
theorem o_lower {x : Str} (hz : Builtin.Str.tooLong (Txt.lower x).length = false) : Op K w k C (fun vs => call (.builtin "str.lower") vs []) [.d (.str x)] (.d (.str (Txt.lower x))) C := by
  intro A s b kp fs vs Q E hR S hv q
  have h_vs := RepAs.one hv; clear hv; obtain ⟨va, rfl, ha⟩ := h_vs
  cases ha
  exact SC.lower hz (q b fs s.heap _ _ Sub.refl Keep.refl S .str)
theorem part_of {v : Value} {p : Option Int} (h : IsPart v p) : ∃ q : Option (Int × Tok), v = partValue q ∧ q.map (·.1) = p := by
  cases h with
  | none => exact ⟨none, rfl, rfl⟩
  | int i t => exact ⟨some (i, t), rfl, rfl⟩
theorem o_sslice {x : Str} {lo hi : Option Int} (hz : x.length ≤ sizeLine) : Op K w k C tGet [.d (.str x), .d (.slc lo hi none)] (.d (.str (StrLaws.sliceText x lo hi))) C := by
  intro A s b kp fs vs Q E hR S hv q
  have h_vs := RepAs.two hv; clear hv; obtain ⟨va, vb, rfl, ha, hb⟩ := h_vs
  cases ha
  rename_i t
  obtain ⟨sl, x1, y, z, rfl, e2, px, py, pz⟩ := rep_slc S hb
  obtain ⟨l, rfl, rfl⟩ := part_of px
  obtain ⟨u, rfl, rfl⟩ := part_of py
  cases pz
  refine wpAny_getItem_str_slice (l := l) (u := u) (st := none) ⟨_, e2, rfl, rfl⟩ rfl ?_
  unfold sliceMade
  by_cases c : ((((none : Option (Int × Tok)).map (·.1)).getD 1 == 1 && (slicePicked x l u none).length == x.length) = true)
  · rw [if_pos c]
    have e : StrLaws.sliceText x (l.map (·.1)) (u.map (·.1)) = x := if_pos c
    rw [e] at q
    exact q b fs s.heap s.toks _ Sub.refl Keep.refl S .str
  · rw [if_neg c]
    have e : StrLaws.sliceText x (l.map (·.1)) (u.map (·.1)) = ⟨((slicePicked x l u none).filterMap (x.cps[·]?)).toArray⟩ := if_neg c
    rw [e] at q
    refine ⟨?_, q b fs s.heap _ _ Sub.refl Keep.refl S .str⟩
    have h1 : (slicePicked x l u none).length ≤ x.length := indices_len_le _ _ _
    have h2 := List.length_filterMap_le (x.cps[·]?) (slicePicked x l u none)
    show ((slicePicked x l u none).filterMap (x.cps[·]?)).toArray.size ≤ sizeLine
    rw [List.size_toArray]; omega
theorem slice_to1 (x : Str) : StrLaws.sliceText x none (some 1) = ⟨(x.cps.toList.take 1).toArray⟩ := by
  by_cases h : 1 ≤ x.cps.toList.length
  · have := StrLaws.sliceText_to (x := x) (j := 1) ⟨by omega, by omega⟩
    rw [this]; rfl
  · have : x = ⟨#[]⟩ := by
      cases x with | mk a =>
      have : a.toList = [] := List.length_eq_zero_iff.mp (by simp at h ⊢; simpa using h)
      have : a = #[] := by simpa using this
      rw [this]
    subst this
    decide +kernel
theorem slice_from1 (x : Str) : StrLaws.sliceText x (some 1) none = ⟨(x.cps.toList.drop 1).toArray⟩ := by
  by_cases h : 1 ≤ x.cps.toList.length
  · have := StrLaws.sliceText_from (x := x) (i := 1) ⟨by omega, by omega⟩
    rw [this]
    have e : ((x.cps.toList.length : Int) - 1).toNat = (x.cps.toList.drop 1).length := by simp
    rw [e, show (1 : Int).toNat = 1 from rfl, List.take_length]
  · have : x = ⟨#[]⟩ := by
      cases x with | mk a =>
      have : a.toList = [] := List.length_eq_zero_iff.mp (by simp at h ⊢; simpa using h)
      have : a = #[] := by simpa using this
      rw [this]
    subst this
    decide +kernel
end

end
/-! M11 -/
section
section
variable {K : Frag} {w : World} {n k : Nat} {env : Env} {Γ Γ₁ Γ₂ Γ' : Gam} {C C' C₁ C₂ C₃ : List Cell} {b b' : PM} {kp kp' : Kp} {fs fs' : List Foot} {h h' : Heap}

/-- objects beside are turned; the list of what stands beside is changed -/
theorem St.move (S : St K b kp fs C h) {wr : List Addr} (hk : ∀ a o, a ∉ wr → h.get? a = some o → h'.get? a = some o) (hb : ∀ a ∈ wr, b a = none) (hf : ∀ p ∈ fs.flatten, p.1 ∉ wr)
    (hp : ∀ p ∈ kp', (p ∈ kp ∧ p.1 ∉ wr) ∨ ((∃ o, h'.get? p.1 = some o ∧ p.2 o) ∧ b p.1 = none ∧ ∀ q ∈ fs.flatten, q.1 ≠ p.1)) : St K b kp' fs C h' where
  base := fun a o e => hk _ _ (fun hm => by rw [hb a hm] at e; cases e) (S.base a o e)
  top := S.top
  kept := fun p hq => by
    rcases hp p hq with ⟨h1, h2⟩ | ⟨h1, h2, _⟩
    · obtain ⟨⟨o, e, d⟩, q⟩ := S.kept p h1
      exact ⟨⟨o, hk _ _ h2 e, d⟩, q⟩
    · exact ⟨h1, h2⟩
  foot := fun p hq => by
    obtain ⟨e, q, r⟩ := S.foot p hq
    refine ⟨hk _ _ (hf p hq) e, q, fun x hx => ?_⟩
    rcases hp x hx with ⟨h1, _⟩ | ⟨_, _, h3⟩
    · exact r x h1
    · exact Ne.symm (h3 p hq)
  nodup := S.nodup
  cells := S.cells
theorem Frm.move (F : Frm b kp fs env Γ h) (hk : ∀ o, h.get? env.locals = some o → h'.get? env.locals = some o) (hp : ∀ q ∈ kp', q.1 ≠ env.locals) : Frm b kp' fs env Γ h' :=
  ⟨F.fn, F.gl, F.bu, ⟨F.off.1, hp, F.off.2.2⟩, let ⟨m, n, v⟩ := F.ns; ⟨m, let ⟨o, es, ep, e, r⟩ := n; ⟨o, es, ep, hk _ e, r⟩, v⟩⟩

/-- what a loop hands out -/
inductive Item where
  | one (d : D)
  | tup (ds : List D)
noncomputable def ItemOk (b : PM) (h : Heap) (v : Value) : Item → Prop
  | .one d => Rep b v d
  | .tup ds => ∃ T vs, v = .ref T ∧ h.IsTuple T vs.toArray ∧ RepL b vs ds

/-- a value is bound to a target -/
noncomputable def AssignTo (K : Frag) (w : World) (env : Env) (Γ : Gam) (C : List Cell) (target : Expr) (i : Item) (Γ' : Gam) (C' : List Cell) : Prop :=
  ∀ (A : Around) (s : Shared) (b : PM) (kp : Kp) (fs : List Foot) (v : Value) (Q : Unit → Shared → Prop) (E : Value → Shared → Prop),
    A.handled = none → St K b kp fs C s.heap → Frm b kp fs env Γ s.heap → ItemOk b s.heap v i →
    (∀ fs' h' tk, Keep fs.length fs fs' → fs'.length = fs.length → St K b kp fs' C' h' → Frm b kp fs' env Γ' h' → Q () { s with heap := h', toks := tk }) →
    wpAny (model prg w) A (assign target env v) Q E s
theorem as_name {x : Str} {pos : Pos} {d : D} (hl : env.kindOf x = some .local) : AssignTo K w env Γ C (.Name x pos) (.one d) ((x, .loc (.d d)) :: Γ) C := by
  intro A s b kp fs v Q E hh S F hi q
  exact wpAny_assign_Name (store_to (r := .d d) hl S F hi fun h' tk S' F' => q fs h' tk Keep.refl rfl S' F')
/-- a cell variable is bound -/
theorem as_box {x : Str} {pos : Pos} {d : D} {j : Nat} {r : Option AV} (hl : env.kindOf x = some .cell) (hx : Γ.lookup x = some (.box j)) (hj : C[j]? = some (.box r)) : AssignTo K w env Γ C (.Name x pos) (.one d) Γ (C.set j (.box (some (.d d)))) := by
  intro A s b kp fs v Q E hh S F hi q
  obtain ⟨m, hn, hv⟩ := F.ns
  obtain ⟨_, c, f, e, hf, hc⟩ := hv x _ hx
  have hcell : ∃ o vo, f = [(c, o)] ∧ o.data = .cell vo := by
    have := S.cells.2 j _ f hj hf
    cases r with
    | none => obtain ⟨c', o, v', rfl, ho⟩ := this; obtain rfl : c' = c := by simpa [headA] using hc
              exact ⟨o, _, rfl, ho⟩
    | some r => obtain ⟨c', o, v', rfl, ho, _⟩ := this; obtain rfl : c' = c := by simpa [headA] using hc
                exact ⟨o, _, rfl, ho⟩
  obtain ⟨o, vo, rfl, ho⟩ := hcell
  have hin : (c, o) ∈ fs.flatten := List.mem_flatten.mpr ⟨_, List.mem_of_getElem? hf, List.mem_cons_self⟩
  have hco := (S.foot (c, o) hin).1
  refine wpAny_assign_Name (wpAny_storeName_cell F.fn hl e ⟨o, hco, ho⟩ fun h' hc' hs => ?_)
  obtain ⟨o', ho', hd'⟩ := hc'
  have S' := S.turn (h' := h') (g := [(c, o')]) (c := .box (some (.d d))) hf (List.getElem?_eq_some_iff.mp hj).1 rfl (fun p hp => by simp at hp; subst hp; exact ho')
    (fun a o2 ha e2 => hs.extBut a o2 (Ne.symm (ha _ List.mem_cons_self)) e2) ⟨c, o', v, rfl, hd', hi⟩
  have hne : env.locals ≠ c := fun z => F.off.2.2 (c, o) hin z.symm
  refine q (fs.set j [(c, o')]) h' s.toks (keep_set hf rfl) (by simp) S' ?_
  refine F.same Sub.refl (keep_set hf rfl) F.off.1 (fun p hp => ?_) fun o2 e2 => hs.extBut _ o2 hne e2
  obtain ⟨l, r', e1, e2⟩ := flatten_set fs j [(c, o)] [(c, o')] hf
  rw [e2] at hp
  rcases List.mem_append.mp hp with hp | hp
  · rcases List.mem_append.mp hp with hp | hp
    · exact F.off.2.2 p (by rw [e1]; simp [hp])
    · simp at hp; subst hp; exact Ne.symm hne
  · exact F.off.2.2 p (by rw [e1]; simp [hp])
theorem assignEach_cons {t : Expr} {rest : List Expr} (ht : assignEach (t :: rest) env = (false, assign t env) :: assignEach rest env) : (assignEach (t :: rest) env).map (·.2) = assign t env :: (assignEach rest env).map (·.2) := by rw [ht]; rfl

/-- names one after the other -/
inductive AssignsTo (K : Frag) (w : World) (env : Env) : Gam → List Cell → List Expr → List D → Gam → List Cell → Prop
  | nil {Γ : Gam} {C : List Cell} : AssignsTo K w env Γ C [] [] Γ C
  | cons {Γ Γ₁ Γ₂ : Gam} {C C₁ C₂ : List Cell} {t : Expr} {ts : List Expr} {d : D} {ds : List D} : AssignTo K w env Γ C t (.one d) Γ₁ C₁ → AssignsTo K w env Γ₁ C₁ ts ds Γ₂ C₂ → assignEach (t :: ts) env = (false, assign t env) :: assignEach ts env → AssignsTo K w env Γ C (t :: ts) (d :: ds) Γ₂ C₂
theorem AssignsTo.c {t : Expr} {ts : List Expr} {d : D} {ds : List D} (h : AssignTo K w env Γ C t (.one d) Γ₁ C₁) (h' : AssignsTo K w env Γ₁ C₁ ts ds Γ₂ C₂) (e : assignEach (t :: ts) env = (false, assign t env) :: assignEach ts env := by rfl) : AssignsTo K w env Γ C (t :: ts) (d :: ds) Γ₂ C₂ := .cons h h' e
theorem AssignsTo.len {ts : List Expr} {ds : List D} (h : AssignsTo K w env Γ C ts ds Γ' C') : (assignEach ts env).length = ds.length ∧ (assignEach ts env).findIdx? (·.1) = none := by
  induction h with
  | nil => exact ⟨rfl, rfl⟩
  | cons _ _ e ih => rw [e]; exact ⟨by simp [ih.1], by rw [List.findIdx?_cons]; simp [ih.2]⟩
theorem assigns_to {ts : List Expr} {ds : List D} (h : AssignsTo K w env Γ C ts ds Γ' C') : ∀ (A : Around) (s : Shared) (b : PM) (kp : Kp) (fs : List Foot) (vs : List Value) (Q : Unit → Shared → Prop) (E : Value → Shared → Prop),
    A.handled = none → St K b kp fs C s.heap → Frm b kp fs env Γ s.heap → RepL b vs ds →
    (∀ fs' h' tk, Keep fs.length fs fs' → fs'.length = fs.length → St K b kp fs' C' h' → Frm b kp fs' env Γ' h' → Q () { s with heap := h', toks := tk }) →
    wpAny (model prg w) A (assignInOrder ((assignEach ts env).map (·.2)) vs) Q E s := by
  induction h with
  | nil =>
    intro A s b kp fs vs Q E hh S F hv q
    cases hv
    exact wpAny_pure (q fs s.heap s.toks Keep.refl rfl S F)
  | cons h1 _ e ih =>
    intro A s b kp fs vs Q E hh S F hv q
    cases hv with
    | cons r1 r2 =>
      rw [assignEach_cons e]
      show wpAny _ _ (do holding _ (assign _ env _); assignInOrder _ _) _ _ _
      refine wpAny_bind (wpAny_holding (h1 A s b kp fs _ _ E hh S F r1 fun fs₁ h₁ tk₁ kf₁ hl₁ S₁ F₁ => ?_))
      exact ih A _ b kp fs₁ _ Q E hh S₁ F₁ r2 fun fs₂ h₂ tk₂ kf₂ hl₂ S₂ F₂ => q fs₂ h₂ tk₂ (kf₁.trans (kf₂.le (by omega))) (by omega) S₂ F₂
theorem as_tup {ts : List Expr} {kk : Nat} {pos : Pos} {ds : List D} (h : AssignsTo K w env Γ C ts ds Γ' C') : AssignTo K w env Γ C (.Tuple ts kk pos) (.tup ds) Γ' C' := by
  intro A s b kp fs v Q E hh S F hi q
  obtain ⟨T, vs, rfl, hT, r⟩ := hi
  obtain ⟨l1, l2⟩ := h.len
  refine wpAny_assign_Tuple hh hT (by rw [l1]; simp [r.length]) l2 fun h' he => ?_
  have hk : ∀ a o, s.heap.get? a = some o → h'.get? a = some o := fun a o e => he a o (Nat.ne_of_lt (Heap.lt_size e)) e
  exact assigns_to h A _ b kp fs vs Q E hh (S.keeps hk) (F.keeps hk) r fun fs' h₁ tk kf hl S₁ F₁ => q fs' h₁ tk kf hl S₁ F₁
theorem as_tupd {ts : List Expr} {kk : Nat} {pos : Pos} {ds : List D} (h : AssignsTo K w env Γ C ts ds Γ' C') : AssignTo K w env Γ C (.Tuple ts kk pos) (.one (.tup ds)) Γ' C' := by
  intro A s b kp fs v Q E hh S F hi q
  obtain ⟨a, vs, n, rfl, e, r⟩ := rep_tup S hi
  exact as_tup h A s b kp fs _ Q E hh S F ⟨a, vs, rfl, isTup_of e, r⟩ q
end

end
/-! M12 -/
section

noncomputable def ownK (ow : List Addr) (h : Heap) : Kp := ow.map fun a => (a, fun o => h.get? a = some o)
theorem mem_ownK {ow : List Addr} {h : Heap} {p : Addr × (Obj → Prop)} (hp : p ∈ ownK ow h) : p.1 ∈ ow ∧ p.2 = fun o => h.get? p.1 = some o := by
  obtain ⟨a, ha, rfl⟩ := List.mem_map.mp hp
  exact ⟨ha, rfl⟩
theorem ownK_mem {ow : List Addr} {h : Heap} {a : Addr} (ha : a ∈ ow) : (a, fun o => h.get? a = some o) ∈ ownK ow h := List.mem_map.mpr ⟨a, ha, rfl⟩

/-- an iterator at work; ow: its own objects -/
structure TurnsOn (w : World) (A : Around) (target : Expr) (I : Addr) (items : List Item) (b : PM) (kp : Kp) (ow fp wr : List Addr) (P Md : Nat → Value → Heap → Prop) (W : Nat → Heap → Prop) : Prop where
  kt : KTurns prg w A target I fp wr items.length P Md W
  wr : ∀ a ∈ wr, a ∈ ow
  fp : ∀ a ∈ fp, a ∈ ow ∨ (∃ o, b a = some o) ∨ ∃ o, (a, fun x => x = o) ∈ kp
  ex : ∀ i h, W i h → ∀ a ∈ ow, ∃ o, h.get? a = some o
  item : ∀ i v h it, P i v h → items[i]? = some it → ∀ b', Sub b b' → ItemOk b' h v it

section
variable {K : Frag} {w : World} {n k : Nat} {env : Env} {Γ Γ₁ Γ₂ Γ' : Gam} {C C' C₁ C₂ C₃ : List Cell} {b b' : PM} {kp kp' : Kp} {fs fs' : List Foot} {h h' : Heap}

theorem okL_own {kp own : Kp} {L a : Addr} (x : okL kp L a) : okL (own ++ kp) L a := by
  rcases x with e | ⟨P, hp, q⟩
  · exact .inl e
  · exact .inr ⟨P, List.mem_append_right _ hp, q⟩
/-- the own objects are turned -/
theorem St.own {ow wr : List Addr} (S : St K b (ownK ow h ++ kp) fs C h) (hw : ∀ a ∈ wr, a ∈ ow) (hk : ∀ a o, a ∉ wr → h.get? a = some o → h'.get? a = some o) (ex : ∀ a ∈ ow, ∃ o, h'.get? a = some o) (off : ∀ q ∈ kp, q.1 ∉ ow) :
    St K b (ownK ow h' ++ kp) fs C h' := by
  have own : ∀ a ∈ ow, b a = none ∧ ∀ q ∈ fs.flatten, q.1 ≠ a := fun a ha =>
    ⟨(S.kept _ (List.mem_append_left _ (ownK_mem ha))).2, fun q hq => Ne.symm ((S.foot q hq).2.2 _ (List.mem_append_left _ (ownK_mem ha)))⟩
  refine S.move hk (fun a ha => (own a (hw a ha)).1) (fun p hp hm => (own _ (hw _ hm)).2 p hp rfl) fun p hp => ?_
  rcases List.mem_append.mp hp with hp | hp
  · obtain ⟨h1, h2⟩ := mem_ownK hp
    obtain ⟨o, e⟩ := ex _ h1
    exact .inr ⟨⟨o, e, by rw [h2]; exact e⟩, own _ h1⟩
  · exact .inl ⟨List.mem_append_right _ hp, fun hm => off p hp (hw _ hm)⟩
/-- the own objects stand as they stood -/
theorem St.sameOwn {ow : List Addr} (S : St K b (ownK ow h ++ kp) fs C h') : ∀ a ∈ ow, ∀ o, h.get? a = some o → h'.get? a = some o := fun a ha o e => by
  obtain ⟨⟨o', e', q⟩, _⟩ := S.kept _ (List.mem_append_left _ (ownK_mem ha))
  have q' : h.get? a = some o' := q
  rw [e] at q'; cases q'; exact e'
theorem St.reOwn {ow : List Addr} (S : St K b (ownK ow h ++ kp) fs C h') : St K b (ownK ow h' ++ kp) fs C h' := by
  refine S.move (wr := []) (fun _ _ _ e => e) (by simp) (by simp) fun p hp => ?_
  rcases List.mem_append.mp hp with hp | hp
  · obtain ⟨h1, h2⟩ := mem_ownK hp
    obtain ⟨⟨o', e', q⟩, q2⟩ := S.kept (p.1, fun o => h.get? p.1 = some o) (List.mem_append_left _ (ownK_mem h1))
    exact .inr ⟨⟨o', e', by rw [h2]; exact e'⟩, q2, fun q hq => Ne.symm ((S.foot q hq).2.2 (p.1, fun o => h.get? p.1 = some o) (List.mem_append_left _ (ownK_mem h1)))⟩
  · exact .inl ⟨List.mem_append_right _ hp, by simp⟩
theorem St.noOwn {own : Kp} (S : St K b (own ++ kp) fs C h) : St K b kp fs C h :=
  S.move (wr := []) (fun _ _ _ e => e) (by simp) (by simp) fun _ hp => .inl ⟨List.mem_append_right _ hp, by simp⟩
theorem Frm.noOwn {own : Kp} (F : Frm b (own ++ kp) fs env Γ h) : Frm b kp fs env Γ h := F.move (fun _ e => e) fun q hq => F.off.2.1 q (List.mem_append_right _ hq)
theorem Frm.own {ow wr : List Addr} (F : Frm b (ownK ow h ++ kp) fs env Γ h) (hw : ∀ a ∈ wr, a ∈ ow) (hk : ∀ a o, a ∉ wr → h.get? a = some o → h'.get? a = some o) : Frm b (ownK ow h' ++ kp) fs env Γ h' := by
  have no : ∀ a ∈ ow, a ≠ env.locals := fun a ha => F.off.2.1 _ (List.mem_append_left _ (ownK_mem ha))
  refine F.move (fun o e => hk _ o (fun hm => no _ (hw _ hm) rfl) e) fun q hq => ?_
  rcases List.mem_append.mp hq with hq | hq
  · exact no _ (mem_ownK hq).1
  · exact F.off.2.1 _ (List.mem_append_right _ hq)
theorem Frm.reOwn {ow : List Addr} {h₀ : Heap} (F : Frm b (ownK ow h₀ ++ kp) fs env Γ h) : Frm b (ownK ow h ++ kp) fs env Γ h := by
  refine F.move (fun _ e => e) fun q hq => ?_
  rcases List.mem_append.mp hq with hq | hq
  · exact F.off.2.1 (q.1, fun o => h₀.get? q.1 = some o) (List.mem_append_left _ (ownK_mem (mem_ownK hq).1))
  · exact F.off.2.1 _ (List.mem_append_right _ hq)

inductive LoopTo (K : Frag) (w : World) (n k : Nat) (env : Env) (target : Expr) (body : List Stmt) : List Item → Gam → List Cell → Out → List Cell → Prop
  | done {Γ : Gam} {C : List Cell} : LoopTo K w n k env target body [] Γ C (.nxt Γ) C
  | step {i : Item} {is : List Item} {Γ Γ₁ Γ₂ : Gam} {C C₁ C₂ C₃ : List Cell} {o : Out} : AssignTo K w env Γ C target i Γ₁ C₁ → ExecT K w n k env Γ₁ C₁ (execs body env) (.nxt Γ₂) C₂ → LoopTo K w n k env target body is Γ₂ C₂ o C₃ → LoopTo K w n k env target body (i :: is) Γ C o C₃
  | stop {i : Item} {is : List Item} {Γ Γ₁ : Gam} {C C₁ C₂ : List Cell} {r : AV} : AssignTo K w env Γ C target i Γ₁ C₁ → ExecT K w n k env Γ₁ C₁ (execs body env) (.ret r) C₂ → LoopTo K w n k env target body (i :: is) Γ C (.ret r) C₂

/-- the state ahead of a turn of a for loop -/
inductive LoopInv (w : World) (n k : Nat) (env : Env) (K : Frag) (target : Expr) (body : List Stmt) (items : List Item) (o : Out) (C' : List Cell) (b : PM) (kp : Kp) (fs : List Foot) (ow : List Addr) (W : Nat → Heap → Prop) (s : Shared) (m : Nat) (s' : Shared) : Prop
  | mk (i : Nat) (Γi : Gam) (Ci : List Cell) (bi : PM) (fsi : List Foot) (h : Heap) (tk : Tok) (e1 : s' = { s with heap := h, toks := tk }) (e2 : i ≤ items.length) (e3 : m = items.length - i) (e4 : LoopTo K w n k env target body (items.drop i) Γi Ci o C') (e5 : W i h)
    (e6 : Sub b bi) (e7 : Keep n fs fsi) (e8 : n ≤ fsi.length) (e9 : St K bi (ownK ow h ++ kp) fsi Ci h) (e10 : Frm bi (ownK ow h ++ kp) fsi env Γi h)
theorem loop_to {target : Expr} {body : List Stmt} {A : Around} {I : Addr} {items : List Item} {ow fp wr : List Addr} {P Md : Nat → Value → Heap → Prop} {W : Nat → Heap → Prop} {o : Out} {R : Result → Shared → Prop} {s : Shared}
    (T : TurnsOn w A target I items b kp ow fp wr P Md W) (L : LoopTo K w n k env target body items Γ C o C') (hR : Room k (okL kp env.locals) A) (S : St K b (ownK ow s.heap ++ kp) fs C s.heap) (F : Frm b (ownK ow s.heap ++ kp) fs env Γ s.heap)
    (hn : n ≤ fs.length) (h0 : W 0 s.heap) (off : ∀ q ∈ kp, q.1 ∉ ow)
    (q : ∀ b' fs' h' tk f, Sub b b' → Keep n fs fs' → n ≤ fs'.length → St K b' kp fs' C' h' → OutOk b' kp fs' env h' o f → R (.ok f) { s with heap := h', toks := tk }) :
    codeAny (model prg w) A (.forLoop target (.ref I) body [] env) R s := by
  refine codeAny_forLoop_any
    (LoopInv w n k env K target body items o C' b kp fs ow W s) ?_ (items.length - 0)
    ⟨0, Γ, C, b, fs, s.heap, s.toks, rfl, Nat.zero_le _, rfl, L, h0, Sub.refl, Keep.refl, hn, S, F⟩
  rintro m s' ⟨i, Γi, Ci, bi, fsi, h₁, tk₁, rfl, hi, rfl, Li, hW, sbi, kfi, hni, Si, Fi⟩
  have wrNone : ∀ a ∈ wr, a ∈ ow := T.wr
  by_cases hlt : i < items.length
  · have hit : items[i]? = some items[i] := List.getElem?_eq_getElem hlt
    rw [List.drop_eq_getElem_cons hlt] at Li
    refine T.kt.item i _ _ _ hlt hW fun v h₂ tk₂ hMd hk₂ => ?_
    refine T.kt.go i v _ _ _ hMd fun h₃ hP hW₃ hk₃ => ?_
    have hk : ∀ a o, a ∉ wr → h₁.get? a = some o → h₃.get? a = some o := fun a o ha e => hk₃ a o ha (hk₂ a o ha e)
    have S₃ : St K bi (ownK ow h₃ ++ kp) fsi Ci h₃ := Si.own T.wr hk (T.ex _ _ hW₃) off
    have F₃ : Frm bi (ownK ow h₃ ++ kp) fsi env Γi h₃ := Fi.own T.wr hk
    have hR₃ : Room k (okL (ownK ow h₃ ++ kp) env.locals) A := hR.weak fun a x => okL_own x
    have iok := T.item i v h₃ _ hP hit bi sbi
    have after : ∀ {Γ₁ C₁ o₁ C₂ fs₂ h₄ tk₄} {Q : Flow → Shared → Prop} {E : Value → Shared → Prop}, ExecT K w n k env Γ₁ C₁ (execs body env) o₁ C₂ → Keep fsi.length fsi fs₂ → fs₂.length = fsi.length → St K bi (ownK ow h₃ ++ kp) fs₂ C₁ h₄ → Frm bi (ownK ow h₃ ++ kp) fs₂ env Γ₁ h₄ →
        (∀ b' fs' h' tk f, Sub b b' → Keep n fs fs' → n ≤ fs'.length → St K b' (ownK ow h' ++ kp) fs' C₂ h' → W (i + 1) h' → OutOk b' (ownK ow h' ++ kp) fs' env h' o₁ f → Q f { s with heap := h', toks := tk }) →
        wpAny (model prg w) A (execs body env) Q E { s with heap := h₄, toks := tk₄ } := by
      intro Γ₁ C₁ o₁ C₂ fs₂ h₄ tk₄ Q E hX kf₂ hl₂ S₄ F₄ qq
      refine hX A _ bi (ownK ow h₃ ++ kp) fs₂ Q E hR₃ S₄ F₄ (by omega) fun b₅ fs₅ h₅ tk₅ f sb₅ kf₅ hn₅ S₅ ho => ?_
      have same := S₅.sameOwn
      refine qq b₅ fs₅ h₅ tk₅ f (sbi.trans sb₅) ((kfi.trans (kf₂.le hni)).trans kf₅) hn₅ S₅.reOwn (T.kt.frame _ _ _ hW₃ fun a ha o e => ?_) ?_
      · rcases T.fp a ha with ha | ⟨o', e'⟩ | ⟨o', e'⟩
        · exact same a ha o e
        · have e1 := S₃.base a o' (sbi _ _ e')
          rw [e] at e1; cases e1
          exact S₅.base _ _ (sb₅ _ _ (sbi _ _ e'))
        · obtain ⟨⟨o1, x1, y1⟩, _⟩ := S₃.kept _ (List.mem_append_right _ e')
          obtain ⟨⟨o2, x2, y2⟩, _⟩ := S₅.kept _ (List.mem_append_right _ e')
          have y1' : o1 = o' := y1
          have y2' : o2 = o' := y2
          rw [e] at x1; cases x1
          rw [x2, y2', y1']
      · cases o₁ with
        | nxt Γ => exact ⟨ho.1, ho.2.reOwn⟩
        | brk Γ => exact ⟨ho.1, ho.2.reOwn⟩
        | ret r => exact ho
    cases Li with
    | step ha hx hl =>
      refine ha A _ bi _ fsi v _ _ hR.handled S₃ F₃ iok fun fs₂ h₄ tk₄ kf₂ hl₂ S₄ F₄ => ?_
      refine after hx kf₂ hl₂ S₄ F₄ fun b₅ fs₅ h₅ tk₅ f sb₅ kf₅ hn₅ S₅ hW₅ ho => ?_
      obtain ⟨rfl, F₅⟩ := ho
      exact ⟨items.length - (i + 1), by omega, i + 1, _, _, b₅, fs₅, h₅, tk₅, rfl, hlt, rfl, hl, hW₅, sb₅, kf₅, hn₅, S₅, F₅⟩
    | stop ha hx =>
      refine ha A _ bi _ fsi v _ _ hR.handled S₃ F₃ iok fun fs₂ h₄ tk₄ kf₂ hl₂ S₄ F₄ => ?_
      refine after hx kf₂ hl₂ S₄ F₄ fun b₅ fs₅ h₅ tk₅ f sb₅ kf₅ hn₅ S₅ hW₅ ho => ?_
      obtain ⟨v', rfl, rv⟩ := ho
      exact q b₅ fs₅ h₅ tk₅ _ sb₅ kf₅ hn₅ S₅.noOwn ⟨v', rfl, rv⟩
  · have hie : i = items.length := by omega
    subst hie
    rw [List.drop_length] at Li
    cases Li
    refine T.kt.done _ _ _ hW fun h₂ tk₂ hk₂ => ?_
    refine wpAny_execs_nil ?_
    have F₂ := Fi.move (h' := h₂) (kp' := kp) (fun o e => hk₂ _ o (fun hm => Fi.off.2.1 _ (List.mem_append_left _ (ownK_mem (T.wr _ hm))) rfl) e) fun q hq => Fi.off.2.1 _ (List.mem_append_right _ hq)
    have S₂ := Si.move (h' := h₂) (kp' := kp) (fun a o ha e => hk₂ a o ha e) (fun a ha => (Si.kept _ (List.mem_append_left _ (ownK_mem (T.wr a ha)))).2) (fun p hp hm => (Si.foot p hp).2.2 _ (List.mem_append_left _ (ownK_mem (T.wr _ hm))) rfl)
      fun p hp => .inl ⟨List.mem_append_right _ hp, fun hm => off p hp (T.wr _ hm)⟩
    exact q bi fsi h₂ tk₂ .next sbi kfi hni S₂ ⟨rfl, F₂⟩

/-- what a loop runs over -/
noncomputable def SrcTo (K : Frag) (w : World) (k : Nat) (env : Env) (Γ : Gam) (C : List Cell) (iter target : Expr) (items : List Item) (C' : List Cell) : Prop :=
  ∀ (A : Around) (s : Shared) (b : PM) (kp : Kp) (fs : List Foot) (Q : Value → Shared → Prop) (E : Value → Shared → Prop),
    Room k (okL kp env.locals) A → St K b kp fs C s.heap → Frm b kp fs env Γ s.heap →
    (∀ b' fs' h' tk I ow fp wr P Md W, Sub b b' → Keep fs.length fs fs' → St K b' (ownK ow h' ++ kp) fs' C' h' → Frm b' (ownK ow h' ++ kp) fs' env Γ h' → (∀ q ∈ kp, q.1 ∉ ow) → TurnsOn w A target I items b' kp ow fp wr P Md W → W 0 h' →
      (∀ i (s : Shared) (Q : Value → Shared → Prop) (E : Value → Shared → Prop), W i s.heap → Q (.ref I) s → wpAny (model prg w) A (pyIter (.ref I)) Q E s) → Q (.ref I) { s with heap := h', toks := tk }) →
    wpAny (model prg w) A (eval iter env) (fun x s₁ => wpAny (model prg w) A (pyIter x) Q E s₁) E s
theorem ex_for {target iter : Expr} {body : List Stmt} {pos : Pos} {items : List Item} {o : Out} (hs : SrcTo K w k env Γ C iter target items C₁) (L : LoopTo K w n k env target body items Γ C₁ o C') (hf : ∀ x, foldedSetIterable iter env x = pure x := by intro _; rfl) :
    ExecT K w n k env Γ C (exec (.For target iter body [] pos) env) o C' := by
  intro A s b kp fs Q E hR S F hn q
  refine wpAny_For (hs A s b kp fs _ E hR S F fun b₁ fs₁ h₁ tk₁ I ow fp wr P Md W sb₁ kf₁ S₁ F₁ off T h0 _ => ?_) hf
  exact loop_to (s := { s with heap := h₁, toks := tk₁ }) T L hR S₁ F₁ (Nat.le_trans hn kf₁.len) h0 off fun b₂ fs₂ h₂ tk₂ f sb₂ kf₂ hn₂ S₂ ho => q b₂ fs₂ h₂ tk₂ f (sb₁.trans sb₂) ((kf₁.le hn).trans kf₂) hn₂ S₂ ho
end

end
/-! M13 -/
section
section
variable {K : Frag} {w : World} {n k : Nat} {env cenv : Env} {Γ Γ₁ Γ₂ Γ' : Gam} {C C' C₁ C₂ C₃ : List Cell} {b b' : PM} {kp kp' : Kp} {fs fs' : List Foot} {h h' : Heap}

/-- the frame is put beside -/
theorem St.withFrame (S : St K b kp fs C h) (F : Frm b kp fs env Γ h) : ∃ P : Obj → Prop, (∀ o, P o → ∀ vs, o.data ≠ .fields vs) ∧ St K b ((env.locals, P) :: kp) fs C h ∧
    ∀ b' fs' C' h', Sub b b' → Keep fs.length fs fs' → St K b' ((env.locals, P) :: kp) fs' C' h' → Frm b' kp fs' env Γ h' := by
  obtain ⟨m, hn, hm⟩ := F.ns
  obtain ⟨o, es, ep, ho, hd, hs, hf⟩ := id hn
  obtain ⟨f1, f2, f3⟩ := F.off
  refine ⟨fun x => x.data = o.data, fun x hx vs e => (by rw [show x.data = o.data from hx, hd] at e; cases e), S.move (wr := []) (fun _ _ _ e => e) (by simp) (by simp) fun p hp => ?_, fun b' fs' C' h' sb kf S₁ => ?_⟩
  · rcases List.mem_cons.mp hp with rfl | hp
    · exact .inr ⟨⟨o, ho, rfl⟩, f1, f3⟩
    · exact .inl ⟨hp, by simp⟩
  · obtain ⟨⟨o', ho', hd'⟩, hb'⟩ := S₁.kept _ List.mem_cons_self
    exact ⟨F.fn, F.gl, F.bu, ⟨hb', f2, fun p hp => Ne.symm ((S₁.foot p hp).2.2 _ List.mem_cons_self)⟩, m, ⟨o', es, ep, ho', (show o'.data = o.data from hd').trans hd, hs, hf⟩, fun x r hx => (hm x r hx).mono sb kf⟩
/-- an object from beside is turned no more -/
theorem St.adopt {a : Addr} {o : Obj} (S : St K b ((a, fun x => x = o) :: kp) fs C h) (off : ∀ q ∈ kp, q.1 ≠ a) : St K (b.put a o) kp fs C h ∧ Sub b (b.put a o) := by
  obtain ⟨⟨o', e, he⟩, hb⟩ := S.kept _ List.mem_cons_self
  have he' : o' = o := he
  subst he'
  have sb : Sub b (b.put a o') := Sub.put hb
  refine ⟨⟨fun c o2 e2 => ?_, fun c o2 e2 => sb _ _ (S.top c o2 e2), fun p hp => ?_, fun p hp => ?_, S.nodup, S.cells.1, fun i c f hc hf => (S.cells.2 i c f hc hf).mono sb Keep.refl⟩, sb⟩
  · by_cases q : c = a
    · subst q; rw [PM.put_self] at e2; cases e2; exact e
    · rw [PM.put_ne q] at e2; exact S.base _ _ e2
  · obtain ⟨x, q⟩ := S.kept p (List.mem_cons_of_mem _ hp)
    exact ⟨x, by rw [PM.put_ne (off p hp)]; exact q⟩
  · obtain ⟨x, q, r⟩ := S.foot p hp
    exact ⟨x, by rw [PM.put_ne (Ne.symm (r _ List.mem_cons_self))]; exact q, fun y hy => r y (List.mem_cons_of_mem _ hy)⟩

inductive IfsTo (K : Frag) (w : World) (k : Nat) (env : Env) (Γ : Gam) : List Cell → List Expr → Bool → List Cell → Prop
  | nil {C : List Cell} : IfsTo K w k env Γ C [] true C
  | one {C C₁ : List Cell} {c : Expr} {z : Bool} : TestTo K w k env Γ C c z C₁ → IfsTo K w k env Γ C [c] z C₁
theorem ifs_to {ifs : List Expr} {z : Bool} (h : IfsTo K w k env Γ C ifs z C₁) {A : Around} {s : Shared} {Q : Bool → Shared → Prop} {E : Value → Shared → Prop}
    (hR : Room k (okL kp env.locals) A) (S : St K b kp fs C s.heap) (F : Frm b kp fs env Γ s.heap)
    (q : ∀ b' fs' h' tk, Sub b b' → Keep fs.length fs fs' → St K b' kp fs' C₁ h' → Frm b' kp fs' env Γ h' → Q z { s with heap := h', toks := tk }) :
    wpAny (model prg w) A (forIn ifs true fun c r => if r = true then do let ok ← isTrue c env (eval c env); pure (ForInStep.yield ok) else pure (ForInStep.yield r)) Q E s := by
  cases h with
  | nil => exact wpAny_tests_nil (q b fs s.heap s.toks Sub.refl Keep.refl S F)
  | one h =>
    refine wpAny_tests_one (h A s b kp fs _ E hR S F fun b' fs' h' tk v sb kf S' F' r => ?_)
    subst r
    exact q b' fs' h' tk sb kf S' F'

inductive CompTo (K : Frag) (w : World) (k : Nat) (env : Env) (target : Expr) (ifs : List Expr) (elt : Expr) : List Item → Gam → List Cell → List D → List Cell → Prop
  | done {Γ : Gam} {C : List Cell} : CompTo K w k env target ifs elt [] Γ C [] C
  | keep {i : Item} {is : List Item} {Γ Γ₁ : Gam} {C C₁ C₂ C₃ C₄ : List Cell} {y : D} {ys : List D} : AssignTo K w env Γ C target i Γ₁ C₁ → IfsTo K w k env Γ₁ C₁ ifs true C₂ → EvalTo K w k env Γ₁ C₂ elt (.d y) C₃ → CompTo K w k env target ifs elt is Γ₁ C₃ ys C₄ → CompTo K w k env target ifs elt (i :: is) Γ C (y :: ys) C₄
  | skip {i : Item} {is : List Item} {Γ Γ₁ : Gam} {C C₁ C₂ C₄ : List Cell} {ys : List D} : AssignTo K w env Γ C target i Γ₁ C₁ → IfsTo K w k env Γ₁ C₁ ifs false C₂ → CompTo K w k env target ifs elt is Γ₁ C₂ ys C₄ → CompTo K w k env target ifs elt (i :: is) Γ C ys C₄

theorem compLoop_any {elt target iter : Expr} {ifs : List Expr} {scope : Scope} {pos : Pos} {it acc : Value} {A : Around} {R : Result → Shared → Prop} {s : Shared} (I : Nat → Shared → Prop)
    (turn : ∀ n s, I n s → wpAny (model prg w) A (pyNext it) (fun r s₁ => match r with
      | none => R (.ok .next) s₁
      | some v => wpAny (model prg w) A (letOwnedTupleGo target it v) (fun _ s₁' => wpAny (model prg w) A (assign target env v) (fun _ s₂ =>
          wpAny (model prg w) A (forIn ifs true fun c r => if r = true then do let ok ← isTrue c env (eval c env); pure (ForInStep.yield ok) else pure (ForInStep.yield r)) (fun ok s₃ =>
            if ok = true then wpAny (model prg w) A (eval elt env) (fun x s₄ =>
              wpAny (model prg w) A (call (.builtin "list.append") [acc, x]) (fun _ s₅ => ∃ m, m < n ∧ I m s₅) (notedBy (model prg w) A env fun e s' => R (.error e) s') s₄) (notedBy (model prg w) A env fun e s' => R (.error e) s') s₃
            else ∃ m, m < n ∧ I m s₃) (notedBy (model prg w) A env fun e s' => R (.error e) s') s₂) (notedBy (model prg w) A env fun e s' => R (.error e) s') s₁') (notedBy (model prg w) A env fun e s' => R (.error e) s') s₁) (notedBy (model prg w) A env fun e s' => R (.error e) s') s)
    (n : Nat) (h : I n s) : codeAny (model prg w) A (.compLoop (.ListComp elt [⟨target, iter, ifs, 0⟩] scope pos) 0 it acc env) R s := by
  refine codeAny_loop rfl I (fun n s hI => ?_) n h
  show wpAny _ A ((compTurn (.ListComp elt [⟨target, iter, ifs, 0⟩] scope pos) 0 it acc env).onRaise (fun x => do noteFrame x env; theTreesLotGoes x)) _ _ s
  refine wpAny_noted ?_
  rw [compTurn_list]
  refine wpAny_bind (wpAny_standAt (wpAny_bind (wpAny_mono (turn n s hI) (fun r s₁ h₁ => ?_) fun _ _ h' => h')))
  cases r with
  | none => exact wpAny_pure h₁
  | some v =>
    refine wpAny_bind (wpAny_mono h₁ (fun _ s₁' h₁' => ?_) fun _ _ h' => h')
    refine wpAny_bind (wpAny_mono h₁' (fun _ s₂ h₂ => wpAny_bind (wpAny_mono h₂ (fun ok s₃ h₃ => ?_) fun _ _ h' => h')) fun _ _ h' => h')
    cases ok with
    | false => exact wpAny_pure ⟨rfl, h₃⟩
    | true =>
      exact wpAny_bind (wpAny_bind (wpAny_mono h₃ (fun x s₄ h₄ => wpAny_bind (wpAny_mono h₄ (fun _ s₅ h₅ => wpAny_pure (wpAny_pure ⟨rfl, h₅⟩)) fun _ _ h' => h')) fun _ _ h' => h'))

/-- the state ahead of a turn of a comprehension -/
inductive CompInv (w : World) (k : Nat) (cenv : Env) (K : Frag) (target : Expr) (ifs : List Expr) (elt : Expr) (items : List Item) (C' : List Cell) (ys : List D) (b : PM) (kp : Kp) (fs : List Foot) (ow : List Addr) (D₀ : Addr) (W : Nat → Heap → Prop) (s : Shared) (m : Nat) (s' : Shared) : Prop
  | mk (i : Nat) (Γi : Gam) (Ci : List Cell) (bi : PM) (fsi : List Foot) (h : Heap) (tk : Tok) (zs : List D) (vs : List Value) (n : Nat) (ys' : List D) (e1 : s' = { s with heap := h, toks := tk }) (e2 : i ≤ items.length) (e3 : m = items.length - i)
    (e4 : CompTo K w k cenv target ifs elt (items.drop i) Γi Ci ys' C') (e5 : zs ++ ys' = ys) (e6 : zs.length ≤ i) (e7 : RepL bi vs zs) (e8 : W i h) (e9 : Sub b bi) (e10 : Keep fs.length fs fsi) (e11 : fs.length ≤ fsi.length)
    (e12 : St K bi (ownK ow h ++ (D₀, fun x => x = lstO vs n) :: kp) fsi Ci h) (e13 : Frm bi (ownK ow h ++ (D₀, fun x => x = lstO vs n) :: kp) fsi cenv Γi h)
theorem comp_loop {target elt iter : Expr} {ifs : List Expr} {scope : Scope} {pos : Pos} {A : Around} {I D₀ : Addr} {items : List Item} {ow fp wr : List Addr} {P Md : Nat → Value → Heap → Prop} {W : Nat → Heap → Prop} {ys : List D} {R : Result → Shared → Prop} {s : Shared}
    (T : TurnsOn w A target I items b kp ow fp wr P Md W) (L : CompTo K w k cenv target ifs elt items Γ C ys C') (hR : Room k (okL kp cenv.locals) A)
    (S : St K b (ownK ow s.heap ++ (D₀, fun x => x = lstO [] 0) :: kp) fs C s.heap) (F : Frm b (ownK ow s.heap ++ (D₀, fun x => x = lstO [] 0) :: kp) fs cenv Γ s.heap)
    (h0 : W 0 s.heap) (off : ∀ q ∈ kp, q.1 ∉ ow) (offD : D₀ ∉ ow) (offK : ∀ q ∈ kp, q.1 ≠ D₀) (hz : items.length ≤ sizeLine)
    (q : ∀ b' fs' h' tk vs m, Sub b b' → Keep fs.length fs fs' → St K b' ((D₀, fun x => x = lstO vs m) :: kp) fs' C' h' → RepL b' vs ys → (∃ m, h'.Ns cenv.locals m) → b' cenv.locals = none → (∀ p ∈ fs'.flatten, p.1 ≠ cenv.locals) → R (.ok .next) { s with heap := h', toks := tk }) :
    codeAny (model prg w) A (.compLoop (.ListComp elt [⟨target, iter, ifs, 0⟩] scope pos) 0 (.ref I) (.ref D₀) cenv) R s := by
  refine compLoop_any
    (CompInv w k cenv K target ifs elt items C' ys b kp fs ow D₀ W s) ?_ (items.length - 0)
    ⟨0, Γ, C, b, fs, s.heap, s.toks, [], [], 0, ys, rfl, Nat.zero_le _, rfl, L, rfl, Nat.zero_le _, .nil, h0, Sub.refl, Keep.refl, Nat.le_refl _, S, F⟩
  rintro m s' ⟨i, Γi, Ci, bi, fsi, h₁, tk₁, zs, vs, n, ys', rfl, hi, rfl, Li, hys, hzl, rv, hW, sbi, kfi, hni, Si, Fi⟩
  have offO : ∀ q ∈ (D₀, fun x => x = lstO vs n) :: kp, q.1 ∉ ow := fun q hq => by
    rcases List.mem_cons.mp hq with rfl | hq
    · exact offD
    · exact off q hq
  by_cases hlt : i < items.length
  · have hit : items[i]? = some items[i] := List.getElem?_eq_getElem hlt
    rw [List.drop_eq_getElem_cons hlt] at Li
    refine T.kt.item i _ _ _ hlt hW fun v h₂ tk₂ hMd hk₂ => ?_
    refine T.kt.go i v _ _ _ hMd fun h₃ hP hW₃ hk₃ => ?_
    have hk : ∀ a o, a ∉ wr → h₁.get? a = some o → h₃.get? a = some o := fun a o ha e => hk₃ a o ha (hk₂ a o ha e)
    have S₃ := Si.own (h' := h₃) T.wr hk (T.ex _ _ hW₃) offO
    have F₃ := Fi.own (h' := h₃) T.wr hk
    have hR₃ : Room k (okL (ownK ow h₃ ++ (D₀, fun x => x = lstO vs n) :: kp) cenv.locals) A := hR.weak fun a x => okL_own (okL_own (own := [(D₀, fun x => x = lstO vs n)]) x)
    have iok := T.item i v h₃ _ hP hit bi sbi
    -- the own objects stand
    have wkeep : ∀ {b₅ fs₅ C₅ h₅}, Sub bi b₅ → St K b₅ (ownK ow h₃ ++ (D₀, fun x => x = lstO vs n) :: kp) fs₅ C₅ h₅ → W (i + 1) h₅ := fun {b₅ fs₅ C₅ h₅} sb₅ S₅ => by
      refine T.kt.frame _ _ _ hW₃ fun a ha o e => ?_
      rcases T.fp a ha with ha | ⟨o', e'⟩ | ⟨o', e'⟩
      · exact S₅.sameOwn a ha o e
      · have e1 := S₃.base a o' (sbi _ _ e')
        rw [e] at e1; cases e1
        exact S₅.base _ _ (sb₅ _ _ (sbi _ _ e'))
      · obtain ⟨⟨o1, x1, y1⟩, _⟩ := S₃.kept _ (List.mem_append_right _ (List.mem_cons_of_mem _ e'))
        obtain ⟨⟨o2, x2, y2⟩, _⟩ := S₅.kept _ (List.mem_append_right _ (List.mem_cons_of_mem _ e'))
        have y1' : o1 = o' := y1
        have y2' : o2 = o' := y2
        rw [e] at x1; cases x1
        rw [x2, y2', y1']
    cases Li with
    | keep ha hif hel hl =>
      rename_i Γa Ca Cb Cc ya yb
      refine ha A _ bi _ fsi v _ _ hR.handled S₃ F₃ iok fun fs₂ h₄ tk₄ kf₂ hl₂ S₄ F₄ => ?_
      refine ifs_to hif hR₃ S₄ F₄ fun b₅ fs₅ h₅ tk₅ sb₅ kf₅ S₅ F₅ => ?_
      simp only [if_true]
      refine hel A _ b₅ _ fs₅ _ _ hR₃ S₅ F₅ fun b₆ fs₆ h₆ tk₆ x sb₆ kf₆ S₆ F₆ r₆ => ?_
      obtain ⟨⟨oD, eD, eD'⟩, bD⟩ := S₆.kept (D₀, fun x => x = lstO vs n) (List.mem_append_right _ List.mem_cons_self)
      have eD' : oD = lstO vs n := eD'
      have eD : h₆.get? D₀ = some (lstO vs n) := by rw [← eD']; exact eD
      have hvl : vs.length = zs.length := rv.length
      have sb6 := sb₅.trans sb₆
      refine call_meets PySem.F.slot_list_append ⟨_, eD, rfl⟩ PySem.F.entry_list_append (PySem.F.args_list_append_2 _ _) (AutoListH.list_append_list_val_0 D₀ vs.toArray n x (by simp; omega)) ⟨eD, ?_⟩
      have hb : ∃ n', (lstO vs n).mapSeq (fun z => z.push x) = lstO (vs ++ [x]) n' := ⟨if ((vs.toArray.push x).size == vs.toArray.size) = true then n else n + 1, by simp only [Obj.mapSeq, lstO, List.push_toArray]⟩
      obtain ⟨n', hb⟩ := hb
      have hsb := Heap.SameBut.update h₆ D₀ (Obj.mapSeq fun z => z.push x)
      have hD' : (h₆.update D₀ (Obj.mapSeq fun z => z.push x)).get? D₀ = some (lstO (vs ++ [x]) n') := by
        have := Heap.get?_update_self (Obj.mapSeq fun z => z.push x) eD (by rw [hb]; rfl)
        rw [hb] at this; exact this
      generalize h₆.update D₀ (Obj.mapSeq fun z => z.push x) = h₇ at hsb hD'
      have S₇ : St K b₆ (ownK ow h₆ ++ (D₀, fun x₁ => x₁ = lstO (vs ++ [x]) n') :: kp) fs₆ Cc h₇ := by
        refine S₆.reOwn.move (wr := [D₀]) (fun a o ha e => hsb.extBut a o (by simpa using ha) e) (fun a ha => by simp at ha; subst ha; exact bD) (fun p hp hm => ?_) fun p hp => ?_
        · simp at hm
          exact (S₆.foot p hp).2.2 (D₀, fun x => x = lstO vs n) (List.mem_append_right _ List.mem_cons_self) hm.symm
        · rcases List.mem_append.mp hp with hp | hp
          · exact .inl ⟨List.mem_append_left _ hp, fun hm => offD (by simp at hm; rw [← hm]; exact (mem_ownK hp).1)⟩
          · rcases List.mem_cons.mp hp with rfl | hp
            · exact .inr ⟨⟨_, hD', rfl⟩, bD, fun q hq => Ne.symm ((S₆.foot q hq).2.2 (D₀, fun x => x = lstO vs n) (List.mem_append_right _ List.mem_cons_self))⟩
            · exact .inl ⟨List.mem_append_right _ (List.mem_cons_of_mem _ hp), fun hm => offK p hp (by simpa using hm)⟩
      have hLD : cenv.locals ≠ D₀ := fun e => F₆.off.2.1 (D₀, fun x => x = lstO vs n) (List.mem_append_right _ List.mem_cons_self) e.symm
      have F₇ : Frm b₆ (ownK ow h₆ ++ (D₀, fun x₁ => x₁ = lstO (vs ++ [x]) n') :: kp) fs₆ cenv Γa h₇ := by
        refine F₆.reOwn.move (fun o e => hsb.extBut _ o hLD e) fun p hp => ?_
        rcases List.mem_append.mp hp with hp | hp
        · exact F₆.reOwn.off.2.1 p (List.mem_append_left _ hp)
        · rcases List.mem_cons.mp hp with rfl | hp
          · exact Ne.symm hLD
          · exact F₆.off.2.1 p (List.mem_append_right _ (List.mem_cons_of_mem _ hp))
      have W₇ : W (i + 1) h₇ := T.kt.frame _ _ _ (wkeep sb6 S₆) fun a ha o e => hsb.extBut a o (fun z => by
        subst z
        rcases T.fp _ ha with ha | ⟨o', e'⟩ | ⟨o', e'⟩
        · exact offD ha
        · have := sb6 _ _ (sbi _ _ e'); rw [bD] at this; cases this
        · exact offK _ e' rfl) e
      refine ⟨items.length - (i + 1), by omega, i + 1, _, _, b₆, fs₆, h₇, tk₆, zs ++ [_], vs ++ [x], n', _, rfl, hlt, rfl, hl, by rw [← hys, List.append_assoc]; rfl, by simp; omega, ((rv.mono sb6)).snoc r₆, W₇, sbi.trans sb6, ?_, ?_, S₇.reOwn, F₇.reOwn⟩
      · exact (kfi.trans (kf₂.le hni)).trans ((kf₅.le (by omega)).trans (kf₆.le (Nat.le_trans (by omega) kf₅.len)))
      · have := kf₅.len; have := kf₆.len; omega
    | skip ha hif hl =>
      refine ha A _ bi _ fsi v _ _ hR.handled S₃ F₃ iok fun fs₂ h₄ tk₄ kf₂ hl₂ S₄ F₄ => ?_
      refine ifs_to hif hR₃ S₄ F₄ fun b₅ fs₅ h₅ tk₅ sb₅ kf₅ S₅ F₅ => ?_
      simp only [Bool.false_eq_true, if_false]
      refine ⟨items.length - (i + 1), by omega, i + 1, _, _, b₅, fs₅, h₅, tk₅, zs, vs, n, _, rfl, hlt, rfl, hl, hys, by omega, rv.mono sb₅, wkeep sb₅ S₅, sbi.trans sb₅, (kfi.trans (kf₂.le hni)).trans (kf₅.le (by omega)), ?_, S₅.reOwn, F₅.reOwn⟩
      have := kf₅.len; omega
  · have hie : i = items.length := by omega
    subst hie
    rw [List.drop_length] at Li
    cases Li
    rw [List.append_nil] at hys
    subst hys
    refine T.kt.done _ _ _ hW fun h₂ tk₂ hk₂ => ?_
    have S₂ := Si.move (h' := h₂) (kp' := (D₀, fun x => x = lstO vs n) :: kp) (fun a o ha e => hk₂ a o ha e) (fun a ha => (Si.kept _ (List.mem_append_left _ (ownK_mem (T.wr a ha)))).2) (fun p hp hm => (Si.foot p hp).2.2 _ (List.mem_append_left _ (ownK_mem (T.wr _ hm))) rfl)
      fun p hp => .inl ⟨List.mem_append_right _ hp, fun hm => offO p hp (T.wr _ hm)⟩
    obtain ⟨mm, hn, _⟩ := Fi.ns
    refine q bi fsi h₂ tk₂ vs n sbi kfi S₂ rv ⟨mm, hn.at' fun o e => hk₂ _ o (fun hm => Fi.off.2.1 _ (List.mem_append_left _ (ownK_mem (T.wr _ hm))) rfl) e⟩ Fi.off.1 Fi.off.2.2
end

end
/-! M14 -/
section
section
variable {K : Frag} {w : World} {n k : Nat} {env cenv : Env} {Γ Γ₁ Γ₂ Γ' Γc : Gam} {C C' C₁ C₂ C₃ : List Cell} {b b' : PM} {kp kp' : Kp} {fs fs' : List Foot} {h h' : Heap}

theorem TurnsOn.kpMono {A : Around} {target : Expr} {I : Addr} {items : List Item} {ow fp wr : List Addr} {P Md : Nat → Value → Heap → Prop} {W : Nat → Heap → Prop} (T : TurnsOn w A target I items b kp ow fp wr P Md W) (sb : Sub b b') (hk : ∀ p ∈ kp, p ∈ kp') : TurnsOn w A target I items b' kp' ow fp wr P Md W :=
  ⟨T.kt, T.wr, fun a ha => by
    rcases T.fp a ha with h | ⟨o, h⟩ | ⟨o, h⟩
    · exact .inl h
    · exact .inr (.inl ⟨o, sb _ _ h⟩)
    · exact .inr (.inr ⟨o, hk _ h⟩), T.ex, fun i v h it hp hi b₂ sb₂ => T.item i v h it hp hi b₂ (sb.trans sb₂)⟩

/-- the boxes that a comprehension sees -/
noncomputable def SeesBox (scope : Scope) (cl : List (Str × Addr)) (env : Env) (fs : List Foot) (Γc : Gam) : Prop :=
  ∀ a x r, Γc.lookup x = some r → ∃ i c f, r = .box i ∧ ((compEnvC scope cl a env).kindOf x = some .cell ∨ (compEnvC scope cl a env).kindOf x = some .free) ∧ cl.lookup x = some c ∧ fs[i]? = some f ∧ headA f = some c

theorem comp_core {target elt iter : Expr} {ifs : List Expr} {scope : Scope} {cl : List (Str × Addr)} {pos : Pos} {A : Around} {I : Addr} {items : List Item} {ow fp wr : List Addr} {P Md : Nat → Value → Heap → Prop} {W : Nat → Heap → Prop} {ys : List D} {use : Option (Value → Sem Unit)} {Q : Value → Shared → Prop} {E : Value → Shared → Prop} {s : Shared}
    (T : TurnsOn w A target I items b kp ow fp wr P Md W) (hR : Room k (okL kp env.locals) A) (S : St K b (ownK ow s.heap ++ kp) fs C s.heap) (F : Frm b (ownK ow s.heap ++ kp) fs env Γ s.heap)
    (h0 : W 0 s.heap) (hself : ∀ i (s : Shared) (Q : Value → Shared → Prop) (E : Value → Shared → Prop), W i s.heap → Q (.ref I) s → wpAny (model prg w) A (pyIter (.ref I)) Q E s)
    (off : ∀ q ∈ kp, q.1 ∉ ow) (hz : items.length ≤ sizeLine) (hcell : ∀ x ∈ scope.names, x.2 ≠ .cell) (hkind : scope.kind = .function)
    (hΓ : SeesBox scope cl env fs Γc) (L : ∀ a, CompTo K w k (compEnvC scope cl a env) target ifs elt items Γc C ys C')
    (q : ∀ b' fs' h' tk ca D, Sub b b' → Keep fs.length fs fs' → St K b' kp fs' C' h' → Frm b' kp fs' env Γ h' → Rep b' (.ref D) (.list ys) → (∃ m, h'.Ns ca m) → b' ca = none → (∀ p ∈ fs'.flatten, p.1 ≠ ca) → (∀ q ∈ kp, q.1 ≠ ca) → ca ≠ env.locals →
      compPost (model prg w) A E use Q (.ref D) ca (.ok .next) { s with heap := h', toks := tk }) :
    wpAny (model prg w) A (newList []) (fun acc s₃ => wpAny (model prg w) A (newFunctionEnv scope env.globals cl [] env.qual none .none (some env)) (fun cenv s₄ =>
      codeAny (model prg w) A (.compStart (.ListComp elt [⟨target, iter, ifs, 0⟩] scope pos) 0 (.ref I) acc { cenv with scope := relabel scope env }) (compPost (model prg w) A E use Q acc cenv.locals) s₄) E s₃) E s := by
  obtain ⟨Pf, hPf, S₁, back⟩ := S.noOwn.withFrame F.noOwn
  have fL := (S₁.kept _ List.mem_cons_self)
  have offL : env.locals ∉ ow := fun hm => F.off.2.1 _ (List.mem_append_left _ (ownK_mem hm)) rfl
  have lt : ∀ {a : Addr} {o : Obj}, s.heap.get? a = some o → a < s.heap.objs.size := fun e => Heap.lt_size e
  have ltL : env.locals < s.heap.objs.size := by obtain ⟨⟨o, e, _⟩, _⟩ := fL; exact lt e
  have ltO : ∀ a ∈ ow, a < s.heap.objs.size := fun a ha => by obtain ⟨⟨o, e, _⟩, _⟩ := S.kept _ (List.mem_append_left _ (ownK_mem ha)); exact lt e
  have ltK : ∀ q ∈ kp, q.1 < s.heap.objs.size := fun q hq => by obtain ⟨⟨o, e, _⟩, _⟩ := S.kept _ (List.mem_append_right _ hq); exact lt e
  have ltF : ∀ q ∈ fs.flatten, q.1 < s.heap.objs.size := fun q hq => lt (S.foot q hq).1
  have ltB : ∀ a o, b a = some o → a < s.heap.objs.size := fun a o e => lt (S.base a o e)
  refine wpAny_newObj_type (wpAny_newFunctionEnv hcell (by intro y hy; simp at hy) (fun h₁ hns₁ hsb₁ => ?_) hkind)
  dsimp only at hns₁ hsb₁ ⊢
  generalize hH2 : s.heap.push { cls := .type "list", dict := none, data := .seq ([] : List Value).toArray } = H2 at hns₁ hsb₁ ⊢
  have hC : H2.objs.size = s.heap.objs.size + 1 := by rw [← hH2, Heap.size_push]
  have old : ∀ a o, s.heap.get? a = some o → h₁.get? a = some o := fun a o e => hsb₁.extBut a o (by rw [hC]; exact Nat.ne_of_lt (Nat.lt_succ_of_lt (lt e))) (Heap.get?_push_of_some _ (hH2 ▸ Heap.get?_push_of_some _ e))
  have hacc : h₁.get? s.heap.objs.size = some (lstO [] 0) := hsb₁.extBut _ _ (by rw [hC]; exact Nat.ne_of_lt (Nat.lt_succ_self _)) (Heap.get?_push_of_some _ (hH2 ▸ Heap.get?_push_size _ rfl))
  have bD : b s.heap.objs.size = none := by
    cases e : b s.heap.objs.size with
    | none => rfl
    | some o => exact absurd (ltB _ _ e) (Nat.lt_irrefl _)
  have bC : b H2.objs.size = none := by
    cases e : b H2.objs.size with
    | none => rfl
    | some o => have := ltB _ _ e; rw [hC] at this; exact absurd this (Nat.not_lt.mpr (Nat.le_succ _))
  let kc : Kp := (env.locals, Pf) :: kp
  have T' : TurnsOn w A target I items b kc ow fp wr P Md W := T.kpMono Sub.refl fun p hp => List.mem_cons_of_mem _ hp
  have S₂ : St K b (ownK ow h₁ ++ (s.heap.objs.size, fun x => x = lstO [] 0) :: kc) fs C h₁ := by
    refine St.reOwn (h := s.heap) (S.move (wr := []) (fun a o _ e => old a o e) (by simp) (by simp) fun p hp => ?_)
    rcases List.mem_append.mp hp with hp | hp
    · exact .inl ⟨List.mem_append_left _ hp, by simp⟩
    · rcases List.mem_cons.mp hp with rfl | hp
      · exact .inr ⟨⟨_, hacc, rfl⟩, bD, fun q hq => Nat.ne_of_lt (ltF q hq)⟩
      · rcases List.mem_cons.mp hp with rfl | hp
        · obtain ⟨⟨o, e, z⟩, z2⟩ := fL
          exact .inr ⟨⟨o, old _ _ e, z⟩, z2, F.off.2.2⟩
        · exact .inl ⟨List.mem_append_right _ hp, by simp⟩
  have caL : ∀ a : Addr, a < s.heap.objs.size → a ≠ H2.objs.size := fun a ha => by rw [hC]; exact Nat.ne_of_lt (Nat.lt_succ_of_lt ha)
  have F₂ : Frm b (ownK ow h₁ ++ (s.heap.objs.size, fun x => x = lstO [] 0) :: kc) fs (compEnvC scope cl H2.objs.size env) Γc h₁ := by
    refine ⟨by show (relabel scope env).kind = _; exact hkind, F.gl, F.bu, ⟨bC, fun q hq => ?_, fun p hp => caL _ (ltF p hp)⟩, _, hns₁, fun x r hx => ?_⟩
    · show q.1 ≠ H2.objs.size
      rcases List.mem_append.mp hq with hq | hq
      · exact caL _ (ltO _ (mem_ownK hq).1)
      · rcases List.mem_cons.mp hq with rfl | hq
        · show s.heap.objs.size ≠ _; rw [hC]; exact Nat.ne_of_lt (Nat.lt_succ_self _)
        · rcases List.mem_cons.mp hq with rfl | hq
          · exact caL _ ltL
          · exact caL _ (ltK q hq)
    · obtain ⟨i, c, f, rfl, hk, hc, hf, hh⟩ := hΓ H2.objs.size x r hx
      exact ⟨hk, c, f, hc, hf, hh⟩
  have hR₂ : Room k (okL kc (compEnvC scope cl H2.objs.size env).locals) A := hR.weak fun a ha => by
    rcases ha with rfl | ⟨P, hp, hq⟩
    · exact .inr ⟨Pf, List.mem_cons_self, hPf⟩
    · exact .inr ⟨P, List.mem_cons_of_mem _ hp, hq⟩
  have W₁ : W 0 h₁ := T.kt.frame _ _ _ h0 fun a _ o e => old a o e
  have loop : ∀ s₃ : Shared, s₃ = { s with heap := h₁, toks := s.toks + ([] : List (Str × Value)).length } →
      codeAny (model prg w) A (.compLoop (.ListComp elt [⟨target, iter, ifs, 0⟩] scope pos) 0 (.ref I) (.ref s.heap.objs.size) (compEnvC scope cl H2.objs.size env)) (compPost (model prg w) A E use Q (.ref s.heap.objs.size) H2.objs.size) s₃ := by
    rintro s₃ rfl
    refine comp_loop T' (L H2.objs.size) hR₂ S₂ F₂ W₁ (fun q hq => ?_) (fun hm => Nat.lt_irrefl _ (ltO _ hm)) (fun q hq => ?_) hz fun b' fs' h' tk vs m sb kf S₃ rv hns bca fca => ?_
    · rcases List.mem_cons.mp hq with rfl | hq
      · exact offL
      · exact off q hq
    · rcases List.mem_cons.mp hq with rfl | hq
      · exact Nat.ne_of_lt ltL
      · exact Nat.ne_of_lt (ltK q hq)
    · obtain ⟨S₄, sb₄⟩ := S₃.adopt fun q hq => by
        rcases List.mem_cons.mp hq with rfl | hq
        · exact Nat.ne_of_lt ltL
        · exact Nat.ne_of_lt (ltK q hq)
      have F₄ := back _ _ _ _ (sb.trans sb₄) kf S₄
      have S₅ : St K (b'.put s.heap.objs.size (lstO vs m)) kp fs' C' h' := S₄.noOwn (own := [(env.locals, Pf)])
      refine q _ fs' h' tk H2.objs.size s.heap.objs.size (sb.trans sb₄) kf S₅ F₄ (.list PM.put_self (rv.mono sb₄)) hns ?_ fca (fun q hq => caL _ (ltK q hq)) (Ne.symm (caL _ ltL))
      rw [PM.put_ne (by rw [hC]; exact Nat.ne_of_gt (Nat.lt_succ_self _))]; exact bca
  exact codeAny_compStart_list (loop _ rfl) (hself 0 _ _ _ W₁ (loop _ rfl))

theorem ev_comp_raw {target elt iter : Expr} {ifs : List Expr} {scope : Scope} {pos : Pos} {items : List Item} {ys : List D} (hs : SrcTo K w k env Γ C iter target items C₁) (hz : items.length ≤ sizeLine)
    (hclos : ∀ b kp fs h, Frm b kp fs env Γ h → ∃ cl, closureFor scope env = pure cl ∧ SeesBox scope cl env fs Γc ∧ ∀ a, CompTo K w k (compEnvC scope cl a env) target ifs elt items Γc C₁ ys C')
    (hcell : ∀ x ∈ scope.names, x.2 ≠ .cell) (hkind : scope.kind = .function) (hnames : ∀ y ∈ scope.names, y.2 = .local → scope.names.lookup y.1 = some .local)
    (hf : ∀ x, foldedSetIterable iter env x = pure x := by intro _; rfl) :
    EvalTo K w k env Γ C (.ListComp elt [⟨target, iter, ifs, 0⟩] scope pos) (.d (.list ys)) C' := by
  intro A s b kp fs Q E hR S F q
  obtain ⟨cl₀, hc₀, _, _⟩ := hclos _ _ _ _ F
  rw [eval_ListComp]
  refine wpAny_comprehension_free (use := none) rfl hf hc₀ hkind hnames (hs A s b kp fs _ E hR S F fun b₁ fs₁ h₁ tk₁ I ow fp wr P Md W sb₁ kf₁ S₁ F₁ off T h0 hself => ?_)
  obtain ⟨cl, hc, hsee, L⟩ := hclos _ _ _ _ F₁
  obtain rfl : cl₀ = cl := by rw [hc₀] at hc; injection hc
  refine comp_core (s := { s with heap := h₁, toks := tk₁ }) T hR S₁ F₁ h0 hself off hz hcell hkind hsee L fun b₂ fs₂ h₂ tk₂ ca D sb₂ kf₂ S₂ F₂ r₂ hns bca fca kca nca => ?_
  obtain ⟨m, hns⟩ := hns
  refine ⟨m, hns, fun h₃ hsb => ?_⟩
  have S₃ : St K b₂ kp fs₂ C' h₃ := S₂.move (wr := [ca]) (fun a o ha e => hsb.extBut a o (by simpa using ha) e) (fun a ha => by simp at ha; subst ha; exact bca) (fun p hp hm => fca p hp (by simpa using hm)) fun p hp => .inl ⟨hp, fun hm => kca p hp (by simpa using hm)⟩
  have F₃ : Frm b₂ kp fs₂ env Γ h₃ := F₂.move (fun o e => hsb.extBut _ o (Ne.symm nca) e) F₂.off.2.1
  exact q b₂ fs₂ h₃ tk₂ _ (sb₁.trans sb₂) (kf₁.then kf₂) S₃ F₃ r₂
end

end
/-! M15 -/
section
section
variable {K : Frag} {w : World} {n k : Nat} {env cenv : Env} {Γ Γ₁ Γ₂ Γ' Γc : Gam} {C C' C₁ C₂ C₃ : List Cell} {b b' : PM} {kp kp' : Kp} {fs fs' : List Foot} {h h' : Heap}

theorem Frm.ofMove {wr : Addr} (F : Frm b kp fs env Γ h) (hsb : Heap.SameBut wr h h') (hne : wr ≠ env.locals) : Frm b kp fs env Γ h' := F.move (fun o e => hsb.extBut _ o (Ne.symm hne) e) F.off.2.1
theorem St.ofMove {ca : Addr} (S : St K b kp fs C h) (hsb : Heap.SameBut ca h h') (bca : b ca = none) (fca : ∀ p ∈ fs.flatten, p.1 ≠ ca) (kca : ∀ q ∈ kp, q.1 ≠ ca) : St K b kp fs C h' :=
  S.move (wr := [ca]) (fun a o ha e => hsb.extBut a o (by simpa using ha) e) (fun a ha => by simp at ha; subst ha; exact bca) (fun p hp hm => fca p hp (by simpa using hm)) fun p hp => .inl ⟨hp, fun hm => kca p hp (by simpa using hm)⟩

/-- x = [comprehension] -/
theorem ex_comp_raw {y : Str} {py spos : Pos} {target elt iter : Expr} {ifs : List Expr} {scope : Scope} {pos : Pos} {items : List Item} {ys : List D} (hs : SrcTo K w k env Γ C iter target items C₁) (hz : items.length ≤ sizeLine)
    (hclos : ∀ b kp fs h, Frm b kp fs env Γ h → ∃ cl, closureFor scope env = pure cl ∧ SeesBox scope cl env fs Γc ∧ ∀ a, CompTo K w k (compEnvC scope cl a env) target ifs elt items Γc C₁ ys C')
    (hcell : ∀ x ∈ scope.names, x.2 ≠ .cell) (hkind : scope.kind = .function) (hnames : ∀ y ∈ scope.names, y.2 = .local → scope.names.lookup y.1 = some .local)
    (hy : env.kindOf y = some .local) (hsw : swapsWith (.ListComp elt [⟨target, iter, ifs, 0⟩] scope pos) (some (.Name y py)) spos.line env = pure true)
    (hf : ∀ x, foldedSetIterable iter env x = pure x := by intro _; rfl) :
    ExecT K w n k env Γ C (exec (.Assign [.Name y py] (.ListComp elt [⟨target, iter, ifs, 0⟩] scope pos) spos) env) (.nxt ((y, .loc (.d (.list ys))) :: Γ)) C' := by
  intro A s b kp fs Q E hR S F hn q
  obtain ⟨cl₀, hc₀, _, _⟩ := hclos _ _ _ _ F
  rw [exec_Assign_Name_used _ _ _ _ hsw]
  refine wpAny_bind (wpAny_standAt (wpAny_bind ?_))
  show wpAny _ A (do let _ ← comprehension (.ListComp elt [⟨target, iter, ifs, 0⟩] scope pos) scope env _ (newList []) false (eval iter env) (some (assign (.Name y py) env))) _ _ s
  refine wpAny_bind (wpAny_mono (wpAny_comprehension_free (use := some (assign (.Name y py) env)) (Q := fun _ s' => Q .next s') rfl hf hc₀ hkind hnames
    (hs A s b kp fs _ E hR S F fun b₁ fs₁ h₁ tk₁ I ow fp wr P Md W sb₁ kf₁ S₁ F₁ off T h0 hself => ?_)) (fun _ s' hq => wpAny_pure (wpAny_pure hq)) fun _ _ e => e)
  obtain ⟨cl, hc, hsee, L⟩ := hclos _ _ _ _ F₁
  obtain rfl : cl₀ = cl := by rw [hc₀] at hc; injection hc
  refine comp_core (s := { s with heap := h₁, toks := tk₁ }) T hR S₁ F₁ h0 hself off hz hcell hkind hsee L fun b₂ fs₂ h₂ tk₂ ca D sb₂ kf₂ S₂ F₂ r₂ hns bca fca kca nca => ?_
  obtain ⟨m, hns⟩ := hns
  obtain ⟨m₂, hn₂, hv₂⟩ := F₂.ns
  show wpAny _ A (assign (.Name y py) env (.ref D)) _ _ _
  refine wpAny_assign_Name (wpAny_storeName_local hy hn₂ (fun h' hn' hs' => ?_) (by rw [F₂.fn]; rfl))
  have S₃ := S₂.local F₂.off hs'
  have F₃ := F₂.store (r := .d (.list ys)) hy r₂ ⟨m₂, hn₂, hv₂, hn'⟩
  refine ⟨m, hns.sameBut hs' nca, fun h₃ hsb => ?_⟩
  exact q b₂ fs₂ h₃ _ .next (sb₁.trans sb₂) ((kf₁.then kf₂).le hn) (Nat.le_trans hn (kf₁.then kf₂).len) (S₃.ofMove hsb bca fca kca) ⟨rfl, F₃.ofMove hsb nca⟩

/-! a comprehension over a list that is still turned -/
theorem CellOk.refs {c : Cell} {f : Foot} (h : CellOk b fs c f) (hr : ∀ j g, j ∈ c.refs → fs[j]? = some g → ∃ g', fs'[j]? = some g' ∧ headA g' = headA g) : CellOk b fs' c f := by
  cases c with
  | lst ds => exact h
  | inst j =>
    cases j with
    | none => exact h
    | some j =>
      obtain ⟨x, dx, l, hh, t, k, g, e, eg, hg⟩ := h
      obtain ⟨g', e', z⟩ := hr j g (by simp [Cell.refs]) eg
      exact ⟨x, dx, l, hh, t, k, g', e, e', z.trans hg⟩
  | itr ds => exact h
  | box r =>
    cases r with
    | none => exact h
    | some r =>
      obtain ⟨c, o, v, e, h1, r'⟩ := h
      refine ⟨c, o, v, e, h1, ?_⟩
      cases r with
      | d x => exact r'
      | c j =>
        obtain ⟨g, a, eg, hg, hv⟩ := r'
        obtain ⟨g', e', z⟩ := hr j g (by simp [Cell.refs]) eg
        exact ⟨g', a, e', z.trans hg, hv⟩
  | gone => exact h

theorem set_ne {i j : Nat} {f g : Foot} (hj : fs[j]? = some g) (hne : j ≠ i) : ∃ g', (fs.set i f)[j]? = some g' ∧ headA g' = headA g := ⟨g, by rw [List.getElem?_set_ne (Ne.symm hne)]; exact hj, rfl⟩

/-- a list is locked: it stands beside, unchanged -/
theorem St.lock (S : St K b kp fs C h) {i : Nat} {l : Addr} {o : Obj} (hf : fs[i]? = some [(l, o)]) (hi : i < C.length) (hno : ∀ j c, j ≠ i → C[j]? = some c → i ∉ c.refs) :
    St K b ((l, fun x => x = o) :: kp) (fs.set i []) (C.set i .gone) h := by
  obtain ⟨l1, r1, e1, e2⟩ := flatten_set fs i [(l, o)] [] hf
  have nd := S.nodup
  rw [e1, List.map_append, List.map_append] at nd
  have hin : (l, o) ∈ fs.flatten := by rw [e1]; simp
  obtain ⟨a1, a2, a3⟩ := S.foot (l, o) hin
  have sub : ∀ p ∈ (fs.set i []).flatten, p ∈ fs.flatten ∧ l ≠ p.1 := fun p hp => by
    rw [e2] at hp
    simp only [List.append_nil, List.mem_append] at hp
    refine ⟨by rw [e1]; rcases hp with hp | hp <;> simp [hp], fun z => ?_⟩
    rcases hp with hp | hp
    · exact (List.nodup_append.mp (List.nodup_append.mp nd).1).2.2 p.1 (List.mem_map.mpr ⟨p, hp, rfl⟩) l (by simp) z.symm
    · exact (List.nodup_append.mp nd).2.2 l (by simp) p.1 (List.mem_map.mpr ⟨p, hp, rfl⟩) z
  refine ⟨S.base, S.top, fun p hp => ?_, fun p hp => ?_, ?_, by simp [S.cells.1], fun j c g hc hg => ?_⟩
  · rcases List.mem_cons.mp hp with rfl | hp
    · exact ⟨⟨o, a1, rfl⟩, a2⟩
    · exact S.kept p hp
  · obtain ⟨h1, h2⟩ := sub p hp
    obtain ⟨b1, b2, b3⟩ := S.foot p h1
    refine ⟨b1, b2, fun q hq => ?_⟩
    rcases List.mem_cons.mp hq with rfl | hq
    · exact h2
    · exact b3 q hq
  · rw [e2]
    simp only [List.append_nil, List.map_append]
    refine List.nodup_append.mpr ⟨(List.nodup_append.mp (List.nodup_append.mp nd).1).1, (List.nodup_append.mp nd).2.1, fun x hx y hy => (List.nodup_append.mp nd).2.2 x (List.mem_append_left _ hx) y hy⟩
  · by_cases q : i = j
    · subst q
      rw [List.getElem?_set_self hi] at hc
      rw [List.getElem?_set_self (List.getElem?_eq_some_iff.mp hf).1] at hg
      cases hc; cases hg; rfl
    · rw [List.getElem?_set_ne q] at hc hg
      exact (S.cells.2 j c g hc hg).refs fun j' g' hj' hg' => set_ne hg' fun z => hno j c (Ne.symm q) hc (z ▸ hj')
theorem St.unlock {i : Nat} {l : Addr} {vs : List Value} {m : Nat} {ds : List D} (S : St K b ((l, fun x => x = lstO vs m) :: kp) fs (C.set i .gone) h) (hf : fs[i]? = some []) (hi : C[i]? = some (.lst ds)) (hno : ∀ j c, j ≠ i → C[j]? = some c → i ∉ c.refs)
    (off : ∀ q ∈ kp, q.1 ≠ l) (r : RepL b vs ds) : St K b kp (fs.set i [(l, lstO vs m)]) C h := by
  obtain ⟨l1, r1, e1, e2⟩ := flatten_set fs i [] [(l, lstO vs m)] hf
  have e1 : fs.flatten = l1 ++ r1 := by rw [e1]; simp
  obtain ⟨⟨o', a1, a2⟩, a3⟩ := S.kept _ List.mem_cons_self
  have a2 : o' = lstO vs m := a2
  subst a2
  have hil : i < C.length := (List.getElem?_eq_some_iff.mp hi).1
  have hfl : i < fs.length := (List.getElem?_eq_some_iff.mp hf).1
  have nl : ∀ p ∈ fs.flatten, p.1 ≠ l := fun p hp => Ne.symm ((S.foot p hp).2.2 _ List.mem_cons_self)
  refine ⟨S.base, S.top, fun p hp => S.kept p (List.mem_cons_of_mem _ hp), fun p hp => ?_, ?_, by have := S.cells.1; simpa using this, fun j c g hc hg => ?_⟩
  · rw [e2] at hp
    rcases List.mem_append.mp hp with hp | hp
    · rcases List.mem_append.mp hp with hp | hp
      · obtain ⟨b1, b2, b3⟩ := S.foot p (by rw [e1]; exact List.mem_append_left _ hp)
        exact ⟨b1, b2, fun q hq => b3 q (List.mem_cons_of_mem _ hq)⟩
      · simp at hp; subst hp
        exact ⟨a1, a3, off⟩
    · obtain ⟨b1, b2, b3⟩ := S.foot p (by rw [e1]; exact List.mem_append_right _ hp)
      exact ⟨b1, b2, fun q hq => b3 q (List.mem_cons_of_mem _ hq)⟩
  · have nd := S.nodup
    rw [e1, List.map_append] at nd
    rw [e2, List.map_append, List.map_append]
    refine List.nodup_append.mpr ⟨List.nodup_append.mpr ⟨(List.nodup_append.mp nd).1, by simp, fun x hx y hy => ?_⟩, (List.nodup_append.mp nd).2.1, fun x hx y hy => ?_⟩
    · simp at hy; subst hy
      obtain ⟨p, hp, rfl⟩ := List.mem_map.mp hx
      exact nl p (by rw [e1]; exact List.mem_append_left _ hp)
    · rcases List.mem_append.mp hx with hx | hx
      · exact (List.nodup_append.mp nd).2.2 x hx y hy
      · simp at hx; subst hx
        obtain ⟨p, hp, rfl⟩ := List.mem_map.mp hy
        exact Ne.symm (nl p (by rw [e1]; exact List.mem_append_right _ hp))
  · by_cases q : i = j
    · subst q
      rw [List.getElem?_set_self hfl] at hg
      rw [hi] at hc
      cases hc; cases hg
      exact ⟨l, vs, m, rfl, r⟩
    · rw [List.getElem?_set_ne q] at hg
      have hc' : (C.set i .gone)[j]? = some c := by rw [List.getElem?_set_ne q]; exact hc
      exact (S.cells.2 j c g hc' hg).refs fun j' g' hj' hg' => set_ne hg' fun z => hno j c (Ne.symm q) hc (z ▸ hj')

noncomputable def lockVB (i : Nat) (l : Addr) : VB → VB
  | .loc (.c j) => if j = i then .loc (.d (.v (.ref l))) else .loc (.c j)
  | r => r
noncomputable def lockG (i : Nat) (l : Addr) (Γ : Gam) : Gam := Γ.map fun p => (p.1, lockVB i l p.2)
theorem lock_lookup (f : VB → VB) (x : Str) : ∀ Γ : Gam, (Γ.map fun p => (p.1, f p.2)).lookup x = (Γ.lookup x).map f
  | [] => rfl
  | (y, r) :: Γ => by
    simp only [List.map_cons, List.lookup_cons]
    cases x == y
    · exact lock_lookup f x Γ
    · rfl
theorem Frm.lock {i : Nat} {l : Addr} {o : Obj} (F : Frm b kp fs env Γ h) (hf : fs[i]? = some [(l, o)]) (hb : ∀ x, Γ.lookup x ≠ some (.box i)) : Frm b ((l, fun x => x = o) :: kp) (fs.set i []) env (lockG i l Γ) h := by
  obtain ⟨l1, r1, e1, e2⟩ := flatten_set fs i [(l, o)] [] hf
  obtain ⟨m, hn, hv⟩ := F.ns
  refine ⟨F.fn, F.gl, F.bu, ⟨F.off.1, fun q hq => ?_, fun p hp => ?_⟩, m, hn, fun x r hx => ?_⟩
  · rcases List.mem_cons.mp hq with rfl | hq
    · exact F.off.2.2 (l, o) (by rw [e1]; simp)
    · exact F.off.2.1 q hq
  · rw [e2] at hp
    simp only [List.append_nil, List.mem_append] at hp
    exact F.off.2.2 p (by rw [e1]; rcases hp with hp | hp <;> simp [hp])
  · rw [lockG, lock_lookup] at hx
    obtain ⟨r₀, hr, rfl⟩ := Option.map_eq_some_iff.mp hx
    have := hv x r₀ hr
    cases r₀ with
    | loc r =>
      obtain ⟨hk, v, e, q⟩ := this
      cases r with
      | d x => exact ⟨hk, v, e, q⟩
      | c j =>
        obtain ⟨f, a, ef, ha, rfl⟩ := q
        by_cases z : j = i
        · subst z
          rw [hf] at ef; cases ef
          obtain rfl : l = a := by simpa [headA] using ha
          show VarOk _ _ _ _ _ (if j = j then _ else _)
          rw [if_pos rfl]
          exact ⟨hk, _, e, .v⟩
        · show VarOk _ _ _ _ _ (if j = i then _ else _)
          rw [if_neg z]
          exact ⟨hk, _, e, f, a, by rw [List.getElem?_set_ne (Ne.symm z)]; exact ef, ha, rfl⟩
    | box j =>
      obtain ⟨hk, c, f, e, ef, hc⟩ := this
      have z : i ≠ j := fun z => hb x (z ▸ hr)
      exact ⟨hk, c, f, e, by rw [List.getElem?_set_ne z]; exact ef, hc⟩
theorem Frm.unlock {i : Nat} {l : Addr} {o : Obj} (F : Frm b ((l, fun x => x = o) :: kp) fs env (lockG i l Γ) h) (hf : fs[i]? = some []) (hb : ∀ x, Γ.lookup x ≠ some (.box i)) : Frm b kp (fs.set i [(l, o)]) env Γ h := by
  obtain ⟨l1, r1, e1, e2⟩ := flatten_set fs i [] [(l, o)] hf
  obtain ⟨m, hn, hv⟩ := F.ns
  have hfl : i < fs.length := (List.getElem?_eq_some_iff.mp hf).1
  refine ⟨F.fn, F.gl, F.bu, ⟨F.off.1, fun q hq => F.off.2.1 q (List.mem_cons_of_mem _ hq), fun p hp => ?_⟩, m, hn, fun x r hx => ?_⟩
  · rw [e2] at hp
    rcases List.mem_append.mp hp with hp | hp
    · rcases List.mem_append.mp hp with hp | hp
      · exact F.off.2.2 p (by rw [e1]; simp [hp])
      · simp at hp; subst hp; exact F.off.2.1 _ List.mem_cons_self
    · exact F.off.2.2 p (by rw [e1]; simp [hp])
  · have := hv x (lockVB i l r) (by rw [lockG, lock_lookup, hx]; rfl)
    cases r with
    | loc r =>
      cases r with
      | d x => exact this
      | c j =>
        by_cases z : j = i
        · subst z
          have this : VarOk b fs env m x (if j = j then .loc (.d (.v (.ref l))) else .loc (.c j)) := this
          rw [if_pos rfl] at this
          obtain ⟨hk, v, e, q⟩ := this
          cases q
          exact ⟨hk, _, e, _, l, List.getElem?_set_self hfl, rfl, rfl⟩
        · have this : VarOk b fs env m x (if j = i then .loc (.d (.v (.ref l))) else .loc (.c j)) := this
          rw [if_neg z] at this
          obtain ⟨hk, v, e, f, a, ef, ha, rfl⟩ := this
          exact ⟨hk, _, e, f, a, by rw [List.getElem?_set_ne (Ne.symm z)]; exact ef, ha, rfl⟩
    | box j =>
      obtain ⟨hk, c, f, e, ef, hc⟩ := this
      have z : i ≠ j := fun z => hb x (z ▸ hx)
      exact ⟨hk, c, f, e, by rw [List.getElem?_set_ne z]; exact ef, hc⟩
end

end
/-! M16 -/
section
section
variable {K : Frag} {w : World} {n k : Nat} {env cenv : Env} {Γ Γ₁ Γ₂ Γ' Γc : Gam} {C C' C₁ C₂ C₃ : List Cell} {b b' : PM} {kp kp' : Kp} {fs fs' : List Foot} {h h' : Heap}

/-- a source over a list that is still turned: cell i -/
noncomputable def SrcC (K : Frag) (w : World) (k : Nat) (env : Env) (Γ : Gam) (C : List Cell) (iter target : Expr) (items : List Item) (i : Nat) (ds : List D) : Prop :=
  ∀ (A : Around) (s : Shared) (b : PM) (kp : Kp) (fs : List Foot) (Q : Value → Shared → Prop) (E : Value → Shared → Prop),
    Room k (okL kp env.locals) A → St K b kp fs C s.heap → Frm b kp fs env Γ s.heap →
    (∀ b' fs' h' tk I ow fp wr P Md W l vs m, Sub b b' → Keep fs.length fs fs' → St K b' (ownK ow h' ++ kp) fs' C h' → Frm b' (ownK ow h' ++ kp) fs' env Γ h' → (∀ q ∈ kp, q.1 ∉ ow) → fs'[i]? = some [(l, lstO vs m)] → RepL b' vs ds → l ∉ ow → TurnsOn w A target I items b' ((l, fun x => x = lstO vs m) :: kp) ow fp wr P Md W → W 0 h' →
      (∀ i (s : Shared) (Q : Value → Shared → Prop) (E : Value → Shared → Prop), W i s.heap → Q (.ref I) s → wpAny (model prg w) A (pyIter (.ref I)) Q E s) → Q (.ref I) { s with heap := h', toks := tk }) →
    wpAny (model prg w) A (eval iter env) (fun x s₁ => wpAny (model prg w) A (pyIter x) Q E s₁) E s

theorem ex_comp_lock {y : Str} {py spos : Pos} {target elt iter : Expr} {ifs : List Expr} {scope : Scope} {pos : Pos} {items : List Item} {ys : List D} {i : Nat} {ds : List D} (hs : SrcC K w k env Γ C iter target items i ds) (hz : items.length ≤ sizeLine)
    (hi : C[i]? = some (.lst ds)) (hno : ∀ j c, j ≠ i → C[j]? = some c → i ∉ c.refs) (hb : ∀ x, Γ.lookup x ≠ some (.box i))
    (hclos : closureFor scope env = pure []) (L : ∀ a, CompTo K w k (compEnvC scope [] a env) target ifs elt items [] (C.set i .gone) ys (C.set i .gone))
    (hcell : ∀ x ∈ scope.names, x.2 ≠ .cell) (hkind : scope.kind = .function) (hnames : ∀ y ∈ scope.names, y.2 = .local → scope.names.lookup y.1 = some .local)
    (hy : env.kindOf y = some .local) (hsw : swapsWith (.ListComp elt [⟨target, iter, ifs, 0⟩] scope pos) (some (.Name y py)) spos.line env = pure true)
    (hf : ∀ x, foldedSetIterable iter env x = pure x := by intro _; rfl) :
    ExecT K w n k env Γ C (exec (.Assign [.Name y py] (.ListComp elt [⟨target, iter, ifs, 0⟩] scope pos) spos) env) (.nxt ((y, .loc (.d (.list ys))) :: Γ)) C := by
  intro A s b kp fs Q E hR S F hn q
  rw [exec_Assign_Name_used _ _ _ _ hsw]
  refine wpAny_bind (wpAny_standAt (wpAny_bind ?_))
  show wpAny _ A (do let _ ← comprehension (.ListComp elt [⟨target, iter, ifs, 0⟩] scope pos) scope env _ (newList []) false (eval iter env) (some (assign (.Name y py) env))) _ _ s
  refine wpAny_bind (wpAny_mono (wpAny_comprehension_free (use := some (assign (.Name y py) env)) (Q := fun _ s' => Q .next s') rfl hf hclos hkind hnames
    (hs A s b kp fs _ E hR S F fun b₁ fs₁ h₁ tk₁ I ow fp wr P Md W l vs m sb₁ kf₁ S₁ F₁ off hfl rv hlo T h0 hself => ?_)) (fun _ s' hq => wpAny_pure (wpAny_pure hq)) fun _ _ e => e)
  have hiC : i < C.length := (List.getElem?_eq_some_iff.mp hi).1
  have hiF : i < fs₁.length := (List.getElem?_eq_some_iff.mp hfl).1
  have S₂ : St K b₁ (ownK ow h₁ ++ (l, fun x => x = lstO vs m) :: kp) (fs₁.set i []) (C.set i .gone) h₁ := by
    refine (S₁.lock hfl hiC hno).move (wr := []) (fun _ _ _ e => e) (by simp) (by simp) fun p hp => .inl ⟨?_, by simp⟩
    rcases List.mem_append.mp hp with hp | hp
    · exact List.mem_cons_of_mem _ (List.mem_append_left _ hp)
    · rcases List.mem_cons.mp hp with rfl | hp
      · exact List.mem_cons_self
      · exact List.mem_cons_of_mem _ (List.mem_append_right _ hp)
  have F₂ : Frm b₁ (ownK ow h₁ ++ (l, fun x => x = lstO vs m) :: kp) (fs₁.set i []) env (lockG i l Γ) h₁ := by
    refine (F₁.lock hfl hb).move (fun _ e => e) fun p hp => ?_
    rcases List.mem_append.mp hp with hp | hp
    · exact F₁.off.2.1 _ (List.mem_append_left _ hp)
    · rcases List.mem_cons.mp hp with rfl | hp
      · exact F₁.off.2.2 (l, lstO vs m) (List.mem_flatten.mpr ⟨_, List.mem_of_getElem? hfl, List.mem_cons_self⟩)
      · exact F₁.off.2.1 _ (List.mem_append_right _ hp)
  have hR₂ : Room k (okL ((l, fun x => x = lstO vs m) :: kp) env.locals) A := hR.weak fun a x => okL_own (own := [(l, fun x => x = lstO vs m)]) x
  have offl : ∀ q ∈ kp, q.1 ≠ l := fun q hq => (S₁.foot (l, lstO vs m) (List.mem_flatten.mpr ⟨_, List.mem_of_getElem? hfl, List.mem_cons_self⟩)).2.2 q (List.mem_append_right _ hq)
  refine comp_core (s := { s with heap := h₁, toks := tk₁ }) T hR₂ S₂ F₂ h0 hself (fun q hq => ?_) hz hcell hkind (Γc := []) (fun a x r hx => by simp at hx) L fun b₂ fs₂ h₂ tk₂ ca D sb₂ kf₂ S₃ F₃ r₂ hns bca fca kca nca => ?_
  · rcases List.mem_cons.mp hq with rfl | hq
    · exact hlo
    · exact off q hq
  · obtain ⟨m', hns⟩ := hns
    obtain ⟨f', ef', hf'⟩ := kf₂ i [] (by simpa using hiF) (List.getElem?_set_self hiF)
    have hf2 : fs₂[i]? = some [] := by
      rw [ef']
      cases f' with
      | nil => rfl
      | cons p f' => simp [headA] at hf'
    have S₄ := S₃.unlock hf2 hi hno offl (rv.mono sb₂)
    have F₄ := F₃.unlock hf2 hb
    have kf : Keep fs₁.length fs₁ (fs₂.set i [(l, lstO vs m)]) := fun j g hj hg => by
      by_cases z : i = j
      · subst z
        rw [hfl] at hg; cases hg
        exact ⟨_, List.getElem?_set_self (List.getElem?_eq_some_iff.mp hf2).1, rfl⟩
      · obtain ⟨g', e', hg'⟩ := kf₂ j g (by simpa using hj) (by rw [List.getElem?_set_ne z]; exact hg)
        exact ⟨g', by rw [List.getElem?_set_ne z]; exact e', hg'⟩
    obtain ⟨m₂, hn₂, hv₂⟩ := F₄.ns
    have fca' : ∀ p ∈ (fs₂.set i [(l, lstO vs m)]).flatten, p.1 ≠ ca := fun p hp => by
      obtain ⟨l1, r1, e1, e2⟩ := flatten_set fs₂ i [] [(l, lstO vs m)] hf2
      rw [e2] at hp
      rcases List.mem_append.mp hp with hp | hp
      · rcases List.mem_append.mp hp with hp | hp
        · exact fca p (by rw [e1]; simp [hp])
        · simp at hp; subst hp; exact kca _ List.mem_cons_self
      · exact fca p (by rw [e1]; simp [hp])
    show wpAny _ A (assign (.Name y py) env (.ref D)) _ _ _
    refine wpAny_assign_Name (wpAny_storeName_local hy hn₂ (fun h' hn' hs' => ?_) (by rw [F₄.fn]; rfl))
    have S₅ := S₄.local F₄.off hs'
    have F₅ := F₄.store (r := .d (.list ys)) hy r₂ ⟨m₂, hn₂, hv₂, hn'⟩
    refine ⟨m', hns.sameBut hs' nca, fun h₃ hsb => ?_⟩
    have kf' := kf₁.then kf
    exact q b₂ _ h₃ _ .next (sb₁.trans sb₂) (kf'.le hn) (Nat.le_trans hn kf'.len) (S₅.ofMove hsb bca fca' fun q hq => kca q (List.mem_cons_of_mem _ hq)) ⟨rfl, F₅.ofMove hsb nca⟩

/-! sources -/
/-- new objects of an iterator -/
theorem St.grow {ow : List Addr} (S : St K b kp fs C h) (hk : ∀ a o, h.get? a = some o → h'.get? a = some o) (hn : ∀ a ∈ ow, h.objs.size ≤ a) (ex : ∀ a ∈ ow, ∃ o, h'.get? a = some o) : St K b (ownK ow h' ++ kp) fs C h' ∧ ∀ q ∈ kp, q.1 ∉ ow := by
  refine ⟨S.move (wr := []) (fun a o _ e => hk a o e) (by simp) (by simp) fun p hp => ?_, fun q hq hm => ?_⟩
  · rcases List.mem_append.mp hp with hp | hp
    · obtain ⟨h1, h2⟩ := mem_ownK hp
      obtain ⟨o, e⟩ := ex _ h1
      obtain ⟨f1, f2, f3⟩ := S.fresh (Heap.get?_none_of_le (hn _ h1))
      exact .inr ⟨⟨o, e, by rw [h2]; exact e⟩, f1, f3⟩
    · exact .inl ⟨hp, by simp⟩
  · obtain ⟨⟨o, e, _⟩, _⟩ := S.kept q hq
    exact absurd (Heap.lt_size e) (Nat.not_lt.mpr (hn _ hm))
theorem Frm.grow {ow : List Addr} (F : Frm b kp fs env Γ h) (hk : ∀ a o, h.get? a = some o → h'.get? a = some o) (hn : ∀ a ∈ ow, h.objs.size ≤ a) : Frm b (ownK ow h' ++ kp) fs env Γ h' := by
  obtain ⟨m, hns, _⟩ := id F.ns
  refine F.move (fun o e => hk _ o e) fun q hq => ?_
  rcases List.mem_append.mp hq with hq | hq
  · exact Nat.ne_of_gt (Nat.lt_of_lt_of_le hns.lt (hn _ (mem_ownK hq).1))
  · exact F.off.2.1 q hq

/-- an iterator over a list object -/
theorem turns_list {A : Around} {target : Expr} {I l : Addr} {vs : List Value} {ds : List D} (hh : A.handled = none) (hne : l ≠ I) (hl : (∃ o, b l = some o) ∨ ∃ o, (l, fun x => x = o) ∈ kp) (rv : RepL b vs ds)
    (hgo : ∀ i v (s : Shared) (Q : Unit → Shared → Prop) (E : Value → Shared → Prop), s.heap.IsListIter I l i → Q () s → wpAny (model prg w) A (letOwnedTupleGo target (.ref I) v) Q E s) :
    ∃ P Md, TurnsOn w A target I (ds.map Item.one) b kp [I] [I, l] [I] P Md (fun i h => h.IsListIter I l i ∧ h.IsList l vs.toArray) := by
  have e : vs.toArray.size = (ds.map Item.one).length := by simp [rv.length]
  have W := Walks.list (prog := prg) (w := w) hh I l hne vs.toArray
  rw [e] at W
  refine ⟨_, _, KTurns.ofWalks W fun i v s Q E st hQ => hgo i v s Q E st.1 hQ, fun a ha => ha, fun a ha => ?_, fun i h st a ha => ?_, fun i v h it hp hi b' sb => ?_⟩
  · rcases List.mem_cons.mp ha with rfl | ha
    · exact .inl List.mem_cons_self
    · simp at ha; subst ha
      rcases hl with hl | hl
      · exact .inr (.inl hl)
      · exact .inr (.inr hl)
  · simp at ha; subst ha
    obtain ⟨o, e, _⟩ := st.1
    exact ⟨o, e⟩
  · rw [List.getElem?_map] at hi
    obtain ⟨d, hd, rfl⟩ := Option.map_eq_some_iff.mp hi
    have hp' : vs[i]? = some v := by simpa using hp
    obtain ⟨d', hd', rd⟩ := rv.getV hp'
    rw [hd] at hd'; cases hd'
    exact rd.mono sb
/-- the shape of a target -/
inductive TgtOk : Expr → Prop
  | name {x : Str} {p : Pos} : TgtOk (.Name x p)
  | tuple {es : List Expr} {k : Nat} {p : Pos} : TgtOk (.Tuple es k p)
theorem go_list {A : Around} {target : Expr} (ht : TgtOk target) : ∀ (I l : Addr) (i : Nat) (v : Value) (s : Shared) (Q : Unit → Shared → Prop) (E : Value → Shared → Prop), s.heap.IsListIter I l i → Q () s → wpAny (model prg w) A (letOwnedTupleGo target (.ref I) v) Q E s := by
  intro I l i v s Q E hit hQ
  cases ht with
  | name => exact wpAny_pure hQ
  | tuple =>
    cases v with
    | ref a => exact wpAny_letOwnedTupleGo_listiter hit hQ
    | _ => exact wpAny_pure hQ
theorem src_list {iter target : Expr} {ds : List D} (h : EvalTo K w k env Γ C iter (.d (.list ds)) C₁) (ht : TgtOk target) : SrcTo K w k env Γ C iter target (ds.map Item.one) C₁ := by
  intro A s b kp fs Q E hR S F q
  refine h A s b kp fs _ E hR S F fun b₁ fs₁ h₁ tk₁ v sb₁ kf₁ S₁ F₁ r₁ => ?_
  cases r₁ with
  | list e rv =>
    rename_i a vs n
    have eh := S₁.base _ _ e
    refine wpAny_pyIter_list (isList_of eh) ?_
    have hk : ∀ c o, h₁.get? c = some o → (h₁.push { cls := .type "list_iterator", data := .fields #[.ref a, .int 0 0] }).get? c = some o := fun c o x => Heap.get?_push_of_some _ x
    have hne : a ≠ h₁.objs.size := Nat.ne_of_lt (Heap.lt_size eh)
    have hst : (h₁.push { cls := .type "list_iterator", data := .fields #[.ref a, .int 0 0] }).IsListIter h₁.objs.size a 0 := ⟨_, Heap.get?_push_size _ rfl, rfl, rfl⟩
    have hn : ∀ c ∈ [h₁.objs.size], h₁.objs.size ≤ c := by simp
    obtain ⟨S₂, off⟩ := S₁.grow hk hn (fun c hc => by simp at hc; subst hc; obtain ⟨o, x, _⟩ := hst; exact ⟨o, x⟩)
    obtain ⟨P, Md, T⟩ := turns_list (w := w) (A := A) (target := target) (b := b₁) (kp := kp) hR.handled hne (.inl ⟨_, e⟩) rv (fun i v s Q E st hQ => go_list ht _ _ i v s Q E st hQ)
    exact q b₁ fs₁ _ tk₁ h₁.objs.size [h₁.objs.size] _ _ P Md _ sb₁ kf₁ S₂ (F₁.grow hk hn) off T ⟨hst, (isList_of eh).push _⟩ fun i s Q E st hQ => wpAny_pyIter_listiter st.1 hQ

theorem notin2 {a x y : Addr} (h1 : a ≠ x) (h2 : a ≠ y) : a ∉ [x, y] := fun hm => by
  rcases List.mem_cons.mp hm with e | hm
  · exact h1 e
  · rcases List.mem_cons.mp hm with e | hm
    · exact h2 e
    · cases hm
/-- a call whose rest is proved by hand -/
theorem call_raw {x : Str} {np pos : Pos} {f : Value} {es : List Expr} {rs : List AV} (h1 : EvalTo K w k env Γ C (.Name x np) (.d (.v f)) C₁) (hk : keepOk K f = true) (h2 : EvalsTo K w k env Γ C₁ es rs C₂)
    {A : Around} {s : Shared} {Q : Value → Shared → Prop} {E : Value → Shared → Prop} (hR : Room k (okL kp env.locals) A) (S : St K b kp fs C s.heap) (F : Frm b kp fs env Γ s.heap)
    (q : ∀ b' fs' h' tk vs, Sub b b' → Keep fs.length fs fs' → St K b' kp fs' C₂ h' → Frm b' kp fs' env Γ h' → RepAs b' fs' vs rs → wpAny (model prg w) A (call f vs []) Q E { s with heap := h', toks := tk }) :
    wpAny (model prg w) A (eval (.Call (.Name x np) es [] pos) env) Q E s := by
  show wpAny _ _ (do callWith pos (← eval (.Name x np) env) [] (backTo pos (starEach es env)) []) _ _ _
  refine wpAny_bind (h1 A s b kp fs _ E hR S F fun b₁ fs₁ h₁ tk₁ v sb₁ kf₁ S₁ F₁ r₁ => ?_)
  cases r₁
  refine callWith_of (by rw [backTo_plain h2.plain]; rfl) (keeps_ok hk) (args_to h2 A _ b₁ kp fs₁ _ E hR S₁ F₁ fun b₂ fs₂ h₂ tk₂ a sb₂ kf₂ S₂ F₂ r₂ => ?_)
  obtain ⟨e, r₂⟩ := r₂
  refine ⟨S₂.top_in, ?_⟩
  rw [e]
  exact q b₂ fs₂ h₂ tk₂ a.pos (sb₁.trans sb₂) (kf₁.then kf₂) S₂ F₂ r₂

noncomputable def enumItems (ds : List D) : List Item := ds.zipIdx.map fun p => .tup [.int (p.2 : Nat), p.1]
theorem enumItems_at {ds : List D} {i : Nat} {it : Item} (h : (enumItems ds)[i]? = some it) : ∃ d, ds[i]? = some d ∧ it = .tup [.int (i : Nat), d] := by
  rw [enumItems, List.getElem?_map, List.getElem?_zipIdx] at h
  simp only [Option.map_map, Option.map_eq_some_iff, Function.comp] at h
  obtain ⟨d, hd, rfl⟩ := h
  exact ⟨d, hd, by simp⟩
theorem turns_enum {A : Around} {elts : List Expr} {kk : Nat} {pos : Pos} {e it l : Addr} {vs : List Value} {ds : List D} (hh : A.handled = none) (hei : e ≠ it) (hle : l ≠ e) (hli : l ≠ it) (hl : (∃ o, b l = some o) ∨ ∃ o, (l, fun x => x = o) ∈ kp) (rv : RepL b vs ds) :
    ∃ P Md, TurnsOn w A (.Tuple elts kk pos) e (enumItems ds) b kp [e, it] [e, it, l] [e, it] P Md (fun i h => (∃ old, IsEnum h e it i old) ∧ h.IsListIter it l i ∧ h.IsList l vs.toArray) := by
  have z : vs.toArray.size = (enumItems ds).length := by simp [rv.length, enumItems]
  have W := (WalksT.enumerate (prog := prg) (w := w) hh e it l hei hle hli vs.toArray).toU
  rw [z] at W
  refine ⟨_, _, KTurns.ofWalksU (elts := elts) (k := kk) (pos := pos) W, fun a ha => ha, fun a ha => ?_, fun i h st a ha => ?_, fun i v h item hp hi b' sb => ?_⟩
  · rcases List.mem_cons.mp ha with rfl | ha
    · exact .inl List.mem_cons_self
    · rcases List.mem_cons.mp ha with rfl | ha
      · exact .inl (List.mem_cons_of_mem _ List.mem_cons_self)
      · simp at ha; subst ha
        rcases hl with hl | hl
        · exact .inr (.inl hl)
        · exact .inr (.inr hl)
  · obtain ⟨⟨old, h1⟩, ⟨o, h2, _⟩, _⟩ := st
    rcases List.mem_cons.mp ha with rfl | ha
    · exact ⟨_, h1⟩
    · simp at ha; subst ha; exact ⟨_, h2⟩
  · obtain ⟨T, vals, rfl, ⟨t, x, hx, rfl⟩, hT⟩ := hp
    obtain ⟨d, hd, rfl⟩ := enumItems_at hi
    have hx' : vs[i]? = some x := by simpa using hx
    obtain ⟨d', hd', rd⟩ := rv.getV hx'
    rw [hd] at hd'; cases hd'
    exact ⟨T, [.int i t, x], rfl, hT, .cons .int (.cons (rd.mono sb) .nil)⟩
theorem src_enum {x : Str} {np pos tp : Pos} {e : Expr} {elts : List Expr} {kk : Nat} {ds : List D} (h1 : EvalTo K w k env Γ C (.Name x np) (.d (.v (.type "enumerate"))) C₁) (hk : keepOk K (.type "enumerate") = true) (h2 : EvalsTo K w k env Γ C₁ [e] [.d (.list ds)] C₂) :
    SrcTo K w k env Γ C (.Call (.Name x np) [e] [] pos) (.Tuple elts kk tp) (enumItems ds) C₂ := by
  intro A s b kp fs Q E hR S F q
  refine call_raw h1 hk h2 hR S F fun b₁ fs₁ h₁ tk₁ vs sb₁ kf₁ S₁ F₁ r₁ => ?_
  have h_vs := RepAs.one r₁; clear r₁; obtain ⟨v, rfl, r⟩ := h_vs
  cases r with
  | list eb rv =>
    rename_i a vs n
    have eh := S₁.base _ _ eb
    refine call_enumerate_list (isList_of eh) fun h₂ he hit hsz hk₂ => ?_
    have hlt := Heap.lt_size eh
    have hn : ∀ c ∈ [h₁.objs.size + 1, h₁.objs.size], h₁.objs.size ≤ c := by simp
    obtain ⟨S₂, off⟩ := S₁.grow (h' := h₂) hk₂ hn (fun c hc => by
      rcases List.mem_cons.mp hc with rfl | hc
      · exact ⟨_, he⟩
      · simp at hc; subst hc; obtain ⟨o, z, _⟩ := hit; exact ⟨o, z⟩)
    obtain ⟨P, Md, T⟩ := turns_enum (w := w) (A := A) (elts := elts) (kk := kk) (pos := tp) (b := b₁) (kp := kp) (e := h₁.objs.size + 1) (it := h₁.objs.size) (l := a) hR.handled (Nat.succ_ne_self _) (Nat.ne_of_lt (Nat.lt_succ_of_lt hlt)) (Nat.ne_of_lt hlt) (.inl ⟨_, eb⟩) rv
    refine wpAny_pyIter_enum he ?_
    exact q b₁ fs₁ h₂ _ _ _ _ _ P Md _ sb₁ kf₁ S₂ (F₁.grow hk₂ hn) off T ⟨⟨_, he⟩, hit, isList_of (hk₂ _ _ eh)⟩ fun i s Q E st hQ => by
      obtain ⟨⟨old, z⟩, _⟩ := st
      exact wpAny_pyIter_enum z hQ
theorem src_enumc {x : Str} {np pos tp : Pos} {e : Expr} {elts : List Expr} {kk : Nat} {i : Nat} {ds : List D} (h1 : EvalTo K w k env Γ C (.Name x np) (.d (.v (.type "enumerate"))) C) (hk : keepOk K (.type "enumerate") = true) (h2 : EvalsTo K w k env Γ C [e] [.c i] C) (hi : C[i]? = some (.lst ds)) :
    SrcC K w k env Γ C (.Call (.Name x np) [e] [] pos) (.Tuple elts kk tp) (enumItems ds) i ds := by
  intro A s b kp fs Q E hR S F q
  refine call_raw h1 hk h2 hR S F fun b₁ fs₁ h₁ tk₁ vs sb₁ kf₁ S₁ F₁ r₁ => ?_
  have h_vs := RepAs.one r₁; clear r₁; obtain ⟨v, rfl, r⟩ := h_vs
  obtain ⟨a, vs, n, rfl, hf, eh, rv⟩ := rep_cell S₁ hi r
  refine call_enumerate_list (isList_of eh) fun h₂ he hit hsz hk₂ => ?_
  have hlt := Heap.lt_size eh
  have hn : ∀ c ∈ [h₁.objs.size + 1, h₁.objs.size], h₁.objs.size ≤ c := by simp
  obtain ⟨S₂, off⟩ := S₁.grow (h' := h₂) hk₂ hn (fun c hc => by
    rcases List.mem_cons.mp hc with rfl | hc
    · exact ⟨_, he⟩
    · simp at hc; subst hc; obtain ⟨o, z, _⟩ := hit; exact ⟨o, z⟩)
  obtain ⟨P, Md, T⟩ := turns_enum (w := w) (A := A) (elts := elts) (kk := kk) (pos := tp) (b := b₁) (kp := (a, fun x => x = lstO vs n) :: kp) (e := h₁.objs.size + 1) (it := h₁.objs.size) (l := a) hR.handled (Nat.succ_ne_self _) (Nat.ne_of_lt (Nat.lt_succ_of_lt hlt)) (Nat.ne_of_lt hlt) (.inr ⟨_, List.mem_cons_self⟩) rv
  refine wpAny_pyIter_enum he ?_
  exact q b₁ fs₁ h₂ _ _ _ _ _ P Md _ a vs n sb₁ kf₁ S₂ (F₁.grow hk₂ hn) off hf rv (notin2 (Nat.ne_of_lt (Nat.lt_succ_of_lt hlt)) (Nat.ne_of_lt hlt)) T ⟨⟨_, he⟩, hit, isList_of (hk₂ _ _ eh)⟩ fun i s Q E st hQ => by
    obtain ⟨⟨old, z⟩, _⟩ := st
    exact wpAny_pyIter_enum z hQ
end

end
/-! M17 -/
section
section
variable {K : Frag} {w : World} {n k : Nat} {env cenv : Env} {Γ Γ₁ Γ₂ Γ' Γc : Gam} {C C' C₁ C₂ C₃ : List Cell} {b b' : PM} {kp kp' : Kp} {fs fs' : List Foot} {h h' : Heap}

noncomputable def rangeItems (a b : Int) : List Item := (List.range (b - a).toNat).map fun i => .one (.int (a + (i : Nat)))
theorem rangeItems_at {a b : Int} {i : Nat} {it : Item} (h : (rangeItems a b)[i]? = some it) : it = .one (.int (a + (i : Nat))) := by
  rw [rangeItems, List.getElem?_map] at h
  obtain ⟨j, hj, rfl⟩ := Option.map_eq_some_iff.mp h
  have := (List.getElem?_eq_some_iff.mp hj).2
  rw [List.getElem_range] at this
  rw [this]
theorem turns_range {A : Around} {x : Str} {p : Pos} {I : Addr} {a c : Int} (hh : A.handled = none) :
    ∃ P Md, TurnsOn w A (.Name x p) I (rangeItems a c) b kp [I] [I] [I] P Md (fun i h => IsRangeIter h I (a + (i : Nat) * 1) (((c - a).toNat : Int) - (i : Nat)) 1) := by
  have W := Walks.range (prog := prg) (w := w) hh I a 1 (c - a).toNat
  have z : (rangeItems a c).length = (c - a).toNat := by simp [rangeItems]
  rw [← z] at W
  refine ⟨fun i v _ => ∃ t, v = .int (a + i * 1) t, fun i v h => (∃ t, v = .int (a + i * 1) t) ∧ IsRangeIter h I (a + ((i + 1 : Nat) : Int) * 1) (((c - a).toNat : Int) - ((i + 1 : Nat) : Int)) 1, ?_, fun a ha => ha, fun a ha => .inl ha, fun i h st a ha => ?_, fun i v h item hp hi b' sb => ?_⟩
  · have := KTurns.ofWalks (target := .Name x p) W fun i v s Q E st hQ => wpAny_pure hQ
    rw [z] at this ⊢
    exact this
  · simp at ha; subst ha; exact ⟨_, st⟩
  · obtain ⟨t, rfl⟩ := hp
    have := rangeItems_at hi
    subst this
    rw [Int.mul_one]; exact .int
theorem src_range {A : Around} {s : Shared} {x : Str} {p : Pos} {a c : Int} {t u v : Tok} {r : Addr} {Q : Value → Shared → Prop} {E : Value → Shared → Prop} (hR : Room k (okL kp env.locals) A) (S : St K b kp fs C s.heap) (F : Frm b kp fs env Γ s.heap)
    (hr : IsRange s.heap r a c 1 t u v) (ha : -(2 ^ 62) ≤ a) (ha' : a < 2 ^ 62) (hb : -(2 ^ 62) ≤ c) (hb' : c < 2 ^ 62)
    (q : ∀ h' tk I ow fp wr P Md W, St K b (ownK ow h' ++ kp) fs C h' → Frm b (ownK ow h' ++ kp) fs env Γ h' → (∀ q ∈ kp, q.1 ∉ ow) → TurnsOn w A (.Name x p) I (rangeItems a c) b kp ow fp wr P Md W → W 0 h' →
      (∀ i (s : Shared) (Q : Value → Shared → Prop) (E : Value → Shared → Prop), W i s.heap → Q (.ref I) s → wpAny (model prg w) A (pyIter (.ref I)) Q E s) → Q (.ref I) { s with heap := h', toks := tk }) :
    wpAny (model prg w) A (pyIter (.ref r)) Q E s := by
  refine wpAny_pyIter_range hr (small_one ha ha' hb hb') ?_
  have hk : ∀ z o, s.heap.get? z = some o → (s.heap.push { cls := .type "range_iterator", data := .fields #[rawInt a, rawInt (Builtin.Range.rangeSize a c 1), rawInt 1] }).get? z = some o := fun z o e => Heap.get?_push_of_some _ e
  have hn : ∀ z ∈ [s.heap.objs.size], s.heap.objs.size ≤ z := by simp
  obtain ⟨S₂, off⟩ := S.grow hk hn (fun z hz => by simp at hz; subst hz; exact ⟨_, Heap.get?_push_size _ rfl⟩)
  obtain ⟨P, Md, T⟩ := turns_range (w := w) (A := A) (x := x) (p := p) (b := b) (kp := kp) (I := s.heap.objs.size) (a := a) (c := c) hR.handled
  refine q _ s.toks _ _ _ _ P Md _ S₂ (F.grow hk hn) off T ?_ fun i s Q E st hQ => wpAny_pyIter_rangeiter st hQ
  show Heap.get? _ _ = _
  have e1 : a + ((0 : Nat) : Int) * 1 = a := by simp
  have e2 : ((c - a).toNat : Int) - ((0 : Nat) : Int) = Builtin.Range.rangeSize a c 1 := by
    rw [rangeSize_one]; split <;> omega
  rw [e1, e2]
  exact Heap.get?_push_size _ rfl
theorem src_range2 {x y : Str} {np pos yp : Pos} {e e' : Expr} {a c : Int} (h1 : EvalTo K w k env Γ C (.Name x np) (.d (.v (.type "range"))) C₁) (hk : keepOk K (.type "range") = true) (h2 : EvalsTo K w k env Γ C₁ [e, e'] [.d (.int a), .d (.int c)] C₂)
    (ha : -(2 ^ 62) ≤ a) (ha' : a < 2 ^ 62) (hb : -(2 ^ 62) ≤ c) (hb' : c < 2 ^ 62) : SrcTo K w k env Γ C (.Call (.Name x np) [e, e'] [] pos) (.Name y yp) (rangeItems a c) C₂ := by
  intro A s b kp fs Q E hR S F q
  refine call_raw h1 hk h2 hR S F fun b₁ fs₁ h₁ tk₁ vs sb₁ kf₁ S₁ F₁ r₁ => ?_
  have h_vs := RepAs.two r₁; clear r₁; obtain ⟨v, v', rfl, r, r'⟩ := h_vs
  cases r; cases r'
  refine call_range_2 ?_
  refine src_range hR (S₁.keeps fun z o e => Heap.get?_push_of_some _ e) (F₁.keeps fun z o e => Heap.get?_push_of_some _ e) (IsRange.new _ _ _ _ _ _ _) ha ha' hb hb' fun h' tk I ow fp wr P Md W S₂ F₂ off T h0 hs => q b₁ fs₁ h' tk I ow fp wr P Md W sb₁ kf₁ S₂ F₂ off T h0 hs
theorem src_range1 {x y : Str} {np pos yp : Pos} {e : Expr} {c : Int} (h1 : EvalTo K w k env Γ C (.Name x np) (.d (.v (.type "range"))) C₁) (hk : keepOk K (.type "range") = true) (h2 : EvalsTo K w k env Γ C₁ [e] [.d (.int c)] C₂)
    (hb : -(2 ^ 62) ≤ c) (hb' : c < 2 ^ 62) : SrcTo K w k env Γ C (.Call (.Name x np) [e] [] pos) (.Name y yp) (rangeItems 0 c) C₂ := by
  intro A s b kp fs Q E hR S F q
  refine call_raw h1 hk h2 hR S F fun b₁ fs₁ h₁ tk₁ vs sb₁ kf₁ S₁ F₁ r₁ => ?_
  have h_vs := RepAs.one r₁; clear r₁; obtain ⟨v, rfl, r⟩ := h_vs
  cases r
  refine call_range_1 ?_
  refine src_range hR (S₁.keeps fun z o e => Heap.get?_push_of_some _ e) (F₁.keeps fun z o e => Heap.get?_push_of_some _ e) (IsRange.new _ _ _ _ _ _ _) (by omega) (by omega) hb hb' fun h' tk I ow fp wr P Md W S₂ F₂ off T h0 hs => q b₁ fs₁ h' tk I ow fp wr P Md W sb₁ kf₁ S₂ F₂ off T h0 hs

noncomputable def zipItems (ds es : List D) : List Item := (ds.zip es).map fun p => .tup [p.1, p.2]
theorem zipItems_at {ds es : List D} {i : Nat} {it : Item} (h : (zipItems ds es)[i]? = some it) : ∃ d e, ds[i]? = some d ∧ es[i]? = some e ∧ it = .tup [d, e] := by
  rw [zipItems, List.getElem?_map] at h
  obtain ⟨p, hp, rfl⟩ := Option.map_eq_some_iff.mp h
  obtain ⟨h1, h2⟩ := List.getElem?_zip_eq_some.mp hp
  exact ⟨_, _, h1, h2, rfl⟩
theorem turns_zip {A : Around} {elts : List Expr} {kk : Nat} {tp : Pos} {z TI TO i1 i2 l1 l2 : Addr} {vs vs' : List Value} {ds es : List D} (hh : A.handled = none) (Dz : ZipApart z TI TO i1 i2 l1 l2) (hl : ∃ o, b l1 = some o) (hl' : ∃ o, b l2 = some o) (rv : RepL b vs ds) (rv' : RepL b vs' es) :
    ∃ P Md, TurnsOn w A (.Tuple elts kk tp) z (zipItems ds es) b kp [z, TI, TO, i1, i2] [z, TI, TO, i1, i2, l1, l2] [z, TO, i1, i2] P Md
      (fun i h => IsZip h z TI TO .none ∧ IsPair h TI (.ref i1) (.ref i2) ∧ (∃ a b, IsPair h TO a b) ∧ h.IsListIter i1 l1 i ∧ h.IsListIter i2 l2 i ∧ h.IsList l1 vs.toArray ∧ h.IsList l2 vs'.toArray) := by
  have W := (WalksT.zip2 (prog := prg) (w := w) (A := A) hh _ _ _ _ _ _ _ Dz vs.toArray vs'.toArray).toU
  have e : min vs.toArray.size vs'.toArray.size = (zipItems ds es).length := by simp [zipItems, rv.length, rv'.length]
  rw [e] at W
  refine ⟨_, _, KTurns.ofWalksU (elts := elts) (k := kk) (pos := tp) W, fun c hc => ?_, fun c hc => ?_, fun i h st c hc => ?_, fun i v h item hp hi b' sb => ?_⟩
  · simp only [List.mem_cons, List.not_mem_nil, or_false] at hc ⊢
    rcases hc with rfl | rfl | rfl | rfl <;> simp
  · simp only [List.mem_cons, List.not_mem_nil, or_false] at hc ⊢
    rcases hc with rfl | rfl | rfl | rfl | rfl | rfl | rfl
    · exact .inl (by simp)
    · exact .inl (by simp)
    · exact .inl (by simp)
    · exact .inl (by simp)
    · exact .inl (by simp)
    · exact .inr (.inl hl)
    · exact .inr (.inl hl')
  · obtain ⟨q1, q2, ⟨x, y, q3⟩, ⟨o4, q4, _⟩, ⟨o5, q5, _⟩, _⟩ := st
    simp only [List.mem_cons, List.not_mem_nil, or_false] at hc
    rcases hc with rfl | rfl | rfl | rfl | rfl
    · exact ⟨_, q1⟩
    · exact ⟨_, q2⟩
    · exact ⟨_, q3⟩
    · exact ⟨_, q4⟩
    · exact ⟨_, q5⟩
  · obtain ⟨T, vals, rfl, ⟨x, y, hx, hy, rfl⟩, hT⟩ := hp
    obtain ⟨d, e, hd, he, rfl⟩ := zipItems_at hi
    have hx' : vs[i]? = some x := by simpa using hx
    have hy' : vs'[i]? = some y := by simpa using hy
    obtain ⟨d', hd', rd⟩ := rv.getV hx'
    obtain ⟨e', he', re⟩ := rv'.getV hy'
    rw [hd] at hd'; cases hd'
    rw [he] at he'; cases he'
    exact ⟨T, [x, y], rfl, hT, .cons (rd.mono sb) (.cons (re.mono sb) .nil)⟩
theorem src_zip {x : Str} {np pos tp : Pos} {e e' : Expr} {elts : List Expr} {kk : Nat} {ds es : List D} (h1 : EvalTo K w k env Γ C (.Name x np) (.d (.v (.type "zip"))) C₁) (hk : keepOk K (.type "zip") = true) (h2 : EvalsTo K w k env Γ C₁ [e, e'] [.d (.list ds), .d (.list es)] C₂) :
    SrcTo K w k env Γ C (.Call (.Name x np) [e, e'] [] pos) (.Tuple elts kk tp) (zipItems ds es) C₂ := by
  intro A s b kp fs Q E hR S F q
  refine call_raw h1 hk h2 hR S F fun b₁ fs₁ h₁ tk₁ vs sb₁ kf₁ S₁ F₁ r₁ => ?_
  have h_vs := RepAs.two r₁; clear r₁; obtain ⟨v, v', rfl, r, r'⟩ := h_vs
  cases r with
  | list eb rv =>
    cases r' with
    | list eb' rv' =>
      rename_i a vs n a' vs' n'
      have eh := S₁.base _ _ eb
      have eh' := S₁.base _ _ eb'
      have la := Heap.lt_size eh
      have la' := Heap.lt_size eh'
      refine call_zip_2 (isList_of eh) (isList_of eh') fun h₂ hz hTI hTO i1 i2 hsz hk₂ => ?_
      have ne : ∀ {x : Addr} {m j : Nat}, x < m → x ≠ m + j := fun {x m j} hx => Nat.ne_of_lt (Nat.lt_of_lt_of_le hx (Nat.le_add_right _ _))
      have nz : ∀ {m j i : Nat}, i ≠ j → (m + i : Addr) ≠ (m + j : Addr) := fun {m j i} h => fun z => h (Nat.add_left_cancel z)
      have Dz : ZipApart (h₁.objs.size + 4) (h₁.objs.size + 2) (h₁.objs.size + 3) (h₁.objs.size + 0) (h₁.objs.size + 1) a a' :=
        ⟨nz (by decide), nz (by decide), nz (by decide), nz (by decide), nz (by decide), nz (by decide), nz (by decide), nz (by decide), nz (by decide), nz (by decide), ne la, ne la, ne la, ne la, ne la', ne la', ne la', ne la'⟩
      have hn : ∀ c ∈ [h₁.objs.size + 4, h₁.objs.size + 2, h₁.objs.size + 3, h₁.objs.size + 0, h₁.objs.size + 1], h₁.objs.size ≤ c := fun c hc => by
        simp only [List.mem_cons, List.not_mem_nil, or_false] at hc
        rcases hc with rfl | rfl | rfl | rfl | rfl <;> exact Nat.le_add_right _ _
      obtain ⟨P, Md, T⟩ := turns_zip (w := w) (elts := elts) (kk := kk) (tp := tp) (b := b₁) (kp := kp) hR.handled Dz ⟨_, eb⟩ ⟨_, eb'⟩ rv rv'
      have st0 : (IsZip h₂ (h₁.objs.size + 4) (h₁.objs.size + 2) (h₁.objs.size + 3) .none ∧ IsPair h₂ (h₁.objs.size + 2) (.ref (h₁.objs.size + 0)) (.ref (h₁.objs.size + 1)) ∧ (∃ a b, IsPair h₂ (h₁.objs.size + 3) a b) ∧ h₂.IsListIter (h₁.objs.size + 0) a 0 ∧ h₂.IsListIter (h₁.objs.size + 1) a' 0 ∧ h₂.IsList a vs.toArray ∧ h₂.IsList a' vs'.toArray) :=
        ⟨hz, hTI, ⟨_, _, hTO⟩, i1, i2, isList_of (hk₂ _ _ eh), isList_of (hk₂ _ _ eh')⟩
      obtain ⟨S₂, off⟩ := S₁.grow (h' := h₂) hk₂ hn (T.ex 0 h₂ st0)
      refine wpAny_pyIter_zip hz ?_
      exact q b₁ fs₁ h₂ _ _ _ _ _ P Md _ sb₁ kf₁ S₂ (F₁.grow hk₂ hn) off T st0 fun i s Q E st hQ => wpAny_pyIter_zip st.1 hQ

/-! while -/
inductive WhileTo (K : Frag) (w : World) (n k : Nat) (env : Env) (test : Expr) (body : List Stmt) : Nat → Gam → List Cell → Out → List Cell → Prop
  | done {m : Nat} {Γ : Gam} {C C₁ : List Cell} : TestTo K w k env Γ C test false C₁ → WhileTo K w n k env test body m Γ C (.nxt Γ) C₁
  | step {m : Nat} {Γ Γ₁ : Gam} {C C₁ C₂ C₃ : List Cell} {o : Out} : TestTo K w k env Γ C test true C₁ → ExecT K w n k env Γ C₁ (execs body env) (.nxt Γ₁) C₂ → WhileTo K w n k env test body m Γ₁ C₂ o C₃ → WhileTo K w n k env test body (m + 1) Γ C o C₃
/-- the state ahead of a turn of a while loop -/
inductive WhileInv (w : World) (n k : Nat) (env : Env) (K : Frag) (test : Expr) (body : List Stmt) (o : Out) (C' : List Cell) (b : PM) (kp : Kp) (fs : List Foot) (s : Shared) (m : Nat) (s' : Shared) : Prop
  | mk (Γi : Gam) (Ci : List Cell) (bi : PM) (fsi : List Foot) (h : Heap) (tk : Tok) (e1 : s' = { s with heap := h, toks := tk }) (e2 : WhileTo K w n k env test body m Γi Ci o C') (e3 : Sub b bi) (e4 : Keep n fs fsi) (e5 : n ≤ fsi.length) (e6 : St K bi kp fsi Ci h) (e7 : Frm bi kp fsi env Γi h)
theorem ex_while {test : Expr} {body : List Stmt} {pos : Pos} {m : Nat} {o : Out} (L : WhileTo K w n k env test body m Γ C o C') : ExecT K w n k env Γ C (exec (.While test body [] pos) env) o C' := by
  intro A s b kp fs Q E hR S F hn q
  refine wpAny_While (codeAny_whileLoop
    (WhileInv w n k env K test body o C' b kp fs s) ?_ m
    ⟨Γ, C, b, fs, s.heap, s.toks, rfl, L, Sub.refl, Keep.refl, hn, S, F⟩)
  rintro m s' ⟨Γi, Ci, bi, fsi, h₁, tk₁, rfl, Li, sbi, kfi, hni, Si, Fi⟩
  cases Li with
  | done ht =>
    refine ht A _ bi kp fsi _ _ hR Si Fi fun b₂ fs₂ h₂ tk₂ v sb₂ kf₂ S₂ F₂ r₂ => ?_
    subst r₂
    simp only [Bool.false_eq_true, if_false]
    exact wpAny_execs_nil (q b₂ fs₂ h₂ tk₂ .next (sbi.trans sb₂) (kfi.trans (kf₂.le hni)) (Nat.le_trans hni kf₂.len) S₂ ⟨rfl, F₂⟩)
  | step ht hx hl =>
    refine ht A _ bi kp fsi _ _ hR Si Fi fun b₂ fs₂ h₂ tk₂ v sb₂ kf₂ S₂ F₂ r₂ => ?_
    subst r₂
    simp only [if_true]
    refine hx A _ b₂ kp fs₂ _ _ hR S₂ F₂ (Nat.le_trans hni kf₂.len) fun b₃ fs₃ h₃ tk₃ f sb₃ kf₃ hn₃ S₃ ho => ?_
    obtain ⟨rfl, F₃⟩ := ho
    exact ⟨_, Nat.lt_succ_self _, _, _, b₃, fs₃, h₃, tk₃, rfl, hl, sbi.trans (sb₂.trans sb₃), (kfi.trans (kf₂.le hni)).trans kf₃, hn₃, S₃, F₃⟩
end

end
/-! M18 -/
section
section
variable {K : Frag} {w : World} {n k : Nat} {env cenv : Env} {Γ Γ₁ Γ₂ Γ' Γc : Gam} {C C' C₀ C₁ C₂ C₃ C₄ : List Cell} {b b' : PM} {kp kp' : Kp} {fs fs' : List Foot} {h h' : Heap}

/-! chains of comparisons -/
theorem tst_chain {l m r : Expr} {op op' : CmpOp} {pos : Pos} {x y z : AV} {p q : Bool} (h1 : EvalTo K w k env Γ C l x C₁) (h2 : EvalTo K w k env Γ C₁ m y C₂) (h3 : Op K w k C₂ (tCmp op) [x, y] (.d (.bool p)) C₂) (h4 : p = true → EvalTo K w k env Γ C₂ r z C₂)
    (h5 : p = true → Op K w k C₂ (tCmp op') [y, z] (.d (.bool q)) C₂) (he : markedEach [op, op'] [m, r] (evalEach [m, r] env) = [eval m env, eval r env]) : TestTo K w k env Γ C (.Compare l [op, op'] [m, r] pos) (p && q) C₂ := by
  intro A s b kp fs Q E hR S F hq
  rw [arm_isTrue_Compare, he]
  refine wpAny_bind (h1 A s b kp fs _ E hR S F fun b₁ fs₁ h₁ tk₁ v sb₁ kf₁ S₁ F₁ r₁ => ?_)
  show wpAny _ _ (do
    let rv ← holding [v] (eval m env)
    standAt pos
    let c ← holding [v, rv] (compareOp op v rv)
    release [v, rv] [c]
    if ← holding [c, rv] (truthy c) then testChain pos rv [op'] [eval r env] else pure false) _ _ _
  refine wpAny_bind (wpAny_holding (h2 A _ b₁ kp fs₁ _ E hR S₁ F₁ fun b₂ fs₂ h₂ tk₂ u sb₂ kf₂ S₂ F₂ r₂ => ?_))
  refine wpAny_bind (wpAny_standAt (wpAny_bind (wpAny_holding ?_)))
  refine h3.tree (s := { s with heap := h₂, toks := tk₂ }) (vs := [v, u]) hR S₂ F₂ ⟨r₁.mono sb₂ kf₂, r₂, trivial⟩ fun b₃ fs₃ h₃ tk₃ c sb₃ kf₃ S₃ F₃ r₃ => ?_
  cases r₃
  refine wpAny_bind (wpAny_release (wpAny_bind (wpAny_holding (wpAny_truthy_bool ?_))))
  have sb := sb₁.trans (sb₂.trans sb₃)
  have kf := kf₁.then (kf₂.then kf₃)
  cases p with
  | false =>
    simp only [Bool.false_eq_true, if_false]
    exact wpAny_pure (hq b₃ fs₃ h₃ tk₃ false sb kf S₃ F₃ rfl)
  | true =>
    simp only [if_true]
    show wpAny _ _ (do
      let rv ← holding [u] (eval r env)
      standAt pos
      let c ← operate [u, rv] (compareOp op' u rv)
      holding [c] (truthy c)) _ _ _
    refine wpAny_bind (wpAny_holding (h4 rfl A _ b₃ kp fs₃ _ E hR S₃ F₃ fun b₄ fs₄ h₄ tk₄ t sb₄ kf₄ S₄ F₄ r₄ => ?_))
    refine wpAny_bind (wpAny_standAt (wpAny_bind (wpAny_operating ?_)))
    refine (h5 rfl).tree (s := { s with heap := h₄, toks := tk₄ }) (vs := [u, t]) hR S₄ F₄ ⟨(r₂.mono sb₃ kf₃).mono sb₄ kf₄, r₄, trivial⟩ fun b₅ fs₅ h₅ tk₅ c sb₅ kf₅ S₅ F₅ r₅ => ?_
    cases r₅
    exact wpAny_holding (wpAny_truthy_bool (hq b₅ fs₅ h₅ tk₅ _ (sb.trans (sb₄.trans sb₅)) (kf.then (kf₄.then kf₅)) S₅ F₅ (by simp)))
theorem ev_chain {l m r : Expr} {op op' : CmpOp} {pos : Pos} {x y z : AV} {p q : Bool} (h1 : EvalTo K w k env Γ C l x C₁) (h2 : EvalTo K w k env Γ C₁ m y C₂) (h3 : Op K w k C₂ (tCmp op) [x, y] (.d (.bool p)) C₂) (h4 : p = true → EvalTo K w k env Γ C₂ r z C₂)
    (h5 : p = true → Op K w k C₂ (tCmp op') [y, z] (.d (.bool q)) C₂) (he : markedEach [op, op'] [m, r] (evalEach [m, r] env) = [eval m env, eval r env]) : EvalTo K w k env Γ C (.Compare l [op, op'] [m, r] pos) (.d (.bool (p && q))) C₂ := by
  intro A s b kp fs Q E hR S F hq
  rw [arm_eval_Compare, he]
  refine wpAny_bind (h1 A s b kp fs _ E hR S F fun b₁ fs₁ h₁ tk₁ v sb₁ kf₁ S₁ F₁ r₁ => ?_)
  show wpAny _ _ (do
    let rv ← holding [v] (eval m env)
    standAt pos
    let c ← holding [v, rv] (compareOp op v rv)
    release [v, rv] [c]
    if ← holding [c, rv] (truthy c) then compareChain pos rv [op'] [eval r env] else pure c) _ _ _
  refine wpAny_bind (wpAny_holding (h2 A _ b₁ kp fs₁ _ E hR S₁ F₁ fun b₂ fs₂ h₂ tk₂ u sb₂ kf₂ S₂ F₂ r₂ => ?_))
  refine wpAny_bind (wpAny_standAt (wpAny_bind (wpAny_holding ?_)))
  refine h3.tree (s := { s with heap := h₂, toks := tk₂ }) (vs := [v, u]) hR S₂ F₂ ⟨r₁.mono sb₂ kf₂, r₂, trivial⟩ fun b₃ fs₃ h₃ tk₃ c sb₃ kf₃ S₃ F₃ r₃ => ?_
  cases r₃
  refine wpAny_bind (wpAny_release (wpAny_bind (wpAny_holding (wpAny_truthy_bool ?_))))
  have sb := sb₁.trans (sb₂.trans sb₃)
  have kf := kf₁.then (kf₂.then kf₃)
  cases p with
  | false =>
    simp only [Bool.false_eq_true, if_false]
    exact wpAny_pure (hq b₃ fs₃ h₃ tk₃ _ sb kf S₃ F₃ .v)
  | true =>
    simp only [if_true]
    show wpAny _ _ (do
      let rv ← holding [u] (eval r env)
      standAt pos
      operate [u, rv] (compareOp op' u rv)) _ _ _
    refine wpAny_bind (wpAny_holding (h4 rfl A _ b₃ kp fs₃ _ E hR S₃ F₃ fun b₄ fs₄ h₄ tk₄ t sb₄ kf₄ S₄ F₄ r₄ => ?_))
    refine wpAny_bind (wpAny_standAt (wpAny_operating ?_))
    refine (h5 rfl).tree (s := { s with heap := h₄, toks := tk₄ }) (vs := [u, t]) hR S₄ F₄ ⟨(r₂.mono sb₃ kf₃).mono sb₄ kf₄, r₄, trivial⟩ fun b₅ fs₅ h₅ tk₅ c sb₅ kf₅ S₅ F₅ r₅ => ?_
    exact hq b₅ fs₅ h₅ tk₅ _ (sb.trans (sb₄.trans sb₅)) (kf.then (kf₄.then kf₅)) S₅ F₅ (by simpa using r₅)

theorem ev_ifd {t x y : Expr} {pos : Pos} {p : Bool} {u v : D} (h : TestTo K w k env Γ C t p C₁) (ht : p = true → EvalTo K w k env Γ C₁ x (.d u) C₂) (hf : p = false → EvalTo K w k env Γ C₁ y (.d v) C₂) : EvalTo K w k env Γ C (.IfExp t x y pos) (.d (if p then u else v)) C₂ := by
  cases p with
  | true => exact ev_if h (fun _ => ht rfl) (fun e => nomatch e)
  | false => exact ev_if h (fun e => nomatch e) (fun _ => hf rfl)

/-! statements that bind -/
theorem ex_bind {t e : Expr} {pos : Pos} {d : D} (h : EvalTo K w k env Γ C e (.d d) C₁) (ha : AssignTo K w env Γ C₁ t (.one d) Γ' C₂) (hs : swapsWithSole [t] e pos.line env = pure false) (hw : swappedStores [t] e env = pure none)
    (he : (assignEach [t] env).map (·.2) = [assign t env]) : ExecT K w n k env Γ C (exec (.Assign [t] e pos) env) (.nxt Γ') C₂ := by
  intro A s b kp fs Q E hR S F hn q
  refine wpAny_Assign_stores (h A s b kp fs _ E hR S F fun b₁ fs₁ h₁ tk₁ v sb₁ kf₁ S₁ F₁ r₁ => ?_) hs hw
  rw [he]
  show wpAny _ _ (assign t env v) _ _ _
  exact ha A _ b₁ kp fs₁ v _ E hR.handled S₁ F₁ r₁ fun fs₂ h₂ tk₂ kf₂ hl₂ S₂ F₂ => q b₁ fs₂ h₂ tk₂ .next sb₁ ((kf₁.then kf₂).le hn) (Nat.le_trans hn (kf₁.then kf₂).len) S₂ ⟨rfl, F₂⟩

/-! ghosts: a list is turned no more; cells are forgotten -/
noncomputable def frzVB (i : Nat) (d : D) : VB → VB
  | .loc (.c j) => if j = i then .loc (.d d) else .loc (.c j)
  | r => r
noncomputable def frzG (i : Nat) (d : D) (Γ : Gam) : Gam := Γ.map fun p => (p.1, frzVB i d p.2)
theorem frm_drop {i : Nat} {f : Foot} (hf : fs[i]? = some f) : ∀ p ∈ (fs.set i []).flatten, p ∈ fs.flatten := fun p hp => by
  obtain ⟨l1, r1, e1, e2⟩ := flatten_set fs i f [] hf
  rw [e2] at hp
  simp only [List.append_nil, List.mem_append] at hp
  rw [e1]; rcases hp with hp | hp <;> simp [hp]
theorem Frm.frz {i : Nat} {f : Foot} {a : Addr} {d : D} (F : Frm b kp fs env Γ h) (sb : Sub b b') (hf : fs[i]? = some f) (ha : headA f = some a) (hb : ∀ x, Γ.lookup x ≠ some (.box i)) (hL : b' env.locals = none) (r : Rep b' (.ref a) d) : Frm b' kp (fs.set i []) env (frzG i d Γ) h := by
  obtain ⟨m, hn, hv⟩ := F.ns
  refine ⟨F.fn, F.gl, F.bu, ⟨hL, F.off.2.1, fun p hp => F.off.2.2 p (frm_drop hf p hp)⟩, m, hn, fun x r' hx => ?_⟩
  rw [frzG, lock_lookup] at hx
  obtain ⟨r₀, hr, rfl⟩ := Option.map_eq_some_iff.mp hx
  have := hv x r₀ hr
  cases r₀ with
  | loc r₀ =>
    obtain ⟨hk, v, e, q⟩ := this
    cases r₀ with
    | d y => exact ⟨hk, v, e, Rep.mono sb q⟩
    | c j =>
      obtain ⟨g, c, ef, hc, rfl⟩ := q
      by_cases z : j = i
      · subst z
        rw [hf] at ef; cases ef
        rw [ha] at hc; cases hc
        show VarOk _ _ _ _ _ (if j = j then _ else _)
        rw [if_pos rfl]
        exact ⟨hk, _, e, r⟩
      · show VarOk _ _ _ _ _ (if j = i then _ else _)
        rw [if_neg z]
        exact ⟨hk, _, e, g, c, by rw [List.getElem?_set_ne (Ne.symm z)]; exact ef, hc, rfl⟩
  | box j =>
    obtain ⟨hk, c, g, e, ef, hc⟩ := this
    have z : i ≠ j := fun z => hb x (z ▸ hr)
    exact ⟨hk, c, g, e, by rw [List.getElem?_set_ne z]; exact ef, hc⟩
/-- from here on the list of cell i is turned no more -/
theorem ExecT.freeze {T : Sem Flow} {i : Nat} {ds : List D} {o : Out} (h : ExecT K w n k env (frzG i (.list ds) Γ) (C.set i .gone) T o C') (hi : C[i]? = some (.lst ds)) (hin : n ≤ i) (hno : ∀ j c, j ≠ i → C[j]? = some c → i ∉ c.refs) (hb : ∀ x, Γ.lookup x ≠ some (.box i)) :
    ExecT K w n k env Γ C T o C' := by
  intro A s b kp fs Q E hR S F hn q
  have hil := (List.getElem?_eq_some_iff.mp hi).1
  obtain ⟨f, hf⟩ : ∃ f, fs[i]? = some f := ⟨fs[i]'(by rw [S.len]; exact hil), by simp [S.len, hil]⟩
  obtain ⟨a, vs, m, rfl, rv⟩ := S.cells.2 i _ f hi hf
  obtain ⟨b', sb, hin', hnone, S'⟩ := S.freeze hf hil fun j c g hj hc hg => (S.cells.2 j c g hc hg).refs fun j' g' hj' hg' => set_ne hg' fun z => hno j c hj hc (z ▸ hj')
  have hL : b' env.locals = none := hnone _ F.off.1 fun p hp z => F.off.2.2 p (List.mem_flatten.mpr ⟨_, List.mem_of_getElem? hf, hp⟩) z
  have F' := F.frz (a := a) sb hf rfl hb hL (.list (hin' _ List.mem_cons_self) (rv.mono sb))
  refine h A s b' kp _ Q E hR S' F' (by simpa using hn) fun b₂ fs₂ h₂ tk₂ f₂ sb₂ kf₂ hn₂ S₂ ho => q b₂ fs₂ h₂ tk₂ f₂ (sb.trans sb₂) (fun j g hj hg => ?_) hn₂ S₂ ho
  exact kf₂ j g hj (by rw [List.getElem?_set_ne (Nat.ne_of_gt (Nat.lt_of_lt_of_le hj hin))]; exact hg)
theorem Frm.take {m : Nat} (F : Frm b kp fs env Γ h) (hΓ : ∀ x r, Γ.lookup x = some r → match r with | .loc (.c i) => i < m | .box i => i < m | _ => True) : Frm b kp (fs.take m) env Γ h := by
  obtain ⟨mm, hn, hv⟩ := F.ns
  refine ⟨F.fn, F.gl, F.bu, ⟨F.off.1, F.off.2.1, fun p hp => F.off.2.2 p ?_⟩, mm, hn, fun x r hx => ?_⟩
  · obtain ⟨f, hf, hp⟩ := List.mem_flatten.mp hp
    exact List.mem_flatten.mpr ⟨f, List.mem_of_mem_take hf, hp⟩
  · have := hv x r hx
    have lim := hΓ x r hx
    cases r with
    | loc r =>
      obtain ⟨hk, v, e, q⟩ := this
      cases r with
      | d y => exact ⟨hk, v, e, q⟩
      | c j => obtain ⟨g, c, ef, hc, rfl⟩ := q; exact ⟨hk, _, e, g, c, by rw [List.getElem?_take, if_pos lim]; exact ef, hc, rfl⟩
    | box j => obtain ⟨hk, c, g, e, ef, hc⟩ := this; exact ⟨hk, c, g, e, by rw [List.getElem?_take, if_pos lim]; exact ef, hc⟩
/-- cells at the end are forgotten -/
theorem ExecT.forget {T : Sem Flow} (h : ExecT K w n k env Γ C T (.nxt Γ₁) (C₁ ++ C₂)) (hn1 : n ≤ C₁.length) (hΓ : ∀ x r, Γ₁.lookup x = some r → match r with | .loc (.c i) => i < C₁.length | .box i => i < C₁.length | _ => True) (hC : ∀ c ∈ C₁, ∀ j ∈ c.refs, j < C₁.length) :
    ExecT K w n k env Γ C T (.nxt Γ₁) C₁ := by
  intro A s b kp fs Q E hR S F hn q
  refine h A s b kp fs Q E hR S F hn fun b' fs' h' tk f sb kf hn' S' ho => ?_
  obtain ⟨rfl, F'⟩ := ho
  have hl := S'.len
  rw [List.length_append] at hl
  have S₂ := S'.drop C₁.length fun i c hi hc g hg => (S'.cells.2 i c g hc hg).take fun j hj => hC c (by
    rw [List.getElem?_append_left hi] at hc; exact List.mem_of_getElem? hc) j hj
  rw [List.take_left] at S₂
  refine q b' (fs'.take C₁.length) h' tk .next sb (fun i g hi hg => ?_) (by simp; omega) S₂ ⟨rfl, F'.take hΓ⟩
  obtain ⟨g', e', z⟩ := kf i g hi hg
  exact ⟨g', by rw [List.getElem?_take, if_pos (by omega)]; exact e', z⟩
end

end
/-! M19 -/
section

section
variable {prog : Program} {w : World} {A : Around} {E : Value → Shared → Prop} {s : Shared}
theorem setitem_slice (l sl b : Addr) (items items2 : Array Value) (n n2 : Nat) (vl vu : Value) (a c : Nat) (t u : Tok) (hac : a ≤ c) (hc : c ≤ items.size) (hz : items.size + items2.size ≤ sizeLine) (hne : l ≠ b) :
    Meets (Builtin.«list.__setitem__» ⟨[.ref l, .ref sl, .ref b], []⟩) (fun _ R s => s.heap.get? l = some { cls := .type "list", dict := none, data := .seq items n, slots := #[] } ∧ s.heap.get? b = some { cls := .type "list", dict := none, data := .seq items2 n2, slots := #[] } ∧
      s.heap.get? sl = some { cls := .type "slice", data := .fields #[.int a t, .int c u, .none] } ∧
      R (.ok (.ret Value.none)) { s with heap := s.heap.update l (Obj.mapSeq fun xs => xs.extract 0 a ++ items2 ++ xs.extract c xs.size) }) :=
  .of_wp fun prog w A R s h => by
    obtain ⟨hl, hb, hs, h⟩ := h
    have hTs : s.TypeIs (.ref sl) "slice" := ⟨_, hs, rfl⟩
    have hTb : s.TypeIs (.ref b) "list" := ⟨_, hb, rfl⟩
    show wpAny _ _ (Builtin.List.listSubscript? (.ref sl) >>= _) _ _ s
    refine wpAny_bind ?_
    unfold Builtin.List.listSubscript?
    refine wpAny_bind (wpAny_specialOf hTs slice_no_index ?_)
    simp only [Option.isNone_none, if_true]
    refine wpAny_pure ?_
    show wpAny _ _ (typeOf (.ref sl) >>= _) _ _ s
    refine wpAny_bind (wpAny_typeOf hTs ?_)
    rw [if_neg (by decide)]
    rw [listSliceParts_eq]
    refine wpAny_bind (wpAny_bind (wpAny_field hs rfl (x := Value.none) rfl (wpAny_bind (wpAny_listPart .none ?_))))
    rw [if_neg (by decide)]
    refine wpAny_bind (wpAny_field hs rfl (x := .int a t) rfl (wpAny_bind (wpAny_listPart (.int (a : Int) t) ?_)))
    refine wpAny_bind (wpAny_field hs rfl (x := .int c u) rfl (wpAny_bind (wpAny_listPart (.int (c : Int) u) (wpAny_pure ?_))))
    rw [if_neg (show ¬ (Builtin.List.listSameRef (.ref l) (.ref b) = true) from by
      show ¬ ((l == b) = true)
      simpa using hne)]
    unfold Builtin.List.listAllItems
    refine wpAny_bind (wpAny_bind (wpAny_typeOf hTb ?_))
    simp only [beq_self_eq_true, Bool.true_or, if_true]
    unfold Builtin.List.listItems
    refine wpAny_bind (wpAny_seqItems hb rfl (wpAny_pure ?_))
    refine wpAny_bind (wpAny_bind (wpAny_seqItems hl rfl (wpAny_pure ?_)))
    refine wpAny_bind (wpAny_of_eq (sliceIndices_raw (some (a : Int)) (some (c : Int)) none items.size (by simp)) ?_)
    have e : sliceBounds (some (a : Int)) (some (c : Int)) none items.size = ((a : Int), (c : Int), 1) := by
      simp only [sliceBounds, Option.getD_none, show (1 : Int) > 0 from by decide, if_true, show ¬ ((a : Int) < 0) from by omega, show ¬ ((c : Int) < 0) from by omega, if_false]
      rw [Int.min_eq_left (by omega), Int.min_eq_left (by omega), Int.max_eq_right (by omega), Int.max_eq_right (by omega)]
    rw [e]
    simp only [beq_self_eq_true, if_true]
    refine wpAny_bind (wpAny_rule ?_)
    rw [if_neg (by simp [Builtin.List.listTooLong]; omega)]
    have e2 : (max (a : Int) (c : Int)).toNat = c := by rw [Int.max_eq_right (by omega)]; rfl
    rw [e2]
    refine wpAny_bind (wpAny_updateSeq hl rfl (hz := by omega) (_hz' := by simp; omega) ?_)
    refine wpAny_bind (wpAny_letGo (wpAny_pure ⟨_, rfl, h⟩))
end

section
variable {K : Frag} {w : World} {n k : Nat} {env cenv : Env} {Γ Γ₁ Γ₂ Γ' Γc : Gam} {C C' C₀ C₁ C₂ C₃ C₄ : List Cell} {b b' : PM} {kp kp' : Kp} {fs fs' : List Foot} {h h' : Heap}

noncomputable abbrev tSet : List Value → Sem Unit := fun vs => setItem (v0 vs) (v1 vs) (v2 vs)
theorem o_setslice {i : Nat} {ds es : List D} {a c : Int} (hi : C[i]? = some (.lst ds)) (h0 : 0 ≤ a) (hac : a ≤ c) (hc : c ≤ ds.length) (hz : ds.length + es.length ≤ sizeLine) :
    OpG K w k C tSet [.c i, .d (.slc (some a) (some c) none), .d (.list es)] (fun _ _ _ => True) (C.set i (.lst (ds.take a.toNat ++ es ++ ds.drop c.toNat))) := by
  obtain ⟨a, rfl⟩ := Int.eq_ofNat_of_zero_le h0
  obtain ⟨c, rfl⟩ := Int.eq_ofNat_of_zero_le (Int.le_trans h0 hac)
  intro A s b kp fs vs Q E hR S hv q
  have h_vs := RepAs.three hv; clear hv; obtain ⟨va, vs, vb, rfl, ha, hs, hb⟩ := h_vs
  obtain ⟨l, xs, n, rfl, hf, e, rl⟩ := rep_cell S hi ha
  obtain ⟨sl, x1, y1, z1, rfl, e1, p1, p2, p3⟩ := rep_slc S hs
  cases p1; cases p2; cases p3
  rename_i t u
  cases hb with
  | list eb rb =>
    rename_i l2 ys n2
    have e2 := S.base _ _ eb
    have hne : l ≠ l2 := fun z => by
      have := (S.foot (l, lstO xs n) (List.mem_flatten.mpr ⟨_, List.mem_of_getElem? hf, List.mem_cons_self⟩)).2.1
      rw [z, eb] at this; cases this
    have hl1 := rl.length
    have hl2 := rb.length
    obtain ⟨n', S', kf⟩ := S.turnL (f := fun zs => zs.extract 0 a ++ ys.toArray ++ zs.extract c zs.size) (vs' := xs.take a ++ ys ++ xs.drop c) hi hf
      (by
        apply Array.toList_inj.mp
        simp only [Array.toList_append, Array.toList_extract, List.size_toArray]
        simp [List.extract_eq_take_drop]
        exact List.take_of_length_le (by simp)) (((rl.take a).append rb).append (rl.drop c))
    show wpAny _ _ (setItem (.ref l) (.ref sl) (.ref l2)) _ _ _
    unfold setItem
    try with_reducible refine wpAny_holding ?_
    first | refine wpAny_bind (wpAny_pure ?_) | skip
    have hT : s.TypeIs (.ref l) "list" := ⟨_, e, rfl⟩
    refine wpAny_bind (wpAny_sequenceKey hT (by decide) ?_)
    refine wpAny_bind (wpAny_callSpecial?_slot (name := Str.ofString "__setitem__") hT PySem.F.slot_list_setitem
      (call_meets PySem.F.slot_list_setitem hT PySem.F.entry_list_setitem (PySem.F.args_list_setitem_3 _ _ _) (setitem_slice l sl l2 xs.toArray ys.toArray n n2 .none .none a c t u (by omega) (by simp; omega) (by simp; omega) hne) ⟨e, e2, e1, ?_⟩))
    exact wpAny_pure (q b _ _ s.toks () Sub.refl kf S' trivial)
theorem ex_setitem {o i e : Expr} {pos spos : Pos} {x y r : AV} (h1 : EvalTo K w k env Γ C e r C₁) (h2 : EvalTo K w k env Γ C₁ o x C₂) (h3 : EvalTo K w k env Γ C₂ i y C₃) (h4 : OpG K w k C₃ tSet [x, y, r] (fun _ _ _ => True) C₄)
    (hs : swapsWithSole [.Subscript o i spos] e pos.line env = pure false) (hw : swappedStores [.Subscript o i spos] e env = pure none) (he : (assignEach [.Subscript o i spos] env).map (·.2) = [assign (.Subscript o i spos) env]) :
    ExecT K w n k env Γ C (exec (.Assign [.Subscript o i spos] e pos) env) (.nxt Γ) C₄ := by
  intro A s b kp fs Q E hR S F hn q
  refine wpAny_Assign_stores (h1 A s b kp fs _ E hR S F fun b₁ fs₁ h₁ tk₁ v sb₁ kf₁ S₁ F₁ r₁ => ?_) hs hw
  rw [he]
  show wpAny _ _ (assign (.Subscript o i spos) env v) _ _ _
  rw [arm_assign_Subscript]
  refine wpAny_bind (wpAny_holding (h2 A _ b₁ kp fs₁ _ E hR S₁ F₁ fun b₂ fs₂ h₂ tk₂ ov sb₂ kf₂ S₂ F₂ r₂ => ?_))
  refine wpAny_bind (wpAny_holding (h3 A _ b₂ kp fs₂ _ E hR S₂ F₂ fun b₃ fs₃ h₃ tk₃ iv sb₃ kf₃ S₃ F₃ r₃ => ?_))
  refine wpAny_bind (wpAny_standAt (wpAny_bind (wpAny_holding ?_)))
  refine h4.tree (s := { s with heap := h₃, toks := tk₃ }) (vs := [ov, iv, v]) hR S₃ F₃ ⟨r₂.mono sb₃ kf₃, r₃, (r₁.mono sb₂ kf₂).mono sb₃ kf₃, trivial⟩ fun b₄ fs₄ h₄ tk₄ _ sb₄ kf₄ S₄ F₄ _ => ?_
  have kf := kf₁.then (kf₂.then (kf₃.then kf₄))
  exact wpAny_release (q b₄ fs₄ h₄ tk₄ .next (sb₁.trans (sb₂.trans (sb₃.trans sb₄))) (kf.le hn) (Nat.le_trans hn kf.len) S₄ ⟨rfl, F₄⟩)

/-! unpacking a list -/
theorem draw_list {A : Around} {E : Value → Shared → Prop} {it l : Addr} {items : Array Value} (hne : l ≠ it) : ∀ (n i : Nat) (s : Shared) (Q : List Value → Shared → Prop), s.heap.IsListIter it l i → s.heap.IsList l items → i + n ≤ items.size →
    (∀ h', h'.IsListIter it l (i + n) → Heap.SameBut it s.heap h' → Q ((items.toList.drop i).take n) { s with heap := h' }) → wpAny (model prg w) A (draw (.ref it) n) Q E s
  | 0, i, s, Q, hit, _, _, hQ => by
    show wpAny _ _ (pure []) Q E s
    exact wpAny_pure (by simpa using hQ s.heap hit (Heap.SameBut.refl ..))
  | n + 1, i, s, Q, hit, ht, hle, hQ => by
    have hlt : i < items.size := by omega
    show wpAny _ _ (pyNext (.ref it) >>= _) Q E s
    refine wpAny_bind (wpAny_pyNext_list_item hit ht (x := items[i]) (by simp [hlt]) fun h₁ hit₁ hs₁ => ?_)
    refine wpAny_bind (wpAny_holding (draw_list hne n (i + 1) _ _ hit₁ (ht.extBut hs₁.extBut hne) (by omega) fun h₂ hit₂ hs₂ => wpAny_pure ?_))
    have hd : items.toList.drop i = items[i] :: items.toList.drop (i + 1) := by simp [List.drop_eq_getElem_cons, hlt]
    have := hQ h₂ (by rw [show i + (n + 1) = i + 1 + n by omega]; exact hit₂) (hs₁.trans hs₂)
    rw [hd, List.take_succ_cons] at this
    exact this
theorem assign_Tuple_list {A : Around} {s : Shared} {E : Value → Shared → Prop} {elts : List Expr} {x1 : Nat} {pos : Pos} {t : Addr} {items : Array Value} {Q : Unit → Shared → Prop} (hh : A.handled = none) (ht : s.heap.IsList t items)
    (hn : (assignEach elts env).length = items.size) (hstar : (assignEach elts env).findIdx? (·.1) = none)
    (h : ∀ h', Heap.ExtBut s.heap.objs.size s.heap h' → wpAny (model prg w) A (assignInOrder ((assignEach elts env).map (·.2)) items.toList) Q E { s with heap := h' }) :
    wpAny (model prg w) A (assign (.Tuple elts x1 pos) env (.ref t)) Q E s := by
  have hlt : t ≠ s.heap.objs.size := by obtain ⟨o, ho, _⟩ := ht; exact Nat.ne_of_lt (Heap.lt_size ho)
  rw [arm_assign_Tuple]
  refine wpAny_bind (wpAny_standAt ?_)
  unfold unpack
  rw [hn, hstar]
  refine wpAny_bind (wpAny_holding ?_)
  unfold unpackItems
  refine wpAny_bind ?_
  · unfold notIterableAtAll
    refine wpAny_bind (wpAny_specialOf ht.typeIs slot_list_iter.lookup ?_)
    refine wpAny_pure ?_
    simp only [Bool.false_eq_true, if_false]
    refine wpAny_bind (wpAny_holding (wpAny_pyIter_list ht ?_))
    refine wpAny_bind (wpAny_holding (draw_list hlt items.size 0 _ _ ⟨_, Heap.get?_push_size _ rfl, rfl, rfl⟩ (ht.push _) (by omega) fun h₁ hit₁ hs₁ => ?_))
    have hall : List.take items.size (List.drop 0 items.toList) = items.toList := by
      rw [List.drop_zero]; exact List.take_of_length_le (by simp)
    rw [hall]
    rw [if_neg (by simp)]
    have ht₁ : h₁.IsList t items := (ht.push _).extBut hs₁.extBut hlt
    refine wpAny_bind (wpAny_holding (wpAny_pyNext_list_end hh hit₁ ht₁ (by simp) fun h₂ he₂ => ?_))
    simp only [Option.isSome_none, Bool.false_eq_true, if_false]
    refine wpAny_pure (h h₂ fun b o hb e => he₂ b o hb (hs₁.extBut b o hb (Heap.get?_push_of_some _ e)))
theorem as_tupl {ts : List Expr} {kk : Nat} {pos : Pos} {ds : List D} (h : AssignsTo K w env Γ C ts ds Γ' C') : AssignTo K w env Γ C (.Tuple ts kk pos) (.one (.list ds)) Γ' C' := by
  intro A s b kp fs v Q E hh S F hi q
  obtain ⟨a, vs, n, rfl, e, r⟩ := rep_list S hi
  obtain ⟨l1, l2⟩ := h.len
  refine assign_Tuple_list hh (isList_of e) (by rw [l1]; simp [r.length]) l2 fun h' he => ?_
  have hk : ∀ a o, s.heap.get? a = some o → h'.get? a = some o := fun a o e => he a o (Nat.ne_of_lt (Heap.lt_size e)) e
  exact assigns_to h A _ b kp fs vs Q E hh (S.keeps hk) (F.keeps hk) r fun fs' h₁ tk kf hl S₁ F₁ => q fs' h₁ tk kf hl S₁ F₁

/-! methods of built-in values -/
theorem mg_list {r : AV} {ds : List D} {name : Str} {id : String} (L : LstV C r ds) (slot : Slot "list" name id) (ty : typeOf (.builtin id) = pure (.type "method_descriptor")) : MethG K w k C name r (.builtin id) := by
  intro pl A s b kp fs vs Q E hR S hv q
  have h_vs := RepAs.one hv; clear hv; obtain ⟨va, rfl, ha⟩ := h_vs
  obtain ⟨a, vs, n, rfl, e, rl⟩ := L.at S ha
  exact getMethod_builtin ⟨_, e, rfl⟩ PySem.F.plainAttrs_list slot ty (fun c hc => by injection hc with hc; subst hc; exact ⟨_, e, rfl⟩) (q b fs s.heap s.toks _ Sub.refl Keep.refl S ⟨rfl, ha, trivial⟩)
theorem mg_str {x : Str} {name : Str} {id : String} (slot : Slot "str" name id) (ty : typeOf (.builtin id) = pure (.type "method_descriptor")) : MethG K w k C name (.d (.str x)) (.builtin id) := by
  intro pl A s b kp fs vs Q E hR S hv q
  have h_vs := RepAs.one hv; clear hv; obtain ⟨va, rfl, ha⟩ := h_vs
  cases ha
  exact getMethod_builtin (typeIs_str s _ _) PySem.F.plainAttrs_str slot ty (fun c hc => nomatch hc) (q b fs s.heap s.toks _ Sub.refl Keep.refl S ⟨rfl, .str, trivial⟩)
end

end
/-! M20 -/
section
theorem lk_here {x : Str} {r : VB} {Γ : Gam} : List.lookup x ((x, r) :: Γ) = some r := by rw [List.lookup_cons]; simp
theorem lk_there {x y : Str} {r : VB} {Γ : Gam} {z : Option VB} (h : (x == y) = false) (e : List.lookup x Γ = z) : List.lookup x ((y, r) :: Γ) = z := by rw [List.lookup_cons, h]; exact e
theorem kd {env : Env} {sc : Scope} {x : Str} {z : NameKind} (h : env.scope = sc) (e : (sc.names.lookup x == some z) = true) : env.kindOf x = some z := by
  show env.scope.names.lookup x = _
  rw [h]; simpa using e
noncomputable def GlobIs (K : Frag) (x : Str) (v : Value) : Prop := nsIn K mainGlobals x = some (some v) ∨ (nsIn K mainGlobals x = some none ∧ nsIn K builtinsNs x = some (some v))
section
variable {P : Params}
theorem g_sum : GlobIs (KK P) (Str.ofString "sum") (.builtin "sum") := .inr ⟨by rfl, by rfl⟩
theorem g_len : GlobIs (KK P) (Str.ofString "len") (.builtin "len") := .inr ⟨by rfl, by rfl⟩
theorem g_max : GlobIs (KK P) (Str.ofString "max") (.builtin "max") := .inr ⟨by rfl, by rfl⟩
theorem g_min : GlobIs (KK P) (Str.ofString "min") (.builtin "min") := .inr ⟨by rfl, by rfl⟩
theorem g_iter : GlobIs (KK P) (Str.ofString "iter") (.builtin "iter") := .inr ⟨by rfl, by rfl⟩
theorem g_next : GlobIs (KK P) (Str.ofString "next") (.builtin "next") := .inr ⟨by rfl, by rfl⟩
theorem g_ord : GlobIs (KK P) (Str.ofString "ord") (.builtin "ord") := .inr ⟨by rfl, by rfl⟩
theorem g_chr : GlobIs (KK P) (Str.ofString "chr") (.builtin "chr") := .inr ⟨by rfl, by rfl⟩
theorem g_enumerate : GlobIs (KK P) (Str.ofString "enumerate") (.type "enumerate") := .inr ⟨by rfl, by rfl⟩
theorem g_zip : GlobIs (KK P) (Str.ofString "zip") (.type "zip") := .inr ⟨by rfl, by rfl⟩
theorem g_range : GlobIs (KK P) (Str.ofString "range") (.type "range") := .inr ⟨by rfl, by rfl⟩
theorem g_type : GlobIs (KK P) (Str.ofString "type") (.type "type") := .inr ⟨by rfl, by rfl⟩
theorem g_str : GlobIs (KK P) (Str.ofString "str") (.type "str") := .inr ⟨by rfl, by rfl⟩
theorem g_bool : GlobIs (KK P) (Str.ofString "bool") (.type "bool") := .inr ⟨by rfl, by rfl⟩
theorem g_list : GlobIs (KK P) (Str.ofString "list") (.type "list") := .inr ⟨by rfl, by rfl⟩
theorem g_StopIteration : GlobIs (KK P) (Str.ofString "StopIteration") (.type "StopIteration") := .inr ⟨by rfl, by rfl⟩
theorem g_c7_set : GlobIs (KK P) (Str.ofString "c7_set") (.ref 40) := .inl (by rfl)
theorem g_in_table_c7 : GlobIs (KK P) (Str.ofString "in_table_c7") (.ref 50) := .inl (by rfl)
theorem g__parse_varint : GlobIs (KK P) (Str.ofString "_parse_varint") (.ref 57) := .inl (by rfl)
theorem g__twin_re_1 : GlobIs (KK P) (Str.ofString "_twin_re_1") (.ref 62) := .inl (by rfl)
theorem g__twin_re_2 : GlobIs (KK P) (Str.ofString "_twin_re_2") (.ref 67) := .inl (by rfl)
theorem g_quotedata : GlobIs (KK P) (Str.ofString "quotedata") (.ref 74) := .inl (by rfl)
theorem g__name_disallowed_re : GlobIs (KK P) (Str.ofString "_name_disallowed_re") (.ref 84) := .inl (by rfl)
theorem g__value_disallowed_re : GlobIs (KK P) (Str.ofString "_value_disallowed_re") (.ref 89) := .inl (by rfl)
theorem g_Headers : GlobIs (KK P) (Str.ofString "Headers") (.ref 218) := .inl (by rfl)
theorem g__law_grown : GlobIs (KK P) (Str.ofString "_law_grown") (.ref 227) := .inl (by rfl)
theorem g__law_read : GlobIs (KK P) (Str.ofString "_law_read") (.ref 234) := .inl (by rfl)
theorem g__law_arms : GlobIs (KK P) (Str.ofString "_law_arms") (.ref 241) := .inl (by rfl)
theorem g__law_sent : GlobIs (KK P) (Str.ofString "_law_sent") (.ref 246) := .inl (by rfl)
theorem g__law_least : GlobIs (KK P) (Str.ofString "_law_least") (.ref 253) := .inl (by rfl)
theorem g__law_again : GlobIs (KK P) (Str.ofString "_law_again") (.ref 260) := .inl (by rfl)
theorem g__law_rows : GlobIs (KK P) (Str.ofString "_law_rows") (.ref 267) := .inl (by rfl)
theorem g__law_bounded : GlobIs (KK P) (Str.ofString "_law_bounded") (.ref 274) := .inl (by rfl)
end
section
variable {K : Frag} {w : World} {n k : Nat} {env : Env} {Γ : Gam} {C : List Cell}
theorem ev_g {sc : Scope} {x : Str} {pos : Pos} {v : Value} (hs : env.scope = sc) (hl : (sc.names.lookup x == some .globalImplicit) = true) (e : GlobIs K x v) (hd : (x == ("__debug__" : Str)) = false) : EvalTo K w k env Γ C (.Name x pos) (.d (.v v)) C :=
  ev_glob (kd hs hl) e hd
theorem ev_n {x : Str} {pos : Pos} {r : AV} (hx : List.lookup x Γ = some (.loc r)) (hd : (x == ("__debug__" : Str)) = false) : EvalTo K w k env Γ C (.Name x pos) r C := ev_name hx hd
end

/-! the defs -/
theorem KK_lim (P : Params) : Lim (KK P) := ⟨lim_KK P⟩
section
variable {P : Params} {w : World} {k : Nat} {C C₁ : List Cell}
theorem fn1 {a : Addr} {fd : FuncData} {body : List Stmt} {p : Str} {x r : AV} (D : DefAt (KK P) a fd body) (hb : ∀ v, bindArgs fd ⟨[v], []⟩ = pure [(p, v)]) (hp : (fd.scope.names.lookup p == some .local) = true) (hc : (fd.scope.names.all fun x => x.2 != .cell) = true) (hr : r.closed C.length)
    (h : ∀ L, ExecT (KK P) w C.length k (envOf fd.qualname fd.scope L a fd.code) [(p, .loc x)] C (execs body (envOf fd.qualname fd.scope L a fd.code)) (.ret r) (C ++ C₁)) : Op (KK P) w (k + 1) C (fun vs => call (.ref a) vs []) [x] r C :=
  call_fn (ps := [p]) (pargs := [x]) id D (KK_lim P) (fun s vs X hl => by obtain ⟨v, rfl⟩ := len1 hl; exact BindsTo.of_eq (hb v)) (fun _ _ _ h => h) (fun q hq => by simp at hq; subst hq; simpa using hp) (by simp) (fun y hy => by have := List.all_eq_true.mp hc y hy; simpa using this) rfl (fun h => h) hr h
theorem fn2 {a : Addr} {fd : FuncData} {body : List Stmt} {p p' : Str} {x x' r : AV} (D : DefAt (KK P) a fd body) (hb : ∀ v v', bindArgs fd ⟨[v, v'], []⟩ = pure [(p, v), (p', v')]) (hp : (fd.scope.names.lookup p == some .local && fd.scope.names.lookup p' == some .local) = true) (hc : (fd.scope.names.all fun x => x.2 != .cell) = true) (hn : p ≠ p') (hr : r.closed C.length)
    (h : ∀ L, ExecT (KK P) w C.length k (envOf fd.qualname fd.scope L a fd.code) [(p, .loc x), (p', .loc x')] C (execs body (envOf fd.qualname fd.scope L a fd.code)) (.ret r) (C ++ C₁)) : Op (KK P) w (k + 1) C (fun vs => call (.ref a) vs []) [x, x'] r C :=
  call_fn (ps := [p, p']) (pargs := [x, x']) id D (KK_lim P) (fun s vs X hl => by obtain ⟨v, v', rfl⟩ := len2 hl; exact BindsTo.of_eq (hb v v')) (fun _ _ _ h => h) (fun q hq => by
    simp only [Bool.and_eq_true, beq_iff_eq] at hp
    simp at hq; rcases hq with rfl | rfl
    · exact hp.1
    · exact hp.2) (by simp [hn]) (fun y hy => by have := List.all_eq_true.mp hc y hy; simpa using this) rfl (fun h => h) hr h
theorem fn3 {a : Addr} {fd : FuncData} {body : List Stmt} {p p' p'' : Str} {x x' x'' r : AV} (D : DefAt (KK P) a fd body) (hb : ∀ v v' v'', bindArgs fd ⟨[v, v', v''], []⟩ = pure [(p, v), (p', v'), (p'', v'')]) (hp : (fd.scope.names.lookup p == some .local && (fd.scope.names.lookup p' == some .local && fd.scope.names.lookup p'' == some .local)) = true) (hc : (fd.scope.names.all fun x => x.2 != .cell) = true) (hn : p ≠ p' ∧ p ≠ p'' ∧ p' ≠ p'') (hr : r.closed C.length)
    (h : ∀ L, ExecT (KK P) w C.length k (envOf fd.qualname fd.scope L a fd.code) [(p, .loc x), (p', .loc x'), (p'', .loc x'')] C (execs body (envOf fd.qualname fd.scope L a fd.code)) (.ret r) (C ++ C₁)) : Op (KK P) w (k + 1) C (fun vs => call (.ref a) vs []) [x, x', x''] r C :=
  call_fn (ps := [p, p', p'']) (pargs := [x, x', x'']) id D (KK_lim P) (fun s vs X hl => by obtain ⟨v, v', v'', rfl⟩ := len3 hl; exact BindsTo.of_eq (hb v v' v'')) (fun _ _ _ h => h) (fun q hq => by
    simp only [Bool.and_eq_true, beq_iff_eq] at hp
    simp at hq; rcases hq with rfl | rfl | rfl
    · exact hp.1
    · exact hp.2.1
    · exact hp.2.2) (by simp [hn]) (fun y hy => by have := List.all_eq_true.mp hc y hy; simpa using this) rfl (fun h => h) hr h
theorem EvalTo.eq {K : Frag} {env : Env} {Γ : Gam} {C C' : List Cell} {e : Expr} {r r' : AV} (h : EvalTo K w k env Γ C e r C') (hr : r = r') : EvalTo K w k env Γ C e r' C' := hr ▸ h
theorem o_lenM {α : Type} {K : Frag} {f : α → D} {r : AV} {xs : List α} (L : LstV C r (xs.map f)) (hz : xs.length ≤ sizeLine) : Op K w k C (fun vs => call (.builtin "len") vs []) [r] (.d (.int xs.length)) C := by
  have := o_len (K := K) (w := w) (k := k) L (by simpa using hz)
  simpa using this
end
section
variable {P : Params}
theorem def_50 : DefAt (KK P) 50 (codeOf P 50) (stBody (topAt 4)) := ⟨⟨_, _, _, rfl⟩, rfl, rfl, rfl, rfl, by rfl, by rfl, by rfl, by rfl⟩
theorem def_57 : DefAt (KK P) 57 (codeOf P 57) (stBody (topAt 6)) := ⟨⟨_, _, _, rfl⟩, rfl, rfl, rfl, rfl, by rfl, by rfl, by rfl, by rfl⟩
theorem def_74 : DefAt (KK P) 74 (codeOf P 74) (stBody (topAt 11)) := ⟨⟨_, _, _, rfl⟩, rfl, rfl, rfl, rfl, by rfl, by rfl, by rfl, by rfl⟩
theorem def_227 : DefAt (KK P) 227 (codeOf P 227) (stBody (topAt 19)) := ⟨⟨_, _, _, rfl⟩, rfl, rfl, rfl, rfl, by rfl, by rfl, by rfl, by rfl⟩
theorem def_234 : DefAt (KK P) 234 (codeOf P 234) (stBody (topAt 20)) := ⟨⟨_, _, _, rfl⟩, rfl, rfl, rfl, rfl, by rfl, by rfl, by rfl, by rfl⟩
theorem def_241 : DefAt (KK P) 241 (codeOf P 241) (stBody (topAt 21)) := ⟨⟨_, _, _, rfl⟩, rfl, rfl, rfl, rfl, by rfl, by rfl, by rfl, by rfl⟩
theorem def_246 : DefAt (KK P) 246 (codeOf P 246) (stBody (topAt 22)) := ⟨⟨_, _, _, rfl⟩, rfl, rfl, rfl, rfl, by rfl, by rfl, by rfl, by rfl⟩
theorem def_253 : DefAt (KK P) 253 (codeOf P 253) (stBody (topAt 23)) := ⟨⟨_, _, _, rfl⟩, rfl, rfl, rfl, rfl, by rfl, by rfl, by rfl, by rfl⟩
theorem def_260 : DefAt (KK P) 260 (codeOf P 260) (stBody (topAt 24)) := ⟨⟨_, _, _, rfl⟩, rfl, rfl, rfl, rfl, by rfl, by rfl, by rfl, by rfl⟩
theorem def_267 : DefAt (KK P) 267 (codeOf P 267) (stBody (topAt 25)) := ⟨⟨_, _, _, rfl⟩, rfl, rfl, rfl, rfl, by rfl, by rfl, by rfl, by rfl⟩
theorem def_274 : DefAt (KK P) 274 (codeOf P 274) (stBody (topAt 26)) := ⟨⟨_, _, _, rfl⟩, rfl, rfl, rfl, rfl, by rfl, by rfl, by rfl, by rfl⟩
theorem def_279 : DefAt (KK P) 279 (codeOf P 279) (stBody (topAt 27)) := ⟨⟨_, _, _, rfl⟩, rfl, rfl, rfl, rfl, by rfl, by rfl, by rfl, by rfl⟩
theorem def_112 : DefAt (KK P) 112 (codeOf P 112) (stBody (clsAt 17 0)) := ⟨⟨_, _, _, rfl⟩, rfl, rfl, rfl, rfl, by rfl, by rfl, by rfl, by rfl⟩
theorem def_119 : DefAt (KK P) 119 (codeOf P 119) (stBody (clsAt 17 1)) := ⟨⟨_, _, _, rfl⟩, rfl, rfl, rfl, rfl, by rfl, by rfl, by rfl, by rfl⟩
theorem def_157 : DefAt (KK P) 157 (codeOf P 157) (stBody (clsAt 17 7)) := ⟨⟨_, _, _, rfl⟩, rfl, rfl, rfl, rfl, by rfl, by rfl, by rfl, by rfl⟩
theorem def_182 : DefAt (KK P) 182 (codeOf P 182) (stBody (clsAt 17 11)) := ⟨⟨_, _, _, rfl⟩, rfl, rfl, rfl, rfl, by rfl, by rfl, by rfl, by rfl⟩
theorem def_194 : DefAt (KK P) 194 (codeOf P 194) (stBody (clsAt 17 13)) := ⟨⟨_, _, _, rfl⟩, rfl, rfl, rfl, rfl, by rfl, by rfl, by rfl, by rfl⟩
theorem def_215 : DefAt (KK P) 215 (codeOf P 215) (stBody (clsAt 17 16)) := ⟨⟨_, _, _, rfl⟩, rfl, rfl, rfl, rfl, by rfl, by rfl, by rfl, by rfl⟩
end

end
/-! M21 -/
section
section
variable {K : Frag} {w : World} {n k : Nat} {env : Env} {Γ Γ' Γ₁ : Gam} {C C' C₁ C₂ : List Cell}
theorem TestTo.eq {e : Expr} {z z' : Bool} (h : TestTo K w k env Γ C e z C') (hr : z = z') : TestTo K w k env Γ C e z' C' := hr ▸ h
theorem ExecT.eq {T : Sem Flow} {o o' : Out} (h : ExecT K w n k env Γ C T o C') (hr : o = o') : ExecT K w n k env Γ C T o' C' := hr ▸ h
theorem ExecT.cells {T : Sem Flow} {o : Out} (h : ExecT K w n k env Γ C T o C') (hr : C' = C₁) : ExecT K w n k env Γ C T o C₁ := hr ▸ h
theorem Op.eq {T : List Value → Sem Value} {rs : List AV} {r r' : AV} (h : Op K w k C T rs r C') (hr : r = r') : Op K w k C T rs r' C' := hr ▸ h
theorem less_cons {y : Str} {v : VB} {Γ : Gam} (h : List.lookup y Γ = none) : ∀ x r, Γ.lookup x = some r → List.lookup x ((y, v) :: Γ) = some r := fun x r e => by
  rw [List.lookup_cons]
  by_cases q : x = y
  · subst q; rw [h] at e; cases e
  · have : (x == y) = false := by simpa using q
    rw [this]; exact e
theorem lk_none {x : Str} : List.lookup x ([] : Gam) = none := rfl
theorem ex_ift {t : Expr} {x y : List Stmt} {pos : Pos} {p : Bool} {o : Out} (h : TestTo K w k env Γ C t p C₁) (hp : p = true) (ht : ExecT K w n k env Γ C₁ (execs x env) o C₂) : ExecT K w n k env Γ C (exec (.If t x y pos) env) o C₂ :=
  ex_if h (fun _ => ht) fun e => by rw [hp] at e; cases e
theorem ex_iff {t : Expr} {x y : List Stmt} {pos : Pos} {p : Bool} {o : Out} (h : TestTo K w k env Γ C t p C₁) (hp : p = false) (ht : ExecT K w n k env Γ C₁ (execs y env) o C₂) : ExecT K w n k env Γ C (exec (.If t x y pos) env) o C₂ :=
  ex_if h (fun e => by rw [hp] at e; cases e) fun _ => ht
/-- a loop that looks for the first -/
theorem loop_find {α : Type} {target : Expr} {body : List Stmt} {f : α → Item} {R : α → AV} (p : α → Bool) : ∀ ks : List α,
    (∀ x ∈ ks, p x = false → ∃ Γ₁, AssignTo K w env Γ C target (f x) Γ₁ C ∧ ExecT K w n k env Γ₁ C (execs body env) (.nxt Γ) C) →
    (∀ x ∈ ks, p x = true → ∃ Γ₁, AssignTo K w env Γ C target (f x) Γ₁ C ∧ ExecT K w n k env Γ₁ C (execs body env) (.ret (R x)) C) →
    LoopTo K w n k env target body (ks.map f) Γ C (match ks.find? p with | some x => .ret (R x) | none => .nxt Γ) C
  | [], _, _ => .done
  | x :: ks, h1, h2 => by
    rw [List.map_cons, List.find?_cons]
    cases hp : p x with
    | true =>
      obtain ⟨Γ₁, a, e⟩ := h2 x List.mem_cons_self hp
      exact .stop a e
    | false =>
      obtain ⟨Γ₁, a, e⟩ := h1 x List.mem_cons_self hp
      exact .step a e (loop_find p ks (fun y hy => h1 y (List.mem_cons_of_mem _ hy)) fun y hy => h2 y (List.mem_cons_of_mem _ hy))
theorem loop_none {α : Type} {target : Expr} {body : List Stmt} {f : α → Item} {ks : List α} {p : α → Bool} (hf : ks.find? p = none)
    (h1 : ∀ x ∈ ks, p x = false → ∃ Γ₁, AssignTo K w env Γ C target (f x) Γ₁ C ∧ ExecT K w n k env Γ₁ C (execs body env) (.nxt Γ) C) : LoopTo K w n k env target body (ks.map f) Γ C (.nxt Γ) C := by
  have h2 : ∀ x ∈ ks, p x = true → ∃ Γ₁, AssignTo K w env Γ C target (f x) Γ₁ C ∧ ExecT K w n k env Γ₁ C (execs body env) (.ret (.d .none)) C := fun x hx hp => by
    have := List.find?_eq_none.mp hf x hx
    rw [hp] at this; exact absurd rfl this
  have := loop_find (R := fun _ => .d .none) p ks h1 h2
  rw [hf] at this; exact this
theorem loop_some {α : Type} {target : Expr} {body : List Stmt} {f : α → Item} {x₀ : α} {r : AV} {p : α → Bool} : ∀ {ks : List α}, ks.find? p = some x₀ →
    (∀ x ∈ ks, p x = false → ∃ Γ₁, AssignTo K w env Γ C target (f x) Γ₁ C ∧ ExecT K w n k env Γ₁ C (execs body env) (.nxt Γ) C) →
    (∃ Γ₁, AssignTo K w env Γ C target (f x₀) Γ₁ C ∧ ExecT K w n k env Γ₁ C (execs body env) (.ret r) C) → LoopTo K w n k env target body (ks.map f) Γ C (.ret r) C
  | [], hf, _, _ => by simp at hf
  | x :: ks, hf, h1, h2 => by
    rw [List.find?_cons] at hf
    rw [List.map_cons]
    cases hp : p x with
    | true =>
      rw [hp] at hf
      cases hf
      obtain ⟨Γ₁, a, e⟩ := h2
      exact .stop a e
    | false =>
      rw [hp] at hf
      obtain ⟨Γ₁, a, e⟩ := h1 x List.mem_cons_self hp
      exact .step a e (loop_some hf (fun y hy => h1 y (List.mem_cons_of_mem _ hy)) h2)
theorem rangeItems_nat (a c : Nat) : rangeItems (a : Int) (c : Int) = (List.range' a (c - a)).map fun i : Nat => Item.one (.int (i : Nat)) := by
  unfold rangeItems
  have : ((c : Int) - (a : Int)).toNat = c - a := by omega
  rw [this, List.range'_eq_map_range, List.map_map]
  apply List.map_congr_left
  intro i _
  simp
theorem rangeItems_zero (c : Nat) : rangeItems 0 (c : Int) = (List.range c).map fun i : Nat => Item.one (.int (i : Nat)) := by
  have := rangeItems_nat 0 c
  rw [Nat.sub_zero] at this
  rw [show (0 : Int) = ((0 : Nat) : Int) from rfl, this, List.range_eq_range']
/-- a call as a test -/
theorem tst_call {f : Expr} {es : List Expr} {kws : List Keyword} {pos : Pos} {z : Bool} (h1 : EvalTo K w k env Γ C (.Call f es kws pos) (.d (.bool z)) C₁) : TestTo K w k env Γ C (.Call f es kws pos) z C₁ := tst_val h1 truth_bool rfl
theorem tst_name {x : Str} {pos : Pos} {z : Bool} (h1 : EvalTo K w k env Γ C (.Name x pos) (.d (.bool z)) C₁) : TestTo K w k env Γ C (.Name x pos) z C₁ := tst_val h1 truth_bool rfl
end

end
/-! M22 -/
section
section
variable {K : Frag} {w : World} {n k : Nat} {env : Env} {Γ Γ' Γ₁ : Gam} {C C' C₁ C₂ : List Cell}
theorem less_shadow {y : Str} {a b : VB} {Γ : Gam} : ∀ x r, List.lookup x ((y, a) :: Γ) = some r → List.lookup x ((y, a) :: (y, b) :: Γ) = some r := fun x r e => by
  rw [List.lookup_cons] at e ⊢
  cases h : x == y with
  | true => rw [h] at e; exact e
  | false => rw [h] at e; rw [List.lookup_cons, h]; exact e
theorem inter_fn {sc : Scope} (h : env.scope = sc) (hk : (sc.kind == .module) = false) : interactive env = false := by
  unfold interactive; rw [h, hk]; rfl
noncomputable def GSub (Γ₂ Γ₁ : Gam) : Prop := ∀ x r, List.lookup x Γ₂ = some r → List.lookup x Γ₁ = some r
theorem GSub.nil {Γ₁ : Gam} : GSub [] Γ₁ := fun x r e => by simp at e
theorem GSub.c {Γ₁ Γ₂ : Gam} {y : Str} {v : VB} (h : List.lookup y Γ₁ = some v) (t : GSub Γ₂ Γ₁) : GSub ((y, v) :: Γ₂) Γ₁ := fun x r e => by
  rw [List.lookup_cons] at e
  cases q : x == y with
  | true =>
    rw [q] at e
    have : x = y := by simpa using q
    rw [this]; rw [h]; exact e
  | false => rw [q] at e; exact t x r e
theorem set_last (a c : Cell) (C : List Cell) : (C ++ [a]).set C.length c = C ++ [c] := by simp
theorem get_last (a : Cell) (C : List Cell) : (C ++ [a])[C.length]? = some a := by simp
theorem nb_c {Γ : Gam} {y : Str} {r : AV} {i : Nat} (t : ∀ x, List.lookup x Γ ≠ some (.box i)) : ∀ x, List.lookup x ((y, .loc r) :: Γ) ≠ some (.box i) := fun x e => by
  rw [List.lookup_cons] at e
  cases q : x == y with
  | true => rw [q] at e; cases e
  | false => rw [q] at e; exact t x e
theorem nb_nil {i : Nat} : ∀ x, List.lookup x ([] : Gam) ≠ some (.box i) := fun x e => by simp at e
theorem norefs_last {a : Cell} {C : List Cell} (hC : ∀ c ∈ C, ∀ j ∈ c.refs, j < C.length) : ∀ j c, j ≠ C.length → (C ++ [a])[j]? = some c → C.length ∉ c.refs := fun j c hj hc hm => by
  by_cases h : j < C.length
  · rw [List.getElem?_append_left h] at hc
    have := hC c (List.mem_of_getElem? hc) _ hm
    omega
  · rw [List.getElem?_eq_none (by simp; omega)] at hc; cases hc
noncomputable def upL (p : Nat → Bool) : Nat → Nat → Nat
  | 0, l => l
  | m + 1, l => if p l then upL p m (l + 1) else l
theorem while_up {test : Expr} {y : Str} {np epos pos : Pos} {kk : Nat} {p : Nat → Bool} {b : Nat} (hy : env.kindOf y = some .local) (hstop : p b = false)
    (ht : ∀ l, l ≤ b → TestTo K w k env ((y, .loc (.d (.int (l : Nat)))) :: Γ) C test (p l) C) : ∀ m l, l + m = b →
    WhileTo K w n k env test [.AugAssign (.Name y np) .Add (.Constant (.int 1) kk epos) pos] m ((y, .loc (.d (.int (l : Nat)))) :: Γ) C (.nxt ((y, .loc (.d (.int (upL p m l : Nat)))) :: Γ)) C
  | 0, l, h => by
    have hl : l = b := by omega
    have := ht l (by omega)
    rw [hl, hstop] at this
    rw [hl]
    exact .done this
  | m + 1, l, h => by
    have t := ht l (by omega)
    unfold upL
    cases hp : p l with
    | false =>
      rw [hp] at t
      simp only [Bool.false_eq_true, if_false]
      exact .done t
    | true =>
      rw [hp] at t
      simp only [if_true]
      have ex : ExecT K w n k env ((y, .loc (.d (.int (l : Nat)))) :: Γ) C (execs [.AugAssign (.Name y np) .Add (.Constant (.int 1) kk epos) pos] env) (.nxt ((y, .loc (.d (.int ((l + 1 : Nat) : Int)))) :: Γ)) C :=
        exs_cons (ex_aug lk_here ev_int (by have := o_iadd (K := K) (w := w) (k := k) (C := C) (x := (l : Int)) (y := 1); simpa using this) hy) exs_nil |>.less less_shadow
      exact .step t ex (while_up hy hstop ht m (l + 1) (by omega))
/-- a loop by its places -/
theorem loop_idx {target : Expr} {body : List Stmt} {f : Nat → Item} {Γs : Nat → Gam} {Cs : Nat → List Cell} {N : Nat} (h : ∀ j, j < N → ∃ Γ₁ C₁, AssignTo K w env (Γs j) (Cs j) target (f j) Γ₁ C₁ ∧ ExecT K w n k env Γ₁ C₁ (execs body env) (.nxt (Γs (j + 1))) (Cs (j + 1))) :
    LoopTo K w n k env target body ((List.range N).map f) (Γs 0) (Cs 0) (.nxt (Γs N)) (Cs N) := by
  have go : ∀ m j, j + m = N → LoopTo K w n k env target body ((List.range' j m).map f) (Γs j) (Cs j) (.nxt (Γs N)) (Cs N) := by
    intro m
    induction m with
    | zero => intro j hj; simp at hj; subst hj; exact .done
    | succ m ih =>
      intro j hj
      obtain ⟨Γ₁, C₁, a, e⟩ := h j (by omega)
      rw [List.range'_succ, List.map_cons]
      exact .step a e (ih (j + 1) (by omega))
  rw [List.range_eq_range']
  exact go N 0 (by omega)
theorem enumItems_map {α : Type} (f : α → D) (d : α) (xs : List α) : enumItems (xs.map f) = (List.range xs.length).map fun j : Nat => Item.tup [.int (j : Nat), f (xs.getD j d)] := by
  apply List.ext_getElem
  · simp [enumItems]
  · intro i h1 h2
    simp [enumItems] at h1 ⊢
    rw [List.getElem?_eq_getElem h1]
    rfl
theorem oneItems_map {α : Type} (f : α → D) (d : α) (xs : List α) : (xs.map f).map Item.one = (List.range xs.length).map fun j : Nat => Item.one (f (xs.getD j d)) := by
  apply List.ext_getElem
  · simp
  · intro i h1 h2
    simp at h1 ⊢
    rw [List.getElem?_eq_getElem (by omega)]
    rfl
theorem o_getM {α : Type} {f : α → D} {r : AV} {xs : List α} {ii : Int} (d : α) (i : Nat) (ei : ii = i) (hi : i < xs.length) (hz : xs.length ≤ 100000) (L : LstV C r (xs.map f)) : Op K w k C tGet [r, .d (.int ii)] (.d (f (xs.getD i d))) C := by
  subst ei
  refine o_get L (by omega) (by omega) ?_
  rw [List.getD_eq_getElem?_getD]
  simp [hi]
end

end
/-! M23 -/
section
section
variable {K : Frag} {w : World} {n k : Nat} {env cenv : Env} {Γ Γ' Γ₁ Γc : Gam} {C C' C₁ C₂ : List Cell}
theorem AssignTo.weak {t : Expr} {i : Item} (h : AssignTo K w env Γ C t i Γ' C') (s : GSub Γ Γ₁) : AssignTo K w env Γ₁ C t i Γ' C' :=
  fun A st b kp fs v Q E hh S F hi q => h A st b kp fs v Q E hh S (F.weak s) hi q
theorem CompTo.weak {target : Expr} {ifs : List Expr} {elt : Expr} {is : List Item} {ys : List D} (h : CompTo K w k env target ifs elt is Γ C ys C') (s : GSub Γ Γ₁) : CompTo K w k env target ifs elt is Γ₁ C ys C' := by
  cases h with
  | done => exact .done
  | keep a b c d => exact .keep (a.weak s) b c d
  | skip a b c => exact .skip (a.weak s) b c
theorem comp_filter {α : Type} {target : Expr} {ifs : List Expr} {elt : Expr} {f : α → Item} {g : α → D} {p : α → Bool} : ∀ {xs : List α},
    (∀ x ∈ xs, ∃ Γ₁, AssignTo K w cenv Γ C target (f x) Γ₁ C ∧ IfsTo K w k cenv Γ₁ C ifs (p x) C ∧ (p x = true → EvalTo K w k cenv Γ₁ C elt (.d (g x)) C) ∧ GSub Γ Γ₁) → CompTo K w k cenv target ifs elt (xs.map f) Γ C ((xs.filter p).map g) C
  | [], _ => .done
  | x :: xs, h => by
    obtain ⟨Γ₁, a, b, c, s⟩ := h x List.mem_cons_self
    have ih := comp_filter (xs := xs) fun y hy => h y (List.mem_cons_of_mem _ hy)
    rw [List.map_cons]
    cases hp : p x with
    | true =>
      rw [hp] at b
      rw [List.filter_cons_of_pos hp, List.map_cons]
      exact .keep a b (c hp) (ih.weak s)
    | false =>
      rw [hp] at b
      rw [List.filter_cons_of_neg (by simp [hp])]
      exact .skip a b (ih.weak s)
theorem comp_map {α : Type} {target : Expr} {elt : Expr} {f : α → Item} {g : α → D} {xs : List α}
    (h : ∀ x ∈ xs, ∃ Γ₁, AssignTo K w cenv Γ C target (f x) Γ₁ C ∧ EvalTo K w k cenv Γ₁ C elt (.d (g x)) C ∧ GSub Γ Γ₁) : CompTo K w k cenv target [] elt (xs.map f) Γ C (xs.map g) C := by
  have := comp_filter (K := K) (w := w) (k := k) (cenv := cenv) (Γ := Γ) (C := C) (target := target) (ifs := []) (elt := elt) (f := f) (g := g) (p := fun _ => true) (xs := xs) fun x hx => by
    obtain ⟨Γ₁, a, b, s⟩ := h x hx
    exact ⟨Γ₁, a, .nil, fun _ => b, s⟩
  rw [List.filter_eq_self.mpr (fun _ _ => rfl)] at this
  exact this
noncomputable def compSw (sc scope : Scope) (t : Str) (tp vp : Pos) : Bool := (if sc.kind.isAnnotationScope then ScopeKind.function else sc.kind) == .function && sc.names.lookup t == some .local && tp.line == vp.line && !(scope.names.any fun (n, k) => n == t && (k == .local || k == .cell))
theorem sw_comp {sc scope : Scope} {elt : Expr} {gens : List Comprehension} {pos tp : Pos} {t : Str} {line : Nat} (h : env.scope = sc) (e : compSw sc scope t tp pos = true) : swapsWith (.ListComp elt gens scope pos) (some (.Name t tp)) line env = pure true := by
  show (pure (env.blockKind == .function && env.kindOf t == some .local && tp.line == pos.line && !(scope.names.any fun (n, k) => n == t && (k == .local || k == .cell))) : Sem Bool) = pure true
  unfold Env.blockKind Env.kindOf
  rw [h]
  exact congrArg pure e
theorem nocells {scope : Scope} (h : (scope.names.all fun x => x.2 != .cell) = true) : ∀ x ∈ scope.names, x.2 ≠ .cell := fun x hx => by
  have := List.all_eq_true.mp h x hx
  simpa using this
theorem locnames {scope : Scope} (h : (scope.names.all fun y => y.2 != .local || scope.names.lookup y.1 == some .local) = true) : ∀ y ∈ scope.names, y.2 = .local → scope.names.lookup y.1 = some .local := fun y hy e => by
  have := List.all_eq_true.mp h y hy
  rw [e] at this
  simpa using this
/-- names in a comprehension -/
theorem ckd {scope : Scope} {cl : List (Str × Addr)} {a : Addr} {x : Str} (h : (scope.names.lookup x == some .local) = true) : (compEnvC scope cl a env).kindOf x = some .local :=
  lookup_relabel_local (by simpa using h)
theorem lookup_relabel_glob {env : Env} : ∀ {names : List (Str × NameKind)} {x : Str}, names.lookup x = some .globalImplicit →
    (names.map fun (n, k) => if (k == NameKind.free && env.scope.kind == .function && env.kindOf n == some .cell) then (n, NameKind.cell) else (n, k)).lookup x = some .globalImplicit
  | [], _, h => by simp at h
  | (n, k) :: r, x, h => by
    have ih := @lookup_relabel_glob env r x
    show List.lookup x ((if (k == NameKind.free && env.scope.kind == .function && env.kindOf n == some .cell) = true then (n, NameKind.cell) else (n, k)) :: _) = _
    cases hx : x == n with
    | true =>
      simp only [List.lookup_cons, hx] at h
      cases h
      simp [List.lookup_cons, hx]
    | false =>
      simp only [List.lookup_cons, hx] at h
      by_cases hc : (k == NameKind.free && env.scope.kind == .function && env.kindOf n == some .cell) = true
      · rw [if_pos hc]; simp only [List.lookup_cons, hx]; exact ih h
      · rw [if_neg hc]; simp only [List.lookup_cons, hx]; exact ih h
theorem ckg {scope : Scope} {cl : List (Str × Addr)} {a : Addr} {x : Str} (h : (scope.names.lookup x == some .globalImplicit) = true) : (compEnvC scope cl a env).kindOf x = some .globalImplicit :=
  lookup_relabel_glob (by simpa using h)
theorem ev_cg {scope : Scope} {cl : List (Str × Addr)} {a : Addr} {x : Str} {pos : Pos} {v : Value} (hl : (scope.names.lookup x == some .globalImplicit) = true) (e : GlobIs K x v) (hd : (x == ("__debug__" : Str)) = false) : EvalTo K w k (compEnvC scope cl a env) Γ C (.Name x pos) (.d (.v v)) C :=
  ev_glob (ckg hl) e hd
/-- a comprehension that sees no outer name of its def -/
theorem sees_none {scope : Scope} {cl : List (Str × Addr)} {fs : List Foot} : SeesBox scope cl env fs [] := fun a x r h => by simp at h
theorem ev_comp {target elt iter : Expr} {ifs : List Expr} {scope : Scope} {pos : Pos} {items : List Item} {ys : List D} (hs : SrcTo K w k env Γ C iter target items C₁) (hz : items.length ≤ sizeLine) (hclos : closureFor scope env = pure [])
    (L : ∀ a, CompTo K w k (compEnvC scope [] a env) target ifs elt items [] C₁ ys C') (hc : (scope.names.all fun x => x.2 != .cell) = true) (hk : scope.kind = .function) (hn : (scope.names.all fun y => y.2 != .local || scope.names.lookup y.1 == some .local) = true)
    (hf : ∀ x, foldedSetIterable iter env x = pure x := by intro _; rfl) : EvalTo K w k env Γ C (.ListComp elt [⟨target, iter, ifs, 0⟩] scope pos) (.d (.list ys)) C' :=
  ev_comp_raw (Γc := []) hs hz (fun _ _ _ _ _ => ⟨[], hclos, sees_none, L⟩) (nocells hc) hk (locnames hn) hf
theorem ex_comp {y : Str} {py spos : Pos} {target elt iter : Expr} {ifs : List Expr} {scope sc : Scope} {pos : Pos} {items : List Item} {ys : List D} (he : env.scope = sc) (hs : SrcTo K w k env Γ C iter target items C₁) (hz : items.length ≤ sizeLine) (hclos : closureFor scope env = pure [])
    (L : ∀ a, CompTo K w k (compEnvC scope [] a env) target ifs elt items [] C₁ ys C') (hc : (scope.names.all fun x => x.2 != .cell) = true) (hk : scope.kind = .function) (hn : (scope.names.all fun y => y.2 != .local || scope.names.lookup y.1 == some .local) = true)
    (hy : (sc.names.lookup y == some .local) = true) (hsw : compSw sc scope y py pos = true) (hf : ∀ x, foldedSetIterable iter env x = pure x := by intro _; rfl) :
    ExecT K w n k env Γ C (exec (.Assign [.Name y py] (.ListComp elt [⟨target, iter, ifs, 0⟩] scope pos) spos) env) (.nxt ((y, .loc (.d (.list ys))) :: Γ)) C' :=
  ex_comp_raw (Γc := []) hs hz (fun _ _ _ _ _ => ⟨[], hclos, sees_none, L⟩) (nocells hc) hk (locnames hn) (kd he hy) (sw_comp he hsw) hf
end

end
local macro_rules | `(tactic| walk_at "lk") => `(tactic| repeat (first | refine lk_there (by decide +kernel) ?_ | with_reducible exact lk_here | exact lk_none | exact lk_here))
local macro_rules | `(tactic| walk_at "gl") => `(tactic| with_reducible first | exact g_sum | exact g_len | exact g_max | exact g_min | exact g_iter | exact g_next | exact g_ord | exact g_chr | exact g_enumerate | exact g_zip | exact g_range | exact g_type | exact g_str | exact g_bool | exact g_list | exact g_StopIteration | exact g_c7_set | exact g_in_table_c7 | exact g__parse_varint | exact g__twin_re_1 | exact g__twin_re_2 | exact g_quotedata | exact g__name_disallowed_re | exact g__value_disallowed_re | exact g_Headers | exact g__law_grown | exact g__law_read | exact g__law_arms | exact g__law_sent | exact g__law_least | exact g__law_again | exact g__law_rows | exact g__law_bounded)
local macro_rules | `(tactic| walk_at "sd") => `(tactic| first | assumption | decide | omega | (simp only [sizeLine, List.length_map, List.length_cons, List.length_nil, List.length_append, List.length_drop, List.length_take, List.length_replicate, List.length_reverse] at *; omega) | (simp [sizeLine] at *; omega))
/-! W1 -/
section

/-- the numbers' own: half the size times one more -/
noncomputable def leastZ (xs : List Int) : Bool := sumL xs == ((xs.length : Int) * (xs.length + 1)).fdiv 2
theorem mulok {x y : Int} (hx : x.natAbs < 2 ^ 30) (_ : y.natAbs < 2 ^ 30) : IntMulOk x y := by
  refine IntMulOk.of_left ?_
  unfold Builtin.Int.intBits
  by_cases h : x = 0
  · subst h; decide
  · have : x.natAbs.log2 < 30 := (Nat.log2_lt (by omega)).mpr hx
    first | omega | (split <;> omega) | (simp; omega)
section
variable {w : World} {n k : Nat} {C : List Cell} {P : Params} {env : Env}
theorem least_x {xs : List Int} (hz : xs.length ≤ 1000) (he : env.scope = stScope (topAt 23)) :
    ExecT (KK P) w n k env [(Str.ofString "part", .loc (.d (.list (dInts xs))))] C (execs (stBody (topAt 23)) env) (.ret (.d (.bool (leastZ xs)))) C := by
  have hs : xs.length ≤ sizeLine := by unfold sizeLine; omega
  have hm : IntMulOk (xs.length : Int) ((xs.length : Int) + 1) := mulok (by omega) (by omega)
  have hp : Builtin.divisionGoesByPylong ((xs.length : Int) * (xs.length + 1)) 2 = false := by rfl
  exact exs_ret (ex_return (ev_cmp (ev_call (ev_g he (by decide +kernel) (by walk_at "gl") (by decide +kernel)) rfl (.c (ev_n (by walk_at "lk") (by decide +kernel)) .nil) (o_sum .d))
    (ev_bin (ev_bin (ev_call (ev_g he (by decide +kernel) (by walk_at "gl") (by decide +kernel)) rfl (.c (ev_n (by walk_at "lk") (by decide +kernel)) .nil) (o_lenM .d hs)) (ev_bin (ev_call (ev_g he (by decide +kernel) (by walk_at "gl") (by decide +kernel)) rfl (.c (ev_n (by walk_at "lk") (by decide +kernel)) .nil) (o_lenM .d hs)) ev_int o_add) (o_mul hm)) ev_int (o_fdiv (by decide) hp)) o_eq rfl))
theorem least_op {xs : List Int} (hz : xs.length ≤ 1000) : Op (KK P) w (k + 1) C (fun vs => call (.ref 253) vs []) [.d (.list (dInts xs))] (.d (.bool (leastZ xs))) C :=
  fn1 (C₁ := []) (p := Str.ofString "part") def_253 (fun v => by kernel_rfl) (by kernel_rfl) (by kernel_rfl) trivial fun L => by rw [List.append_nil]; exact least_x hz rfl
end

end
/-! W2 -/
section

noncomputable abbrev dBools (xs : List Bool) : List D := xs.map fun b => D.v (.bool b)
noncomputable def cut (xs : List Int) (a c : Nat) : List Int := (xs.drop a).take (c - a)
noncomputable def againP (place : List Int) (low high k : Nat) : Bool := leastZ (cut place low k) && leastZ (cut place (k + 1) high)
noncomputable def againZ (place : List Int) : Nat → Nat → Nat → List Bool
  | 0, _, _ => [false]
  | m + 1, low, high => if low = high then [false] else
    match (List.range' low (high - low)).find? (againP place low high) with
    | some k => [true] ++ againZ place m low k ++ againZ place m (k + 1) high
    | none => []
theorem again_mem {low high k : Nat} (h : k ∈ List.range' low (high - low)) : low ≤ k ∧ k < high := by
  rw [List.mem_range'_1] at h; omega
theorem againZ_len (place : List Int) : ∀ (m low high : Nat), low ≤ high → high ≤ low + m → (againZ place m low high).length ≤ 2 * (high - low) + 1
  | 0, _, _, _, _ => by simp [againZ]
  | m + 1, low, high, h0, h => by
    unfold againZ
    split
    · simp
    · split
      · rename_i k hk
        have hm := again_mem (List.mem_of_find?_eq_some hk)
        have h1 := againZ_len place m low k (by omega) (by omega)
        have h2 := againZ_len place m (k + 1) high (by omega) (by omega)
        simp; omega
      · simp
section
variable {w : World} {n k : Nat} {C : List Cell} {P : Params} {env : Env}
theorem o_cutI {r : AV} {xs : List Int} {a c : Nat} (L : LstV C r (dInts xs)) (h : a ≤ c) (h' : c ≤ xs.length) (hz : xs.length ≤ 1000) : Op (KK P) w k C tGet [r, .d (.slc (some (a : Int)) (some (c : Int)) none)] (.d (.list (dInts (cut xs a c)))) C :=
  (o_run L (by omega) (by omega) (by simp; omega) (by simp [sizeLine]; omega)).eq (by simp [cut])
theorem o_cutZ {r : AV} {xs : List Int} {ai ci : Int} (a c : Nat) (ha : ai = a) (hc : ci = c) (L : LstV C r (dInts xs)) (h : a ≤ c) (h' : c ≤ xs.length) (hz : xs.length ≤ 1000) : Op (KK P) w k C tGet [r, .d (.slc (some ai) (some ci) none)] (.d (.list (dInts (cut xs a c)))) C := by
  subst ha; subst hc; exact o_cutI L h h' hz
theorem again_x {place : List Int} {low high m : Nat} (hl : place.length ≤ 100) (hlo : low ≤ high) (hhi : high ≤ place.length) (hm : high ≤ low + (m + 1)) (he : env.scope = stScope (topAt 24))
    (IH : low ≠ high → ∀ low' high' : Nat, low' ≤ high' → high' ≤ place.length → high' ≤ low' + m → Op (KK P) w (k + 1) C (fun vs => call (.ref 260) vs []) [.d (.list (dInts place)), .d (.int low'), .d (.int high')] (.d (.list (dBools (againZ place m low' high')))) C) :
    ExecT (KK P) w n (k + 1) env [(Str.ofString "place", .loc (.d (.list (dInts place)))), (Str.ofString "low", .loc (.d (.int low))), (Str.ofString "high", .loc (.d (.int high)))] C (execs (stBody (topAt 24)) env) (.ret (.d (.list (dBools (againZ place (m + 1) low high))))) C := by
  by_cases h0 : low = high
  · subst h0
    have e : againZ place (m + 1) low low = [false] := by simp [againZ]
    rw [e]
    exact exs_ret (ex_ift (tst_cmp (ev_n (by walk_at "lk") (by decide +kernel)) (ev_n (by walk_at "lk") (by decide +kernel)) o_eq rfl) (by simp) (exs_ret (ex_return (ev_list (.c ev_bool .nil)))))
  · have hne : ((low : Int) == (high : Int)) = false := by simp; omega
    refine exs_cons (ex_iff (tst_cmp (ev_n (by walk_at "lk") (by decide +kernel)) (ev_n (by walk_at "lk") (by decide +kernel)) o_eq rfl) hne exs_nil) ?_
    have tst : ∀ x, low ≤ x → x < high → TestTo (KK P) w (k + 1) env [(Str.ofString "k", .loc (.d (.int (x : Nat)))), (Str.ofString "place", .loc (.d (.list (dInts place)))), (Str.ofString "low", .loc (.d (.int low))), (Str.ofString "high", .loc (.d (.int high)))] C
        (match (match (stBody (topAt 24)).getD 1 (.Pass ⟨0,0,0,0⟩) with | .For _ _ b _ _ => b | _ => []).headD (.Pass ⟨0,0,0,0⟩) with | .If t _ _ _ => t | _ => .Constant .none 0 ⟨0,0,0,0⟩) (againP place low high x) C := fun x h1 h2 =>
      tst_and (tst_call (ev_call (ev_g he (by decide +kernel) (by walk_at "gl") (by decide +kernel)) rfl (.c (ev_sub (ev_n (by walk_at "lk") (by decide +kernel)) (ev_slice (pt_some (ev_n (by walk_at "lk") (by decide +kernel))) (pt_some (ev_n (by walk_at "lk") (by decide +kernel))) pt_none) LstV.d.ty list_getitem_lookup (o_cutZ low x (by omega) (by omega) .d h1 (by omega) (by omega)) (fun _ _ => .inr rfl)) .nil) (least_op (by simp [cut]; omega))))
        fun _ => tst_call (ev_call (ev_g he (by decide +kernel) (by walk_at "gl") (by decide +kernel)) rfl (.c (ev_sub (ev_n (by walk_at "lk") (by decide +kernel)) (ev_slice (pt_some (ev_bin (ev_n (by walk_at "lk") (by decide +kernel)) ev_int o_add)) (pt_some (ev_n (by walk_at "lk") (by decide +kernel))) pt_none) LstV.d.ty list_getitem_lookup (o_cutZ (x + 1) high (by omega) (by omega) .d (by omega) (by omega) (by omega)) (fun _ _ => .inr rfl)) .nil) (least_op (by simp [cut]; omega)))
    have e1 : againZ place (m + 1) low high = match (List.range' low (high - low)).find? (againP place low high) with
        | some k => [true] ++ againZ place m low k ++ againZ place m (k + 1) high
        | none => [] := by rw [againZ, if_neg h0]
    cases hf : (List.range' low (high - low)).find? (againP place low high) with
    | none =>
      have e2 : againZ place (m + 1) low high = [] := by rw [e1, hf]
      rw [e2]
      refine exs_cons (Γ₁ := [(Str.ofString "place", .loc (.d (.list (dInts place)))), (Str.ofString "low", .loc (.d (.int low))), (Str.ofString "high", .loc (.d (.int high)))]) (C₁ := C) (ex_for (src_range2 (ev_g he (by decide +kernel) (by walk_at "gl") (by decide +kernel)) rfl (.c (ev_n (by walk_at "lk") (by decide +kernel)) (.c (ev_n (by walk_at "lk") (by decide +kernel)) .nil)) (by omega) (by omega) (by omega) (by omega)) ?_) (exs_ret (ex_return (ev_list .nil)))
      rw [rangeItems_nat]
      exact loop_none hf fun x hx hp => ⟨_, as_name (kd he (by decide +kernel)), (exs_cons (ex_iff (tst x (again_mem hx).1 (again_mem hx).2) hp exs_nil) exs_nil).less (less_cons (by walk_at "lk"))⟩
    | some x =>
      have e2 : againZ place (m + 1) low high = [true] ++ againZ place m low x ++ againZ place m (x + 1) high := by rw [e1, hf]
      rw [e2]
      have hm := again_mem (List.mem_of_find?_eq_some hf)
      refine exs_ret (ex_for (src_range2 (ev_g he (by decide +kernel) (by walk_at "gl") (by decide +kernel)) rfl (.c (ev_n (by walk_at "lk") (by decide +kernel)) (.c (ev_n (by walk_at "lk") (by decide +kernel)) .nil)) (by omega) (by omega) (by omega) (by omega)) ?_)
      rw [rangeItems_nat]
      exact loop_some hf (fun x hx hp => ⟨_, as_name (kd he (by decide +kernel)), (exs_cons (ex_iff (tst x (again_mem hx).1 (again_mem hx).2) hp exs_nil) exs_nil).less (less_cons (by walk_at "lk"))⟩)
        ⟨_, as_name (kd he (by decide +kernel)), exs_ret (ex_ift (tst x hm.1 hm.2) (List.find?_some hf) (exs_ret (ex_return
          (EvalTo.eq (ev_bin (ev_bin (ev_list (.c ev_bool .nil)) (ev_call (ev_g he (by decide +kernel) (by walk_at "gl") (by decide +kernel)) rfl (.c (ev_n (by walk_at "lk") (by decide +kernel)) (.c (ev_n (by walk_at "lk") (by decide +kernel)) (.c (ev_n (by walk_at "lk") (by decide +kernel)) .nil))) (IH h0 low x hm.1 (by omega) (by omega))) (o_addl .d .d (by have := againZ_len place m low x hm.1 (by omega); simp [sizeLine]; omega)))
            (ev_call (ev_g he (by decide +kernel) (by walk_at "gl") (by decide +kernel)) rfl (.c (ev_n (by walk_at "lk") (by decide +kernel)) (.c (ev_bin (ev_n (by walk_at "lk") (by decide +kernel)) ev_int o_add) (.c (ev_n (by walk_at "lk") (by decide +kernel)) .nil))) (IH h0 (x + 1) high (by omega) (by omega) (by omega))) (o_addl .d .d (by have := againZ_len place m low x hm.1 (by omega); have := againZ_len place m (x + 1) high (by omega) (by omega); simp [sizeLine]; omega))) (by simp)))))⟩
theorem again_fn {x y z r : AV} (hr : r.closed C.length)
    (h : ∀ env : Env, env.scope = stScope (topAt 24) → ExecT (KK P) w C.length k env [(Str.ofString "place", .loc x), (Str.ofString "low", .loc y), (Str.ofString "high", .loc z)] C (execs (stBody (topAt 24)) env) (.ret r) C) : Op (KK P) w (k + 1) C (fun vs => call (.ref 260) vs []) [x, y, z] r C :=
  fn3 (C₁ := []) (p := Str.ofString "place") (p' := Str.ofString "low") (p'' := Str.ofString "high") def_260 (fun v v' v'' => by kernel_rfl) (by kernel_rfl) (by kernel_rfl) (by decide +kernel) hr fun L => by rw [List.append_nil]; exact h _ rfl
theorem again_op {place : List Int} (hl : place.length ≤ 100) : ∀ (m k low high : Nat), low ≤ high → high ≤ place.length → high ≤ low + m →
    Op (KK P) w (k + m + 2) C (fun vs => call (.ref 260) vs []) [.d (.list (dInts place)), .d (.int low), .d (.int high)] (.d (.list (dBools (againZ place m low high)))) C
  | 0, k, low, high, h1, h2, h3 => by
    have e : againZ place 0 low high = againZ place 1 low high := by
      have : low = high := by omega
      subst this; simp [againZ]
    rw [e]
    exact again_fn (k := k + 1) trivial fun env he => again_x hl h1 h2 (by omega) he fun h => absurd (by omega) h
  | m + 1, k, low, high, h1, h2, h3 => again_fn (k := k + m + 1 + 1) trivial fun env he => again_x (k := k + m + 1) hl h1 h2 h3 he fun _ lo hi a b c => again_op hl m k lo hi a b c
end

end
/-! W3 -/
section

noncomputable def lfP (hours : List Int) (k l : Nat) : Bool := decide ((l : Int) ≤ (k : Int)) && decide (hours.getD (k - l) 0 > hours.getD k 0)
noncomputable def rtP (hours : List Int) (k r : Nat) : Bool := decide ((k : Int) + (r : Int) < (hours.length : Int)) && decide (hours.getD (k + r) 0 > hours.getD k 0)
noncomputable def rowsZ (hours : List Int) : List (Nat × Nat) := (List.range hours.length).map fun k => (upL (lfP hours k) k 1, upL (rtP hours k) (hours.length - k - 1) 1)
noncomputable def dPair (p : Nat × Nat) : D := .tup [.int (p.1 : Nat), .int (p.2 : Nat)]
theorem ty_ls : typeLookup (.type "list") "__getitem__" = pure (some (.builtin "list.__getitem__")) := list_getitem_lookup
section
variable {w : World} {n k : Nat} {C : List Cell} {P : Params} {env : Env}
theorem rows_x {hours : List Int} (hl : hours.length ≤ 100) (hC : ∀ c ∈ C, ∀ j ∈ c.refs, j < C.length) (he : env.scope = stScope (topAt 25)) :
    ExecT (KK P) w C.length k env [(Str.ofString "hours", .loc (.d (.list (dInts hours))))] C (execs (stBody (topAt 25)) env) (.ret (.d (.list ((rowsZ hours).map dPair)))) (C ++ [.gone]) := by
  let G : Gam := [(Str.ofString "rows", .loc (.c C.length)), (Str.ofString "hours", .loc (.d (.list (dInts hours))))]
  have hzz : hours.length ≤ sizeLine := by unfold sizeLine; omega
  refine exs_cons (ex_assign (ev_listc .nil) (kd he (by decide +kernel)) (by kernel_rfl)) ?_
  refine exs_cons (Γ₁ := [(Str.ofString "rows", .loc (.c C.length)), (Str.ofString "hours", .loc (.d (.list (dInts hours))))]) (C₁ := C ++ [.lst ((rowsZ hours).map dPair)]) (ex_for (src_enum (ev_g he (by decide +kernel) (by walk_at "gl") (by decide +kernel)) rfl (.c (ev_n (by walk_at "lk") (by decide +kernel)) .nil)) ?_) ?_
  · rw [enumItems_map _ 0]
    have := loop_idx (K := KK P) (w := w) (n := C.length) (k := k) (env := env) (Γs := fun _ => [(Str.ofString "rows", .loc (.c C.length)), (Str.ofString "hours", .loc (.d (.list (dInts hours))))]) (Cs := fun j => C ++ [.lst (((rowsZ hours).take j).map dPair)])
      (target := match (stBody (topAt 25)).getD 1 (.Pass ⟨0,0,0,0⟩) with | .For t _ _ _ _ => t | _ => .Constant .none 0 ⟨0,0,0,0⟩) (body := match (stBody (topAt 25)).getD 1 (.Pass ⟨0,0,0,0⟩) with | .For _ _ b _ _ => b | _ => []) (N := hours.length) (f := fun j : Nat => Item.tup [.int (j : Nat), .int (hours.getD j 0)]) ?_
    · have e : (rowsZ hours).take hours.length = rowsZ hours := List.take_of_length_le (by simp [rowsZ])
      simp only [e, List.take_zero, List.map_nil] at this
      exact this
    · intro j hj
      have rj : (rowsZ hours)[j]? = some (upL (lfP hours j) j 1, upL (rtP hours j) (hours.length - j - 1) 1) := by simp [rowsZ, hj]
      refine ⟨_, _, as_tup (.c (as_name (kd he (by decide +kernel))) (.c (as_name (kd he (by decide +kernel))) .nil)), ?_⟩
      refine ExecT.less (Γ₁ := _) (exs_cons (ex_assign ev_int (kd he (by decide +kernel)) (by kernel_rfl)) (exs_cons (ex_while (while_up (b := j + 1) (p := lfP hours j) (kd he (by decide +kernel)) (by simp [lfP]; omega) ?_ j 1 (by omega)))
        (exs_cons (ex_assign ev_int (kd he (by decide +kernel)) (by kernel_rfl)) (exs_cons (ex_while (while_up (b := hours.length - j) (p := rtP hours j) (kd he (by decide +kernel)) (by simp [rtP]; omega) ?_ (hours.length - j - 1) 1 (by omega)))
        (exs_cons ((ex_expr (ev_meth (ev_n (by walk_at "lk") (by decide +kernel)) (mg_list (.c (get_last _ _)) PySem.F.slot_list_append PySem.F.type_list_append) rfl (.c (ev_tuple (.c (ev_n (by walk_at "lk") (by decide +kernel)) (.c (ev_n (by walk_at "lk") (by decide +kernel)) .nil))) .nil) (o_append (get_last _ _) (by simp [rowsZ, sizeLine]; omega)) rfl) (inter_fn he (by decide +kernel)) (by kernel_rfl)).cells ?_) exs_nil))))) (GSub.c (by walk_at "lk") (GSub.c (by walk_at "lk") GSub.nil))
      · intro l hl1
        exact tst_and (tst_cmp (ev_n (by walk_at "lk") (by decide +kernel)) (ev_n (by walk_at "lk") (by decide +kernel)) o_le rfl) fun h => tst_cmp (ev_sub (ev_n (by walk_at "lk") (by decide +kernel)) (ev_bin (ev_n (by walk_at "lk") (by decide +kernel)) (ev_n (by walk_at "lk") (by decide +kernel)) o_sub) LstV.d.ty ty_ls (o_getM 0 (j - l) (by have := of_decide_eq_true h; omega) (by omega) (by omega) .d) (fun _ _ => .inl rfl)) (ev_n (by walk_at "lk") (by decide +kernel)) o_gt rfl
      · intro l hl1
        exact tst_and (tst_cmp (ev_bin (ev_n (by walk_at "lk") (by decide +kernel)) (ev_n (by walk_at "lk") (by decide +kernel)) o_add) (ev_call (ev_g he (by decide +kernel) (by walk_at "gl") (by decide +kernel)) rfl (.c (ev_n (by walk_at "lk") (by decide +kernel)) .nil) (o_lenM .d hzz)) o_lt rfl) fun h => tst_cmp (ev_sub (ev_n (by walk_at "lk") (by decide +kernel)) (ev_bin (ev_n (by walk_at "lk") (by decide +kernel)) (ev_n (by walk_at "lk") (by decide +kernel)) o_add) LstV.d.ty ty_ls (o_getM 0 (j + l) (by omega) (by have := of_decide_eq_true h; omega) (by omega) .d) (fun _ _ => .inl rfl)) (ev_n (by walk_at "lk") (by decide +kernel)) o_gt rfl
      · rw [set_last, List.take_add_one, rj]
        simp [dPair]
  · refine ExecT.freeze (i := C.length) (ds := (rowsZ hours).map dPair) ?_ (by simp) (Nat.le_refl _) (norefs_last hC) (nb_c (nb_c nb_nil))
    rw [set_last]
    simp only [frzG, frzVB, List.map_cons, List.map_nil, if_true]
    exact exs_ret (ex_return (ev_n lk_here (by decide +kernel)))
theorem rows_op {hours : List Int} (hl : hours.length ≤ 100) : Op (KK P) w (k + 1) C (fun vs => call (.ref 267) vs []) [.d (.list (dInts hours))] (.d (.list ((rowsZ hours).map dPair))) C := by
  intro A s b kp fs vs Q E hR S
  exact fn1 (C₁ := [.gone]) (p := Str.ofString "hours") def_267 (fun v => by kernel_rfl) (by kernel_rfl) (by kernel_rfl) (by trivial) (fun L => rows_x hl S.closed rfl) A s b kp fs vs Q E hR S
end

end
/-! W4 -/
section

noncomputable def moreZ (place : List Int) (low high : Nat) : Int := sumL (cut place low high) - (((high : Int) - low) * ((high : Int) - low + 1)).fdiv 2
noncomputable def wholeZ (hours : List Int) (low high : Nat) : Bool := decide (maxL ([-1] ++ (cut hours (low - 1) low ++ cut hours high (high + 1))) < minL (cut hours low high))
noncomputable def badZ (place hours : List Int) (low high : Nat) : Bool := decide (moreZ place low high < 0) || ((moreZ place low high == 0) != wholeZ hours low high)
noncomputable def badLow (place hours : List Int) (low : Nat) : Bool := ((List.range' (low + 1) (hours.length + 1 - (low + 1))).find? (badZ place hours low)).isSome
noncomputable def boundedZ (place hours : List Int) : Bool := ((List.range hours.length).find? (badLow place hours)).isNone
theorem cut_clip {α : Type} (xs : List α) (a c : Nat) : (xs.drop (min a xs.length)).take (min c xs.length - min a xs.length) = (xs.drop a).take (c - a) := by
  by_cases h : a ≤ xs.length
  · rw [Nat.min_eq_left h]
    by_cases h' : c ≤ xs.length
    · rw [Nat.min_eq_left h']
    · rw [Nat.min_eq_right (by omega), List.take_of_length_le (by simp), List.take_of_length_le (by simp; omega)]
  · rw [List.drop_eq_nil_of_le (by omega), List.drop_eq_nil_of_le (by omega)]; simp
section
variable {w : World} {n k : Nat} {C : List Cell} {P : Params} {env : Env}
theorem o_cutA {K : Frag} {r : AV} {xs : List Int} {ai ci : Int} (a c : Nat) (ha : ai = a) (hc : ci = c) (L : LstV C r (dInts xs)) (hz : xs.length ≤ 1000) : Op K w k C tGet [r, .d (.slc (some ai) (some ci) none)] (.d (.list (dInts (cut xs a c)))) C := by
  subst ha; subst hc
  refine (o_getsl (f := fun vs => (vs.drop a).take (c - a)) (es := ((dInts xs).drop a).take (c - a)) L (by simp) (by simp [sizeLine]; omega) (fun vs hl => ?_) fun b vs rl => (rl.drop _).take _).eq (by simp [cut])
  rw [slicePick_plain]
  simp only [Option.elim, clipAt_nat, List.size_toArray]
  rw [cut_clip]
theorem cut_len2 (xs : List Int) (a c : Nat) : (cut xs a c).length ≤ xs.length := by simp [cut]; omega
theorem cut_ne {xs : List Int} {a c : Nat} (h : a < c) (h' : c ≤ xs.length) : cut xs a c ≠ [] := fun e => by
  have : (cut xs a c).length = 0 := by rw [e]; rfl
  simp [cut] at this; omega
theorem bounded_x {place hours : List Int} (hl : hours.length ≤ 100) (hp : place.length ≤ 100) (he : env.scope = stScope (topAt 26)) :
    ExecT (KK P) w n k env [(Str.ofString "place", .loc (.d (.list (dInts place)))), (Str.ofString "hours", .loc (.d (.list (dInts hours))))] C (execs (stBody (topAt 26)) env) (.ret (.d (.bool (boundedZ place hours)))) C := by
  have hzz : hours.length ≤ sizeLine := by unfold sizeLine; omega
  have inner : ∀ low, low < hours.length → ∀ high, high ∈ List.range' (low + 1) (hours.length + 1 - (low + 1)) → ∀ o, (badZ place hours low high = false → o = .nxt [(Str.ofString "low", .loc (.d (.int (low : Nat)))), (Str.ofString "place", .loc (.d (.list (dInts place)))), (Str.ofString "hours", .loc (.d (.list (dInts hours))))]) → (badZ place hours low high = true → o = .ret (.d (.bool false))) →
      ExecT (KK P) w n k env [(Str.ofString "high", .loc (.d (.int (high : Nat)))), (Str.ofString "low", .loc (.d (.int (low : Nat)))), (Str.ofString "place", .loc (.d (.list (dInts place)))), (Str.ofString "hours", .loc (.d (.list (dInts hours))))] C
        (execs (match (match (stBody (topAt 26)).getD 0 (.Pass ⟨0,0,0,0⟩) with | .For _ _ b _ _ => b | _ => []).headD (.Pass ⟨0,0,0,0⟩) with | .For _ _ b _ _ => b | _ => []) env) o C := by
    intro low hlo high hh o h1 h2
    rw [List.mem_range'_1] at hh
    have hm : IntMulOk ((high : Int) - low) ((high : Int) - low + 1) := mulok (by omega) (by omega)
    have e1 : max ((low : Int) - 1) 0 = ((low - 1 : Nat) : Int) := by omega
    refine exs_cons (ex_assign (ev_bin (ev_call (ev_g he (by decide +kernel) (by walk_at "gl") (by decide +kernel)) rfl (.c (ev_sub (ev_n (by walk_at "lk") (by decide +kernel)) (ev_slice (pt_some (ev_n (by walk_at "lk") (by decide +kernel))) (pt_some (ev_n (by walk_at "lk") (by decide +kernel))) pt_none) LstV.d.ty ty_ls (o_cutA low high rfl rfl .d (by omega)) (fun _ _ => .inr rfl)) .nil) (o_sum .d))
      (ev_bin (ev_bin (ev_bin (ev_n (by walk_at "lk") (by decide +kernel)) (ev_n (by walk_at "lk") (by decide +kernel)) o_sub) (ev_bin (ev_bin (ev_n (by walk_at "lk") (by decide +kernel)) (ev_n (by walk_at "lk") (by decide +kernel)) o_sub) ev_int o_add) (o_mul hm)) ev_int (o_fdiv (by decide) (by rfl))) o_sub) (kd he (by decide +kernel)) (by kernel_rfl)) ?_
    refine exs_cons (ex_assign (ev_bin (ev_sub (ev_n (by walk_at "lk") (by decide +kernel)) (ev_slice (pt_some (ev_call (ev_g he (by decide +kernel) (by walk_at "gl") (by decide +kernel)) rfl (.c (ev_bin (ev_n (by walk_at "lk") (by decide +kernel)) ev_int o_sub) (.c ev_int .nil)) o_max2)) (pt_some (ev_n (by walk_at "lk") (by decide +kernel))) pt_none) LstV.d.ty ty_ls (o_cutA (low - 1) low e1 rfl .d (by omega)) (fun _ _ => .inr rfl))
      (ev_sub (ev_n (by walk_at "lk") (by decide +kernel)) (ev_slice (pt_some (ev_n (by walk_at "lk") (by decide +kernel))) (pt_some (ev_bin (ev_n (by walk_at "lk") (by decide +kernel)) ev_int o_add)) pt_none) LstV.d.ty ty_ls (o_cutA high (high + 1) rfl (by omega) .d (by omega)) (fun _ _ => .inr rfl)) (o_addl .d .d ?_)) (kd he (by decide +kernel)) (by kernel_rfl)) ?_
    · have := cut_len2 hours (low - 1) low; have := cut_len2 hours high (high + 1); simp [sizeLine]; omega
    refine exs_cons (ex_assign (ev_cmp (ev_call (ev_g he (by decide +kernel) (by walk_at "gl") (by decide +kernel)) rfl (.c (ev_bin (ev_list (.c (ev_un ev_int o_neg) .nil)) (ev_n (by walk_at "lk") (by decide +kernel)) (o_addl .d .d ?_)) .nil) (Op.eq (o_maxl (xs := [-1] ++ (cut hours (low - 1) low ++ cut hours high (high + 1))) ?_ (by simp)) rfl))
      (ev_call (ev_g he (by decide +kernel) (by walk_at "gl") (by decide +kernel)) rfl (.c (ev_sub (ev_n (by walk_at "lk") (by decide +kernel)) (ev_slice (pt_some (ev_n (by walk_at "lk") (by decide +kernel))) (pt_some (ev_n (by walk_at "lk") (by decide +kernel))) pt_none) LstV.d.ty ty_ls (o_cutA low high rfl rfl .d (by omega)) (fun _ _ => .inr rfl)) .nil) (o_minl .d (cut_ne (by omega) (by omega)))) o_lt rfl) (kd he (by decide +kernel)) (by kernel_rfl)) ?_
    · have := cut_len2 hours (low - 1) low; have := cut_len2 hours high (high + 1); simp [sizeLine]; omega
    · have e : [D.int (-1)] ++ (dInts (cut hours (low - 1) low) ++ dInts (cut hours high (high + 1))) = dInts ([-1] ++ (cut hours (low - 1) low ++ cut hours high (high + 1))) := by simp
      rw [e]; exact .d
    cases hb : badZ place hours low high with
    | true =>
      rw [h2 hb]
      exact exs_ret (ex_ift (tst_or (tst_cmp (ev_n (by walk_at "lk") (by decide +kernel)) ev_int o_lt rfl) (fun _ => tst_cmp (ev_cmp (ev_n (by walk_at "lk") (by decide +kernel)) ev_int o_eq rfl) (ev_n (by walk_at "lk") (by decide +kernel)) o_neb rfl)) hb (exs_ret (ex_return ev_bool)))
    | false =>
      rw [h1 hb]
      exact (exs_cons (ex_iff (tst_or (tst_cmp (ev_n (by walk_at "lk") (by decide +kernel)) ev_int o_lt rfl) (fun _ => tst_cmp (ev_cmp (ev_n (by walk_at "lk") (by decide +kernel)) ev_int o_eq rfl) (ev_n (by walk_at "lk") (by decide +kernel)) o_neb rfl)) hb exs_nil) exs_nil).less (GSub.c (by walk_at "lk") (GSub.c (by walk_at "lk") (GSub.c (by walk_at "lk") GSub.nil)))
  have outer : ∀ low, low < hours.length → ∀ o, (badLow place hours low = false → o = .nxt [(Str.ofString "place", .loc (.d (.list (dInts place)))), (Str.ofString "hours", .loc (.d (.list (dInts hours))))]) → (badLow place hours low = true → o = .ret (.d (.bool false))) →
      ExecT (KK P) w n k env [(Str.ofString "low", .loc (.d (.int (low : Nat)))), (Str.ofString "place", .loc (.d (.list (dInts place)))), (Str.ofString "hours", .loc (.d (.list (dInts hours))))] C
        (execs (match (stBody (topAt 26)).getD 0 (.Pass ⟨0,0,0,0⟩) with | .For _ _ b _ _ => b | _ => []) env) o C := by
    intro low hlo o h1 h2
    have er : rangeItems ((low : Int) + 1) ((hours.length : Int) + 1) = (List.range' (low + 1) (hours.length + 1 - (low + 1))).map fun i : Nat => Item.one (.int (i : Nat)) := by
      have := rangeItems_nat (low + 1) (hours.length + 1)
      simpa using this
    cases hf : (List.range' (low + 1) (hours.length + 1 - (low + 1))).find? (badZ place hours low) with
    | none =>
      rw [h1 (by simp only [badLow, hf]; rfl)]
      refine (exs_cons (Γ₁ := [(Str.ofString "low", .loc (.d (.int (low : Nat)))), (Str.ofString "place", .loc (.d (.list (dInts place)))), (Str.ofString "hours", .loc (.d (.list (dInts hours))))]) (C₁ := C) (ex_for (src_range2 (ev_g he (by decide +kernel) (by walk_at "gl") (by decide +kernel)) rfl (.c (ev_bin (ev_n (by walk_at "lk") (by decide +kernel)) ev_int o_add) (.c (ev_bin (ev_call (ev_g he (by decide +kernel) (by walk_at "gl") (by decide +kernel)) rfl (.c (ev_n (by walk_at "lk") (by decide +kernel)) .nil) (o_lenM .d hzz)) ev_int o_add) .nil)) (by omega) (by omega) (by omega) (by omega)) ?_) exs_nil).less (GSub.c (by walk_at "lk") (GSub.c (by walk_at "lk") GSub.nil))
      rw [er]
      exact loop_none hf fun x hx hpx => ⟨_, as_name (kd he (by decide +kernel)), inner low hlo x hx _ (fun _ => rfl) (fun h => by rw [hpx] at h; cases h)⟩
    | some y =>
      rw [h2 (by simp only [badLow, hf]; rfl)]
      refine exs_ret (ex_for (src_range2 (ev_g he (by decide +kernel) (by walk_at "gl") (by decide +kernel)) rfl (.c (ev_bin (ev_n (by walk_at "lk") (by decide +kernel)) ev_int o_add) (.c (ev_bin (ev_call (ev_g he (by decide +kernel) (by walk_at "gl") (by decide +kernel)) rfl (.c (ev_n (by walk_at "lk") (by decide +kernel)) .nil) (o_lenM .d hzz)) ev_int o_add) .nil)) (by omega) (by omega) (by omega) (by omega)) ?_)
      rw [er]
      exact loop_some hf (fun x hx hpx => ⟨_, as_name (kd he (by decide +kernel)), inner low hlo x hx _ (fun _ => rfl) (fun h => by rw [hpx] at h; cases h)⟩)
        ⟨_, as_name (kd he (by decide +kernel)), inner low hlo y (List.mem_of_find?_eq_some hf) _ (fun h => by rw [List.find?_some hf] at h; cases h) (fun _ => rfl)⟩
  cases hf : (List.range hours.length).find? (badLow place hours) with
  | none =>
    have e : boundedZ place hours = true := by simp only [boundedZ, hf]; rfl
    rw [e]
    refine exs_cons (Γ₁ := [(Str.ofString "place", .loc (.d (.list (dInts place)))), (Str.ofString "hours", .loc (.d (.list (dInts hours))))]) (C₁ := C) (ex_for (src_range1 (ev_g he (by decide +kernel) (by walk_at "gl") (by decide +kernel)) rfl (.c (ev_call (ev_g he (by decide +kernel) (by walk_at "gl") (by decide +kernel)) rfl (.c (ev_n (by walk_at "lk") (by decide +kernel)) .nil) (o_lenM .d hzz)) .nil) (by omega) (by omega)) ?_) (exs_ret (ex_return ev_bool))
    rw [rangeItems_zero]
    exact loop_none hf fun x hx hpx => ⟨_, as_name (kd he (by decide +kernel)), outer x (List.mem_range.mp hx) _ (fun _ => rfl) (fun h => by rw [hpx] at h; cases h)⟩
  | some y =>
    have e : boundedZ place hours = false := by simp only [boundedZ, hf]; rfl
    rw [e]
    refine exs_ret (ex_for (src_range1 (ev_g he (by decide +kernel) (by walk_at "gl") (by decide +kernel)) rfl (.c (ev_call (ev_g he (by decide +kernel) (by walk_at "gl") (by decide +kernel)) rfl (.c (ev_n (by walk_at "lk") (by decide +kernel)) .nil) (o_lenM .d hzz)) .nil) (by omega) (by omega)) ?_)
    rw [rangeItems_zero]
    exact loop_some hf (fun x hx hpx => ⟨_, as_name (kd he (by decide +kernel)), outer x (List.mem_range.mp hx) _ (fun _ => rfl) (fun h => by rw [hpx] at h; cases h)⟩)
      ⟨_, as_name (kd he (by decide +kernel)), outer y (List.mem_range.mp (List.mem_of_find?_eq_some hf)) _ (fun h => by rw [List.find?_some hf] at h; cases h) (fun _ => rfl)⟩
theorem bounded_op {place hours : List Int} (hl : hours.length ≤ 100) (hp : place.length ≤ 100) : Op (KK P) w (k + 1) C (fun vs => call (.ref 274) vs []) [.d (.list (dInts place)), .d (.list (dInts hours))] (.d (.bool (boundedZ place hours))) C :=
  fn2 (C₁ := []) (p := Str.ofString "place") (p' := Str.ofString "hours") def_274 (fun v v' => by kernel_rfl) (by kernel_rfl) (by kernel_rfl) (by decide +kernel) (by trivial) fun L => by rw [List.append_nil]; exact bounded_x hl hp rfl
end

end
/-! W5 -/
section

noncomputable def c7 (c : Int) : Bool := decide (12272 ≤ c) && decide (c < 12284)
section
variable {w : World} {n k : Nat} {C : List Cell} {P : Params} {env : Env}
noncomputable def e12 : List (Int × Value) := (List.range 12).map fun i : Nat => ((12272 : Int) + i, Value.int (12272 + i) (294 + 2 * i))
theorem hash12 {i : Nat} (h : i < 12) : hashInt ((12272 : Int) + i) = 12272 + i := (show ∀ i, i < 12 → hashInt ((12272 : Int) + (i : Nat)) = 12272 + (i : Nat) by decide +kernel) i h
theorem c7_set {h : Heap} (e : h.get? 40 = some (k40 P)) : h.SetOf (intKind prg w) 40 c7 12 := by
  refine ⟨k40 P, _, _, _, e, ⟨rfl, rfl, rfl⟩, rfl, ?_, ?_, by decide, by rfl, rfl⟩
  · intro x hx
    obtain ⟨i, hi, rfl⟩ := List.mem_map.mp (show x ∈ e12 from hx)
    exact ⟨⟨_, intKind_is prg w _ _, (hash12 (List.mem_range.mp hi)).symm⟩, rfl⟩
  · intro c
    constructor
    · intro hc
      unfold c7 at hc
      rw [Bool.and_eq_true, decide_eq_true_eq, decide_eq_true_eq] at hc
      obtain ⟨i, hi, rfl⟩ : ∃ i : Nat, i < 12 ∧ c = 12272 + i := ⟨(c - 12272).toNat, by omega, by omega⟩
      exact ⟨_, show _ ∈ e12 from List.mem_map.mpr ⟨i, List.mem_range.mpr hi, rfl⟩, intKind_is prg w _ _⟩
    · rintro ⟨x, hx, hk⟩
      obtain ⟨i, hi, rfl⟩ := List.mem_map.mp (show x ∈ e12 from hx)
      have := (intKind prg w).inj _ _ _ hk (intKind_is prg w _ _)
      subst this
      have := List.mem_range.mp hi
      unfold c7
      rw [Bool.and_eq_true, decide_eq_true_eq, decide_eq_true_eq]; omega
theorem o_inset {c : Int} : Op (KK P) w k C (tCmp .In) [.d (.int c), .d (.v (.ref 40))] (.d (.bool (c7 c))) C := by
  intro A s b kp fs vs Q E hR S hv q
  have h_vs := RepAs.two hv; clear hv; obtain ⟨va, vb, rfl, ha, hb⟩ := h_vs
  cases ha; cases hb
  have e : s.heap.get? 40 = some (k40 P) := S.top_in _ _ rfl
  exact wpAny_inSet_of (knd := intKind prg w) (intKind_is prg w _ _) rfl (c7_set e) (q b fs s.heap _ _ Sub.refl Keep.refl S .v)
theorem table_op {c : Nat} : Op (KK P) w (k + 1) C (fun vs => call (.ref 50) vs []) [.d (.str ⟨#[c]⟩)] (.d (.bool (c7 c))) C :=
  fn1 (C₁ := []) (p := Str.ofString "code") def_50 (fun v => by kernel_rfl) (by kernel_rfl) (by kernel_rfl) (by trivial) fun L => by
    rw [List.append_nil]
    have he : (envOf (codeOf P 50).qualname (codeOf P 50).scope L 50 (codeOf P 50).code).scope = stScope (topAt 4) := rfl
    exact exs_ret (ex_return (ev_cmp (ev_call (ev_g he (by decide +kernel) (by walk_at "gl") (by decide +kernel)) rfl (.c (ev_n (by walk_at "lk") (by decide +kernel)) .nil) o_ord) (ev_g he (by decide +kernel) (by walk_at "gl") (by decide +kernel)) o_inset rfl))
end

end
/-! W6 -/
section

noncomputable abbrev Tri := Nat × Nat × Int
noncomputable abbrev Node := Nat × List Tri
noncomputable def dTri (t : Tri) : D := .tup [.int (t.1 : Nat), .int (t.2.1 : Nat), .int t.2.2]
noncomputable def dNode (p : Node) : D := .tup [.int (p.1 : Nat), .list (p.2.map dTri)]
noncomputable def armsRun : List (Bool × Int) → List Node → Option (List Node)
  | [], stk => some stk
  | (true, c) :: its, (l, a) :: (r, b) :: stk => armsRun its ((l + r, a ++ [(l, r, c)] ++ b) :: stk)
  | (true, _) :: _, _ => none
  | (false, _) :: its, stk => armsRun its ((1, []) :: stk)
noncomputable def wt (stk : List Node) : Nat := (stk.map fun p => p.2.length + 1).sum
theorem dNode_snoc (p : Node) (s : List Node) : ((p :: s).reverse).map dNode = s.reverse.map dNode ++ [dNode p] := by simp
section
variable {w : World} {n k : Nat} {C : List Cell} {P : Params} {env : Env}
theorem arms_loop {told codes : AV} (he : env.scope = stScope (topAt 21)) : ∀ (its : List (Bool × Int)) (stk stk' : List Node), armsRun its stk = some stk' → wt stk + its.length ≤ 1000 →
    LoopTo (KK P) w C.length k env (match (stBody (topAt 21)).getD 1 (.Pass ⟨0,0,0,0⟩) with | .For t _ _ _ _ => t | _ => .Constant .none 0 ⟨0,0,0,0⟩) (match (stBody (topAt 21)).getD 1 (.Pass ⟨0,0,0,0⟩) with | .For _ _ b _ _ => b | _ => [])
      (its.map fun p => .tup [.v (.bool p.1), .int p.2]) [(Str.ofString "heap", .loc (.c C.length)), (Str.ofString "told", .loc told), (Str.ofString "codes", .loc codes)] (C ++ [.lst (stk.reverse.map dNode)])
      (.nxt [(Str.ofString "heap", .loc (.c C.length)), (Str.ofString "told", .loc told), (Str.ofString "codes", .loc codes)]) (C ++ [.lst (stk'.reverse.map dNode)])
  | [], stk, stk', h, _ => by cases h; exact .done
  | (false, c) :: its, stk, stk', h, hz => by
    have hz' : stk.length ≤ wt stk := by
      clear h hz; induction stk with
      | nil => simp [wt]
      | cons p s ih => simp [wt] at ih ⊢; omega
    refine .step (as_tup (.c (as_name (kd he (by decide +kernel))) (.c (as_name (kd he (by decide +kernel))) .nil))) ?_ (arms_loop he its ((1, []) :: stk) stk' h (by simp [wt] at hz ⊢; omega))
    refine ((exs_cons (ex_iff (tst_name (ev_n (by walk_at "lk") (by decide +kernel))) rfl (exs_cons (ex_expr (ev_meth (ev_n (by walk_at "lk") (by decide +kernel)) (mg_list (.c (get_last _ _)) PySem.F.slot_list_append PySem.F.type_list_append) rfl (.c (ev_tuple (.c ev_int (.c (ev_list .nil) .nil))) .nil) (o_append (get_last _ _) (by simp [sizeLine]; simp at hz; omega)) rfl) (inter_fn he (by decide +kernel)) (by kernel_rfl)) exs_nil)) exs_nil).cells ?_).less (GSub.c (by walk_at "lk") (GSub.c (by walk_at "lk") (GSub.c (by walk_at "lk") GSub.nil)))
    rw [set_last, dNode_snoc]
    rfl
  | (true, c) :: its, [], stk', h, hz => by cases h
  | (true, c) :: its, [p], stk', h, hz => by cases h
  | (true, c) :: its, (l, a) :: (r, b) :: stk, stk', h, hz => by
    have hz' : stk.length ≤ wt stk := by
      clear h hz; induction stk with
      | nil => simp [wt]
      | cons p s ih => simp [wt] at ih ⊢; omega
    have hw : wt ((l, a) :: (r, b) :: stk) = a.length + 1 + (b.length + 1) + wt stk := by simp [wt]; omega
    rw [hw] at hz
    simp at hz
    refine .step (as_tup (.c (as_name (kd he (by decide +kernel))) (.c (as_name (kd he (by decide +kernel))) .nil))) ?_ (arms_loop he its ((l + r, a ++ [(l, r, c)] ++ b) :: stk) stk' h (by simp [wt] at hz' ⊢; unfold wt at hz; omega))
    rw [dNode_snoc, dNode_snoc]
    refine ExecT.less (Γ₁ := _) (ExecT.cells (exs_cons (ex_ift (tst_name (ev_n (by walk_at "lk") (by decide +kernel))) rfl (exs_cons (C₁ := C ++ [.lst (stk.reverse.map dNode ++ [dNode (r, b)])]) (ExecT.cells (ex_bind (ev_meth (ev_n (by walk_at "lk") (by decide +kernel)) (mg_list (.c (get_last _ _)) PySem.F.slot_list_pop PySem.F.type_list_pop) rfl .nil (o_pop (get_last _ _) (by simp [sizeLine]; omega)) rfl) (as_tupd (.c (as_name (kd he (by decide +kernel))) (.c (as_name (kd he (by decide +kernel))) .nil))) (by kernel_rfl) (by kernel_rfl) rfl) (set_last _ _ _))
      (exs_cons (C₁ := C ++ [.lst (stk.reverse.map dNode)]) (ExecT.cells (ex_bind (ev_meth (ev_n (by walk_at "lk") (by decide +kernel)) (mg_list (.c (get_last _ _)) PySem.F.slot_list_pop PySem.F.type_list_pop) rfl .nil (o_pop (get_last _ _) (by simp [sizeLine]; omega)) rfl) (as_tupd (.c (as_name (kd he (by decide +kernel))) (.c (as_name (kd he (by decide +kernel))) .nil))) (by kernel_rfl) (by kernel_rfl) rfl) (set_last _ _ _))
      (exs_cons (ex_expr (ev_meth (ev_n (by walk_at "lk") (by decide +kernel)) (mg_list (.c (get_last _ _)) PySem.F.slot_list_append PySem.F.type_list_append) rfl (.c (ev_tuple (.c (ev_bin (ev_n (by walk_at "lk") (by decide +kernel)) (ev_n (by walk_at "lk") (by decide +kernel)) o_add) (.c (ev_bin (ev_bin (ev_n (by walk_at "lk") (by decide +kernel)) (ev_list (.c (ev_tuple (.c (ev_n (by walk_at "lk") (by decide +kernel)) (.c (ev_n (by walk_at "lk") (by decide +kernel)) (.c (ev_n (by walk_at "lk") (by decide +kernel)) .nil)))) .nil)) (o_addl .d .d (by simp [sizeLine]; omega))) (ev_n (by walk_at "lk") (by decide +kernel)) (o_addl .d .d (by simp [sizeLine]; omega))) .nil))) .nil) (o_append (get_last _ _) (by simp [sizeLine]; omega)) rfl) (inter_fn he (by decide +kernel)) (by kernel_rfl)) exs_nil)))) exs_nil) ?_) (GSub.c (by walk_at "lk") (GSub.c (by walk_at "lk") (GSub.c (by walk_at "lk") GSub.nil)))
    rw [set_last, dNode_snoc]
    simp [dNode, dTri]
theorem arms_op {told : List Bool} {codes : List Int} {m : Nat} {res : List Tri} (hl : told.length ≤ 100) (h : armsRun (told.reverse.zip codes.reverse) [] = some [(m, res)]) (hcl : codes.length ≤ 100) :
    Op (KK P) w (k + 1) C (fun vs => call (.ref 241) vs []) [.d (.list (dBools told)), .d (.list (dInts codes))] (.d (.list (res.map dTri))) C :=
  fn2 (C₁ := [.lst ([(m, res)].reverse.map dNode)]) (p := Str.ofString "told") (p' := Str.ofString "codes") def_241 (fun v v' => by kernel_rfl) (by kernel_rfl) (by kernel_rfl) (by decide +kernel) (by trivial) fun L => by
    have he : (envOf (codeOf P 241).qualname (codeOf P 241).scope L 241 (codeOf P 241).code).scope = stScope (topAt 21) := rfl
    have L := arms_loop (C := C) (w := w) (k := k) (P := P) (told := .d (.list (dBools told))) (codes := .d (.list (dInts codes))) he _ _ _ h (by simp [wt]; omega)
    have e : zipItems (dBools told).reverse (dInts codes).reverse = (told.reverse.zip codes.reverse).map fun p => Item.tup [.v (.bool p.1), .int p.2] := by
      rw [← List.map_reverse, ← List.map_reverse, zipItems, List.zip_map, List.map_map]
      rfl
    rw [← e] at L
    refine exs_cons (ex_assign (ev_listc .nil) (kd he (by decide +kernel)) (by kernel_rfl)) (exs_cons (ex_for (src_zip (ev_g he (by decide +kernel) (by walk_at "gl") (by decide +kernel)) rfl (.c (ev_sub (ev_n (by walk_at "lk") (by decide +kernel)) (ev_slice pt_none pt_none (pt_some (ev_un ev_int o_neg))) LstV.d.ty list_getitem_lookup (o_rev .d (by simp [sizeLine]; omega)) (fun _ _ => .inl rfl)) (.c (ev_sub (ev_n (by walk_at "lk") (by decide +kernel)) (ev_slice pt_none pt_none (pt_some (ev_un ev_int o_neg))) LstV.d.ty list_getitem_lookup (o_rev .d (by simp [sizeLine]; omega)) (fun _ _ => .inl rfl)) .nil))) L) ?_)
    exact exs_ret (ex_return (ev_sub (ev_sub (ev_n (by walk_at "lk") (by decide +kernel)) ev_int (LstV.c (get_last _ _)).ty list_getitem_lookup (o_get (.c (get_last _ _)) (by decide) (by decide) (d := dNode (m, res)) rfl) (fun _ _ => .inl rfl)) ev_int ty_tup PySem.F.slot_tuple_getitem.lookup (o_gett (by decide) (by decide) rfl) (fun _ _ => .inl rfl)))
end

end
/-! W7 -/
section

noncomputable def joint (c : Int) : Bool := decide (12271 < c) && decide (c < 12284)
noncomputable def leavesZ (codes : List Int) : List Nat := (List.range codes.length).filter fun j => !joint (codes.getD j 0)
noncomputable def turnZ (hour : Nat) (x : Int) : Nat := ((x.fmod 60).fmod ((hour : Int) + 1)).toNat
noncomputable def kindZ (x : Int) : Nat := ((x.fdiv 720).fmod 4).toNat
noncomputable def rawLeaf (x : Int) : Int := [12271, 12284, (x.fdiv 2880).fmod 64, (x.fdiv 2880).fmod 1114112].getD (kindZ x) 0
noncomputable def leafZ (x : Int) : Int := if joint (rawLeaf x) || (decide (55295 < rawLeaf x) && decide (rawLeaf x < 57344)) then 0 else rawLeaf x
noncomputable def signZ (x : Int) : Int := 12272 + (x.fdiv 60).fmod 12
noncomputable def growZ (s : List Int × List Int) (hour : Nat) (x : Int) : List Int × List Int :=
  let p := (leavesZ s.1).getD (turnZ hour x) 0
  (s.1.take p ++ [signZ x, s.1.getD p 0, leafZ x] ++ s.1.drop (p + 1), s.2.take (turnZ hour x) ++ (hour : Int) :: s.2.drop (turnZ hour x))
noncomputable def grownAt (numbers : List Int) : Nat → List Int × List Int
  | 0 => ([63], [])
  | j + 1 => growZ (grownAt numbers j) j (numbers.getD j 0)
theorem fmod_bounds (x : Int) {m : Int} (h : 0 < m) : 0 ≤ x.fmod m ∧ x.fmod m < m := ⟨Int.fmod_nonneg_of_pos x h, Int.fmod_lt_of_pos x h⟩
theorem turnZ_lt (hour : Nat) (x : Int) : turnZ hour x < hour + 1 := by
  have := fmod_bounds (x.fmod 60) (m := (hour : Int) + 1) (by omega)
  unfold turnZ; omega
theorem kindZ_lt (x : Int) : kindZ x < 4 := by
  have := fmod_bounds (x.fdiv 720) (m := 4) (by omega)
  unfold kindZ; omega
theorem leafZ_notjoint (x : Int) : joint (leafZ x) = false := by
  unfold leafZ
  split
  · decide
  · rename_i h
    simp only [Bool.or_eq_true, not_or] at h
    simpa using h.1
theorem signZ_joint (x : Int) : joint (signZ x) = true := by
  have := fmod_bounds (x.fdiv 60) (m := 12) (by omega)
  unfold joint signZ; rw [Bool.and_eq_true, decide_eq_true_eq, decide_eq_true_eq]; omega
/-- how many leaves -/
noncomputable def cntZ (codes : List Int) : Nat := (codes.filter fun c => !joint c).length
theorem leavesZ_len (codes : List Int) : (leavesZ codes).length = cntZ codes := by
  unfold leavesZ cntZ
  have : codes = (List.range codes.length).map fun j => codes.getD j 0 := by
    apply List.ext_getElem
    · simp
    · intro i h1 h2; simp [h1]
  conv => rhs; rw [this]
  rw [List.filter_map, List.length_map]
  rfl
theorem leavesZ_at {codes : List Int} {t : Nat} (h : t < cntZ codes) : (leavesZ codes).getD t 0 < codes.length ∧ joint (codes.getD ((leavesZ codes).getD t 0) 0) = false := by
  rw [← leavesZ_len] at h
  have hm : (leavesZ codes).getD t 0 ∈ leavesZ codes := by
    rw [List.getD_eq_getElem?_getD, List.getElem?_eq_getElem h]; exact List.getElem_mem h
  have h2 := List.mem_filter.mp (show _ ∈ List.filter _ _ from hm)
  generalize (leavesZ codes).getD t 0 = p at h2
  exact ⟨List.mem_range.mp h2.1, by simpa using h2.2⟩
structure Grown (s : List Int × List Int) (h : Nat) : Prop where
  cnt : cntZ s.1 = h + 1
  len : s.1.length = 2 * h + 1
  hrs : s.2.length = h
theorem Grown.step {s : List Int × List Int} {h : Nat} (g : Grown s h) (x : Int) : Grown (growZ s h x) (h + 1) := by
  have ht := turnZ_lt h x
  obtain ⟨p1, p2⟩ := leavesZ_at (codes := s.1) (t := turnZ h x) (by rw [g.cnt]; exact ht)
  have hsplit : s.1 = s.1.take ((leavesZ s.1).getD (turnZ h x) 0) ++ s.1.getD ((leavesZ s.1).getD (turnZ h x) 0) 0 :: s.1.drop ((leavesZ s.1).getD (turnZ h x) 0 + 1) := by
    rw [List.getD_eq_getElem?_getD (l := s.1), List.getElem?_eq_getElem p1]
    simp
  refine ⟨?_, ?_, ?_⟩
  · skip
    have c := g.cnt
    rw [hsplit] at c
    unfold cntZ at c ⊢
    simp only [growZ]
    generalize s.1.getD ((leavesZ s.1).getD (turnZ h x) 0) 0 = old at *
    simp only [List.filter_append, List.length_append, List.filter_cons, p2, signZ_joint, leafZ_notjoint] at c ⊢
    simp at c ⊢
    omega
  · simp only [growZ]
    have := g.len
    generalize (leavesZ s.1).getD (turnZ h x) 0 = p at *
    simp; omega
  · simp only [growZ]
    have := g.hrs
    simp; omega
theorem grownAt_ok (numbers : List Int) : ∀ j, Grown (grownAt numbers j) j
  | 0 => ⟨by show cntZ [63] = 1; decide, rfl, rfl⟩
  | j + 1 => (grownAt_ok numbers j).step _

end
/-! W8 -/
section

theorem get_2a (a c : Cell) (C : List Cell) : (C ++ [a, c])[C.length]? = some a := by simp
theorem get_2b (a c : Cell) (C : List Cell) : (C ++ [a, c])[C.length + 1]? = some c := by simp
theorem set_2a (a c x : Cell) (C : List Cell) : (C ++ [a, c]).set C.length x = C ++ [x, c] := by simp
theorem set_2b (a c x : Cell) (C : List Cell) : (C ++ [a, c]).set (C.length + 1) x = C ++ [a, x] := by simp
theorem norefs_2 {a c : Cell} {C : List Cell} (ha : a.refs = []) (hc : c.refs = []) (hC : ∀ c ∈ C, ∀ j ∈ c.refs, j < C.length) {i : Nat} (hi : C.length ≤ i) : ∀ (j : Nat) (x : Cell), (C ++ [a, c])[j]? = some x → i ∉ x.refs := fun j x hx hm => by
  by_cases h : j < C.length
  · rw [List.getElem?_append_left h] at hx
    have := hC x (List.mem_of_getElem? hx) _ hm
    omega
  · rw [List.getElem?_append_right (by omega)] at hx
    have hx := List.mem_of_getElem? hx
    simp only [List.mem_cons, List.not_mem_nil, or_false] at hx
    rcases hx with rfl | rfl
    · rw [ha] at hm; cases hm
    · rw [hc] at hm; cases hm
noncomputable abbrev forBody (s : Stmt) : List Stmt := match s with | .For _ _ b _ _ => b | _ => []
noncomputable abbrev forTgt (s : Stmt) : Expr := match s with | .For t _ _ _ _ => t | _ => .Constant .none 0 ⟨0,0,0,0⟩
noncomputable abbrev nth (l : List Stmt) (i : Nat) : Stmt := l.getD i (.Pass ⟨0,0,0,0⟩)
section
variable {w : World} {n k : Nat} {C : List Cell} {P : Params} {env : Env}
theorem grown_step {numbers : List Int} (hl : numbers.length ≤ 20) (hC : ∀ c ∈ C, ∀ j ∈ c.refs, j < C.length) (he : env.scope = stScope (topAt 19)) (j : Nat) (hj : j < numbers.length) :
    ExecT (KK P) w C.length k env [(Str.ofString "x", .loc (.d (.int (numbers.getD j 0)))), (Str.ofString "hour", .loc (.d (.int (j : Nat)))), (Str.ofString "hours", .loc (.c (C.length + 1))), (Str.ofString "codes", .loc (.c C.length)), (Str.ofString "numbers", .loc (.d (.list (dInts numbers))))]
      (C ++ [.lst (dInts (grownAt numbers j).1), .lst (dInts (grownAt numbers j).2)]) (execs (forBody (nth (stBody (topAt 19)) 2)) env)
      (.nxt [(Str.ofString "hours", .loc (.c (C.length + 1))), (Str.ofString "codes", .loc (.c C.length)), (Str.ofString "numbers", .loc (.d (.list (dInts numbers))))]) (C ++ [.lst (dInts (grownAt numbers (j + 1)).1), .lst (dInts (grownAt numbers (j + 1)).2)]) := by
  have gr := grownAt_ok numbers j
  generalize hx : numbers.getD j 0 = x
  have enext : grownAt numbers (j + 1) = growZ (grownAt numbers j) j x := by rw [← hx]; rfl
  rw [enext]
  clear enext
  generalize grownAt numbers j = s at gr ⊢
  obtain ⟨codes, hours⟩ := s
  have gc := gr.cnt
  have glen := gr.len
  have ghr := gr.hrs
  simp only at gc glen ghr ⊢
  have ht := turnZ_lt j x
  obtain ⟨p1, p2⟩ := leavesZ_at (codes := codes) (t := turnZ j x) (by rw [gc]; exact ht)
  have hll : (leavesZ codes).length = j + 1 := by rw [leavesZ_len, gc]
  have et : (x.fmod 60).fmod ((j : Int) + 1) = ((turnZ j x : Nat) : Int) := by
    have := fmod_bounds (x.fmod 60) (m := (j : Int) + 1) (by omega)
    unfold turnZ; omega
  have ek : (x.fdiv 720).fmod 4 = ((kindZ x : Nat) : Int) := by
    have := fmod_bounds (x.fdiv 720) (m := 4) (by omega)
    unfold kindZ; omega
  refine exs_cons (ex_comp_lock (ds := dInts codes) (i := C.length) (ys := (leavesZ codes).map fun i : Nat => D.int (i : Nat)) (src_enumc (ev_g he (by decide +kernel) (by walk_at "gl") (by decide +kernel)) rfl (.c (ev_n (by walk_at "lk") (by decide +kernel)) .nil) (get_2a _ _ _)) (by simp [enumItems, sizeLine]; omega) (get_2a _ _ _) (fun a c _ h => norefs_2 rfl rfl hC (Nat.le_refl _) a c h) (nb_c (nb_c (nb_c (nb_c (nb_c nb_nil))))) (by kernel_rfl) (fun a => ?_) (nocells (by decide +kernel)) rfl (locnames (by decide +kernel)) (kd he (by decide +kernel)) (sw_comp he (by decide +kernel))) ?_
  · rw [enumItems_map _ 0, set_2a]
    exact comp_filter fun i hi => ⟨_, as_tup (.c (as_name (ckd (by decide +kernel))) (.c (as_name (ckd (by decide +kernel))) .nil)), .one (tst_not (tst_chain ev_int (ev_n (by walk_at "lk") (by decide +kernel)) o_lt (fun _ => ev_int) (fun _ => o_lt) (by rfl))), fun _ => (ev_n (by walk_at "lk") (by decide +kernel)), GSub.nil⟩
  refine exs_cons (ex_assign (EvalTo.eq (ev_bin (ev_bin (ev_n (by walk_at "lk") (by decide +kernel)) ev_int (o_mod (by decide))) (ev_bin (ev_n (by walk_at "lk") (by decide +kernel)) ev_int o_add) (o_mod (by omega))) (r' := .d (.int ((turnZ j x : Nat) : Int))) (by rw [et])) (kd he (by decide +kernel)) (by kernel_rfl)) ?_
  refine exs_cons (ex_assign (EvalTo.eq (ev_bin (ev_bin (ev_n (by walk_at "lk") (by decide +kernel)) ev_int (o_fdiv (by decide) (by rfl))) ev_int (o_mod (by decide))) (r' := .d (.int ((kindZ x : Nat) : Int))) (by rw [ek])) (kd he (by decide +kernel)) (by kernel_rfl)) ?_
  refine exs_cons (ex_assign (EvalTo.eq (ev_sub (ev_list (.c ev_int (.c ev_int (.c (ev_bin (ev_bin (ev_n (by walk_at "lk") (by decide +kernel)) ev_int (o_fdiv (by decide) (by rfl))) ev_int (o_mod (by decide))) (.c (ev_bin (ev_bin (ev_n (by walk_at "lk") (by decide +kernel)) ev_int (o_fdiv (by decide) (by rfl))) ev_int (o_mod (by decide))) .nil))))) (ev_n (by walk_at "lk") (by decide +kernel)) LstV.d.ty list_getitem_lookup
    (o_getM (f := D.int) (xs := [12271, 12284, (x.fdiv 2880).fmod 64, (x.fdiv 2880).fmod 1114112]) 0 (kindZ x) rfl (kindZ_lt x) (by simp) .d) (fun _ _ => .inl rfl)) (r' := .d (.int (rawLeaf x))) rfl) (kd he (by decide +kernel)) (by kernel_rfl)) ?_
  have tl : TestTo (KK P) w k env [(Str.ofString "leaf", .loc (.d (.int (rawLeaf x)))), (Str.ofString "kind", .loc (.d (.int ((kindZ x : Nat) : Int)))), (Str.ofString "turn", .loc (.d (.int ((turnZ j x : Nat) : Int)))), (Str.ofString "leaves", .loc (.d (.list ((leavesZ codes).map fun i : Nat => D.int (i : Nat))))), (Str.ofString "x", .loc (.d (.int x))), (Str.ofString "hour", .loc (.d (.int (j : Nat)))), (Str.ofString "hours", .loc (.c (C.length + 1))), (Str.ofString "codes", .loc (.c C.length)), (Str.ofString "numbers", .loc (.d (.list (dInts numbers))))]
      (C ++ [.lst (dInts codes), .lst (dInts hours)]) (match nth (forBody (nth (stBody (topAt 19)) 2)) 4 with | .If t _ _ _ => t | _ => .Constant .none 0 ⟨0,0,0,0⟩) (joint (rawLeaf x) || (decide (55295 < rawLeaf x) && decide (rawLeaf x < 57344))) (C ++ [.lst (dInts codes), .lst (dInts hours)]) :=
    tst_or (tst_chain ev_int (ev_n (by walk_at "lk") (by decide +kernel)) o_lt (fun _ => ev_int) (fun _ => o_lt) (by rfl)) (fun _ => tst_chain ev_int (ev_n (by walk_at "lk") (by decide +kernel)) o_lt (fun _ => ev_int) (fun _ => o_lt) (by rfl))
  refine exs_cons (Γ₁ := [(Str.ofString "leaf", .loc (.d (.int (leafZ x)))), (Str.ofString "turn", .loc (.d (.int ((turnZ j x : Nat) : Int)))), (Str.ofString "leaves", .loc (.d (.list ((leavesZ codes).map fun i : Nat => D.int (i : Nat))))), (Str.ofString "x", .loc (.d (.int x))), (Str.ofString "hour", .loc (.d (.int (j : Nat)))), (Str.ofString "hours", .loc (.c (C.length + 1))), (Str.ofString "codes", .loc (.c C.length)), (Str.ofString "numbers", .loc (.d (.list (dInts numbers))))]) (C₁ := C ++ [.lst (dInts codes), .lst (dInts hours)]) ?_ ?_
  · cases hb : (joint (rawLeaf x) || (decide (55295 < rawLeaf x) && decide (rawLeaf x < 57344))) with
    | true =>
      have e : leafZ x = 0 := by unfold leafZ; rw [if_pos hb]
      rw [e]
      exact ExecT.less (ex_ift tl hb (exs_cons (ex_assign ev_int (kd he (by decide +kernel)) (by kernel_rfl)) exs_nil)) (GSub.c (by walk_at "lk") (GSub.c (by walk_at "lk") (GSub.c (by walk_at "lk") (GSub.c (by walk_at "lk") (GSub.c (by walk_at "lk") (GSub.c (by walk_at "lk") (GSub.c (by walk_at "lk") (GSub.c (by walk_at "lk") GSub.nil))))))))
    | false =>
      have e : leafZ x = rawLeaf x := by unfold leafZ; rw [if_neg (by rw [hb]; decide)]
      rw [e]
      exact ExecT.less (ex_iff tl hb exs_nil) (GSub.c (by walk_at "lk") (GSub.c (by walk_at "lk") (GSub.c (by walk_at "lk") (GSub.c (by walk_at "lk") (GSub.c (by walk_at "lk") (GSub.c (by walk_at "lk") (GSub.c (by walk_at "lk") (GSub.c (by walk_at "lk") GSub.nil))))))))
  generalize hp : (leavesZ codes).getD (turnZ j x) 0 = p at p1 p2
  have og : ∀ {k : Nat} {C : List Cell}, Op (KK P) w k C tGet [.d (.list ((leavesZ codes).map fun i : Nat => D.int (i : Nat))), .d (.int ((turnZ j x : Nat) : Int))] (.d (.int (p : Nat))) C := fun {k C} => by
    have := o_getM (K := KK P) (w := w) (k := k) (C := C) (f := fun i : Nat => D.int (i : Nat)) (xs := leavesZ codes) 0 (turnZ j x) rfl (by omega) (by omega) .d
    rw [hp] at this; exact this
  have egrow : growZ (codes, hours) j x = (codes.take p ++ [signZ x, codes.getD p 0, leafZ x] ++ codes.drop (p + 1), hours.take (turnZ j x) ++ (j : Int) :: hours.drop (turnZ j x)) := by
    simp only [growZ, hp]
  rw [egrow]
  refine exs_cons (ex_assign (ev_sub (ev_n (by walk_at "lk") (by decide +kernel)) (ev_sub (ev_n (by walk_at "lk") (by decide +kernel)) (ev_n (by walk_at "lk") (by decide +kernel)) LstV.d.ty list_getitem_lookup og (fun _ _ => .inl rfl)) (LstV.c (get_2a _ _ _)).ty list_getitem_lookup (o_getM 0 p rfl p1 (by omega) (.c (get_2a _ _ _))) (fun _ _ => .inl rfl)) (kd he (by decide +kernel)) (by kernel_rfl)) ?_
  refine exs_cons (C₁ := C ++ [.lst (dInts (codes.take p ++ [signZ x, codes.getD p 0, leafZ x] ++ codes.drop (p + 1))), .lst (dInts hours)]) (ExecT.cells (ex_setitem
    (ev_list (.c (ev_bin ev_int (ev_bin (ev_bin (ev_n (by walk_at "lk") (by decide +kernel)) ev_int (o_fdiv (by decide) (by rfl))) ev_int (o_mod (by decide))) o_add) (.c (ev_n (by walk_at "lk") (by decide +kernel)) (.c (ev_n (by walk_at "lk") (by decide +kernel)) .nil)))) (ev_n (by walk_at "lk") (by decide +kernel))
    (ev_slice (pt_some (ev_sub (ev_n (by walk_at "lk") (by decide +kernel)) (ev_n (by walk_at "lk") (by decide +kernel)) LstV.d.ty list_getitem_lookup og (fun _ _ => .inl rfl))) (pt_some (ev_bin (ev_sub (ev_n (by walk_at "lk") (by decide +kernel)) (ev_n (by walk_at "lk") (by decide +kernel)) LstV.d.ty list_getitem_lookup og (fun _ _ => .inl rfl)) ev_int o_add)) pt_none)
    (o_setslice (get_2a _ _ _) (by omega) (by omega) (by simp; omega) (by simp [sizeLine]; omega)) (by kernel_rfl) (by kernel_rfl) rfl) ?_) ?_
  · rw [set_2a]
    have e1 : ((p : Int) + 1).toNat = p + 1 := by omega
    rw [e1]
    simp [signZ]
  · refine ExecT.less (Γ₁ := _) (exs_cons (ExecT.cells (ex_expr (ev_meth (ev_n (by walk_at "lk") (by decide +kernel)) (mg_list (.c (get_2b _ _ _)) PySem.F.slot_list_insert PySem.F.type_list_insert) rfl (.c (ev_n (by walk_at "lk") (by decide +kernel)) (.c (ev_n (by walk_at "lk") (by decide +kernel)) .nil)) (o_insert (get_2b _ _ _) (by omega) (by omega) (by simp [sizeLine]; omega)) rfl) (inter_fn he (by decide +kernel)) (by kernel_rfl)) ?_) exs_nil) (GSub.c (by walk_at "lk") (GSub.c (by walk_at "lk") (GSub.c (by walk_at "lk") GSub.nil)))
    rw [set_2b]
    simp
theorem grown_x {numbers : List Int} (hl : numbers.length ≤ 20) (hC : ∀ c ∈ C, ∀ j ∈ c.refs, j < C.length) (he : env.scope = stScope (topAt 19)) :
    ExecT (KK P) w C.length k env [(Str.ofString "numbers", .loc (.d (.list (dInts numbers))))] C (execs (stBody (topAt 19)) env) (.ret (.d (.tup [.list (dInts (grownAt numbers numbers.length).1), .list (dInts (grownAt numbers numbers.length).2)]))) (C ++ [.gone, .gone]) := by
  have L := loop_idx (K := KK P) (w := w) (n := C.length) (k := k) (env := env) (target := forTgt (nth (stBody (topAt 19)) 2)) (body := forBody (nth (stBody (topAt 19)) 2)) (f := fun j : Nat => Item.tup [.int (j : Nat), .int (numbers.getD j 0)])
    (Γs := fun _ => [(Str.ofString "hours", .loc (.c (C.length + 1))), (Str.ofString "codes", .loc (.c C.length)), (Str.ofString "numbers", .loc (.d (.list (dInts numbers))))]) (Cs := fun j => C ++ [.lst (dInts (grownAt numbers j).1), .lst (dInts (grownAt numbers j).2)]) (N := numbers.length)
    fun j hj => ⟨_, _, as_tup (.c (as_name (kd he (by decide +kernel))) (.c (as_name (kd he (by decide +kernel))) .nil)), grown_step hl hC he j hj⟩
  refine exs_cons (ex_assign (ev_listc (.c ev_int .nil)) (kd he (by decide +kernel)) (by kernel_rfl)) ?_
  refine exs_cons (ex_assign (ev_listc .nil) (kd he (by decide +kernel)) (by kernel_rfl)) ?_
  have e1 : (C ++ [Cell.lst [D.int 63]]).length = C.length + 1 := by simp
  rw [e1, List.append_assoc]
  refine exs_cons (ex_for (src_enum (ev_g he (by decide +kernel) (by walk_at "gl") (by decide +kernel)) rfl (.c (ev_n (by walk_at "lk") (by decide +kernel)) .nil)) (by rw [enumItems_map _ 0]; exact L)) ?_
  generalize grownAt numbers numbers.length = g
  refine ExecT.freeze (i := C.length) (ds := dInts g.1) ?_ (get_2a _ _ _) (Nat.le_refl _) (fun a c _ h => norefs_2 rfl rfl hC (Nat.le_refl _) a c h) (nb_c (nb_c (nb_c nb_nil)))
  rw [set_2a]
  refine ExecT.freeze (i := C.length + 1) (ds := dInts g.2) ?_ (get_2b _ _ _) (Nat.le_succ _) (fun a c _ h => norefs_2 rfl rfl hC (Nat.le_succ _) a c h) ?_
  · rw [set_2b]
    have n1 : ¬ (C.length + 1 = C.length) := by omega
    simp only [frzG, frzVB, List.map_cons, List.map_nil, if_true, n1, if_false]
    exact exs_ret (ex_return (ev_tuple (.c (ev_n (by walk_at "lk") (by decide +kernel)) (.c (ev_n (by walk_at "lk") (by decide +kernel)) .nil))))
  · have n1 : ¬ (C.length + 1 = C.length) := by omega
    simp only [frzG, frzVB, List.map_cons, List.map_nil, if_true, n1, if_false]
    exact nb_c (nb_c (nb_c nb_nil))
theorem grown_op {numbers : List Int} (hl : numbers.length ≤ 20) : Op (KK P) w (k + 1) C (fun vs => call (.ref 227) vs []) [.d (.list (dInts numbers))] (.d (.tup [.list (dInts (grownAt numbers numbers.length).1), .list (dInts (grownAt numbers numbers.length).2)])) C := by
  intro A s b kp fs vs Q E hR S
  exact fn1 (C₁ := [.gone, .gone]) (p := Str.ofString "numbers") def_227 (fun v => by kernel_rfl) (by kernel_rfl) (by kernel_rfl) (by trivial) (fun L => grown_x hl S.closed rfl) A s b kp fs vs Q E hR S
end

end
/-! R1 -/
section
open Builtin.Re

theorem runFor_done {m : Sre.M} (h : m.outcome.isSome = true) : ∀ n, Sre.M.runFor n m = m
  | 0 => rfl
  | n + 1 => by show (if m.outcome.isSome = true then m else _) = m; rw [if_pos h]
theorem runFor_add : ∀ (a b : Nat) (m : Sre.M), Sre.M.runFor (a + b) m = Sre.M.runFor b (Sre.M.runFor a m)
  | 0, b, m => by rw [Nat.zero_add]; rfl
  | a + 1, b, m => by
    have e : a + 1 + b = (a + b) + 1 := by omega
    rw [e]
    show (if m.outcome.isSome = true then m else Sre.M.runFor (a + b) m.step) = Sre.M.runFor b (if m.outcome.isSome = true then m else Sre.M.runFor a m.step)
    by_cases h : m.outcome.isSome = true
    · rw [if_pos h, if_pos h, runFor_done h]
    · rw [if_neg h, if_neg h, runFor_add a b]
/-- a machine comes to an end -/
noncomputable def Ends (m m' : Sre.M) (n : Nat) : Prop := ∃ j, j ≤ n ∧ Sre.M.runFor j m = m' ∧ m'.outcome.isSome = true
theorem Ends.step {m m' : Sre.M} {n : Nat} (h0 : m.outcome.isSome = false) (h : Ends m.step m' n) : Ends m m' (n + 1) := by
  obtain ⟨j, hj, e, o⟩ := h
  refine ⟨j + 1, by omega, ?_, o⟩
  show (if m.outcome.isSome = true then m else Sre.M.runFor j m.step) = m'
  rw [if_neg (by rw [h0]; decide), e]
theorem Ends.now {m : Sre.M} {n : Nat} (h : m.outcome.isSome = true) : Ends m m n := ⟨0, Nat.zero_le _, rfl, h⟩
theorem Ends.le {m m' : Sre.M} {n k : Nat} (h : Ends m m' n) (hk : n ≤ k) : Ends m m' k := let ⟨j, a, b, c⟩ := h; ⟨j, by omega, b, c⟩

section
variable {M : Model} {A : Around} {E : Value → Shared → Prop} {s : Shared}
theorem drive_to {Q : Sre.M → Shared → Prop} {m' : Sre.M} (q : Q m' s) (ho : m'.outcome.isSome = true) : ∀ (t j : Nat) (m : Sre.M), Sre.M.runFor j m = m' → j ≤ 4 * t → 1 ≤ t → wpAny M A (reDrive t m) Q E s
  | 0, _, _, _, _, h => by omega
  | t + 1, j, m, e, hj, _ => by
    show wpAny M A (if (m.runFor reTurnSteps).outcome.isSome = true then pure (m.runFor reTurnSteps) else do rule "sre.turn"; reDrive t (m.runFor reTurnSteps)) Q E s
    by_cases h : (m.runFor reTurnSteps).outcome.isSome = true
    · rw [if_pos h]
      have : m.runFor reTurnSteps = m' := by
        by_cases hle : j ≤ reTurnSteps
        · have := runFor_add j (reTurnSteps - j) m
          rw [show j + (reTurnSteps - j) = reTurnSteps by omega, e, runFor_done ho] at this
          exact this
        · have := runFor_add reTurnSteps (j - reTurnSteps) m
          rw [show reTurnSteps + (j - reTurnSteps) = j by omega, e, runFor_done h] at this
          exact this.symm
      rw [this]
      exact wpAny_pure q
    · rw [if_neg h]
      have hle : ¬ j ≤ reTurnSteps := fun hle => by
        have := runFor_add j (reTurnSteps - j) m
        rw [show j + (reTurnSteps - j) = reTurnSteps by omega, e, runFor_done ho] at this
        rw [this] at h; exact h ho
      have e2 : Sre.M.runFor (j - 4) (m.runFor reTurnSteps) = m' := by
        have := runFor_add reTurnSteps (j - reTurnSteps) m
        rw [show reTurnSteps + (j - reTurnSteps) = j by omega, e] at this
        exact this.symm
      have h4 : reTurnSteps = 4 := rfl
      rw [h4] at hle
      exact wpAny_bind (wpAny_rule (drive_to q ho t (j - 4) _ e2 (by omega) (by omega)))
theorem rules_to {f : Nat → PUnit → Sem (ForInStep PUnit)} (hf : ∀ i (Q : ForInStep PUnit → Shared → Prop), Q (.yield ⟨⟩) s → wpAny M A (f i ⟨⟩) Q E s) {Q : PUnit → Shared → Prop} (q : Q ⟨⟩ s) : ∀ l : List Nat, wpAny M A (forIn l PUnit.unit f) Q E s
  | [] => wpAny_pure q
  | i :: l => by
    rw [List.forIn_cons]
    exact wpAny_bind (hf i _ (rules_to hf q l))
theorem runEnd_to {m m' : Sre.M} {n : Nat} {Q : Option Sre.M → Shared → Prop} (h : Ends m m' n) (hn : n ≤ 2 ^ 60) (q : match m'.outcome with | some .matched => Q (some m') s | some .failed => Q none s | _ => False) : wpAny M A (reRunToEnd m) Q E s := by
  obtain ⟨j, hj, e, o⟩ := h
  unfold reRunToEnd
  refine wpAny_bind (drive_to ?_ o (2 ^ 64) j m e (by omega) (by omega))
  refine wpAny_bind (rules_to (fun i Q hq => ?_) ?_ _)
  · by_cases h : m'.seen.has i = true
    · simp only [h, if_true]
      exact wpAny_bind (wpAny_rule (wpAny_pure hq))
    · simp only [h]
      exact wpAny_pure hq
  · revert q
    cases m'.outcome with
    | none => intro q; exact q.elim
    | some x =>
      cases x with
      | matched => intro q; exact wpAny_pure q
      | failed => intro q; exact wpAny_pure q
      | stuck _ => intro q; exact q.elim
end

end
/-! R2 -/
section
open Builtin.Re

noncomputable def cd1 : Array Nat := #[14, 4, 0, 1, 1, 6, 1, 16, 46, 1]
noncomputable def S1 (text : Array Nat) (lim s : Nat) (first : Bool) (seen : Sre.Seen) : Sre.M :=
  { code := cd1, text, lim, start := s, lastStart := lim, pc := 5, pos := s, handed := s, outermost := first, marks := Array.replicate (2 * 0) none, frames := [{ wait := .nextStart, pc := 5, pos := s, outermost := first }], weight := 1, seen }
noncomputable def bol (text : Array Nat) (s : Nat) : Bool := s == 0 || text.getD (s - 1) 0 == 10
noncomputable def hit1 (text : Array Nat) (s : Nat) : Bool := bol text s && text.getD s 0 == 46
noncomputable def find1 (text : Array Nat) : Nat → Nat → Option Nat
  | 0, _ => none
  | n + 1, s => if hit1 text s then some s else find1 text n (s + 1)
variable {text : Array Nat} {lim s : Nat} {first : Bool} {seen : Sre.Seen}
/-- the try at s has failed -/
noncomputable def F1 (text : Array Nat) (lim s : Nat) (first : Bool) (seen : Sre.Seen) (pc pos : Nat) (handed : Nat) : Sre.M := { S1 text lim s first seen with pc, pos, handed, answer := some false }
theorem F1_step {pc pos handed : Nat} : (F1 text lim s first seen pc pos handed).step = if s < lim then S1 text lim (s + 1) false seen else { S1 text lim s first seen with pc := 5, pos := s, handed, weight := 0, frames := [], answer := some false } := by
  by_cases h : s < lim
  · rw [if_pos h]
    show (if s < lim then _ else _) = _
    rw [if_pos h]
    rfl
  · rw [if_neg h]
    show (if s < lim then _ else _) = _
    rw [if_neg h]
    rfl
theorem S1_step : (S1 text lim s first seen).step = if bol text s = true then { S1 text lim s first ((seen.add 6).add 44) with pc := 7 } else F1 text lim s first ((seen.add 6).add 44) 5 s s := by rfl
theorem S1_step2 : ({ S1 text lim s first seen with pc := 7 } : Sre.M).step = if s ≥ lim then F1 text lim s first (seen.add 16) 7 s s else
    if (text.getD s 0 == 46) = true then { S1 text lim s first (seen.add 16) with pc := 9, pos := s + 1 } else F1 text lim s first (seen.add 16) 7 s s := by
  show (if s ≥ lim then _ else _) = _
  by_cases h : s ≥ lim
  · rw [if_pos h, if_pos h]; rfl
  · rw [if_neg h, if_neg h]
    show (match (Except.ok (text.getD s 0 == 46, seen.add 16) : Except String (Bool × Sre.Seen)) with
      | .error why => Sre.M.stick { S1 text lim s first (seen.add 16) with pc := 7 } why
      | .ok (false, seen) => Sre.M.say { S1 text lim s first seen with pc := 7 } false
      | .ok (true, seen) => { S1 text lim s first seen with pc := 9, pos := s + 1 }) = _
    cases hc : text.getD s 0 == 46
    · rfl
    · rfl
theorem S1_step3 : ({ S1 text lim s first seen with pc := 9, pos := s + 1 } : Sre.M).step = { S1 text lim s first (seen.add 1) with pc := 9, pos := s + 1, handed := s + 1, answer := some true } := by
  show (if (first && (false || false)) = true then _ else _) = _
  cases first <;> rfl
theorem S1_step4 : ({ S1 text lim s first seen with pc := 9, pos := s + 1, handed := s + 1, answer := some true } : Sre.M).step = { S1 text lim s first seen with pc := 5, pos := s, handed := s + 1, answer := some true, frames := [], weight := 0 } := by rfl
theorem S1_step5 : ({ S1 text lim s first seen with pc := 5, pos := s, handed := s + 1, answer := some true, frames := [], weight := 0 } : Sre.M).step = { S1 text lim s first seen with pc := 5, pos := s, handed := s + 1, answer := some true, frames := [], weight := 0, outcome := some .matched } := by rfl
/-- what a machine says at its end -/
noncomputable def Says (m : Sre.M) (r : Option (Nat × Nat)) : Prop := match r with
  | some (p, e) => m.outcome = some .matched ∧ m.start = p ∧ m.handed = e
  | none => m.outcome = some .failed
theorem F1_last {pc pos handed : Nat} (h : ¬ s < lim) : ∃ m', Ends (F1 text lim s first seen pc pos handed) m' 2 ∧ Says m' none := by
  refine ⟨_, Ends.step rfl (Ends.step ?_ (Ends.now ?_)), ?_⟩
  · rw [F1_step, if_neg h]; rfl
  · rw [F1_step, if_neg h]; rfl
  · rw [F1_step, if_neg h]; rfl
theorem S1_ends : ∀ (n s : Nat) (first : Bool) (seen : Sre.Seen), s + n = lim → ∃ m', Ends (S1 text lim s first seen) m' (8 * n + 8) ∧ Says m' ((find1 text n s).map fun p => (p, p + 1))
  | 0, s, first, seen, h => by
    have hs : ¬ s < lim := by omega
    by_cases hb : bol text s = true
    · obtain ⟨m', e, o⟩ := F1_last (text := text) (lim := lim) (s := s) (first := first) (seen := ((seen.add 6).add 44).add 16) (pc := 7) (pos := s) (handed := s) hs
      refine ⟨m', (Ends.step (m := S1 text lim s first seen) (n := 3) rfl ?_).le (by omega), o⟩
      rw [S1_step, if_pos hb]
      refine Ends.step (n := 2) rfl ?_
      rw [S1_step2, if_pos (by omega)]
      exact e
    · obtain ⟨m', e, o⟩ := F1_last (text := text) (lim := lim) (s := s) (first := first) (seen := (seen.add 6).add 44) (pc := 5) (pos := s) (handed := s) hs
      refine ⟨m', (Ends.step (m := S1 text lim s first seen) (n := 2) rfl ?_).le (by omega), o⟩
      rw [S1_step, if_neg hb]
      exact e
  | n + 1, s, first, seen, h => by
    have hs : s < lim := by omega
    by_cases hb : bol text s = true
    · cases hc : text.getD s 0 == 46 with
      | true =>
        have hh : hit1 text s = true := by unfold hit1; rw [hb, hc]; rfl
        refine ⟨{ S1 text lim s first ((((seen.add 6).add 44).add 16).add 1) with pc := 5, pos := s, handed := s + 1, answer := some true, frames := [], weight := 0, outcome := some .matched }, (Ends.step (m := S1 text lim s first seen) (n := 7) rfl ?_).le (by omega), ?_⟩
        · rw [S1_step, if_pos hb]
          refine Ends.step (n := 6) rfl ?_
          rw [S1_step2, if_neg (by omega), if_pos hc]
          refine Ends.step (n := 5) rfl ?_
          rw [S1_step3]
          refine Ends.step (n := 4) rfl ?_
          rw [S1_step4]
          refine Ends.step (n := 3) rfl ?_
          rw [S1_step5]
          exact Ends.now rfl
        · rw [find1, if_pos hh]
          exact ⟨rfl, rfl, rfl⟩
      | false =>
        have hh : hit1 text s = false := by unfold hit1; rw [hb, hc]; rfl
        obtain ⟨m', e, o⟩ := S1_ends n (s + 1) false (((seen.add 6).add 44).add 16) (by omega)
        refine ⟨m', (Ends.step (m := S1 text lim s first seen) (n := 8 * n + 8 + 2) rfl ?_).le (by omega), ?_⟩
        · rw [S1_step, if_pos hb]
          refine Ends.step (n := 8 * n + 8 + 1) rfl ?_
          rw [S1_step2, if_neg (by omega), if_neg (by rw [hc]; decide)]
          refine Ends.step (n := 8 * n + 8) rfl ?_
          rw [F1_step, if_pos hs]
          exact e
        · rw [find1, hh]; exact o
    · have hh : hit1 text s = false := by unfold hit1; rw [Bool.not_eq_true] at hb; rw [hb]; rfl
      obtain ⟨m', e, o⟩ := S1_ends n (s + 1) false ((seen.add 6).add 44) (by omega)
      refine ⟨m', (Ends.step (m := S1 text lim s first seen) (n := 8 * n + 8 + 1) rfl ?_).le (by omega), ?_⟩
      · rw [S1_step, if_neg hb]
        refine Ends.step (n := 8 * n + 8) rfl ?_
        rw [F1_step, if_pos hs]
        exact e
      · rw [find1, hh]; exact o
theorem search1 (text : Array Nat) (s : Nat) : ∃ m', Ends (Sre.forSearch cd1 text 0 s text.size false) m' (8 * text.size + 20) ∧ Says m' ((find1 text (text.size - s) s).map fun p => (p, p + 1)) := by
  by_cases h : s < text.size
  · have e : Sre.forSearch cd1 text 0 s text.size false = S1 text text.size s true (({} : Sre.Seen).add 14) := by
      show (if (decide (s > text.size) || decide (text.size - s < 1)) = true then _ else _) = _
      rw [if_neg (by simp; omega)]
      rfl
    rw [e]
    obtain ⟨m', e', o⟩ := S1_ends (text := text) (lim := text.size) (text.size - s) s true (({} : Sre.Seen).add 14) (by omega)
    exact ⟨m', e'.le (by omega), o⟩
  · have e : text.size - s = 0 := by omega
    rw [e]
    have e2 : ∃ m : Sre.M, Sre.forSearch cd1 text 0 s text.size false = m ∧ m.outcome.isSome = false ∧ ∃ m2, m.step = m2 ∧ m2.outcome = some .failed := by
      refine ⟨_, rfl, ?_⟩
      have : Sre.forSearch cd1 text 0 s text.size false = if (decide (s > text.size) || decide (text.size - s < 1)) = true then Sre.M.say { code := cd1, text, lim := text.size, start := s, pc := 5, pos := s, handed := s, marks := Array.replicate (2 * 0) none, seen := ({} : Sre.Seen).add 14 } false else S1 text text.size s true (({} : Sre.Seen).add 14) := rfl
      rw [this, if_pos (by simp; omega)]
      exact ⟨rfl, _, rfl, rfl⟩
    obtain ⟨m, e3, o1, m2, e4, o2⟩ := e2
    rw [e3]
    exact ⟨m2, (Ends.step (n := 0) o1 (by rw [e4]; exact Ends.now (by rw [o2]; rfl))).le (by omega), o2⟩

end
/-! R3 -/
section
open Builtin.Re

noncomputable def cd2 : Array Nat := #[14, 9, 4, 1, 2, 16, 10, 16, 13, 0, 7, 7, 16, 13, 16, 10, 15, 18, 5, 16, 10, 15, 13, 11, 16, 13, 5, 5, 0, 16, 10, 1, 15, 2, 0, 1]
noncomputable def f0 (s : Nat) : Sre.Frame := { wait := .nextStart, pc := 10, pos := s, outermost := true }
noncomputable def kp0 : Sre.Kept := { lastmark := -1, lastindex := -1, whole := false, marks := #[] }
noncomputable def fB (s pc : Nat) : Sre.Frame := { wait := .nextBranch, pc := pc, pos := s, outermost := true, kept := kp0 }
noncomputable def T2 (text : Array Nat) (lim s : Nat) (seen : Sre.Seen) : Sre.M :=
  { code := cd2, text, lim, start := s, lastStart := lim, pc := 10, pos := s, handed := s, outermost := true, marks := Array.replicate (2 * 0) none, frames := [f0 s], weight := 1, seen }
theorem lit_step (m : Sre.M) (ho : m.outcome = none) (ha : m.answer = none) (hc : m.code = cd2) (hp : m.pc = 12 ∨ m.pc = 14 ∨ m.pc = 19 ∨ m.pc = 24 ∨ m.pc = 29) :
    m.step = if m.pos ≥ m.lim then { m with seen := m.seen.add 16, answer := some false } else
      if (m.text.getD m.pos 0 == m.code.getD (m.pc + 1) 0) = true then { m with seen := m.seen.add 16, pc := m.pc + 2, pos := m.pos + 1 } else { m with seen := m.seen.add 16, answer := some false } := by
  rw [← Bool.cond_eq_ite]
  obtain ⟨code, text, lim, start, lastStart, wholeText, mustAdvance, pc, pos, handed, outermost, marks, lastmark, lastindex, loops, inner, frames, weight, answer, seen, outcome⟩ := m
  simp only at ho ha hc hp
  subst ho; subst ha; subst hc
  rcases hp with rfl | rfl | rfl | rfl | rfl <;> kernel_rfl
noncomputable def isEnd (c : Nat) : Bool := c == 10 || c == 13
noncomputable def end2 (text : Array Nat) (lim s : Nat) : Nat := if text.getD s 0 == 13 && (decide (s + 1 < lim) && text.getD (s + 1) 0 == 10) then s + 2 else s + 1
variable {text : Array Nat} {lim s : Nat} {seen : Sre.Seen}
/-- the end of a match -/
theorem T2_win {e hd : Nat} {fr : Sre.Frame} (hf : fr.wait = .nextBranch) (hw : fr.kept = kp0) :
    ∃ m', Ends ({ T2 text lim s seen with pc := 35, pos := e, handed := hd, frames := [fr, f0 s], weight := 2, outermost := true } : Sre.M) m' 4 ∧ Says m' (some (s, e)) := by
  obtain ⟨wait, pc, pos, out, count, kept, loop, began⟩ := fr
  simp only at hf hw
  subst hf; subst hw
  refine ⟨{ T2 text lim s (seen.add 1) with pc := 10, pos := s, handed := e, answer := some true, frames := [], weight := 0, outcome := some .matched }, Ends.step (n := 3) rfl (Ends.step (n := 2) rfl (Ends.step (n := 1) rfl (Ends.step (n := 0) rfl (Ends.now rfl)))), rfl, rfl, rfl⟩
theorem T2_10 (hs : s < lim) (hc : text.getD s 0 = 10) : ∃ m', Ends (T2 text lim s seen) m' 12 ∧ Says m' (some (s, s + 1)) := by
  obtain ⟨m', e, o⟩ := T2_win (text := text) (lim := lim) (s := s) (seen := (((seen.add 7).add 16).add 16).add 15) (e := s + 1) (hd := s) (fr := fB s 18) rfl rfl
  refine ⟨m', (Ends.step (n := 8) rfl ?_).le (by omega), o⟩
  show Ends ({ T2 text lim s (seen.add 7) with pc := 12, frames := [fB s 11, f0 s], weight := 2 } : Sre.M) m' 8
  refine Ends.step (n := 7) rfl ?_
  rw [lit_step _ rfl rfl rfl (.inl rfl), if_neg (by show ¬ s ≥ lim; omega), if_neg (by show ¬ (text.getD s 0 == 13) = true; rw [hc]; decide)]
  refine Ends.step (n := 6) rfl ?_
  show Ends ({ T2 text lim s ((seen.add 7).add 16) with pc := 19, frames := [fB s 18, f0 s], weight := 2 } : Sre.M) m' 6
  refine Ends.step (n := 5) rfl ?_
  rw [lit_step _ rfl rfl rfl (.inr (.inr (.inl rfl))), if_neg (by show ¬ s ≥ lim; omega), if_pos (by show (text.getD s 0 == 10) = true; rw [hc]; decide)]
  refine Ends.step (n := 4) rfl ?_
  exact e
theorem T2_13a (hs : s + 1 < lim) (hc : text.getD s 0 = 13) (hd : text.getD (s + 1) 0 = 10) : ∃ m', Ends (T2 text lim s seen) m' 12 ∧ Says m' (some (s, s + 2)) := by
  obtain ⟨m', e, o⟩ := T2_win (text := text) (lim := lim) (s := s) (seen := (((seen.add 7).add 16).add 16).add 15) (e := s + 2) (hd := s) (fr := fB s 11) rfl rfl
  refine ⟨m', (Ends.step (n := 7) rfl ?_).le (by omega), o⟩
  show Ends ({ T2 text lim s (seen.add 7) with pc := 12, frames := [fB s 11, f0 s], weight := 2 } : Sre.M) m' 7
  refine Ends.step (n := 6) rfl ?_
  rw [lit_step _ rfl rfl rfl (.inl rfl), if_neg (by show ¬ s ≥ lim; omega), if_pos (by show (text.getD s 0 == 13) = true; rw [hc]; decide)]
  refine Ends.step (n := 5) rfl ?_
  rw [lit_step _ rfl rfl rfl (.inr (.inl rfl)), if_neg (by show ¬ s + 1 ≥ lim; omega), if_pos (by show (text.getD (s + 1) 0 == 10) = true; rw [hd]; decide)]
  refine Ends.step (n := 4) rfl ?_
  exact e
theorem T2_13b (hs : s < lim) (hc : text.getD s 0 = 13) (hd : (decide (s + 1 < lim) && text.getD (s + 1) 0 == 10) = false) : ∃ m', Ends (T2 text lim s seen) m' 24 ∧ Says m' (some (s, s + 1)) := by
  have lit10 : ∀ (m : Sre.M), m.outcome = none → m.answer = none → m.code = cd2 → (m.pc = 12 ∨ m.pc = 14 ∨ m.pc = 19 ∨ m.pc = 24 ∨ m.pc = 29) → m.code.getD (m.pc + 1) 0 = 10 → m.pos = s + 1 → m.lim = lim → m.text = text → m.step = { m with seen := m.seen.add 16, answer := some false } := by
    intro m h1 h2 h3 h4 h5 h6 h7 h8
    rw [lit_step m h1 h2 h3 h4, h5, h6, h7, h8]
    by_cases hl : s + 1 ≥ lim
    · rw [if_pos hl]
    · rw [if_neg hl, if_neg]
      intro hx
      rw [hx] at hd
      simp at hd
      omega
  obtain ⟨m', e, o⟩ := T2_win (text := text) (lim := lim) (s := s) (seen := (((((((seen.add 7).add 16).add 16).add 16).add 16).add 5).add 16).add 15) (e := s + 1) (hd := s + 1) (fr := fB s 23) rfl rfl
  refine ⟨m', (Ends.step (n := 15) rfl ?_).le (by omega), o⟩
  show Ends ({ T2 text lim s (seen.add 7) with pc := 12, frames := [fB s 11, f0 s], weight := 2 } : Sre.M) m' 15
  refine Ends.step (n := 14) rfl ?_
  rw [lit_step _ rfl rfl rfl (.inl rfl), if_neg (by show ¬ s ≥ lim; omega), if_pos (by show (text.getD s 0 == 13) = true; rw [hc]; decide)]
  refine Ends.step (n := 13) rfl ?_
  rw [lit10 _ rfl rfl rfl (.inr (.inl rfl)) rfl rfl rfl rfl]
  refine Ends.step (n := 12) rfl ?_
  show Ends ({ T2 text lim s (((seen.add 7).add 16).add 16) with pc := 19, frames := [fB s 18, f0 s], weight := 2 } : Sre.M) m' 12
  refine Ends.step (n := 11) rfl ?_
  rw [lit_step _ rfl rfl rfl (.inr (.inr (.inl rfl))), if_neg (by show ¬ s ≥ lim; omega), if_neg (by show ¬ (text.getD s 0 == 10) = true; rw [hc]; decide)]
  refine Ends.step (n := 10) rfl ?_
  show Ends ({ T2 text lim s ((((seen.add 7).add 16).add 16).add 16) with pc := 24, frames := [fB s 23, f0 s], weight := 2 } : Sre.M) m' 10
  refine Ends.step (n := 9) rfl ?_
  rw [lit_step _ rfl rfl rfl (.inr (.inr (.inr (.inl rfl)))), if_neg (by show ¬ s ≥ lim; omega), if_pos (by show (text.getD s 0 == 13) = true; rw [hc]; decide)]
  refine Ends.step (n := 8) rfl ?_
  show Ends ({ T2 text lim s (((((((seen.add 7).add 16).add 16).add 16).add 16)).add 5) with pc := 29, pos := s + 1, handed := s + 1, outermost := false, frames := [{ wait := .lookNot, pc := 26, pos := s + 1, outermost := true, kept := kp0 }, fB s 23, f0 s], weight := 3 } : Sre.M) m' 8
  refine Ends.step (n := 7) rfl ?_
  rw [lit10 _ rfl rfl rfl (.inr (.inr (.inr (.inr rfl)))) rfl rfl rfl rfl]
  refine Ends.step (n := 6) rfl ?_
  refine Ends.step (n := 5) rfl ?_
  refine e.le (by omega)
theorem T2_ends (hs : s < lim) (hc : isEnd (text.getD s 0) = true) : ∃ m', Ends (T2 text lim s seen) m' 24 ∧ Says m' (some (s, end2 text lim s)) := by
  unfold end2
  by_cases h10 : text.getD s 0 = 10
  · rw [if_neg (by rw [h10]; simp)]
    obtain ⟨m', e, o⟩ := T2_10 (seen := seen) hs h10
    exact ⟨m', e.le (by omega), o⟩
  · have h13 : text.getD s 0 = 13 := by
      unfold isEnd at hc
      simp only [Bool.or_eq_true, beq_iff_eq] at hc
      omega
    cases hd : (decide (s + 1 < lim) && text.getD (s + 1) 0 == 10) with
    | true =>
      rw [if_pos (by rw [h13]; rfl)]
      simp only [Bool.and_eq_true, decide_eq_true_eq, beq_iff_eq] at hd
      obtain ⟨m', e, o⟩ := T2_13a (seen := seen) hd.1 h13 hd.2
      exact ⟨m', e.le (by omega), o⟩
    | false =>
      rw [if_neg (by rw [h13]; decide)]
      exact T2_13b hs h13 hd
noncomputable def find2 (text : Array Nat) : Nat → Nat → Option Nat
  | 0, _ => none
  | n + 1, s => if isEnd (text.getD s 0) then some s else find2 text n (s + 1)
theorem set2 (c fuel : Nat) (seen : Sre.Seen) : ∃ seen', Sre.inSet cd2 c (fuel + 3) 5 true seen = .ok (isEnd c, seen') := by
  cases h1 : c == 10 with
  | true =>
    refine ⟨seen.add 16, ?_⟩
    show (if (c == 10) = true then _ else _) = _
    rw [h1]; unfold isEnd; rw [h1]; rfl
  | false =>
    cases h2 : c == 13 with
    | true =>
      refine ⟨(seen.add 16).add 16, ?_⟩
      show (if (c == 10) = true then _ else if (c == 13) = true then _ else _) = _
      rw [h1, h2]; unfold isEnd; rw [h1, h2]; rfl
    | false =>
      refine ⟨((seen.add 16).add 16).add 0, ?_⟩
      show (if (c == 10) = true then _ else if (c == 13) = true then _ else _) = _
      rw [h1, h2]; unfold isEnd; rw [h1, h2]; rfl
theorem admitted2 (m : Sre.M) (hc : m.code = cd2) : ∀ (n fuel s : Nat) (seen : Sre.Seen), s + n = m.lim → n < fuel → ∃ seen', Sre.M.admitted m fuel s seen = .ok (find2 m.text n s, seen')
  | n, 0, s, seen, _, h => by omega
  | 0, fuel + 1, s, seen, h, _ => by
    refine ⟨seen, ?_⟩
    show (if s ≥ m.lim then _ else _) = _
    rw [if_pos (by omega)]; rfl
  | n + 1, fuel + 1, s, seen, h, hf => by
    obtain ⟨seen1, e1⟩ := set2 (m.text.getD s 0) 33 seen
    have e0 : Sre.inSet m.code (m.text.getD s 0) m.code.size 5 true seen = .ok (isEnd (m.text.getD s 0), seen1) := by rw [hc]; exact e1
    have e2 : Sre.M.admitted m (fuel + 1) s seen = match Sre.inSet m.code (m.text.getD s 0) m.code.size 5 true seen with
        | .ok (true, seen) => .ok (some s, seen)
        | .ok (false, seen) => Sre.M.admitted m fuel (s + 1) seen
        | .error why => .error why := by
      show (if s ≥ m.lim then _ else _) = _
      rw [if_neg (by omega)]
      rfl
    rw [e2, e0]
    unfold find2
    cases hx : isEnd (m.text.getD s 0) with
    | true => exact ⟨seen1, rfl⟩
    | false => exact admitted2 m hc n fuel (s + 1) seen1 (by omega) (by omega)
theorem find2_some {text : Array Nat} : ∀ {n s p : Nat}, find2 text n s = some p → s ≤ p ∧ p < s + n ∧ isEnd (text.getD p 0) = true
  | 0, s, p, h => by cases h
  | n + 1, s, p, h => by
    unfold find2 at h
    cases hx : isEnd (text.getD s 0) with
    | true => rw [hx] at h; cases h; exact ⟨by omega, by omega, hx⟩
    | false =>
      rw [hx] at h
      have := find2_some (n := n) (s := s + 1) h
      exact ⟨by omega, by omega, this.2.2⟩
theorem search2 (text : Array Nat) (s : Nat) : ∃ m', Ends (Sre.forSearch cd2 text 0 s text.size false) m' 40 ∧ Says m' ((find2 text (text.size - s) s).map fun p => (p, end2 text text.size p)) := by
  let m0 : Sre.M := { code := cd2, text, lim := text.size, start := s, pc := 10, pos := s, handed := s, marks := Array.replicate (2 * 0) none, seen := ({} : Sre.Seen).add 14 }
  have e : Sre.forSearch cd2 text 0 s text.size false = if (decide (s > text.size) || decide (text.size - s < 1)) = true then Sre.M.say m0 false else Sre.M.attemptFrom { m0 with lastStart := text.size } s true := rfl
  by_cases h : s < text.size
  · rw [e, if_neg (by simp; omega)]
    obtain ⟨seen', ea⟩ := admitted2 { m0 with lastStart := text.size } rfl (text.size - s) (text.size + 1 - s) s (({} : Sre.Seen).add 14) (by show s + (text.size - s) = text.size; omega) (by omega)
    have e2 : Sre.M.attemptFrom { m0 with lastStart := text.size } s true = match Sre.M.admitted { m0 with lastStart := text.size } (text.size + 1 - s) s (({} : Sre.Seen).add 14) with
        | .ok (some s, seen) => Sre.M.attemptAt { m0 with lastStart := text.size, mustAdvance := false, seen } s true
        | .ok (none, seen) => Sre.M.say { m0 with lastStart := text.size, seen } false
        | .error why => Sre.M.stick { m0 with lastStart := text.size } why := rfl
    rw [e2, ea]
    show ∃ m', Ends (match (Except.ok (find2 text (text.size - s) s, seen') : Except String (Option Nat × Sre.Seen)) with
        | .ok (some s, seen) => Sre.M.attemptAt { m0 with lastStart := text.size, mustAdvance := false, seen } s true
        | .ok (none, seen) => Sre.M.say { m0 with lastStart := text.size, seen } false
        | .error why => Sre.M.stick { m0 with lastStart := text.size } why) m' 40 ∧ _
    cases hf : find2 text (text.size - s) s with
    | none => exact ⟨_, Ends.step (n := 39) rfl (Ends.now rfl), rfl⟩
    | some p =>
      obtain ⟨h1, h2, h3⟩ := find2_some hf
      obtain ⟨m', e', o⟩ := T2_ends (text := text) (lim := text.size) (s := p) (seen := seen') (by omega) h3
      exact ⟨m', e'.le (by omega), o⟩
  · rw [e, if_pos (by simp; omega)]
    have e0 : text.size - s = 0 := by omega
    rw [e0]
    exact ⟨_, Ends.step (n := 39) rfl (Ends.now rfl), rfl⟩

end
/-! R4 -/
section
open Builtin.Re
theorem plainAttrs_pat : PlainAttrs "re.Pattern" :=
  ⟨⟨"object.__getattribute__", by rw [typeLookup_type, builtinLookup_eq_fast]; kernel_rfl, by decide +kernel⟩, by rw [typeLookup_type, builtinLookup_eq_fast]; kernel_rfl⟩
theorem slot_pat_sub : Slot "re.Pattern" "sub" "re.Pattern.sub" :=
  .of (owner := "re.Pattern") (n := "sub") (by rw [typeLookup_type, builtinLookup_eq_fast]; kernel_rfl) (by decide +kernel) (by decide +kernel) (by decide +kernel)
    (by first | exact .inl (by decide +kernel) | exact .inr (by decide +kernel)) (by rw [isSubtype_type]; kernel_rfl)
theorem type_pat_sub : typeOf (.builtin "re.Pattern.sub") = pure (.type "method_descriptor") := by show builtinType _ = _; rw [builtinType_eq_fast]; kernel_rfl
theorem entry_pat_sub : entryFor table "re.Pattern.sub" = some Builtin.«re.Pattern.sub» := entryFor_of_tree (by kernel_rfl)
theorem args_pat_sub (a b c : Value) : argsOk "re.Pattern.sub" ⟨[a, b, c], []⟩ := by unfold argsOk; kernel_rfl
theorem slot_pat_search : Slot "re.Pattern" "search" "re.Pattern.search" :=
  .of (owner := "re.Pattern") (n := "search") (by rw [typeLookup_type, builtinLookup_eq_fast]; kernel_rfl) (by decide +kernel) (by decide +kernel) (by decide +kernel)
    (by first | exact .inl (by decide +kernel) | exact .inr (by decide +kernel)) (by rw [isSubtype_type]; kernel_rfl)
theorem type_pat_search : typeOf (.builtin "re.Pattern.search") = pure (.type "method_descriptor") := by show builtinType _ = _; rw [builtinType_eq_fast]; kernel_rfl
theorem entry_pat_search : entryFor table "re.Pattern.search" = some Builtin.«re.Pattern.search» := entryFor_of_tree (by kernel_rfl)
theorem args_pat_search (a b : Value) : argsOk "re.Pattern.search" ⟨[a, b], []⟩ := by unfold argsOk; kernel_rfl
theorem entry_sub_loop : entryFor table "re.Pattern.sub.loop" = some Builtin.«re.Pattern.sub.loop» := entryFor_of_tree (by kernel_rfl)
theorem plain_sub_loop : plainId "re.Pattern.sub.loop" = true := by decide +kernel

end
/-! R5 -/
section
open Builtin.Re
/-- a pattern in the heap -/
structure PatAt (h : Heap) (p : Addr) (code : Array Nat) : Prop where
  ex : ∃ o v0 v1 v3 v4 q, h.get? p = some o ∧ o.cls = .type "re.Pattern" ∧ o.dict = none ∧ o.data = .fields #[v0, v1, .int 0 0, v3, v4, .ref q, .int 0 0] ∧ ∃ o2 xs n, h.get? q = some o2 ∧ o2.data = .seq xs n ∧ (xs.map reRawOf).map (·.toNat) = code
section
variable {M : Model} {A : Around} {E : Value → Shared → Prop} {s : Shared}
theorem target_to {p : Addr} {code : Array Nat} {x : Str} {t : Tok} {Q : ReTarget → Shared → Prop} (hp : PatAt s.heap p code) (q : Q { pattern := .ref p, string := .str x t, code := code, text := x.cps, kind := 0, groups := 0, pos := 0, lim := x.cps.size } s) :
    wpAny M A (reWholeTarget (.ref p) (.str x t)) Q E s := by
  obtain ⟨o, v0, v1, v3, v4, qa, ho, hc, hd0, hd, o2, xs, n, ho2, hd2, hcode⟩ := hp.ex
  unfold reWholeTarget
  refine wpAny_bind (wpAny_fieldsOf ho hd ?_)
  refine wpAny_bind (m := reTextOf (.str x t)) (wpAny_of_eq (a := (x.cps, 0)) rfl ?_)
  refine wpAny_bind (m := reNoCollectionInside (.str x t) 0) (wpAny_of_eq (a := ()) rfl ?_)
  show wpAny M A (do
    let c ← reRawItems (.ref qa)
    pure { pattern := .ref p, string := .str x t, code := c.map (·.toNat), text := x.cps, kind := 0, groups := 0, pos := 0, lim := x.cps.size }) Q E s
  refine wpAny_bind ?_
  unfold reRawItems
  refine wpAny_bind (wpAny_seqItems ho2 hd2 (wpAny_pure (wpAny_pure ?_)))
  show Q { pattern := .ref p, string := .str x t, code := (xs.map reRawOf).map (·.toNat), text := x.cps, kind := 0, groups := 0, pos := 0, lim := x.cps.size } s
  rw [hcode]
  exact q
end

end
/-! R6 -/
section
open Builtin.Re
noncomputable abbrev Finds := Nat → Option (Nat × Nat)
structure FindsOk (code : Array Nat) (text : Array Nat) (F : Finds) : Prop where
  ends : ∀ s, s ≤ text.size → ∃ m' n, n ≤ 2 ^ 60 ∧ Ends (Sre.forSearch code text 0 s text.size false) m' n ∧ Says m' (F s)
  bound : ∀ s p e, F s = some (p, e) → s ≤ p ∧ p < e ∧ e ≤ text.size
noncomputable def subZ (F : Finds) (text repl : List Nat) : Nat → Nat → List Nat
  | 0, d => text.drop d
  | n + 1, d => match F d with
    | none => text.drop d
    | some (p, e) => (text.drop d).take (p - d) ++ repl ++ subZ F text repl n e
noncomputable def cat (l : List Str) : List Nat := (l.map fun p => p.cps.toList).flatten
theorem cat_snoc (l : List Str) (x : Str) : cat (l ++ [x]) = cat l ++ x.cps.toList := by simp [cat]
theorem joinCat (l : List Str) : Txt.join ⟨#[]⟩ l = ⟨(cat l).toArray⟩ := by
  suffices h : (Txt.join ⟨#[]⟩ l).cps.toList = cat l by
    have : (Txt.join ⟨#[]⟩ l).cps = (cat l).toArray := by rw [← h]
    calc Txt.join ⟨#[]⟩ l = ⟨(Txt.join ⟨#[]⟩ l).cps⟩ := rfl
      _ = _ := by rw [this]
  unfold Txt.join Builtin.Str.glued
  cases l with
  | nil => rfl
  | cons p r =>
    have go : ∀ (r : List Str) (acc : Array Nat), (r.foldl (fun acc p => acc ++ (⟨#[]⟩ : Str).cps ++ p.cps) acc).toList = acc.toList ++ cat r := by
      intro r
      induction r with
      | nil => intro acc; simp [cat]
      | cons q r ih => intro acc; simp only [List.foldl_cons]; rw [ih]; simp [cat]
    simp only [List.drop_succ_cons, List.drop_zero, List.headD_cons]
    rw [go]
    simp [cat]
section
variable {K : Frag} {w : World} {b : PM} {kp : Kp} {fs : List Foot} {C : List Cell} {s : Shared} {A : Around}
theorem push_piece {E : Value → Shared → Prop} {ys : List Str} {L : Addr} {y : Str} {v : Value} {Q : Unit → Shared → Prop} (S : St K b kp fs (C ++ [.lst (ys.map .str)]) s.heap) (r : RepA b fs (.ref L) (.c C.length)) (hz : ys.length ≤ 10000) (hv : Rep b v (.str y))
    (q : ∀ fs' h', Keep fs.length fs fs' → St K b kp fs' (C ++ [.lst ((ys ++ [y]).map .str)]) h' → Q () { s with heap := h' }) : wpAny (model prg w) A (updateSeq L (·.push v)) Q E s := by
  obtain ⟨a, vs, n, ev, hf, e, rl⟩ := rep_cell S (i := C.length) (ds := ys.map .str) (by simp) r
  cases ev
  have hl := rl.length
  simp at hl
  refine wpAny_updateSeq e rfl ?_ (by simp [sizeLine]; omega) (by simp [sizeLine]; omega)
  obtain ⟨n', S', kf⟩ := S.turnL (f := fun x => x.push v) (vs' := vs ++ [v]) (ds := ys.map .str) (ds' := (ys ++ [y]).map .str) (i := C.length) (by simp) hf (by simp) (by rw [List.map_append]; exact rl.snoc hv)
  have e2 : (C ++ [Cell.lst (ys.map .str)]).set C.length (.lst ((ys ++ [y]).map .str)) = C ++ [.lst ((ys ++ [y]).map .str)] := by simp
  rw [e2] at S'
  exact q _ _ kf S'
theorem join_ok {ys : List Str} (hb : ∀ y ∈ ys, y.length ≤ 1000) (hz : ys.length ≤ 10000) : JoinOk ⟨#[]⟩ ys = true :=
  by unfold JoinOk; rw [StrLaws.joinFits (sep := ⟨#[]⟩) (B := 1000) hb (by show _ + ys.length * 0 ≤ _; omega)]; rfl
theorem slice_mk {E : Value → Shared → Prop} {text : Array Nat} {p e : Nat} {Q : Value → Shared → Prop} (hz : text.size ≤ 1000) (q : ∀ t, Q (.str ⟨text.extract p e⟩ t) { s with toks := s.toks + 1 }) : wpAny (model prg w) A (reSlice text 0 p e) Q E s := by
  show wpAny _ _ (mkStr ⟨text.extract p e⟩) _ _ s
  exact wpAny_mkStr (q _) (by show (text.extract p e).size ≤ _; simp [sizeLine]; omega)
theorem sub_tail {E : Value → Shared → Prop} {L : Addr} {x : Str} {ys : List Str} {Q : Fin → Shared → Prop} (hx : x.cps.size ≤ 1000) (S : St K b kp fs (C ++ [.lst (ys.map .str)]) s.heap) (r : RepA b fs (.ref L) (.c C.length)) (hlen : ys.length ≤ 10000) (hb : ∀ y ∈ ys, y.length ≤ 1000)
    (q : ∀ tk t', Q (.done (.ret (.str ⟨(cat ys).toArray⟩ t'))) { s with toks := tk }) :
    wpAny (model prg w) A (reSlice x.cps 0 0 0 >>= fun joiner => seqItems? (.ref L) >>= fun xs => if (xs.getD #[]).isEmpty = true then pure joiner >>= fun text => ret text else call (.builtin "str.join") [joiner, .ref L] >>= fun text => ret text) Q E s := by
  refine wpAny_bind (slice_mk hx fun t0 => ?_)
  obtain ⟨a, vs, n, ev, hf, e, rl⟩ := rep_cell S (i := C.length) (ds := ys.map .str) (by simp) r
  cases ev
  refine wpAny_bind (wpAny_bind (wpAny_load (o := lstO vs n) e (wpAny_pure ?_)))
  show wpAny _ _ (if vs.toArray.isEmpty = true then _ else _) _ _ _
  obtain ⟨l, rfl, el⟩ := strs_of rl
  have x0 : (⟨x.cps.extract 0 0⟩ : Str) = ⟨#[]⟩ := by simp
  by_cases h : (strValues l).toArray.isEmpty = true
  · rw [if_pos h]
    refine wpAny_bind (wpAny_pure (wpAny_pure ?_))
    have : ys = [] := by
      rw [← el]
      cases l with
      | nil => rfl
      | cons _ _ => simp [strValues] at h
    subst this
    have := q (s.toks + 1) t0
    rw [x0]
    exact this
  · rw [if_neg h, x0]
    refine wpAny_bind (SC.join (isList_of e) el (join_ok hb hlen) fun t' tk => wpAny_pure ?_)
    rw [joinCat]
    exact q tk t'
variable {R : Result → Shared → Prop}
theorem sub_end {p L : Addr} {code : Array Nat} {x : Str} {t : Tok} {repl : Str} {rt : Tok} {F : Finds} {ys : List Str} {n d : Nat}
    (hp : PatAt s.heap p code) (hF : FindsOk code x.cps F) (hx : x.cps.size ≤ 1000) (hd : d ≤ x.cps.size) (hf : F d = none) (S : St K b kp fs (C ++ [.lst (ys.map .str)]) s.heap) (r : RepA b fs (.ref L) (.c C.length)) (hlen : ys.length ≤ 2 * d) (hb : ∀ y ∈ ys, y.length ≤ 1000)
    (q : ∀ fs' h' tk t' ys', Keep fs.length fs fs' → St K b kp fs' (C ++ [.lst ys']) h' → R (.ok (.ret (.str ⟨(cat ys ++ x.cps.toList.drop d).toArray⟩ t'))) { s with heap := h', toks := tk }) :
    codeAny (model prg w) A (.builtin "re.Pattern.sub.loop" ⟨[.ref p, .str x t, .str repl rt, rawInt 0, rawInt 0, rawInt n, rawInt d, rawInt d, .bool false, .ref L, .bool false], []⟩) R s := by
  refine codeAny_builtin entry_sub_loop ?_
  rw [Around.under_plainId plain_sub_loop _]
  show wpAny _ _ (reWholeTarget (.ref p) (.str x t) >>= _) _ _ s
  refine wpAny_bind (target_to hp ?_)
  refine wpAny_bind (m := reLiteralCannotBeTurned (.str repl rt)) (wpAny_of_eq (a := ()) rfl ?_)
  obtain ⟨m', nn, hnn, he, hs⟩ := hF.ends d hd
  rw [hf] at hs
  refine wpAny_bind (m := reRunToEnd (Sre.forSearch code x.cps 0 d x.cps.size false)) (runEnd_to he hnn ?_)
  rw [show m'.outcome = some .failed from hs]
  show wpAny _ _ (if d < x.cps.size then _ else _) _ _ s
  by_cases hlt : d < x.cps.size
  · rw [if_pos hlt]
    refine wpAny_bind (m := reSlice x.cps 0 d x.cps.size) (slice_mk hx fun t1 => ?_)
    refine wpAny_bind (push_piece (y := ⟨x.cps.extract d x.cps.size⟩) S r (by omega) .str fun fs' h' kf S' => ?_)
    refine sub_tail hx S' (r.mono Sub.refl kf) (by simp; omega) (fun y hy => ?_) fun tk t' => ?_
    · rcases List.mem_append.mp hy with hy | hy
      · exact hb y hy
      · simp at hy; subst hy; show (x.cps.extract d x.cps.size).size ≤ _; simp; omega
    · have := q fs' h' tk t' _ kf S'
      rw [cat_snoc]
      have e3 : (x.cps.extract d x.cps.size).toList = x.cps.toList.drop d := by
        simp
        exact List.take_of_length_le (by simp)
      show R (.ok (.ret (.str ⟨(cat ys ++ (x.cps.extract d x.cps.size).toList).toArray⟩ t'))) _
      rw [e3]
      exact this
  · rw [if_neg hlt]
    refine sub_tail hx S r (by omega) hb fun tk t' => ?_
    have := q fs s.heap tk t' _ Keep.refl S
    rw [List.drop_eq_nil_of_le (by simp; omega), List.append_nil] at this
    exact this
theorem sub_step {p L : Addr} {code : Array Nat} {x : Str} {t : Tok} {repl : Str} {rt : Tok} {F : Finds} {ys : List Str} {n d u e : Nat}
    (hp : PatAt s.heap p code) (hF : FindsOk code x.cps F) (hx : x.cps.size ≤ 1000) (hrep : repl.cps.size ≤ 1000) (hd : d ≤ x.cps.size) (hf : F d = some (u, e)) (S : St K b kp fs (C ++ [.lst (ys.map .str)]) s.heap) (r : RepA b fs (.ref L) (.c C.length)) (hlen : ys.length ≤ 2 * d) (hb : ∀ y ∈ ys, y.length ≤ 1000)
    (q : ∀ fs' h' tk ys', Keep fs.length fs fs' → St K b kp fs' (C ++ [.lst (ys'.map .str)]) h' → cat ys' = cat ys ++ (x.cps.toList.drop d).take (u - d) ++ repl.cps.toList → ys'.length ≤ 2 * e → (∀ y ∈ ys', y.length ≤ 1000) →
      codeAny (model prg w) A (.builtin "re.Pattern.sub.loop" ⟨[.ref p, .str x t, .str repl rt, rawInt 0, rawInt 0, rawInt (n + 1 : Nat), rawInt e, rawInt e, .bool false, .ref L, .bool false], []⟩) R { s with heap := h', toks := tk }) :
    codeAny (model prg w) A (.builtin "re.Pattern.sub.loop" ⟨[.ref p, .str x t, .str repl rt, rawInt 0, rawInt 0, rawInt n, rawInt d, rawInt d, .bool false, .ref L, .bool false], []⟩) R s := by
  refine codeAny_builtin entry_sub_loop ?_
  rw [Around.under_plainId plain_sub_loop _]
  show wpAny _ _ (reWholeTarget (.ref p) (.str x t) >>= _) _ _ s
  refine wpAny_bind (target_to hp ?_)
  refine wpAny_bind (m := reLiteralCannotBeTurned (.str repl rt)) (wpAny_of_eq (a := ()) rfl ?_)
  obtain ⟨m', nn, hnn, he, hs⟩ := hF.ends d hd
  rw [hf] at hs
  obtain ⟨ho, hu, hee⟩ := hs
  obtain ⟨b1, b2, b3⟩ := hF.bound d u e hf
  refine wpAny_bind (m := reRunToEnd (Sre.forSearch code x.cps 0 d x.cps.size false)) (runEnd_to he hnn ?_)
  rw [ho]
  subst hu hee
  have ne : (m'.handed == m'.start) = false := by simp; omega
  have last : ∀ (fs1 : List Foot) (h1 : Heap) (tk1 : Nat) (ys1 : List Str), Keep fs.length fs fs1 → St K b kp fs1 (C ++ [.lst (ys1.map .str)]) h1 → RepA b fs1 (.ref L) (.c C.length) → cat ys1 = cat ys ++ (x.cps.toList.drop d).take (m'.start - d) → ys1.length ≤ 2 * d + 1 → (∀ y ∈ ys1, y.length ≤ 1000) →
      wpAny (model prg w) A.in1 (pure (.str repl rt) >>= fun item => if (item != Value.none) = true then updateSeq L (fun x => x.push item) >>= fun _ => again (.builtin "re.Pattern.sub.loop" ⟨[.ref p, .str x t, .str repl rt, rawInt 0, rawInt 0, rawInt ((n : Int) + 1), rawInt m'.handed, rawInt m'.handed, .bool (m'.handed == m'.start), .ref L, .bool false], []⟩) else again (.builtin "re.Pattern.sub.loop" ⟨[.ref p, .str x t, .str repl rt, rawInt 0, rawInt 0, rawInt ((n : Int) + 1), rawInt m'.handed, rawInt m'.handed, .bool (m'.handed == m'.start), .ref L, .bool false], []⟩))
        (fun fin s' => match fin with | .done f => R (.ok f) s' | .again c' => c'.quiet = true ∧ codeAny (model prg w) A c' R s') (fun e s' => R (.error e) s') { s with heap := h1, toks := tk1 } := by
    intro fs1 h1 tk1 ys1 kf1 S1 r1 hc1 hl1 hb1
    refine wpAny_bind (wpAny_pure ?_)
    rw [if_pos (show (Value.str repl rt != Value.none) = true from rfl)]
    refine wpAny_bind (push_piece (y := repl) S1 r1 (by omega) .str fun fs2 h2 kf2 S2 => ?_)
    refine wpAny_pure ⟨plainId_quiet plain_sub_loop _, ?_⟩
    rw [ne]
    refine q fs2 h2 tk1 _ (kf1.then kf2) S2 (by rw [cat_snoc, hc1]) (by simp; omega) fun y hy => ?_
    rcases List.mem_append.mp hy with hy | hy
    · exact hb1 y hy
    · simp at hy; subst hy; exact hrep
  show wpAny _ _ (if d < m'.start then _ else _) _ _ s
  by_cases hlt : d < m'.start
  · rw [if_pos hlt]
    refine wpAny_bind (m := reSlice x.cps 0 d m'.start) (slice_mk hx fun t1 => ?_)
    refine wpAny_bind (push_piece (y := ⟨x.cps.extract d m'.start⟩) S r (by omega) .str fun fs' h' kf S' => ?_)
    refine last fs' h' _ _ kf S' (r.mono Sub.refl kf) ?_ (by simp; omega) fun y hy => ?_
    · rw [cat_snoc]
      congr 1
      simp
    · rcases List.mem_append.mp hy with hy | hy
      · exact hb y hy
      · simp at hy; subst hy; show (x.cps.extract d m'.start).size ≤ _; simp; omega
  · rw [if_neg hlt]
    refine last fs s.heap _ ys Keep.refl S r ?_ (by omega) hb
    rw [show m'.start - d = 0 by omega]; simp
theorem sub_loop {p L : Addr} {code : Array Nat} {x : Str} {t : Tok} {repl : Str} {rt : Tok} {F : Finds}
    (hp : ∀ h, K.In h → PatAt h p code) (hF : FindsOk code x.cps F) (hx : x.cps.size ≤ 1000) (hrep : repl.cps.size ≤ 1000) : ∀ (j n d : Nat) (ys : List Str) (s : Shared) (fs : List Foot), x.cps.size < d + j → d ≤ x.cps.size → St K b kp fs (C ++ [.lst (ys.map .str)]) s.heap → RepA b fs (.ref L) (.c C.length) → ys.length ≤ 2 * d → (∀ y ∈ ys, y.length ≤ 1000) →
    (∀ fs' h' tk t' ys', Keep fs.length fs fs' → St K b kp fs' (C ++ [.lst ys']) h' → R (.ok (.ret (.str ⟨(cat ys ++ subZ F x.cps.toList repl.cps.toList j d).toArray⟩ t'))) { s with heap := h', toks := tk }) →
    codeAny (model prg w) A (.builtin "re.Pattern.sub.loop" ⟨[.ref p, .str x t, .str repl rt, rawInt 0, rawInt 0, rawInt n, rawInt d, rawInt d, .bool false, .ref L, .bool false], []⟩) R s
  | 0, n, d, ys, s, fs, h1, h2, _, _, _, _, _ => by omega
  | j + 1, n, d, ys, s, fs, h1, h2, S, r, hlen, hb, q => by
    cases hf : F d with
    | none =>
      refine sub_end (hp _ S.top_in) hF hx h2 hf S r hlen hb fun fs' h' tk t' ys' kf S' => ?_
      have := q fs' h' tk t' ys' kf S'
      simp only [subZ, hf] at this
      exact this
    | some ue =>
      obtain ⟨u, e⟩ := ue
      obtain ⟨b1, b2, b3⟩ := hF.bound d u e hf
      refine sub_step (hp _ S.top_in) hF hx hrep h2 hf S r hlen hb fun fs' h' tk ys' kf S' hc hl hb' => ?_
      refine sub_loop hp hF hx hrep j (n + 1) e ys' _ fs' (by omega) b3 S' (r.mono Sub.refl kf) hl hb' fun fs2 h2 tk2 t' ys2 kf2 S2 => ?_
      have := q fs2 h2 tk2 t' ys2 (kf.then kf2) S2
      simp only [subZ, hf] at this
      rw [hc, List.append_assoc, List.append_assoc, ← List.append_assoc (List.take _ _)]
      exact this
end

end
/-! R7 -/
section
open Builtin.Re
section
variable {K : Frag} {w : World} {k : Nat} {C : List Cell}
theorem meets_sub {A : Around} {R : Result → Shared → Prop} {s : Shared} {b : PM} {kp : Kp} {fs : List Foot} {p : Addr} {code : Array Nat} {x : Str} {t : Tok} {repl : Str} {rt : Tok} {F : Finds}
    (hp : ∀ h, K.In h → PatAt h p code) (hF : FindsOk code x.cps F) (hx : x.cps.size ≤ 1000) (hrep : repl.cps.size ≤ 1000) (h92 : repl.cps.contains 92 = false) (S : St K b kp fs C s.heap)
    (q : ∀ fs' h' tk t', Keep fs.length fs fs' → St K b kp fs' C h' → R (.ok (.ret (.str ⟨(subZ F x.cps.toList repl.cps.toList (x.cps.size + 1) 0).toArray⟩ t'))) { s with heap := h', toks := tk }) :
    wpAny (model prg w) A.in1 (Builtin.«re.Pattern.sub» ⟨[.ref p, .str repl rt, .str x t], []⟩) (fun fin s' => match fin with | .done f => R (.ok f) s' | .again c' => c'.quiet = true ∧ codeAny (model prg w) A c' R s') (fun e s' => R (.error e) s') s := by
  show wpAny _ _ (reNamed "re.Pattern.sub" "sub" ["repl", "string", "count"] 2 [.str repl rt, .str x t] [] >>= _) _ _ s
  refine wpAny_bind (wpAny_of_eq (a := [some (.str repl rt), some (.str x t), none]) (by rfl) ?_)
  refine wpAny_bind (m := (pure 0 : Sem Int)) (wpAny_pure ?_)
  refine wpAny_bind (m := specialOf (.str repl rt) "__call__") (wpAny_specialOf (typeIs_str _ _ _) (r := none) (by rw [typeLookup_type, builtinLookup_eq_fast]; kernel_rfl) ?_)
  refine wpAny_bind (wpAny_of_eq (a := some repl) rfl ?_)
  show wpAny _ _ (if (!repl.cps.contains 92) = true then _ else _) _ _ _
  rw [if_pos (by rw [h92]; rfl)]
  refine wpAny_bind (m := holding [.str repl rt] (reWholeTarget (.ref p) (.str x t))) (wpAny_holding (target_to (hp _ S.top_in) ?_))
  refine wpAny_bind (m := newList []) (wpAny_newList ?_)
  refine wpAny_pure ⟨plainId_quiet plain_sub_loop _, ?_⟩
  obtain ⟨S', r'⟩ := S.pushC (vs := []) (ds := []) .nil
  refine sub_loop hp hF hx hrep (x.cps.size + 1) 0 0 [] _ _ (by omega) (by omega) S' r' (by simp) (by simp) fun fs2 h2 tk2 t' ys' kf S2 => ?_
  have ef : fs2.length = C.length + 1 := by rw [S2.len]; simp
  have e1 : (C ++ [Cell.lst ys']).take C.length = C := by simp
  have S3 := S2.drop C.length fun i c hi hc f hf => (S2.cells.2 i c f hc hf).take fun j hj => by
    refine S.closed c ?_ j hj
    rw [List.getElem?_append_left hi] at hc
    exact List.mem_of_getElem? hc
  rw [e1] at S3
  have := q (fs2.take C.length) h2 tk2 t' (fun i g hi hg => ?_) S3
  · simpa [cat] using this
  · have kk := keep_append.then kf
    obtain ⟨g', e', z⟩ := kk i g hi hg
    exact ⟨g', by rw [List.getElem?_take, if_pos (by rw [← S.len]; exact hi)]; exact e', z⟩
theorem o_resub {p : Addr} {code : Array Nat} {x repl : Str} {F : Finds}
    (hp : ∀ h, K.In h → PatAt h p code) (hF : FindsOk code x.cps F) (hx : x.cps.size ≤ 1000) (hrep : repl.cps.size ≤ 1000) (h92 : repl.cps.contains 92 = false) :
    Op K w k C (fun vs => call (.builtin "re.Pattern.sub") vs []) [.d (.v (.ref p)), .d (.str repl), .d (.str x)] (.d (.str ⟨(subZ F x.cps.toList repl.cps.toList (x.cps.size + 1) 0).toArray⟩)) C := by
  intro A s b kp fs vs Q E hR S hv q
  have h_vs := RepAs.three hv; clear hv; obtain ⟨va, vb, vc, rfl, ha, hb, hc⟩ := h_vs
  cases ha; cases hb; cases hc
  obtain ⟨o, v0, v1, v3, v4, qa, ho, hcl, _⟩ := (hp _ S.top_in).ex
  refine wpAny_call (codeAny_call_builtin slot_pat_sub.plain entry_pat_sub ?_)
  refine slot_pat_sub.check _ _ _ _ _ _ _ _ ⟨o, ho, hcl⟩ (args_pat_sub _ _ _) ?_
  exact meets_sub (R := wants Q E) hp hF hx hrep h92 S fun fs' h' tk t' kf S' => q b fs' h' tk _ Sub.refl kf S' .str
theorem mg_pat {p : Addr} {code : Array Nat} {name : Str} {id : String} (hp : ∀ h, K.In h → PatAt h p code) (slot : Slot "re.Pattern" name id) (ty : typeOf (.builtin id) = pure (.type "method_descriptor")) : MethG K w k C name (.d (.v (.ref p))) (.builtin id) := by
  intro pl A s b kp fs vs Q E hR S hv q
  have h_vs := RepAs.one hv; clear hv; obtain ⟨va, rfl, ha⟩ := h_vs
  cases ha
  obtain ⟨o, v0, v1, v3, v4, qa, ho, hcl, hdi, _⟩ := (hp _ S.top_in).ex
  exact getMethod_builtin ⟨_, ho, hcl⟩ plainAttrs_pat slot ty (fun c hc => by injection hc with hc; subst hc; exact ⟨_, ho, hdi⟩) (q b fs s.heap s.toks _ Sub.refl Keep.refl S ⟨rfl, .v, trivial⟩)
end

end
/-! R8 -/
section
open Builtin.Re

theorem find1_some {text : Array Nat} : ∀ {n s p : Nat}, find1 text n s = some p → s ≤ p ∧ p < s + n
  | 0, s, p, h => by simp [find1] at h
  | n + 1, s, p, h => by
    by_cases c : hit1 text s = true
    · simp [find1, c] at h; omega
    · simp [find1, c] at h
      have := find1_some h; omega
noncomputable def F1s (text : Array Nat) : Finds := fun s => (find1 text (text.size - s) s).map fun p => (p, p + 1)
noncomputable def F2s (text : Array Nat) : Finds := fun s => (find2 text (text.size - s) s).map fun p => (p, end2 text text.size p)
theorem F1ok {text : Array Nat} (hz : text.size ≤ 10000) : FindsOk cd1 text (F1s text) where
  ends := fun s _ => by
    obtain ⟨m', h1, h2⟩ := search1 text s
    exact ⟨m', _, by omega, h1, h2⟩
  bound := fun s p e h => by
    simp only [F1s, Option.map_eq_some_iff, Prod.mk.injEq] at h
    obtain ⟨q, h, rfl, rfl⟩ := h
    have := find1_some h
    omega
theorem F2ok {text : Array Nat} : FindsOk cd2 text (F2s text) where
  ends := fun s _ => by
    obtain ⟨m', h1, h2⟩ := search2 text s
    exact ⟨m', _, by omega, h1, h2⟩
  bound := fun s p e h => by
    simp only [F2s, Option.map_eq_some_iff, Prod.mk.injEq] at h
    obtain ⟨q, h, rfl, rfl⟩ := h
    have := find2_some h
    unfold end2
    split
    · rename_i hh
      simp only [Bool.and_eq_true, decide_eq_true_eq] at hh
      omega
    · omega
/-- what quotedata gives -/
noncomputable def crlfZ (x : List Nat) : List Nat := subZ (F2s x.toArray) x [13, 10] (x.length + 1) 0
noncomputable def quoteZ (x : List Nat) : List Nat := subZ (F1s (crlfZ x).toArray) (crlfZ x) [46, 46] ((crlfZ x).length + 1) 0
section
variable {w : World} {n k : Nat} {C : List Cell} {P : Params} {env : Env}
theorem pat1 : ∀ h, (KK P).In h → PatAt h 62 cd1 := fun h hh => ⟨_, _, _, _, _, _, hh 62 _ rfl, rfl, rfl, rfl, _, _, _, hh 61 _ rfl, rfl, by simp [reRawOf, cd1]⟩
theorem pat2 : ∀ h, (KK P).In h → PatAt h 67 cd2 := fun h hh => ⟨_, _, _, _, _, _, hh 67 _ rfl, rfl, rfl, rfl, _, _, _, hh 66 _ rfl, rfl, by simp [reRawOf, cd2]⟩
theorem g_CRLF : ∃ t, GlobIs (KK P) (Str.ofString "CRLF") (.str ⟨#[13, 10]⟩ t) := ⟨_, .inl (by rfl)⟩
theorem ev_gs {K : Frag} {Γ : Gam} {e : Expr} {x : Str} {t : Tok} {C' : List Cell} (h : EvalTo K w k env Γ C e (.d (.v (.str x t))) C') : EvalTo K w k env Γ C e (.d (.str x)) C' := by
  intro A s b kp fs Q E hR S F q
  refine h A s b kp fs Q E hR S F fun b' fs' h' tk v sb kf S' F' r => q b' fs' h' tk v sb kf S' F' ?_
  cases r
  exact .str
theorem quote_op {x : Str} (hx : x.cps.size ≤ 1000) (hy : (crlfZ x.cps.toList).length ≤ 1000) : Op (KK P) w (k + 1) C (fun vs => call (.ref 74) vs []) [.d (.str x)] (.d (.str ⟨(quoteZ x.cps.toList).toArray⟩)) C :=
  fn1 (C₁ := []) (p := Str.ofString "data") def_74 (fun v => by kernel_rfl) (by kernel_rfl) (by kernel_rfl) (by trivial) fun L => by
    rw [List.append_nil]
    have he : (envOf (codeOf P 74).qualname (codeOf P 74).scope L 74 (codeOf P 74).code).scope = stScope (topAt 11) := rfl
    obtain ⟨t, gc⟩ := g_CRLF (P := P)
    have e2 := o_resub (K := KK P) (w := w) (k := k) (C := C) (x := x) (repl := ⟨#[13, 10]⟩) pat2 F2ok hx (by decide) (by simp)
    have e1 := o_resub (K := KK P) (w := w) (k := k) (C := C) (x := ⟨(crlfZ x.cps.toList).toArray⟩) (repl := ⟨#[46, 46]⟩) pat1 (F1ok (by simp; omega)) (by simp; omega) (by decide) (by simp)
    refine exs_ret (ex_return (ev_meth (ev_g he (by decide +kernel) (by walk_at "gl") (by decide +kernel)) (mg_pat pat1 slot_pat_sub type_pat_sub) rfl (.c ev_str (.c (ev_meth (ev_g he (by decide +kernel) (by walk_at "gl") (by decide +kernel)) (mg_pat pat2 slot_pat_sub type_pat_sub) rfl (.c (ev_gs (ev_g he (by decide +kernel) gc (by decide +kernel))) (.c (ev_n (by walk_at "lk") (by decide +kernel)) .nil)) e2 rfl) .nil)) (e1.eq ?_) rfl))
    simp [quoteZ]
end

end
/-! W9 -/
section
open Builtin Builtin.Str

noncomputable def crlfS : Str := ⟨#[13, 10]⟩
noncomputable def endsZ : List Str := [⟨#[13, 10]⟩, ⟨#[10]⟩, ⟨#[13]⟩]
noncomputable def typedZ (lines : List Str) (turn : Int) : Nat → Str
  | 0 => ⟨#[]⟩
  | j + 1 => typedZ lines turn j ++ (lines.getD j ⟨#[]⟩ ++ endsZ.getD ((turn + (j : Int)).fmod 3).toNat ⟨#[]⟩)
noncomputable def due1 (l : Str) : Str := if decide (l.cps.toList.take 1 = [46]) then ⟨#[46]⟩ ++ l else l
noncomputable def sentZ (page : Str) (turn : Int) : List Str :=
  if decide (Txt.split ⟨(quoteZ (typedZ (Txt.split page crlfS) turn ((Txt.split page crlfS).length - 1)).cps.toList).toArray⟩ crlfS = (Txt.split page crlfS).map due1) then (Txt.split page crlfS).map due1 else []
theorem split_fits (x y : Str) (h : x.length ≤ 100000) : (partsBetween x (occurrences x y 0 x.length (x.length + 1)) y.length).length ≤ sizeLine := by
  have := StrLaws.occ_length_le x y 0 x.length (x.length + 1)
  rw [length_partsBetween]
  unfold sizeLine; omega
theorem app_len (a b : Str) : (a ++ b).length = a.length + b.length := Array.size_append
theorem ends_len (m : Nat) : (endsZ.getD m ⟨#[]⟩).length ≤ 2 := by
  rw [List.getD_eq_getElem?_getD]
  cases e : endsZ[m]? with
  | none => show (0 : Nat) ≤ 2; omega
  | some l =>
    have := List.mem_of_getElem? e
    simp only [endsZ, List.mem_cons, List.not_mem_nil, or_false] at this
    rcases this with rfl | rfl | rfl <;> decide
theorem typed_len {lines : List Str} {turn : Int} (hb : ∀ l ∈ lines, l.length ≤ 20) : ∀ j, (typedZ lines turn j).length ≤ 22 * j
  | 0 => by show (0 : Nat) ≤ _; omega
  | j + 1 => by
    have ih := typed_len (turn := turn) hb j
    have h1 : (lines.getD j ⟨#[]⟩).length ≤ 20 := by
      rw [List.getD_eq_getElem?_getD]
      cases e : lines[j]? with
      | none => show (0 : Nat) ≤ 20; omega
      | some l => exact hb l (List.mem_of_getElem? e)
    have h2 : (endsZ.getD ((turn + (j : Int)).fmod 3).toNat ⟨#[]⟩).length ≤ 2 := by
      rw [List.getD_eq_getElem?_getD]
      cases e : endsZ[((turn + (j : Int)).fmod 3).toNat]? with
      | none => show (0 : Nat) ≤ 2; omega
      | some l =>
        have := List.mem_of_getElem? e
        simp only [endsZ, List.mem_cons, List.not_mem_nil, or_false] at this
        rcases this with rfl | rfl | rfl <;> decide
    have e : (typedZ lines turn (j + 1)).length = (typedZ lines turn j).length + ((lines.getD j ⟨#[]⟩).length + (endsZ.getD ((turn + (j : Int)).fmod 3).toNat ⟨#[]⟩).length) := by
      show ((typedZ lines turn j) ++ (_ ++ _)).length = _
      rw [app_len, app_len]
    omega
section
variable {w : World} {n k : Nat} {C : List Cell} {P : Params} {env : Env}
theorem sent_x {page : Str} {turn : Int} (hp : page.length ≤ 300) (hl : (Txt.split page crlfS).length ≤ 10) (hb : ∀ l ∈ Txt.split page crlfS, l.length ≤ 20) (hq : (crlfZ (typedZ (Txt.split page crlfS) turn ((Txt.split page crlfS).length - 1)).cps.toList).length ≤ 1000) (hq2 : (quoteZ (typedZ (Txt.split page crlfS) turn ((Txt.split page crlfS).length - 1)).cps.toList).length ≤ 10000) (he : env.scope = stScope (topAt 22)) :
    ExecT (KK P) w n (k + 1) env [(Str.ofString "page", .loc (.d (.str page))), (Str.ofString "turn", .loc (.d (.int turn)))] C (execs (stBody (topAt 22)) env) (.ret (.d (.list ((sentZ page turn).map .str)))) C := by
  generalize hlines : Txt.split page crlfS = lines at hl hb hq hq2
  have hzp : page.length ≤ sizeLine := by unfold sizeLine; omega
  refine exs_cons (ex_assign (ev_list (ds := endsZ.map .str) (.c ev_str (.c ev_str (.c ev_str .nil)))) (kd he (by decide +kernel)) (by kernel_rfl)) ?_
  refine exs_cons (ex_assign (ev_meth (ev_n (by walk_at "lk") (by decide +kernel)) (mg_str F.slot_str_split F.type_str_split) rfl (.c (ev_str (x := crlfS)) .nil) (o_split (by decide) hzp (split_fits _ _ (by omega))) rfl) (kd he (by decide +kernel)) (by kernel_rfl)) ?_
  rw [hlines]
  refine exs_cons (ex_assign (ev_str (x := ⟨#[]⟩)) (kd he (by decide +kernel)) (by kernel_rfl)) ?_
  refine exs_cons (Γ₁ := [(Str.ofString "typed", .loc (.d (.str (typedZ lines turn (lines.length - 1))))), (Str.ofString "lines", .loc (.d (.list (lines.map .str)))), (Str.ofString "ends", .loc (.d (.list (endsZ.map .str)))), (Str.ofString "page", .loc (.d (.str page))), (Str.ofString "turn", .loc (.d (.int turn)))]) (C₁ := C) (ex_for (src_enum (ev_g he (by decide +kernel) (by walk_at "gl") (by decide +kernel)) rfl (.c (ev_sub (ev_n (by walk_at "lk") (by decide +kernel)) (ev_slice pt_none (pt_some (ev_un ev_int o_neg)) pt_none) LstV.d.ty ty_ls (o_butlast .d (by simp [sizeLine]; omega)) (fun _ _ => .inr rfl)) .nil)) ?_) ?_
  · rw [show (lines.map D.str).take ((lines.map D.str).length - 1) = (lines.take (lines.length - 1)).map D.str by rw [List.map_take, List.length_map]]
    rw [enumItems_map D.str ⟨#[]⟩]
    have := loop_idx (K := KK P) (w := w) (n := n) (k := k + 1) (env := env) (Γs := fun j => [(Str.ofString "typed", .loc (.d (.str (typedZ lines turn j)))), (Str.ofString "lines", .loc (.d (.list (lines.map .str)))), (Str.ofString "ends", .loc (.d (.list (endsZ.map .str)))), (Str.ofString "page", .loc (.d (.str page))), (Str.ofString "turn", .loc (.d (.int turn)))]) (Cs := fun _ => C)
      (target := match (stBody (topAt 22)).getD 3 (.Pass ⟨0,0,0,0⟩) with | .For t _ _ _ _ => t | _ => .Constant .none 0 ⟨0,0,0,0⟩) (body := match (stBody (topAt 22)).getD 3 (.Pass ⟨0,0,0,0⟩) with | .For _ _ b _ _ => b | _ => []) (N := (lines.take (lines.length - 1)).length) (f := fun j : Nat => Item.tup [.int (j : Nat), .str ((lines.take (lines.length - 1)).getD j ⟨#[]⟩)]) ?_
    · have e : (lines.take (lines.length - 1)).length = lines.length - 1 := by simp
      simp only [e] at this ⊢
      exact this
    · intro j hj
      have hj' : j < lines.length - 1 := by simp at hj; omega
      have e1 : (lines.take (lines.length - 1)).getD j ⟨#[]⟩ = lines.getD j ⟨#[]⟩ := by rw [List.getD_eq_getElem?_getD, List.getD_eq_getElem?_getD, List.getElem?_take, if_pos hj']
      have hz1 : (lines.getD j ⟨#[]⟩).length ≤ 20 := by
        rw [List.getD_eq_getElem?_getD, List.getElem?_eq_getElem (by omega)]
        exact hb _ (List.getElem_mem _)
      have hz2 := typed_len (turn := turn) hb j
      have hm : 0 ≤ (turn + (j : Int)).fmod 3 ∧ (turn + (j : Int)).fmod 3 < 3 := ⟨Int.fmod_nonneg_of_pos _ (by decide), Int.fmod_lt_of_pos _ (by decide)⟩
      rw [e1]
      refine ⟨_, _, as_tup (.c (as_name (kd he (by decide +kernel))) (.c (as_name (kd he (by decide +kernel))) .nil)), ?_⟩
      refine ExecT.less (Γ₁ := _) (exs_cons (ex_aug (by walk_at "lk") (ev_bin (ev_n (by walk_at "lk") (by decide +kernel)) (ev_sub (ev_n (by walk_at "lk") (by decide +kernel)) (ev_bin (ev_bin (ev_n (by walk_at "lk") (by decide +kernel)) (ev_n (by walk_at "lk") (by decide +kernel)) o_add) ev_int (o_mod (by decide))) LstV.d.ty ty_ls (o_get (d := .str (endsZ.getD ((turn + (j : Int)).fmod 3).toNat ⟨#[]⟩)) .d hm.1 (by omega) ?_) (fun _ _ => .inl rfl)) (o_adds ?_)) (o_iadds ?_) (kd he (by decide +kernel))) exs_nil) (GSub.c (by walk_at "lk") (GSub.c (by walk_at "lk") (GSub.c (by walk_at "lk") (GSub.c (by walk_at "lk") (GSub.c (by walk_at "lk") GSub.nil)))))
      · have h3 : ((turn + (j : Int)).fmod 3).toNat < endsZ.length := by show _ < 3; omega
        rw [List.getElem?_map, List.getElem?_eq_getElem h3, List.getD_eq_getElem?_getD, List.getElem?_eq_getElem h3]
        rfl
      · have := ends_len ((turn + (j : Int)).fmod 3).toNat
        unfold sizeLine; omega
      · have := ends_len ((turn + (j : Int)).fmod 3).toNat
        rw [app_len]
        unfold sizeLine; omega
  refine exs_cons (C₁ := C) (ex_comp (C' := C) (ys := (lines.map due1).map .str) he (src_list (ev_n (by walk_at "lk") (by decide +kernel)) .name) (by simp [sizeLine]; omega) (by kernel_rfl) (fun a => ?_) (by decide +kernel) rfl (by decide +kernel) (by decide +kernel) (by decide +kernel)) ?_
  · rw [List.map_map, List.map_map]
    refine comp_map (f := Item.one ∘ D.str) (g := D.str ∘ due1) fun l hlm => ⟨_, as_name (ckd (by decide +kernel)), ?_, GSub.nil⟩
    have hz := hb l hlm
    refine EvalTo.eq (ev_ifd (p := ((StrLaws.sliceText l none (some 1)).cps.toList == [46])) (u := .str (⟨#[46]⟩ ++ l)) (v := .str l) (tst_cmp (ev_sub (ev_n (by walk_at "lk") (by decide +kernel)) (ev_slice pt_none (pt_some ev_int) pt_none) ty_str PySem.F.slot_str_getitem.lookup (o_sslice (by unfold sizeLine; omega)) (fun _ _ => .inr rfl)) (ev_str (x := ⟨#[46]⟩)) o_eqs rfl) (fun _ => ev_bin (ev_str (x := ⟨#[46]⟩)) (ev_n (by walk_at "lk") (by decide +kernel)) (o_adds ?_)) (fun _ => (ev_n (by walk_at "lk") (by decide +kernel)))) ?_
    · show (1 : Nat) + l.length ≤ _
      unfold sizeLine; omega
    · rw [slice_to1]
      simp only [Function.comp, due1]
      by_cases c : l.cps.toList.take 1 = [46] <;> simp [c]
  have hlen := typed_len (turn := turn) hb (lines.length - 1)
  have e2 : (lines.length - 1) ≤ 9 := by omega
  refine exs_ret (ex_return (EvalTo.eq (ev_ifd (p := decide (Txt.split ⟨(quoteZ (typedZ lines turn (lines.length - 1)).cps.toList).toArray⟩ crlfS = lines.map due1)) (u := .list ((lines.map due1).map .str)) (v := .list []) (tst_cmp (ev_meth (ev_call (ev_g he (by decide +kernel) (by walk_at "gl") (by decide +kernel)) rfl (.c (ev_n (by walk_at "lk") (by decide +kernel)) .nil) (quote_op (by show Str.length _ ≤ _; omega) hq)) (mg_str F.slot_str_split F.type_str_split) rfl (.c (ev_str (x := crlfS)) .nil) (o_split (by decide) (by show Array.size _ ≤ _; simp [sizeLine]; omega) (split_fits _ _ (by show Array.size _ ≤ _; simp; omega))) rfl) (ev_n (by walk_at "lk") (by decide +kernel)) (o_eql eqk_str .d .d) rfl) (fun _ => (ev_n (by walk_at "lk") (by decide +kernel))) (fun _ => ev_list .nil)) ?_))
  unfold sentZ
  rw [hlines]
  split <;> simp_all
theorem sent_op {page : Str} {turn : Int} (hp : page.length ≤ 300) (hl : (Txt.split page crlfS).length ≤ 10) (hb : ∀ l ∈ Txt.split page crlfS, l.length ≤ 20) (hq : (crlfZ (typedZ (Txt.split page crlfS) turn ((Txt.split page crlfS).length - 1)).cps.toList).length ≤ 1000) (hq2 : (quoteZ (typedZ (Txt.split page crlfS) turn ((Txt.split page crlfS).length - 1)).cps.toList).length ≤ 10000) :
    Op (KK P) w (k + 2) C (fun vs => call (.ref 246) vs []) [.d (.str page), .d (.int turn)] (.d (.list ((sentZ page turn).map .str))) C :=
  fn2 (C₁ := []) (p := Str.ofString "page") (p' := Str.ofString "turn") def_246 (fun v v' => by kernel_rfl) (by kernel_rfl) (by kernel_rfl) (by decide) (by trivial) fun L => by
    rw [List.append_nil]
    exact sent_x hp hl hb hq hq2 rfl
end

end
/-! I1 -/
section
theorem en_iter : entryFor table "iter" = some Builtin.«iter» := entryFor_of_fast (by kernel_rfl)
theorem en_next : entryFor table "next" = some Builtin.«next» := entryFor_of_fast (by kernel_rfl)
theorem ar_iter (a : Value) : argsOk "iter" ⟨[a], []⟩ := by unfold argsOk; kernel_rfl
theorem ar_next (a : Value) : argsOk "next" ⟨[a], []⟩ := by unfold argsOk; kernel_rfl
section
variable {K : Frag} {w : World} {k : Nat} {C : List Cell}
theorem o_iter {ds : List D} : Op K w k C (fun vs => call (.builtin "iter") vs []) [.d (.list ds)] (.c C.length) (C ++ [.itr ds]) := by
  intro A s b kp fs vs Q E hR S hv q
  have h_vs := RepAs.one hv; clear hv; obtain ⟨va, rfl, ha⟩ := h_vs
  cases ha with
  | list e rl =>
    rename_i a vs n
    refine call_function_entry (by decide +kernel) (by decide +kernel) en_iter (ar_iter _) ?_
    unfold Builtin.«iter»
    refine wpAny_bind (m := someArgs "iter" 1 2 _) (wpAny_of_eq (a := [Value.ref a]) (by first | rfl | kernel_rfl!) ?_)
    show wpAny _ _ (pyIter (.ref a) >>= _) _ _ _
    refine wpAny_bind (wpAny_pyIter_list (isList_of (S.base _ _ e)) ?_)
    refine wpAny_pure ⟨_, rfl, ?_⟩
    have S' := S.cell (h' := s.heap.push { cls := .type "list_iterator", data := .fields #[.ref a, .int 0 0] }) (f := [(s.heap.objs.size, { cls := .type "list_iterator", data := .fields #[.ref a, .int 0 0] })]) (c := .itr ds) (fun p hp => by
      simp at hp; subst hp
      exact ⟨Heap.get?_none_of_le (Nat.le_refl _), Heap.get?_push_size _ rfl⟩) (by simp) ⟨_, _, a, vs, n, 0, rfl, rfl, rfl, e, by omega, rl⟩ fun _ _ e => Heap.get?_push_of_some _ e
    exact q b _ _ s.toks _ Sub.refl keep_append S' ⟨_, _, by rw [← S.len, List.getElem?_append_right (Nat.le_refl _), Nat.sub_self]; rfl, rfl, rfl⟩
theorem o_next {i : Nat} {d : D} {ds : List D} (hi : C[i]? = some (.itr (d :: ds))) : Op K w k C (fun vs => call (.builtin "next") vs []) [.c i] (.d d) (C.set i (.itr ds)) := by
  intro A s b kp fs vs Q E hR S hv q
  have h_vs := RepAs.one hv; clear hv; obtain ⟨va, rfl, f, a, hf, hh, rfl⟩ := h_vs
  · obtain ⟨a', o, l, xs, n, j, rfl, hc, hd, hb, hj, rl⟩ := S.cells.2 i _ f hi hf
    simp [headA] at hh; subst hh
    have ho : s.heap.get? a' = some o := (S.foot (a', o) (List.mem_flatten.mpr ⟨_, List.mem_of_getElem? hf, List.mem_cons_self⟩)).1
    have hit : s.heap.IsListIter a' l j := ⟨o, ho, hc, hd⟩
    have hlx := isList_of (S.base _ _ hb)
    obtain ⟨x, hx, rx⟩ := rl.get (i := 0) (d := d) rfl
    have hx' : xs[j]? = some x := by rw [List.getElem?_drop] at hx; simpa using hx
    refine call_function_entry (by decide +kernel) (by decide +kernel) en_next (ar_next _) ?_
    unfold Builtin.«next»
    refine wpAny_bind (m := someArgs "next" 1 2 _) (wpAny_of_eq (a := [Value.ref a']) (by first | rfl | kernel_rfl!) ?_)
    dsimp only
    refine wpAny_bind (wpAny_specialOf (name := Str.ofString "__next__") hit.typeIs PySem.slot_listiter_next.lookup ?_)
    refine wpAny_ite_split (fun hab => absurd hab (by decide)) (fun _ => ?_)
    refine wpAny_bind (wpAny_callSpecial?_slot (name := Str.ofString "__next__") hit.typeIs PySem.slot_listiter_next
      (wpAny_call_entry PySem.slot_listiter_next hit.typeIs PySem.entry_listiter_next ?_ (PySem.args_listiter_next _)))
    show wpAny _ _ (field (.ref a') 0 >>= _) _ _ s
    refine wpAny_bind (wpAny_field ho hd (x := .ref l) rfl ?_)
    show wpAny _ _ (if (Value.ref l == Value.none) = true then _ else _) _ _ s
    rw [if_neg (show ¬ ((Value.ref l == Value.none) = true) from Bool.false_ne_true)]
    show wpAny _ _ (field (.ref a') 1 >>= _) _ _ s
    refine wpAny_bind (wpAny_field ho hd (x := .int j 0) rfl ?_)
    show wpAny _ _ (seqItems? (.ref l) >>= _) _ _ s
    refine wpAny_bind (wpAny_seqItems (S.base _ _ hb) rfl ?_)
    have hx2 : xs.toArray[j]? = some x := by simpa using hx'
    simp only [Int.toNat_natCast, hx2]
    refine wpAny_bind (wpAny_setField ho hd (by simp) (wpAny_pure ⟨x, rfl, wpAny_pure ⟨x, rfl, ?_⟩⟩))
    have hg : (s.heap.update a' (Obj.mapFields fun y => y.setIfInBounds 1 (rawInt ((j : Int) + 1)))).get? a' = some (o.mapFields fun y => y.setIfInBounds 1 (rawInt ((j : Int) + 1))) := Heap.get?_update_self _ ho (Obj.isFreed_of_fields (Obj.data_mapFields hd _))
    have S' := S.turn (h' := s.heap.update a' (Obj.mapFields fun y => y.setIfInBounds 1 (rawInt ((j : Int) + 1)))) (g := [(a', o.mapFields fun y => y.setIfInBounds 1 (rawInt ((j : Int) + 1)))]) (c := .itr ds) hf (List.getElem?_eq_some_iff.mp hi).1 rfl (fun p hp => by simp at hp; subst hp; exact hg) (fun c o' hc ho' => by
      exact (Heap.SameBut.update s.heap a' _).extBut c o' (Ne.symm (hc (a', o) List.mem_cons_self)) ho') ⟨a', _, l, xs, n, j + 1, rfl, (Obj.cls_mapFields ..).trans ‹o.cls = _›, by rw [Obj.data_mapFields hd]; simp [rawInt], hb, ?_, ?_⟩
    · exact q b _ _ s.toks x Sub.refl (keep_set (g := [(a', o.mapFields fun y => y.setIfInBounds 1 (rawInt ((j : Int) + 1)))]) hf rfl) S' rx
    · have := (List.getElem?_eq_some_iff.mp hx').1; omega
    · have := rl.drop 1
      rw [List.drop_drop] at this
      simpa using this
end

end
/-! I2 -/
section
/-- a new exception beside the old objects (one of them turned) -/
structure NewEx (h h' : Heap) (it e : Addr) (cls : Value) : Prop where
  keep : ∀ a o, a ≠ it → h.get? a = some o → h'.get? a = some o
  new : h.get? e = none
  there : ∃ ob t vs, h'.get? e = some ob ∧ ob.cls = cls ∧ ob.data = .fields vs ∧ vs[0]? = some t ∧ vs[1]? = some .none
section
variable {w : World} {A : Around} {E : Value → Shared → Prop} {s : Shared}
theorem next_end {it l : Addr} {i : Nat} {items : Array Value} {Q : Value → Shared → Prop} (hh : A.handled = none)
    (hit : s.heap.IsListIter it l i) (hl : s.heap.IsList l items) (hx : items[i]? = none)
    (hE : ∀ h' e, NewEx s.heap h' it e (.type "StopIteration") → E (.ref e) { s with heap := h' }) :
    wpAny (model prg w) A (call (.builtin "next") [.ref it]) Q E s := by
  obtain ⟨o, ho, hc, hd⟩ := id hit
  obtain ⟨ol, hol, _, nl, hdl⟩ := hl
  refine call_function_entry (by decide +kernel) (by decide +kernel) en_next (ar_next _) ?_
  unfold Builtin.«next»
  refine wpAny_bind (m := someArgs "next" 1 2 _) (wpAny_of_eq (a := [Value.ref it]) (by first | rfl | kernel_rfl!) ?_)
  dsimp only
  refine wpAny_bind (wpAny_specialOf (name := Str.ofString "__next__") hit.typeIs PySem.slot_listiter_next.lookup ?_)
  refine wpAny_ite_split (fun hab => absurd hab (by decide)) (fun _ => ?_)
  refine wpAny_bind (wpAny_callSpecial?_slot (name := Str.ofString "__next__") hit.typeIs PySem.slot_listiter_next
    (wpAny_call_entry PySem.slot_listiter_next hit.typeIs PySem.entry_listiter_next ?_ (PySem.args_listiter_next _)))
  show wpAny _ _ (field (.ref it) 0 >>= _) _ _ s
  refine wpAny_bind (wpAny_field ho hd (x := .ref l) rfl ?_)
  show wpAny _ _ (if (Value.ref l == Value.none) = true then _ else _) _ _ s
  rw [if_neg (show ¬ ((Value.ref l == Value.none) = true) from Bool.false_ne_true)]
  show wpAny _ _ (field (.ref it) 1 >>= _) _ _ s
  refine wpAny_bind (wpAny_field ho hd (x := .int i 0) rfl ?_)
  show wpAny _ _ (seqItems? (.ref l) >>= _) _ _ s
  refine wpAny_bind (wpAny_seqItems hol hdl ?_)
  simp only [Int.toNat_natCast, hx]
  refine wpAny_bind (wpAny_rule (wpAny_bind (wpAny_setField ho hd (by simp) ?_)))
  show wpAny _ _ (newExc (.type "StopIteration") [] >>= _) _ _ _
  refine wpAny_bind ?_
  simp only [newExc, newTuple]
  refine wpAny_bind (wpAny_newObj_type ?_ (by size_fits))
  refine wpAny_bind (m := firstArgMember _ _) (wpAny_of_eq (a := Value.none) (by first | rfl | (simp only [firstArgMember]; rfl)) ?_)
  refine wpAny_newObj_type ?_ (by size_fits)
  simp only [raiseNew]
  refine wpAny_bind (wpAny_handled ?_)
  first | rw [show A.in1.in1.handled = none from hh] | rw [show A.in1.handled = none from hh] | rw [hh]
  refine wpAny_bind (wpAny_pure (wpAny_throw ?_))
  refine hE _ _ ⟨fun a o' ha ho' => (((Heap.SameBut.update s.heap it _).extBut.push _).push _) a o' ha ho', ?_, ⟨_, Value.ref (s.heap.update it (Obj.mapFields fun x => x.setIfInBounds 0 Value.none)).objs.size, _, Heap.get?_push_size _ rfl, rfl, rfl, ?_, ?_⟩⟩
  · refine Heap.get?_none_of_le ?_
    simp [Heap.push]
  · rw [Array.getElem?_append_left (by simp)]; rfl
  · rw [Array.getElem?_append_left (by simp)]; rfl
end

end
/-! I3 -/
section
noncomputable def GoodKp (kp : Kp) : Prop := ∀ p ∈ kp, ∀ o sl, p.2 o → p.2 { o with slots := sl }
section
variable {K : Frag} {b : PM} {kp : Kp} {fs : List Foot} {C : List Cell} {h h' : Heap}
theorem St.gone (S : St K b kp fs C h) {i : Nat} (hi : i < C.length) (hno : ∀ j c, j ≠ i → C[j]? = some c → i ∉ c.refs) : St K b kp (fs.set i []) (C.set i .gone) h := by
  obtain ⟨f, hf⟩ : ∃ f, fs[i]? = some f := ⟨fs[i]'(by rw [S.len]; exact hi), by simp [S.len, hi]⟩
  obtain ⟨l, r, e1, e2⟩ := flatten_set fs i f [] hf
  have inF : ∀ p ∈ (fs.set i []).flatten, p ∈ fs.flatten := fun p hp => by
    rw [e2] at hp
    simp only [List.append_nil, List.mem_append] at hp
    rw [e1]; rcases hp with hp | hp <;> simp [hp]
  refine ⟨S.base, S.top, S.kept, fun p hp => S.foot p (inF p hp), ?_, by simp [S.cells.1], fun j c g hc hg => ?_⟩
  · have nd := S.nodup
    rw [e1, List.map_append, List.map_append] at nd
    rw [e2]
    simp only [List.append_nil, List.map_append]
    exact List.nodup_append.mpr ⟨(List.nodup_append.mp (List.nodup_append.mp nd).1).1, (List.nodup_append.mp nd).2.1, fun x hx y hy => (List.nodup_append.mp nd).2.2 x (List.mem_append_left _ hx) y hy⟩
  · by_cases q : i = j
    · subst q
      rw [List.getElem?_set_self hi] at hc
      rw [List.getElem?_set_self (List.getElem?_eq_some_iff.mp hf).1] at hg
      cases hc; cases hg; rfl
    · rw [List.getElem?_set_ne q] at hc hg
      refine (S.cells.2 j c g hc hg).refs fun j' g' hj' hg' => ?_
      have : j' ≠ i := fun z => hno j c (Ne.symm q) hc (z ▸ hj')
      exact ⟨g', by rw [List.getElem?_set_ne (Ne.symm this)]; exact hg', rfl⟩
theorem St.carry (S : St K b kp fs C h) {l : List Addr} (hl : ∀ a o, a ∉ l → h.get? a = some o → h'.get? a = some o) (hoff : ∀ a ∈ l, b a = none ∧ ∀ p ∈ fs.flatten, p.1 ≠ a)
    (hk : ∀ p ∈ kp, p.1 ∈ l → ∀ o, h.get? p.1 = some o → p.2 o → ∃ o', h'.get? p.1 = some o' ∧ p.2 o') : St K b kp fs C h' := by
  refine ⟨fun a o e => hl a o (fun m => by rw [(hoff a m).1] at e; cases e) (S.base a o e), S.top, fun p hp => ?_, fun p hp => ?_, S.nodup, S.cells⟩
  · obtain ⟨⟨o, ho, po⟩, hb⟩ := S.kept p hp
    refine ⟨?_, hb⟩
    by_cases m : p.1 ∈ l
    · exact hk p hp m o ho po
    · exact ⟨o, hl _ _ m ho, po⟩
  · obtain ⟨x, y⟩ := S.foot p hp
    exact ⟨hl _ _ (fun m => (hoff _ m).2 p hp rfl) x, y⟩
end

end
/-! W10 -/
section

noncomputable def valG : Nat → List Nat → Nat
  | v, [] => v
  | v, g :: r => valG (v * 64 + g) r
noncomputable def encD (m : Nat) (gs : List Nat) (l : Nat) : List Int := gs.map (fun g => ((g + 64 + m : Nat) : Int)) ++ [((l + m : Nat) : Int)]
theorem bits_lo (m : Nat) (hm : m = 0 ∨ m = 128) (d : Nat) (hd : d < 64) : Builtin.bitAnd ((d + m : Nat) : Int) 63 = (d : Int) ∧ Builtin.bitAnd ((d + m : Nat) : Int) 64 = 0 := by
  rcases hm with rfl | rfl
  · exact (by decide +kernel : ∀ d, d < 64 → Builtin.bitAnd ((d + 0 : Nat) : Int) 63 = (d : Int) ∧ Builtin.bitAnd ((d + 0 : Nat) : Int) 64 = 0) d hd
  · exact (by decide +kernel : ∀ d, d < 64 → Builtin.bitAnd ((d + 128 : Nat) : Int) 63 = (d : Int) ∧ Builtin.bitAnd ((d + 128 : Nat) : Int) 64 = 0) d hd
theorem bits_hi (m : Nat) (hm : m = 0 ∨ m = 128) (d : Nat) (hd : d < 64) : Builtin.bitAnd ((d + 64 + m : Nat) : Int) 63 = (d : Int) ∧ Builtin.bitAnd ((d + 64 + m : Nat) : Int) 64 = 64 := by
  rcases hm with rfl | rfl
  · exact (by decide +kernel : ∀ d, d < 64 → Builtin.bitAnd ((d + 64 + 0 : Nat) : Int) 63 = (d : Int) ∧ Builtin.bitAnd ((d + 64 + 0 : Nat) : Int) 64 = 64) d hd
  · exact (by decide +kernel : ∀ d, d < 64 → Builtin.bitAnd ((d + 64 + 128 : Nat) : Int) 63 = (d : Int) ∧ Builtin.bitAnd ((d + 64 + 128 : Nat) : Int) 64 = 64) d hd
theorem bit_or (v d : Nat) (hd : d < 64) : Builtin.bitOr ((v : Int) * 2 ^ (6 : Int).toNat) (d : Int) = ((v * 64 + d : Nat) : Int) := by
  have e : ((v : Int) * 2 ^ (6 : Int).toNat) = ((v * 64 : Nat) : Int) := by
    rw [show (6 : Int).toNat = 6 from rfl]; norm_cast
  rw [e]
  have h : v * 64 ||| d = v * 64 + d := by
    have := (Nat.shiftLeft_add_eq_or_of_lt (a := v) (b := d) (i := 6) hd).symm
    rw [Nat.shiftLeft_eq] at this; exact this
  rw [← h]
  generalize v * 64 = a
  have e1 : decide (0 ≤ -((a : Nat) : Int) - 1) = false := by simp; omega
  have e2 : decide (0 ≤ -((d : Nat) : Int) - 1) = false := by simp; omega
  unfold Builtin.bitOr Builtin.bitAnd Builtin.bitNot
  rw [e1, e2]
  simp
  have t : ∀ x : Nat, (-(-((x : Nat) : Int) - 1)).toNat - 1 = x := fun x => by omega
  rw [t, t]
  omega
section
variable {w : World} {n k : Nat} {C : List Cell} {P : Params} {env : Env} {K : Frag}
theorem truth_int {z : Int} : OpB K w k C tTruth [.d (.int z)] (z != 0) C := by
  intro A s b kp fs vs Q E hR S hv q
  have h_vs := RepAs.one hv; clear hv; obtain ⟨va, rfl, ha⟩ := h_vs
  cases ha
  exact PyProof.Rows.truthy_int (q b fs s.heap s.toks _ Sub.refl Keep.refl S rfl)
theorem OpB.eqb {T : List Value → Sem Bool} {rs : List AV} {r r' : Bool} {C' : List Cell} (h : OpB K w k C T rs r C') (hr : r = r') : OpB K w k C T rs r' C' := hr ▸ h
theorem valG_le : ∀ (gs : List Nat) (v : Nat), v ≤ valG v gs
  | [], v => Nat.le_refl v
  | g :: gs, v => by
    have := valG_le gs (v * 64 + g)
    show v ≤ valG (v * 64 + g) gs
    omega
theorem parse_loop {m l : Nat} {rest : List D} {i : Nat} (hm : m = 0 ∨ m = 128) (hl : l < 64) (hiC : i < C.length) (he : env.scope = stScope (topAt 6)) : ∀ (gs : List Nat) (g v : Nat), g < 64 → (∀ g ∈ gs, g < 64) → valG v (gs ++ [l]) < 2 ^ 60 →
    WhileTo (KK P) w n k env (match nth (stBody (topAt 6)) 2 with | .While t _ _ _ => t | _ => .Constant .none 0 ⟨0,0,0,0⟩) (match nth (stBody (topAt 6)) 2 with | .While _ b _ _ => b | _ => []) (gs.length + 1)
      [(Str.ofString "val", .loc (.d (.int (v : Nat)))), (Str.ofString "b", .loc (.d (.int ((g + 64 + m : Nat) : Int)))), (Str.ofString "iterator", .loc (.c i))] (C.set i (.itr ((encD m gs l).map .int ++ rest)))
      (.nxt [(Str.ofString "val", .loc (.d (.int (valG v (gs ++ [l]) : Nat)))), (Str.ofString "b", .loc (.d (.int ((l + m : Nat) : Int)))), (Str.ofString "iterator", .loc (.c i))]) (C.set i (.itr rest))
  | [], g, v, hg, _, hv => by
    have b1 := bits_hi m hm g hg
    have b2 := bits_lo m hm l hl
    have hv' : v * 64 + l < 2 ^ 60 := hv
    have ei : ∀ c : Cell, (C.set i c)[i]? = some c := fun c => by simp [hiC]
    refine .step (Γ₁ := [(Str.ofString "val", .loc (.d (.int (valG v [l] : Nat)))), (Str.ofString "b", .loc (.d (.int ((l + m : Nat) : Int)))), (Str.ofString "iterator", .loc (.c i))]) (C₂ := C.set i (.itr rest)) (tst_val (ev_bin (ev_n (by walk_at "lk") (by decide +kernel)) ev_int o_and) (OpB.eqb truth_int (by rw [b1.2]; rfl)) (by rfl)) ?_ (.done (tst_val (ev_bin (ev_n (by walk_at "lk") (by decide +kernel)) ev_int o_and) (OpB.eqb truth_int (by rw [b2.2]; rfl)) (by rfl)))
    refine ExecT.less (Γ₁ := _) (exs_cons (ex_aug (by walk_at "lk") ev_int (o_ishl (by decide) (by decide) (by omega)) (kd he (by decide +kernel))) (exs_cons (ExecT.cells (ex_assign (ev_call (ev_g he (by decide +kernel) (by walk_at "gl") (by decide +kernel)) rfl (.c (ev_n (by walk_at "lk") (by decide +kernel)) .nil) (o_next (ei _))) (kd he (by decide +kernel)) (by kernel_rfl)) (by rw [List.set_set]; rfl)) (exs_cons (ex_aug (by walk_at "lk") (ev_bin (ev_n (by walk_at "lk") (by decide +kernel)) ev_int o_and) (o_ior.eq (by rw [b2.1, bit_or _ _ hl])) (kd he (by decide +kernel))) exs_nil))) (GSub.c (by walk_at "lk") (GSub.c (by walk_at "lk") (GSub.c (by walk_at "lk") GSub.nil)))
  | g1 :: gs, g, v, hg, hgs, hv => by
    have b1 := bits_hi m hm g hg
    have hg1 := hgs g1 List.mem_cons_self
    have b2 := bits_hi m hm g1 hg1
    have ei : ∀ c : Cell, (C.set i c)[i]? = some c := fun c => by simp [hiC]
    have ih := parse_loop (rest := rest) hm hl hiC he gs g1 (v * 64 + g1) hg1 (fun x hx => hgs x (List.mem_cons_of_mem _ hx)) hv
    have hle := valG_le (gs ++ [l]) (v * 64 + g1)
    have hv' : valG (v * 64 + g1) (gs ++ [l]) < 2 ^ 60 := hv
    refine .step (Γ₁ := [(Str.ofString "val", .loc (.d (.int ((v * 64 + g1 : Nat) : Int)))), (Str.ofString "b", .loc (.d (.int ((g1 + 64 + m : Nat) : Int)))), (Str.ofString "iterator", .loc (.c i))]) (C₂ := C.set i (.itr ((encD m gs l).map .int ++ rest))) (tst_val (ev_bin (ev_n (by walk_at "lk") (by decide +kernel)) ev_int o_and) (OpB.eqb truth_int (by rw [b1.2]; rfl)) (by rfl)) ?_ ih
    refine ExecT.less (Γ₁ := _) (exs_cons (ex_aug (by walk_at "lk") ev_int (o_ishl (by decide) (by decide) (by omega)) (kd he (by decide +kernel))) (exs_cons (ExecT.cells (ex_assign (ev_call (ev_g he (by decide +kernel) (by walk_at "gl") (by decide +kernel)) rfl (.c (ev_n (by walk_at "lk") (by decide +kernel)) .nil) (o_next (ei _))) (kd he (by decide +kernel)) (by kernel_rfl)) (by rw [List.set_set]; rfl)) (exs_cons (ex_aug (by walk_at "lk") (ev_bin (ev_n (by walk_at "lk") (by decide +kernel)) ev_int o_and) (o_ior.eq (by rw [b2.1, bit_or _ _ hg1])) (kd he (by decide +kernel))) exs_nil))) (GSub.c (by walk_at "lk") (GSub.c (by walk_at "lk") (GSub.c (by walk_at "lk") GSub.nil)))
theorem parse_x {m l : Nat} {gs : List Nat} {rest : List D} {i : Nat} (hm : m = 0 ∨ m = 128) (hl : l < 64) (hg : ∀ g ∈ gs, g < 64) (hv : valG 0 (gs ++ [l]) < 2 ^ 60) (hi : C[i]? = some (.itr ((encD m gs l).map .int ++ rest))) (he : env.scope = stScope (topAt 6)) :
    ExecT (KK P) w n k env [(Str.ofString "iterator", .loc (.c i))] C (execs (stBody (topAt 6)) env) (.ret (.d (.int (valG 0 (gs ++ [l]) : Nat)))) (C.set i (.itr rest)) := by
  have hiC := (List.getElem?_eq_some_iff.mp hi).1
  have ec : C = C.set i (.itr ((encD m gs l).map .int ++ rest)) := by
    apply List.ext_getElem?
    intro j
    rw [List.getElem?_set]
    by_cases e : i = j
    · subst e; rw [hi]; simp [hiC]
    · simp [e]
  cases gs with
  | nil =>
    have b1 := bits_lo m hm l hl
    refine exs_cons (C₁ := C.set i (.itr rest)) (ex_assign (ev_call (ev_g he (by decide +kernel) (by walk_at "gl") (by decide +kernel)) rfl (.c (ev_n (by walk_at "lk") (by decide +kernel)) .nil) (o_next (d := .int ((l + m : Nat) : Int)) (ds := rest) hi)) (kd he (by decide +kernel)) (by kernel_rfl)) (exs_cons (ex_assign (EvalTo.eq (r' := .d (.int ((valG 0 [l] : Nat) : Int))) (ev_bin (ev_n (by walk_at "lk") (by decide +kernel)) ev_int o_and) (by rw [b1.1]; simp [valG])) (kd he (by decide +kernel)) (by kernel_rfl)) ?_)
    refine exs_cons (ex_while (m := 0) (.done (tst_val (ev_bin (ev_n (by walk_at "lk") (by decide +kernel)) ev_int o_and) (OpB.eqb truth_int (by rw [b1.2]; rfl)) (by rfl)))) (exs_ret (ex_return (ev_n (by walk_at "lk") (by decide +kernel))))
  | cons g gs =>
    have hg0 := hg g List.mem_cons_self
    have b1 := bits_hi m hm g hg0
    have L := parse_loop (w := w) (n := n) (k := k) (P := P) (env := env) (rest := rest) hm hl hiC he gs g (0 * 64 + g) hg0 (fun x hx => hg x (List.mem_cons_of_mem _ hx)) hv
    refine exs_cons (C₁ := C.set i (.itr ((encD m gs l).map .int ++ rest))) (ex_assign (ev_call (ev_g he (by decide +kernel) (by walk_at "gl") (by decide +kernel)) rfl (.c (ev_n (by walk_at "lk") (by decide +kernel)) .nil) (o_next (d := .int ((g + 64 + m : Nat) : Int)) (ds := (encD m gs l).map .int ++ rest) hi)) (kd he (by decide +kernel)) (by kernel_rfl)) (exs_cons (ex_assign (EvalTo.eq (r' := .d (.int (((0 * 64 + g : Nat) : Nat) : Int))) (ev_bin (ev_n (by walk_at "lk") (by decide +kernel)) ev_int o_and) (by rw [b1.1]; simp)) (kd he (by decide +kernel)) (by kernel_rfl)) ?_)
    exact exs_cons (ex_while L) (exs_ret (ex_return (ev_n (by walk_at "lk") (by decide +kernel))))
theorem parse_op {m l : Nat} {gs : List Nat} {rest : List D} {i : Nat} (hm : m = 0 ∨ m = 128) (hl : l < 64) (hg : ∀ g ∈ gs, g < 64) (hv : valG 0 (gs ++ [l]) < 2 ^ 60) (hi : C[i]? = some (.itr ((encD m gs l).map .int ++ rest))) :
    Op (KK P) w (k + 1) C (fun vs => call (.ref 57) vs []) [.c i] (.d (.int (valG 0 (gs ++ [l]) : Nat))) (C.set i (.itr rest)) := by
  refine call_fn (C₁ := []) (ps := [Str.ofString "iterator"]) (pargs := [.c i]) id def_57 (KK_lim P) (fun s vs X hl => by obtain ⟨v, rfl⟩ := len1 hl; exact BindsTo.of_eq (by kernel_rfl)) (fun _ _ _ h => h) (fun q hq => by simp at hq; subst hq; kernel_rfl) (by simp) (nocells (by kernel_rfl)) (by simp) (fun h c hc j hj => ?_) (by trivial) fun L => ?_
  · rcases List.mem_or_eq_of_mem_set hc with h1 | rfl
    · exact h c h1 j hj
    · simp [Cell.refs] at hj
  · rw [List.append_nil]
    have he : (envOf (codeOf P 57).qualname (codeOf P 57).scope L 57 (codeOf P 57).code).scope = stScope (topAt 6) := rfl
    exact parse_x hm hl hg hv hi he
end

end
/-! W11 -/
section

noncomputable def groupsN : Nat → List Nat := Nat.lt_wfRel.wf.fix fun c ih => if h : c ≤ 63 then [] else ih (c / 64) (Nat.div_lt_self (by omega) (by decide)) ++ [(c / 64) % 64]
theorem groupsN_eq (c : Nat) : groupsN c = if h : c ≤ 63 then [] else groupsN (c / 64) ++ [(c / 64) % 64] := Nat.lt_wfRel.wf.fix_eq _ c
noncomputable def topN : Nat → Nat := Nat.lt_wfRel.wf.fix fun c ih => if h : c ≤ 63 then c else ih (c / 64) (Nat.div_lt_self (by omega) (by decide))
theorem topN_eq (c : Nat) : topN c = if h : c ≤ 63 then c else topN (c / 64) := Nat.lt_wfRel.wf.fix_eq _ c
noncomputable def markN (c : Nat) : Nat := if joint (c : Int) then 128 else 0
noncomputable def octN (c : Nat) : List Int := encD (markN c) (groupsN c) (c % 64)
noncomputable def octsN (cs : List Nat) : List Int := (cs.map octN).flatten
theorem valG_snoc : ∀ (a : List Nat) (v x : Nat), valG v (a ++ [x]) = valG v a * 64 + x
  | [], v, x => rfl
  | g :: a, v, x => valG_snoc a (v * 64 + g) x
theorem valG_groups (c : Nat) : valG 0 (groupsN c) = c / 64 := by
  rw [groupsN_eq]
  split
  · show 0 = _; omega
  · rw [valG_snoc, valG_groups (c / 64)]; omega
termination_by c
decreasing_by omega
theorem val_oct (c : Nat) : valG 0 (groupsN c ++ [c % 64]) = c := by rw [valG_snoc, valG_groups]; omega
theorem groups_lt (c : Nat) : ∀ g ∈ groupsN c, g < 64 := by
  intro g hg
  rw [groupsN_eq] at hg
  split at hg
  · simp at hg
  · rcases List.mem_append.mp hg with h | h
    · exact groups_lt (c / 64) g h
    · simp at h; omega
termination_by c
decreasing_by omega
theorem groups_len (c : Nat) : ∀ m, c < 64 ^ (m + 1) → (groupsN c).length ≤ m
  | 0, h => by rw [groupsN_eq, dif_pos (by omega)]; simp
  | m + 1, h => by
    rw [groupsN_eq]
    split
    · simp
    · have := groups_len (c / 64) m (by rw [Nat.div_lt_iff_lt_mul (by decide)]; rw [Nat.pow_succ] at h; exact h)
      simp; omega
section
variable {w : World} {n k : Nat} {C : List Cell} {P : Params} {env : Env} {K : Frag}
theorem dig_loop {m : Nat} {Γ : Gam} (he : env.scope = stScope (topAt 20)) (hm : m ≤ 128) (h2 : List.lookup (Str.ofString "digits") Γ = some (.loc (.c (C.length + 1)))) (h3 : List.lookup (Str.ofString "mark") Γ = some (.loc (.d (.int (m : Nat))))) {oc : Cell} : ∀ (f c : Nat) (X : List Int), c < 64 ^ (f + 1) → f + X.length ≤ 100 →
    WhileTo (KK P) w n k env (match nth (forBody (nth (stBody (topAt 20)) 1)) 2 with | .While t _ _ _ => t | _ => .Constant .none 0 ⟨0,0,0,0⟩) (match nth (forBody (nth (stBody (topAt 20)) 1)) 2 with | .While _ b _ _ => b | _ => []) f
      ((Str.ofString "code", .loc (.d (.int (c : Nat)))) :: Γ) (C ++ [oc, .lst (dInts X)])
      (.nxt ((Str.ofString "code", .loc (.d (.int (topN c : Nat)))) :: Γ)) (C ++ [oc, .lst (dInts ((groupsN c).map (fun g => ((g + 64 + m : Nat) : Int)) ++ X))])
  | f, c, X, hc, hf => by
    by_cases h63 : c ≤ 63
    · have e1 : groupsN c = [] := by rw [groupsN_eq, dif_pos h63]
      have e2 : topN c = c := by rw [topN_eq, dif_pos h63]
      rw [e1, e2]
      exact .done (tst_cmp (ev_n lk_here (by decide +kernel)) ev_int (o_gt.eq (by simp; omega)) rfl)
    · match f, hc, hf with
      | 0, hc, _ => exact absurd hc (by omega)
      | f + 1, hc, hf =>
      have e1 : groupsN c = groupsN (c / 64) ++ [(c / 64) % 64] := by rw [groupsN_eq, dif_neg h63]
      have e2 : topN c = topN (c / 64) := by rw [topN_eq, dif_neg h63]
      have hc' : c / 64 < 64 ^ (f + 1) := by rw [Nat.div_lt_iff_lt_mul (by decide)]; rw [Nat.pow_succ] at hc; exact hc
      have ih := dig_loop he hm h2 h3 (oc := oc) f (c / 64) (((((c / 64) % 64 + 64 + m : Nat) : Int)) :: X) hc' (by simp; omega)
      rw [e1, e2, List.map_append, List.append_assoc]
      have ec : ((c : Nat) : Int).fdiv 64 = ((c / 64 : Nat) : Int) := by
        rw [Int.fdiv_eq_ediv_of_nonneg _ (by decide)]; norm_cast
      have em : (((c / 64 : Nat) : Int).fmod 64 + 64 + (m : Int)) = (((c / 64) % 64 + 64 + m : Nat) : Int) := by
        rw [Int.fmod_eq_emod_of_nonneg _ (by decide)]; norm_cast
      refine .step (tst_cmp (ev_n lk_here (by decide +kernel)) ev_int (o_gt.eq (by simp; omega)) rfl) ?_ ih
      refine ExecT.less (Γ₁ := (Str.ofString "code", .loc (.d (.int ((c / 64 : Nat) : Int)))) :: (Str.ofString "code", .loc (.d (.int (c : Nat)))) :: Γ) (exs_cons (ex_aug lk_here ev_int ((o_ifdiv (by decide) (by rfl)).eq (by rw [ec])) (kd he (by decide +kernel))) (exs_cons (ExecT.cells (ex_expr (ev_meth (ev_n (lk_there (by decide +kernel) (lk_there (by decide +kernel) h2)) (by decide +kernel)) (mg_list (.c (get_2b _ _ _)) PySem.F.slot_list_insert PySem.F.type_list_insert) rfl
        (.c ev_int (.c (ev_bin (ev_bin (ev_bin (ev_n lk_here (by decide +kernel)) ev_int (o_mod (by decide))) ev_int o_add) (ev_n (lk_there (by decide +kernel) (lk_there (by decide +kernel) h3)) (by decide +kernel)) o_add) .nil)) (o_insert (get_2b _ _ _) (by decide) (by decide) (by simp [sizeLine]; omega)) rfl) (inter_fn he (by decide +kernel)) (by kernel_rfl)) ?_) exs_nil)) less_shadow
      rw [set_2b, em]
      rfl
theorem mark_eq (c : Nat) : (if (decide ((12271 : Int) < (c : Int)) && decide ((c : Int) < 12284)) then D.int 128 else D.int 0) = D.int ((markN c : Nat) : Int) := by
  unfold markN joint
  split <;> rfl
theorem octs_take (cs : List Nat) (j : Nat) (h : j < cs.length) : octsN (cs.take (j + 1)) = octsN (cs.take j) ++ octN (cs.getD j 0) := by
  rw [List.take_add_one, List.getElem?_eq_getElem h, List.getD_eq_getElem?_getD, List.getElem?_eq_getElem h]
  simp only [octsN, Option.toList_some, List.map_append, List.flatten_append, List.map_cons, List.map_nil, List.flatten_cons, List.flatten_nil, List.append_nil]
  rfl
theorem oct_len {c : Nat} (h : c < 1114112) : (octN c).length ≤ 5 := by
  have := groups_len c 4 (by omega)
  unfold octN encD
  simp; omega
theorem octs_len : ∀ (cs : List Nat), (∀ c ∈ cs, c < 1114112) → (octsN cs).length ≤ 5 * cs.length
  | [], _ => by simp [octsN]
  | c :: cs, h => by
    have h1 := oct_len (h c List.mem_cons_self)
    have h2 := octs_len cs fun x hx => h x (List.mem_cons_of_mem _ hx)
    have e : octsN (c :: cs) = octN c ++ octsN cs := rfl
    rw [e]
    simp; omega
theorem oct_body {cs : List Nat} {oc : List Int} {c : Nat} (hc : c < 1114112) (hz : oc.length ≤ 10000) (hC : ∀ c ∈ C, ∀ j ∈ c.refs, j < C.length) (he : env.scope = stScope (topAt 20)) :
    ExecT (KK P) w C.length k env [(Str.ofString "code", .loc (.d (.int (c : Nat)))), (Str.ofString "octets", .loc (.c C.length)), (Str.ofString "codes", .loc (.d (.list (cs.map fun c : Nat => D.int (c : Nat)))))] (C ++ [.lst (dInts oc)]) (execs (forBody (nth (stBody (topAt 20)) 1)) env)
      (.nxt [(Str.ofString "octets", .loc (.c C.length)), (Str.ofString "codes", .loc (.d (.list (cs.map fun c : Nat => D.int (c : Nat)))))]) (C ++ [.lst (dInts (oc ++ octN c))]) := by
  have em : ((c : Nat) : Int).fmod 64 + ((markN c : Nat) : Int) = ((c % 64 + markN c : Nat) : Int) := by
    rw [Int.fmod_eq_emod_of_nonneg _ (by decide)]; norm_cast
  have hm : markN c ≤ 128 := by unfold markN; split <;> omega
  have hlen := groups_len c 4 (by omega)
  refine ExecT.forget (C₂ := [.lst (dInts (octN c))]) ?_ (by simp) ?_ ?_
  · refine ExecT.less (Γ₁ := [(Str.ofString "code", .loc (.d (.int (topN c : Nat)))), (Str.ofString "digits", .loc (.c (C.length + 1))), (Str.ofString "mark", .loc (.d (.int (markN c : Nat)))), (Str.ofString "octets", .loc (.c C.length)), (Str.ofString "codes", .loc (.d (.list (cs.map fun c : Nat => D.int (c : Nat)))))]) ?_ (GSub.c (by walk_at "lk") (GSub.c (by walk_at "lk") GSub.nil))
    refine exs_cons (ex_assign (EvalTo.eq (ev_ifd (tst_chain ev_int (ev_n (by walk_at "lk") (by decide +kernel)) o_lt (fun _ => ev_int) (fun _ => o_lt) (by rfl)) (fun _ => ev_int) (fun _ => ev_int)) (by rw [mark_eq])) (kd he (by decide +kernel)) (by kernel_rfl)) ?_
    refine exs_cons (Γ₁ := [(Str.ofString "code", .loc (.d (.int (c : Nat)))), (Str.ofString "digits", .loc (.c (C.length + 1))), (Str.ofString "mark", .loc (.d (.int (markN c : Nat)))), (Str.ofString "octets", .loc (.c C.length)), (Str.ofString "codes", .loc (.d (.list (cs.map fun c : Nat => D.int (c : Nat)))))]) (C₁ := C ++ [.lst (dInts oc), .lst (dInts [((c % 64 + markN c : Nat) : Int)])])
      (ExecT.less (ExecT.cells (ex_assign (EvalTo.eq (r' := .c (C.length + 1)) (ev_listc (ds := [.int _]) (.c (ev_bin (ev_bin (ev_n (by walk_at "lk") (by decide +kernel)) ev_int (o_mod (by decide))) (ev_n (by walk_at "lk") (by decide +kernel)) o_add) .nil)) (by simp)) (kd he (by decide +kernel)) (by kernel_rfl)) ?_) (GSub.c (by walk_at "lk") (GSub.c (by walk_at "lk") (GSub.c (by walk_at "lk") (GSub.c (by walk_at "lk") (GSub.c (by walk_at "lk") GSub.nil)))))) ?_
    · rw [em, List.append_assoc]; rfl
    refine exs_cons (ex_while (dig_loop he hm (by walk_at "lk") (by walk_at "lk") 4 c [((c % 64 + markN c : Nat) : Int)] (by omega) (by simp))) ?_
    refine exs_cons (ExecT.cells (ex_expr (ev_meth (ev_n (by walk_at "lk") (by decide +kernel)) (mg_list (.c (get_2a _ _ _)) PySem.F.slot_list_extend PySem.F.type_list_extend) rfl (.c (ev_n (by walk_at "lk") (by decide +kernel)) .nil) (o_extend (.c (get_2b _ _ _)) (get_2a _ _ _) (by simp [sizeLine]; omega)) rfl) (inter_fn he (by decide +kernel)) (by kernel_rfl)) ?_) exs_nil
    rw [set_2a]
    simp [octN, encD, dInts]
  · intro x r e
    rw [List.lookup_cons] at e
    split at e
    · cases e; show C.length < _; simp
    · rw [List.lookup_cons] at e
      split at e
      · cases e; trivial
      · cases e
  · intro c hc j hj
    rcases List.mem_append.mp hc with h | h
    · have := hC c h j hj
      simp; omega
    · simp at h; subst h; simp [Cell.refs] at hj
end

end
/-! I4 -/
section

/-- an exception flies above the frames l; h0: the heap where it was raised, its: objects that were turned then, and frames that are gone -/
structure Raised (h0 h' : Heap) (l : List Env) (its : List Addr) (e : Addr) (cls : Value) : Prop where
  fly : ∃ base a0, Heap.FlyingW base l e cls a0 h' ∧ ∀ a o, a ∉ its → a ∉ l.filterMap (·.frame) → h0.get? a = some o → base.get? a = some o
  slots : ∀ a o, a ∉ its → h0.get? a = some o → (∀ vs, o.data ≠ .fields vs) → ∃ sl, h'.get? a = some { o with slots := sl }
section
variable {K : Frag} {w : World} {k : Nat} {b : PM} {kp : Kp} {fs : List Foot} {C : List Cell} {A : Around} {s : Shared} {E : Value → Shared → Prop} {Q : Unit → Shared → Prop} {Γ : Gam}
theorem funFrames_of {h : Heap} {base : Heap} {ok : Addr → Prop} (ho : ∀ L, ok L → base.get? L = none ∧ ∃ o, h.get? L = some o ∧ ∀ vs, o.data ≠ .fields vs) : ∀ {l : List Env}, (∀ e ∈ l, e.scope.kind ≠ .module ∧ ∃ L, e.frame = some L ∧ ok L) → h.FunFrames base l
  | [], _ => trivial
  | e :: l, q => by
    obtain ⟨a, L, f, k⟩ := q e List.mem_cons_self
    obtain ⟨x, o, y, z⟩ := ho L k
    exact ⟨a, ⟨L, o, f, x, y, z⟩, funFrames_of ho fun e he => q e (List.mem_cons_of_mem _ he)⟩
theorem leave_first {env : Env} {it e : Addr} {cls : Value} {h0 : Heap} (hR : Room k (okL kp env.locals) (A.deeper env)) (hfr : env.frame = some env.locals) {outer : List Env} (hA : A.frames = some outer) (S : St K b kp fs C h0) (F : Frm b kp fs env Γ h0) (hit : ∃ p ∈ fs.flatten, p.1 = it) (nx : NewEx h0 s.heap it e cls)
    (q : ∀ h', Raised h0 h' outer [it, env.locals] e cls → Q () { s with heap := h' }) : wpAny (model prg w) (A.deeper env) (leaving env (.ref e)) Q E s := by
  obtain ⟨ob, t, vs, he, hc, hd, h0', h1'⟩ := nx.there
  obtain ⟨l, el, hl⟩ := hR.frames
  have el2 : l = env :: outer := by
    have : (A.deeper env).frames = A.frames.map (env :: ·) := rfl
    rw [this, hA] at el
    simpa using el.symm
  subst el2
  obtain ⟨p, hp, rfl⟩ := hit
  have hne : ∀ L, okL kp env.locals L → L ≠ p.1 := by
    rintro L (rfl | ⟨P, hP, _⟩)
    · exact (F.off.2.2 p hp).symm
    · exact fun z => (S.foot p hp).2.2 _ hP z
  have hob : ∀ L, okL kp env.locals L → ∃ o, h0.get? L = some o ∧ ∀ vs, o.data ≠ .fields vs := by
    rintro L (rfl | ⟨P, hP, hn⟩)
    · obtain ⟨m, ⟨o, es, ep, ho, hdd, _⟩, _⟩ := F.ns
      exact ⟨o, ho, fun vs z => by rw [hdd] at z; cases z⟩
    · obtain ⟨⟨o, ho, po⟩, _⟩ := S.kept _ hP
      exact ⟨o, ho, hn o po⟩
  have hmem : ∀ e ∈ env :: outer, ∀ L, e.frame = some L → L ∈ (p.1 :: (env :: outer).filterMap (·.frame)) := fun e he L hL => List.mem_cons_of_mem _ (List.mem_filterMap.mpr ⟨e, he, hL⟩)
  have hf := funFrames_of (h := s.heap) (base := hideAll h0 (p.1 :: (env :: outer).filterMap (·.frame))) (ok := fun L => okL kp env.locals L ∧ L ∈ (p.1 :: (env :: outer).filterMap (·.frame))) (fun L hL => by
    obtain ⟨o, ho, hn⟩ := hob L hL.1
    exact ⟨hideAll_none _ hL.2, o, nx.keep _ _ (hne L hL.1) ho, hn⟩) (l := env :: outer) fun e he => by
      obtain ⟨a, L, f, k⟩ := hl e he
      exact ⟨a, L, f, k, hmem e he L f⟩
  refine wpAny_leaving_firstW (base := hideAll h0 (p.1 :: (env :: outer).filterMap (·.frame))) (outer := outer) el hf hfr he (fun a o ha => ?_) ?_ hd h1' h0' fun h' hL => ?_
  · have h2 := of_hideAll _ ha
    refine nx.keep a o (fun z => ?_) h2
    subst z
    rw [hideAll_none _ List.mem_cons_self] at ha; cases ha
  · cases qq : (hideAll h0 (p.1 :: (env :: outer).filterMap (·.frame))).get? e with
    | none => rfl
    | some o => have := of_hideAll _ qq; rw [nx.new] at this; cases this
  · obtain ⟨k1, ⟨_, _, k2⟩, k3, k4⟩ := hL
    refine q h' ⟨⟨_, t, ⟨k1, ?_, k2, hc ▸ k3⟩, fun a o ha hn ho => ?_⟩, fun a o ha ho hn => k4 a o (nx.keep a o (fun z => ha (by rw [z]; exact List.mem_cons_self)) ho) hn⟩
    · cases qq : (hideAll h0 (p.1 :: (env :: outer).filterMap (·.frame))).get? e with
      | none => rfl
      | some o => have := of_hideAll _ qq; rw [nx.new] at this; cases this
    · refine hideAll_get _ ho fun hm => ?_
      rcases List.mem_cons.mp hm with z | hm
      · exact ha (by rw [z]; exact List.mem_cons_self)
      · obtain ⟨e', he', hf'⟩ := List.mem_filterMap.mp hm
        rcases List.mem_cons.mp he' with rfl | he'
        · rw [hfr] at hf'
          cases hf'
          exact ha (List.mem_cons_of_mem _ List.mem_cons_self)
        · exact hn (List.mem_filterMap.mpr ⟨e', he', hf'⟩)
theorem parse_raise {P : Params} {v : Value} {i : Nat} {Q : Value → Shared → Prop} {outer : List Env} (hR : Room (k + 1) (okK kp) A) (hA : A.frames = some outer) (S : St (KK P) b kp fs C s.heap) (hi : C[i]? = some (.itr [])) (r : RepA b fs v (.c i))
    (hE : ∀ b' fs' h0 h' tk e it L, Sub b b' → Keep fs.length fs fs' → St (KK P) b' kp fs' C h0 → (∃ o, fs'[i]? = some [(it, o)]) → b' L = none → (∀ q ∈ kp, q.1 ≠ L) → (∀ p ∈ fs'.flatten, p.1 ≠ L) → Raised h0 h' outer [it, L] e (.type "StopIteration") → E (.ref e) { s with heap := h', toks := tk }) :
    wpAny (model prg w) A (call (.ref 57) [v] []) Q E s := by
  have D : DefAt (KK P) 57 (codeOf P 57) (stBody (topAt 6)) := def_57
  obtain ⟨oc, od, osl, ho⟩ := D.at_
  obtain ⟨lo, les, lep, l1, l2, l3, l4⟩ := (KK_lim P).ex
  have hdep := hR.depth
  have huni := hR.units
  have hloc : ∀ p ∈ [Str.ofString "iterator"], (codeOf P 57).scope.names.lookup p = some .local := fun q hq => by simp at hq; subst hq; kernel_rfl
  refine wpAny_call (codeAny_call_function (fd := codeOf P 57) (body := stBody (topAt 6)) (by omega) (S.top_in _ _ ho) rfl D.co D.gen D.body (codeRec_of S.top_in D.code) ?_)
  refine (BindsTo.of_eq (fd := codeOf P 57) (args := ⟨[v], []⟩) (binds := [(Str.ofString "iterator", v)]) (by kernel_rfl)) _ _ _ _ ?_
  rw [D.cl, D.gl, D.bu]
  have hL : s.heap.get? s.heap.objs.size = none := Heap.get?_none_of_le (Nat.le_refl _)
  refine wpAny_newFunctionEnv (nocells (by kernel_rfl)) (fun x hx => by simp at hx; subst hx; kernel_rfl) (fun h' hn hs => ?_) D.kind
  have hk : ∀ c o, s.heap.get? c = some o → h'.get? c = some o := fun c o e => hs.extBut c o (Nat.ne_of_lt (Heap.lt_size e)) (Heap.get?_push_of_some _ e)
  have S' : St (KK P) b kp fs C h' := S.keeps hk
  refine ⟨S'.nolimit l1 l2 l3 l4, ?_⟩
  show codeAny _ _ (.func (stBody (topAt 6)) (envOf (codeOf P 57).qualname (codeOf P 57).scope s.heap.objs.size 57 (codeOf P 57).code)) _ _
  refine codeAny_func ?_
  have he : (envOf (codeOf P 57).qualname (codeOf P 57).scope s.heap.objs.size 57 (codeOf P 57).code).scope = stScope (topAt 6) := rfl
  have F' : Frm b kp fs (envOf (codeOf P 57).qualname (codeOf P 57).scope s.heap.objs.size 57 (codeOf P 57).code) [(Str.ofString "iterator", .loc (.c i))] h' :=
    ⟨D.kind, rfl, rfl, S.fresh hL, _, hn, lookup_gam [Str.ofString "iterator"] [v] [.c i] (by simp) ⟨r, trivial⟩ hloc⟩
  have hfr : (envOf (codeOf P 57).qualname (codeOf P 57).scope s.heap.objs.size 57 (codeOf P 57).code).frame = some (envOf (codeOf P 57).qualname (codeOf P 57).scope s.heap.objs.size 57 (codeOf P 57).code).locals := rfl
  have hR' : Room k (okL kp (envOf (codeOf P 57).qualname (codeOf P 57).scope s.heap.objs.size 57 (codeOf P 57).code).locals) (A.deeper (envOf (codeOf P 57).qualname (codeOf P 57).scope s.heap.objs.size 57 (codeOf P 57).code)) := by
    refine ⟨by show A.depth + 1 + k < _; omega, by show A.units + 3 + 8 * k < _; omega, hR.handled, ?_⟩
    obtain ⟨outer, e, hx⟩ := hR.frames
    refine ⟨envOf (codeOf P 57).qualname (codeOf P 57).scope s.heap.objs.size 57 (codeOf P 57).code :: outer, by show A.frames.map _ = _; rw [e]; rfl, fun x hxm => ?_⟩
    rcases List.mem_cons.mp hxm with rfl | hxm
    · exact ⟨by show (codeOf P 57).scope.kind ≠ .module; rw [D.kind]; decide, _, rfl, .inl rfl⟩
    · obtain ⟨a1, L, a2, a3⟩ := hx x hxm
      exact ⟨a1, L, a2, .inr a3⟩
  generalize envOf (codeOf P 57).qualname (codeOf P 57).scope s.heap.objs.size 57 (codeOf P 57).code = env at he hfr F' hR' ⊢
  refine wpAny_execs_cons (wpAny_Assign_Name ?_ (by kernel_rfl))
  refine call_raw (k := k) (C := C) (C₁ := C) (C₂ := C) (Γ := [(Str.ofString "iterator", .loc (.c i))]) (ev_g he (by decide +kernel) (by walk_at "gl") (by decide +kernel)) rfl (.c (ev_n (by walk_at "lk") (by decide +kernel)) .nil) hR' S' F' fun b₂ fs₂ h₂ tk₂ vs sb kf S₂ F₂ r₂ => ?_
  match vs, r₂ with
  | [va], ⟨⟨f, a, hf, hh, ev⟩, _⟩ =>
    subst ev
    obtain ⟨a', o, l, xs, nn, j, rfl, hc, hd, hb, hj, rl⟩ := S₂.cells.2 i _ f hi hf
    simp [headA] at hh; subst hh
    have hmem : (a', o) ∈ fs₂.flatten := List.mem_flatten.mpr ⟨_, List.mem_of_getElem? hf, List.mem_cons_self⟩
    have hit : h₂.IsListIter a' l j := ⟨o, (S₂.foot _ hmem).1, hc, hd⟩
    have hln := rl.length
    simp at hln
    refine next_end (s := { s with heap := h₂, toks := tk₂ }) hR'.handled hit (isList_of (S₂.base _ _ hb)) (by simp; omega) fun h3 e nx => ?_
    refine leave_first (s := { s with heap := h3, toks := tk₂ }) hR' hfr hA S₂ F₂ ⟨_, hmem, rfl⟩ nx fun h4 R => ?_
    exact hE b₂ fs₂ h₂ h4 tk₂ e a' env.locals sb kf S₂ ⟨o, hf⟩ F₂.off.1 F₂.off.2.1 F₂.off.2.2 R
end

end
/-! W12 -/
section

section
variable {K : Frag} {w : World} {n k : Nat} {C C₁ : List Cell} {P : Params} {env : Env} {Γ : Gam} {A : Around} {s : Shared} {b : PM} {kp : Kp} {fs : List Foot} {E : Value → Shared → Prop}
theorem meth_raise {o e : Expr} {name : Str} {apos pos : Pos} {f : Value} {r₀ : AV} {pl : Sem Bool} {Q : Value → Shared → Prop} (h1 : EvalTo K w k env Γ C o r₀ C) (hm : MethG K w k C name r₀ f) (hk : keepOk K f = true)
    (he : eval (.Call (.Attribute o name apos) [e] [] pos) env = (do
      let ov ← eval o env
      standAt apos.atName
      let (f, first) ← holding [ov] (getMethod ov name pl)
      callWith pos f first (backTo pos (starEach [e] env)) (backToKw pos (keywordEach [] env)))) (hs : starEach [e] env = [(false, eval e env)])
    (hR : Room k (okL kp env.locals) A) (S : St K b kp fs C s.heap) (F : Frm b kp fs env Γ s.heap)
    (hr : ∀ b' fs' h' tk, Sub b b' → Keep fs.length fs fs' → St K b' kp fs' C h' → Frm b' kp fs' env Γ h' → wpAny (model prg w) A (eval e env) (fun _ _ => False) E { s with heap := h', toks := tk }) :
    wpAny (model prg w) A (eval (.Call (.Attribute o name apos) [e] [] pos) env) Q E s := by
  refine methodCall_KW (pl := pl) ?_ he
  refine h1 A s b kp fs _ E hR S F fun b₁ fs₁ h₁ tk₁ v sb₁ kf₁ S₁ F₁ r₁ => ?_
  refine (hm pl).tree (s := { s with heap := h₁, toks := tk₁ }) (vs := [v]) hR S₁ F₁ ⟨r₁, trivial⟩ fun b₂ fs₂ h₂ tk₂ fx sb₂ kf₂ S₂ F₂ r₂ => ?_
  obtain ⟨e', r₂⟩ := r₂
  rw [e']
  have hz : wpAny (model prg w) A (spliced (backTo pos (starEach [e] env))) (fun _ _ => False) E { s with heap := h₂, toks := tk₂ } := by
    refine wpAny_items_cons (h := ?_) (he := hs)
    exact wpAny_mono (hr b₂ fs₂ h₂ tk₂ (sb₁.trans sb₂) (kf₁.then kf₂) S₂ F₂) (fun _ _ x => x.elim) fun _ _ x => x
  rw [hs] at hz ⊢
  refine callWith_of (by rfl) (keeps_ok hk) (evalArgs_plain (wpAny_mono hz (fun _ _ x => x.elim) fun _ _ x => x))
/-- the own frame among the objects beside -/
theorem own_kp (hR : Room k (okL kp env.locals) A) (S : St K b kp fs C s.heap) (F : Frm b kp fs env Γ s.heap) : ∃ o, s.heap.get? env.locals = some o ∧ (∃ es n, o.data = .dict es n) ∧ St K b ((env.locals, fun x => x.data = o.data) :: kp) fs C s.heap ∧ Room k (okK ((env.locals, fun x => x.data = o.data) :: kp)) A := by
  obtain ⟨m, hn, hm⟩ := F.ns
  obtain ⟨o, es, ep, ho, hd, hs, hf⟩ := id hn
  obtain ⟨f1, f2, f3⟩ := F.off
  refine ⟨o, ho, ⟨es, ep, hd⟩, ⟨S.base, S.top, fun p hp => ?_, fun p hp => ⟨(S.foot p hp).1, (S.foot p hp).2.1, fun q hq => ?_⟩, S.nodup, S.cells⟩, hR.weak fun a ha => ?_⟩
  · rcases List.mem_cons.mp hp with rfl | hp
    · exact ⟨⟨o, ho, rfl⟩, f1⟩
    · exact S.kept p hp
  · rcases List.mem_cons.mp hq with rfl | hq
    · exact Ne.symm (f3 p hp)
    · exact (S.foot p hp).2.2 q hq
  · rcases ha with rfl | ⟨d, hd, hv⟩
    · exact ⟨_, List.mem_cons_self, fun y hy vs e => by rw [show y.data = o.data from hy, hd] at e; cases e⟩
    · exact ⟨d, List.mem_cons_of_mem _ hd, hv⟩
/-- after a raise: the tape is gone, the rest stands -/
theorem St.landed {kq : Kp} {h0 h6 : Heap} {i : Nat} {it L : Addr} {o : Obj} {outer : List Env} {base : Heap} (S : St K b kq fs C h0) (hi : i < C.length) (hf : fs[i]? = some [(it, o)]) (hno : ∀ j c, j ≠ i → C[j]? = some c → i ∉ c.refs) (hG : GoodKp kq)
    (hL1 : b L = none) (hL2 : ∀ q ∈ kq, q.1 ≠ L) (hL3 : ∀ p ∈ fs.flatten, p.1 ≠ L) (hout : ∀ e ∈ outer, ∃ L, e.frame = some L ∧ okK kq L)
    (hb : ∀ a o, a ∉ [it, L] → a ∉ outer.filterMap (·.frame) → h0.get? a = some o → base.get? a = some o) (hst : base.StaysIn h6)
    (hsl : ∀ a o, a ∉ [it, L] → h0.get? a = some o → (∀ vs, o.data ≠ .fields vs) → ∃ sl, h6.get? a = some { o with slots := sl }) : St K b kq (fs.set i []) (C.set i .gone) h6 := by
  have hmem : (it, o) ∈ fs.flatten := List.mem_flatten.mpr ⟨_, List.mem_of_getElem? hf, List.mem_cons_self⟩
  have S1 := S.gone hi hno
  obtain ⟨l, r, e1, e2⟩ := flatten_set fs i [(it, o)] [] hf
  have inF : ∀ p ∈ (fs.set i []).flatten, p ∈ fs.flatten := fun p hp => by
    rw [e2] at hp
    simp only [List.append_nil, List.mem_append] at hp
    rw [e1]; rcases hp with hp | hp <;> simp [hp]
  have hit : ∀ p ∈ (fs.set i []).flatten, p.1 ≠ it := fun p hp z => by
    have nd := S.nodup
    rw [e1] at nd
    rw [e2] at hp
    simp only [List.append_nil, List.mem_append, List.map_append, List.map_cons, List.map_nil] at hp nd
    rcases hp with hp | hp
    · exact (List.nodup_append.mp (List.nodup_append.mp nd).1).2.2 p.1 (List.mem_map.mpr ⟨p, hp, rfl⟩) it List.mem_cons_self z
    · exact (List.nodup_append.mp nd).2.2 it (List.mem_append_right _ List.mem_cons_self) p.1 (List.mem_map.mpr ⟨p, hp, rfl⟩) z.symm
  have hfr : ∀ a ∈ outer.filterMap (·.frame), okK kq a := fun a ha => by
    obtain ⟨e, he, hfe⟩ := List.mem_filterMap.mp ha
    obtain ⟨L', x, y⟩ := hout e he
    rw [hfe] at x; cases x; exact y
  refine S1.carry (l := it :: L :: outer.filterMap (·.frame)) (fun a o' ha ho' => ?_) (fun a ha => ?_) fun p hp hpl o' ho' po' => ?_
  · simp only [List.mem_cons, not_or] at ha
    exact hst a o' (hb a o' (by simp [ha.1, ha.2.1]) ha.2.2 ho')
  · rcases List.mem_cons.mp ha with rfl | ha
    · exact ⟨(S.foot _ hmem).2.1, hit⟩
    · rcases List.mem_cons.mp ha with rfl | ha
      · exact ⟨hL1, fun p hp => hL3 p (inF p hp)⟩
      · obtain ⟨P', hP, _⟩ := hfr a ha
        exact ⟨(S.kept _ hP).2, fun p hp z => (S.foot p (inF p hp)).2.2 _ hP z.symm⟩
  · have n1 : p.1 ≠ it := (S.foot _ hmem).2.2 p hp
    have n2 := hL2 p hp
    rcases List.mem_cons.mp hpl with z | hpl
    · exact absurd z n1
    · rcases List.mem_cons.mp hpl with z | hpl
      · exact absurd z n2
      · obtain ⟨P', hP, hn⟩ := hfr _ hpl
        obtain ⟨⟨o2, ho2, po2⟩, _⟩ := S.kept _ hP
        rw [ho'] at ho2; cases ho2
        obtain ⟨sl, hs⟩ := hsl p.1 o' (by simp [n1, n2]) ho' (hn o' po2)
        exact ⟨_, hs, hG p hp o' sl po'⟩
end

end
/-! W13 -/
section

noncomputable def freeOf (i : Nat) : VB → Prop
  | .loc (.c j) => j ≠ i
  | .loc (.d _) => True
  | .box j => j ≠ i
/-- an exception flies up to a frame; the tape i is gone, all else stands whatever the stations do -/
noncomputable def RaisedIn (K : Frag) (n : Nat) (env : Env) (outer : List Env) (b : PM) (kp : Kp) (fs : List Foot) (C : List Cell) (Γ : Gam) (i : Nat) (e : Addr) (cls : Value) (h' : Heap) : Prop :=
  ∃ base a0 b' fs', Heap.FlyingW base (env :: outer) e cls a0 h' ∧ Sub b b' ∧ Keep n fs fs' ∧ fs'.length = fs.length ∧ ∀ h6, base.StaysIn h6 → h'.UpToSlots h6 → St K b' kp fs' (C.set i .gone) h6 ∧ Frm b' kp fs' env Γ h6
section
variable {w : World} {n k : Nat} {C : List Cell} {P : Params} {env : Env} {Γ Γ' : Gam} {A : Around} {s : Shared} {b : PM} {kp : Kp} {fs : List Foot} {E : Value → Shared → Prop} {Q : Value → Shared → Prop} {outer : List Env}
theorem parse_in {x : Str} {np tp pos : Pos} {i : Nat} {y : Str} (hR : Room (k + 1) (okL kp env.locals) A) (hA : A.frames = some (env :: outer)) (hG : GoodKp kp) (S : St (KK P) b kp fs C s.heap) (F : Frm b kp fs env Γ s.heap)
    (h1 : EvalTo (KK P) w (k + 1) env Γ C (.Name x np) (.d (.v (.ref 57))) C) (h2 : EvalTo (KK P) w (k + 1) env Γ C (.Name y tp) (.c i) C) (hi : C[i]? = some (.itr [])) (hn : n ≤ i) (hno : ∀ j c, j ≠ i → C[j]? = some c → i ∉ c.refs)
    (hΓ : ∀ x r, Γ'.lookup x = some r → Γ.lookup x = some r ∧ freeOf i r)
    (hE : ∀ h' tk e, RaisedIn (KK P) n env outer b kp fs C Γ' i e (.type "StopIteration") h' → E (.ref e) { s with heap := h', toks := tk }) :
    wpAny (model prg w) A (eval (.Call (.Name x np) [.Name y tp] [] pos) env) Q E s := by
  refine call_raw (k := k + 1) h1 rfl (.c h2 .nil) hR S F fun b₂ fs₂ h₂ tk₂ vs sb kf S₂ F₂ r₂ => ?_
  have h_vs := RepAs.one r₂; clear r₂; obtain ⟨v, rfl, r⟩ := h_vs
  obtain ⟨o, ho, ⟨es, ep, hd⟩, Sk, Rk⟩ := own_kp (s := { s with heap := h₂, toks := tk₂ }) hR S₂ F₂
  have hGk : GoodKp ((env.locals, fun x : Obj => x.data = o.data) :: kp) := fun p hp o' sl hp' => by
    rcases List.mem_cons.mp hp with rfl | hp
    · exact hp'
    · exact hG p hp o' sl hp'
  refine parse_raise (s := { s with heap := h₂, toks := tk₂ }) Rk hA Sk hi r fun b₃ fs₃ h0 h' tk e it L sb₃ kf₃ S₃ hit hL1 hL2 hL3 hr => ?_
  obtain ⟨oi, hf⟩ := hit
  obtain ⟨⟨base, a0, hfly, hrest⟩, hsl⟩ := hr
  refine hE h' tk e ⟨base, a0, b₃, fs₃.set i [], hfly, sb.trans sb₃, ?_, ?_, fun h6 hst hup => ?_⟩
  · intro j f hj hfj
    obtain ⟨f', e', z⟩ := (kf.then kf₃) j f (List.getElem?_eq_some_iff.mp hfj).1 hfj
    exact ⟨f', by rw [List.getElem?_set_ne (by omega)]; exact e', z⟩
  · rw [List.length_set, S₃.len, ← S.len]
  · have hout : ∀ e ∈ env :: outer, ∃ L, e.frame = some L ∧ okK ((env.locals, fun x : Obj => x.data = o.data) :: kp) L := fun e he => by
      obtain ⟨l, el, hl⟩ := Rk.frames
      rw [hA] at el
      cases el
      exact (hl e he).2
    have S6 := S₃.landed (List.getElem?_eq_some_iff.mp hi).1 hf hno hGk hL1 hL2 hL3 hout hrest hst fun a o' ha ho' hn' => by
      obtain ⟨sl, e1⟩ := hsl a o' ha ho' hn'
      obtain ⟨sl2, e2⟩ := hup a _ e1 hn'
      exact ⟨sl2, e2⟩
    obtain ⟨⟨o', ho', hd'⟩, hb'⟩ := S6.kept (env.locals, fun x => x.data = o.data) List.mem_cons_self
    have S7 : St (KK P) b₃ kp (fs₃.set i []) (C.set i .gone) h6 := ⟨S6.base, S6.top, fun p hp => S6.kept p (List.mem_cons_of_mem _ hp), fun p hp => ⟨(S6.foot p hp).1, (S6.foot p hp).2.1, fun q hq => (S6.foot p hp).2.2 q (List.mem_cons_of_mem _ hq)⟩, S6.nodup, S6.cells⟩
    refine ⟨S7, ?_⟩
    obtain ⟨m, hn2, hm⟩ := F₂.ns
    obtain ⟨o2, es2, ep2, ho2, hd2, hs2, hf2⟩ := id hn2
    have : o2 = o := by rw [show h₂.get? env.locals = some o from ho] at ho2; cases ho2; rfl
    subst this
    refine ⟨F₂.fn, F₂.gl, F₂.bu, ⟨hb', F₂.off.2.1, fun p hp => Ne.symm ((S6.foot p hp).2.2 _ List.mem_cons_self)⟩, m, ⟨o', es2, ep2, ho', (show o'.data = o2.data from hd').trans hd2, hs2, hf2⟩, fun z r hz => ?_⟩
    obtain ⟨hz1, hz2⟩ := hΓ z r hz
    have v1 := (hm z r hz1).mono sb₃ kf₃
    cases r with
    | loc r =>
      obtain ⟨q1, v', q2, q3⟩ := v1
      refine ⟨q1, v', q2, ?_⟩
      cases r with
      | d x => exact q3
      | c j =>
        obtain ⟨f, a, x1, x2, x3⟩ := q3
        exact ⟨f, a, by rw [List.getElem?_set_ne (Ne.symm hz2)]; exact x1, x2, x3⟩
    | box j =>
      obtain ⟨q1, c, f, q2, q3, q4⟩ := v1
      exact ⟨q1, c, f, q2, by rw [List.getElem?_set_ne (Ne.symm hz2)]; exact q3, q4⟩
end

end
/-! W14 -/
section

/-- as ExecT; the objects beside bear a change of their slots -/
noncomputable def ExecS (K : Frag) (w : World) (n k : Nat) (env : Env) (Γ : Gam) (C : List Cell) (T : Sem Flow) (o : Out) (C' : List Cell) : Prop :=
  ∀ (A : Around) (s : Shared) (b : PM) (kp : Kp) (fs : List Foot) (Q : Flow → Shared → Prop) (E : Value → Shared → Prop),
    GoodKp kp → (∃ outer, A.frames = some (env :: outer)) → Room k (okL kp env.locals) A → St K b kp fs C s.heap → Frm b kp fs env Γ s.heap → n ≤ fs.length →
    (∀ b' fs' h' tk f, Sub b b' → Keep n fs fs' → n ≤ fs'.length → St K b' kp fs' C' h' → OutOk b' kp fs' env h' o f → Q f { s with heap := h', toks := tk }) →
    wpAny (model prg w) A T Q E s
theorem isExc_Stop : isSubtype (.type "StopIteration") (.type "BaseException") = pure true := by rw [isSubtype_type]; kernel_rfl
theorem notTuple_Stop : isSubtype (.type ((Manifest.find? "StopIteration").elim "type" fun x => x.metatype)) (.type "tuple") = pure false := by
  rw [show ((Manifest.find? "StopIteration").elim "type" fun x => x.metatype) = "type" from by kernel_rfl, isSubtype_type]; kernel_rfl
theorem octsN_cons (c : Nat) (cs : List Nat) : octsN (c :: cs) = octN c ++ octsN cs := rfl
noncomputable abbrev dNats (cs : List Nat) : List D := cs.map fun c : Nat => D.int (c : Nat)
theorem norefs_n {C D : List Cell} (hD : ∀ c ∈ D, c.refs = []) (hC : ∀ c ∈ C, ∀ j ∈ c.refs, j < C.length) {i : Nat} (hi : C.length ≤ i) : ∀ (j : Nat) (x : Cell), (C ++ D)[j]? = some x → i ∉ x.refs := fun j x hx hm => by
  rcases List.mem_append.mp (List.mem_of_getElem? hx) with h | h
  · have := hC x h _ hm
    omega
  · rw [hD x h] at hm; cases hm
section
variable {K : Frag} {w : World} {n k : Nat} {C C' C₁ C₂ : List Cell} {P : Params} {env : Env} {Γ Γ₁ Γ' : Gam}
theorem ExecT.toS {T : Sem Flow} {o : Out} (h : ExecT K w n k env Γ C T o C') : ExecS K w n k env Γ C T o C' := fun A s b kp fs Q E _ _ => h A s b kp fs Q E
theorem exsS_cons {st : Stmt} {rest : List Stmt} {o : Out} (h1 : ExecT K w n k env Γ C (exec st env) (.nxt Γ₁) C₁) (h2 : ExecS K w n k env Γ₁ C₁ (execs rest env) o C₂) : ExecS K w n k env Γ C (execs (st :: rest) env) o C₂ := by
  intro A s b kp fs Q E hG hA hR S F hn q
  refine wpAny_execs_cons (h1 A s b kp fs _ E hR S F hn fun b₁ fs₁ hp₁ tk₁ f sb₁ kf₁ hn₁ S₁ ho => ?_)
  obtain ⟨rfl, F₁⟩ := ho
  exact h2 A _ b₁ kp fs₁ Q E hG hA hR S₁ F₁ hn₁ fun b₂ fs₂ hp₂ tk₂ f sb₂ kf₂ hn₂ S₂ ho => q b₂ fs₂ hp₂ tk₂ f (sb₁.trans sb₂) (kf₁.trans kf₂) hn₂ S₂ ho
theorem exsS_ret {st : Stmt} {rest : List Stmt} {r : AV} (h1 : ExecS K w n k env Γ C (exec st env) (.ret r) C₁) : ExecS K w n k env Γ C (execs (st :: rest) env) (.ret r) C₁ := by
  intro A s b kp fs Q E hG hA hR S F hn q
  refine wpAny_execs_cons (h1 A s b kp fs _ E hG hA hR S F hn fun b₁ fs₁ hp₁ tk₁ f sb₁ kf₁ hn₁ S₁ ho => ?_)
  obtain ⟨v, rfl, rv⟩ := ho
  exact q b₁ fs₁ hp₁ tk₁ _ sb₁ kf₁ hn₁ S₁ ⟨v, rfl, rv⟩
/-- the state ahead of a turn of the reading loop -/
inductive ReadInv (P : Params) (cs : List Nat) (C : List Cell) (env : Env) (b : PM) (kp : Kp) (fs : List Foot) (s : Shared) (m : Nat) (s' : Shared) : Prop
  | mk (don rest : List Nat) (bi : PM) (fsi : List Foot) (h : Heap) (tk : Tok) (e1 : s' = { s with heap := h, toks := tk }) (e2 : cs = don ++ rest) (e3 : m = rest.length) (e4 : Sub b bi) (e5 : Keep C.length fs fsi) (e6 : C.length ≤ fsi.length)
    (e7 : St (KK P) bi kp fsi (C ++ [.gone, .itr (dInts (octsN rest)), .lst (dNats don)]) h) (e8 : Frm bi kp fsi env [(Str.ofString "signs", .loc (.c (C.length + 2))), (Str.ofString "tape", .loc (.c (C.length + 1)))] h)
theorem try_read {cs : List Nat} (hcs : ∀ c ∈ cs, c < 1114112) (hl : cs.length ≤ 1000) (he : env.scope = stScope (topAt 20)) (hfr : env.frame = some env.locals) (hC : ∀ c ∈ C, ∀ j ∈ c.refs, j < C.length) :
    ExecS (KK P) w C.length (k + 1) env [(Str.ofString "signs", .loc (.c (C.length + 2))), (Str.ofString "tape", .loc (.c (C.length + 1)))] (C ++ [.gone, .itr (dInts (octsN cs)), .lst []]) (exec (nth (stBody (topAt 20)) 4) env) (.ret (.c (C.length + 2))) (C ++ [.gone, .gone, .lst (dNats cs)]) := by
  intro A s b kp fs Q E hG ⟨outer, hA⟩ hR S F hn q
  refine wpAny_Try_except ?_
  refine wpAny_execs_cons (wpAny_While (codeAny_whileLoop
    (ReadInv P cs C env b kp fs s) ?_ cs.length
    ⟨[], cs, b, fs, s.heap, s.toks, rfl, rfl, rfl, Sub.refl, Keep.refl, hn, S, F⟩))
  rintro m s' ⟨don, rest, bi, fsi, h₁, tk₁, rfl, ecs, rfl, sbi, kfi, hni, Si, Fi⟩
  refine (tst_val ev_bool truth_bool (by rfl)) A _ bi kp fsi _ _ hR Si Fi fun b₂ fs₂ h₂ tk₂ v sb₂ kf₂ S₂ F₂ r₂ => ?_
  subst r₂
  simp only [if_true]
  have hdl : don.length ≤ 1000 := by have := congrArg List.length ecs; simp at this; omega
  cases rest with
  | cons c rest =>
    have hc := hcs c (by rw [ecs]; simp)
    have hm : markN c = 0 ∨ markN c = 128 := by unfold markN; split <;> simp
    have X : ExecT (KK P) w C.length (k + 1) env [(Str.ofString "signs", .loc (.c (C.length + 2))), (Str.ofString "tape", .loc (.c (C.length + 1)))] (C ++ [.gone, .itr (dInts (octsN (c :: rest))), .lst (dNats don)]) (execs (match nth (match nth (stBody (topAt 20)) 4 with | .Try b _ _ _ _ => b | _ => []) 0 with | .While _ b _ _ => b | _ => []) env) (.nxt [(Str.ofString "signs", .loc (.c (C.length + 2))), (Str.ofString "tape", .loc (.c (C.length + 1)))]) (C ++ [.gone, .itr (dInts (octsN rest)), .lst (dNats (don ++ [c]))]) := by
      refine exs_cons (ExecT.cells (ex_expr (ev_meth (ev_n (by walk_at "lk") (by decide +kernel)) (mg_list (.c (ds := dNats don) (by simp)) PySem.F.slot_list_append PySem.F.type_list_append) rfl (.c (EvalTo.eq (r' := .d (.int (c : Nat))) (ev_call (ev_g he (by decide +kernel) (by walk_at "gl") (by decide +kernel)) rfl (.c (ev_n (by walk_at "lk") (by decide +kernel)) .nil) (parse_op (m := markN c) (l := c % 64) (gs := groupsN c) (rest := dInts (octsN rest)) hm (by omega) (groups_lt c) (by rw [val_oct]; omega) (by rw [octsN_cons]; simp [octN]))) (by rw [val_oct])) .nil) (o_append (ds := dNats don) (by simp) (by simp [sizeLine]; omega)) rfl) (inter_fn he (by decide +kernel)) (by kernel_rfl)) ?_) exs_nil
      simp [dNats]
    refine X A _ b₂ kp fs₂ _ _ hR S₂ F₂ (Nat.le_trans hni kf₂.len) fun b₃ fs₃ h₃ tk₃ f sb₃ kf₃ hn₃ S₃ ho => ?_
    obtain ⟨rfl, F₃⟩ := ho
    exact ⟨_, Nat.lt_succ_self _, don ++ [c], rest, b₃, fs₃, h₃, tk₃, rfl, by rw [ecs]; simp, rfl, sbi.trans (sb₂.trans sb₃), (kfi.trans (kf₂.le hni)).trans kf₃, hn₃, S₃, F₃⟩
  | nil =>
    have ecs' : don = cs := by rw [ecs]; simp
    subst ecs'
    refine wpAny_execs_cons (wpAny_Expr (wpAny_passesOwn PassesOwn.looking ?_) (inter_fn he (by decide +kernel)) (by kernel_rfl))
    refine meth_raise (k := k + 1) (C := C ++ [.gone, .itr (dInts (octsN [])), .lst (dNats don)]) (Γ := [(Str.ofString "signs", .loc (.c (C.length + 2))), (Str.ofString "tape", .loc (.c (C.length + 1)))]) (ev_n (by walk_at "lk") (by decide +kernel)) (mg_list (.c (ds := dNats don) (by simp)) PySem.F.slot_list_append PySem.F.type_list_append) rfl rfl rfl hR S₂ F₂ fun b₃ fs₃ h₃ tk₃ sb₃ kf₃ S₃ F₃ => ?_
    refine parse_in (s := { s with heap := h₃, toks := tk₃ }) (n := C.length) (k := k) (i := C.length + 1) (Γ := [(Str.ofString "signs", .loc (.c (C.length + 2))), (Str.ofString "tape", .loc (.c (C.length + 1)))]) (Γ' := [(Str.ofString "signs", .loc (.c (C.length + 2)))]) hR hA hG S₃ F₃ (ev_g he (by decide +kernel) (by walk_at "gl") (by decide +kernel)) (ev_n (by walk_at "lk") (by decide +kernel)) (by simp [octsN]) (by omega) (fun j x _ hx => norefs_n (by simp [Cell.refs]) hC (by omega) j x hx) (fun x r hx => ?_) fun h' tk e hra => ?_
    · rw [List.lookup_cons] at hx
      split at hx
      · rename_i hq
        cases hx
        have hq' := beq_iff_eq.mp hq
        subst hq'
        exact ⟨lk_here, by show C.length + 2 ≠ C.length + 1; omega⟩
      · cases hx
    · obtain ⟨base, a0, b₄, fs₄, hfly, sb₄, kf₄, hl₄, hst⟩ := hra
      refine wpAny_looks_onW hA hfr hfly fun h1 hheld hup1 => ?_
      refine wpAny_landsW hheld fun h2 hfly2 hup2 => ?_
      have up2 := hup1.trans hup2
      obtain ⟨S₅, F₅⟩ := hst h2 hfly2.1 up2
      refine wpAny_handleBy_builtin (X := "StopIteration") (T := "StopIteration") isExc_Stop notTuple_Stop isSubtype_stop ?_
      refine Calls.Name_function_global F₅.fn (kd he (by decide +kernel)) (loadGlobal_in S₅.top_in F₅.gl F₅.bu g_StopIteration ⟨rfl, hfly2.there, ?_⟩)
      simp only [if_true]
      refine lands_againW hfly2 fun h3 hfly3 hup3 => ?_
      obtain ⟨S₆, F₆⟩ := hst h3 hfly3.1 (up2.trans hup3)
      obtain ⟨mm, hns, hm⟩ := F₆.ns
      obtain ⟨hlo, v, ev, rv⟩ := hm (Str.ofString "signs") _ lk_here
      refine wpAny_execs_cons (wpAny_Return_some (wpAny_Name (wpAny_loadName_local F₆.fn hlo hns ev ?_) (by decide +kernel)))
      refine q b₄ fs₄ h3 _ _ (sbi.trans (sb₂.trans (sb₃.trans sb₄))) ?_ ?_ ?_ ⟨v, rfl, rv⟩
      · exact (kfi.trans (kf₂.le hni)).trans ((kf₃.le (Nat.le_trans hni kf₂.len)).trans kf₄)
      · rw [hl₄]; exact Nat.le_trans hni (kf₂.then kf₃).len
      · have := S₆; simpa using this
end

end
/-! W15 -/
section

/-- as Op; the objects beside bear a change of their slots -/
noncomputable def OpS (K : Frag) (w : World) (k : Nat) (C : List Cell) (T : List Value → Sem Value) (args : List AV) (r : AV) (C' : List Cell) : Prop :=
  ∀ (A : Around) (s : Shared) (b : PM) (kp : Kp) (fs : List Foot) (vs : List Value) (Q : Value → Shared → Prop) (E : Value → Shared → Prop),
    GoodKp kp → Room k (okK kp) A → St K b kp fs C s.heap → RepAs b fs vs args →
    (∀ b' fs' h' tk v, Sub b b' → Keep fs.length fs fs' → St K b' kp fs' C' h' → RepA b' fs' v r → Q v { s with heap := h', toks := tk }) →
    wpAny (model prg w) A (T vs) Q E s
section
variable {K : Frag} {w : World} {n k : Nat} {C C' C₁ C₂ : List Cell} {P : Params} {env : Env} {Γ Γ₁ Γ' : Gam}
theorem ExecS.freeze {T : Sem Flow} {i : Nat} {ds : List D} {o : Out} (h : ExecS K w n k env (frzG i (.list ds) Γ) (C.set i .gone) T o C') (hi : C[i]? = some (.lst ds)) (hin : n ≤ i) (hno : ∀ j c, j ≠ i → C[j]? = some c → i ∉ c.refs) (hb : ∀ x, Γ.lookup x ≠ some (.box i)) :
    ExecS K w n k env Γ C T o C' := by
  intro A s b kp fs Q E hG hA hR S F hn q
  have hil := (List.getElem?_eq_some_iff.mp hi).1
  obtain ⟨f, hf⟩ : ∃ f, fs[i]? = some f := ⟨fs[i]'(by rw [S.len]; exact hil), by simp [S.len, hil]⟩
  obtain ⟨a, vs, m, rfl, rv⟩ := S.cells.2 i _ f hi hf
  obtain ⟨b', sb, hin', hnone, S'⟩ := S.freeze hf hil fun j c g hj hc hg => (S.cells.2 j c g hc hg).refs fun j' g' hj' hg' => set_ne hg' fun z => hno j c hj hc (z ▸ hj')
  have hL : b' env.locals = none := hnone _ F.off.1 fun p hp z => F.off.2.2 p (List.mem_flatten.mpr ⟨_, List.mem_of_getElem? hf, hp⟩) z
  have F' := F.frz (a := a) sb hf rfl hb hL (.list (hin' _ List.mem_cons_self) (rv.mono sb))
  refine h A s b' kp _ Q E hG hA hR S' F' (by simpa using hn) fun b₂ fs₂ h₂ tk₂ f₂ sb₂ kf₂ hn₂ S₂ ho => q b₂ fs₂ h₂ tk₂ f₂ (sb.trans sb₂) (fun j g hj hg => ?_) hn₂ S₂ ho
  exact kf₂ j g hj (by rw [List.getElem?_set_ne (Nat.ne_of_gt (Nat.lt_of_lt_of_le hj hin))]; exact hg)
/-- a list that is handed back is turned no more -/
theorem ExecS.retfrz {T : Sem Flow} {i : Nat} {ds : List D} (h : ExecS K w n k env Γ C T (.ret (.c i)) C') (hi : C'[i]? = some (.lst ds)) (hin : n ≤ i) (hno : ∀ j c, j ≠ i → C'[j]? = some c → i ∉ c.refs) :
    ExecS K w n k env Γ C T (.ret (.d (.list ds))) (C'.set i .gone) := by
  intro A s b kp fs Q E hG hA hR S F hn q
  refine h A s b kp fs Q E hG hA hR S F hn fun b₁ fs₁ h₁ tk₁ f₁ sb₁ kf₁ hn₁ S₁ ho => ?_
  have hil := (List.getElem?_eq_some_iff.mp hi).1
  obtain ⟨v, rfl, f, a, hf, ha, rfl⟩ := ho
  obtain ⟨a', vs, m, rfl, rv⟩ := S₁.cells.2 i _ f hi hf
  simp [headA] at ha; subst ha
  obtain ⟨b', sb, hin', hnone, S'⟩ := S₁.freeze hf hil fun j c g hj hc hg => (S₁.cells.2 j c g hc hg).refs fun j' g' hj' hg' => set_ne hg' fun z => hno j c hj hc (z ▸ hj')
  refine q b' _ h₁ tk₁ _ (sb₁.trans sb) (fun j g hj hg => ?_) (by simpa using hn₁) S' ⟨_, rfl, .list (hin' _ List.mem_cons_self) (rv.mono sb)⟩
  obtain ⟨f', e', z⟩ := kf₁ j g hj hg
  exact ⟨f', by rw [List.getElem?_set_ne (by omega)]; exact e', z⟩
theorem ExecS.weak {T : Sem Flow} {o : Out} (h : ExecS K w n k env Γ' C T o C') (hw : ∀ x r, Γ'.lookup x = some r → Γ.lookup x = some r) : ExecS K w n k env Γ C T o C' :=
  fun A s b kp fs Q E hG hA hR S F hn q => h A s b kp fs Q E hG hA hR S (F.weak hw) hn q
theorem read_x {cs : List Nat} (hcs : ∀ c ∈ cs, c < 1114112) (hl : cs.length ≤ 1000) (he : env.scope = stScope (topAt 20)) (hfr : env.frame = some env.locals) (hC : ∀ c ∈ C, ∀ j ∈ c.refs, j < C.length) :
    ExecS (KK P) w C.length (k + 1) env [(Str.ofString "codes", .loc (.d (.list (dNats cs))))] C (execs (stBody (topAt 20)) env) (.ret (.d (.list (dNats cs)))) (C ++ [.gone, .gone, .gone]) := by
  have L := loop_idx (K := KK P) (w := w) (n := C.length) (k := k + 1) (env := env) (target := forTgt (nth (stBody (topAt 20)) 1)) (body := forBody (nth (stBody (topAt 20)) 1)) (f := fun j : Nat => Item.one (.int (cs.getD j 0 : Nat)))
    (Γs := fun _ => [(Str.ofString "octets", .loc (.c C.length)), (Str.ofString "codes", .loc (.d (.list (dNats cs))))]) (Cs := fun j => C ++ [.lst (dInts (octsN (cs.take j)))]) (N := cs.length)
    fun j hj => ⟨_, _, as_name (kd he (by decide +kernel)), by
      have hl2 := octs_len (cs.take j) fun c hc => hcs c (List.mem_of_mem_take hc)
      simp at hl2
      rw [octs_take cs j hj]
      exact oct_body (hcs _ (by rw [List.getD_eq_getElem?_getD, List.getElem?_eq_getElem hj]; exact List.getElem_mem hj)) (by omega) hC he⟩
  refine exsS_cons (ex_assign (ev_listc .nil) (kd he (by decide +kernel)) (by kernel_rfl)) ?_
  refine exsS_cons (ex_for (src_list (ev_n (by walk_at "lk") (by decide +kernel)) .name) (by rw [oneItems_map (fun c : Nat => D.int (c : Nat)) 0]; exact L)) ?_
  rw [List.take_length]
  refine ExecS.freeze (i := C.length) (ds := dInts (octsN cs)) ?_ (by simp) (Nat.le_refl _) (fun a c _ h => norefs_n (by simp [Cell.refs]) hC (Nat.le_refl _) a c h) (nb_c (nb_c nb_nil))
  have es : (C ++ [Cell.lst (dInts (octsN cs))]).set C.length .gone = C ++ [.gone] := by simp
  rw [es]
  simp only [frzG, frzVB, List.map_cons, List.map_nil, if_true]
  refine exsS_cons (ex_assign (ev_call (ev_g he (by decide +kernel) (by walk_at "gl") (by decide +kernel)) rfl (.c (ev_n (by walk_at "lk") (by decide +kernel)) .nil) o_iter) (kd he (by decide +kernel)) (by kernel_rfl)) ?_
  refine exsS_cons (ex_assign (ev_listc .nil) (kd he (by decide +kernel)) (by kernel_rfl)) ?_
  have X := exsS_ret (rest := []) (try_read (w := w) (k := k) (P := P) hcs hl he hfr hC)
  have X' := X.retfrz (i := C.length + 2) (ds := dNats cs) (by simp) (by omega) fun a c _ h => norefs_n (by simp [Cell.refs]) hC (by omega) a c h
  have e2 : (C ++ [Cell.gone, .gone, .lst (dNats cs)]).set (C.length + 2) .gone = C ++ [.gone, .gone, .gone] := by simp
  rw [e2] at X'
  have e3 : C ++ [Cell.gone] ++ [.itr (dInts (octsN cs))] ++ [.lst []] = C ++ [.gone, .itr (dInts (octsN cs)), .lst []] := by simp
  have e4 : (C ++ [Cell.gone] ++ [Cell.itr (dInts (octsN cs))]).length = C.length + 2 := by simp
  have e5 : (C ++ [Cell.gone]).length = C.length + 1 := by simp
  rw [e3, e4, e5]
  exact X'.weak (GSub.c (by walk_at "lk") (GSub.c (by walk_at "lk") GSub.nil))
theorem call_fnS {a : Addr} {fd : FuncData} {body : List Stmt} {ps : List Str} {kw : List (Str × Value)} {args pargs : List AV} {r : AV} (ext : List Value → List Value)
    (D : DefAt K a fd body) (hlim : Lim K)
    (hbind : ∀ (s : Shared) (vs : List Value), K.In s.heap → vs.length = args.length → BindsTo s fd ⟨vs, kw⟩ (ps.zip (ext vs)))
    (hext : ∀ b fs vs, RepAs b fs vs args → RepAs b fs (ext vs) pargs)
    (hloc : ∀ p ∈ ps, fd.scope.names.lookup p = some .local) (hnd : ps.Nodup) (hcell : ∀ x ∈ fd.scope.names, x.2 ≠ .cell)
    (hlen : C'.length = C.length) (hC : (∀ c ∈ C, ∀ j ∈ c.refs, j < C.length) → ∀ c ∈ C', ∀ j ∈ c.refs, j < C.length) (hr : r.closed C.length)
    (h : ∀ L, ExecS K w C.length k (envOf fd.qualname fd.scope L a fd.code) (gamOf ps pargs) C (execs body (envOf fd.qualname fd.scope L a fd.code)) (.ret r) (C' ++ C₁)) :
    OpS K w (k + 1) C (fun vs => call (.ref a) vs kw) args r C' := by
  intro A s b kp fs vs Q E hG hR S hv q
  obtain ⟨oc, od, osl, ho⟩ := D.at_
  obtain ⟨lo, les, lep, l1, l2, l3, l4⟩ := hlim.ex
  have hdep := hR.depth
  have huni := hR.units
  refine wpAny_call (codeAny_call_function (fd := fd) (body := body) (by omega) (S.top_in _ _ ho) rfl D.co D.gen D.body (codeRec_of S.top_in D.code) ?_)
  refine (hbind s vs S.top_in hv.length) _ _ _ _ ?_
  rw [D.cl, D.gl, D.bu]
  have hL : s.heap.get? s.heap.objs.size = none := Heap.get?_none_of_le (Nat.le_refl _)
  refine wpAny_newFunctionEnv hcell (fun x hx => hloc _ (List.of_mem_zip hx).1) (fun h' hn hs => ?_) D.kind
  have hk : ∀ c o, s.heap.get? c = some o → h'.get? c = some o := fun c o e => hs.extBut c o (Nat.ne_of_lt (Heap.lt_size e)) (Heap.get?_push_of_some _ e)
  have S' : St K b kp fs C h' := S.keeps hk
  refine ⟨S'.nolimit l1 l2 l3 l4, ?_⟩
  show codeAny _ _ (.func body (envOf fd.qualname fd.scope s.heap.objs.size a fd.code)) _ _
  refine codeAny_func ?_
  have F' : Frm b kp fs (envOf fd.qualname fd.scope s.heap.objs.size a fd.code) (gamOf ps pargs) h' :=
    ⟨D.kind, rfl, rfl, S.fresh hL, _, hn, lookup_gam ps (ext vs) pargs hnd (hext _ _ _ hv) hloc⟩
  have hR' : Room k (okL kp s.heap.objs.size) (A.deeper (envOf fd.qualname fd.scope s.heap.objs.size a fd.code)) := by
    refine ⟨by show A.depth + 1 + k < _; omega, by show A.units + 3 + 8 * k < _; omega, hR.handled, ?_⟩
    obtain ⟨outer, e, hx⟩ := hR.frames
    refine ⟨envOf fd.qualname fd.scope s.heap.objs.size a fd.code :: outer, by show A.frames.map _ = _; rw [e]; rfl, fun x hxm => ?_⟩
    rcases List.mem_cons.mp hxm with rfl | hxm
    · exact ⟨by show fd.scope.kind ≠ .module; rw [D.kind]; decide, _, rfl, .inl rfl⟩
    · obtain ⟨a1, L, a2, a3⟩ := hx x hxm
      exact ⟨a1, L, a2, .inr a3⟩
  refine h _ _ _ b kp fs _ _ hG (by obtain ⟨outer, e, _⟩ := hR.frames; exact ⟨outer, by show A.frames.map _ = _; rw [e]; rfl⟩) hR' S' F' (by rw [S.len]; exact Nat.le_refl _) fun b' fs' h'' tk f sb kf hn' S'' hf => ?_
  obtain ⟨v, rfl, rv⟩ := hf
  have hlen2 : fs'.length = C'.length + C₁.length := by rw [S''.len, List.length_append]
  have hlt : (C' ++ C₁).take C.length = C' := by rw [← hlen, List.take_left]
  have S₃ := S''.drop C.length fun i c hi hc g hg => (S''.cells.2 i c g hc hg).take fun j hj => by
    refine hC S.closed c ?_ j hj
    rw [List.getElem?_append_left (by omega)] at hc
    exact List.mem_of_getElem? hc
  rw [hlt] at S₃
  refine q b' (fs'.take C.length) h'' tk v sb (fun i g hi hg => ?_) S₃ (rv.take hr)
  obtain ⟨g', e', z⟩ := kf i g (by rw [← S.len]; exact hi) hg
  exact ⟨g', by rw [List.getElem?_take, if_pos (by rw [← S.len]; exact hi)]; exact e', z⟩
theorem fn1S {a : Addr} {fd : FuncData} {body : List Stmt} {p : Str} {x r : AV} (D : DefAt (KK P) a fd body) (hb : ∀ v, bindArgs fd ⟨[v], []⟩ = pure [(p, v)]) (hp : (fd.scope.names.lookup p == some .local) = true) (hc : (fd.scope.names.all fun x => x.2 != .cell) = true) (hr : r.closed C.length)
    (h : ∀ L, ExecS (KK P) w C.length k (envOf fd.qualname fd.scope L a fd.code) [(p, .loc x)] C (execs body (envOf fd.qualname fd.scope L a fd.code)) (.ret r) (C ++ C₁)) : OpS (KK P) w (k + 1) C (fun vs => call (.ref a) vs []) [x] r C :=
  call_fnS (ps := [p]) (pargs := [x]) id D (KK_lim P) (fun s vs X hl => by obtain ⟨v, rfl⟩ := len1 hl; exact BindsTo.of_eq (hb v)) (fun _ _ _ h => h) (fun q hq => by simp at hq; subst hq; simpa using hp) (by simp) (fun y hy => by have := List.all_eq_true.mp hc y hy; simpa using this) rfl (fun h => h) hr h
theorem read_op {cs : List Nat} (hcs : ∀ c ∈ cs, c < 1114112) (hl : cs.length ≤ 1000) : OpS (KK P) w (k + 2) C (fun vs => call (.ref 234) vs []) [.d (.list (dNats cs))] (.d (.list (dNats cs))) C := by
  intro A s b kp fs vs Q E hG hR S
  exact fn1S (C₁ := [.gone, .gone, .gone]) (p := Str.ofString "codes") def_234 (fun v => by kernel_rfl) (by kernel_rfl) (by kernel_rfl) (by trivial) (fun L => read_x hcs hl rfl rfl S.closed) A s b kp fs vs Q E hG hR S
end

end
/-! H1 -/
section

/-- r is an object of class Headers whose list is rl -/
inductive HdrV (C : List Cell) : AV → AV → Prop
  | d {ds : List D} : HdrV C (.d (.hdr ds)) (.d (.list ds))
  | c {i j : Nat} : C[i]? = some (.inst (some j)) → HdrV C (.c i) (.c j)
section
variable {K : Frag} {w : World} {n k : Nat} {C C' C₁ C₂ : List Cell} {P : Params} {env : Env} {Γ Γ₁ Γ' : Gam} {b : PM} {kp : Kp} {fs : List Foot} {h : Heap} {r rl : AV} {v : Value}
theorem HdrV.at (V : HdrV C r rl) (S : St K b kp fs C h) (rv : RepA b fs v r) : ∃ x dx hh t l kk, v = .ref x ∧ h.get? x = some (instObj hdrC dx) ∧ h.get? dx = some (dictOf (hdrEs hh t l) kk) ∧ RepA b fs (.ref l) rl := by
  cases V with
  | d =>
    cases rv with
    | hdr e1 e2 e3 rr => exact ⟨_, _, _, _, _, _, rfl, S.base _ _ e1, S.base _ _ e2, .list e3 rr⟩
  | c hi =>
    rename_i i j
    obtain ⟨f, a, hf, hh, rfl⟩ := rv
    obtain ⟨x, dx, l, hh', t, kk, g, rfl, hg, hgl⟩ := S.cells.2 i _ f hi hf
    simp [headA] at hh; subst hh
    have m : ∀ p ∈ [(x, instObj hdrC dx), (dx, dictOf (hdrEs hh' t l) kk)], h.get? p.1 = some p.2 := fun p hp => (S.foot p (List.mem_flatten.mpr ⟨_, List.mem_of_getElem? hf, hp⟩)).1
    exact ⟨x, dx, hh', t, l, kk, rfl, m _ List.mem_cons_self, m _ (List.mem_cons_of_mem _ List.mem_cons_self), g, l, hg, hgl, rfl⟩
theorem instAt_of {x dx : Addr} {o : Obj} (h1 : h.get? x = some (instObj hdrC dx)) (h2 : h.get? dx = some o) : InstAt h x (instObj hdrC dx) hdrC (some o) := ⟨h1, rfl, rfl, h2⟩
theorem gl_hdr {hh : Int} {t : Tok} {l : Addr} {name : Str} (hn : (Str.ofString "_headers" == name) = false) : getL name (hdrEs hh t l) = some none := by
  have e : (Value.str (Str.ofString "_headers") t).isStr name = false := hn
  simp [getL, hdrEs, e, DictEntry.refKey]
theorem gl_own {hh : Int} {t : Tok} {l : Addr} : getL (Str.ofString "_headers") (hdrEs hh t l) = some (some (.ref l)) := by
  have e : (Value.str (Str.ofString "_headers") t).isStr (Str.ofString "_headers") = true := by show (Str.ofString "_headers" == Str.ofString "_headers") = true; exact beq_self_eq_true _
  simp [getL, hdrEs, e]
theorem hga_H : findIn (KK P) (.ref hdrC) "__getattribute__" = some (some (.builtin "object.__getattribute__")) := by rfl
theorem hgk_H : findIn (KK P) (.ref hdrC) "__getattr__" = some none := by rfl
theorem mg_hdr {f : Addr} {name : Str} (V : HdrV C r rl) (hf : findIn (KK P) (.ref hdrC) name = some (some (.ref f))) (ht : typeIn (KK P) (.ref f) = some (.type "function")) (hn : (Str.ofString "_headers" == name) = false) : MethG (KK P) w k C name r (.ref f) := by
  intro pl A s b kp fs vs Q E hR S hv q
  have h_vs := RepAs.one hv; clear hv; obtain ⟨va, rfl, ha⟩ := h_vs
  obtain ⟨x, dx, hh, t, l, kk, rfl, h1, h2, _⟩ := V.at S ha
  exact method_fn S.top_in (instAt_of h1 h2) hga_H hgk_H hf ht (by show (lookIn name (dictOf _ _)).map _ = _; rw [lookIn_dict, gl_hdr hn]; rfl) (q b fs s.heap s.toks _ Sub.refl Keep.refl S ⟨rfl, ha, trivial⟩)
theorem ev_headers {x : Str} {np pos : Pos} (h1 : EvalTo (KK P) w k env Γ C (.Name x np) r C) (V : HdrV C r rl) : EvalTo (KK P) w k env Γ C (.Attribute (.Name x np) (Str.ofString "_headers") pos) rl C := by
  intro A s b kp fs Q E hR S F q
  refine Attribute_name (h1 A s b kp fs _ E hR S F fun b₁ fs₁ h₁ tk₁ v sb₁ kf₁ S₁ F₁ r₁ => ?_)
  obtain ⟨x, dx, hh, t, l, kk, rfl, e1, e2, rl⟩ := V.at S₁ r₁
  exact get_value (s := { s with heap := h₁, toks := tk₁ }) S₁.top_in (instAt_of e1 e2) hga_H (findObj_own (by rfl) (show findIn (KK P) (.ref hdrC) (Str.ofString "_headers") = some none from by rfl) (by rfl) gl_own) rfl (q b₁ fs₁ h₁ _ _ sb₁ kf₁ S₁ F₁ rl)
theorem plainOver_H : plainOver (KK P) hdrC = true := by rfl
theorem taker_H : takerIn (KK P) hdrC (Str.ofString "_headers") = some none := by rfl
theorem put_H {hh : Int} {t : Tok} {l : Addr} : Obj.putName (Str.ofString "_headers") hh (.str (Str.ofString "_headers") t) (.ref l) (dictOf [] 0) = dictOf (hdrEs hh t l) 1 := by rfl
theorem o_sethdr {i j : Nat} {ds : List D} (hi : C[i]? = some (.inst none)) (hj : C[j]? = some (.lst ds)) : OpG (KK P) w k C (fun vs => setAttr (v0 vs) (Str.ofString "_headers") (v0 vs.tail)) [.c i, .c j] (fun _ _ _ => True) (C.set i (.inst (some j))) := by
  intro A s b kp fs vs Q E hR S hv q
  have h_vs := RepAs.two hv; clear hv; obtain ⟨va, vb, rfl, ha, hb⟩ := h_vs
  obtain ⟨f, a, hf, hh, rfl⟩ := ha
  obtain ⟨xa, dx, rfl⟩ := S.cells.2 i _ f hi hf
  simp [headA] at hh; subst hh
  obtain ⟨g, l, hg, hgl, rfl⟩ := hb
  have m : ∀ p ∈ [(xa, instObj hdrC dx), (dx, dictOf [] 0)], s.heap.get? p.1 = some p.2 := fun p hp => (S.foot p (List.mem_flatten.mpr ⟨_, List.mem_of_getElem? hf, hp⟩)).1
  have hX := m _ List.mem_cons_self
  have hD := m _ (List.mem_cons_of_mem _ List.mem_cons_self)
  have hne : xa ≠ dx := fun z => by
    obtain ⟨l1, r1, e1, _⟩ := flatten_set fs i _ [] hf
    have nd := S.nodup
    rw [e1] at nd
    simp only [List.map_append, List.map_cons, List.map_nil] at nd
    have := (List.nodup_append.mp (List.nodup_append.mp nd).1).2.1
    simp [z] at this
  have hcls : clsIn (KK P) hdrC = some _ := rfl
  obtain ⟨h₂, gg, dd, tk₂, os⟩ := s
  show wpAny _ _ (setAttr (.ref xa) (Str.ofString "_headers") (.ref l)) _ _ _
  dsimp only at S hX hD m q
  refine set_plain S.top_in (instAt_of hX hD) (show findIn (KK P) (.ref hdrC) "__setattr__" = some (some (.builtin "object.__setattr__")) from by rfl) ?_
  refine osa_open S.top_in (instAt_of hX hD) plainOver_H taker_H fun bb => ?_
  refine wpAny_bind (wpAny_pure (wpAny_bind (wpAny_bind (wpAny_loadPart hX (wpAny_bind ((looks_clsIn S.top_in hcls).here ?_))))))
  refine wpAny_pure (a := some dx) (wpAny_bind (wpAny_pure (wpAny_bind ?_)))
  unfold nsSet
  refine wpAny_bind (wpAny_bind (wpAny_askSetting (wpAny_pure (wpAny_bind (wpAny_mkText (wpAny_bind (wpAny_loadPart hD ?_)))))))
  dsimp only
  refine wpAny_updatePart hD ?_
  have hD' : (h₂.update dx (Obj.putName (Str.ofString "_headers") (PyData.keyHash w.params (Str.ofString "_headers")) (.str (Str.ofString "_headers") (tk₂ + 1)) (.ref l))).get? dx = some (dictOf (hdrEs (PyData.keyHash w.params (Str.ofString "_headers")) (tk₂ + 1) l) 1) := by
    rw [Heap.get?_update_self _ hD (by rw [put_H]; rfl), put_H]
  refine wpAny_bind (wpAny_lookBehind hD' (pastItsLine_dict (by simp [hdrEs, sizeLine_eq])) ?_)
  refine wpAny_pure ?_
  have S' := S.turn (h' := h₂.update dx (Obj.putName (Str.ofString "_headers") (PyData.keyHash w.params (Str.ofString "_headers")) (.str (Str.ofString "_headers") (tk₂ + 1)) (.ref l))) (g := [(xa, instObj hdrC dx), (dx, dictOf (hdrEs (PyData.keyHash w.params (Str.ofString "_headers")) (tk₂ + 1) l) 1)]) (c := .inst (some j)) hf (List.getElem?_eq_some_iff.mp hi).1 rfl (fun p hp => by
      rcases List.mem_cons.mp hp with rfl | hp
      · exact (Heap.get?_update_other _ _ (Ne.symm hne)).trans hX
      · simp at hp; subst hp; exact hD') (fun a o ha ho => (Heap.get?_update_other _ _ (ha (dx, _) (List.mem_cons_of_mem _ List.mem_cons_self))).trans ho) (by
      obtain ⟨g', e', z⟩ := keep_set (n := j + 1) (g := [(xa, instObj hdrC dx), (dx, dictOf (hdrEs (PyData.keyHash w.params (Str.ofString "_headers")) (tk₂ + 1) l) 1)]) hf rfl j g (Nat.lt_succ_self _) hg
      exact ⟨xa, dx, l, _, _, _, g', rfl, e', z.trans hgl⟩)
  exact q b _ _ _ () Sub.refl (keep_set (g := [(xa, instObj hdrC dx), (dx, dictOf (hdrEs (PyData.keyHash w.params (Str.ofString "_headers")) (tk₂ + 1) l) 1)]) hf rfl) S' trivial
theorem ex_sethdr {x : Str} {e : Expr} {np ap pos : Pos} {i j : Nat} {ds : List D} (hx : EvalTo (KK P) w k env Γ C (.Name x np) (.c i) C) (hy : EvalTo (KK P) w k env Γ C e (.c j) C) (hi : C[i]? = some (.inst none)) (hj : C[j]? = some (.lst ds))
    (hs : swapsWithSole [.Attribute (.Name x np) (Str.ofString "_headers") ap] e pos.line env = pure false) (hw : swappedStores [.Attribute (.Name x np) (Str.ofString "_headers") ap] e env = pure none) (he : (assignEach [.Attribute (.Name x np) (Str.ofString "_headers") ap] env).map (·.2) = [assign (.Attribute (.Name x np) (Str.ofString "_headers") ap) env]) :
    ExecT (KK P) w n k env Γ C (exec (.Assign [.Attribute (.Name x np) (Str.ofString "_headers") ap] e pos) env) (.nxt Γ) (C.set i (.inst (some j))) := by
  intro A s b kp fs Q E hR S F hn q
  refine wpAny_Assign_stores (hy A s b kp fs _ E hR S F fun b₁ fs₁ h₁ tk₁ v sb₁ kf₁ S₁ F₁ r₁ => ?_) hs hw
  rw [he]
  show wpAny _ _ (assign (.Attribute (.Name x np) (Str.ofString "_headers") ap) env v) _ _ _
  rw [arm_assign_Attribute]
  refine wpAny_bind (wpAny_holding (hx A _ b₁ kp fs₁ _ E hR S₁ F₁ fun b₂ fs₂ h₂ tk₂ ov sb₂ kf₂ S₂ F₂ r₂ => ?_))
  refine wpAny_bind (wpAny_standAt (wpAny_bind (wpAny_holding ?_)))
  refine (o_sethdr (k := k) hi hj).tree (s := { s with heap := h₂, toks := tk₂ }) (vs := [ov, v]) hR S₂ F₂ ⟨r₂, r₁.mono sb₂ kf₂, trivial⟩ fun b₃ fs₃ h₃ tk₃ _ sb₃ kf₃ S₃ F₃ _ => ?_
  have kf := kf₁.then (kf₂.then kf₃)
  exact wpAny_release (q b₃ fs₃ h₃ tk₃ .next (sb₁.trans (sb₂.trans sb₃)) (kf.le hn) (Nat.le_trans hn kf.len) S₃ ⟨rfl, F₃⟩)
end

end
/-! H2 -/
section

section
variable {K : Frag} {w : World} {n k : Nat} {Γ Γ₁ Γ₂ Γ' : Gam} {C C' C₁ C₂ C₃ : List Cell}
theorem o_isnt {X Y : String} : Op K w k C (tCmp .IsNot) [.d (.v (.type X)), .d (.v (.type Y))] (.d (.bool (!(Value.type X == Value.type Y)))) C := by
  intro A s b kp fs vs Q E hR S hv q
  have h_vs := RepAs.two hv; clear hv; obtain ⟨va, vb, rfl, ha, hb⟩ := h_vs
  cases ha; cases hb
  exact isnot_type (q b fs s.heap s.toks _ Sub.refl Keep.refl S .v)
theorem o_ist {X Y : String} : Op K w k C (tCmp .Is) [.d (.v (.type X)), .d (.v (.type Y))] (.d (.bool (Value.type X == Value.type Y))) C := by
  intro A s b kp fs vs Q E hR S hv q
  have h_vs := RepAs.two hv; clear hv; obtain ⟨va, vb, rfl, ha, hb⟩ := h_vs
  cases ha; cases hb
  exact wpAny_pure (a := Value.bool (Value.type X == Value.type Y)) (q b fs s.heap s.toks _ Sub.refl Keep.refl S .v)
theorem ex_for_nil {env : Env} {iter target : Expr} {body : List Stmt} {pos : Pos} {j : Nat} (h : EvalTo K w k env Γ C iter (.c j) C) (hj : C[j]? = some (.lst [])) (ht : TgtOk target) (hf : ∀ x, foldedSetIterable iter env x = pure x := by intro _; rfl) : ExecT K w n k env Γ C (exec (.For target iter body [] pos) env) (.nxt Γ) C := by
  intro A s b kp fs Q E hR S F hn q
  refine wpAny_For (h A s b kp fs _ E hR S F fun b₁ fs₁ h₁ tk₁ v sb₁ kf₁ S₁ F₁ r₁ => ?_) hf
  obtain ⟨a, vs, m, rfl, hfc, eh, rv⟩ := rep_cell S₁ hj r₁
  cases rv
  refine wpAny_pyIter_list (isList_of eh) ?_
  have hk : ∀ c o, h₁.get? c = some o → (h₁.push { cls := .type "list_iterator", data := .fields #[.ref a, .int 0 0] }).get? c = some o := fun c o x => Heap.get?_push_of_some _ x
  have hne : a ≠ h₁.objs.size := Nat.ne_of_lt (Heap.lt_size eh)
  have hst : (h₁.push { cls := .type "list_iterator", data := .fields #[.ref a, .int 0 0] }).IsListIter h₁.objs.size a 0 := ⟨_, Heap.get?_push_size _ rfl, rfl, rfl⟩
  have W := Walks.list (prog := prg) (w := w) hR.handled h₁.objs.size a hne ([] : List Value).toArray
  have T := KTurns.ofWalks (target := target) W fun i v s Q E st hQ => go_list ht _ _ i v s Q E st.1 hQ
  refine codeAny_forLoop_any (fun m s' => s' = { s with heap := h₁.push { cls := .type "list_iterator", data := .fields #[.ref a, .int 0 0] }, toks := tk₁ }) ?_ 0 rfl
  rintro m s' rfl
  refine T.done _ _ _ ⟨hst, (isList_of eh).push _⟩ fun h₂ tk₂ hk₂ => ?_
  have hk3 : ∀ c o, h₁.get? c = some o → h₂.get? c = some o := fun c o x => hk₂ c o (by simp; exact Nat.ne_of_lt (Heap.lt_size x)) (hk c o x)
  exact wpAny_execs_nil (q b₁ fs₁ h₂ tk₂ .next sb₁ (kf₁.le hn) (Nat.le_trans hn kf₁.len) (S₁.keeps hk3) ⟨rfl, F₁.keeps hk3⟩)
end

end
/-! H3 -/
section

section
variable {K : Frag} {w : World} {n k : Nat} {Γ Γ₁ Γ₂ Γ' : Gam} {C C' C₁ C₂ C₃ : List Cell} {P : Params} {env : Env}
theorem call_fnN {a : Addr} {fd : FuncData} {body : List Stmt} {ps : List Str} {kw : List (Str × Value)} {args pargs : List AV} (ext : List Value → List Value) {Γf : Addr → Gam}
    (D : DefAt K a fd body) (hlim : Lim K)
    (hbind : ∀ (s : Shared) (vs : List Value), K.In s.heap → vs.length = args.length → BindsTo s fd ⟨vs, kw⟩ (ps.zip (ext vs)))
    (hext : ∀ b fs vs, RepAs b fs vs args → RepAs b fs (ext vs) pargs)
    (hloc : ∀ p ∈ ps, fd.scope.names.lookup p = some .local) (hnd : ps.Nodup) (hcell : ∀ x ∈ fd.scope.names, x.2 ≠ .cell)
    (h : ∀ L, ExecT K w C.length k (envOf fd.qualname fd.scope L a fd.code) (gamOf ps pargs) C (execs body (envOf fd.qualname fd.scope L a fd.code)) (.nxt (Γf L)) C') :
    ∀ (A : Around) (s : Shared) (b : PM) (kp : Kp) (fs : List Foot) (vs : List Value) (R : Result → Shared → Prop), Room (k + 1) (okK kp) A → St K b kp fs C s.heap → RepAs b fs vs args →
      (∀ b' fs' h' tk v, Sub b b' → Keep fs.length fs fs' → St K b' kp fs' C' h' → v = .none → R (.ok (.ret v)) { s with heap := h', toks := tk }) → codeAny (model prg w) A (.call (.ref a) ⟨vs, kw⟩) R s := by
  intro A s b kp fs vs R hR S hv q
  obtain ⟨oc, od, osl, ho⟩ := D.at_
  obtain ⟨lo, les, lep, l1, l2, l3, l4⟩ := hlim.ex
  have hdep := hR.depth
  have huni := hR.units
  refine codeAny_call_function (fd := fd) (body := body) (by omega) (S.top_in _ _ ho) rfl D.co D.gen D.body (codeRec_of S.top_in D.code) ?_
  refine (hbind s vs S.top_in hv.length) _ _ _ _ ?_
  rw [D.cl, D.gl, D.bu]
  have hL : s.heap.get? s.heap.objs.size = none := Heap.get?_none_of_le (Nat.le_refl _)
  refine wpAny_newFunctionEnv hcell (fun x hx => hloc _ (List.of_mem_zip hx).1) (fun h' hn hs => ?_) D.kind
  have hk : ∀ c o, s.heap.get? c = some o → h'.get? c = some o := fun c o e => hs.extBut c o (Nat.ne_of_lt (Heap.lt_size e)) (Heap.get?_push_of_some _ e)
  have S' : St K b kp fs C h' := S.keeps hk
  refine ⟨S'.nolimit l1 l2 l3 l4, ?_⟩
  show codeAny _ _ (.func body (envOf fd.qualname fd.scope s.heap.objs.size a fd.code)) _ _
  refine codeAny_func ?_
  have F' : Frm b kp fs (envOf fd.qualname fd.scope s.heap.objs.size a fd.code) (gamOf ps pargs) h' :=
    ⟨D.kind, rfl, rfl, S.fresh hL, _, hn, lookup_gam ps (ext vs) pargs hnd (hext _ _ _ hv) hloc⟩
  have hR' : Room k (okL kp s.heap.objs.size) (A.deeper (envOf fd.qualname fd.scope s.heap.objs.size a fd.code)) := by
    refine ⟨by show A.depth + 1 + k < _; omega, by show A.units + 3 + 8 * k < _; omega, hR.handled, ?_⟩
    obtain ⟨outer, e, hx⟩ := hR.frames
    refine ⟨envOf fd.qualname fd.scope s.heap.objs.size a fd.code :: outer, by show A.frames.map _ = _; rw [e]; rfl, fun x hxm => ?_⟩
    rcases List.mem_cons.mp hxm with rfl | hxm
    · exact ⟨by show fd.scope.kind ≠ .module; rw [D.kind]; decide, _, rfl, .inl rfl⟩
    · obtain ⟨a1, L, a2, a3⟩ := hx x hxm
      exact ⟨a1, L, a2, .inr a3⟩
  refine h _ _ _ b kp fs _ _ hR' S' F' (by rw [S.len]; exact Nat.le_refl _) fun b' fs' h'' tk f sb kf hn' S'' hf => ?_
  obtain ⟨rfl, _⟩ := hf
  exact q b' fs' h'' tk .none sb (by rw [S.len]; exact kf) S'' rfl

theorem get_1 (a : Cell) (C : List Cell) : (C ++ [a])[C.length]? = some a := by simp
theorem init_x (he : env.scope = stScope (clsAt 17 0)) : ExecT (KK P) w n k env [(Str.ofString "self", .loc (.c C.length)), (Str.ofString "headers", .loc (.d .none))] (C ++ [.inst none]) (execs (stBody (clsAt 17 0)) env) (.nxt [(Str.ofString "headers", .loc (.c (C.length + 1))), (Str.ofString "self", .loc (.c C.length)), (Str.ofString "headers", .loc (.d .none))]) (C ++ [.inst (some (C.length + 1)), .lst []]) := by
  have e1 : (C ++ [Cell.inst none]).length = C.length + 1 := by simp
  have e2 : (C ++ [Cell.inst none]) ++ [Cell.lst []] = C ++ [.inst none, .lst []] := by simp
  refine exs_cons (C₁ := C ++ [.inst none, .lst []]) (Γ₁ := [(Str.ofString "headers", .loc (.c (C.length + 1))), (Str.ofString "self", .loc (.c C.length)), (Str.ofString "headers", .loc (.d .none))]) ?_ ?_
  · rw [← e2, ← e1]
    exact ex_assign (ev_if (p := false) (tst_cmp (ev_n (by walk_at "lk") (by decide +kernel)) ev_none (o_isNotNone (z := true) (fun b fs v h => by cases h; rfl)) rfl) (fun h => nomatch h) (fun _ => ev_listc .nil)) (kd he (by decide +kernel)) (by kernel_rfl)
  refine exs_cons (ex_if (p := false) (o := .nxt [(Str.ofString "headers", .loc (.c (C.length + 1))), (Str.ofString "self", .loc (.c C.length)), (Str.ofString "headers", .loc (.d .none))]) (tst_cmp (ev_call (ev_g he (by decide +kernel) (by walk_at "gl") (by decide +kernel)) rfl (.c (ev_n (by walk_at "lk") (by decide +kernel)) .nil) (o_typel (ds := []) (.c (get_2b _ _ _)))) (ev_g he (by decide +kernel) (by walk_at "gl") (by decide +kernel)) (Op.eq o_isnt (by simp)) rfl) (fun h => nomatch h) (fun _ => exs_nil)) ?_
  refine exs_cons (C₁ := C ++ [.inst (some (C.length + 1)), .lst []]) (ExecT.cells (ex_sethdr (ev_n (by walk_at "lk") (by decide +kernel)) (ev_n (by walk_at "lk") (by decide +kernel)) (get_2a _ _ _) (ds := []) (get_2b _ _ _) (by kernel_rfl) (by kernel_rfl) rfl) (by rw [set_2a])) ?_
  exact exs_cons (ex_if (p := true) (tst_val ev_bool truth_bool (by rfl)) (fun _ => exs_cons (ex_for_nil (ev_n (by walk_at "lk") (by decide +kernel)) (get_2b _ _ _) .tuple) exs_nil) (fun h => nomatch h)) exs_nil
theorem bind_112 {h : Heap} {s : Shared} (X : (KK P).In s.heap) (v : Value) : BindsTo s (codeOf P 112) ⟨[v], []⟩ [(Str.ofString "self", v), (Str.ofString "headers", .none)] :=
  @kp_binds _ _ _ _ _ X (fun S => by kernel_rfl)
theorem o_Headers : Op (KK P) w (k + 2) C (fun vs => call (.ref 218) vs []) [] (.c C.length) (C ++ [.inst (some (C.length + 1)), .lst []]) := by
  intro A s b kp fs vs Q E hR S hv q
  obtain rfl := RepAs.nilI hv
  obtain ⟨hp, g, d, t, os⟩ := s
  have X := S.top_in
  dsimp only at X S q
  refine wpAny_call (make_core (C := hdrC) (init := .ref 112) (makes_of X (by rfl)) (looks_findIn X (by rfl)) (fun self => bind_fn X self (by rfl)) (.inl rfl) ?_)
  have S' := S.cell (h' := (hp.push emptyDict).push (instObj hdrC hp.objs.size)) (f := [(hp.objs.size + 1, instObj hdrC hp.objs.size), (hp.objs.size, dictOf [] 0)]) (c := .inst none) (fun p hp' => by
    rcases List.mem_cons.mp hp' with rfl | hp'
    · exact ⟨Heap.get?_none_of_le (Nat.le_succ _), by
        show ((hp.push emptyDict).push (instObj hdrC hp.objs.size)).get? (hp.objs.size + 1) = some (instObj hdrC hp.objs.size)
        heap_get⟩
    · simp at hp'; subst hp'
      exact ⟨Heap.get?_none_of_le (Nat.le_refl _), Heap.get?_push_of_some _ (Heap.get?_push_size _ rfl)⟩) (by simp) ⟨_, _, rfl⟩ fun _ _ e => Heap.get?_push_of_some _ (Heap.get?_push_of_some _ e)
  have hd := hR.depth
  have hu := hR.units
  refine call_fnN (K := KK P) (w := w) (k := k) (C := C ++ [.inst none]) (C' := C ++ [.inst (some (C.length + 1)), .lst []]) (args := [.c C.length]) (ps := [Str.ofString "self", Str.ofString "headers"]) (pargs := [.c C.length, .d .none]) (fun vs => vs ++ [.none]) def_112 (KK_lim P) (fun s vs X hl => by obtain ⟨v, rfl⟩ := len1 hl; exact bind_112 (h := s.heap) X v) (fun b fs vs hv => by match vs, hv with | [v], ⟨h, _⟩ => exact ⟨h, .v, trivial⟩) (fun q hq => by simp at hq; rcases hq with rfl | rfl <;> kernel_rfl) (by decide +kernel) (nocells (by kernel_rfl)) (fun L => init_x rfl) _ ⟨(hp.push emptyDict).push (instObj hdrC hp.objs.size), g, d, t, os⟩ b kp _ [.ref (hp.objs.size + 1)] _ ⟨?_, ?_, hR.handled, hR.frames⟩ S' ⟨?_, trivial⟩ fun b' fs' h' tk v sb kf S₂ ev => ?_
  · show A.depth + 1 + (k + 1) < _; omega
  · show A.units + 1 + 8 * (k + 1) < _; omega
  · exact ⟨[(hp.objs.size + 1, instObj hdrC hp.objs.size), (hp.objs.size, dictOf [] 0)], hp.objs.size + 1, by rw [← S.len]; simp, rfl, rfl⟩
  · refine ⟨ev, ?_⟩
    obtain ⟨f', e', hf'⟩ := kf C.length [(hp.objs.size + 1, instObj hdrC hp.objs.size), (hp.objs.size, dictOf [] 0)] (by simp [S.len]) (by rw [← S.len]; simp)
    exact q b' fs' h' tk _ sb (fun i f hi hf => kf i f (by simp; omega) (by rw [List.getElem?_append_left hi]; exact hf)) S₂ ⟨f', hp.objs.size + 1, e', hf', rfl⟩
end

end
/-! H4 -/
section
open Builtin.Re

theorem admitted_none {m : Sre.M} (hs : ∀ s seen, s < m.lim → ∃ seen', Sre.inSet m.code (m.text.getD s 0) m.code.size 5 true seen = .ok (false, seen')) : ∀ (f s : Nat) (seen : Sre.Seen), ∃ seen', m.admitted f s seen = .ok (none, seen')
  | 0, s, seen => ⟨_, rfl⟩
  | f + 1, s, seen => by
    by_cases h : s ≥ m.lim
    · exact ⟨seen, by show (if s ≥ m.lim then _ else _) = _; rw [if_pos h]⟩
    · obtain ⟨s1, e1⟩ := hs s seen (by omega)
      obtain ⟨s2, e2⟩ := admitted_none hs f (s + 1) s1
      refine ⟨s2, ?_⟩
      show (if s ≥ m.lim then _ else _) = _
      rw [if_neg h, e1]
      exact e2
theorem search_none {code text : Array Nat} (h0 : ∀ m : Sre.M, m.code = code → m.hasFirstSet = true) (hs : ∀ c ∈ text.toList, ∀ seen, ∃ seen', Sre.inSet code c code.size 5 true seen = .ok (false, seen')) :
    ∃ m', Ends (Sre.forSearch code text 0 0 text.size false) m' 4 ∧ m'.outcome = some .failed := by
  have fin : ∀ m : Sre.M, m.outcome = none → m.answer = some false → m.frames = [] → ∃ m', Ends m m' 4 ∧ m'.outcome = some .failed := fun m a b c => by
    have e : m.step = { m with outcome := some .failed } := by
      unfold Sre.M.step
      rw [a, b, c]
      rfl
    refine ⟨m.step, (Ends.step (n := 0) (by rw [a]; rfl) (Ends.now (by rw [e]; rfl))).le (by omega), by rw [e]⟩
  have key : ∀ m : Sre.M, m.code = code → m.text = text → m.lim = text.size → m.outcome = none → m.frames = [] → ∃ m', Ends (m.attemptFrom 0 true) m' 4 ∧ m'.outcome = some .failed := fun m e1 e2 e3 e4 e5 => by
    unfold Sre.M.attemptFrom
    rw [h0 m e1]
    simp only [Bool.not_true, Bool.false_eq_true, if_false]
    obtain ⟨s', es⟩ := admitted_none (m := m) (fun s seen hl => by
      rw [e1, e2]
      rw [e3] at hl
      refine hs _ ?_ seen
      rw [Array.getD_eq_getD_getElem?, Array.getElem?_eq_getElem hl]
      simp) (m.lim + 1 - 0) 0 m.seen
    rw [es]
    exact fin _ e4 rfl e5
  unfold Sre.forSearch
  dsimp only
  split
  · exact fin _ rfl rfl rfl
  · exact key _ rfl rfl rfl rfl rfl
noncomputable def cd83 : Array Nat := #[14, 10, 4, 1, 1, 22, 0, 31, 16, 127, 0, 13, 7, 22, 0, 31, 16, 127, 0, 1]
noncomputable def cd88 : Array Nat := #[14, 14, 4, 1, 1, 9, 4294966783, 0, 0, 2147483648, 0, 0, 0, 0, 0, 13, 11, 9, 4294966783, 0, 0, 2147483648, 0, 0, 0, 0, 0, 1]
noncomputable def plainC (c : Nat) : Bool := c == 46 || c == 78 || c == 110
theorem set83 {c : Nat} (h : plainC c = true) (seen : Sre.Seen) : ∃ seen', Sre.inSet cd83 c cd83.size 5 true seen = .ok (false, seen') := by
  simp only [plainC, Bool.or_eq_true, beq_iff_eq] at h
  rcases h with (rfl | rfl) | rfl <;> exact ⟨_, rfl⟩
theorem set88 {c : Nat} (h : plainC c = true) (seen : Sre.Seen) : ∃ seen', Sre.inSet cd88 c cd88.size 5 true seen = .ok (false, seen') := by
  simp only [plainC, Bool.or_eq_true, beq_iff_eq] at h
  rcases h with (rfl | rfl) | rfl <;> exact ⟨_, rfl⟩
theorem search83 {text : Array Nat} (h : ∀ c ∈ text.toList, plainC c = true) : ∃ m', Ends (Sre.forSearch cd83 text 0 0 text.size false) m' 4 ∧ m'.outcome = some .failed :=
  search_none (fun m e => by unfold Sre.M.hasFirstSet; rw [e]; rfl) fun c hc => set83 (h c hc)
theorem search88 {text : Array Nat} (h : ∀ c ∈ text.toList, plainC c = true) : ∃ m', Ends (Sre.forSearch cd88 text 0 0 text.size false) m' 4 ∧ m'.outcome = some .failed :=
  search_none (fun m e => by unfold Sre.M.hasFirstSet; rw [e]; rfl) fun c hc => set88 (h c hc)
section
variable {M : Model} {A : Around} {E : Value → Shared → Prop} {s : Shared}
theorem rtarget_to {p : Addr} {code : Array Nat} {x : Str} {t : Tok} {Q : ReTarget → Shared → Prop} (hp : PatAt s.heap p code) (hx : x.cps.size < 2 ^ 62) (q : Q { pattern := .ref p, string := .str x t, code := code, text := x.cps, kind := 0, groups := 0, pos := 0, lim := x.cps.size } s) :
    wpAny M A (reTarget "re.Pattern.search" "search" ⟨[.ref p, .str x t], []⟩) Q E s := by
  obtain ⟨o, v0, v1, v3, v4, qa, ho, hc, hd0, hd, o2, xs, n, ho2, hd2, hcode⟩ := hp.ex
  show wpAny M A (reNamed "re.Pattern.search" "search" ["string", "pos", "endpos"] 1 [.str x t] [] >>= _) Q E s
  refine wpAny_bind (wpAny_of_eq (a := [some (.str x t), none, none]) (by rfl) ?_)
  refine wpAny_bind (m := (pure 0 : Sem Int)) (wpAny_pure ?_)
  refine wpAny_bind (m := (pure (2 ^ 63 - 1) : Sem Int)) (wpAny_pure ?_)
  refine wpAny_bind (wpAny_fieldsOf ho hd ?_)
  refine wpAny_bind (m := reTextOf (.str x t)) (wpAny_of_eq (a := (x.cps, 0)) rfl ?_)
  refine wpAny_bind (m := reNoCollectionInside (.str x t) 0) (wpAny_of_eq (a := ()) rfl ?_)
  show wpAny M A (do
    let c ← reRawItems (.ref qa)
    pure { pattern := .ref p, string := .str x t, code := c.map (·.toNat), text := x.cps, kind := 0, groups := 0, pos := min (0 : Int).toNat x.cps.size, lim := min ((2 : Int) ^ 63 - 1).toNat x.cps.size }) Q E s
  refine wpAny_bind ?_
  unfold reRawItems
  refine wpAny_bind (wpAny_seqItems ho2 hd2 (wpAny_pure (wpAny_pure ?_)))
  have e1 : min (0 : Int).toNat x.cps.size = 0 := by simp
  have e2 : min ((2 : Int) ^ 63 - 1).toNat x.cps.size = x.cps.size := by
    have : ((2 : Int) ^ 63 - 1).toNat = 9223372036854775807 := by decide +kernel
    rw [this]; omega
  rw [e1, e2]
  show Q { pattern := .ref p, string := .str x t, code := (xs.map reRawOf).map (·.toNat), text := x.cps, kind := 0, groups := 0, pos := 0, lim := x.cps.size } s
  rw [hcode]
  exact q
end
section
variable {K : Frag} {w : World} {k : Nat} {C : List Cell} {P : Params}
theorem o_search {p : Addr} {code : Array Nat} {x : Str} (hp : ∀ h, K.In h → PatAt h p code) (hx : x.cps.size < 2 ^ 62) (hs : ∃ m', Ends (Sre.forSearch code x.cps 0 0 x.cps.size false) m' 4 ∧ m'.outcome = some .failed) :
    Op K w k C (fun vs => call (.builtin "re.Pattern.search") vs []) [.d (.v (.ref p)), .d (.str x)] (.d .none) C := by
  intro A s b kp fs vs Q E hR S hv q
  have h_vs := RepAs.two hv; clear hv; obtain ⟨va, vb, rfl, ha, hb⟩ := h_vs
  cases ha; cases hb
  rename_i t
  obtain ⟨o, v0, v1, v3, v4, qa, ho, hcl, _⟩ := (hp _ S.top_in).ex
  obtain ⟨m', he, hm⟩ := hs
  refine wpAny_call (codeAny_call_builtin slot_pat_search.plain entry_pat_search ?_)
  refine slot_pat_search.check _ _ _ _ _ _ _ _ ⟨o, ho, hcl⟩ (args_pat_search _ _) ?_
  unfold Builtin.«re.Pattern.search»
  refine wpAny_bind (rtarget_to (hp _ S.top_in) hx ?_)
  unfold reAnswer
  refine wpAny_bind (runEnd_to he (by decide) ?_)
  rw [hm]
  exact wpAny_pure (q b fs s.heap s.toks _ Sub.refl Keep.refl S .v)
theorem pat84 : ∀ h, (KK P).In h → PatAt h 84 cd83 := fun h X => ⟨k84 P, _, _, _, _, 83, X 84 _ rfl, rfl, rfl, rfl, k83 P, _, _, X 83 _ rfl, rfl, by decide +kernel⟩
theorem pat89 : ∀ h, (KK P).In h → PatAt h 89 cd88 := fun h X => ⟨k89 P, _, _, _, _, 88, X 89 _ rfl, rfl, rfl, rfl, k88 P, _, _, X 88 _ rfl, rfl, by decide +kernel⟩
end

end
/-! H5 -/
section

section
variable {K : Frag} {w : World} {n k : Nat} {Γ Γ₁ Γ₂ Γ' : Gam} {C C' C₁ C₂ C₃ : List Cell} {P : Params} {env : Env}
theorem conv_x {x : Str} {z : Bool} {r : AV} (hx : x.cps.size < 2 ^ 62) (hp : ∀ c ∈ x.cps.toList, plainC c = true) (he : env.scope = stScope (clsAt 17 1)) : ExecT (KK P) w n k env [(Str.ofString "self", .loc r), (Str.ofString "value", .loc (.d (.str x))), (Str.ofString "name", .loc (.d (.bool z)))] C (execs (stBody (clsAt 17 1)) env) (.ret (.d (.str x))) C := by
  refine exs_ret (ex_if (p := true) (tst_cmp (ev_call (ev_g he (by decide +kernel) (by walk_at "gl") (by decide +kernel)) rfl (.c (ev_n (by walk_at "lk") (by decide +kernel)) .nil) o_types) (ev_g he (by decide +kernel) (by walk_at "gl") (by decide +kernel)) (Op.eq o_ist (by simp)) rfl) (fun _ => ?_) (fun h => nomatch h))
  cases z with
  | true =>
    refine exs_cons (ex_assign (r := .d (.v (.ref 84))) (ev_if (p := true) (tst_val (ev_n (by walk_at "lk") (by decide +kernel)) truth_bool (by rfl)) (fun _ => (ev_g he (by decide +kernel) (by walk_at "gl") (by decide +kernel))) (fun h => nomatch h)) (kd he (by decide +kernel)) (by kernel_rfl)) ?_
    refine exs_cons (ex_if (p := false) (o := .nxt _) (tst_val (ev_meth (ev_n (by walk_at "lk") (by decide +kernel)) (mg_pat pat84 slot_pat_search type_pat_search) rfl (.c (ev_n (by walk_at "lk") (by decide +kernel)) .nil) (o_search pat84 hx (search83 hp)) rfl) t_none (by rfl)) (fun h => nomatch h) (fun _ => exs_nil)) ?_
    exact exs_ret (ex_return (ev_n (by walk_at "lk") (by decide +kernel)))
  | false =>
    refine exs_cons (ex_assign (r := .d (.v (.ref 89))) (ev_if (p := false) (tst_val (ev_n (by walk_at "lk") (by decide +kernel)) truth_bool (by rfl)) (fun h => nomatch h) (fun _ => (ev_g he (by decide +kernel) (by walk_at "gl") (by decide +kernel)))) (kd he (by decide +kernel)) (by kernel_rfl)) ?_
    refine exs_cons (ex_if (p := false) (o := .nxt _) (tst_val (ev_meth (ev_n (by walk_at "lk") (by decide +kernel)) (mg_pat pat89 slot_pat_search type_pat_search) rfl (.c (ev_n (by walk_at "lk") (by decide +kernel)) .nil) (o_search pat89 hx (search88 hp)) rfl) t_none (by rfl)) (fun h => nomatch h) (fun _ => exs_nil)) ?_
    exact exs_ret (ex_return (ev_n (by walk_at "lk") (by decide +kernel)))
theorem bind_119 (v v' x : Value) : bindArgs (codeOf P 119) ⟨[v, v'], [(Str.ofString "name", x)]⟩ = pure [(Str.ofString "self", v), (Str.ofString "value", v'), (Str.ofString "name", x)] := by kernel_rfl
theorem conv_op {x : Str} {z : Bool} {r : AV} (hx : x.cps.size < 2 ^ 62) (hp : ∀ c ∈ x.cps.toList, plainC c = true) : Op (KK P) w (k + 1) C (fun vs => call (.ref 119) vs [(Str.ofString "name", .bool z)]) [r, .d (.str x)] (.d (.str x)) C :=
  call_fn (C₁ := []) (ps := [Str.ofString "self", Str.ofString "value", Str.ofString "name"]) (pargs := [r, .d (.str x), .d (.bool z)]) (fun vs => vs ++ [.bool z]) def_119 (KK_lim P) (fun s vs X hl => by obtain ⟨v, v', rfl⟩ := len2 hl; exact @BindsTo.of_eq _ _ _ _ (bind_119 v v' _)) (fun b fs vs hv => by match vs, hv with | [v, v'], ⟨h1, h2, _⟩ => exact ⟨h1, h2, .v, trivial⟩) (fun q hq => by simp at hq; rcases hq with rfl | rfl | rfl <;> kernel_rfl) (by decide +kernel) (nocells (by kernel_rfl)) rfl (fun h => h) (by trivial) (fun L => by
    rw [List.append_nil]
    exact conv_x hx hp rfl)
end

end
/-! H6 -/
section

section
variable {K : Frag} {w : World} {n k : Nat} {env : Env} {Γ Γ₁ Γ₂ Γ' : Gam} {C C' C₁ C₂ C₃ : List Cell} {P : Params}
theorem callWith_toG {pos : Pos} {f : Value} {first : List Value} {firsts rs : List AV} {trees : List (Bool × Sem Value)} {keywords : List (Option Str × Sem Value)} {kw : List (Str × Value)} {R : PM → List Foot → Value → Prop}
    (hk : keepOk K f = true) (hp : (trees.any (·.1) || keywords.any (·.1.isNone)) = false)
    (hargs : TreeTo K w k env Γ C (evalArgs f true trees keywords) (fun b fs a => a.kw = kw ∧ RepAs b fs a.pos rs) Γ C₁) (hop : OpG K w k C₁ (fun vs => call f vs kw) (firsts ++ rs) R C₂)
    {A : Around} {s : Shared} {b : PM} {kp : Kp} {fs : List Foot} {Q : Value → Shared → Prop} {E : Value → Shared → Prop}
    (hR : Room k (okL kp env.locals) A) (S : St K b kp fs C s.heap) (F : Frm b kp fs env Γ s.heap) (hf : RepAs b fs first firsts)
    (q : ∀ b' fs' h' tk v, Sub b b' → Keep fs.length fs fs' → St K b' kp fs' C₂ h' → Frm b' kp fs' env Γ h' → R b' fs' v → Q v { s with heap := h', toks := tk }) :
    wpAny (model prg w) A (callWith pos f first trees keywords) Q E s := by
  refine callWith_of hp (keeps_ok hk) (hargs A s b kp fs _ E hR S F fun b₁ fs₁ h₁ tk₁ a sb₁ kf₁ S₁ F₁ r₁ => ?_)
  obtain ⟨e, r₁⟩ := r₁
  refine ⟨S₁.top_in, ?_⟩
  rw [e]
  exact hop.tree (s := { s with heap := h₁, toks := tk₁ }) hR S₁ F₁ ((hf.mono sb₁ kf₁).append r₁) fun b₂ fs₂ h₂ tk₂ v sb₂ kf₂ S₂ F₂ r₂ => q b₂ fs₂ h₂ tk₂ v (sb₁.trans sb₂) (kf₁.then kf₂) S₂ F₂ r₂

theorem ev_methG {o : Expr} {name : Str} {apos pos : Pos} {f : Value} {es : List Expr} {rs : List AV} {r₀ : AV} {R : PM → List Foot → Value → Prop} {pl : Sem Bool} (h1 : EvalTo K w k env Γ C o r₀ C₁) (hm : MethG K w k C₁ name r₀ f) (hk : keepOk K f = true) (h2 : EvalsTo K w k env Γ C₁ es rs C₂)
    (h3 : OpG K w k C₂ (fun vs => call f vs []) (r₀ :: rs) R C₃)
    (he : eval (.Call (.Attribute o name apos) es [] pos) env = (do
      let ov ← eval o env
      standAt apos.atName
      let (f, first) ← holding [ov] (getMethod ov name pl)
      callWith pos f first (backTo pos (starEach es env)) (backToKw pos (keywordEach [] env)))) : TreeTo K w k env Γ C (eval (.Call (.Attribute o name apos) es [] pos) env) R Γ C₃ := by
  intro A s b kp fs Q E hR S F q
  refine methodCall_KW (pl := pl) ?_ he
  refine h1 A s b kp fs _ E hR S F fun b₁ fs₁ h₁ tk₁ v sb₁ kf₁ S₁ F₁ r₁ => ?_
  refine (hm pl).tree (s := { s with heap := h₁, toks := tk₁ }) (vs := [v]) hR S₁ F₁ ⟨r₁, trivial⟩ fun b₂ fs₂ h₂ tk₂ fx sb₂ kf₂ S₂ F₂ r₂ => ?_
  obtain ⟨e, r₂⟩ := r₂
  rw [e]
  exact callWith_toG (s := { s with heap := h₂, toks := tk₂ }) (firsts := [r₀]) (kw := []) hk (by rw [backTo_plain h2.plain]; rfl) (args_to h2) h3 hR S₂ F₂ r₂ fun b₃ fs₃ h₃ tk₃ v sb₃ kf₃ S₃ F₃ r₃ => q b₃ fs₃ h₃ tk₃ v (sb₁.trans (sb₂.trans sb₃)) (kf₁.then (kf₂.then kf₃)) S₃ F₃ r₃
theorem call_fnK {a : Addr} {fd : FuncData} {body : List Stmt} {ps : List Str} {args : List AV} {Γf : Addr → Gam}
    (D : DefAt K a fd body) (hlim : Lim K)
    (hbind : ∀ (M : Model) (A : Around) (E : Value → Shared → Prop) (s : Shared) (vs : List Value) (Q : List (Str × Value) → Shared → Prop), K.In s.heap → vs.length = args.length → Q (ps.zip (vs ++ [.ref s.heap.objs.size])) { s with heap := s.heap.push emptyDict } → wpAny M A (bindArgs fd ⟨vs, []⟩) Q E s)
    (hsys : (K.lookup sysModules).isSome = true ∨ ∃ a o, K.lookup a = some o ∧ sysModules < a)
    (hloc : ∀ p ∈ ps, fd.scope.names.lookup p = some .local) (hnd : ps.Nodup) (hcell : ∀ x ∈ fd.scope.names, x.2 ≠ .cell)
    (h : ∀ L, ExecT K w C.length k (envOf fd.qualname fd.scope L a fd.code) (gamOf ps (args ++ [.d .dic])) C (execs body (envOf fd.qualname fd.scope L a fd.code)) (.nxt (Γf L)) C') :
    ∀ (A : Around) (s : Shared) (b : PM) (kp : Kp) (fs : List Foot) (vs : List Value) (R : Result → Shared → Prop), Room (k + 1) (okK kp) A → St K b kp fs C s.heap → RepAs b fs vs args →
      (∀ b' fs' h' tk v, Sub b b' → Keep fs.length fs fs' → St K b' kp fs' C' h' → v = .none → R (.ok (.ret v)) { s with heap := h', toks := tk }) → codeAny (model prg w) A (.call (.ref a) ⟨vs, []⟩) R s := by
  intro A s b kp fs vs R hR S hv q
  obtain ⟨oc, od, osl, ho⟩ := D.at_
  obtain ⟨lo, les, lep, l1, l2, l3, l4⟩ := hlim.ex
  have hdep := hR.depth
  have huni := hR.units
  refine codeAny_call_function (fd := fd) (body := body) (by omega) (S.top_in _ _ ho) rfl D.co D.gen D.body (codeRec_of S.top_in D.code) ?_
  refine hbind _ _ _ s vs _ S.top_in hv.length ?_
  rw [D.cl, D.gl, D.bu]
  have hD0 : s.heap.get? s.heap.objs.size = none := Heap.get?_none_of_le (Nat.le_refl _)
  have hk0 : ∀ c o, s.heap.get? c = some o → (s.heap.push emptyDict).get? c = some o := fun c o e => Heap.get?_push_of_some _ e
  have hDp : (s.heap.push emptyDict).get? s.heap.objs.size = some emptyDict := Heap.get?_push_size _ rfl
  have hlo : ((s.heap.objs.size : Addr) == sysModules) = false := by
    have : sysModules < s.heap.objs.size := by
      rcases hsys with h | ⟨a, o, e, hl⟩
      · obtain ⟨o, e⟩ := Option.isSome_iff_exists.mp h
        exact Heap.lt_size (S.top_in _ _ e)
      · exact Nat.lt_trans hl (Heap.lt_size (S.top_in _ _ e))
    exact beq_false_of_ne (Nat.ne_of_gt this)
  have sb0 : Sub b (b.put s.heap.objs.size emptyDict) := Sub.put (S.fresh hD0).1
  have hv0 : RepAs (b.put s.heap.objs.size emptyDict) fs (vs ++ [.ref s.heap.objs.size]) (args ++ [.d .dic]) := (hv.mono sb0 Keep.refl).append (vs' := [.ref s.heap.objs.size]) (rs' := [.d .dic]) ⟨.dic PM.put_self hlo, trivial⟩
  have S0 : St K (b.put s.heap.objs.size emptyDict) kp fs C (s.heap.push emptyDict) := S.frozen hD0 hDp hk0
  have hext : ∀ b fs vs, RepAs b fs vs (args ++ [.d .dic]) → RepAs b fs vs (args ++ [.d .dic]) := fun _ _ _ h => h
  have hL : (s.heap.push emptyDict).get? (s.heap.push emptyDict).objs.size = none := Heap.get?_none_of_le (Nat.le_refl _)
  generalize hhp : s.heap.push emptyDict = hp at hL S0 ⊢
  generalize b.put s.heap.objs.size emptyDict = b0 at sb0 hv0 S0 ⊢
  refine wpAny_newFunctionEnv hcell (fun x hx => hloc _ (List.of_mem_zip hx).1) (fun h' hn hs => ?_) D.kind
  have hk : ∀ c o, hp.get? c = some o → h'.get? c = some o := fun c o e => hs.extBut c o (Nat.ne_of_lt (Heap.lt_size e)) (Heap.get?_push_of_some _ e)
  have S' : St K b0 kp fs C h' := S0.keeps hk
  refine ⟨S'.nolimit l1 l2 l3 l4, ?_⟩
  show codeAny _ _ (.func body (envOf fd.qualname fd.scope hp.objs.size a fd.code)) _ _
  refine codeAny_func ?_
  have F' : Frm b0 kp fs (envOf fd.qualname fd.scope hp.objs.size a fd.code) (gamOf ps (args ++ [.d .dic])) h' :=
    ⟨D.kind, rfl, rfl, S0.fresh hL, _, hn, lookup_gam (env := envOf fd.qualname fd.scope hp.objs.size a fd.code) ps (vs ++ [Value.ref s.heap.objs.size]) (args ++ [.d .dic]) hnd hv0 hloc⟩
  have hR' : Room k (okL kp hp.objs.size) (A.deeper (envOf fd.qualname fd.scope hp.objs.size a fd.code)) := by
    refine ⟨by show A.depth + 1 + k < _; omega, by show A.units + 3 + 8 * k < _; omega, hR.handled, ?_⟩
    obtain ⟨outer, e, hx⟩ := hR.frames
    refine ⟨envOf fd.qualname fd.scope hp.objs.size a fd.code :: outer, by show A.frames.map _ = _; rw [e]; rfl, fun x hxm => ?_⟩
    rcases List.mem_cons.mp hxm with rfl | hxm
    · exact ⟨by show fd.scope.kind ≠ .module; rw [D.kind]; decide, _, rfl, .inl rfl⟩
    · obtain ⟨a1, L, a2, a3⟩ := hx x hxm
      exact ⟨a1, L, a2, .inr a3⟩
  refine h _ _ _ b0 kp fs _ _ hR' S' F' (by rw [S.len]; exact Nat.le_refl _) fun b' fs' h'' tk f sb kf hn' S'' hf => ?_
  obtain ⟨rfl, _⟩ := hf
  exact q b' fs' h'' tk .none (sb0.trans sb) (by rw [S.len]; exact kf) S'' rfl


theorem rep_dic {b : PM} {kp : Kp} {fs : List Foot} {h : Heap} {v : Value} (S : St K b kp fs C h) (r : Rep b v .dic) : ∃ d, v = .ref d ∧ h.get? d = some (dictOf [] 0) ∧ b d = some (dictOf [] 0) ∧ (d == sysModules) = false := by
  cases r with
  | dic e lo => exact ⟨_, rfl, S.base _ _ e, e, lo⟩
theorem dictOf_nil {h : Heap} {d : Addr} (e : h.get? d = some (dictOf [] 0)) : h.DictOf (strKind prg w) d [] :=
  Heap.dictOf_iff.mpr ⟨_, e, #[], 0, ⟨rfl, rfl, rfl⟩, rfl, by simp [PySem.KeysOf], Pairs.nil, by simp⟩
theorem mg_dic {name : Str} {id : String} (slot : Slot "dict" name id) (ty : typeOf (.builtin id) = pure (.type "method_descriptor")) : MethG K w k C name (.d .dic) (.builtin id) := by
  intro pl A s b kp fs vs Q E hR S hv q
  have h_vs := RepAs.one hv; clear hv; obtain ⟨va, rfl, ha⟩ := h_vs
  obtain ⟨d, rfl, e, _⟩ := rep_dic S ha
  exact getMethod_builtin ⟨_, e, rfl⟩ PySem.F.plainAttrs_dict slot ty (fun c hc => by injection hc with hc; subst hc; exact ⟨_, e, rfl⟩) (q b fs s.heap s.toks _ Sub.refl Keep.refl S ⟨rfl, ha, trivial⟩)
noncomputable def ViewR (b : PM) (_ : List Foot) (v : Value) : Prop := ∃ vw d, v = .ref vw ∧ b vw = some { cls := .type "dict_items", data := .fields #[.ref d] } ∧ b d = some (dictOf [] 0)
theorem o_dicitems : OpG K w k C (fun vs => call (.builtin "dict.items") vs []) [.d .dic] ViewR C := by
  intro A s b kp fs vs Q E hR S hv q
  have h_vs := RepAs.one hv; clear hv; obtain ⟨va, rfl, ha⟩ := h_vs
  obtain ⟨d, rfl, e, eb, lo⟩ := rep_dic S ha
  have hD := dictOf_nil (w := w) e
  refine call_meetsIn PySem.F.slot_dict_items hD.typeIs PySem.F.entry_dict_items (PySem.F.args_dict_items_1 _) (meets_dict_items (strKind prg w) d lo) ⟨⟨_, hD⟩, ?_⟩
  have hL : s.heap.get? s.heap.objs.size = none := Heap.get?_none_of_le (Nat.le_refl _)
  have sb : Sub b (b.put s.heap.objs.size { cls := .type "dict_items", data := .fields #[.ref d] }) := Sub.put (S.fresh hL).1
  exact q _ fs _ s.toks _ sb Keep.refl (S.frozen hL (Heap.get?_push_size _ rfl) fun _ _ x => Heap.get?_push_of_some _ x) ⟨_, d, rfl, PM.put_self, sb _ _ eb⟩
theorem ex_for_items {o : Expr} {name : Str} {apos pos fpos : Pos} {target : Expr} {elts : List Expr} {kk : Nat} {tp : Pos} {body : List Stmt} (h : TreeTo K w k env Γ C (eval (.Call (.Attribute o name apos) [] [] pos) env) ViewR Γ C) (ht : target = .Tuple elts kk tp) (hf : ∀ x, foldedSetIterable (.Call (.Attribute o name apos) [] [] pos) env x = pure x := by intro _; rfl) :
    ExecT K w n k env Γ C (exec (.For target (.Call (.Attribute o name apos) [] [] pos) body [] fpos) env) (.nxt Γ) C := by
  subst ht
  intro A s b kp fs Q E hR S F hn q
  refine wpAny_For (h A s b kp fs _ E hR S F fun b₁ fs₁ h₁ tk₁ v sb₁ kf₁ S₁ F₁ r₁ => ?_) hf
  obtain ⟨vw, d, rfl, ew, ed⟩ := r₁
  have hv := S₁.base _ _ ew
  have hd := S₁.base _ _ ed
  obtain ⟨ep, hat⟩ := (dictOf_nil (w := w) hd).dictAt
  have hne : d ≠ h₁.objs.size := Nat.ne_of_lt (Heap.lt_size hd)
  refine wpAny_pyIter_items ⟨_, hv, rfl, rfl⟩ hat ?_
  have T := kti_itemsTurns (elts := elts) (kk := kk) (pos := tp) (knd := strKind prg w) (A := A) hR.handled h₁.objs.size d hne [] ep
  generalize hzz : h₁.push { cls := .type "dict_itemiterator", data := .fields #[.none, .bool false, .ref d, .int 0 0, .int ([] : List (Str × Value)).length 0, .int ep 0, .none, .none] } = hz
  have hk : ∀ c o, h₁.get? c = some o → hz.get? c = some o := fun c o x => by subst_vars; exact Heap.get?_push_of_some _ x
  refine codeAny_forLoop_any (fun m s' => s' = { s with heap := hz, toks := tk₁ }) ?_ 0 rfl
  rintro m s' rfl
  refine T.done _ _ _ ⟨⟨.none, .none, by subst_vars; exact Heap.get?_push_size _ rfl⟩, by subst_vars; exact hat.push _⟩ fun h₂ tk₂ hk₂ => ?_
  have hk3 : ∀ c o, h₁.get? c = some o → h₂.get? c = some o := fun c o x => hk₂ c o (by simp; exact Nat.ne_of_lt (Heap.lt_size x)) (hk c o x)
  exact wpAny_execs_nil (q b₁ fs₁ h₂ tk₂ .next sb₁ (kf₁.le hn) (Nat.le_trans hn kf₁.len) (S₁.keeps hk3) ⟨rfl, F₁.keeps hk3⟩)
end

end
/-! H7 -/
section

noncomputable def plainS (x : Str) : Prop := x.cps.size ≤ 1000 ∧ ∀ c ∈ x.cps.toList, plainC c = true
section
variable {K : Frag} {w : World} {n k : Nat} {env : Env} {Γ Γ₁ Γ₂ Γ' : Gam} {C C' C₁ C₂ C₃ : List Cell} {P : Params}
theorem he_gen {o : Expr} {name : Str} {apos pos : Pos} {args : List Expr} {env : Env} (h0 : ∀ W, attributeBase o name env W = W) (h1 : methodCallForm (args.length + 0) (backTo pos (starEach args env)) (backToKw pos (keywordEach [] env)) = true) (h2 : (apos.endLine == pos.line) = true) : eval (.Call (.Attribute o name apos) args [] pos) env = (do
      let ov ← eval o env
      standAt apos.atName
      let (f, first) ← holding [ov] (getMethod ov name (do return (← importBound o env).getD true))
      callWith pos f first (backTo pos (starEach args env)) (backToKw pos (keywordEach [] env))) := by
  rw [arm_eval_Call, h0]
  congr 1
  funext ov
  congr 1
  funext _
  unfold methodCall methodCallPos calleeOf
  have h1' : methodCallForm (args.length + ([] : List Keyword).length) (backTo pos (starEach args env)) (backToKw pos (keywordEach [] env)) = true := h1
  rw [h1', h2]
  rfl
theorem set_a {i : Nat} {a c : Cell} {C : List Cell} (h : i < C.length) : (C ++ [a]).set i c = C.set i c ++ [a] := by rw [List.set_append_left _ _ h]
theorem get_a {i : Nat} {a c : Cell} {C : List Cell} (h : C[i]? = some c) : (C ++ [a])[i]? = some c := by rw [List.getElem?_append_left (List.getElem?_eq_some_iff.mp h).1]; exact h
theorem join1 {x y : Str} : Txt.join x [y] = y := rfl
theorem add_x {i j : Nat} {ds : List D} {nm vl : Str} (hi : C[i]? = some (.inst (some j))) (hj : C[j]? = some (.lst ds)) (hz : ds.length ≤ 1000) (h1 : plainS nm) (h2 : plainS vl) (hC : ∀ c ∈ C, ∀ j ∈ c.refs, j < C.length) (he : env.scope = stScope (clsAt 17 16)) :
    ExecT (KK P) w C.length (k + 1) env [(Str.ofString "self", .loc (.c i)), (Str.ofString "_name", .loc (.d (.str nm))), (Str.ofString "_value", .loc (.d (.str vl))), (Str.ofString "_params", .loc (.d .dic))] C (execs (stBody (clsAt 17 16)) env)
      (.nxt []) (C.set j (.lst (ds ++ [.tup [.str nm, .str vl]]))) := by
  have hil := (List.getElem?_eq_some_iff.mp hi).1
  have hjl := (List.getElem?_eq_some_iff.mp hj).1
  have V : ∀ a : Cell, HdrV (C ++ [a]) (.c i) (.c j) := fun a => .c (get_a hi)
  refine ExecT.forget (C₂ := [.lst [.str vl]]) ?_ (by simp) (fun x r e => by cases e) (fun c hc j' hj' => ?_)
  · refine ExecT.less (Γ₁ := [(Str.ofString "_value", .loc (.d (.str vl))), (Str.ofString "parts", .loc (.c C.length)), (Str.ofString "self", .loc (.c i)), (Str.ofString "_name", .loc (.d (.str nm))), (Str.ofString "_value", .loc (.d (.str vl))), (Str.ofString "_params", .loc (.d .dic))]) ?_ GSub.nil
    refine exs_cons (ex_assign (ev_listc .nil) (kd he (by decide +kernel)) (by kernel_rfl)) ?_
    refine exs_cons (C₁ := C ++ [.lst [.str vl]]) (Γ₁ := [(Str.ofString "_value", .loc (.d (.str vl))), (Str.ofString "parts", .loc (.c C.length)), (Str.ofString "self", .loc (.c i)), (Str.ofString "_name", .loc (.d (.str nm))), (Str.ofString "_value", .loc (.d (.str vl))), (Str.ofString "_params", .loc (.d .dic))])
      (ex_if (p := true) (tst_cmp (ev_n (by walk_at "lk") (by decide +kernel)) ev_none (o_isNotNone (z := false) (fun b fs v h => by cases h; rfl)) rfl) (fun _ => ?_) (fun h => nomatch h)) ?_
    · refine exs_cons (ex_assign (ev_meth_kw (ev_n (by walk_at "lk") (by decide +kernel)) (mg_hdr (V _) (f := 119) (by rfl) (by rfl) (by decide +kernel)) rfl (.c (ev_n (by walk_at "lk") (by decide +kernel)) .nil) ev_bool (conv_op (by have := h2.1; omega) h2.2) rfl) (kd he (by decide +kernel)) (by kernel_rfl)) ?_
      refine exs_cons (ExecT.cells (ex_expr (ev_meth (ev_n (by walk_at "lk") (by decide +kernel)) (mg_list (.c (get_1 _ _)) PySem.F.slot_list_append PySem.F.type_list_append) rfl (.c (ev_n (by walk_at "lk") (by decide +kernel)) .nil) (o_append (get_1 _ _) (by simp)) rfl) (inter_fn he (by decide +kernel)) (by kernel_rfl)) ?_) exs_nil
      simp
    · refine exs_cons (ex_for_items (ev_methG (ev_n (by walk_at "lk") (by decide +kernel)) (mg_dic PySem.F.slot_dict_items PySem.F.type_dict_items) rfl .nil o_dicitems rfl) rfl) ?_
      have hargs : EvalsTo (KK P) w (k + 1) env [(Str.ofString "_value", .loc (.d (.str vl))), (Str.ofString "parts", .loc (.c C.length)), (Str.ofString "self", .loc (.c i)), (Str.ofString "_name", .loc (.d (.str nm))), (Str.ofString "_value", .loc (.d (.str vl))), (Str.ofString "_params", .loc (.d .dic))] (C ++ [.lst [.str vl]]) (match nth (stBody (clsAt 17 16)) 3 with | .Expr (.Call _ es _ _) _ => es | _ => []) [.d (.tup [.str nm, .str vl])] (C ++ [.lst [.str vl]]) := by
        refine .c (ev_tuple (.c (ev_meth_kw (ev_n (by walk_at "lk") (by decide +kernel)) (mg_hdr (V _) (f := 119) (by rfl) (by rfl) (by decide +kernel)) rfl (.c (ev_n (by walk_at "lk") (by decide +kernel)) .nil) ev_bool (conv_op (by have := h1.1; omega) h1.2) rfl) (.c ?_ .nil))) .nil
        refine EvalTo.eq (@ev_meth _ _ _ _ _ _ _ _ _ _ _ _ _ _ _ _ _ _ _ ev_str (mg_str PySem.F.slot_str_join PySem.F.type_str_join) rfl (.c (ev_n (by walk_at "lk") (by decide +kernel)) .nil) (o_join (ys := [vl]) (.c (get_1 _ _)) ?_) (he_gen (fun _ => rfl) (by rfl) (by rfl))) (by rw [join1])
        have e : Str.length vl ≤ 1000 := h2.1
        have e2 : (Str.ofString "; ").length = 2 := by decide +kernel
        simp [JoinOk, Builtin.Str.tooLong, sizeLine]
        omega
      refine exs_cons (ExecT.cells (ex_expr (ev_meth (ev_headers (ev_n (by walk_at "lk") (by decide +kernel)) (V _)) (mg_list (.c (get_a hj)) PySem.F.slot_list_append PySem.F.type_list_append) rfl hargs (o_append (get_a hj) (by simp [sizeLine]; omega)) (he_gen (fun _ => rfl) (by rfl) (by rfl))) (inter_fn he (by decide +kernel)) (by kernel_rfl)) ?_) exs_nil
      rw [set_a hjl]
  · rcases List.mem_or_eq_of_mem_set hc with h | rfl
    · rw [List.length_set]; exact hC c h j' hj'
    · simp [Cell.refs] at hj'
theorem bind_215 (M : Model) (A : Around) (E : Value → Shared → Prop) (s : Shared) (vs : List Value) (Q : List (Str × Value) → Shared → Prop) (hl : vs.length = 3) (q : Q ([Str.ofString "self", Str.ofString "_name", Str.ofString "_value", Str.ofString "_params"].zip (vs ++ [.ref s.heap.objs.size])) { s with heap := s.heap.push emptyDict }) : wpAny M A (bindArgs (codeOf P 215) ⟨vs, []⟩) Q E s := by
  obtain ⟨a, b, c, rfl⟩ := len3 hl
  · have e : bindArgs (codeOf P 215) ⟨[a, b, c], []⟩ = (alloc emptyDict >>= fun d => pure [(Str.ofString "self", a), (Str.ofString "_name", b), (Str.ofString "_value", c), (Str.ofString "_params", .ref d)]) := by kernel_rfl
    rw [e]
    exact wpAny_bind (wpAny_alloc (wpAny_pure q))
theorem add_op {i j : Nat} {ds : List D} {nm vl : Str} (hi : C[i]? = some (.inst (some j))) (hj : C[j]? = some (.lst ds)) (hz : ds.length ≤ 1000) (h1 : plainS nm) (h2 : plainS vl) :
    Op (KK P) w (k + 2) C (fun vs => call (.ref 215) vs []) [.c i, .d (.str nm), .d (.str vl)] (.d .none) (C.set j (.lst (ds ++ [.tup [.str nm, .str vl]]))) := by
  intro A s b kp fs vs Q E hR S hv q
  refine wpAny_call (call_fnK (args := [.c i, .d (.str nm), .d (.str vl)]) (Γf := fun _ => []) (ps := [Str.ofString "self", Str.ofString "_name", Str.ofString "_value", Str.ofString "_params"]) def_215 (KK_lim P) (fun M A E s vs Q X hl hq => bind_215 M A E s vs Q hl hq) (.inr ⟨2, _, rfl, by decide⟩) (fun q hq => by simp at hq; rcases hq with rfl | rfl | rfl | rfl <;> kernel_rfl) (by decide +kernel) (nocells (by kernel_rfl)) (fun L => add_x hi hj hz h1 h2 S.closed rfl) A s b kp fs vs _ hR S hv fun b' fs' h' tk v sb kf S' ev => ?_)
  subst ev
  exact q b' fs' h' tk _ sb kf S' .v
end

end
/-! H8 -/
section

section
variable {K : Frag} {w : World} {n k : Nat} {env : Env} {Γ Γ₁ Γ₂ Γ' : Gam} {C C' C₁ C₂ C₃ : List Cell} {P : Params}
set_option maxHeartbeats 4000000 in
theorem pct_meets {a b : Str} {t1 t2 t : Tok} {x : Addr} (ha : a.length ≤ 1000000) (hb : b.length ≤ 1000000) : Meets (Builtin.«str.__mod__» ⟨[.str ⟨#[37, 115, 58, 32, 37, 115]⟩ t, .ref x], []⟩) (fun _ R s => IsTup s.heap x #[.str a t1, .str b t2] ∧ ∀ t' k, R (.ok (.ret (.str (a ++ Str.ofString ": " ++ b) t'))) { s with toks := k }) := by
  kpt_run
theorem o_pct {a b : Str} (ha : a.length ≤ 1000000) (hb : b.length ≤ 1000000) : Op K w k C (tBin .Mod) [.d (.str (Str.ofString "%s: %s")), .d (.tup [.str a, .str b])] (.d (.str (a ++ Str.ofString ": " ++ b))) C := by
  have hX : Str.ofString "%s: %s" = ⟨#[37, 115, 58, 32, 37, 115]⟩ := by decide +kernel
  rw [hX]
  intro A s bb kp fs vs Q E hR S hv q
  have h_vs := RepAs.two hv; clear hv; obtain ⟨va, vb, rfl, h1, h2⟩ := h_vs
  obtain ⟨t, rfl⟩ := Rep.strI h1
  obtain ⟨x, vs, n, rfl, e, rl⟩ := Rep.tupI h2
  obtain ⟨v1, v2, rfl, r1, r2⟩ := rl.two
  obtain ⟨t1, rfl⟩ := r1.strI
  obtain ⟨t2, rfl⟩ := r2.strI
  have ht : IsTup s.heap x #[.str a t1, .str b t2] := ⟨_, S.base _ _ e, rfl, n, rfl⟩
  exact KPt.bin_left (T := "str") (U := "tuple") (op := .Mod) (by decide) (typeIs_str s _ t) ⟨_, S.base _ _ e, rfl⟩ F.fills_str_mod KPt.fills_tuple F.slot_str_mod
    (call_meets F.slot_str_mod (typeIs_str s _ t) F.entry_str_mod (F.args_str_mod_2 _ _) (pct_meets ha hb) ⟨ht, fun t' k => ⟨(fun e => nomatch e), q bb fs s.heap k _ Sub.refl Keep.refl S .str⟩⟩)
end

end
/-! H9 -/
section

noncomputable def hPair (p : Str × Str) : D := .tup [.str p.1, .str p.2]
noncomputable def lineZ (p : Str × Str) : Str := p.1 ++ Str.ofString ": " ++ p.2
noncomputable def pageZ (ps : List (Str × Str)) : Str := Txt.join (Str.ofString "\r\n") (ps.map lineZ ++ [Str.ofString "", Str.ofString ""])
section
variable {K : Frag} {w : World} {n k : Nat} {env : Env} {Γ Γ₁ Γ₂ Γ' : Gam} {C C' C₁ C₂ C₃ : List Cell} {P : Params}
theorem str_x {ps : List (Str × Str)} (hl : ps.length ≤ 100) (hs : ∀ p ∈ ps, p.1.length ≤ 1000 ∧ p.2.length ≤ 1000) (he : env.scope = stScope (clsAt 17 13)) : ExecT (KK P) w n k env [(Str.ofString "self", .loc (.d (.hdr (ps.map hPair))))] C (execs (stBody (clsAt 17 13)) env) (.ret (.d (.str (pageZ ps)))) C := by
  have hc : EvalTo (KK P) w k env [(Str.ofString "self", .loc (.d (.hdr (ps.map hPair))))] C (match nth (stBody (clsAt 17 13)) 0 with | .Return (some (.Call _ [.BinOp l _ _ _] _ _)) _ => l | _ => .Constant .none 0 ⟨0,0,0,0⟩) (.d (.list ((ps.map lineZ).map .str))) C := by
    refine @ev_comp_raw _ _ _ _ _ [] _ _ _ _ _ _ _ _ _ _ _ (@src_list _ _ _ _ _ _ _ _ _ _ (ev_headers (r := .d (.hdr (ps.map hPair))) (rl := .d (.list (ps.map hPair))) (@ev_n _ _ _ _ _ _ _ _ _ (by walk_at "lk") (by decide +kernel)) .d) .name) (by simp [sizeLine]; omega) (fun _ _ _ _ _ => ⟨[], by kernel_rfl, sees_none, fun a => ?_⟩) (nocells (by decide +kernel)) rfl (locnames (by decide +kernel)) (fun _ => rfl)
    rw [List.map_map, List.map_map]
    refine comp_map fun p hp => ⟨_, as_name (ckd (by decide +kernel)), ?b, GSub.nil⟩
    exact @ev_bin _ _ _ _ _ _ _ _ _ _ _ _ _ _ _ _ (@ev_str _ _ _ _ _ _ _ _ _) (@ev_n _ _ _ _ _ _ _ _ _ (by walk_at "lk") (by decide +kernel)) (@o_pct _ _ _ _ _ _ (by have := hs p hp; omega) (by have := hs p hp; omega))
  have e0 : ∀ z ∈ ps.map lineZ ++ [Str.ofString "", Str.ofString ""], z.length ≤ 2002 := fun z hz => by
    have e2 : (Str.ofString ": ").length = 2 := by decide +kernel
    rcases List.mem_append.mp hz with h | h
    · obtain ⟨p, hp, rfl⟩ := List.mem_map.mp h
      have := hs p hp
      have : (lineZ p).length = p.1.length + 2 + p.2.length := by
        unfold lineZ; rw [← e2]
        show (p.1.cps ++ (Str.ofString ": ").cps ++ p.2.cps).size = _
        rw [Array.size_append, Array.size_append]; rfl
      omega
    · simp only [List.mem_cons, List.not_mem_nil, or_false, or_self] at h
      subst h
      have : (Str.ofString "").length = 0 := by decide +kernel
      omega
  have hj : JoinOk (Str.ofString "\r\n") (ps.map lineZ ++ [Str.ofString "", Str.ofString ""]) = true := by
    unfold JoinOk
    have e2 : (Str.ofString "\r\n").length = 2 := by decide +kernel
    rw [StrLaws.joinFits (sep := Str.ofString "\r\n") (B := 2002) e0 (by rw [e2]; simp; omega)]; rfl
  refine @exs_ret _ _ _ _ _ _ _ _ _ _ _ (@ex_return _ _ _ _ _ _ _ _ _ _ _ ?_)
  refine @ev_meth _ _ _ _ _ _ _ _ _ _ _ _ _ _ _ _ _ _ _ (@ev_str _ _ _ _ _ _ _ _ _) (@mg_str _ _ _ _ _ _ _ PySem.F.slot_str_join PySem.F.type_str_join) rfl (.c (@ev_bin _ _ _ _ _ _ _ _ _ _ _ _ _ _ _ _ hc (ev_list (ds := [.str (Str.ofString ""), .str (Str.ofString "")]) (.c (@ev_str _ _ _ _ _ _ _ _ _) (.c (@ev_str _ _ _ _ _ _ _ _ _) .nil))) (o_addl (ds := (ps.map lineZ).map .str) .d .d (by simp [sizeLine]; omega))) .nil) (Op.eq (o_join (ys := ps.map lineZ ++ [Str.ofString "", Str.ofString ""]) (r := .d (.list ((ps.map lineZ).map .str ++ [.str (Str.ofString ""), .str (Str.ofString "")]))) ?_ hj) rfl) (he_gen (fun _ => rfl) (by rfl) (by rfl))
  rw [List.map_append]
  exact .d
theorem str_op {ps : List (Str × Str)} (hl : ps.length ≤ 100) (hs : ∀ p ∈ ps, p.1.length ≤ 1000 ∧ p.2.length ≤ 1000) : Op (KK P) w (k + 1) C (fun vs => call (.ref 194) vs []) [.d (.hdr (ps.map hPair))] (.d (.str (pageZ ps))) C :=
  fn1 (C₁ := []) (p := Str.ofString "self") def_194 (fun v => by kernel_rfl) (by kernel_rfl) (by kernel_rfl) (by trivial) (fun L => by rw [List.append_nil]; exact @str_x _ _ _ _ _ _ _ hl hs rfl)
theorem o_strH {ps : List (Str × Str)} (hl : ps.length ≤ 100) (hs : ∀ p ∈ ps, p.1.length ≤ 1000 ∧ p.2.length ≤ 1000) : Op (KK P) w (k + 2) C (fun vs => call (.type "str") vs []) [.d (.hdr (ps.map hPair))] (.d (.str (pageZ ps))) C := by
  intro A s b kp fs vs Q E hR S hv q
  have h_vs := RepAs.one hv; clear hv; obtain ⟨va, rfl, ha⟩ := h_vs
  obtain ⟨x, dx, hh, t, l, kk, rfl, h1, h2, _⟩ := HdrV.at (r := .d (.hdr (ps.map hPair))) (rl := .d (.list (ps.map hPair))) .d S ha
  have hd := hR.depth
  have hu := hR.units
  refine kso_call (by show A.units + 1 + 1 < _; omega) S.top_in (instAt_of h1 h2) (show findIn (KK P) (.ref hdrC) "__str__" = some (some (.ref 194)) from by rfl) (by rfl) ?_
  refine str_op (k := k) (C := C) hl hs A.in1.in1 s b kp fs [.ref x] _ _ ⟨by show A.depth + (k + 1) < _; omega, by show A.units + 1 + 1 + 8 * (k + 1) < _; omega, hR.handled, hR.frames⟩ S ⟨ha, trivial⟩ fun b' fs' h' tk v sb kf S' r => ?_
  cases r
  exact q b' fs' h' tk _ sb kf S' .str
theorem items_op {ds : List D} (hl : ds.length ≤ 1000) : Op (KK P) w (k + 1) C (fun vs => call (.ref 182) vs []) [.d (.hdr ds)] (.d (.list ds)) C :=
  fn1 (C₁ := []) (p := Str.ofString "self") def_182 (fun v => by kernel_rfl) (by kernel_rfl) (by kernel_rfl) (by trivial) (fun L => by
    rw [List.append_nil]
    have he : (envOf (codeOf P 182).qualname (codeOf P 182).scope L 182 (codeOf P 182).code).scope = stScope (clsAt 17 11) := rfl
    exact @exs_ret _ _ _ _ _ _ _ _ _ _ _ (@ex_return _ _ _ _ _ _ _ _ _ _ _ (@ev_sub _ _ _ _ _ _ _ _ _ _ _ _ _ _ _ _ _ (ev_headers (r := .d (.hdr ds)) (rl := .d (.list ds)) (@ev_n _ _ _ _ _ _ _ _ _ (by walk_at "lk") (by decide +kernel)) .d) (@ev_slice _ _ _ _ _ _ _ _ _ _ _ _ _ _ _ _ pt_none pt_none pt_none) LstV.d.ty list_getitem_lookup (@o_all _ _ _ _ _ _ .d (by simp [sizeLine]; omega)) (fun _ _ => .inr rfl))))
end

end
/-! H10 -/
section
noncomputable def cellsOf (n : Nat) : List Str → List (Str × Addr) → List (Str × Addr)
  | [], acc => acc
  | x :: r, acc => cellsOf (n + 1) r ((x, n) :: acc)
noncomputable def BxOk (b : PM) (fs : List Foot) (cm : Str → Option Value) : List Str → List (Option AV) → Prop
  | x :: cn, r :: bx => (match r with | none => True | some r => ∃ v, cm x = some v ∧ RepA b fs v r) ∧ BxOk b fs cm cn bx
  | [], [] => True
  | _, _ => False
theorem BxOk.mono {b : PM} {fs fs' : List Foot} {cm : Str → Option Value} (k : Keep fs.length fs fs') : ∀ {cn : List Str} {bx : List (Option AV)}, BxOk b fs cm cn bx → BxOk b fs' cm cn bx
  | [], [], _ => trivial
  | x :: cn, r :: bx, ⟨h1, h2⟩ => ⟨by cases r with
    | none => trivial
    | some r => obtain ⟨v, e, q⟩ := h1; exact ⟨v, e, q.mono Sub.refl k⟩, BxOk.mono k h2⟩
  | [], _ :: _, h => h.elim
  | _ :: _, [], h => h.elim
section
variable {K : Frag} {w : World} {n k : Nat} {Γ Γ₁ Γ₂ Γ' : Gam} {C C' C₁ C₂ C₃ : List Cell} {b : PM} {kp : Kp} {fs : List Foot} {h : Heap}
/-- a new cell whose objects stand already -/
theorem St.cellAt (S : St K b kp fs C h) {f : Foot} {c : Cell} (hn : ∀ p ∈ f, h.get? p.1 = some p.2 ∧ b p.1 = none ∧ (∀ q ∈ kp, q.1 ≠ p.1) ∧ ∀ q ∈ fs.flatten, q.1 ≠ p.1) (hd : (f.map (·.1)).Nodup) (hc : CellOk b (fs ++ [f]) c f) :
    St K b kp (fs ++ [f]) (C ++ [c]) h := by
  refine ⟨S.base, S.top, S.kept, fun p hp => ?_, ?_, ?_, fun i c' g hc' hg => ?_⟩
  · rw [List.flatten_append, List.mem_append] at hp
    rcases hp with hp | hp
    · exact S.foot p hp
    · simp only [List.flatten_cons, List.flatten_nil, List.append_nil] at hp
      obtain ⟨e1, e2, e3, _⟩ := hn p hp
      exact ⟨e1, e2, e3⟩
  · rw [List.flatten_append, List.map_append]
    simp only [List.flatten_cons, List.flatten_nil, List.append_nil]
    refine List.nodup_append.mpr ⟨S.nodup, hd, ?_⟩
    intro x hx y hy e
    obtain ⟨p, hp, rfl⟩ := List.mem_map.mp hx
    obtain ⟨q, hq, rfl⟩ := List.mem_map.mp hy
    exact (hn q hq).2.2.2 p hp e
  · simp [S.cells.1]
  · by_cases hi : i < C.length
    · rw [List.getElem?_append_left hi] at hc'
      rw [List.getElem?_append_left (by rw [S.cells.1]; exact hi)] at hg
      exact (S.cells.2 i c' g hc' hg).mono Sub.refl keep_append
    · have hi' := Nat.not_lt.mp hi
      have hi2 := hi'
      rw [← S.cells.1] at hi2
      rw [List.getElem?_append_right hi'] at hc'
      rw [List.getElem?_append_right hi2] at hg
      have z : i - C.length = 0 := by
        by_cases q : i - C.length = 0
        · exact q
        · rw [List.getElem?_eq_none (by simp; omega)] at hc'; cases hc'
      have z2 : i - fs.length = 0 := by rw [S.cells.1]; exact z
      rw [z] at hc'; rw [z2] at hg
      simp at hc' hg
      subst hc'; subst hg; exact hc
theorem boxes_to {cm : Str → Option Value} : ∀ (cn : List Str) (bx : List (Option AV)) (m : Nat) (fs : List Foot) (C : List Cell), St K b kp fs C h → (∀ i x, cn[i]? = some x → h.IsCell (m + i) (cm x)) →
    (∀ i, i < cn.length → b (m + i) = none ∧ (∀ q ∈ kp, q.1 ≠ m + i) ∧ ∀ q ∈ fs.flatten, q.1 ≠ m + i) → BxOk b fs cm cn bx →
    ∃ fs', fs'.length = fs.length + cn.length ∧ Keep fs.length fs fs' ∧ St K b kp fs' (C ++ bx.map Cell.box) h ∧ (∀ i x, cn[i]? = some x → ∃ f, fs'[fs.length + i]? = some f ∧ headA f = some (m + i)) ∧ ∀ p ∈ fs'.flatten, p ∈ fs.flatten ∨ m ≤ p.1
  | [], [], m, fs, C, S, _, _, _ => ⟨fs, by simp, Keep.refl, by simpa using S, fun i x e => by simp at e, fun p hp => .inl hp⟩
  | x :: cn, r :: bx, m, fs, C, S, hc, hf, ⟨h1, h2⟩ => by
    obtain ⟨o, ho, hd⟩ := hc 0 x rfl
    have f0 := hf 0 (by simp)
    have S' : St K b kp (fs ++ [[(m, o)]]) (C ++ [.box r]) h := S.cellAt (fun p hp => by simp at hp; subst hp; exact ⟨ho, f0⟩) (by simp) (by
      cases r with
      | none => exact ⟨m, o, cm x, rfl, hd⟩
      | some r =>
        obtain ⟨v, e, q⟩ := h1
        rw [e] at hd
        exact ⟨m, o, v, rfl, hd, q.mono Sub.refl keep_append⟩)
    obtain ⟨fs', l1, l2, l3, l4, l5⟩ := boxes_to cn bx (m + 1) (fs ++ [[(m, o)]]) (C ++ [.box r]) S' (fun i y e => by
      have := hc (i + 1) y (by simpa using e)
      rwa [show m + (i + 1) = m + 1 + i from by omega] at this) (fun i hi => by
      have := hf (i + 1) (by simp; omega)
      rw [show m + (i + 1) = m + 1 + i from by omega] at this
      refine ⟨this.1, this.2.1, fun q hq => ?_⟩
      rw [List.flatten_append, List.mem_append] at hq
      rcases hq with hq | hq
      · exact this.2.2 q hq
      · simp at hq; subst hq; show m ≠ _; omega) (h2.mono keep_append)
    refine ⟨fs', by simp at l1; simp; omega, keep_append.then l2, by simpa using l3, fun i y e => ?_, fun p hp => ?_⟩
    · cases i with
      | zero =>
        obtain ⟨f', e', z⟩ := l2 fs.length [(m, o)] (by simp) (by simp)
        exact ⟨f', e', z⟩
      | succ i =>
        obtain ⟨f, e1, e2⟩ := l4 i y (by simpa using e)
        exact ⟨f, by simpa [Nat.add_assoc, Nat.add_comm 1] using e1, by rw [e2]; congr 1; omega⟩
    · rcases l5 p hp with hp | hp
      · rw [List.flatten_append, List.mem_append] at hp
        rcases hp with hp | hp
        · exact .inl hp
        · simp at hp; subst hp; exact .inr (Nat.le_refl _)
      · exact .inr (by omega)
  | [], _ :: _, _, _, _, _, _, _, h => h.elim
  | _ :: _, [], _, _, _, _, _, _, h => h.elim
theorem cellsOf_look : ∀ (cn : List Str) (m : Nat) (acc : List (Str × Addr)) (i : Nat) (x : Str), cn[i]? = some x → cn.Nodup → (cellsOf m cn acc).lookup x = some (m + i)
  | [], m, acc, i, x, e, _ => by simp at e
  | y :: cn, m, acc, 0, x, e, nd => by
    simp at e; subst e
    have : ∀ (cn : List Str) (m : Nat) (acc : List (Str × Addr)), y ∉ cn → (cellsOf m cn acc).lookup y = acc.lookup y := by
      intro cn
      induction cn with
      | nil => intro m acc _; rfl
      | cons z cn ih =>
        intro m acc hz
        simp at hz
        show (cellsOf (m + 1) cn ((z, m) :: acc)).lookup y = _
        rw [ih _ _ hz.2, List.lookup_cons]
        have q : (y == z) = false := by simpa using hz.1
        rw [q]
    show (cellsOf (m + 1) cn ((y, m) :: acc)).lookup y = _
    rw [this _ _ _ (List.nodup_cons.mp nd).1, List.lookup_cons]
    simp
  | y :: cn, m, acc, i + 1, x, e, nd => by
    have := cellsOf_look cn (m + 1) ((y, m) :: acc) i x (by simpa using e) (List.nodup_cons.mp nd).2
    show (cellsOf (m + 1) cn ((y, m) :: acc)).lookup x = _
    rw [this]; congr 1; omega
end

end
/-! H11 -/
section
section
variable {K : Frag} {w : World} {n k : Nat} {Γ₁ Γ₂ Γ' : Gam} {C C' C₁ C₂ C₃ : List Cell}
theorem call_fnB {a : Addr} {fd : FuncData} {body : List Stmt} {ps cn : List Str} {bx : List (Option AV)} {kw : List (Str × Value)} {args : List AV} {r : AV} {Γ : Gam}
    (D : DefAt K a fd body) (hlim : Lim K)
    (hbind : ∀ (s : Shared) (vs : List Value), K.In s.heap → vs.length = args.length → BindsTo s fd ⟨vs, kw⟩ (ps.zip vs))
    (hcells : ∀ m, cellsFrom m fd.scope.names [] = cellsOf m cn []) (hcn : cn.Nodup) (hbx : bx.length = cn.length)
    (hkind : ∀ p ∈ ps, fd.scope.names.lookup p = some .local ∨ (fd.scope.names.lookup p = some .cell ∧ p ∈ cn))
    (hB : ∀ b fs vs, RepAs b fs vs args → BxOk b fs (bindC (fun y => fd.scope.names.lookup y) (ps.zip vs) fun _ => none) cn bx)
    (hL : ∀ b fs vs, RepAs b fs vs args → ∀ x r, Γ.lookup x = some (.loc r) → fd.scope.names.lookup x = some .local ∧ ∃ v, bindL (fun y => fd.scope.names.lookup y) (ps.zip vs) (fun _ => none) x = some v ∧ RepA b fs v r)
    (hX : ∀ x j, Γ.lookup x = some (.box j) → fd.scope.names.lookup x = some .cell ∧ ∃ i, cn[i]? = some x ∧ j = C.length + i)
    (hC : (∀ c ∈ C, ∀ j ∈ c.refs, j < C.length) → ∀ c ∈ C', ∀ j ∈ c.refs, j < C.length) (hlen : C'.length = C.length) (hr : r.closed C.length)
    (h : ∀ L, ExecT K w C.length k (envOfC fd.qualname fd.scope L a fd.code) Γ (C ++ bx.map Cell.box) (execs body (envOfC fd.qualname fd.scope L a fd.code)) (.ret r) (C' ++ C₁)) :
    Op K w (k + 1) C (fun vs => call (.ref a) vs kw) args r C' := by
  intro A s b kp fs vs Q E hR S hv q
  obtain ⟨oc, od, osl, ho⟩ := D.at_
  obtain ⟨lo, les, lep, l1, l2, l3, l4⟩ := hlim.ex
  have hdep := hR.depth
  have huni := hR.units
  refine wpAny_call (codeAny_call_function (fd := fd) (body := body) (by omega) (S.top_in _ _ ho) rfl D.co D.gen D.body (codeRec_of S.top_in D.code) ?_)
  refine (hbind s vs S.top_in hv.length) _ _ _ _ ?_
  rw [D.cl, D.gl, D.bu]
  refine wpAny_newFunctionEnv_cells D.kind (fun x hx => ?_) fun env' he s' x => ?_
  · rcases hkind _ (List.of_mem_zip hx).1 with h | ⟨h, hm⟩
    · exact .inl h
    · obtain ⟨i, hi, e⟩ := List.getElem_of_mem hm
      exact .inr ⟨h, by rw [hcells, cellsOf_look cn _ [] i x.1 (by rw [List.getElem?_eq_getElem hi, e]) hcn]; rfl⟩
  have henv : env' = envOfC fd.qualname fd.scope s.heap.objs.size a fd.code := he
  subst henv
  have hk := x.toInCall.keep
  obtain ⟨h₁, tk, rfl, _⟩ := x.done
  have S' : St K b kp fs C h₁ := S.keeps hk
  refine ⟨S'.nolimit l1 l2 l3 l4, ?_⟩
  show codeAny _ _ (.func body (envOfC fd.qualname fd.scope s.heap.objs.size a fd.code)) _ _
  refine codeAny_func ?_
  have hcells' : (envOfC fd.qualname fd.scope s.heap.objs.size a fd.code).cells = cellsOf (s.heap.objs.size + 1) cn [] := hcells _
  have hfresh : ∀ c, s.heap.objs.size ≤ c → b c = none ∧ (∀ q ∈ kp, q.1 ≠ c) ∧ ∀ q ∈ fs.flatten, q.1 ≠ c := fun c hc => S.fresh (Heap.get?_none_of_le hc)
  obtain ⟨fs₁, e1, kf₁, S₁, e2, e3⟩ := boxes_to (h := h₁) (cm := bindC (envOfC fd.qualname fd.scope s.heap.objs.size a fd.code).kindOf (ps.zip vs) fun _ => none) cn bx (s.heap.objs.size + 1) fs C S' (fun i y e => x.cell y _ (by rw [hcells']; exact cellsOf_look cn _ [] i y e hcn)) (fun i hi => hfresh _ (by omega)) (hB _ _ _ hv)
  have hv₁ := hv.mono (Sub.refl (b := b)) kf₁
  have F' : Frm b kp fs₁ (envOfC fd.qualname fd.scope s.heap.objs.size a fd.code) Γ h₁ := by
    have f0 := hfresh _ (Nat.le_refl _)
    refine ⟨D.kind, rfl, rfl, ⟨f0.1, f0.2.1, fun p hp z => ?_⟩, _, x.toInCall.ns, fun y r hy => ?_⟩
    · rcases e3 p hp with hp | hp
      · exact f0.2.2 p hp z
      · rw [z] at hp; exact absurd hp (by show ¬ (s.heap.objs.size + 1 ≤ s.heap.objs.size); omega)
    · cases r with
      | loc r => exact hL _ _ _ hv₁ y r hy
      | box j =>
        obtain ⟨h1, i, h2, rfl⟩ := hX y j hy
        obtain ⟨f, h3, h4⟩ := e2 i y h2
        rw [S.len] at h3
        exact ⟨.inl h1, _, f, by rw [hcells']; exact cellsOf_look cn _ [] i y h2 hcn, h3, h4⟩
  have hR' : Room k (okL kp s.heap.objs.size) (A.deeper (envOfC fd.qualname fd.scope s.heap.objs.size a fd.code)) := by
    refine ⟨by show A.depth + 1 + k < _; omega, by show A.units + 3 + 8 * k < _; omega, hR.handled, ?_⟩
    obtain ⟨outer, e, hx⟩ := hR.frames
    refine ⟨envOfC fd.qualname fd.scope s.heap.objs.size a fd.code :: outer, by show A.frames.map _ = _; rw [e]; rfl, fun x hxm => ?_⟩
    rcases List.mem_cons.mp hxm with rfl | hxm
    · exact ⟨by show fd.scope.kind ≠ .module; rw [D.kind]; decide, _, rfl, .inl rfl⟩
    · obtain ⟨a1, L, a2, a3⟩ := hx x hxm
      exact ⟨a1, L, a2, .inr a3⟩
  refine h _ _ _ b kp fs₁ _ _ hR' S₁ F' (by rw [S₁.len]; simp) fun b' fs' h'' tk f sb kf hn' S'' hf => ?_
  obtain ⟨v, rfl, rv⟩ := hf
  have hlt : (C' ++ C₁).take C.length = C' := by rw [← hlen, List.take_left]
  have S₃ := S''.drop C.length fun i c hi hc g hg => (S''.cells.2 i c g hc hg).take fun j hj => by
    refine hC S.closed c ?_ j hj
    rw [List.getElem?_append_left (by omega)] at hc
    exact List.mem_of_getElem? hc
  rw [hlt] at S₃
  refine q b' (fs'.take C.length) h'' tk v sb (fun i g hi hg => ?_) S₃ (rv.take hr)
  have hi' : i < C.length := by rw [← S.len]; exact hi
  obtain ⟨g1, e1', z1⟩ := kf₁ i g hi hg
  obtain ⟨g', e', z⟩ := kf i g1 hi' e1'
  exact ⟨g', by rw [List.getElem?_take, if_pos hi']; exact e', z.trans z1⟩
theorem call_fnBS {a : Addr} {fd : FuncData} {body : List Stmt} {ps cn : List Str} {bx : List (Option AV)} {kw : List (Str × Value)} {args : List AV} {r : AV} {Γ : Gam}
    (D : DefAt K a fd body) (hlim : Lim K)
    (hbind : ∀ (s : Shared) (vs : List Value), K.In s.heap → vs.length = args.length → BindsTo s fd ⟨vs, kw⟩ (ps.zip vs))
    (hcells : ∀ m, cellsFrom m fd.scope.names [] = cellsOf m cn []) (hcn : cn.Nodup) (hbx : bx.length = cn.length)
    (hkind : ∀ p ∈ ps, fd.scope.names.lookup p = some .local ∨ (fd.scope.names.lookup p = some .cell ∧ p ∈ cn))
    (hB : ∀ b fs vs, RepAs b fs vs args → BxOk b fs (bindC (fun y => fd.scope.names.lookup y) (ps.zip vs) fun _ => none) cn bx)
    (hL : ∀ b fs vs, RepAs b fs vs args → ∀ x r, Γ.lookup x = some (.loc r) → fd.scope.names.lookup x = some .local ∧ ∃ v, bindL (fun y => fd.scope.names.lookup y) (ps.zip vs) (fun _ => none) x = some v ∧ RepA b fs v r)
    (hX : ∀ x j, Γ.lookup x = some (.box j) → fd.scope.names.lookup x = some .cell ∧ ∃ i, cn[i]? = some x ∧ j = C.length + i)
    (hC : (∀ c ∈ C, ∀ j ∈ c.refs, j < C.length) → ∀ c ∈ C', ∀ j ∈ c.refs, j < C.length) (hlen : C'.length = C.length) (hr : r.closed C.length)
    (h : ∀ L, ExecS K w C.length k (envOfC fd.qualname fd.scope L a fd.code) Γ (C ++ bx.map Cell.box) (execs body (envOfC fd.qualname fd.scope L a fd.code)) (.ret r) (C' ++ C₁)) :
    OpS K w (k + 1) C (fun vs => call (.ref a) vs kw) args r C' := by
  intro A s b kp fs vs Q E hG hR S hv q
  obtain ⟨oc, od, osl, ho⟩ := D.at_
  obtain ⟨lo, les, lep, l1, l2, l3, l4⟩ := hlim.ex
  have hdep := hR.depth
  have huni := hR.units
  refine wpAny_call (codeAny_call_function (fd := fd) (body := body) (by omega) (S.top_in _ _ ho) rfl D.co D.gen D.body (codeRec_of S.top_in D.code) ?_)
  refine (hbind s vs S.top_in hv.length) _ _ _ _ ?_
  rw [D.cl, D.gl, D.bu]
  refine wpAny_newFunctionEnv_cells D.kind (fun x hx => ?_) fun env' he s' x => ?_
  · rcases hkind _ (List.of_mem_zip hx).1 with h | ⟨h, hm⟩
    · exact .inl h
    · obtain ⟨i, hi, e⟩ := List.getElem_of_mem hm
      exact .inr ⟨h, by rw [hcells, cellsOf_look cn _ [] i x.1 (by rw [List.getElem?_eq_getElem hi, e]) hcn]; rfl⟩
  have henv : env' = envOfC fd.qualname fd.scope s.heap.objs.size a fd.code := he
  subst henv
  have hk := x.toInCall.keep
  obtain ⟨h₁, tk, rfl, _⟩ := x.done
  have S' : St K b kp fs C h₁ := S.keeps hk
  refine ⟨S'.nolimit l1 l2 l3 l4, ?_⟩
  show codeAny _ _ (.func body (envOfC fd.qualname fd.scope s.heap.objs.size a fd.code)) _ _
  refine codeAny_func ?_
  have hcells' : (envOfC fd.qualname fd.scope s.heap.objs.size a fd.code).cells = cellsOf (s.heap.objs.size + 1) cn [] := hcells _
  have hfresh : ∀ c, s.heap.objs.size ≤ c → b c = none ∧ (∀ q ∈ kp, q.1 ≠ c) ∧ ∀ q ∈ fs.flatten, q.1 ≠ c := fun c hc => S.fresh (Heap.get?_none_of_le hc)
  obtain ⟨fs₁, e1, kf₁, S₁, e2, e3⟩ := boxes_to (h := h₁) (cm := bindC (envOfC fd.qualname fd.scope s.heap.objs.size a fd.code).kindOf (ps.zip vs) fun _ => none) cn bx (s.heap.objs.size + 1) fs C S' (fun i y e => x.cell y _ (by rw [hcells']; exact cellsOf_look cn _ [] i y e hcn)) (fun i hi => hfresh _ (by omega)) (hB _ _ _ hv)
  have hv₁ := hv.mono (Sub.refl (b := b)) kf₁
  have F' : Frm b kp fs₁ (envOfC fd.qualname fd.scope s.heap.objs.size a fd.code) Γ h₁ := by
    have f0 := hfresh _ (Nat.le_refl _)
    refine ⟨D.kind, rfl, rfl, ⟨f0.1, f0.2.1, fun p hp z => ?_⟩, _, x.toInCall.ns, fun y r hy => ?_⟩
    · rcases e3 p hp with hp | hp
      · exact f0.2.2 p hp z
      · rw [z] at hp; exact absurd hp (by show ¬ (s.heap.objs.size + 1 ≤ s.heap.objs.size); omega)
    · cases r with
      | loc r => exact hL _ _ _ hv₁ y r hy
      | box j =>
        obtain ⟨h1, i, h2, rfl⟩ := hX y j hy
        obtain ⟨f, h3, h4⟩ := e2 i y h2
        rw [S.len] at h3
        exact ⟨.inl h1, _, f, by rw [hcells']; exact cellsOf_look cn _ [] i y h2 hcn, h3, h4⟩
  have hR' : Room k (okL kp s.heap.objs.size) (A.deeper (envOfC fd.qualname fd.scope s.heap.objs.size a fd.code)) := by
    refine ⟨by show A.depth + 1 + k < _; omega, by show A.units + 3 + 8 * k < _; omega, hR.handled, ?_⟩
    obtain ⟨outer, e, hx⟩ := hR.frames
    refine ⟨envOfC fd.qualname fd.scope s.heap.objs.size a fd.code :: outer, by show A.frames.map _ = _; rw [e]; rfl, fun x hxm => ?_⟩
    rcases List.mem_cons.mp hxm with rfl | hxm
    · exact ⟨by show fd.scope.kind ≠ .module; rw [D.kind]; decide, _, rfl, .inl rfl⟩
    · obtain ⟨a1, L, a2, a3⟩ := hx x hxm
      exact ⟨a1, L, a2, .inr a3⟩
  refine h _ _ _ b kp fs₁ _ _ hG (by obtain ⟨outer, e, _⟩ := hR.frames; exact ⟨outer, by show A.frames.map _ = _; rw [e]; rfl⟩) hR' S₁ F' (by rw [S₁.len]; simp) fun b' fs' h'' tk f sb kf hn' S'' hf => ?_
  obtain ⟨v, rfl, rv⟩ := hf
  have hlt : (C' ++ C₁).take C.length = C' := by rw [← hlen, List.take_left]
  have S₃ := S''.drop C.length fun i c hi hc g hg => (S''.cells.2 i c g hc hg).take fun j hj => by
    refine hC S.closed c ?_ j hj
    rw [List.getElem?_append_left (by omega)] at hc
    exact List.mem_of_getElem? hc
  rw [hlt] at S₃
  refine q b' (fs'.take C.length) h'' tk v sb (fun i g hi hg => ?_) S₃ (rv.take hr)
  have hi' : i < C.length := by rw [← S.len]; exact hi
  obtain ⟨g1, e1', z1⟩ := kf₁ i g hi hg
  obtain ⟨g', e', z⟩ := kf i g1 hi' e1'
  exact ⟨g', by rw [List.getElem?_take, if_pos hi']; exact e', z.trans z1⟩
end

end
/-! H12 -/
section

theorem lookup_relabel_free {env : Env} : ∀ {names : List (Str × NameKind)} {x : Str}, names.lookup x = some .free →
    (names.map fun (n, k) => if (k == NameKind.free && env.scope.kind == .function && env.kindOf n == some .cell) then (n, NameKind.cell) else (n, k)).lookup x = some .cell ∨ (names.map fun (n, k) => if (k == NameKind.free && env.scope.kind == .function && env.kindOf n == some .cell) then (n, NameKind.cell) else (n, k)).lookup x = some .free
  | [], _, h => by simp at h
  | (n, k) :: r, x, h => by
    have ih := @lookup_relabel_free env r x
    show List.lookup x ((if (k == NameKind.free && env.scope.kind == .function && env.kindOf n == some .cell) = true then (n, NameKind.cell) else (n, k)) :: _) = _ ∨ List.lookup x ((if (k == NameKind.free && env.scope.kind == .function && env.kindOf n == some .cell) = true then (n, NameKind.cell) else (n, k)) :: _) = _
    cases hx : x == n with
    | true =>
      simp only [List.lookup_cons, hx] at h
      cases h
      split
      · left; simp [List.lookup_cons, hx]
      · right; simp [List.lookup_cons, hx]
    | false =>
      simp only [List.lookup_cons, hx] at h
      have := ih h
      split <;> simpa [List.lookup_cons, hx] using this
section
variable {K : Frag} {w : World} {n k : Nat} {env : Env} {Γ Γ₁ Γ₂ Γ' : Gam} {C C' C₁ C₂ C₃ : List Cell} {P : Params} {b : PM} {kp : Kp} {fs : List Foot} {h : Heap}
theorem closure_one {scope : Scope} {x : Str} {c : Addr} (hn : (scope.names.filter fun p => p.2 == NameKind.free) = [(x, NameKind.free)]) (hx : env.cells.lookup x = some c) : closureFor scope env = pure [(x, c)] := by
  have e0 : cellOf env x = pure c := by unfold cellOf; rw [hx]
  have none : ∀ (l : List (Str × NameKind)) (acc : List (Str × Addr)), (l.filter fun p => p.2 == NameKind.free) = [] → (forIn l acc fun (q : Str × NameKind) (cs : List (Str × Addr)) => (if (q.2 == NameKind.free) = true then do let a ← cellOf env q.1; pure (ForInStep.yield ((q.1, a) :: cs)) else pure (ForInStep.yield cs) : Sem (ForInStep (List (Str × Addr))))) = pure acc := by
    intro l
    induction l with
    | nil => intro acc _; rfl
    | cons q l ih =>
      intro acc h
      cases hq : q.2 == NameKind.free with
      | true => simp [hq] at h
      | false =>
        simp [hq] at h
        rw [List.forIn_cons]
        simp only [hq, Bool.false_eq_true, if_false, pure_bind]
        exact ih acc (by simpa using h)
  have one : ∀ (l : List (Str × NameKind)), (l.filter fun p => p.2 == NameKind.free) = [(x, NameKind.free)] → (forIn l ([] : List (Str × Addr)) fun (q : Str × NameKind) (cs : List (Str × Addr)) => (if (q.2 == NameKind.free) = true then do let a ← cellOf env q.1; pure (ForInStep.yield ((q.1, a) :: cs)) else pure (ForInStep.yield cs) : Sem (ForInStep (List (Str × Addr))))) = pure [(x, c)] := by
    intro l
    induction l with
    | nil => intro h; simp at h
    | cons q l ih =>
      intro h
      cases hq : q.2 == NameKind.free with
      | true =>
        simp only [List.filter_cons, hq, if_true] at h
        injection h with h1 h2
        subst h1
        rw [List.forIn_cons]
        simp only [hq, if_true, e0, pure_bind]
        exact none l _ h2
      | false =>
        simp only [List.filter_cons, hq, Bool.false_eq_true, if_false] at h
        rw [List.forIn_cons]
        simp only [hq, Bool.false_eq_true, if_false, pure_bind]
        exact ih h
  have := one scope.names hn
  simp only [closureFor]
  refine (congrArg (fun t : Sem (List (Str × Addr)) => t >>= fun cs => pure cs) this).trans rfl
theorem clos_box {scope : Scope} {x : Str} {i : Nat} (hc : (scope.names.filter fun p => p.2 == NameKind.free) = [(x, NameKind.free)]) (hf : (scope.names.lookup x == some .free) = true) (hx : Γ.lookup x = some (.box i)) (F : Frm b kp fs env Γ h) :
    ∃ cl, closureFor scope env = pure cl ∧ SeesBox scope cl env fs [(x, .box i)] := by
  obtain ⟨m, hn, hv⟩ := F.ns
  obtain ⟨_, c, f, hcells, hf', hh⟩ := hv x _ hx
  refine ⟨[(x, c)], ?_, fun a y r hy => ?_⟩
  · exact closure_one hc hcells
  · rw [List.lookup_cons] at hy
    split at hy
    · rename_i q
      cases hy
      have q' := beq_iff_eq.mp q
      subst q'
      refine ⟨i, c, f, rfl, ?_, by simp, hf', hh⟩
      exact lookup_relabel_free (by simpa using hf)
    · cases hy
theorem ev_comp_box {target elt iter : Expr} {ifs : List Expr} {scope : Scope} {pos : Pos} {items : List Item} {ys : List D} {x : Str} {i : Nat} (hs : SrcTo K w k env Γ C iter target items C₁) (hz : items.length ≤ sizeLine)
    (hc : (scope.names.filter fun p => p.2 == NameKind.free) = [(x, NameKind.free)]) (hf : (scope.names.lookup x == some .free) = true) (hx : Γ.lookup x = some (.box i))
    (L : ∀ a cl, CompTo K w k (compEnvC scope cl a env) target ifs elt items [(x, .box i)] C₁ ys C') (hcell : (scope.names.all fun x => x.2 != .cell) = true) (hk : scope.kind = .function) (hn : (scope.names.all fun y => y.2 != .local || scope.names.lookup y.1 == some .local) = true)
    (hfo : ∀ x, foldedSetIterable iter env x = pure x) : EvalTo K w k env Γ C (.ListComp elt [⟨target, iter, ifs, 0⟩] scope pos) (.d (.list ys)) C' :=
  ev_comp_raw (Γc := [(x, .box i)]) hs hz (fun _ _ _ _ F => by
    obtain ⟨cl, h1, h2⟩ := clos_box hc hf hx F
    exact ⟨cl, h1, h2, fun a => L a cl⟩) (nocells hcell) hk (locnames hn) hfo
theorem getall_x {ps : List (Str × Str)} {nm : Str} (hl : ps.length ≤ 100) (hz : Builtin.Str.tooLong (Txt.lower nm).length = false) (hp : plainS (Txt.lower nm)) (hs : ∀ p ∈ ps, Builtin.Str.tooLong (Txt.lower p.1).length = false) (he : env.scope = stScope (clsAt 17 7)) :
    ExecT (KK P) w n (k + 1) env [(Str.ofString "self", .loc (.d (.hdr (ps.map hPair)))), (Str.ofString "name", .box C.length)] (C ++ [.box (some (.d (.str nm)))]) (execs (stBody (clsAt 17 7)) env)
      (.ret (.d (.list ((ps.filter fun p => (Txt.lower p.1).cps.toList == (Txt.lower nm).cps.toList).map fun p => .str p.2)))) (C ++ [.box (some (.d (.str (Txt.lower nm))))]) := by
  have V : ∀ C : List Cell, HdrV C (.d (.hdr (ps.map hPair))) (.d (.list (ps.map hPair))) := fun _ => .d
  have eset : (C ++ [Cell.box (some (.d (.str nm)))]).set C.length (.box (some (.d (.str (Txt.lower nm))))) = C ++ [.box (some (.d (.str (Txt.lower nm))))] := by simp
  refine exs_cons (C₁ := C ++ [.box (some (.d (.str (Txt.lower nm))))]) (ExecT.cells (@ex_bind _ _ _ _ _ _ _ _ _ _ _ _ _ _ (@ev_meth_kw _ _ _ _ _ _ _ _ _ _ _ _ _ _ _ _ _ _ _ _ _ _ _ (@ev_n _ _ _ _ _ _ _ _ _ (by walk_at "lk") (by decide +kernel)) (mg_hdr (V _) (f := 119) (by rfl) (by rfl) (by decide +kernel)) rfl
    (.c (@ev_meth _ _ _ _ _ _ _ _ _ _ _ _ _ _ _ _ _ _ _ (ev_box (by walk_at "lk") (get_1 _ _) (by decide +kernel) (by decide +kernel)) (@mg_str _ _ _ _ _ _ _ PySem.F.slot_str_lower PySem.F.type_str_lower) rfl .nil (@o_lower _ _ _ _ _ hz) (he_gen (fun _ => rfl) (by rfl) (by rfl))) .nil) (@ev_bool _ _ _ _ _ _ _ _ _) (@conv_op _ _ _ _ _ _ _ (by have := hp.1; omega) hp.2) rfl)
    (@as_box _ _ _ _ _ _ _ _ _ _ (kd he (by decide +kernel)) (by walk_at "lk") (get_1 _ _)) (by kernel_rfl) (by kernel_rfl) rfl) (by rw [eset])) ?_
  refine @exs_ret _ _ _ _ _ _ _ _ _ _ _ (@ex_return _ _ _ _ _ _ _ _ _ _ _ (ev_comp_box (x := Str.ofString "name") (i := C.length) (@src_list _ _ _ _ _ _ _ _ _ _ (ev_headers (r := .d (.hdr (ps.map hPair))) (rl := .d (.list (ps.map hPair))) (@ev_n _ _ _ _ _ _ _ _ _ (by walk_at "lk") (by decide +kernel)) .d) .name) (by simp [sizeLine]; omega) (by rfl) (by decide +kernel) (by walk_at "lk") (fun a cl => ?_) (by decide +kernel) rfl (by decide +kernel) (fun _ => rfl)))
  rw [List.map_map]
  refine comp_filter fun p hp => ⟨_, as_name (ckd (by decide +kernel)), .one ?t, fun _ => ?e, GSub.c (by walk_at "lk") GSub.nil⟩
  · exact @tst_cmp _ _ _ _ _ _ _ _ _ _ _ _ _ _ _ _ (@ev_meth _ _ _ _ _ _ _ _ _ _ _ _ _ _ _ _ _ _ _ (@ev_sub _ _ _ _ _ _ _ _ _ _ _ _ _ _ _ _ _ (@ev_n _ _ _ _ _ _ _ _ _ (by walk_at "lk") (by decide +kernel)) (@ev_int _ _ _ _ _ _ _ _ _) ty_tup PySem.F.slot_tuple_getitem.lookup (o_gett (d := .str p.1) (by decide) (by decide) rfl) (fun _ _ => .inl rfl)) (@mg_str _ _ _ _ _ _ _ PySem.F.slot_str_lower PySem.F.type_str_lower) rfl .nil (@o_lower _ _ _ _ _ (hs p hp)) (he_gen (fun _ => rfl) (by rfl) (by rfl))) (ev_box (by walk_at "lk") (get_1 _ _) (by decide +kernel) (by decide +kernel)) (@o_eqs _ _ _ _ _ _) rfl
  · exact @ev_sub _ _ _ _ _ _ _ _ _ _ _ _ _ _ _ _ _ (@ev_n _ _ _ _ _ _ _ _ _ (by walk_at "lk") (by decide +kernel)) (@ev_int _ _ _ _ _ _ _ _ _) ty_tup PySem.F.slot_tuple_getitem.lookup (o_gett (d := .str p.2) (by decide) (by decide) rfl) (fun _ _ => .inl rfl)
end

end
/-! H13 -/
section

section
variable {K : Frag} {w : World} {n k : Nat} {env : Env} {Γ Γ₁ Γ₂ Γ' : Gam} {C C' C₁ C₂ C₃ : List Cell} {P : Params} {b : PM} {kp : Kp} {fs : List Foot} {h : Heap}
theorem look2 {α : Type} {a b x : Str} {u v r : α} (h : List.lookup x [(a, u), (b, v)] = some r) : (x = a ∧ r = u) ∨ (x = b ∧ r = v) := by
  rw [List.lookup_cons] at h
  split at h
  · rename_i q; cases h; exact .inl ⟨beq_iff_eq.mp q, rfl⟩
  · rw [List.lookup_cons] at h
    split at h
    · rename_i q; cases h; exact .inr ⟨beq_iff_eq.mp q, rfl⟩
    · cases h
theorem bind_157 (v v' : Value) : bindArgs (codeOf P 157) ⟨[v, v'], []⟩ = pure [(Str.ofString "self", v), (Str.ofString "name", v')] := by kernel_rfl
theorem kd157a : (codeOf P 157).scope.names.lookup (Str.ofString "self") = some .local := by kernel_rfl
theorem kd157b : (codeOf P 157).scope.names.lookup (Str.ofString "name") = some .cell := by kernel_rfl
theorem cells157 (m : Nat) : cellsFrom m (codeOf P 157).scope.names [] = cellsOf m [Str.ofString "name"] [] := by kernel_rfl
theorem getall_op {ps : List (Str × Str)} {nm : Str} (hl : ps.length ≤ 100) (hz : Builtin.Str.tooLong (Txt.lower nm).length = false) (hp : plainS (Txt.lower nm)) (hs : ∀ p ∈ ps, Builtin.Str.tooLong (Txt.lower p.1).length = false) :
    Op (KK P) w (k + 2) C (fun vs => call (.ref 157) vs []) [.d (.hdr (ps.map hPair)), .d (.str nm)] (.d (.list ((ps.filter fun p => (Txt.lower p.1).cps.toList == (Txt.lower nm).cps.toList).map fun p => .str p.2))) C := by
  refine call_fnB (C₁ := [.box (some (.d (.str (Txt.lower nm))))]) (ps := [Str.ofString "self", Str.ofString "name"]) (cn := [Str.ofString "name"]) (bx := [some (.d (.str nm))]) (Γ := [(Str.ofString "self", .loc (.d (.hdr (ps.map hPair)))), (Str.ofString "name", .box C.length)])
    def_157 (KK_lim P) (fun s vs X hl => by obtain ⟨v, v', rfl⟩ := len2 hl; exact @BindsTo.of_eq _ _ _ _ (bind_157 v v')) cells157 (by simp) rfl (fun q hq => ?_) (fun b fs vs hv => ?_) (fun b fs vs hv x r hx => ?_) (fun x j hx => ?_) (fun h => h) rfl (by trivial) (fun L => ?_)
  · simp at hq
    rcases hq with rfl | rfl
    · exact .inl kd157a
    · exact .inr ⟨kd157b, by simp⟩
  · have h_vs := RepAs.two hv; clear hv; obtain ⟨v, v', rfl, h1, h2⟩ := h_vs
    refine ⟨⟨v', ?_, h2⟩, trivial⟩
    simp [bindC, kd157a, kd157b]
  · have h_vs := RepAs.two hv; clear hv; obtain ⟨v, v', rfl, h1, h2⟩ := h_vs
    rcases look2 hx with ⟨rfl, e⟩ | ⟨rfl, e⟩
    · cases e
      refine ⟨kd157a, v, ?_, h1⟩
      simp [bindL, kd157a, kd157b]
    · cases e
  · rcases look2 hx with ⟨rfl, e⟩ | ⟨rfl, e⟩
    · cases e
    · cases e
      exact ⟨kd157b, 0, rfl, rfl⟩
  · have he : (envOfC (codeOf P 157).qualname (codeOf P 157).scope L 157 (codeOf P 157).code).scope = stScope (clsAt 17 7) := rfl
    exact @getall_x _ _ _ _ _ _ _ _ hl hz hp hs he
end

end
/-! L1 -/
section

/-- a slice with a step -/
noncomputable def pickI (xs : List Int) (lo hi st : Option Int) : List Int := (sliceRange (sliceBounds lo hi st xs.length).1 (sliceBounds lo hi st xs.length).2.1 (sliceBounds lo hi st xs.length).2.2).filterMap (xs[·]?)
theorem repL_pick {b : PM} {vs : List Value} {ds : List D} (r : RepL b vs ds) : ∀ idx : List Nat, RepL b (idx.filterMap (vs[·]?)) (idx.filterMap (ds[·]?))
  | [] => .nil
  | i :: idx => by
    have ih := repL_pick r idx
    cases e : ds[i]? with
    | none =>
      have e2 : vs[i]? = none := by
        rw [List.getElem?_eq_none_iff] at e ⊢
        rw [r.length]; exact e
      simp only [List.filterMap_cons, e, e2]
      exact ih
    | some d =>
      obtain ⟨v, e2, rv⟩ := r.get e
      simp only [List.filterMap_cons, e, e2]
      exact .cons rv ih
section
variable {K : Frag} {w : World} {n k : Nat} {env : Env} {Γ Γ₁ Γ₂ Γ' : Gam} {C C' C₁ C₂ C₃ : List Cell} {P : Params} {b : PM} {kp : Kp} {fs : List Foot} {h : Heap}
theorem o_slst {r : AV} {xs : List Int} {lo hi st : Option Int} (L : LstV C r (dInts xs)) (h0 : st ≠ some 0) (hz : xs.length ≤ 1000) : Op K w k C tGet [r, .d (.slc lo hi st)] (.d (.list (dInts (pickI xs lo hi st)))) C := by
  refine o_getsl (f := fun vs => (sliceRange (sliceBounds lo hi st xs.length).1 (sliceBounds lo hi st xs.length).2.1 (sliceBounds lo hi st xs.length).2.2).filterMap (vs[·]?)) L h0 (by simp [sizeLine]; omega) (fun vs hl => ?_) fun b vs rl => ?_
  · have hl' : vs.toArray.size = xs.length := by simpa using hl
    unfold slicePick
    rw [hl']
    simp
  · have := repL_pick rl (sliceRange (sliceBounds lo hi st xs.length).1 (sliceBounds lo hi st xs.length).2.1 (sliceBounds lo hi st xs.length).2.2)
    have e : (dInts xs : List D) = xs.map D.int := rfl
    have e2 : ∀ idx : List Nat, idx.filterMap ((dInts xs)[·]?) = dInts (idx.filterMap (xs[·]?)) := by
      intro idx
      induction idx with
      | nil => rfl
      | cons i idx ih =>
        simp only [List.filterMap_cons, e, List.getElem?_map]
        cases xs[i]? <;> simp_all
    rw [e2] at this
    exact this
end

end
/-! L2 -/
section

noncomputable def firstsZ : List Int := [720, 660, 3208641962, 108301, 424, 180, 601, 780, 2642413922, 1083]
noncomputable def numsZ (script : List Int) : List Int := (List.range 10).map fun k : Nat => firstsZ.getD k 0 + sumL (pickI script (some (k : Int)) (some 63) (some 10))
noncomputable def sizeN (script : List Int) : Nat := 4 + script.length % 2
noncomputable abbrev Tree := List Int × List Int
noncomputable def dTree (g : Tree) : D := .tup [.list (dInts g.1), .list (dInts g.2)]
noncomputable abbrev sBox (script : List Int) : Cell := .box (some (.d (.list (dInts script))))
section
variable {K : Frag} {w : World} {n k : Nat} {env : Env} {Γ Γ₁ Γ₂ Γ' : Gam} {C C' C₁ C₂ C₃ : List Cell} {P : Params} {b : PM} {kp : Kp} {fs : List Foot} {h : Heap}
theorem ex_comp_box {y : Str} {py spos : Pos} {sc : Scope} {target elt iter : Expr} {ifs : List Expr} {scope : Scope} {pos : Pos} {items : List Item} {ys : List D} {x : Str} {i : Nat} (he : env.scope = sc) (hs : SrcTo K w k env Γ C iter target items C₁) (hz : items.length ≤ sizeLine)
    (hc : (scope.names.filter fun p => p.2 == NameKind.free) = [(x, NameKind.free)]) (hf : (scope.names.lookup x == some .free) = true) (hx : Γ.lookup x = some (.box i))
    (L : ∀ a cl, CompTo K w k (compEnvC scope cl a env) target ifs elt items [(x, .box i)] C₁ ys C') (hcell : (scope.names.all fun x => x.2 != .cell) = true) (hk : scope.kind = .function) (hn : (scope.names.all fun y => y.2 != .local || scope.names.lookup y.1 == some .local) = true)
    (hy : (sc.names.lookup y == some .local) = true) (hsw : compSw sc scope y py pos = true)
    (hfo : ∀ x, foldedSetIterable iter env x = pure x) : ExecT K w n k env Γ C (exec (.Assign [.Name y py] (.ListComp elt [⟨target, iter, ifs, 0⟩] scope pos) spos) env) (.nxt ((y, .loc (.d (.list ys))) :: Γ)) C' :=
  ex_comp_raw (Γc := [(x, .box i)]) hs hz (fun _ _ _ _ F => by
    obtain ⟨cl, h1, h2⟩ := clos_box hc hf hx F
    exact ⟨cl, h1, h2, fun a => L a cl⟩) (nocells hcell) hk (locnames hn) (kd he hy) (sw_comp he hsw) hfo
theorem grown_n {numbers : List Int} {m : Nat} (hl : numbers.length = m) (hm : m ≤ 20) : Op (KK P) w (k + 1) C (fun vs => call (.ref 227) vs []) [.d (.list (dInts numbers))] (.d (dTree (grownAt numbers m))) C := by
  subst hl
  exact @grown_op _ _ _ _ _ hm
noncomputable abbrev lawB : List Stmt := stBody (topAt 27)
noncomputable abbrev boxG : Gam := [(Str.ofString "script", .box 0), (Str.ofString "k", .box 1), (Str.ofString "hours", .box 2)]
noncomputable abbrev lawG (ns : List Int) (m : Nat) (g0 g1 : Tree) : Gam := [(Str.ofString "codes", .loc (.d (.list (dInts (g0.1 ++ g1.1))))), (Str.ofString "trees", .loc (.d (.list [dTree g0, dTree g1]))), (Str.ofString "size", .loc (.d (.int (m : Nat)))), (Str.ofString "numbers", .loc (.d (.list (dInts ns)))), (Str.ofString "script", .box 0), (Str.ofString "k", .box 1), (Str.ofString "hours", .box 2)]
theorem law1a {script : List Int} (hl : script.length ≤ 63) (he : env.scope = stScope (topAt 27)) : ExecT (KK P) w n (k + 1) env [(Str.ofString "numbers", .loc (.d (.list (dInts firstsZ)))), (Str.ofString "script", .box 0), (Str.ofString "k", .box 1), (Str.ofString "hours", .box 2)] [sBox script, .box none, .box none] (exec (nth lawB 1) env)
    (.nxt [(Str.ofString "numbers", .loc (.d (.list (dInts (numsZ script))))), (Str.ofString "numbers", .loc (.d (.list (dInts firstsZ)))), (Str.ofString "script", .box 0), (Str.ofString "k", .box 1), (Str.ofString "hours", .box 2)]) [sBox script, .box none, .box none] := by
  refine ex_comp_box (x := Str.ofString "script") (i := 0) (ys := dInts (numsZ script)) he (@src_enum _ _ _ _ _ _ _ _ _ _ _ _ _ _ _ _ (@ev_g _ _ _ _ _ _ _ _ _ _ he (by decide +kernel) (by walk_at "gl") (by decide +kernel)) rfl (.c (@ev_n _ _ _ _ _ _ _ _ _ (by walk_at "lk") (by decide +kernel)) .nil)) (by simp [enumItems, firstsZ, sizeLine]) (by rfl) (by decide +kernel) (by walk_at "lk") (fun a cl => ?_) (by decide +kernel) rfl (by decide +kernel) (by decide +kernel) (by decide +kernel) (fun _ => rfl)
  rw [enumItems_map D.int 0]
  have e : dInts (numsZ script) = (List.range firstsZ.length).map fun k : Nat => D.int (firstsZ.getD k 0 + sumL (pickI script (some (k : Int)) (some 63) (some 10))) := by
    unfold numsZ; rw [dInts, List.map_map]; rfl
  rw [e]
  refine comp_map fun j hj => ⟨_, as_tup (.c (@as_name _ _ _ _ _ _ _ _ (ckd (by decide +kernel))) (.c (@as_name _ _ _ _ _ _ _ _ (ckd (by decide +kernel))) .nil)), ?b, GSub.c (by walk_at "lk") GSub.nil⟩
  exact @ev_bin _ _ _ _ _ _ _ _ _ _ _ _ _ _ _ _ (@ev_n _ _ _ _ _ _ _ _ _ (by walk_at "lk") (by decide +kernel)) (@ev_call _ _ _ _ _ _ _ _ _ _ _ _ _ _ _ _ (@ev_cg _ _ _ _ _ _ _ _ _ _ _ _ (by decide +kernel) g_sum (by decide +kernel)) rfl (.c (@ev_sub _ _ _ _ _ _ _ _ _ _ _ _ _ _ _ _ _ (ev_box (by walk_at "lk") rfl (by decide +kernel) (by decide +kernel)) (@ev_slice _ _ _ _ _ _ _ _ _ _ _ _ _ _ _ _ (pt_some (@ev_n _ _ _ _ _ _ _ _ _ (by walk_at "lk") (by decide +kernel))) (pt_some (@ev_int _ _ _ _ _ _ _ _ _)) (pt_some (@ev_int _ _ _ _ _ _ _ _ _))) LstV.d.ty list_getitem_lookup (@o_slst _ _ _ _ _ _ _ _ _ .d (by decide) (by omega)) (fun _ _ => .inl rfl)) .nil) (@o_sum _ _ _ _ _ _ .d)) (@o_add _ _ _ _ _ _)
theorem law1b {script ns : List Int} {m : Nat} {g0 g1 : Tree} (hl : script.length ≤ 63) (hn10 : ns.length = 10) (hm : sizeN script = m) (h0 : grownAt (ns.take m) m = g0) (h1 : grownAt ((ns.drop 5).take m) m = g1) (he : env.scope = stScope (topAt 27)) :
    ExecT (KK P) w n (k + 1) env [(Str.ofString "numbers", .loc (.d (.list (dInts ns)))), (Str.ofString "script", .box 0), (Str.ofString "k", .box 1), (Str.ofString "hours", .box 2)] [sBox script, .box none, .box none] (execs [nth lawB 2, nth lawB 3, nth lawB 4] env) (.nxt (lawG ns m g0 g1)) [sBox script, .box none, .box none] := by
  have hs5 : m ≤ 5 := by rw [← hm]; unfold sizeN; omega
  have hs4 : 4 ≤ m := by rw [← hm]; unfold sizeN; omega
  have l0 : (ns.take m).length = m := by simp [hn10]; omega
  have l1 : ((ns.drop 5).take m).length = m := by simp [hn10]; omega
  have gl0 : g0.1.length ≤ 11 := by have := (grownAt_ok (ns.take m) m).len; rw [h0] at this; omega
  have gl1 : g1.1.length ≤ 11 := by have := (grownAt_ok ((ns.drop 5).take m) m).len; rw [h1] at this; omega
  have og0 : Op (KK P) w (k + 1) [sBox script, .box none, .box none] (fun vs => call (.ref 227) vs []) [.d (.list (dInts (ns.take m)))] (.d (dTree g0)) [sBox script, .box none, .box none] := by rw [← h0]; exact grown_n l0 (by omega)
  have og1 : Op (KK P) w (k + 1) [sBox script, .box none, .box none] (fun vs => call (.ref 227) vs []) [.d (.list (dInts ((ns.drop 5).take m)))] (.d (dTree g1)) [sBox script, .box none, .box none] := by rw [← h1]; exact grown_n l1 (by omega)
  refine @exs_cons _ _ _ _ _ _ _ _ _ _ _ _ _ (@ex_assign _ _ _ _ _ _ _ _ _ _ _ _ _ (EvalTo.eq (@ev_bin _ _ _ _ _ _ _ _ _ _ _ _ _ _ _ _ (@ev_int _ _ _ _ _ _ _ _ _) (@ev_bin _ _ _ _ _ _ _ _ _ _ _ _ _ _ _ _ (@ev_call _ _ _ _ _ _ _ _ _ _ _ _ _ _ _ _ (@ev_g _ _ _ _ _ _ _ _ _ _ he (by decide +kernel) (by walk_at "gl") (by decide +kernel)) rfl (.c (ev_box (by walk_at "lk") rfl (by decide +kernel) (by decide +kernel)) .nil) (o_lenM (f := D.int) .d (by simp [sizeLine]; omega))) (@ev_int _ _ _ _ _ _ _ _ _) (@o_mod _ _ _ _ _ _ (by decide))) (@o_add _ _ _ _ _ _)) (r' := .d (.int (m : Nat))) ?_) (kd he (by decide +kernel)) (by kernel_rfl)) ?_
  · rw [Int.fmod_eq_emod_of_nonneg _ (by decide), ← hm]; unfold sizeN; norm_cast
  refine @exs_cons _ _ _ _ _ _ _ _ _ _ _ _ _ (@ex_assign _ _ _ _ _ _ _ _ _ _ _ _ _ (ev_list (ds := [dTree g0, dTree g1])
    (.c (@ev_call _ _ _ _ _ _ _ _ _ _ _ _ _ _ _ _ (@ev_g _ _ _ _ _ _ _ _ _ _ he (by decide +kernel) (by walk_at "gl") (by decide +kernel)) rfl (.c (EvalTo.eq (@ev_sub _ _ _ _ _ _ _ _ _ _ _ _ _ _ _ _ _ (@ev_n _ _ _ _ _ _ _ _ _ (by walk_at "lk") (by decide +kernel)) (@ev_slice _ _ _ _ _ _ _ _ _ _ _ _ _ _ _ _ pt_none (pt_some (@ev_n _ _ _ _ _ _ _ _ _ (by walk_at "lk") (by decide +kernel))) pt_none) LstV.d.ty list_getitem_lookup (@o_upto _ _ _ _ _ _ _ .d (by omega) (by simp [hn10, sizeLine])) (fun _ _ => .inr rfl)) (r' := .d (.list (dInts (ns.take m)))) (by simp [dInts, List.map_take])) .nil) og0)
    (.c (@ev_call _ _ _ _ _ _ _ _ _ _ _ _ _ _ _ _ (@ev_g _ _ _ _ _ _ _ _ _ _ he (by decide +kernel) (by walk_at "gl") (by decide +kernel)) rfl (.c (EvalTo.eq (@ev_sub _ _ _ _ _ _ _ _ _ _ _ _ _ _ _ _ _ (@ev_n _ _ _ _ _ _ _ _ _ (by walk_at "lk") (by decide +kernel)) (@ev_slice _ _ _ _ _ _ _ _ _ _ _ _ _ _ _ _ (pt_some (@ev_int _ _ _ _ _ _ _ _ _)) (pt_some (@ev_bin _ _ _ _ _ _ _ _ _ _ _ _ _ _ _ _ (@ev_int _ _ _ _ _ _ _ _ _) (@ev_n _ _ _ _ _ _ _ _ _ (by walk_at "lk") (by decide +kernel)) (@o_add _ _ _ _ _ _))) pt_none) LstV.d.ty list_getitem_lookup (@o_run _ _ _ _ _ _ _ _ .d (by omega) (by omega) (by simp [hn10]; omega) (by simp [hn10, sizeLine])) (fun _ _ => .inr rfl)) (r' := .d (.list (dInts ((ns.drop 5).take m)))) (by
      have e1 : (5 + (m : Int)).toNat - Int.toNat 5 = m := by omega
      rw [e1]
      simp [dInts, List.map_take, List.map_drop])) .nil) og1) .nil))) (kd he (by decide +kernel)) (by kernel_rfl)) ?_
  exact @exs_cons _ _ _ _ _ _ _ _ _ _ _ _ _ (@ex_assign _ _ _ _ _ _ _ _ _ _ _ _ _ (EvalTo.eq (@ev_bin _ _ _ _ _ _ _ _ _ _ _ _ _ _ _ _ (@ev_sub _ _ _ _ _ _ _ _ _ _ _ _ _ _ _ _ _ (@ev_sub _ _ _ _ _ _ _ _ _ _ _ _ _ _ _ _ _ (@ev_n _ _ _ _ _ _ _ _ _ (by walk_at "lk") (by decide +kernel)) (@ev_int _ _ _ _ _ _ _ _ _) LstV.d.ty list_getitem_lookup (o_get .d (by decide) (by decide) (d := dTree g0) rfl) (fun _ _ => .inl rfl)) (@ev_int _ _ _ _ _ _ _ _ _) ty_tup PySem.F.slot_tuple_getitem.lookup (o_gett (d := .list (dInts g0.1)) (by decide) (by decide) rfl) (fun _ _ => .inl rfl))
    (@ev_sub _ _ _ _ _ _ _ _ _ _ _ _ _ _ _ _ _ (@ev_sub _ _ _ _ _ _ _ _ _ _ _ _ _ _ _ _ _ (@ev_n _ _ _ _ _ _ _ _ _ (by walk_at "lk") (by decide +kernel)) (@ev_int _ _ _ _ _ _ _ _ _) LstV.d.ty list_getitem_lookup (o_get .d (by decide) (by decide) (d := dTree g1) rfl) (fun _ _ => .inl rfl)) (@ev_int _ _ _ _ _ _ _ _ _) ty_tup PySem.F.slot_tuple_getitem.lookup (o_gett (d := .list (dInts g1.1)) (by decide) (by decide) rfl) (fun _ _ => .inl rfl)) (@o_addl _ _ _ _ _ _ _ _ .d .d (by simp [sizeLine]; omega))) (r' := .d (.list (dInts (g0.1 ++ g1.1)))) (by simp [dInts])) (kd he (by decide +kernel)) (by kernel_rfl)) (@exs_nil _ _ _ _ _ _ _)
end

end
/-! L3 -/
section

section
variable {K : Frag} {w : World} {n k : Nat} {env : Env} {Γ Γ₁ Γ₂ Γ' : Gam} {C C' C₁ C₂ C₃ : List Cell} {P : Params} {b : PM} {kp : Kp} {fs : List Foot} {h : Heap}
theorem law0 (he : env.scope = stScope (topAt 27)) : ExecT (KK P) w n k env Γ C (exec (nth lawB 0) env) (.nxt ((Str.ofString "numbers", .loc (.d (.list (dInts firstsZ)))) :: Γ)) C :=
  @ex_assign _ _ _ _ _ _ _ _ _ _ _ _ _ (@ev_list _ _ _ _ _ _ _ _ ([.int 720, .int 660, .int 3208641962, .int 108301, .int 424, .int 180, .int 601, .int 780, .int 2642413922, .int 1083]) _ (.c (@ev_int _ _ _ _ _ _ _ _ _) (.c (@ev_int _ _ _ _ _ _ _ _ _) (.c (@ev_int _ _ _ _ _ _ _ _ _) (.c (@ev_int _ _ _ _ _ _ _ _ _) (.c (@ev_int _ _ _ _ _ _ _ _ _) (.c (@ev_int _ _ _ _ _ _ _ _ _) (.c (@ev_int _ _ _ _ _ _ _ _ _) (.c (@ev_int _ _ _ _ _ _ _ _ _) (.c (@ev_int _ _ _ _ _ _ _ _ _) (.c (@ev_int _ _ _ _ _ _ _ _ _) .nil)))))))))) (by first | decide | simp [sizeLine])) (kd he (by decide +kernel)) (by kernel_rfl)
theorem OpS.tree {T : List Value → Sem Value} {args : List AV} {rr : AV} (h : OpS K w k C T args rr C')
    {A : Around} {s : Shared} {b : PM} {kp : Kp} {fs : List Foot} {vs : List Value} {Q : Value → Shared → Prop} {E : Value → Shared → Prop}
    (hG : GoodKp kp) (hR : Room k (okL kp env.locals) A) (S : St K b kp fs C s.heap) (F : Frm b kp fs env Γ s.heap) (hv : RepAs b fs vs args)
    (q : ∀ b' fs' h' tk v, Sub b b' → Keep fs.length fs fs' → St K b' kp fs' C' h' → Frm b' kp fs' env Γ h' → RepA b' fs' v rr → Q v { s with heap := h', toks := tk }) :
    wpAny (model prg w) A (T vs) Q E s := by
  obtain ⟨m, hn, hm⟩ := F.ns
  obtain ⟨o, es, ep, ho, hd, hs, hf⟩ := id hn
  obtain ⟨f1, f2, f3⟩ := F.off
  have S' : St K b ((env.locals, fun x => x.data = o.data) :: kp) fs C s.heap := ⟨S.base, S.top, fun p hp => by
    rcases List.mem_cons.mp hp with rfl | hp
    · exact ⟨⟨o, ho, rfl⟩, f1⟩
    · exact S.kept p hp, fun p hp => ⟨(S.foot p hp).1, (S.foot p hp).2.1, fun q hq => by
      rcases List.mem_cons.mp hq with rfl | hq
      · exact Ne.symm (f3 p hp)
      · exact (S.foot p hp).2.2 q hq⟩, S.nodup, S.cells⟩
  have hR' : Room k (okK ((env.locals, fun x => x.data = o.data) :: kp)) A := hR.weak fun a ha => by
    rcases ha with rfl | ⟨d, hd, hv⟩
    · exact ⟨_, List.mem_cons_self, fun y hy vs e => by rw [show y.data = o.data from hy, hd] at e; cases e⟩
    · exact ⟨d, List.mem_cons_of_mem _ hd, hv⟩
  refine h A s b _ fs vs Q E (fun p hp o' sl hp' => by
    rcases List.mem_cons.mp hp with rfl | hp
    · exact hp'
    · exact hG p hp o' sl hp') hR' S' hv fun b' fs' h' tk v sb kf S₁ r => ?_
  have S₂ : St K b' kp fs' C' h' := ⟨S₁.base, S₁.top, fun p hp => S₁.kept p (List.mem_cons_of_mem _ hp), fun p hp => ⟨(S₁.foot p hp).1, (S₁.foot p hp).2.1, fun q hq => (S₁.foot p hp).2.2 q (List.mem_cons_of_mem _ hq)⟩, S₁.nodup, S₁.cells⟩
  obtain ⟨⟨o', ho', hd'⟩, hb'⟩ := S₁.kept (env.locals, fun x => x.data = o.data) List.mem_cons_self
  have F₂ : Frm b' kp fs' env Γ h' := ⟨F.fn, F.gl, F.bu, ⟨hb', f2, fun p hp => Ne.symm ((S₁.foot p hp).2.2 _ List.mem_cons_self)⟩, m, ⟨o', es, ep, ho', (show o'.data = o.data from hd').trans hd, hs, hf⟩, fun x r hx => (hm x r hx).mono sb kf⟩
  exact q b' fs' h' tk v sb kf S₂ F₂ r
theorem eqk_nat : EqK fun c : Nat => D.int (c : Nat) := fun b u v x y A s h1 h2 => by
  have := eqk_int b u v (x : Int) (y : Int) A s h1 h2
  have e : decide ((x : Int) = (y : Int)) = decide (x = y) := decide_eq_decide.mpr ⟨fun h => by omega, fun h => by omega⟩
  rwa [e] at this
/-- if _law_read(codes) != codes: return False -/
theorem law5 {cs : List Nat} {fn np cp cp2 pos cpos : Pos} {x : List Stmt} (hcs : ∀ c ∈ cs, c < 1114112) (hl : cs.length ≤ 1000) (hf : EvalTo (KK P) w (k + 2) env Γ C (.Name (Str.ofString "_law_read") fn) (.d (.v (.ref 234))) C) (hx : EvalTo (KK P) w (k + 2) env Γ C (.Name (Str.ofString "codes") np) (.d (.list (dNats cs))) C) (hx2 : EvalTo (KK P) w (k + 2) env Γ C (.Name (Str.ofString "codes") cp) (.d (.list (dNats cs))) C) :
    ExecS (KK P) w n (k + 2) env Γ C (exec (.If (.Compare (.Call (.Name (Str.ofString "_law_read") fn) [.Name (Str.ofString "codes") np] [] cp2) [.NotEq] [.Name (Str.ofString "codes") cp] cpos) x [] pos) env) (.nxt Γ) C := by
  intro A s b kp fs Q E hG hA hR S F hn q
  refine wpAny_If (wpAny_isTrue_Compare1 (call_raw (k := k + 2) hf rfl (.c hx .nil) hR S F fun b₁ fs₁ h₁ tk₁ vs sb₁ kf₁ S₁ F₁ r₁ => ?_) (by rfl))
  refine (@read_op _ (k) _ _ _ hcs hl).tree (s := { s with heap := h₁, toks := tk₁ }) hG hR S₁ F₁ r₁ fun b₂ fs₂ h₂ tk₂ v sb₂ kf₂ S₂ F₂ r₂ => ?_
  refine hx2 A _ b₂ kp fs₂ _ E hR S₂ F₂ fun b₃ fs₃ h₃ tk₃ u sb₃ kf₃ S₃ F₃ r₃ => ?_
  have hne := o_nel (K := KK P) (w := w) (k := k + 2) eqk_nat (xs := cs) (ys := cs) (r := .d (.list (dNats cs))) (r' := .d (.list (dNats cs))) (C := C) .d .d
  refine hne.tree (s := { s with heap := h₃, toks := tk₃ }) (vs := [v, u]) hR S₃ F₃ ⟨r₂.mono sb₃ kf₃, r₃, trivial⟩ fun b₄ fs₄ h₄ tk₄ z sb₄ kf₄ S₄ F₄ r₄ => ?_
  cases r₄
  refine wpAny_truthy_bool ?_
  simp only [decide_true, Bool.not_true, Bool.false_eq_true, if_false]
  have kf := kf₁.then (kf₂.then (kf₃.then kf₄))
  exact wpAny_execs_nil (q b₄ fs₄ h₄ tk₄ .next (sb₁.trans (sb₂.trans (sb₃.trans sb₄))) (kf.le hn) (Nat.le_trans hn kf.len) S₄ ⟨rfl, F₄⟩)
end

end
/-! L4 -/
section

noncomputable abbrev toldN (cs : List Nat) : List Bool := cs.map fun c : Nat => joint (c : Int)
theorem c7_joint (c : Nat) : c7 (c : Int) = joint (c : Int) := by
  unfold c7 joint
  have : (12272 ≤ (c : Int)) ↔ (12271 < (c : Int)) := by omega
  simp [this]
section
variable {K : Frag} {w : World} {n k : Nat} {env : Env} {Γ Γ₁ Γ₂ Γ' : Gam} {C C' C₁ C₂ C₃ : List Cell} {P : Params} {b : PM} {kp : Kp} {fs : List Foot} {h : Heap}
theorem law6 {cs : List Nat} (hcs : ∀ c ∈ cs, c < 1114112) (hl : cs.length ≤ 1000) (hx : List.lookup (Str.ofString "codes") Γ = some (.loc (.d (.list (dNats cs))))) (he : env.scope = stScope (topAt 27)) :
    ExecT (KK P) w n (k + 1) env Γ C (exec (nth lawB 6) env) (.nxt ((Str.ofString "told", .loc (.d (.list (dBools (toldN cs))))) :: Γ)) C := by
  refine ex_comp he (@src_list _ _ _ _ _ _ _ _ _ _ (@ev_n _ _ _ _ _ _ _ _ _ hx (by decide +kernel)) .name) (by simp [sizeLine]; omega) (by kernel_rfl) (fun a => ?_) (by decide +kernel) rfl (by decide +kernel) (by decide +kernel) (by decide +kernel) (fun _ => rfl)
  rw [List.map_map, dBools, List.map_map]
  refine comp_map fun c hc => ⟨_, as_name (ckd (by decide +kernel)), ?_, GSub.nil⟩
  have hch := hcs c hc
  exact EvalTo.eq (@ev_call _ _ _ _ _ _ _ _ _ _ _ _ _ _ _ _ (@ev_cg _ _ _ _ _ _ _ _ _ _ _ _ (by decide +kernel) g_in_table_c7 (by decide +kernel)) rfl (.c (EvalTo.eq (r' := .d (.str ⟨#[c]⟩)) (@ev_call _ _ _ _ _ _ _ _ _ _ _ _ _ _ _ _ (@ev_cg _ _ _ _ _ _ _ _ _ _ _ _ (by decide +kernel) g_chr (by decide +kernel)) rfl (.c (@ev_n _ _ _ _ _ _ _ _ _ (by walk_at "lk") (by decide +kernel)) .nil) (@o_chr _ _ _ _ _ (by omega) (by omega))) (by simp)) .nil) (@table_op _ _ _ _ _)) (by rw [c7_joint]; rfl)
theorem law7 {cs : List Nat} (hl : cs.length ≤ 1000) (hx : List.lookup (Str.ofString "codes") Γ = some (.loc (.d (.list (dNats cs))))) (ht : List.lookup (Str.ofString "told") Γ = some (.loc (.d (.list (dBools (toldN cs)))))) (he : env.scope = stScope (topAt 27)) :
    ExecT (KK P) w n (k + 1) env Γ C (exec (nth lawB 7) env) (.nxt Γ) C := by
  have h1 : EvalTo (KK P) w (k + 1) env Γ C (match nth lawB 7 with | .If (.BoolOp _ [.Compare _ _ [e] _, _] _) _ _ _ => e | _ => .Constant .none 0 ⟨0,0,0,0⟩) (.d (.list (dBools (toldN cs)))) C := by
    refine ev_comp (@src_list _ _ _ _ _ _ _ _ _ _ (@ev_n _ _ _ _ _ _ _ _ _ hx (by decide +kernel)) .name) (by simp [sizeLine]; omega) (by kernel_rfl) (fun a => ?_) (by decide +kernel) rfl (by decide +kernel) (fun _ => rfl)
    rw [List.map_map, dBools, List.map_map]
    refine comp_map fun c hc => ⟨_, as_name (ckd (by decide +kernel)), ?_, GSub.nil⟩
    exact @ev_chain _ _ _ _ _ _ _ _ _ _ _ _ _ _ _ _ _ _ _ (@ev_int _ _ _ _ _ _ _ _ _) (@ev_n _ _ _ _ _ _ _ _ _ (by walk_at "lk") (by decide +kernel)) (@o_lt _ _ _ _ _ _) (fun _ => (@ev_int _ _ _ _ _ _ _ _ _)) (fun _ => (@o_lt _ _ _ _ _ _)) (by rfl)
  have h2 : EvalTo (KK P) w (k + 1) env Γ C (match nth lawB 7 with | .If (.BoolOp _ [_, .Compare e _ _ _] _) _ _ _ => e | _ => .Constant .none 0 ⟨0,0,0,0⟩) (.d (.list ((cs.map fun _ => ()).map fun _ : Unit => D.v (.type "bool")))) C := by
    refine ev_comp (@src_list _ _ _ _ _ _ _ _ _ _ (@ev_n _ _ _ _ _ _ _ _ _ ht (by decide +kernel)) .name) (by simp [sizeLine]; omega) (by kernel_rfl) (fun a => ?_) (by decide +kernel) rfl (by decide +kernel) (fun _ => rfl)
    rw [List.map_map, List.map_map, List.map_map]
    refine comp_map fun c hc => ⟨_, as_name (ckd (by decide +kernel)), ?_, GSub.nil⟩
    exact @ev_call _ _ _ _ _ _ _ _ _ _ _ _ _ _ _ _ (@ev_cg _ _ _ _ _ _ _ _ _ _ _ _ (by decide +kernel) g_type (by decide +kernel)) rfl (.c (@ev_n _ _ _ _ _ _ _ _ _ (by walk_at "lk") (by decide +kernel)) .nil) (@o_typeb _ _ _ _ _)
  have h3 : EvalTo (KK P) w (k + 1) env Γ C (match nth lawB 7 with | .If (.BoolOp _ [_, .Compare _ _ [e] _] _) _ _ _ => e | _ => .Constant .none 0 ⟨0,0,0,0⟩) (.d (.list ((cs.map fun _ => ()).map fun _ : Unit => D.v (.type "bool")))) C := by
    refine EvalTo.eq (@ev_bin _ _ _ _ _ _ _ _ _ _ _ _ _ _ _ _ (@ev_list _ _ _ _ _ _ _ _ ([.v (.type "bool")]) _ (.c (@ev_g _ _ _ _ _ _ _ _ _ _ he (by decide +kernel) (by walk_at "gl") (by decide +kernel)) .nil) (by first | decide | simp [sizeLine])) (@ev_call _ _ _ _ _ _ _ _ _ _ _ _ _ _ _ _ (@ev_g _ _ _ _ _ _ _ _ _ _ he (by decide +kernel) (by walk_at "gl") (by decide +kernel)) rfl (.c (@ev_n _ _ _ _ _ _ _ _ _ ht (by decide +kernel)) .nil) (@o_lenM _ _ _ _ _ (fun b : Bool => D.v (.bool b)) _ (toldN cs) .d (by simp [sizeLine]; omega))) (@o_mull _ _ _ _ _ _ _ .d (by omega) (by rw [List.length_map]; omega))) ?_
    have e : ((toldN cs).length : Int).toNat = cs.length := by simp
    rw [e, List.map_map]
    have : List.replicate cs.length (D.v (.type "bool")) = cs.map fun _ => D.v (.type "bool") := (List.map_const' ..).symm
    rw [this]
    rfl
  refine @ex_if _ _ _ _ _ _ _ _ _ _ _ _ _ (false) _ (@tst_or _ _ _ _ _ _ _ _ _ _ (false) _ (@tst_cmp _ _ _ _ _ _ _ _ _ _ _ _ _ _ _ _ (@ev_n _ _ _ _ _ _ _ _ _ ht (by decide +kernel)) h1 (Op.eq (o_nel eqk_bool .d .d) (by simp)) rfl) (fun _ => @tst_cmp _ _ _ _ _ _ _ _ _ _ _ _ _ _ _ _ h2 h3 (Op.eq (o_nel (eqk_same (.type "bool")) .d .d) (by simp)) rfl)) (fun h => nomatch h) (fun _ => (@exs_nil _ _ _ _ _ _ _))
end

end
/-! L5 -/
section

section
variable {K : Frag} {w : World} {n k : Nat} {env : Env} {Γ Γ₁ Γ₂ Γ' : Gam} {C C' C₁ C₂ C₃ : List Cell} {P : Params} {b : PM} {kp : Kp} {fs : List Foot} {h : Heap}
theorem frz_box {i j : Nat} {d : D} (hb : ∀ x, Γ.lookup x ≠ some (.box j)) : ∀ x, (frzG i d Γ).lookup x ≠ some (.box j) := fun x hx => by
  rw [frzG, lock_lookup] at hx
  obtain ⟨r, hr, e⟩ := Option.map_eq_some_iff.mp hx
  cases r with
  | loc r =>
    cases r with
    | d y => cases e
    | c m =>
      simp only [frzVB] at e
      split at e <;> cases e
  | box m => cases e; exact hb x hr
/-- from here on an object of class Headers and its list are turned no more -/
theorem ExecT.freezeH {T : Sem Flow} {i j : Nat} {ds : List D} {o : Out} (h : ExecT K w n k env (frzG j (.list ds) (frzG i (.hdr ds) Γ)) ((C.set i .gone).set j .gone) T o C') (hi : C[i]? = some (.inst (some j))) (hj : C[j]? = some (.lst ds)) (hin : n ≤ i) (hjn : n ≤ j)
    (hno : ∀ a c, a ≠ i → C[a]? = some c → i ∉ c.refs ∧ j ∉ c.refs) (hbi : ∀ x, Γ.lookup x ≠ some (.box i)) (hbj : ∀ x, Γ.lookup x ≠ some (.box j)) : ExecT K w n k env Γ C T o C' := by
  intro A s b kp fs Q E hR S F hn q
  have hil := (List.getElem?_eq_some_iff.mp hi).1
  have hjl := (List.getElem?_eq_some_iff.mp hj).1
  have hij : i ≠ j := fun z => by rw [z, hj] at hi; cases hi
  obtain ⟨f, hf⟩ : ∃ f, fs[i]? = some f := ⟨fs[i]'(by rw [S.len]; exact hil), by simp [S.len, hil]⟩
  obtain ⟨x, dx, l, hh, t, kk, g, rfl, hg, hgl⟩ := S.cells.2 i _ f hi hf
  obtain ⟨a, vs, m, rfl, rv⟩ := S.cells.2 j _ g hj hg
  simp [headA] at hgl; subst hgl
  obtain ⟨b1, sb1, hin1, hnone1, S1⟩ := S.freeze hf hil fun a c g' ha hc hg' => (S.cells.2 a c g' hc hg').refs fun j' g2 hj' hg2 => set_ne hg2 fun z => (hno a c ha hc).1 (z ▸ hj')
  have hj1 : (C.set i .gone)[j]? = some (.lst ds) := by rw [List.getElem?_set_ne hij]; exact hj
  have hg1 : (fs.set i [])[j]? = some [(a, lstO vs m)] := by rw [List.getElem?_set_ne hij]; exact hg
  obtain ⟨b2, sb2, hin2, hnone2, S2⟩ := S1.freeze hg1 (by simpa using hjl) fun a' c g' ha hc hg' => by
    refine (S1.cells.2 a' c g' hc hg').refs fun j' g2 hj' hg2 => set_ne hg2 fun z => ?_
    subst z
    by_cases e : i = a'
    · subst e
      rw [List.getElem?_set_self hil] at hc
      cases hc
      simp [Cell.refs] at hj'
    · rw [List.getElem?_set_ne e] at hc
      exact (hno a' c (Ne.symm e) hc).2 hj'
  have hL1 : b1 env.locals = none := hnone1 _ F.off.1 fun p hp z => F.off.2.2 p (List.mem_flatten.mpr ⟨_, List.mem_of_getElem? hf, hp⟩) z
  have hL2 : b2 env.locals = none := hnone2 _ hL1 fun p hp z => F.off.2.2 p (List.mem_flatten.mpr ⟨_, List.mem_of_getElem? hg, hp⟩) z
  have sb := sb1.trans sb2
  have rl : Rep b2 (.ref a) (.list ds) := .list (hin2 _ List.mem_cons_self) (rv.mono sb)
  have rh : Rep b2 (.ref x) (.hdr ds) := .hdr (sb2 _ _ (hin1 _ List.mem_cons_self)) (sb2 _ _ (hin1 _ (List.mem_cons_of_mem _ List.mem_cons_self))) (hin2 _ List.mem_cons_self) (rv.mono sb)
  have F1 := F.frz (a := x) sb hf rfl hbi hL2 rh
  have F2 := F1.frz (a := a) (Sub.refl (b := b2)) hg1 rfl (frz_box hbj) hL2 rl
  refine h A s b2 kp _ Q E hR S2 F2 (by simpa using hn) fun b₂ fs₂ h₂ tk₂ f₂ sb₂ kf₂ hn₂ S₂ ho => q b₂ fs₂ h₂ tk₂ f₂ (sb.trans sb₂) (fun j' g' hj' hg' => ?_) hn₂ S₂ ho
  exact kf₂ j' g' hj' (by rw [List.getElem?_set_ne (by omega), List.getElem?_set_ne (by omega)]; exact hg')
end

end
/-! L6 -/
section

noncomputable def dotsZ (n : Nat) : Str := ⟨(List.replicate n 46).toArray⟩
noncomputable def nameZ (l : Nat) (c : Int) : Str := dotsZ (l - 1) ++ (⟨#[if c.fmod 2 = 0 then 110 else 78]⟩ : Str)
noncomputable def rowS (t : Tri) : Str × Str := (nameZ t.1 t.2.2, dotsZ t.2.1)
noncomputable abbrev G11 (a1 a2 a3 a4 a5 a6 a7 a8 : AV) : Gam := [(Str.ofString "turn", .loc a1), (Str.ofString "homes", .loc a2), (Str.ofString "places", .loc a3), (Str.ofString "told", .loc a4), (Str.ofString "codes", .loc a5), (Str.ofString "trees", .loc a6), (Str.ofString "size", .loc a7), (Str.ofString "numbers", .loc a8), (Str.ofString "script", .box 0), (Str.ofString "k", .box 1), (Str.ofString "hours", .box 2)]
noncomputable abbrev lawL : List Stmt := forBody (nth lawB 10)
theorem dot_eq : Str.ofString "." = ⟨#[46]⟩ := by decide +kernel
theorem dots_plain {n : Nat} (h : n ≤ 1000) : plainS (dotsZ n) := ⟨by simp [dotsZ]; exact h, fun c hc => by
  simp [dotsZ] at hc; rw [hc.2]; rfl⟩
theorem app_cps (a b : Str) : (a ++ b).cps = a.cps ++ b.cps := rfl
theorem name_plain {l : Nat} {c : Int} (h : l ≤ 900) : plainS (nameZ l c) := by
  constructor
  · simp [nameZ, app_cps, dotsZ]; omega
  · intro x hx
    simp [nameZ, app_cps, dotsZ] at hx
    rcases hx with hx | hx
    · rw [hx.2]; rfl
    · rw [hx]; split <;> rfl
theorem lookup_ext : ∀ {ex Γ₂ : Gam}, (ex.all fun p => (List.lookup p.1 Γ₂).isNone) = true → GSub Γ₂ (ex ++ Γ₂)
  | [], _, _ => fun _ _ h => h
  | p :: ex, Γ₂, h => fun x r hx => by
    rw [List.all_cons, Bool.and_eq_true] at h
    show List.lookup x (p :: (ex ++ Γ₂)) = some r
    rw [List.lookup_cons]
    split
    · rename_i q
      have q' := beq_iff_eq.mp q
      subst q'
      rw [hx] at h
      cases h.1
    · exact lookup_ext h.2 x r hx
section
variable {K : Frag} {w : World} {n k : Nat} {env : Env} {Γ Γ₁ Γ₂ Γ' : Gam} {C C' C₁ C₂ C₃ CC : List Cell} {P : Params} {b : PM} {kp : Kp} {fs : List Foot} {h : Heap} {a0 a1 a2 a3 a4 a5 a6 a7 a8 : AV}
theorem ExecT.ext {T : Sem Flow} {ex : Gam} (h : ExecT K w n k env Γ C T (.nxt (ex ++ Γ₂)) C') (hn : (ex.all fun p => (List.lookup p.1 Γ₂).isNone) = true) : ExecT K w n k env Γ C T (.nxt Γ₂) C' := ExecT.less h (lookup_ext hn)
theorem addrow {t : Tri} {ds : List D} (h1 : 1 ≤ t.1) (h2 : t.1 ≤ 20) (h3 : t.2.1 ≤ 20) (hz : ds.length ≤ 1000) (he : env.scope = stScope (topAt 27)) :
    ExecT (KK P) w n (k + 2) env ([(Str.ofString "code", .loc (.d (.int t.2.2))), (Str.ofString "right", .loc (.d (.int (t.2.1 : Nat)))), (Str.ofString "left", .loc (.d (.int (t.1 : Nat)))), (Str.ofString "table", .loc (.c CC.length)), (Str.ofString "part", .loc a0)] ++ G11 a1 a2 a3 a4 a5 a6 a7 a8) (CC ++ [.inst (some (CC.length + 1)), .lst ds])
      (execs (forBody (nth lawL 2)) env) (.nxt ([(Str.ofString "table", .loc (.c CC.length)), (Str.ofString "part", .loc a0)] ++ G11 a1 a2 a3 a4 a5 a6 a7 a8)) (CC ++ [.inst (some (CC.length + 1)), .lst (ds ++ [hPair (rowS t)])]) := by
  obtain ⟨l, r, c⟩ := t
  dsimp only at h1 h2 h3 ⊢
  have V : HdrV (CC ++ [.inst (some (CC.length + 1)), .lst ds]) (.c CC.length) (.c (CC.length + 1)) := .c (get_2a _ _ _)
  have hf : c.fmod 2 = 0 ∨ c.fmod 2 = 1 := by have := fmod_bounds c (m := 2) (by omega); omega
  have eN : (Str.ofString "nN").cps[(c.fmod 2).toNat]? = some (if c.fmod 2 = 0 then 110 else 78) := by
    have e0 : (Str.ofString "nN") = ⟨#[110, 78]⟩ := by decide +kernel
    rw [e0]
    rcases hf with h | h <;> rw [h] <;> rfl
  refine ExecT.ext (ex := [(Str.ofString "code", .loc (.d (.int c))), (Str.ofString "right", .loc (.d (.int (r : Nat)))), (Str.ofString "left", .loc (.d (.int (l : Nat))))]) ?_ (by kernel_rfl)
  have e1 : EvalTo (KK P) w (k + 2) env ([(Str.ofString "code", .loc (.d (.int c))), (Str.ofString "right", .loc (.d (.int (r : Nat)))), (Str.ofString "left", .loc (.d (.int (l : Nat)))), (Str.ofString "table", .loc (.c CC.length)), (Str.ofString "part", .loc a0)] ++ G11 a1 a2 a3 a4 a5 a6 a7 a8) (CC ++ [.inst (some (CC.length + 1)), .lst ds]) (match nth (forBody (nth lawL 2)) 0 with | .Expr (.Call _ [e, _] _ _) _ => e | _ => .Constant .none 0 ⟨0,0,0,0⟩) (.d (.str (nameZ l c))) (CC ++ [.inst (some (CC.length + 1)), .lst ds]) := by
    refine EvalTo.eq (@ev_bin _ _ _ _ _ _ _ _ _ _ _ _ _ _ _ _ (@ev_bin _ _ _ _ _ _ _ _ _ _ _ _ _ _ _ _ (EvalTo.eq (@ev_str _ _ _ _ _ _ _ _ _) (r' := .d (.str ⟨#[46]⟩)) (by rw [dot_eq])) (@ev_bin _ _ _ _ _ _ _ _ _ _ _ _ _ _ _ _ (@ev_n _ _ _ _ _ _ _ _ _ (by walk_at "lk") (by decide +kernel)) (@ev_int _ _ _ _ _ _ _ _ _) (@o_sub _ _ _ _ _ _)) (@o_muls _ _ _ _ _ _ (by omega) (by omega))) (@ev_sub _ _ _ _ _ _ _ _ _ _ _ _ _ _ _ _ _ (@ev_str _ _ _ _ _ _ _ _ _) (@ev_bin _ _ _ _ _ _ _ _ _ _ _ _ _ _ _ _ (@ev_n _ _ _ _ _ _ _ _ _ (by walk_at "lk") (by decide +kernel)) (@ev_int _ _ _ _ _ _ _ _ _) (@o_mod _ _ _ _ _ _ (by decide))) ty_str PySem.F.slot_str_getitem.lookup (@o_gets _ _ _ _ _ _ _ (by rcases hf with h | h <;> rw [h] <;> decide) (by rcases hf with h | h <;> rw [h] <;> decide) eN) (fun _ _ => .inl rfl)) (@o_adds _ _ _ _ _ _ (by simp [Str.length, sizeLine]; omega))) ?_
    have : ((l : Int) - 1).toNat = l - 1 := by omega
    simp only [nameZ, dotsZ, this]
  refine @exs_cons _ _ _ _ _ _ _ _ _ _ _ _ _ (ExecT.cells (@ex_expr _ _ _ _ _ _ _ _ _ _ (@ev_meth _ _ _ _ _ _ _ _ _ _ _ _ _ _ _ _ _ _ _ (@ev_n _ _ _ _ _ _ _ _ _ (by walk_at "lk") (by decide +kernel)) (@mg_hdr _ _ _ _ _ _ (215) _ V (by rfl) (by rfl) (by decide +kernel)) rfl (.c e1 (.c (EvalTo.eq (@ev_bin _ _ _ _ _ _ _ _ _ _ _ _ _ _ _ _ (EvalTo.eq (@ev_str _ _ _ _ _ _ _ _ _) (r' := .d (.str ⟨#[46]⟩)) (by rw [dot_eq])) (@ev_n _ _ _ _ _ _ _ _ _ (by walk_at "lk") (by decide +kernel)) (@o_muls _ _ _ _ _ _ (by omega) (by omega))) (r' := .d (.str (dotsZ r))) (by simp [dotsZ])) .nil)) (@add_op _ _ _ _ _ _ _ _ _ (get_2a _ _ _) (get_2b _ _ _) hz (name_plain (by omega)) (dots_plain (by omega))) rfl) (inter_fn he (by decide +kernel)) (by kernel_rfl)) ?_) (@exs_nil _ _ _ _ _ _ _)
  rw [set_2b]
  rfl
end

end
/-! L7 -/
section

theorem nbx {i : Nat} : ∀ {Γ : Gam}, (Γ.all fun p => match p.2 with | .box j => j != i | _ => true) = true → ∀ x, Γ.lookup x ≠ some (.box i)
  | [], _, x => fun h => by cases h
  | (y, r) :: Γ, h, x => fun hx => by
    rw [List.all_cons, Bool.and_eq_true] at h
    rw [List.lookup_cons] at hx
    split at hx
    · have hr : r = .box i := by injection hx
      subst hr
      have h1 := h.1
      simp at h1
    · exact nbx h.2 x hx
noncomputable abbrev placesL (T : List Tri) : List Int := T.map fun t => ((t.1 * t.2.1 : Nat) : Int)
noncomputable abbrev rowsL (T : List Tri) : List (Str × Str) := T.map rowS
structure TreeOk (m : Nat) (tot : Int) (turn : Nat) (g : Tree) (T : List Tri) : Prop where
  clen : g.1.length = 2 * m + 1
  arms : armsRun ((g.1.map joint).reverse.zip g.1.reverse) [] = some [(m + 1, T)]
  tlen : T.length = m
  bnd : ∀ t ∈ T, 1 ≤ t.1 ∧ t.1 ≤ 6 ∧ t.2.1 ≤ 6
  sent : sentZ (pageZ (rowsL T)) (tot + turn) = (T.map fun t => due1 (lineZ (rowS t))) ++ [⟨#[]⟩, ⟨#[]⟩]
  s1 : (pageZ (rowsL T)).length ≤ 300
  s2 : (Txt.split (pageZ (rowsL T)) crlfS).length ≤ 10
  s3 : ∀ l ∈ Txt.split (pageZ (rowsL T)) crlfS, l.length ≤ 20
  s4 : (crlfZ (typedZ (Txt.split (pageZ (rowsL T)) crlfS) (tot + turn) ((Txt.split (pageZ (rowsL T)) crlfS).length - 1)).cps.toList).length ≤ 1000
  s5 : (quoteZ (typedZ (Txt.split (pageZ (rowsL T)) crlfS) (tot + turn) ((Txt.split (pageZ (rowsL T)) crlfS).length - 1)).cps.toList).length ≤ 10000
  parse : ∀ t ∈ T, Txt.split (lineZ (rowS t)) (Str.ofString ": ") = [(rowS t).1, (rowS t).2]
  again : againZ (placesL T) m 0 m = g.1.map joint
section
variable {K : Frag} {w : World} {n k : Nat} {env : Env} {Γ Γ₁ Γ₂ Γ' : Gam} {C C' C₁ C₂ C₃ CC : List Cell} {P : Params} {b : PM} {kp : Kp} {fs : List Foot} {h : Heap} {a0 a1 a2 a3 a4 a5 a6 a7 a8 : AV}
theorem rows_len {m : Nat} {tot : Int} {turn : Nat} {g : Tree} {T : List Tri} (O : TreeOk m tot turn g T) : ∀ p ∈ rowsL T, p.1.length ≤ 10 ∧ p.2.length ≤ 10 := fun p hp => by
  obtain ⟨t, ht, rfl⟩ := List.mem_map.mp hp
  have := O.bnd t ht
  constructor
  · show (nameZ t.1 t.2.2).cps.size ≤ 10
    simp [nameZ, app_cps, dotsZ]; omega
  · show (dotsZ t.2.1).cps.size ≤ 10
    simp [dotsZ]; omega
noncomputable abbrev cells5 (script : List Int) (pl hm : List D) : List Cell := [sBox script, .box none, .box none, .lst pl, .lst hm]
/-- the head of the first loop's body: part, table -/
theorem loopA1 {m j : Nat} {told tj : List Bool} (hm : m ≤ 5) (htl : told.length = 2 * (2 * m + 1)) (hj : j < 2) (hp : (told.drop (j * (2 * m + 1))).take (2 * m + 1) = tj) (he : env.scope = stScope (topAt 27)) :
    ExecT (KK P) w n (k + 2) env (G11 (.d (.int (j : Nat))) a2 a3 (.d (.list (dBools told))) a5 a6 (.d (.int (m : Nat))) a8) C (exec (nth lawL 0) env)
      (.nxt ((Str.ofString "part", .loc (.d (.list (dBools tj)))) :: G11 (.d (.int (j : Nat))) a2 a3 (.d (.list (dBools told))) a5 a6 (.d (.int (m : Nat))) a8)) C := by
  have h1 : ((j : Int) * (2 * (m : Int) + 1)) = ((j * (2 * m + 1) : Nat) : Int) := by norm_cast
  have h2 : (((j : Int) + 1) * (2 * (m : Int) + 1)) = (((j + 1) * (2 * m + 1) : Nat) : Int) := by norm_cast
  have hle : (j + 1) * (2 * m + 1) ≤ 2 * (2 * m + 1) := Nat.mul_le_mul_right _ (by omega)
  have hsub : (j + 1) * (2 * m + 1) = j * (2 * m + 1) + (2 * m + 1) := by rw [Nat.add_mul, Nat.one_mul]
  have hjm : j * (2 * m + 1) ≤ 11 := by have : j * (2 * m + 1) ≤ 1 * (2 * m + 1) := Nat.mul_le_mul_right _ (by omega); omega
  have E2 : EvalTo (KK P) w (k + 2) env (G11 (.d (.int (j : Nat))) a2 a3 (.d (.list (dBools told))) a5 a6 (.d (.int (m : Nat))) a8) C (match nth lawL 0 with | .Assign _ (.Subscript _ (.Slice (some e) _ _ _) _) _ => e | _ => .Constant .none 0 ⟨0,0,0,0⟩) (.d (.int ((j * (2 * m + 1) : Nat) : Int))) C :=
    EvalTo.eq (@ev_bin _ _ _ _ _ _ _ _ _ _ _ _ _ _ _ _ (@ev_n _ _ _ _ _ _ _ _ _ (by walk_at "lk") (by decide +kernel)) (@ev_bin _ _ _ _ _ _ _ _ _ _ _ _ _ _ _ _ (@ev_bin _ _ _ _ _ _ _ _ _ _ _ _ _ _ _ _ (@ev_int _ _ _ _ _ _ _ _ _) (@ev_n _ _ _ _ _ _ _ _ _ (by walk_at "lk") (by decide +kernel)) (@o_mul _ _ _ _ _ _ (mulok (by omega) (by omega)))) (@ev_int _ _ _ _ _ _ _ _ _) (@o_add _ _ _ _ _ _)) (@o_mul _ _ _ _ _ _ (mulok (by omega) (by omega)))) (by rw [h1])
  have E3 : EvalTo (KK P) w (k + 2) env (G11 (.d (.int (j : Nat))) a2 a3 (.d (.list (dBools told))) a5 a6 (.d (.int (m : Nat))) a8) C (match nth lawL 0 with | .Assign _ (.Subscript _ (.Slice _ (some e) _ _) _) _ => e | _ => .Constant .none 0 ⟨0,0,0,0⟩) (.d (.int (((j + 1) * (2 * m + 1) : Nat) : Int))) C :=
    EvalTo.eq (@ev_bin _ _ _ _ _ _ _ _ _ _ _ _ _ _ _ _ (@ev_bin _ _ _ _ _ _ _ _ _ _ _ _ _ _ _ _ (@ev_n _ _ _ _ _ _ _ _ _ (by walk_at "lk") (by decide +kernel)) (@ev_int _ _ _ _ _ _ _ _ _) (@o_add _ _ _ _ _ _)) (@ev_bin _ _ _ _ _ _ _ _ _ _ _ _ _ _ _ _ (@ev_bin _ _ _ _ _ _ _ _ _ _ _ _ _ _ _ _ (@ev_int _ _ _ _ _ _ _ _ _) (@ev_n _ _ _ _ _ _ _ _ _ (by walk_at "lk") (by decide +kernel)) (@o_mul _ _ _ _ _ _ (mulok (by omega) (by omega)))) (@ev_int _ _ _ _ _ _ _ _ _) (@o_add _ _ _ _ _ _)) (@o_mul _ _ _ _ _ _ (mulok (by omega) (by omega)))) (by rw [h2])
  refine @ex_assign _ _ _ _ _ _ _ _ _ _ _ _ _ (EvalTo.eq (@ev_sub _ _ _ _ _ _ _ _ _ _ _ _ _ _ _ _ _ (@ev_n _ _ _ _ _ _ _ _ _ (by walk_at "lk") (by decide +kernel)) (@ev_slice _ _ _ _ _ _ _ _ _ _ _ _ _ _ _ _ (pt_some E2) (pt_some E3) pt_none) LstV.d.ty list_getitem_lookup (@o_run _ _ _ _ _ _ _ _ .d (by omega) (by omega) (by simp; omega) (by simp [sizeLine]; omega)) (fun _ _ => .inr rfl)) (r' := .d (.list (dBools tj))) ?_) (kd he (by decide +kernel)) (by kernel_rfl)
  have e1 : (((j + 1) * (2 * m + 1) : Nat) : Int).toNat - ((j * (2 * m + 1) : Nat) : Int).toNat = 2 * m + 1 := by omega
  have e2 : ((j * (2 * m + 1) : Nat) : Int).toNat = j * (2 * m + 1) := by omega
  rw [e1, e2, ← hp]
  simp [dBools, List.map_take, List.map_drop]
end

end
/-! L8 -/
section

section
variable {K : Frag} {w : World} {n k : Nat} {env : Env} {Γ Γ₁ Γ₂ Γ' : Gam} {C C' C₁ C₂ C₃ CC : List Cell} {P : Params} {b : PM} {kp : Kp} {fs : List Foot} {h : Heap} {a0 a1 a2 a3 a4 a5 a6 a7 a8 : AV}
/-- table is laid -/
theorem loopA2 {m j : Nat} {tot : Int} {script : List Int} {tj : List Bool} {g0 g1 gj : Tree} {T : List Tri} {pl hm : List D} (O : TreeOk m tot j gj T) (hm5 : m ≤ 5) (hj : j < 2) (htj : tj = gj.1.map joint) (hg : [dTree g0, dTree g1][j]? = some (dTree gj)) (he : env.scope = stScope (topAt 27)) :
    ExecT (KK P) w n (k + 3) env ((Str.ofString "part", .loc (.d (.list (dBools tj)))) :: G11 (.d (.int (j : Nat))) a2 a3 a4 a5 (.d (.list [dTree g0, dTree g1])) a7 a8) (cells5 script pl hm) (execs [nth lawL 1, nth lawL 2] env)
      (.nxt ((Str.ofString "table", .loc (.c 5)) :: (Str.ofString "part", .loc (.d (.list (dBools tj)))) :: G11 (.d (.int (j : Nat))) a2 a3 a4 a5 (.d (.list [dTree g0, dTree g1])) a7 a8)) (cells5 script pl hm ++ [.inst (some 6), .lst ((rowsL T).map hPair)]) := by
  have hcl := O.clen
  refine @exs_cons _ _ _ _ _ _ _ _ (cells5 script pl hm ++ [.inst (some 6), .lst []]) _ _ _ _ (@ex_assign _ _ _ _ _ _ _ _ _ _ _ _ _ (@ev_call _ _ _ _ _ _ _ _ _ _ _ _ _ _ _ _ (@ev_g _ _ _ _ _ _ _ _ _ _ he (by decide +kernel) (by walk_at "gl") (by decide +kernel)) rfl .nil (@o_Headers _ _ _ _)) (kd he (by decide +kernel)) (by kernel_rfl)) ?_
  have L := loop_idx (K := KK P) (w := w) (n := n) (k := k + 3) (env := env) (target := forTgt (nth lawL 2)) (body := forBody (nth lawL 2)) (f := fun i : Nat => Item.one (dTri (T.getD i (0, 0, 0))))
    (Γs := fun _ => (Str.ofString "table", .loc (.c 5)) :: (Str.ofString "part", .loc (.d (.list (dBools tj)))) :: G11 (.d (.int (j : Nat))) a2 a3 a4 a5 (.d (.list [dTree g0, dTree g1])) a7 a8) (Cs := fun i => cells5 script pl hm ++ [.inst (some 6), .lst ((T.take i).map fun t => hPair (rowS t))]) (N := T.length) fun i hi => by
      have hT : T.getD i (0, 0, 0) ∈ T := by rw [List.getD_eq_getElem?_getD, List.getElem?_eq_getElem hi]; exact List.getElem_mem hi
      have hb := O.bnd _ hT
      refine ⟨_, _, as_tupd (.c (@as_name _ _ _ _ _ _ _ _ (kd he (by decide +kernel))) (.c (@as_name _ _ _ _ _ _ _ _ (kd he (by decide +kernel))) (.c (@as_name _ _ _ _ _ _ _ _ (kd he (by decide +kernel))) .nil))), ?_⟩
      have := @addrow (w) (n) (k + 1) (env) (cells5 script pl hm) (P) (.d (.list (dBools tj))) (.d (.int (j : Nat))) (a2) (a3) (a4) (a5) (.d (.list [dTree g0, dTree g1])) (a7) (a8) (T.getD i (0, 0, 0)) ((T.take i).map fun t => hPair (rowS t)) hb.1 (by omega) (by omega) (by simp; have := O.tlen; omega) he
      have et : (T.take (i + 1)).map (fun t => hPair (rowS t)) = (T.take i).map (fun t => hPair (rowS t)) ++ [hPair (rowS (T.getD i (0, 0, 0)))] := by
        rw [List.take_add_one, List.getElem?_eq_getElem hi, List.getD_eq_getElem?_getD, List.getElem?_eq_getElem hi, List.map_append]; rfl
      rw [et]
      exact this
  rw [List.take_length] at L
  have e1 : (rowsL T).map hPair = T.map fun t => hPair (rowS t) := by rw [List.map_map]; rfl
  rw [e1]
  refine @exs_cons _ _ _ _ _ _ _ _ _ _ _ _ _ (ex_for (@src_list _ _ _ _ _ _ _ _ _ _ (@ev_call _ _ _ _ _ _ _ _ _ _ _ _ _ _ _ _ (@ev_g _ _ _ _ _ _ _ _ _ _ he (by decide +kernel) (by walk_at "gl") (by decide +kernel)) rfl (.c (@ev_n _ _ _ _ _ _ _ _ _ (by walk_at "lk") (by decide +kernel)) (.c (@ev_sub _ _ _ _ _ _ _ _ _ _ _ _ _ _ _ _ _ (@ev_sub _ _ _ _ _ _ _ _ _ _ _ _ _ _ _ _ _ (@ev_n _ _ _ _ _ _ _ _ _ (by walk_at "lk") (by decide +kernel)) (@ev_n _ _ _ _ _ _ _ _ _ (by walk_at "lk") (by decide +kernel)) LstV.d.ty list_getitem_lookup (@o_get _ _ _ _ _ _ _ (dTree gj) .d (by omega) (by omega) (by simpa using hg)) (fun _ _ => .inl rfl)) (@ev_int _ _ _ _ _ _ _ _ _) ty_tup PySem.F.slot_tuple_getitem.lookup (@o_gett _ _ _ _ _ _ (.list (dInts gj.1)) (by decide) (by decide) rfl) (fun _ _ => .inl rfl)) .nil)) (@arms_op _ _ _ _ _ _ (m + 1) (T) (by rw [htj]; simp; omega) (by rw [htj]; exact O.arms) (by omega))) .tuple) ?_) (@exs_nil _ _ _ _ _ _ _)
  rw [oneItems_map dTri (0, 0, 0)]
  exact L
noncomputable abbrev dueL (T : List Tri) : List Str := (T.map fun t => due1 (lineZ (rowS t))) ++ [⟨#[]⟩, ⟨#[]⟩]
theorem loopA3 {m j : Nat} {ns : List Int} {gj : Tree} {T : List Tri} (O : TreeOk m (sumL ns) j gj T) (hm5 : m ≤ 5) (he : env.scope = stScope (topAt 27)) :
    ExecT (KK P) w n (k + 3) env ((Str.ofString "table", .loc (.d (.hdr ((rowsL T).map hPair)))) :: (Str.ofString "part", .loc a0) :: G11 (.d (.int (j : Nat))) a2 a3 a4 a5 a6 (.d (.int (m : Nat))) (.d (.list (dInts ns)))) C (execs [nth lawL 3, nth lawL 4] env)
      (.nxt ((Str.ofString "arrived", .loc (.d (.list ((dueL T).map .str)))) :: (Str.ofString "table", .loc (.d (.hdr ((rowsL T).map hPair)))) :: (Str.ofString "part", .loc a0) :: G11 (.d (.int (j : Nat))) a2 a3 a4 a5 a6 (.d (.int (m : Nat))) (.d (.list (dInts ns))))) C := by
  have hrl := rows_len O
  have htl := O.tlen
  have hS := @sent_op (w) (k + 1) (C) (P) (pageZ (rowsL T)) (sumL ns + j) O.s1 O.s2 O.s3 O.s4 O.s5
  rw [O.sent] at hS
  have hH := @o_strH (w) (k + 1) (C) (P) (rowsL T) (by simp; omega) fun p hp => by have := hrl p hp; omega
  refine @exs_cons _ _ _ _ _ _ _ _ _ _ _ _ _ (@ex_assign _ _ _ _ _ _ _ _ _ _ _ _ _ (@ev_call _ _ _ _ _ _ _ _ _ _ _ _ _ _ _ _ (@ev_g _ _ _ _ _ _ _ _ _ _ he (by decide +kernel) (by walk_at "gl") (by decide +kernel)) rfl (.c (@ev_call _ _ _ _ _ _ _ _ _ _ _ _ _ _ _ _ (@ev_g _ _ _ _ _ _ _ _ _ _ he (by decide +kernel) (by walk_at "gl") (by decide +kernel)) rfl (.c (@ev_n _ _ _ _ _ _ _ _ _ (by walk_at "lk") (by decide +kernel)) .nil) hH) (.c (@ev_bin _ _ _ _ _ _ _ _ _ _ _ _ _ _ _ _ (@ev_call _ _ _ _ _ _ _ _ _ _ _ _ _ _ _ _ (@ev_g _ _ _ _ _ _ _ _ _ _ he (by decide +kernel) (by walk_at "gl") (by decide +kernel)) rfl (.c (@ev_n _ _ _ _ _ _ _ _ _ (by walk_at "lk") (by decide +kernel)) .nil) (@o_sum _ _ _ _ _ _ .d)) (@ev_n _ _ _ _ _ _ _ _ _ (by walk_at "lk") (by decide +kernel)) (@o_add _ _ _ _ _ _)) .nil)) hS) (kd he (by decide +kernel)) (by kernel_rfl)) ?_
  have ed : ((dueL T).map D.str).drop (m : Int).toNat = [⟨#[]⟩, ⟨#[]⟩].map D.str := by
    rw [← List.map_drop]
    have : (m : Int).toNat = (T.map fun t => due1 (lineZ (rowS t))).length := by simp; omega
    rw [this, List.drop_left]
  have e0 : Str.ofString "" = ⟨#[]⟩ := by decide +kernel
  exact @exs_cons _ _ _ _ _ _ _ _ _ _ _ _ _ (@ex_if _ _ _ _ _ _ _ _ _ _ _ _ _ (false) _ (@tst_cmp _ _ _ _ _ _ _ _ _ _ _ _ _ _ _ _ (EvalTo.eq (r' := .d (.list ([⟨#[]⟩, ⟨#[]⟩].map D.str))) (@ev_sub _ _ _ _ _ _ _ _ _ _ _ _ _ _ _ _ _ (@ev_n _ _ _ _ _ _ _ _ _ (by walk_at "lk") (by decide +kernel)) (@ev_slice _ _ _ _ _ _ _ _ _ _ _ _ _ _ _ _ (pt_some (@ev_n _ _ _ _ _ _ _ _ _ (by walk_at "lk") (by decide +kernel))) pt_none pt_none) LstV.d.ty list_getitem_lookup (@o_from _ _ _ _ _ _ _ .d (by omega) (by simp [sizeLine]; omega)) (fun _ _ => .inr rfl)) (by rw [ed])) (EvalTo.eq (r' := .d (.list ([⟨#[]⟩, ⟨#[]⟩].map D.str))) (@ev_list _ _ _ _ _ _ _ _ ([.str (Str.ofString ""), .str (Str.ofString "")]) _ (.c (@ev_str _ _ _ _ _ _ _ _ _) (.c (@ev_str _ _ _ _ _ _ _ _ _) .nil)) (by first | decide | simp [sizeLine])) (by rw [e0]; rfl)) (Op.eq (o_nel eqk_str .d .d) (by simp)) rfl) (fun h => nomatch h) (fun _ => (@exs_nil _ _ _ _ _ _ _))) (@exs_nil _ _ _ _ _ _ _)
end

end
/-! L9 -/
section

theorem strip_due (x : Str) : (if ((StrLaws.sliceText (due1 x) none (some 1)).cps.toList == (⟨#[46]⟩ : Str).cps.toList) then D.str (StrLaws.sliceText (due1 x) (some 1) none) else D.str (due1 x)) = D.str x := by
  rw [slice_to1, slice_from1]
  by_cases h : x.cps.toList.take 1 = [46]
  · have e : due1 x = ⟨#[46]⟩ ++ x := by unfold due1; simp [h]
    rw [e]
    have e2 : ((⟨#[46]⟩ : Str) ++ x).cps.toList = 46 :: x.cps.toList := by rw [app_cps]; simp
    rw [e2]
    simp
  · have e : due1 x = x := by unfold due1; simp [h]
    rw [e]
    simp [h]
section
variable {K : Frag} {w : World} {n k : Nat} {env : Env} {Γ Γ₁ Γ₂ Γ' : Gam} {C C' C₁ C₂ C₃ CC : List Cell} {P : Params} {b : PM} {kp : Kp} {fs : List Foot} {h : Heap} {a0 a1 a2 a3 a4 a5 a6 a7 a8 : AV}
theorem line_len {m j : Nat} {tot : Int} {gj : Tree} {T : List Tri} (O : TreeOk m tot j gj T) : ∀ t ∈ T, (lineZ (rowS t)).length ≤ 22 := fun t ht => by
  have := rows_len O (rowS t) (List.mem_map_of_mem ht)
  have e2 : (Str.ofString ": ").cps.size = 2 := by decide +kernel
  show ((rowS t).1.cps ++ (Str.ofString ": ").cps ++ (rowS t).2.cps).size ≤ 22
  rw [Array.size_append, Array.size_append, e2]
  have h1 : (rowS t).1.cps.size ≤ 10 := this.1
  have h2 : (rowS t).2.cps.size ≤ 10 := this.2
  omega
noncomputable abbrev GB (a0 a1 a2 a3 a4 a5 a6 a7 a8 b0 b1 b2 : AV) : Gam := (Str.ofString "home", .loc b0) :: (Str.ofString "arrived", .loc b1) :: (Str.ofString "table", .loc b2) :: (Str.ofString "part", .loc a0) :: G11 a1 a2 a3 a4 a5 a6 a7 a8
/-- a row is laid anew -/
theorem homerow {m j : Nat} {tot : Int} {gj : Tree} {T : List Tri} {t : Tri} {ds : List D} {b1 b2 : AV} (O : TreeOk m tot j gj T) (ht : t ∈ T) (hz : ds.length ≤ 1000) (he : env.scope = stScope (topAt 27)) :
    ExecT (KK P) w n (k + 2) env ((Str.ofString "line", .loc (.d (.str (due1 (lineZ (rowS t)))))) :: GB a0 a1 a2 a3 a4 a5 a6 a7 a8 (.c CC.length) b1 b2) (CC ++ [.inst (some (CC.length + 1)), .lst ds])
      (execs (forBody (nth lawL 6)) env) (.nxt (GB a0 a1 a2 a3 a4 a5 a6 a7 a8 (.c CC.length) b1 b2)) (CC ++ [.inst (some (CC.length + 1)), .lst (ds ++ [hPair (rowS t)])]) := by
  have V : HdrV (CC ++ [.inst (some (CC.length + 1)), .lst ds]) (.c CC.length) (.c (CC.length + 1)) := .c (get_2a _ _ _)
  have hll := line_len O t ht
  have hdl : (due1 (lineZ (rowS t))).length ≤ 23 := by
    unfold due1
    split
    · show ((#[46] : Array Nat) ++ (lineZ (rowS t)).cps).size ≤ 23
      rw [Array.size_append]
      have : (lineZ (rowS t)).cps.size ≤ 22 := hll
      simp; omega
    · omega
  have hb := O.bnd t ht
  have dq : (Str.ofString ".").cps.toList = (⟨#[46]⟩ : Str).cps.toList := by rw [dot_eq]
  refine ExecT.ext (ex := [(Str.ofString "value", .loc (.d (.str (rowS t).2))), (Str.ofString "name", .loc (.d (.str (rowS t).1))), (Str.ofString "line", .loc (.d (.str (due1 (lineZ (rowS t))))))]) ?_ (by kernel_rfl)
  have e1 : EvalTo (KK P) w (k + 2) env ((Str.ofString "line", .loc (.d (.str (due1 (lineZ (rowS t)))))) :: GB a0 a1 a2 a3 a4 a5 a6 a7 a8 (.c CC.length) b1 b2) (CC ++ [.inst (some (CC.length + 1)), .lst ds]) (match nth (forBody (nth lawL 6)) 0 with | .Assign _ (.Call (.Attribute e _ _) _ _ _) _ => e | _ => .Constant .none 0 ⟨0,0,0,0⟩) (.d (.str (lineZ (rowS t)))) (CC ++ [.inst (some (CC.length + 1)), .lst ds]) := by
    refine EvalTo.eq (@ev_ifd _ _ _ _ _ _ _ _ _ _ _ _ (((StrLaws.sliceText (due1 (lineZ (rowS t))) none (some 1)).cps.toList == (Str.ofString ".").cps.toList)) (.str (StrLaws.sliceText (due1 (lineZ (rowS t))) (some 1) none)) (.str (due1 (lineZ (rowS t)))) (@tst_cmp _ _ _ _ _ _ _ _ _ _ _ _ _ _ _ _ (@ev_sub _ _ _ _ _ _ _ _ _ _ _ _ _ _ _ _ _ (@ev_n _ _ _ _ _ _ _ _ _ (by walk_at "lk") (by decide +kernel)) (@ev_slice _ _ _ _ _ _ _ _ _ _ _ _ _ _ _ _ pt_none (pt_some (@ev_int _ _ _ _ _ _ _ _ _)) pt_none) ty_str PySem.F.slot_str_getitem.lookup (@o_sslice _ _ _ _ _ _ _ (by unfold sizeLine; omega)) (fun _ _ => .inr rfl)) (@ev_str _ _ _ _ _ _ _ _ _) (@o_eqs _ _ _ _ _ _) rfl) (fun _ => @ev_sub _ _ _ _ _ _ _ _ _ _ _ _ _ _ _ _ _ (@ev_n _ _ _ _ _ _ _ _ _ (by walk_at "lk") (by decide +kernel)) (@ev_slice _ _ _ _ _ _ _ _ _ _ _ _ _ _ _ _ (pt_some (@ev_int _ _ _ _ _ _ _ _ _)) pt_none pt_none) ty_str PySem.F.slot_str_getitem.lookup (@o_sslice _ _ _ _ _ _ _ (by unfold sizeLine; omega)) (fun _ _ => .inr rfl)) (fun _ => (@ev_n _ _ _ _ _ _ _ _ _ (by walk_at "lk") (by decide +kernel)))) ?_
    rw [dq, strip_due]
  have e2 : (Str.ofString ": ").length = 2 := by decide +kernel
  refine @exs_cons _ _ _ _ _ _ _ _ _ _ _ _ _ (@ex_bind _ _ _ _ _ _ _ _ _ _ _ _ _ _ (@ev_meth _ _ _ _ _ _ _ _ _ _ _ _ _ _ _ _ _ _ _ e1 (@mg_str _ _ _ _ _ _ _ PySem.F.slot_str_split PySem.F.type_str_split) rfl (.c (@ev_str _ _ _ _ _ _ _ _ _) .nil) (Op.eq (@o_split _ _ _ _ _ _ (by rw [e2]; rfl) (by unfold sizeLine; omega) (split_fits _ _ (by omega))) (by rw [O.parse t ht]; rfl)) (he_gen (fun _ => rfl) (by rfl) (by rfl)))
    (@as_tupl _ _ _ _ _ _ _ _ _ _ _ (.c (@as_name _ _ _ _ _ _ _ _ (kd he (by decide +kernel))) (.c (@as_name _ _ _ _ _ _ _ _ (kd he (by decide +kernel))) .nil))) (by kernel_rfl) (by kernel_rfl) rfl) ?_
  refine @exs_cons _ _ _ _ _ _ _ _ _ _ _ _ _ (ExecT.cells (@ex_expr _ _ _ _ _ _ _ _ _ _ (@ev_meth _ _ _ _ _ _ _ _ _ _ _ _ _ _ _ _ _ _ _ (@ev_n _ _ _ _ _ _ _ _ _ (by walk_at "lk") (by decide +kernel)) (@mg_hdr _ _ _ _ _ _ (215) _ V (by rfl) (by rfl) (by decide +kernel)) rfl (.c (@ev_n _ _ _ _ _ _ _ _ _ (by walk_at "lk") (by decide +kernel)) (.c (@ev_n _ _ _ _ _ _ _ _ _ (by walk_at "lk") (by decide +kernel)) .nil)) (@add_op _ _ _ _ _ _ _ _ _ (get_2a _ _ _) (get_2b _ _ _) hz (name_plain (by omega)) (dots_plain (by omega))) rfl) (inter_fn he (by decide +kernel)) (by kernel_rfl)) ?_) (@exs_nil _ _ _ _ _ _ _)
  rw [set_2b]
  rfl
end

end
/-! L10 -/
section

theorem OpG.up {K : Frag} {w : World} {k k' : Nat} {α : Type} {C C' : List Cell} {T : List Value → Sem α} {args : List AV} {R : PM → List Foot → α → Prop} (h : OpG K w k C T args R C') (hk : k ≤ k') : OpG K w k' C T args R C' := fun A s b kp fs vs Q E hR => h A s b kp fs vs Q E (hR.le hk)
section
variable {K : Frag} {w : World} {n k : Nat} {env : Env} {Γ Γ₁ Γ₂ Γ' : Gam} {C C' C₁ C₂ C₃ CC : List Cell} {P : Params} {b : PM} {kp : Kp} {fs : List Foot} {h : Heap} {a0 a1 a2 a3 a4 a5 a6 a7 a8 b0 b1 b2 : AV}
theorem loopB1 {m j : Nat} {tot : Int} {gj : Tree} {T : List Tri} (O : TreeOk m tot j gj T) (hm5 : m ≤ 5) (he : env.scope = stScope (topAt 27)) :
    ExecT (KK P) w n (k + 3) env ((Str.ofString "arrived", .loc (.d (.list ((dueL T).map .str)))) :: (Str.ofString "table", .loc b2) :: (Str.ofString "part", .loc a0) :: G11 a1 a2 a3 a4 a5 a6 (.d (.int (m : Nat))) a8) CC (execs [nth lawL 5, nth lawL 6] env)
      (.nxt (GB a0 a1 a2 a3 a4 a5 a6 (.d (.int (m : Nat))) a8 (.c CC.length) (.d (.list ((dueL T).map .str))) b2)) (CC ++ [.inst (some (CC.length + 1)), .lst ((rowsL T).map hPair)]) := by
  have htl := O.tlen
  refine @exs_cons _ _ _ _ _ _ _ _ (CC ++ [.inst (some (CC.length + 1)), .lst []]) _ _ _ _ (@ex_assign _ _ _ _ _ _ _ _ _ _ _ _ _ (@ev_call _ _ _ _ _ _ _ _ _ _ _ _ _ _ _ _ (@ev_g _ _ _ _ _ _ _ _ _ _ he (by decide +kernel) (by walk_at "gl") (by decide +kernel)) rfl .nil (@o_Headers _ _ _ _)) (kd he (by decide +kernel)) (by kernel_rfl)) ?_
  have L := loop_idx (K := KK P) (w := w) (n := n) (k := k + 3) (env := env) (target := forTgt (nth lawL 6)) (body := forBody (nth lawL 6)) (f := fun i : Nat => Item.one (.str (due1 (lineZ (rowS (T.getD i (0, 0, 0)))))))
    (Γs := fun _ => GB a0 a1 a2 a3 a4 a5 a6 (.d (.int (m : Nat))) a8 (.c CC.length) (.d (.list ((dueL T).map .str))) b2) (Cs := fun i => CC ++ [.inst (some (CC.length + 1)), .lst ((T.take i).map fun t => hPair (rowS t))]) (N := T.length) fun i hi => by
      have hT : T.getD i (0, 0, 0) ∈ T := by rw [List.getD_eq_getElem?_getD, List.getElem?_eq_getElem hi]; exact List.getElem_mem hi
      refine ⟨_, _, as_name (kd he (by decide +kernel)), ?_⟩
      have := @homerow (w) (n) (k + 1) (env) (CC) (P) (a0) (a1) (a2) (a3) (a4) (a5) (a6) (.d (.int (m : Nat))) (a8) _ _ _ _ _ _ ((T.take i).map fun t => hPair (rowS t)) (.d (.list ((dueL T).map .str))) (b2) O hT (by simp; omega) he
      have et : (T.take (i + 1)).map (fun t => hPair (rowS t)) = (T.take i).map (fun t => hPair (rowS t)) ++ [hPair (rowS (T.getD i (0, 0, 0)))] := by
        rw [List.take_add_one, List.getElem?_eq_getElem hi, List.getD_eq_getElem?_getD, List.getElem?_eq_getElem hi, List.map_append]; rfl
      rw [et]
      exact this
  rw [List.take_length] at L
  have e1 : (rowsL T).map hPair = T.map fun t => hPair (rowS t) := by rw [List.map_map]; rfl
  rw [e1]
  have ed : ((dueL T).map D.str).take (m : Int).toNat = T.map fun t => D.str (due1 (lineZ (rowS t))) := by
    rw [← List.map_take]
    have : (m : Int).toNat = (T.map fun t => due1 (lineZ (rowS t))).length := by simp; omega
    rw [this, List.take_left, List.map_map]; rfl
  refine @exs_cons _ _ _ _ _ _ _ _ _ _ _ _ _ (ex_for (@src_list _ _ _ _ _ _ _ _ _ _ (EvalTo.eq (r' := .d (.list (T.map fun t => D.str (due1 (lineZ (rowS t)))))) (@ev_sub _ _ _ _ _ _ _ _ _ _ _ _ _ _ _ _ _ (@ev_n _ _ _ _ _ _ _ _ _ (by walk_at "lk") (by decide +kernel)) (@ev_slice _ _ _ _ _ _ _ _ _ _ _ _ _ _ _ _ pt_none (pt_some (@ev_n _ _ _ _ _ _ _ _ _ (by walk_at "lk") (by decide +kernel))) pt_none) LstV.d.ty list_getitem_lookup (@o_upto _ _ _ _ _ _ _ .d (by omega) (by simp [sizeLine]; omega)) (fun _ _ => .inr rfl)) (by rw [ed])) .name) ?_) (@exs_nil _ _ _ _ _ _ _)
  rw [oneItems_map (fun t => D.str (due1 (lineZ (rowS t)))) (0, 0, 0)]
  exact L
theorem row_lens {t : Tri} (h : 1 ≤ t.1) : (rowS t).1.length = t.1 ∧ (rowS t).2.length = t.2.1 := by
  constructor
  · show (nameZ t.1 t.2.2).cps.size = _
    simp [nameZ, app_cps, dotsZ]; omega
  · show (dotsZ t.2.1).cps.size = _
    simp [dotsZ]
theorem loopB2 {m j : Nat} {tot : Int} {gj : Tree} {T : List Tri} {tj : List Bool} {script : List Int} {pl hm : List D} {X : List Cell} (O : TreeOk m tot j gj T) (hm5 : m ≤ 5) (htj : tj = gj.1.map joint) (hj : j < 2) (hpl : pl.length = j) (hhm : hm.length = j) (he : env.scope = stScope (topAt 27)) :
    ExecT (KK P) w n (k + 8) env (GB (.d (.list (dBools tj))) (.d (.int (j : Nat))) (.c 4) (.c 3) a4 a5 a6 (.d (.int (m : Nat))) a8 (.d (.hdr ((rowsL T).map hPair))) b1 b2) (cells5 script pl hm ++ X) (execs [nth lawL 7, nth lawL 8, nth lawL 9] env)
      (.nxt (GB (.d (.list (dBools tj))) (.d (.int (j : Nat))) (.c 4) (.c 3) a4 a5 a6 (.d (.int (m : Nat))) a8 (.d (.hdr ((rowsL T).map hPair))) b1 b2)) (cells5 script (pl ++ [.list (dInts (placesL T))]) (hm ++ [.hdr ((rowsL T).map hPair)]) ++ X) := by
  have htl := O.tlen
  have V : ∀ C : List Cell, HdrV C (.d (.hdr ((rowsL T).map hPair))) (.d (.list ((rowsL T).map hPair))) := fun _ => .d
  have hc : EvalTo (KK P) w (k + 8) env (GB (.d (.list (dBools tj))) (.d (.int (j : Nat))) (.c 4) (.c 3) a4 a5 a6 (.d (.int (m : Nat))) a8 (.d (.hdr ((rowsL T).map hPair))) b1 b2) (cells5 script pl hm ++ X) (match nth lawL 7 with | .Expr (.Call _ [e] _ _) _ => e | _ => .Constant .none 0 ⟨0,0,0,0⟩) (.d (.list (dInts (placesL T)))) (cells5 script pl hm ++ X) := by
    refine ev_comp (@src_list _ _ _ _ _ _ _ _ _ _ (@ev_meth _ _ _ _ _ _ _ _ _ _ _ _ _ _ _ _ _ _ _ (@ev_n _ _ _ _ _ _ _ _ _ (by walk_at "lk") (by decide +kernel)) (@mg_hdr _ _ _ _ _ _ (182) _ (V _) (by rfl) (by rfl) (by decide +kernel)) rfl .nil (@items_op _ _ _ _ _ (by simp; omega)) rfl) .tuple) (by simp [sizeLine]; omega) (by kernel_rfl) (fun a => ?_) (by decide +kernel) rfl (by decide +kernel) (fun _ => rfl)
    rw [List.map_map, List.map_map, dInts, List.map_map]
    refine comp_map fun t ht => ⟨_, as_tupd (.c (@as_name _ _ _ _ _ _ _ _ (ckd (by decide +kernel))) (.c (@as_name _ _ _ _ _ _ _ _ (ckd (by decide +kernel))) .nil)), ?_, GSub.nil⟩
    have hb := O.bnd t ht
    obtain ⟨h1, h2⟩ := row_lens hb.1
    refine EvalTo.eq (@ev_bin _ _ _ _ _ _ _ _ _ _ _ _ _ _ _ _ (@ev_call _ _ _ _ _ _ _ _ _ _ _ _ _ _ _ _ (@ev_cg _ _ _ _ _ _ _ _ _ _ _ _ (by decide +kernel) g_len (by decide +kernel)) rfl (.c (@ev_n _ _ _ _ _ _ _ _ _ (by walk_at "lk") (by decide +kernel)) .nil) (@o_lens _ _ _ _ _ (by rw [h1]; unfold sizeLine; omega))) (@ev_call _ _ _ _ _ _ _ _ _ _ _ _ _ _ _ _ (@ev_cg _ _ _ _ _ _ _ _ _ _ _ _ (by decide +kernel) g_len (by decide +kernel)) rfl (.c (@ev_n _ _ _ _ _ _ _ _ _ (by walk_at "lk") (by decide +kernel)) .nil) (@o_lens _ _ _ _ _ (by rw [h2]; unfold sizeLine; omega))) (@o_mul _ _ _ _ _ _ (mulok (by rw [h1]; omega) (by rw [h2]; omega)))) ?_
    rw [h1, h2]
    simp
  refine @exs_cons _ _ _ _ _ _ _ _ (cells5 script (pl ++ [.list (dInts (placesL T))]) hm ++ X) _ _ _ _ (ExecT.cells (@ex_expr _ _ _ _ _ _ _ _ _ _ (@ev_meth _ _ _ _ _ _ _ _ _ _ _ _ _ _ _ _ _ _ _ (@ev_n _ _ _ _ _ _ _ _ _ (by walk_at "lk") (by decide +kernel)) (@mg_list _ _ _ _ _ _ _ _ (.c (ds := pl) rfl) PySem.F.slot_list_append PySem.F.type_list_append) rfl (.c hc .nil) (@o_append _ _ _ _ _ (pl) _ rfl (by unfold sizeLine; omega)) rfl) (inter_fn he (by decide +kernel)) (by kernel_rfl)) rfl) ?_
  refine @exs_cons _ _ _ _ _ _ _ _ _ _ _ _ _ (@ex_if _ _ _ _ _ _ _ _ _ _ _ _ _ (false) _ (@tst_cmp _ _ _ _ _ _ _ _ _ _ _ _ _ _ _ _ (@ev_call _ _ _ _ _ _ _ _ _ _ _ _ _ _ _ _ (@ev_g _ _ _ _ _ _ _ _ _ _ he (by decide +kernel) (by walk_at "gl") (by decide +kernel)) rfl (.c (@ev_sub _ _ _ _ _ _ _ _ _ _ _ _ _ _ _ _ _ (@ev_n _ _ _ _ _ _ _ _ _ (by walk_at "lk") (by decide +kernel)) (@ev_n _ _ _ _ _ _ _ _ _ (by walk_at "lk") (by decide +kernel)) (LstV.c (ds := pl ++ [.list (dInts (placesL T))]) rfl).ty list_getitem_lookup (@o_get _ _ _ _ _ (pl ++ [.list (dInts (placesL T))]) _ (.list (dInts (placesL T))) (.c rfl) (by omega) (by omega) ?_) (fun _ _ => .inl rfl)) (.c (@ev_int _ _ _ _ _ _ _ _ _) (.c (@ev_n _ _ _ _ _ _ _ _ _ (by walk_at "lk") (by decide +kernel)) .nil)))
    (Op.eq (OpG.up (@again_op _ _ _ (placesL T) (by simp; omega) m 0 0 m (by omega) (by simp; omega) (by omega)) (by omega)) (by rw [O.again, ← htj]))) (@ev_n _ _ _ _ _ _ _ _ _ (by walk_at "lk") (by decide +kernel)) (Op.eq (o_nel eqk_bool .d .d) (by simp)) rfl) (fun h => nomatch h) (fun _ => (@exs_nil _ _ _ _ _ _ _))) ?_
  · have : (j : Int).toNat = pl.length := by omega
    rw [this]; simp
  exact @exs_cons _ _ _ _ _ _ _ _ _ _ _ _ _ (ExecT.cells (@ex_expr _ _ _ _ _ _ _ _ _ _ (@ev_meth _ _ _ _ _ _ _ _ _ _ _ _ _ _ _ _ _ _ _ (@ev_n _ _ _ _ _ _ _ _ _ (by walk_at "lk") (by decide +kernel)) (@mg_list _ _ _ _ _ _ _ _ (.c (ds := hm) rfl) PySem.F.slot_list_append PySem.F.type_list_append) rfl (.c (@ev_n _ _ _ _ _ _ _ _ _ (by walk_at "lk") (by decide +kernel)) .nil) (@o_append _ _ _ _ _ (hm) _ rfl (by unfold sizeLine; omega)) rfl) (inter_fn he (by decide +kernel)) (by kernel_rfl)) rfl) (@exs_nil _ _ _ _ _ _ _)
end

end
/-! L11 -/
section

theorem execs_app (env : Env) (ys : List Stmt) : ∀ xs : List Stmt, execs (xs ++ ys) env = (execs xs env >>= fun f => match f with | .next => execs ys env | f => pure f)
  | [] => by
    show execs ys env = (execs [] env >>= _)
    rw [show execs [] env = pure .next from rfl, pure_bind]
  | x :: xs => by
    rw [List.cons_append, execs_cons, execs_cons, bind_assoc]
    congr 1
    funext f
    cases f with
    | next => exact execs_app env ys xs
    | brk => exact (pure_bind _ _).symm
    | cont => exact (pure_bind _ _).symm
    | ret v => exact (pure_bind _ _).symm
theorem hno_of {X Y : List Cell} {c0 c : Cell} {i a : Nat} (hX : ∀ c ∈ X, c.refs = []) (hY : ∀ c ∈ Y, c.refs = []) (hi : X.length = i) (ha : a ≠ i) (hc : (X ++ c0 :: Y)[a]? = some c) : c.refs = [] := by
  by_cases h : a < X.length
  · rw [List.getElem?_append_left h] at hc
    exact hX c (List.mem_of_getElem? hc)
  · rw [List.getElem?_append_right (by omega)] at hc
    obtain ⟨q, e⟩ : ∃ q, a - X.length = q + 1 := ⟨a - X.length - 1, by omega⟩
    rw [e, List.getElem?_cons_succ] at hc
    exact hY c (List.mem_of_getElem? hc)
theorem gam_lt {m : Nat} : ∀ {Γ : Gam}, (Γ.all fun p => match p.2 with | .loc (.c i) => decide (i < m) | .box i => decide (i < m) | _ => true) = true → ∀ x r, Γ.lookup x = some r → match r with | .loc (.c i) => i < m | .box i => i < m | _ => True
  | [], _, x, r => fun h => by cases h
  | (y, r0) :: Γ, h, x, r => fun hx => by
    rw [List.all_cons, Bool.and_eq_true] at h
    rw [List.lookup_cons] at hx
    split at hx
    · have hr : r0 = r := by injection hx
      subst hr
      have h1 := h.1
      cases r0 with
      | loc r0 => cases r0 <;> simp_all
      | box i => simp_all
    · exact gam_lt h.2 x r hx
theorem refs5 {script : List Int} {pl hm : List D} : ∀ c ∈ cells5 script pl hm, c.refs = [] := fun c hc => by
  simp at hc
  rcases hc with rfl | rfl | rfl | rfl <;> rfl
section
variable {K : Frag} {w : World} {n k k' : Nat} {env : Env} {Γ Γ₁ Γ₂ Γ' : Gam} {C C' C₁ C₂ C₃ CC : List Cell} {P : Params} {b : PM} {kp : Kp} {fs : List Foot} {h : Heap} {a0 a1 a2 a3 a4 a5 a6 a7 a8 b0 b1 b2 : AV}
theorem exs_app {xs ys : List Stmt} {o : Out} (h1 : ExecT K w n k env Γ C (execs xs env) (.nxt Γ₁) C₁) (h2 : ExecT K w n k env Γ₁ C₁ (execs ys env) o C₂) : ExecT K w n k env Γ C (execs (xs ++ ys) env) o C₂ := by
  intro A s b kp fs Q E hR S F hn q
  rw [execs_app]
  refine wpAny_bind (h1 A s b kp fs _ E hR S F hn fun b₁ fs₁ hp₁ tk₁ f sb₁ kf₁ hn₁ S₁ ho => ?_)
  obtain ⟨rfl, F₁⟩ := ho
  exact h2 A _ b₁ kp fs₁ Q E hR S₁ F₁ hn₁ fun b₂ fs₂ hp₂ tk₂ f sb₂ kf₂ hn₂ S₂ ho => q b₂ fs₂ hp₂ tk₂ f (sb₁.trans sb₂) (kf₁.trans kf₂) hn₂ S₂ ho
theorem ExecT.up {T : Sem Flow} {o : Out} (h : ExecT K w n k env Γ C T o C') (hk : k ≤ k') : ExecT K w n k' env Γ C T o C' := fun A s b kp fs Q E hR => h A s b kp fs Q E (hR.le hk)
/-- one turn of the first loop -/
theorem loop1_turn {x5 : D} {m j : Nat} {script ns : List Int} {told tj : List Bool} {g0 g1 gj : Tree} {T : List Tri} {pl hm : List D} (O : TreeOk m (sumL ns) j gj T) (hm5 : m ≤ 5) (hj : j < 2) (htl : told.length = 2 * (2 * m + 1)) (hp : (told.drop (j * (2 * m + 1))).take (2 * m + 1) = tj)
    (htj : tj = gj.1.map joint) (hg : [dTree g0, dTree g1][j]? = some (dTree gj)) (hpl : pl.length = j) (hhm : hm.length = j) (he : env.scope = stScope (topAt 27)) :
    ExecT (KK P) w 0 (k + 8) env (G11 (.d (.int (j : Nat))) (.c 4) (.c 3) (.d (.list (dBools told))) (.d x5) (.d (.list [dTree g0, dTree g1])) (.d (.int (m : Nat))) (.d (.list (dInts ns)))) (cells5 script pl hm) (execs (forBody (nth lawB 10)) env)
      (.nxt (G11 (.d (.int (j : Nat))) (.c 4) (.c 3) (.d (.list (dBools told))) (.d x5) (.d (.list [dTree g0, dTree g1])) (.d (.int (m : Nat))) (.d (.list (dInts ns))))) (cells5 script (pl ++ [.list (dInts (placesL T))]) (hm ++ [.hdr ((rowsL T).map hPair)])) := by
  have hb : forBody (nth lawB 10) = [nth lawL 0] ++ ([nth lawL 1, nth lawL 2] ++ ([nth lawL 3, nth lawL 4] ++ ([nth lawL 5, nth lawL 6] ++ [nth lawL 7, nth lawL 8, nth lawL 9]))) := by rfl
  rw [hb]
  have hX : ∀ (X : List Cell), (∀ c ∈ X, c.refs = []) → ∀ c ∈ cells5 script (pl ++ [.list (dInts (placesL T))]) (hm ++ [.hdr ((rowsL T).map hPair)]), ∀ j ∈ c.refs, j < (cells5 script (pl ++ [.list (dInts (placesL T))]) (hm ++ [.hdr ((rowsL T).map hPair)])).length := fun X hX c hc j hj => by
    simp at hc
    rcases hc with rfl | rfl | rfl | rfl <;> simp [Cell.refs] at hj
  refine ExecT.forget (C₂ := [.gone, .gone, .gone, .gone]) ?_ (by omega) (fun x r hx => ?_) (hX [] (by simp))
  · refine ExecT.ext (ex := [(Str.ofString "home", .loc (.d (.hdr ((rowsL T).map hPair)))), (Str.ofString "arrived", .loc (.d (.list ((dueL T).map .str)))), (Str.ofString "table", .loc (.d (.hdr ((rowsL T).map hPair)))), (Str.ofString "part", .loc (.d (.list (dBools tj))))]) ?_ (by kernel_rfl)
    refine @exs_app _ _ _ _ _ _ _ _ _ _ _ _ _ (@exs_cons _ _ _ _ _ _ _ _ _ _ _ _ _ ((@loopA1 _ _ (k) _ _ _ _ _ _ _ _ _ _ _ _ hm5 htl hj hp he).up (by omega)) (@exs_nil _ _ _ _ _ _ _)) ?_
    refine @exs_app _ _ _ _ _ _ _ _ _ _ _ _ _ ((@loopA2 _ _ (k) _ _ _ _ _ _ _ _ _ _ _ _ _ _ _ _ _ _ _ O hm5 hj htj hg he).up (by omega)) ?_
    refine ExecT.freezeH (i := 5) (j := 6) (ds := (rowsL T).map hPair) ?_ rfl rfl (by omega) (by omega) (fun a c ha hc => ?_) (nbx rfl) (nbx rfl)
    · show ExecT _ _ _ _ _ ((Str.ofString "table", .loc (.d (.hdr ((rowsL T).map hPair)))) :: (Str.ofString "part", .loc (.d (.list (dBools tj)))) :: G11 (.d (.int (j : Nat))) (.c 4) (.c 3) (.d (.list (dBools told))) (.d x5) (.d (.list [dTree g0, dTree g1])) (.d (.int (m : Nat))) (.d (.list (dInts ns)))) (cells5 script pl hm ++ [.gone, .gone]) _ _ _
      refine @exs_app _ _ _ _ _ _ _ _ _ _ _ _ _ ((@loopA3 _ _ (k) _ _ _ _ _ _ _ _ _ _ _ _ _ _ O hm5 he).up (by omega)) ?_
      refine @exs_app _ _ _ _ _ _ _ _ _ _ _ _ _ ((@loopB1 _ _ (k) _ (cells5 script pl hm ++ [.gone, .gone]) _ _ _ _ _ _ _ _ _ _ _ _ _ _ _ O hm5 he).up (by omega)) ?_
      refine ExecT.freezeH (i := 7) (j := 8) (ds := (rowsL T).map hPair) ?_ rfl rfl (by omega) (by omega) (fun a c ha hc => ?_) (nbx rfl) (nbx rfl)
      · show ExecT _ _ _ _ _ (GB (.d (.list (dBools tj))) (.d (.int (j : Nat))) (.c 4) (.c 3) (.d (.list (dBools told))) (.d x5) (.d (.list [dTree g0, dTree g1])) (.d (.int (m : Nat))) (.d (.list (dInts ns))) (.d (.hdr ((rowsL T).map hPair))) (.d (.list ((dueL T).map .str))) (.d (.hdr ((rowsL T).map hPair)))) (cells5 script pl hm ++ [.gone, .gone, .gone, .gone]) _ _ _
        exact @loopB2 _ _ _ _ _ _ _ _ _ _ _ _ _ _ _ _ _ _ _ _ _ O hm5 htj hj hpl hhm he
      · have := hno_of (X := cells5 script pl hm ++ [.gone, .gone]) (Y := [.lst ((rowsL T).map hPair)]) (fun c h => by
          rcases List.mem_append.mp h with h | h
          · exact refs5 c h
          · simp at h; subst h; rfl) (by simp [Cell.refs]) rfl ha hc
        rw [this]; simp
    · have := hno_of (X := cells5 script pl hm) (Y := [.lst ((rowsL T).map hPair)]) refs5 (by simp [Cell.refs]) rfl ha hc
      rw [this]; simp
  · exact gam_lt rfl x r hx
end

end
/-! L12 -/
section

noncomputable abbrev lawM : List Stmt := forBody (nth lawB 11)
noncomputable def costZ (hours place : List Int) : Int := sumL ((hours.zip place).map fun p => p.1 * p.2)
structure TreeOk2 (m : Nat) (g : Tree) (T : List Tri) : Prop where
  hlen : g.2.length = m
  hb : ∀ x ∈ g.2, 0 ≤ x ∧ x < 10
  bounded : boundedZ (placesL T) g.2 = true
  rows : rowsZ g.2 = T.map fun t => (t.1, t.2.1)
noncomputable abbrev cells2 (script : List Int) (kb hb : Option AV) : List Cell := [sBox script, .box kb, .box hb, .gone, .gone]
section
variable {K : Frag} {w : World} {n k k' : Nat} {env : Env} {Γ Γ₁ Γ₂ Γ' : Gam} {C C' C₁ C₂ C₃ CC : List Cell} {P : Params} {b : PM} {kp : Kp} {fs : List Foot} {h : Heap} {a0 a1 a2 a3 a4 a5 a6 a7 a8 b0 b1 b2 : AV}
theorem loop2a {m j : Nat} {script : List Int} {kb hb : Option AV} {g0 g1 gj : Tree} {T0 T1 Tj : List Tri} (O : TreeOk2 m gj Tj) (hm5 : m ≤ 5) (hj : j < 2) (hg : [dTree g0, dTree g1][j]? = some (dTree gj)) (hT : [T0, T1][j]? = some Tj)
    (hb0 : ∀ t ∈ T0, t.1 ≤ 6 ∧ t.2.1 ≤ 6) (hb1 : ∀ t ∈ T1, t.1 ≤ 6 ∧ t.2.1 ≤ 6) (hl0 : T0.length = m) (hl1 : T1.length = m)
    (hcost : (decide (([costZ gj.2 (placesL T0), costZ gj.2 (placesL T1)].getD j 0) ≥ ([costZ gj.2 (placesL T0), costZ gj.2 (placesL T1)].getD (1 - j) 0)) && !decide (placesL T0 = placesL T1)) = false) (he : env.scope = stScope (topAt 27)) :
    ExecT (KK P) w n (k + 3) env (G11 (.d (.int (j : Nat))) a2 (.d (.list [.list (dInts (placesL T0)), .list (dInts (placesL T1))])) a4 a5 (.d (.list [dTree g0, dTree g1])) a7 a8) (cells2 script kb hb) (execs [nth lawM 0, nth lawM 1, nth lawM 2, nth lawM 3, nth lawM 4] env)
      (.nxt ((Str.ofString "rows", .loc (.d (.list ((rowsZ gj.2).map dPair)))) :: (Str.ofString "costs", .loc (.d (.list (dInts [costZ gj.2 (placesL T0), costZ gj.2 (placesL T1)])))) :: G11 (.d (.int (j : Nat))) a2 (.d (.list [.list (dInts (placesL T0)), .list (dInts (placesL T1))])) a4 a5 (.d (.list [dTree g0, dTree g1])) a7 a8)) (cells2 script kb (some (.d (.list (dInts gj.2))))) := by
  have hTl : ∀ T : List Tri, T = T0 ∨ T = T1 → T.length = m ∧ ∀ t ∈ T, t.1 ≤ 6 ∧ t.2.1 ≤ 6 := fun T h => by rcases h with rfl | rfl <;> exact ⟨‹_›, ‹_›⟩
  refine @exs_cons _ _ _ _ _ _ _ _ (cells2 script kb (some (.d (.list (dInts gj.2))))) _ _ _ _ (@ex_bind _ _ _ _ _ _ _ _ _ _ _ _ _ _ (@ev_sub _ _ _ _ _ _ _ _ _ _ _ _ _ _ _ _ _ (@ev_sub _ _ _ _ _ _ _ _ _ _ _ _ _ _ _ _ _ (@ev_n _ _ _ _ _ _ _ _ _ (by walk_at "lk") (by decide +kernel)) (@ev_n _ _ _ _ _ _ _ _ _ (by walk_at "lk") (by decide +kernel)) LstV.d.ty list_getitem_lookup (@o_get _ _ _ _ _ _ _ (dTree gj) .d (by omega) (by omega) (by simpa using hg)) (fun _ _ => .inl rfl)) (@ev_int _ _ _ _ _ _ _ _ _) ty_tup PySem.F.slot_tuple_getitem.lookup (@o_gett _ _ _ _ _ _ (.list (dInts gj.2)) (by decide) (by decide) rfl) (fun _ _ => .inl rfl))
    (@as_box _ _ _ _ _ (Str.ofString "hours") _ _ (2) (hb) (kd he (by decide +kernel)) (by walk_at "lk") rfl) (by kernel_rfl) (by kernel_rfl) rfl) ?_
  refine @exs_cons _ _ _ _ _ _ _ _ (cells2 script kb (some (.d (.list (dInts gj.2))))) _ _ _ _ (@ex_comp_box _ _ _ _ _ _ _ _ _ _ _ _ _ _ _ _ _ _ _ _ (dInts [costZ gj.2 (placesL T0), costZ gj.2 (placesL T1)]) (Str.ofString "hours") (2) he (@src_list _ _ _ _ _ _ _ _ _ _ (@ev_n _ _ _ _ _ _ _ _ _ (by walk_at "lk") (by decide +kernel)) .name) (by simp [sizeLine]) (by rfl) (by decide +kernel) (by walk_at "lk") (fun a cl => ?_) (by decide +kernel) rfl (by decide +kernel) (by decide +kernel) (by decide +kernel) (fun _ => rfl)) ?_
  · have e1 : ([D.list (dInts (placesL T0)), .list (dInts (placesL T1))].map Item.one) = [T0, T1].map fun T => Item.one (.list (dInts (placesL T))) := rfl
    have e2 : dInts [costZ gj.2 (placesL T0), costZ gj.2 (placesL T1)] = [T0, T1].map fun T => D.int (costZ gj.2 (placesL T)) := rfl
    rw [e1, e2]
    refine comp_map fun T hT' => ⟨_, as_name (ckd (by decide +kernel)), ?_, GSub.c (by walk_at "lk") GSub.nil⟩
    obtain ⟨l1, l2⟩ := hTl T (by simpa using hT')
    have hh := O.hlen
    refine @ev_call _ _ _ _ _ _ _ _ _ _ _ _ _ _ _ _ (@ev_cg _ _ _ _ _ _ _ _ _ _ _ _ (by decide +kernel) g_sum (by decide +kernel)) rfl (EvalsTo.c (r := .d (.list (dInts ((gj.2.zip (placesL T)).map fun p => p.1 * p.2)))) (C₁ := cells2 script kb (some (.d (.list (dInts gj.2))))) ?_ .nil) (@o_sum _ _ _ _ _ _ .d)
    · refine ev_comp (@src_zip _ _ _ _ _ _ _ _ _ _ _ _ _ _ _ _ _ _ (@ev_cg _ _ _ _ _ _ _ _ _ _ _ _ (by decide +kernel) g_zip (by decide +kernel)) rfl (.c (ev_box (by walk_at "lk") rfl (by decide +kernel) (by decide +kernel)) (.c (@ev_n _ _ _ _ _ _ _ _ _ (by walk_at "lk") (by decide +kernel)) .nil))) (by simp [zipItems, sizeLine]; omega) (by kernel_rfl) (fun a => ?_) (by decide +kernel) rfl (by decide +kernel) (fun _ => rfl)
      have e3 : zipItems (dInts gj.2) (dInts (placesL T)) = (gj.2.zip (placesL T)).map fun p => Item.tup [.int p.1, .int p.2] := by
        rw [zipItems, dInts, dInts, List.zip_map, List.map_map]; rfl
      have e4 : dInts ((gj.2.zip (placesL T)).map fun p => p.1 * p.2) = (gj.2.zip (placesL T)).map fun p => D.int (p.1 * p.2) := by rw [dInts, List.map_map]; rfl
      rw [e3, e4]
      refine comp_map fun p hp => ⟨_, as_tup (.c (@as_name _ _ _ _ _ _ _ _ (ckd (by decide +kernel))) (.c (@as_name _ _ _ _ _ _ _ _ (ckd (by decide +kernel))) .nil)), ?_, GSub.nil⟩
      have hp1 := O.hb p.1 (List.of_mem_zip hp).1
      have hp2 : p.2.natAbs < 2 ^ 30 := by
        obtain ⟨t, ht, e⟩ := List.mem_map.mp (List.of_mem_zip hp).2
        have := l2 t ht
        have hle : t.1 * t.2.1 ≤ 6 * 6 := Nat.mul_le_mul this.1 this.2
        rw [← e]; omega
      exact @ev_bin _ _ _ _ _ _ _ _ _ _ _ _ _ _ _ _ (@ev_n _ _ _ _ _ _ _ _ _ (by walk_at "lk") (by decide +kernel)) (@ev_n _ _ _ _ _ _ _ _ _ (by walk_at "lk") (by decide +kernel)) (@o_mul _ _ _ _ _ _ (mulok (by omega) hp2))
  refine @exs_cons _ _ _ _ _ _ _ _ (cells2 script kb (some (.d (.list (dInts gj.2))))) _ _ _ _ (@ex_if _ _ _ _ _ _ _ (cells2 script kb (some (.d (.list (dInts gj.2))))) _ _ _ _ _ (false) _ ?_ (fun h => nomatch h) (fun _ => (@exs_nil _ _ _ _ _ _ _))) ?_
  · rw [← hcost]
    have hjm : ((1 : Int) - (j : Int)) = ((1 - j : Nat) : Int) := by omega
    refine @tst_and _ _ _ _ _ _ _ _ _ _ _ _ (@tst_cmp _ _ _ _ _ _ _ _ _ _ _ _ _ _ _ _ (@ev_sub _ _ _ _ _ _ _ _ _ _ _ _ _ _ _ _ _ (@ev_n _ _ _ _ _ _ _ _ _ (by walk_at "lk") (by decide +kernel)) (@ev_n _ _ _ _ _ _ _ _ _ (by walk_at "lk") (by decide +kernel)) LstV.d.ty list_getitem_lookup (@o_getM _ _ _ _ _ (D.int) _ _ _ 0 j rfl (by simp; omega) (by simp) .d) (fun _ _ => .inl rfl)) (@ev_sub _ _ _ _ _ _ _ _ _ _ _ _ _ _ _ _ _ (@ev_n _ _ _ _ _ _ _ _ _ (by walk_at "lk") (by decide +kernel)) (@ev_bin _ _ _ _ _ _ _ _ _ _ _ _ _ _ _ _ (@ev_int _ _ _ _ _ _ _ _ _) (@ev_n _ _ _ _ _ _ _ _ _ (by walk_at "lk") (by decide +kernel)) (@o_sub _ _ _ _ _ _)) LstV.d.ty list_getitem_lookup (@o_getM _ _ _ _ _ (D.int) _ _ _ 0 (1 - j) hjm (by simp; omega) (by simp) .d) (fun _ _ => .inl rfl)) (@o_ge _ _ _ _ _ _) rfl)
      (fun _ => @tst_cmp _ _ _ _ _ _ _ _ _ _ _ _ _ _ _ _ (@ev_sub _ _ _ _ _ _ _ _ _ _ _ _ _ _ _ _ _ (@ev_n _ _ _ _ _ _ _ _ _ (by walk_at "lk") (by decide +kernel)) (@ev_int _ _ _ _ _ _ _ _ _) LstV.d.ty list_getitem_lookup (@o_get _ _ _ _ _ _ _ (.list (dInts (placesL T0))) .d (by decide) (by decide) rfl) (fun _ _ => .inl rfl)) (@ev_sub _ _ _ _ _ _ _ _ _ _ _ _ _ _ _ _ _ (@ev_n _ _ _ _ _ _ _ _ _ (by walk_at "lk") (by decide +kernel)) (@ev_int _ _ _ _ _ _ _ _ _) LstV.d.ty list_getitem_lookup (@o_get _ _ _ _ _ _ _ (.list (dInts (placesL T1))) .d (by decide) (by decide) rfl) (fun _ _ => .inl rfl)) (o_nel eqk_int .d .d) rfl)
  have hTj : Tj.length = m ∧ ∀ t ∈ Tj, t.1 ≤ 6 ∧ t.2.1 ≤ 6 := hTl Tj (by have := List.mem_of_getElem? hT; simpa using this)
  have hh := O.hlen
  refine @exs_cons _ _ _ _ _ _ _ _ _ _ _ _ _ (@ex_if _ _ _ _ _ _ _ _ _ _ _ _ _ (false) _ (@tst_not _ _ _ _ _ _ _ _ _ (true) (@tst_call _ _ _ _ _ _ _ _ _ _ _ _ (@ev_call _ _ _ _ _ _ _ _ _ _ _ _ _ _ _ _ (@ev_g _ _ _ _ _ _ _ _ _ _ he (by decide +kernel) (by walk_at "gl") (by decide +kernel)) rfl (.c (@ev_sub _ _ _ _ _ _ _ _ _ _ _ _ _ _ _ _ _ (@ev_n _ _ _ _ _ _ _ _ _ (by walk_at "lk") (by decide +kernel)) (@ev_n _ _ _ _ _ _ _ _ _ (by walk_at "lk") (by decide +kernel)) LstV.d.ty list_getitem_lookup (@o_get _ _ _ _ _ _ _ (.list (dInts (placesL Tj))) .d (by omega) (by omega) ?_) (fun _ _ => .inl rfl)) (.c (ev_box (by walk_at "lk") rfl (by decide +kernel) (by decide +kernel)) .nil)) (Op.eq (@bounded_op _ _ _ _ _ _ (by omega) (by simp; omega)) (by rw [O.bounded]))))) (fun h => nomatch h) (fun _ => (@exs_nil _ _ _ _ _ _ _))) ?_
  · have : (j : Int).toNat = j := by omega
    rw [this]
    match j, hj, hT with
    | 0, _, h => cases h; rfl
    | 1, _, h => cases h; rfl
  exact @exs_cons _ _ _ _ _ _ _ _ _ _ _ _ _ (@ex_assign _ _ _ _ _ _ _ _ _ _ _ _ _ (@ev_call _ _ _ _ _ _ _ _ _ _ _ _ _ _ _ _ (@ev_g _ _ _ _ _ _ _ _ _ _ he (by decide +kernel) (by walk_at "gl") (by decide +kernel)) rfl (.c (ev_box (by walk_at "lk") rfl (by decide +kernel) (by decide +kernel)) .nil) (@rows_op _ _ _ _ _ (by omega))) (kd he (by decide +kernel)) (by kernel_rfl)) (@exs_nil _ _ _ _ _ _ _)
end

end
/-! L13 -/
section

theorem lower_tab : ∀ l, l < 7 → Txt.lower (dotsZ (l - 1) ++ (⟨#[110]⟩ : Str)) = dotsZ (l - 1) ++ (⟨#[110]⟩ : Str) ∧ Txt.lower (dotsZ (l - 1) ++ (⟨#[78]⟩ : Str)) = dotsZ (l - 1) ++ (⟨#[110]⟩ : Str) := by decide +kernel
theorem lower_name {l : Nat} {c : Int} (h : l < 7) : Txt.lower (nameZ l c) = dotsZ (l - 1) ++ (⟨#[110]⟩ : Str) := by
  unfold nameZ
  split
  · exact (lower_tab l h).1
  · exact (lower_tab l h).2
theorem low_eq {l l' : Nat} {c c' : Int} (h : l < 7) (h' : l' < 7) (h1 : 1 ≤ l) (h1' : 1 ≤ l') : ((Txt.lower (nameZ l c)).cps.toList == (Txt.lower (nameZ l' c')).cps.toList) = (l == l') := by
  rw [lower_name h, lower_name h']
  have e : ∀ n, (dotsZ n ++ (⟨#[110]⟩ : Str)).cps.toList = List.replicate n 46 ++ [110] := fun n => by rw [app_cps]; simp [dotsZ]
  rw [e, e]
  by_cases q : l = l'
  · subst q; simp
  · have : List.replicate (l - 1) 46 ++ [110] ≠ List.replicate (l' - 1) 46 ++ [110] := fun z => by
      have := congrArg List.length z
      simp at this
      omega
    have q1 : (l == l') = false := by simpa using q
    rw [q1]
    simpa using this
theorem getall_eq {T : List Tri} {rows : List (Nat × Nat)} {i : Nat} {c : Int} (hi : i < 6) (hb : ∀ t ∈ T, 1 ≤ t.1 ∧ t.1 ≤ 6 ∧ t.2.1 ≤ 6) (hr : rows = T.map fun t => (t.1, t.2.1)) :
    ((rowsL T).filter fun p => (Txt.lower p.1).cps.toList == (Txt.lower (nameZ (i + 1) c)).cps.toList).map (fun p => p.2) = (rows.filter fun p => ((p.1 : Int) == (i : Int) + 1)).map fun p => dotsZ p.2 := by
  subst hr
  induction T with
  | nil => rfl
  | cons t T ih =>
    have h1 := hb t List.mem_cons_self
    have ih' := ih fun x hx => hb x (List.mem_cons_of_mem _ hx)
    simp only [rowsL, List.map_cons, List.filter_cons]
    have e1 : ((Txt.lower (rowS t).1).cps.toList == (Txt.lower (nameZ (i + 1) c)).cps.toList) = (t.1 == i + 1) := low_eq (by omega) (by omega) h1.1 (by omega)
    have e2 : (((t.1 : Nat) : Int) == (i : Int) + 1) = (t.1 == i + 1) := by
      rw [Bool.eq_iff_iff]; simp; omega
    rw [e1, e2]
    cases t.1 == i + 1
    · simpa using ih'
    · simp only [if_true, List.map_cons]
      rw [ih']
      rfl
noncomputable abbrev lawK : List Stmt := forBody (nth lawM 5)
section
variable {K : Frag} {w : World} {n k k' : Nat} {env : Env} {Γ Γ₁ Γ₂ Γ' : Gam} {C C' C₁ C₂ C₃ CC : List Cell} {P : Params} {b : PM} {kp : Kp} {fs : List Foot} {h : Heap} {a0 a1 a2 a3 a4 a5 a6 a7 a8 b0 b1 b2 : AV}
noncomputable abbrev G13 (rws cst a1 a2 a3 a4 a5 a6 a7 a8 : AV) : Gam := (Str.ofString "rows", .loc rws) :: (Str.ofString "costs", .loc cst) :: G11 a1 a2 a3 a4 a5 a6 a7 a8
theorem kstep {i j : Nat} {script : List Int} {hb : Option AV} {H0 H1 : D} {rows : List (Nat × Nat)} {T : List Tri} (hi : i < 6) (hj : j < 2) (hT : [H0, H1][j]? = some (.hdr ((rowsL T).map hPair))) (hbd : ∀ t ∈ T, 1 ≤ t.1 ∧ t.1 ≤ 6 ∧ t.2.1 ≤ 6) (hTl : T.length ≤ 10) (hr : rows = T.map fun t => (t.1, t.2.1)) (he : env.scope = stScope (topAt 27)) :
    ExecT (KK P) w n (k + 3) env (G13 (.d (.list (rows.map dPair))) a0 (.d (.int (j : Nat))) (.d (.list [H0, H1])) a3 a4 a5 a6 a7 a8) (cells2 script (some (.d (.int (i : Nat)))) hb) (execs lawK env)
      (.nxt (G13 (.d (.list (rows.map dPair))) a0 (.d (.int (j : Nat))) (.d (.list [H0, H1])) a3 a4 a5 a6 a7 a8)) (cells2 script (some (.d (.int (i : Nat)))) hb) := by
  have hrb : ∀ p ∈ rows, p.2 ≤ 6 := fun p hp => by rw [hr] at hp; obtain ⟨t, ht, rfl⟩ := List.mem_map.mp hp; exact (hbd t ht).2.2
  have hrl : rows.length ≤ 10 := by rw [hr]; simpa using hTl
  refine ExecT.ext (ex := [(Str.ofString "due", .loc (.d (.list (((rows.filter fun p => ((p.1 : Int) == (i : Int) + 1)).map fun p => dotsZ p.2).map .str))))]) ?_ (by kernel_rfl)
  refine @exs_cons _ _ _ _ _ _ _ _ (cells2 script (some (.d (.int (i : Nat)))) hb) _ _ _ _ (@ex_comp_box _ _ _ _ _ _ _ _ _ _ _ _ _ _ _ _ _ _ _ _ (((rows.filter fun p => ((p.1 : Int) == (i : Int) + 1)).map fun p => dotsZ p.2).map .str) (Str.ofString "k") (1) he (@src_list _ _ _ _ _ _ _ _ _ _ (@ev_n _ _ _ _ _ _ _ _ _ (by walk_at "lk") (by decide +kernel)) .tuple) (by simp [sizeLine]; omega) (by rfl) (by decide +kernel) (by walk_at "lk") (fun a cl => ?_) (by decide +kernel) rfl (by decide +kernel) (by decide +kernel) (by decide +kernel) (fun _ => rfl)) ?_
  · rw [List.map_map, List.map_map]
    refine comp_filter fun p hp => ⟨_, as_tupd (.c (@as_name _ _ _ _ _ _ _ _ (ckd (by decide +kernel))) (.c (@as_name _ _ _ _ _ _ _ _ (ckd (by decide +kernel))) .nil)), .one ?_, fun _ => ?_, GSub.c (by walk_at "lk") GSub.nil⟩
    · exact @tst_cmp _ _ _ _ _ _ _ _ _ _ _ _ _ _ _ _ (@ev_n _ _ _ _ _ _ _ _ _ (by walk_at "lk") (by decide +kernel)) (@ev_bin _ _ _ _ _ _ _ _ _ _ _ _ _ _ _ _ (ev_box (by walk_at "lk") rfl (by decide +kernel) (by decide +kernel)) (@ev_int _ _ _ _ _ _ _ _ _) (@o_add _ _ _ _ _ _)) (@o_eq _ _ _ _ _ _) rfl
    · have := hrb p hp
      exact EvalTo.eq (@ev_bin _ _ _ _ _ _ _ _ _ _ _ _ _ _ _ _ (EvalTo.eq (@ev_str _ _ _ _ _ _ _ _ _) (r' := .d (.str ⟨#[46]⟩)) (by rw [dot_eq])) (@ev_n _ _ _ _ _ _ _ _ _ (by walk_at "lk") (by decide +kernel)) (@o_muls _ _ _ _ _ _ (by omega) (by omega))) (by simp [dotsZ])
  have hf : (i : Int).fmod 2 = 0 ∨ (i : Int).fmod 2 = 1 := by have := fmod_bounds (i : Int) (m := 2) (by omega); omega
  have eN : (Str.ofString "nN").cps[((i : Int).fmod 2).toNat]? = some (if (i : Int).fmod 2 = 0 then 110 else 78) := by
    have e0 : (Str.ofString "nN") = ⟨#[110, 78]⟩ := by decide +kernel
    rw [e0]
    rcases hf with h | h <;> rw [h] <;> rfl
  have e1 : EvalTo (KK P) w (k + 3) env ((Str.ofString "due", .loc (.d (.list (((rows.filter fun p => ((p.1 : Int) == (i : Int) + 1)).map fun p => dotsZ p.2).map .str)))) :: G13 (.d (.list (rows.map dPair))) a0 (.d (.int (j : Nat))) (.d (.list [H0, H1])) a3 a4 a5 a6 a7 a8) (cells2 script (some (.d (.int (i : Nat)))) hb) (match nth lawK 1 with | .If (.Compare (.Call _ [e] _ _) _ _ _) _ _ _ => e | _ => .Constant .none 0 ⟨0,0,0,0⟩) (.d (.str (nameZ (i + 1) (i : Int)))) (cells2 script (some (.d (.int (i : Nat)))) hb) := by
    refine EvalTo.eq (@ev_bin _ _ _ _ _ _ _ _ _ _ _ _ _ _ _ _ (@ev_bin _ _ _ _ _ _ _ _ _ _ _ _ _ _ _ _ (EvalTo.eq (@ev_str _ _ _ _ _ _ _ _ _) (r' := .d (.str ⟨#[46]⟩)) (by rw [dot_eq])) (ev_box (by walk_at "lk") rfl (by decide +kernel) (by decide +kernel)) (@o_muls _ _ _ _ _ _ (by omega) (by omega))) (@ev_sub _ _ _ _ _ _ _ _ _ _ _ _ _ _ _ _ _ (@ev_str _ _ _ _ _ _ _ _ _) (@ev_bin _ _ _ _ _ _ _ _ _ _ _ _ _ _ _ _ (ev_box (by walk_at "lk") rfl (by decide +kernel) (by decide +kernel)) (@ev_int _ _ _ _ _ _ _ _ _) (@o_mod _ _ _ _ _ _ (by decide))) ty_str PySem.F.slot_str_getitem.lookup (@o_gets _ _ _ _ _ _ _ (by rcases hf with h | h <;> rw [h] <;> decide) (by rcases hf with h | h <;> rw [h] <;> decide) eN) (fun _ _ => .inl rfl)) (@o_adds _ _ _ _ _ _ (by simp [Str.length, sizeLine]; omega))) ?_
    simp only [nameZ, dotsZ]
    have : ((i : Int)).toNat = i + 1 - 1 := by omega
    rw [this]
  have V : HdrV (cells2 script (some (.d (.int (i : Nat)))) hb) (.d (.hdr ((rowsL T).map hPair))) (.d (.list ((rowsL T).map hPair))) := .d
  have hlow : ∀ l c, l < 7 → (Txt.lower (nameZ l c)).length ≤ 7 := fun l c h => by
    rw [lower_name h]
    show (dotsZ (l - 1) ++ (⟨#[110]⟩ : Str)).cps.size ≤ 7
    rw [app_cps]; simp [dotsZ]; omega
  have nt : ∀ z, z ≤ 7 → Builtin.Str.tooLong z = false := fun z hz => by simp [Builtin.Str.tooLong, sizeLine]; omega
  have hG := @getall_op (w) (k + 1) (cells2 script (some (.d (.int (i : Nat)))) hb) (P) (rowsL T) (nameZ (i + 1) (i : Int)) (by simp; omega) (nt _ (hlow _ _ (by omega))) (by rw [lower_name (by omega)]; exact name_plain (c := 0) (l := i + 1) (by omega)) fun p hp => by
    obtain ⟨t, ht, rfl⟩ := List.mem_map.mp hp
    exact nt _ (hlow _ _ (by have := hbd t ht; omega))
  have eG : ((rowsL T).filter fun p => (Txt.lower p.1).cps.toList == (Txt.lower (nameZ (i + 1) (i : Int))).cps.toList).map (fun p => D.str p.2) = ((rows.filter fun p => ((p.1 : Int) == (i : Int) + 1)).map fun p => dotsZ p.2).map .str := by
    rw [← getall_eq hi hbd hr, List.map_map]; rfl
  rw [eG] at hG
  refine @exs_cons _ _ _ _ _ _ _ _ _ _ _ _ _ (@ex_if _ _ _ _ _ _ _ _ _ _ _ _ _ (false) _ (@tst_cmp _ _ _ _ _ _ _ _ _ _ _ _ _ _ _ _ (@ev_meth _ _ _ _ _ _ _ _ _ _ _ _ _ _ _ _ _ _ _ (@ev_sub _ _ _ _ _ _ _ _ _ _ _ _ _ _ _ _ _ (@ev_n _ _ _ _ _ _ _ _ _ (by walk_at "lk") (by decide +kernel)) (@ev_n _ _ _ _ _ _ _ _ _ (by walk_at "lk") (by decide +kernel)) LstV.d.ty list_getitem_lookup (@o_get _ _ _ _ _ _ _ (.hdr ((rowsL T).map hPair)) .d (by omega) (by omega) (by simpa using hT)) (fun _ _ => .inl rfl)) (@mg_hdr _ _ _ _ _ _ (157) _ V (by rfl) (by rfl) (by decide +kernel)) rfl (.c e1 .nil) hG (he_gen (fun _ => rfl) (by rfl) (by rfl))) (@ev_n _ _ _ _ _ _ _ _ _ (by walk_at "lk") (by decide +kernel)) (Op.eq (o_nel eqk_str .d .d) (by simp)) rfl) (fun h => nomatch h) (fun _ => (@exs_nil _ _ _ _ _ _ _))) (@exs_nil _ _ _ _ _ _ _)
end

end
/-! L14 -/
section

noncomputable def kbOf (kb : Option AV) : Nat → Option AV
  | 0 => kb
  | i + 1 => some (.d (.int (i : Nat)))
noncomputable abbrev G10 (a2 a3 a4 a5 a6 a7 a8 : AV) : Gam := [(Str.ofString "homes", .loc a2), (Str.ofString "places", .loc a3), (Str.ofString "told", .loc a4), (Str.ofString "codes", .loc a5), (Str.ofString "trees", .loc a6), (Str.ofString "size", .loc a7), (Str.ofString "numbers", .loc a8), (Str.ofString "script", .box 0), (Str.ofString "k", .box 1), (Str.ofString "hours", .box 2)]
section
variable {K : Frag} {w : World} {n k k' : Nat} {env : Env} {Γ Γ₁ Γ₂ Γ' : Gam} {C C' C₁ C₂ C₃ CC : List Cell} {P : Params} {b : PM} {kp : Kp} {fs : List Foot} {h : Heap} {a0 a1 a2 a3 a4 a5 a6 a7 a8 b0 b1 b2 : AV}
theorem kloop {m j : Nat} {script : List Int} {kb hb : Option AV} {H0 H1 : D} {rows : List (Nat × Nat)} {T : List Tri} (hm : m ≤ 5) (hj : j < 2) (hT : [H0, H1][j]? = some (.hdr ((rowsL T).map hPair))) (hbd : ∀ t ∈ T, 1 ≤ t.1 ∧ t.1 ≤ 6 ∧ t.2.1 ≤ 6) (hTl : T.length ≤ 10) (hr : rows = T.map fun t => (t.1, t.2.1)) (he : env.scope = stScope (topAt 27)) :
    ExecT (KK P) w n (k + 3) env (G13 (.d (.list (rows.map dPair))) a0 (.d (.int (j : Nat))) (.d (.list [H0, H1])) a3 a4 a5 a6 (.d (.int (m : Nat))) a8) (cells2 script kb hb) (exec (nth lawM 5) env)
      (.nxt (G13 (.d (.list (rows.map dPair))) a0 (.d (.int (j : Nat))) (.d (.list [H0, H1])) a3 a4 a5 a6 (.d (.int (m : Nat))) a8)) (cells2 script (kbOf kb m) hb) := by
  have L := loop_idx (K := KK P) (w := w) (n := n) (k := k + 3) (env := env) (target := forTgt (nth lawM 5)) (body := forBody (nth lawM 5)) (f := fun i : Nat => Item.one (.int (i : Nat)))
    (Γs := fun _ => G13 (.d (.list (rows.map dPair))) a0 (.d (.int (j : Nat))) (.d (.list [H0, H1])) a3 a4 a5 a6 (.d (.int (m : Nat))) a8) (Cs := fun i => cells2 script (kbOf kb i) hb) (N := m) fun i hi => by
      refine ⟨_, _, as_box (x := Str.ofString "k") (j := 1) (r := kbOf kb i) (kd he (by decide +kernel)) (by walk_at "lk") rfl, ?_⟩
      exact @kstep _ _ _ _ _ _ _ _ _ _ _ _ _ _ _ _ _ _ _ _ (by omega) hj hT hbd hTl hr he
  refine ex_for (@src_range1 _ _ _ _ _ _ _ _ _ _ _ _ _ _ _ (@ev_g _ _ _ _ _ _ _ _ _ _ he (by decide +kernel) (by walk_at "gl") (by decide +kernel)) rfl (.c (@ev_n _ _ _ _ _ _ _ _ _ (by walk_at "lk") (by decide +kernel)) .nil) (by omega) (by omega)) ?_
  rw [rangeItems_zero]
  exact L
theorem loop2_turn {m j : Nat} {script : List Int} {kb hb : Option AV} {g0 g1 gj : Tree} {T0 T1 Tj : List Tri} (O : TreeOk2 m gj Tj) (hm5 : m ≤ 5) (hj : j < 2) (hg : [dTree g0, dTree g1][j]? = some (dTree gj)) (hT : [T0, T1][j]? = some Tj)
    (hb0 : ∀ t ∈ T0, 1 ≤ t.1 ∧ t.1 ≤ 6 ∧ t.2.1 ≤ 6) (hb1 : ∀ t ∈ T1, 1 ≤ t.1 ∧ t.1 ≤ 6 ∧ t.2.1 ≤ 6) (hl0 : T0.length = m) (hl1 : T1.length = m)
    (hcost : (decide (([costZ gj.2 (placesL T0), costZ gj.2 (placesL T1)].getD j 0) ≥ ([costZ gj.2 (placesL T0), costZ gj.2 (placesL T1)].getD (1 - j) 0)) && !decide (placesL T0 = placesL T1)) = false) (he : env.scope = stScope (topAt 27)) :
    ExecT (KK P) w n (k + 3) env (G11 (.d (.int (j : Nat))) (.d (.list [.hdr ((rowsL T0).map hPair), .hdr ((rowsL T1).map hPair)])) (.d (.list [.list (dInts (placesL T0)), .list (dInts (placesL T1))])) a4 a5 (.d (.list [dTree g0, dTree g1])) (.d (.int (m : Nat))) a8) (cells2 script kb hb) (execs (forBody (nth lawB 11)) env)
      (.nxt (G10 (.d (.list [.hdr ((rowsL T0).map hPair), .hdr ((rowsL T1).map hPair)])) (.d (.list [.list (dInts (placesL T0)), .list (dInts (placesL T1))])) a4 a5 (.d (.list [dTree g0, dTree g1])) (.d (.int (m : Nat))) a8)) (cells2 script (kbOf kb m) (some (.d (.list (dInts gj.2))))) := by
  have hb : forBody (nth lawB 11) = [nth lawM 0, nth lawM 1, nth lawM 2, nth lawM 3, nth lawM 4] ++ [nth lawM 5] := by rfl
  rw [hb]
  have hTj : (∀ t ∈ Tj, 1 ≤ t.1 ∧ t.1 ≤ 6 ∧ t.2.1 ≤ 6) ∧ Tj.length = m ∧ [D.hdr ((rowsL T0).map hPair), .hdr ((rowsL T1).map hPair)][j]? = some (.hdr ((rowsL Tj).map hPair)) := by
    match j, hj, hT with
    | 0, _, h => cases h; exact ⟨hb0, hl0, rfl⟩
    | 1, _, h => cases h; exact ⟨hb1, hl1, rfl⟩
  refine ExecT.ext (ex := [(Str.ofString "rows", .loc (.d (.list ((rowsZ gj.2).map dPair)))), (Str.ofString "costs", .loc (.d (.list (dInts [costZ gj.2 (placesL T0), costZ gj.2 (placesL T1)])))), (Str.ofString "turn", .loc (.d (.int (j : Nat))))]) ?_ (by kernel_rfl)
  refine @exs_app _ _ _ _ _ _ _ _ _ _ _ _ _ (@loop2a _ _ (k) _ _ _ _ _ _ _ _ _ _ _ _ _ _ _ _ _ _ O hm5 hj hg hT (fun t ht => (hb0 t ht).2) (fun t ht => (hb1 t ht).2) hl0 hl1 hcost he) ?_
  exact @exs_cons _ _ _ _ _ _ _ _ _ _ _ _ _ (@kloop _ _ _ _ _ _ _ _ _ _ _ _ _ _ _ _ _ _ _ _ hm5 hj hTj.2.2 hTj.1 (by omega) O.rows he) (@exs_nil _ _ _ _ _ _ _)
end

end
/-! L15 -/
section

section
variable {K : Frag} {w : World} {n k k' : Nat} {env : Env} {Γ Γ₁ Γ₂ Γ' : Gam} {C C' C₁ C₂ C₃ CC : List Cell} {P : Params} {b : PM} {kp : Kp} {fs : List Foot} {h : Heap} {a0 a1 a2 a3 a4 a5 a6 a7 a8 b0 b1 b2 : AV}
theorem exsS_app {xs ys : List Stmt} {o : Out} (h1 : ExecT K w n k env Γ C (execs xs env) (.nxt Γ₁) C₁) (h2 : ExecS K w n k env Γ₁ C₁ (execs ys env) o C₂) : ExecS K w n k env Γ C (execs (xs ++ ys) env) o C₂ := by
  intro A s b kp fs Q E hG hA hR S F hn q
  rw [execs_app]
  refine wpAny_bind (h1 A s b kp fs _ E hR S F hn fun b₁ fs₁ hp₁ tk₁ f sb₁ kf₁ hn₁ S₁ ho => ?_)
  obtain ⟨rfl, F₁⟩ := ho
  exact h2 A _ b₁ kp fs₁ Q E hG hA hR S₁ F₁ hn₁ fun b₂ fs₂ hp₂ tk₂ f sb₂ kf₂ hn₂ S₂ ho => q b₂ fs₂ hp₂ tk₂ f (sb₁.trans sb₂) (kf₁.trans kf₂) hn₂ S₂ ho
theorem exsS_consS {st : Stmt} {rest : List Stmt} {o : Out} (h1 : ExecS K w n k env Γ C (exec st env) (.nxt Γ₁) C₁) (h2 : ExecS K w n k env Γ₁ C₁ (execs rest env) o C₂) : ExecS K w n k env Γ C (execs (st :: rest) env) o C₂ := by
  intro A s b kp fs Q E hG hA hR S F hn q
  refine wpAny_execs_cons (h1 A s b kp fs _ E hG hA hR S F hn fun b₁ fs₁ hp₁ tk₁ f sb₁ kf₁ hn₁ S₁ ho => ?_)
  obtain ⟨rfl, F₁⟩ := ho
  exact h2 A _ b₁ kp fs₁ Q E hG hA hR S₁ F₁ hn₁ fun b₂ fs₂ hp₂ tk₂ f sb₂ kf₂ hn₂ S₂ ho => q b₂ fs₂ hp₂ tk₂ f (sb₁.trans sb₂) (kf₁.trans kf₂) hn₂ S₂ ho
theorem ExecS.up {T : Sem Flow} {o : Out} (h : ExecS K w n k env Γ C T o C') (hk : k ≤ k') : ExecS K w n k' env Γ C T o C' := fun A s b kp fs Q E hG hA hR => h A s b kp fs Q E hG hA (hR.le hk)
theorem loop1_all {x5 : D} {script ns : List Int} {m : Nat} {told : List Bool} {gg : Nat → Tree} {TT : Nat → List Tri} (hm5 : m ≤ 5) (hO : ∀ i, i < 2 → TreeOk m (sumL ns) i (gg i) (TT i)) (hlen : told.length = 2 * (2 * m + 1)) (hd : ∀ i, i < 2 → (told.drop (i * (2 * m + 1))).take (2 * m + 1) = (gg i).1.map joint) (he : env.scope = stScope (topAt 27)) :
    ExecT (KK P) w 0 (k + 8) env (G10 (.c 4) (.c 3) (.d (.list (dBools told))) (.d x5) (.d (.list [dTree (gg 0), dTree (gg 1)])) (.d (.int (m : Nat))) (.d (.list (dInts ns)))) (cells5 script [] []) (exec (nth lawB 10) env)
      (.nxt (G10 (.c 4) (.c 3) (.d (.list (dBools told))) (.d x5) (.d (.list [dTree (gg 0), dTree (gg 1)])) (.d (.int (m : Nat))) (.d (.list (dInts ns))))) (cells5 script ((List.range 2).map fun j => .list (dInts (placesL (TT j)))) ((List.range 2).map fun j => .hdr ((rowsL (TT j)).map hPair))) := by
  have L1 := loop_idx (K := KK P) (w := w) (n := 0) (k := k + 8) (env := env) (target := forTgt (nth lawB 10)) (body := forBody (nth lawB 10)) (f := fun i : Nat => Item.one (.int (i : Nat)))
    (Γs := fun _ => G10 (.c 4) (.c 3) (.d (.list (dBools told))) (.d x5) (.d (.list [dTree (gg 0), dTree (gg 1)])) (.d (.int (m : Nat))) (.d (.list (dInts ns))))
    (Cs := fun i => cells5 script ((List.range i).map fun j => .list (dInts (placesL (TT j)))) ((List.range i).map fun j => .hdr ((rowsL (TT j)).map hPair))) (N := 2) fun i hi => by
      refine ⟨_, _, as_name (kd he (by decide +kernel)), ExecT.ext (ex := [(Str.ofString "turn", .loc (.d (.int (i : Nat))))]) ?_ (by kernel_rfl)⟩
      have e1 : ∀ (f : Nat → D), (List.range (i + 1)).map f = (List.range i).map f ++ [f i] := fun f => by rw [List.range_succ, List.map_append]; rfl
      rw [e1, e1]
      have hg : [dTree (gg 0), dTree (gg 1)][i]? = some (dTree (gg i)) := by
        match i, hi with
        | 0, _ => rfl
        | 1, _ => rfl
      have X := @loop1_turn (w) (k) (env) (P) (x5) _ _ (script) _ _ _ _ _ _ _ ((List.range i).map fun j => .list (dInts (placesL (TT j)))) ((List.range i).map fun j => .hdr ((rowsL (TT j)).map hPair)) (hO i hi) hm5 hi hlen (hd i hi) rfl hg (by simp) (by simp) he
      exact X
  have e := rangeItems_zero 2
  have e2 : ((2 : Nat) : Int) = 2 := rfl
  rw [e2] at e
  refine ex_for (@src_range1 _ _ _ _ _ _ _ _ _ _ _ _ _ _ _ (@ev_g _ _ _ _ _ _ _ _ _ _ he (by decide +kernel) (by walk_at "gl") (by decide +kernel)) rfl (.c (@ev_int _ _ _ _ _ _ _ _ _) .nil) (by omega) (by omega)) ?_
  rw [e]
  exact L1
end

end
/-! L16 -/
section

noncomputable def KB (m : Nat) : Nat → Option AV
  | 0 => none
  | i + 1 => kbOf (KB m i) m
noncomputable def HB (gg : Nat → Tree) : Nat → Option AV
  | 0 => none
  | i + 1 => some (.d (.list (dInts (gg i).2)))
section
variable {K : Frag} {w : World} {n k k' : Nat} {env : Env} {Γ Γ₁ Γ₂ Γ' : Gam} {C C' C₁ C₂ C₃ CC : List Cell} {P : Params} {b : PM} {kp : Kp} {fs : List Foot} {h : Heap} {a0 a1 a2 a3 a4 a5 a6 a7 a8 b0 b1 b2 : AV}
theorem loop2_all {script : List Int} {m : Nat} {gg : Nat → Tree} {TT : Nat → List Tri} (hm5 : m ≤ 5) (hO : ∀ i, i < 2 → TreeOk2 m (gg i) (TT i)) (hb : ∀ i, i < 2 → (∀ t ∈ TT i, 1 ≤ t.1 ∧ t.1 ≤ 6 ∧ t.2.1 ≤ 6) ∧ (TT i).length = m)
    (hcost : ∀ i, i < 2 → (decide (([costZ (gg i).2 (placesL (TT 0)), costZ (gg i).2 (placesL (TT 1))].getD i 0) ≥ ([costZ (gg i).2 (placesL (TT 0)), costZ (gg i).2 (placesL (TT 1))].getD (1 - i) 0)) && !decide (placesL (TT 0) = placesL (TT 1))) = false) (he : env.scope = stScope (topAt 27)) :
    ExecT (KK P) w 0 (k + 3) env (G10 (.d (.list [.hdr ((rowsL (TT 0)).map hPair), .hdr ((rowsL (TT 1)).map hPair)])) (.d (.list [.list (dInts (placesL (TT 0))), .list (dInts (placesL (TT 1)))])) a4 a5 (.d (.list [dTree (gg 0), dTree (gg 1)])) (.d (.int (m : Nat))) a8) (cells2 script none none) (exec (nth lawB 11) env)
      (.nxt (G10 (.d (.list [.hdr ((rowsL (TT 0)).map hPair), .hdr ((rowsL (TT 1)).map hPair)])) (.d (.list [.list (dInts (placesL (TT 0))), .list (dInts (placesL (TT 1)))])) a4 a5 (.d (.list [dTree (gg 0), dTree (gg 1)])) (.d (.int (m : Nat))) a8)) (cells2 script (KB m 2) (HB gg 2)) := by
  have L1 := loop_idx (K := KK P) (w := w) (n := 0) (k := k + 3) (env := env) (target := forTgt (nth lawB 11)) (body := forBody (nth lawB 11)) (f := fun i : Nat => Item.one (.int (i : Nat)))
    (Γs := fun _ => G10 (.d (.list [.hdr ((rowsL (TT 0)).map hPair), .hdr ((rowsL (TT 1)).map hPair)])) (.d (.list [.list (dInts (placesL (TT 0))), .list (dInts (placesL (TT 1)))])) a4 a5 (.d (.list [dTree (gg 0), dTree (gg 1)])) (.d (.int (m : Nat))) a8)
    (Cs := fun i => cells2 script (KB m i) (HB gg i)) (N := 2) fun i hi => by
      refine ⟨_, _, as_name (kd he (by decide +kernel)), ?_⟩
      have hg : [dTree (gg 0), dTree (gg 1)][i]? = some (dTree (gg i)) := by
        match i, hi with
        | 0, _ => rfl
        | 1, _ => rfl
      have hT : [TT 0, TT 1][i]? = some (TT i) := by
        match i, hi with
        | 0, _ => rfl
        | 1, _ => rfl
      have X := @loop2_turn (w) (0) (k) (env) (P) (a4) (a5) (a8) _ _ (script) (KB m i) (HB gg i) _ _ _ _ _ _ (hO i hi) hm5 hi hg hT (hb 0 (by omega)).1 (hb 1 (by omega)).1 (hb 0 (by omega)).2 (hb 1 (by omega)).2 (hcost i hi) he
      exact X
  have e := rangeItems_zero 2
  have e2 : ((2 : Nat) : Int) = 2 := rfl
  rw [e2] at e
  refine ex_for (@src_range1 _ _ _ _ _ _ _ _ _ _ _ _ _ _ _ (@ev_g _ _ _ _ _ _ _ _ _ _ he (by decide +kernel) (by walk_at "gl") (by decide +kernel)) rfl (.c (@ev_int _ _ _ _ _ _ _ _ _) .nil) (by omega) (by omega)) ?_
  rw [e]
  exact L1
/-- the second part of law: from the lists of codes and told on -/
theorem lawtail {script ns : List Int} {m : Nat} {told : List Bool} {gg : Nat → Tree} {TT : Nat → List Tri} {x5 : D} (hm5 : m ≤ 5) (hlen : told.length = 2 * (2 * m + 1)) (hd : ∀ i, i < 2 → (told.drop (i * (2 * m + 1))).take (2 * m + 1) = (gg i).1.map joint)
    (hO : ∀ i, i < 2 → TreeOk m (sumL ns) i (gg i) (TT i)) (hP : ∀ i, i < 2 → TreeOk2 m (gg i) (TT i))
    (hcost : ∀ i, i < 2 → (decide (([costZ (gg i).2 (placesL (TT 0)), costZ (gg i).2 (placesL (TT 1))].getD i 0) ≥ ([costZ (gg i).2 (placesL (TT 0)), costZ (gg i).2 (placesL (TT 1))].getD (1 - i) 0)) && !decide (placesL (TT 0) = placesL (TT 1))) = false) (he : env.scope = stScope (topAt 27)) :
    ExecT (KK P) w 0 (k + 8) env ((Str.ofString "told", .loc (.d (.list (dBools told)))) :: (Str.ofString "codes", .loc (.d x5)) :: (Str.ofString "trees", .loc (.d (.list [dTree (gg 0), dTree (gg 1)]))) :: (Str.ofString "size", .loc (.d (.int (m : Nat)))) :: (Str.ofString "numbers", .loc (.d (.list (dInts ns)))) :: boxG) [sBox script, .box none, .box none]
      (execs [nth lawB 8, nth lawB 9, nth lawB 10, nth lawB 11, nth lawB 12] env) (.ret (.d (.bool true))) (cells2 script (KB m 2) (HB gg 2)) := by
  refine @exs_cons _ _ _ _ _ _ _ _ _ _ _ _ _ (@ex_assign _ _ _ _ _ _ _ _ _ _ _ _ _ (@ev_listc _ _ _ _ _ _ _ _ _ _ .nil (by first | decide | simp [sizeLine])) (kd he (by decide +kernel)) (by kernel_rfl)) ?_
  refine @exs_cons _ _ _ _ _ _ _ _ _ _ _ _ _ (@ex_assign _ _ _ _ _ _ _ _ _ _ _ _ _ (@ev_listc _ _ _ _ _ _ _ _ _ _ .nil (by first | decide | simp [sizeLine])) (kd he (by decide +kernel)) (by kernel_rfl)) ?_
  refine @exs_cons _ _ _ _ _ _ _ _ _ _ _ _ _ (@loop1_all _ _ _ _ _ _ _ _ _ _ _ hm5 hO hlen hd he) ?_
  refine ExecT.freeze (i := 3) (ds := (List.range 2).map fun j => .list (dInts (placesL (TT j)))) ?_ rfl (by omega) (fun a c ha hc => ?_) (nbx rfl)
  · refine ExecT.freeze (i := 4) (ds := (List.range 2).map fun j => .hdr ((rowsL (TT j)).map hPair)) ?_ rfl (by omega) (fun a c ha hc => ?_) (nbx rfl)
    · show ExecT _ _ _ _ _ (G10 (.d (.list [.hdr ((rowsL (TT 0)).map hPair), .hdr ((rowsL (TT 1)).map hPair)])) (.d (.list [.list (dInts (placesL (TT 0))), .list (dInts (placesL (TT 1)))])) (.d (.list (dBools told))) (.d x5) (.d (.list [dTree (gg 0), dTree (gg 1)])) (.d (.int (m : Nat))) (.d (.list (dInts ns)))) (cells2 script none none) _ _ _
      refine @exs_cons _ _ _ _ _ _ _ _ _ _ _ _ _ ((@loop2_all _ (k) _ _ _ _ _ _ _ _ _ hm5 hP (fun i hi => ⟨(hO i hi).bnd, (hO i hi).tlen⟩) hcost he).up (by omega)) ?_
      exact @exs_ret _ _ _ _ _ _ _ _ _ _ _ (@ex_return _ _ _ _ _ _ _ _ _ _ _ (@ev_bool _ _ _ _ _ _ _ _ _))
    · rcases List.mem_or_eq_of_mem_set (List.mem_of_getElem? hc) with h | h
      · rw [refs5 c h]; simp
      · rw [h]; simp [Cell.refs]
  · rw [refs5 c (List.mem_of_getElem? hc)]; simp
end

end
/-! L17 -/
section

noncomputable abbrev lawG' (cs : List Nat) (g0 g1 : Tree) (m : Nat) (ns : List Int) : Gam := [(Str.ofString "codes", .loc (.d (.list (dNats cs)))), (Str.ofString "trees", .loc (.d (.list [dTree g0, dTree g1]))), (Str.ofString "size", .loc (.d (.int (m : Nat)))), (Str.ofString "numbers", .loc (.d (.list (dInts ns)))), (Str.ofString "script", .box 0), (Str.ofString "k", .box 1), (Str.ofString "hours", .box 2)]
section
variable {K : Frag} {w : World} {n k k' : Nat} {env : Env} {Γ Γ₁ Γ₂ Γ' : Gam} {C C' C₁ C₂ C₃ CC : List Cell} {P : Params} {b : PM} {kp : Kp} {fs : List Foot} {h : Heap}
theorem law_x {script ns : List Int} {m : Nat} {cs : List Nat} {gg : Nat → Tree} {TT : Nat → List Tri} (hl : script.length ≤ 63) (hns : numsZ script = ns) (hm : sizeN script = m) (hg0 : grownAt (ns.take m) m = gg 0) (hg1 : grownAt ((ns.drop 5).take m) m = gg 1)
    (hcodes : dInts ((gg 0).1 ++ (gg 1).1) = dNats cs) (hcb : ∀ c ∈ cs, c < 1114112) (hcsl : cs.length ≤ 1000) (hlen : (toldN cs).length = 2 * (2 * m + 1)) (hd : ∀ i, i < 2 → ((toldN cs).drop (i * (2 * m + 1))).take (2 * m + 1) = (gg i).1.map joint)
    (hO : ∀ i, i < 2 → TreeOk m (sumL ns) i (gg i) (TT i)) (hP : ∀ i, i < 2 → TreeOk2 m (gg i) (TT i))
    (hcost : ∀ i, i < 2 → (decide (([costZ (gg i).2 (placesL (TT 0)), costZ (gg i).2 (placesL (TT 1))].getD i 0) ≥ ([costZ (gg i).2 (placesL (TT 0)), costZ (gg i).2 (placesL (TT 1))].getD (1 - i) 0)) && !decide (placesL (TT 0) = placesL (TT 1))) = false) (he : env.scope = stScope (topAt 27)) :
    ExecS (KK P) w 0 (k + 8) env boxG [sBox script, .box none, .box none] (execs lawB env) (.ret (.d (.bool true))) (cells2 script (KB m 2) (HB gg 2)) := by
  have hm5 : m ≤ 5 := by rw [← hm]; unfold sizeN; omega
  have hn10 : ns.length = 10 := by rw [← hns]; simp [numsZ]
  have hb : lawB = [nth lawB 0, nth lawB 1] ++ ([nth lawB 2, nth lawB 3, nth lawB 4] ++ (nth lawB 5 :: ([nth lawB 6, nth lawB 7] ++ [nth lawB 8, nth lawB 9, nth lawB 10, nth lawB 11, nth lawB 12]))) := by rfl
  rw [hb]
  refine @exsS_app _ _ _ _ _ _ ([(Str.ofString "numbers", .loc (.d (.list (dInts ns)))), (Str.ofString "script", .box 0), (Str.ofString "k", .box 1), (Str.ofString "hours", .box 2)]) _ ([sBox script, .box none, .box none]) _ _ _ _ (@exs_cons _ _ _ _ _ _ _ _ _ _ _ _ _ (@law0 _ _ _ _ _ _ _ he) (@exs_cons _ _ _ _ _ _ _ _ _ _ _ _ _ ?_ (@exs_nil _ _ _ _ _ _ _))) ?_
  · have A1 := ((@law1a (w) (0) (k) _ (P) _ hl he).up (k' := k + 8) (by omega)).less (Γ₂ := [(Str.ofString "numbers", .loc (.d (.list (dInts (numsZ script))))), (Str.ofString "script", .box 0), (Str.ofString "k", .box 1), (Str.ofString "hours", .box 2)]) (GSub.c (by walk_at "lk") (GSub.c (by walk_at "lk") (GSub.c (by walk_at "lk") (GSub.c (by walk_at "lk") GSub.nil))))
    rw [hns] at A1
    exact A1
  refine @exsS_app _ _ _ _ _ _ (lawG' cs (gg 0) (gg 1) m ns) _ ([sBox script, .box none, .box none]) _ _ _ _ ?_ ?_
  · have A2 := (@law1b (w) (0) (k) _ (P) _ _ _ _ _ hl hn10 hm hg0 hg1 he).up (k' := k + 8) (by omega)
    unfold lawG at A2
    rw [hcodes] at A2
    exact A2
  refine @exsS_consS _ _ _ _ _ _ _ _ _ _ _ _ _ ((@law5 _ _ (k) _ _ _ _ (cs) _ _ _ _ _ _ _ hcb hcsl (@ev_g _ _ _ _ _ _ _ _ _ _ he (by decide +kernel) (by walk_at "gl") (by decide +kernel)) (@ev_n _ _ _ _ _ _ _ _ _ (by walk_at "lk") (by decide +kernel)) (@ev_n _ _ _ _ _ _ _ _ _ (by walk_at "lk") (by decide +kernel))).up (by omega)) ?_
  refine @exsS_app _ _ _ _ _ _ ((Str.ofString "told", .loc (.d (.list (dBools (toldN cs))))) :: lawG' cs (gg 0) (gg 1) m ns) _ ([sBox script, .box none, .box none]) _ _ _ _ (@exs_cons _ _ _ _ _ _ ((Str.ofString "told", .loc (.d (.list (dBools (toldN cs))))) :: lawG' cs (gg 0) (gg 1) m ns) _ ([sBox script, .box none, .box none]) _ _ _ _ ?_ (@exs_cons _ _ _ _ _ _ ((Str.ofString "told", .loc (.d (.list (dBools (toldN cs))))) :: lawG' cs (gg 0) (gg 1) m ns) _ ([sBox script, .box none, .box none]) _ _ _ _ ?_ (@exs_nil _ _ _ _ _ _ _))) ?_
  · exact (@law6 (w) (0) (k) _ (lawG' cs (gg 0) (gg 1) m ns) ([sBox script, .box none, .box none]) (P) _ hcb hcsl lk_here he).up (by omega)
  · exact (@law7 (w) (0) (k) _ ((Str.ofString "told", .loc (.d (.list (dBools (toldN cs))))) :: lawG' cs (gg 0) (gg 1) m ns) ([sBox script, .box none, .box none]) (P) _ hcsl (by walk_at "lk") lk_here he).up (by omega)
  · exact ExecT.toS (@lawtail _ _ _ _ _ _ _ _ _ _ _ hm5 hlen hd hO hP hcost he)
end

end
/-! L18 -/
section

theorem look3 {α : Type} {a b c x : Str} {u v t r : α} (h : List.lookup x [(a, u), (b, v), (c, t)] = some r) : (x = a ∧ r = u) ∨ (x = b ∧ r = v) ∨ (x = c ∧ r = t) := by
  rw [List.lookup_cons] at h
  split at h
  · rename_i q; cases h; exact .inl ⟨beq_iff_eq.mp q, rfl⟩
  · exact .inr (look2 h)
section
variable {P : Params} {w : World} {k : Nat}
theorem bind_279 (v : Value) : bindArgs (codeOf P 279) ⟨[v], []⟩ = pure [(Str.ofString "script", v)] := by kernel_rfl
theorem kd279a : (codeOf P 279).scope.names.lookup (Str.ofString "script") = some .cell := by kernel_rfl
theorem kd279b : (codeOf P 279).scope.names.lookup (Str.ofString "k") = some .cell := by kernel_rfl
theorem kd279c : (codeOf P 279).scope.names.lookup (Str.ofString "hours") = some .cell := by kernel_rfl
theorem cells279 (m : Nat) : cellsFrom m (codeOf P 279).scope.names [] = cellsOf m [Str.ofString "script", Str.ofString "k", Str.ofString "hours"] [] := by kernel_rfl
theorem law_op {script ns : List Int} {m : Nat} {cs : List Nat} {gg : Nat → Tree} {TT : Nat → List Tri} (hl : script.length ≤ 63) (hns : numsZ script = ns) (hm : sizeN script = m) (hg0 : grownAt (ns.take m) m = gg 0) (hg1 : grownAt ((ns.drop 5).take m) m = gg 1)
    (hcodes : dInts ((gg 0).1 ++ (gg 1).1) = dNats cs) (hcb : ∀ c ∈ cs, c < 1114112) (hcsl : cs.length ≤ 1000) (hlen : (toldN cs).length = 2 * (2 * m + 1)) (hd : ∀ i, i < 2 → ((toldN cs).drop (i * (2 * m + 1))).take (2 * m + 1) = (gg i).1.map joint)
    (hO : ∀ i, i < 2 → TreeOk m (sumL ns) i (gg i) (TT i)) (hP : ∀ i, i < 2 → TreeOk2 m (gg i) (TT i))
    (hcost : ∀ i, i < 2 → (decide (([costZ (gg i).2 (placesL (TT 0)), costZ (gg i).2 (placesL (TT 1))].getD i 0) ≥ ([costZ (gg i).2 (placesL (TT 0)), costZ (gg i).2 (placesL (TT 1))].getD (1 - i) 0)) && !decide (placesL (TT 0) = placesL (TT 1))) = false) :
    OpS (KK P) w (k + 9) [] (fun vs => call (.ref 279) vs []) [.d (.list (dInts script))] (.d (.bool true)) [] := by
  refine @call_fnBS _ _ _ _ _ (cells2 script (KB m 2) (HB gg 2)) _ _ _ ([Str.ofString "script"]) ([Str.ofString "script", Str.ofString "k", Str.ofString "hours"]) ([some (.d (.list (dInts script))), none, none]) _ _ _ (boxG) 
    def_279 (KK_lim P) (fun s vs X hl => by obtain ⟨v, rfl⟩ := len1 hl; exact @BindsTo.of_eq _ _ _ _ (bind_279 v)) cells279 (by decide +kernel) rfl (fun q hq => ?_) (fun b fs vs hv => ?_) (fun b fs vs hv x r hx => ?_) (fun x j hx => ?_) (fun h => h) rfl (by trivial) (fun L => ?_)
  · simp at hq
    subst hq
    exact .inr ⟨kd279a, by simp⟩
  · have h_vs := RepAs.one hv; clear hv; obtain ⟨v, rfl, h1⟩ := h_vs
    refine ⟨⟨v, ?_, h1⟩, trivial, trivial, trivial⟩
    simp [bindC, kd279a]
  · rcases look3 hx with ⟨_, e⟩ | ⟨_, e⟩ | ⟨_, e⟩ <;> cases e
  · rcases look3 hx with ⟨rfl, e⟩ | ⟨rfl, e⟩ | ⟨rfl, e⟩
    · cases e; exact ⟨kd279a, 0, rfl, rfl⟩
    · cases e; exact ⟨kd279b, 1, rfl, rfl⟩
    · cases e; exact ⟨kd279c, 2, rfl, rfl⟩
  · have he : (envOfC (codeOf P 279).qualname (codeOf P 279).scope L 279 (codeOf P 279).code).scope = stScope (topAt 27) := rfl
    have X := @law_x (w) (k) _ (P) _ _ _ _ _ _ hl hns hm hg0 hg1 hcodes hcb hcsl hlen hd hO hP hcost he
    simp only [List.nil_append, List.length_nil, List.map_cons, List.map_nil]
    unfold lawB sBox at X
    assumption
end

end
/-! P1 -/
section
open Builtin Builtin.Str

theorem sub_list (x : Str) (i j : Nat) : (strSub x i j).cps.toList = (x.cps.toList.drop i).take (j - i) := by
  show (x.cps.extract i j).toList = _
  rw [Array.toList_extract, List.extract_eq_take_drop]
theorem at_list {x y : Str} {i : Nat} : StrLaws.At x y x.length i ↔ i + y.length ≤ x.length ∧ (x.cps.toList.drop i).take y.length = y.cps.toList := by
  unfold StrLaws.At subAt
  constructor
  · intro ⟨h1, h2⟩
    refine ⟨h1, ?_⟩
    have := congrArg Array.toList (beq_iff_eq.mp h2)
    rw [Array.toList_extract, List.extract_eq_take_drop] at this
    rw [← this]
    congr 1; omega
  · intro ⟨h1, h2⟩
    refine ⟨h1, beq_iff_eq.mpr (Array.ext' ?_)⟩
    rw [Array.toList_extract, List.extract_eq_take_drop, ← h2]
    congr 1; omega
theorem len_list (x : Str) : x.length = x.cps.toList.length := by simp [Str.length]
theorem str_ext {x y : Str} (h : x.cps.toList = y.cps.toList) : x = y := by
  cases x; cases y; simp at h; rw [h]
/-- a text of parts, each but the last with the separator behind it -/
noncomputable def flatS (sep : List Nat) (ps : List (List Nat)) : List Nat := (ps.map (· ++ sep)).flatten
theorem parts_eq {x y : Str} {c0 : Nat} {sep last : List Nat} (hy : y.cps.toList = c0 :: sep) (hl : c0 ∉ last) : ∀ (ps : List (List Nat)) (pre : List Nat) (cuts : List Nat) (f : Nat), (∀ p ∈ ps, c0 ∉ p) →
    x.cps.toList = pre ++ (flatS (c0 :: sep) ps ++ last) → StrLaws.ChainG x y x.length pre.length cuts f → (∀ k, f ≤ k → ¬ StrLaws.At x y x.length k) →
    (StrLaws.partsFrom x y.length pre.length cuts).map (fun s => s.cps.toList) = ps ++ [last] := by
  have hyl : y.length = sep.length + 1 := by rw [len_list, hy]; rfl
  have hat : ∀ k, StrLaws.At x y x.length k → x.cps.toList[k]? = some c0 := fun k h => by
    have h2 := (at_list.mp h).2
    rw [hy, hyl] at h2
    have h3 : ((x.cps.toList.drop k).take (sep.length + 1))[0]? = some c0 := by rw [h2]; rfl
    rw [List.getElem?_take] at h3
    simpa using h3
  intro ps
  induction ps with
  | nil =>
    intro pre cuts f _ hx hc hn
    have hx' : x.cps.toList = pre ++ last := by simpa [flatS] using hx
    cases cuts with
    | nil =>
      show [(strSub x pre.length x.length).cps.toList] = [last]
      rw [sub_list, len_list, hx']
      simp
    | cons c r =>
      obtain ⟨h1, h2, _⟩ := hc
      have h3 := hat c h2
      rw [hx', List.getElem?_append_right h1] at h3
      exact absurd (List.mem_of_getElem? h3) hl
  | cons p ps ih =>
    intro pre cuts f hp hx hc hn
    have hx' : x.cps.toList = pre ++ (p ++ (c0 :: sep) ++ (flatS (c0 :: sep) ps ++ last)) := by rw [hx]; simp [flatS]
    have hA : StrLaws.At x y x.length (pre.length + p.length) := by
      refine at_list.mpr ⟨?_, ?_⟩
      · rw [len_list x, hx', hyl]; simp; omega
      · rw [hx', hy, hyl]
        have e : pre ++ (p ++ (c0 :: sep) ++ (flatS (c0 :: sep) ps ++ last)) = (pre ++ p) ++ ((c0 :: sep) ++ (flatS (c0 :: sep) ps ++ last)) := by simp
        rw [e, ← List.length_append, List.drop_left]
        exact List.take_left' (by simp)
    cases cuts with
    | nil => exact absurd hA (hn _ (by have : f = pre.length := hc; omega))
    | cons c r =>
      obtain ⟨h1, h2, h3, h4⟩ := hc
      have hcc : c = pre.length + p.length := by
        rcases Nat.lt_trichotomy c (pre.length + p.length) with h | h | h
        · have h5 := hat c h2
          rw [hx', List.getElem?_append_right h1, List.append_assoc, List.getElem?_append_left (by omega)] at h5
          exact absurd (List.mem_of_getElem? h5) (hp p (by simp))
        · exact h
        · exact absurd hA (h3 _ (by omega) h)
      subst hcc
      show (strSub x pre.length (pre.length + p.length)).cps.toList :: ((StrLaws.partsFrom x y.length (pre.length + p.length + y.length) r).map _) = p :: (ps ++ [last])
      have e1 : (strSub x pre.length (pre.length + p.length)).cps.toList = p := by
        rw [sub_list, hx']
        simp
      have e2 : pre.length + p.length + y.length = (pre ++ p ++ (c0 :: sep)).length := by rw [hyl]; simp; omega
      rw [e1, e2]
      rw [e2] at h4
      rw [ih (pre ++ p ++ (c0 :: sep)) r f (fun q hq => hp q (List.mem_cons_of_mem _ hq)) (by rw [hx']; simp) h4 hn]
theorem split_parts {x y : Str} {c0 : Nat} {sep last : List Nat} {ps : List (List Nat)} (hk : Builtin.Str.strKind y = 1) (hy : y.cps.toList = c0 :: sep) (hl : c0 ∉ last) (hp : ∀ p ∈ ps, c0 ∉ p) (hx : x.cps.toList = flatS (c0 :: sep) ps ++ last) :
    Txt.split x y = (ps ++ [last]).map fun l => ⟨l.toArray⟩ := by
  have hyl : y.length = sep.length + 1 := by rw [len_list, hy]; rfl
  obtain ⟨f, h1, h2⟩ := StrLaws.occ_tight x y (by omega)
  have h3 := parts_eq hy hl ps [] _ f hp hx h1 h2
  have hkx : 1 ≤ Builtin.Str.strKind x := by
    unfold Builtin.Str.strKind
    split
    · omega
    · split <;> omega
  have e : StrLaws.partsFrom x y.length 0 (occurrences x y 0 x.length (x.length + 1)) = (ps ++ [last]).map fun l => ⟨l.toArray⟩ := by
    rw [← h3, List.map_map]
    exact (List.map_id' _).symm.trans (List.map_congr_left fun s _ => str_ext rfl)
  unfold Txt.split
  split
  · rename_i hc
    rw [hk, Bool.or_eq_true, decide_eq_true_eq, decide_eq_true_eq] at hc
    have hlt : x.length < y.length := hc.resolve_right (by omega)
    cases ps with
    | nil => show [x] = [_]; rw [str_ext (x := x) (y := ⟨last.toArray⟩) (by rw [hx]; simp [flatS])]
    | cons p ps =>
      rw [len_list x, hx, hyl] at hlt
      simp [flatS] at hlt
      omega
  · split
    · rename_i _ hc
      rw [List.isEmpty_iff.mp hc] at e
      have e' : [strSub x 0 x.length] = _ := e
      rw [StrLaws.sub_whole] at e'
      exact e'
    · rw [StrLaws.partsBetween_eq, e]

end
/-! P2 -/
section

noncomputable def crlfL : List Nat → List Nat
  | [] => []
  | c :: r => if c = 13 then (match r with
      | d :: r' => if d = 10 then 13 :: 10 :: crlfL r' else 13 :: 10 :: crlfL (d :: r')
      | [] => [13, 10])
    else if c = 10 then 13 :: 10 :: crlfL r else c :: crlfL r
theorem crlfL_nil : crlfL [] = [] := by rw [crlfL.eq_def]
theorem crlfL_plain {c : Nat} {r : List Nat} (h3 : c ≠ 13) (h0 : c ≠ 10) : crlfL (c :: r) = c :: crlfL r := by
  rw [crlfL.eq_def]; simp only [if_neg h3, if_neg h0]
theorem crlfL_10 {r : List Nat} : crlfL (10 :: r) = 13 :: 10 :: crlfL r := by
  rw [crlfL.eq_def]; simp only [if_neg (show ¬ (10 = 13) by decide), if_true]
theorem crlfL_1310 {r : List Nat} : crlfL (13 :: 10 :: r) = 13 :: 10 :: crlfL r := by
  rw [crlfL.eq_def]; simp only [if_true]
theorem crlfL_13 {d : Nat} {r : List Nat} (h : d ≠ 10) : crlfL (13 :: d :: r) = 13 :: 10 :: crlfL (d :: r) := by
  rw [crlfL.eq_def]; simp only [if_true, if_neg h]
theorem crlfL_13n : crlfL [13] = [13, 10] := by
  rw [crlfL.eq_def]; simp only [if_true]
noncomputable def quoteL : Bool → List Nat → List Nat
  | _, [] => []
  | b, c :: r => if b && c == 46 then 46 :: 46 :: quoteL false r else c :: quoteL (c == 10) r

theorem drop_at {text : List Nat} {d : Nat} (h : d < text.length) : text.drop d = text.getD d 0 :: text.drop (d + 1) := by
  rw [List.drop_eq_getElem_cons h, List.getD_eq_getElem?_getD, List.getElem?_eq_getElem h]; rfl
theorem arr_getD (text : List Nat) (d : Nat) : text.toArray.getD d 0 = text.getD d 0 := by
  rw [List.getD_eq_getElem?_getD, Array.getD_eq_getD_getElem?]; simp
theorem subZ_none {F : Finds} {text repl : List Nat} {d : Nat} (h : F d = none) : ∀ n, subZ F text repl n d = text.drop d
  | 0 => rfl
  | n + 1 => by show (match F d with | none => _ | some (p, e) => _) = _; rw [h]
theorem subZ_skip {F : Finds} {text repl : List Nat} {d n : Nat} (hd : d < text.length) (he : F d = F (d + 1)) (hp : ∀ p e, F (d + 1) = some (p, e) → d + 1 ≤ p) :
    subZ F text repl (n + 1) d = text.getD d 0 :: subZ F text repl (n + 1) (d + 1) := by
  show (match F d with | none => _ | some (p, e) => _) = _ :: (match F (d + 1) with | none => _ | some (p, e) => _)
  rw [he]
  cases h : F (d + 1) with
  | none => exact drop_at hd
  | some q =>
    obtain ⟨p, e⟩ := q
    have h1 := hp p e h
    show (text.drop d).take (p - d) ++ repl ++ _ = _ :: ((text.drop (d + 1)).take (p - (d + 1)) ++ repl ++ _)
    rw [drop_at hd]
    have e1 : p - d = (p - (d + 1)) + 1 := by omega
    rw [e1, List.take_succ_cons]
    rfl
theorem subZ_hit {F : Finds} {text repl : List Nat} {d e n : Nat} (h : F d = some (d, e)) : subZ F text repl (n + 1) d = repl ++ subZ F text repl n e := by
  show (match F d with | none => _ | some (p, e) => _) = _
  rw [h]
  show (text.drop d).take (d - d) ++ repl ++ _ = _
  rw [Nat.sub_self, List.take_zero, List.nil_append]
theorem F2_step {text : List Nat} {d : Nat} (hd : d < text.length) : F2s text.toArray d = if isEnd (text.getD d 0) then some (d, end2 text.toArray text.length d) else F2s text.toArray (d + 1) := by
  have e : text.toArray.size - d = (text.toArray.size - (d + 1)) + 1 := by simp; omega
  unfold F2s
  rw [e]
  show (if isEnd (text.toArray.getD d 0) = true then some d else find2 text.toArray (text.toArray.size - (d + 1)) (d + 1)).map _ = _
  rw [arr_getD]
  split
  · rfl
  · rfl
theorem F1_step' {text : List Nat} {d : Nat} (hd : d < text.length) : F1s text.toArray d = if hit1 text.toArray d then some (d, d + 1) else F1s text.toArray (d + 1) := by
  have e : text.toArray.size - d = (text.toArray.size - (d + 1)) + 1 := by simp; omega
  unfold F1s
  rw [e]
  show (if hit1 text.toArray d = true then some d else find1 text.toArray (text.toArray.size - (d + 1)) (d + 1)).map _ = _
  split
  · rfl
  · rfl
theorem F2_ge {text : List Nat} {d p e : Nat} (h : F2s text.toArray d = some (p, e)) : d ≤ p := (F2ok.bound d p e h).1
theorem crlf_at {text : List Nat} : ∀ (j d n : Nat), text.length - d ≤ j → text.length - d < n → d ≤ text.length → subZ (F2s text.toArray) text [13, 10] n d = crlfL (text.drop d) := by
  intro j
  induction j with
  | zero =>
    intro d n h1 _ h3
    have hd : d = text.length := by omega
    subst hd
    rw [List.drop_length]
    have : F2s text.toArray text.length = none := by unfold F2s; simp [find2]
    rw [subZ_none this, List.drop_length, crlfL_nil]
  | succ j ih =>
    intro d n h1 h2 h3
    rcases Nat.lt_or_ge d text.length with hd | hd
    · obtain ⟨n, rfl⟩ : ∃ m, n = m + 1 := ⟨n - 1, by omega⟩
      have hs := F2_step hd
      cases hE : isEnd (text.getD d 0) with
      | false =>
        rw [hE, if_neg (by decide)] at hs
        rw [subZ_skip hd hs (fun p e h => F2_ge h), ih (d + 1) (n + 1) (by omega) (by omega) (by omega), drop_at hd]
        simp only [isEnd, Bool.or_eq_false_iff, beq_eq_false_iff_ne] at hE
        rw [crlfL_plain hE.2 hE.1]
      | true =>
        rw [hE, if_pos rfl] at hs
        rw [subZ_hit hs, drop_at hd]
        simp only [isEnd, Bool.or_eq_true, beq_iff_eq] at hE
        unfold end2
        rw [arr_getD, arr_getD]
        rcases Nat.lt_or_ge (d + 1) text.length with hd1 | hd1
        · have ed := drop_at hd1
          by_cases h13 : text.getD d 0 = 13
          · rw [h13]
            by_cases h10 : text.getD (d + 1) 0 = 10
            · rw [ed, h10]
              have e : ((13 == 13) && (decide (d + 1 < text.length) && (10 == 10))) = true := by simp [hd1]
              rw [if_pos e, ih (d + 2) n (by omega) (by omega) (by omega), crlfL_1310]
              rfl
            · have e : ((13 == 13) && (decide (d + 1 < text.length) && (text.getD (d + 1) 0 == 10))) = false := by
                have : (text.getD (d + 1) 0 == 10) = false := by rw [beq_eq_false_iff_ne]; exact h10
                rw [this]; simp
              rw [if_neg (by rw [e]; decide), ih (d + 1) n (by omega) (by omega) (by omega), ed, crlfL_13 h10]
              rfl
          · have h10 : text.getD d 0 = 10 := hE.resolve_right h13
            rw [h10]
            have e : ((10 == 13) && (decide (d + 1 < text.length) && (text.getD (d + 1) 0 == 10))) = false := rfl
            rw [if_neg (by rw [e]; decide), ih (d + 1) n (by omega) (by omega) (by omega), crlfL_10]
            rfl
        · have e : (text.getD d 0 == 13 && (decide (d + 1 < text.length) && (text.getD (d + 1) 0 == 10))) = false := by
            have : decide (d + 1 < text.length) = false := by simp; omega
            rw [this]; simp
          rw [if_neg (by rw [e]; decide), ih (d + 1) n (by omega) (by omega) (by omega)]
          have e2 : text.drop (d + 1) = [] := List.drop_eq_nil_of_le hd1
          rw [e2, crlfL_nil]
          rcases hE with h | h <;> rw [h]
          · rw [crlfL_10, crlfL_nil]; rfl
          · rw [crlfL_13n]; rfl
    · exact ih d n (by omega) h2 h3
theorem crlfZ_eq (x : List Nat) : crlfZ x = crlfL x := by
  unfold crlfZ
  rw [crlf_at x.length 0 (x.length + 1) (by omega) (by omega) (by omega)]; rfl
theorem F1_ge {text : List Nat} {d p e : Nat} (h : F1s text.toArray d = some (p, e)) : d ≤ p := by
  simp only [F1s, Option.map_eq_some_iff, Prod.mk.injEq] at h
  obtain ⟨q, h, rfl, rfl⟩ := h
  exact (find1_some h).1
theorem bol_succ (text : List Nat) (d : Nat) : bol text.toArray (d + 1) = (text.getD d 0 == 10) := by
  unfold bol
  rw [Nat.add_sub_cancel, arr_getD]
  rfl
theorem quote_at {text : List Nat} : ∀ (j d n : Nat), text.length - d ≤ j → text.length - d < n → d ≤ text.length → subZ (F1s text.toArray) text [46, 46] n d = quoteL (bol text.toArray d) (text.drop d) := by
  intro j
  induction j with
  | zero =>
    intro d n h1 _ h3
    have hd : d = text.length := by omega
    subst hd
    rw [List.drop_length]
    have : F1s text.toArray text.length = none := by unfold F1s; simp [find1]
    rw [subZ_none this]
    simp [quoteL]
  | succ j ih =>
    intro d n h1 h2 h3
    rcases Nat.lt_or_ge d text.length with hd | hd
    · obtain ⟨n, rfl⟩ : ∃ m, n = m + 1 := ⟨n - 1, by omega⟩
      have hs := F1_step' hd
      have hh : hit1 text.toArray d = (bol text.toArray d && (text.getD d 0 == 46)) := by unfold hit1; rw [arr_getD]
      rw [hh] at hs
      rw [drop_at hd, quoteL]
      cases hE : (bol text.toArray d && (text.getD d 0 == 46)) with
      | false =>
        rw [hE, if_neg (by decide)] at hs
        rw [subZ_skip hd hs (fun p e h => F1_ge h), ih (d + 1) (n + 1) (by omega) (by omega) (by omega), bol_succ]
        rfl
      | true =>
        rw [hE, if_pos rfl] at hs
        rw [subZ_hit hs, ih (d + 1) n (by omega) (by omega) (by omega), bol_succ]
        simp only [Bool.and_eq_true, beq_iff_eq] at hE
        rw [hE.2]
        rfl
    · exact ih d n (by omega) h2 h3
theorem quoteZ_eq (x : List Nat) : quoteZ x = quoteL true (crlfL x) := by
  unfold quoteZ
  rw [crlfZ_eq, quote_at (crlfL x).length 0 ((crlfL x).length + 1) (by omega) (by omega) (by omega)]; rfl

end
/-! P3 -/
section

noncomputable def Clean (l : List Nat) : Prop := ∀ c ∈ l, c ≠ 13 ∧ c ≠ 10
theorem crlf_app {x : List Nat} : ∀ {l : List Nat}, Clean l → crlfL (l ++ x) = l ++ crlfL x
  | [], _ => rfl
  | c :: l, h => by
    have hc := h c (by simp)
    rw [List.cons_append, crlfL_plain hc.1 hc.2, crlf_app fun d hd => h d (List.mem_cons_of_mem _ hd)]; rfl
noncomputable def segs (e : Nat → List Nat) : Nat → List (List Nat) → List Nat
  | _, [] => []
  | a, l :: r => l ++ (e a ++ segs e (a + 1) r)
theorem crlf_segs {e : Nat → List Nat} (he : ∀ i, e i = [13, 10] ∨ e i = [10] ∨ (e i = [13] ∧ e (i + 1) = [13, 10])) : ∀ (ls : List (List Nat)) (a : Nat), (∀ l ∈ ls, Clean l) → crlfL (segs e a ls) = flatS [13, 10] ls
  | [], _, _ => crlfL_nil
  | l :: ls, a, h => by
    have ih := crlf_segs he ls (a + 1) fun q hq => h q (List.mem_cons_of_mem _ hq)
    show crlfL (l ++ (e a ++ segs e (a + 1) ls)) = flatS [13, 10] (l :: ls)
    rw [crlf_app (h l (by simp))]
    have e1 : flatS [13, 10] (l :: ls) = l ++ (13 :: 10 :: flatS [13, 10] ls) := by simp [flatS]
    rw [e1, ← ih]
    congr 1
    rcases he a with h1 | h1 | ⟨h1, h2⟩
    · rw [h1]; exact crlfL_1310
    · rw [h1]; exact crlfL_10
    · rw [h1]
      cases ls with
      | nil => exact crlfL_13n.trans (by rw [show segs e (a + 1) [] = [] from rfl, crlfL_nil])
      | cons l2 ls =>
        show crlfL (13 :: (l2 ++ (e (a + 1) ++ segs e (a + 1 + 1) ls))) = 13 :: 10 :: crlfL (l2 ++ (e (a + 1) ++ segs e (a + 1 + 1) ls))
        cases l2 with
        | nil => rw [h2]; exact crlfL_13 (by decide)
        | cons c r => exact crlfL_13 ((h (c :: r) (by simp)) c (by simp)).2
noncomputable def dueN (l : List Nat) : List Nat := if l.take 1 = [46] then 46 :: l else l
theorem quote_app {x : List Nat} : ∀ {l : List Nat}, Clean l → quoteL false (l ++ x) = l ++ quoteL false x
  | [], _ => rfl
  | c :: l, h => by
    have hc := h c (by simp)
    have e : (c == 10) = false := by rw [beq_eq_false_iff_ne]; exact hc.2
    rw [List.cons_append, quoteL, e, quote_app fun d hd => h d (List.mem_cons_of_mem _ hd)]; rfl
theorem quote_lines : ∀ (ls : List (List Nat)), (∀ l ∈ ls, Clean l) → quoteL true (flatS [13, 10] ls) = flatS [13, 10] (ls.map dueN)
  | [], _ => rfl
  | l :: ls, h => by
    have ih := quote_lines ls fun q hq => h q (List.mem_cons_of_mem _ hq)
    have e1 : flatS [13, 10] (l :: ls) = l ++ (13 :: 10 :: flatS [13, 10] ls) := by simp [flatS]
    have e2 : flatS [13, 10] ((l :: ls).map dueN) = dueN l ++ (13 :: 10 :: flatS [13, 10] (ls.map dueN)) := by simp [flatS]
    have e3 : ∀ b, quoteL b (13 :: 10 :: flatS [13, 10] ls) = 13 :: 10 :: flatS [13, 10] (ls.map dueN) := fun b => by
      rw [← ih]; cases b <;> rfl
    rw [e1, e2]
    cases l with
    | nil => exact e3 true
    | cons c r =>
      have hc : Clean r := fun d hd => h (c :: r) (by simp) d (List.mem_cons_of_mem _ hd)
      by_cases h46 : c = 46
      · subst h46
        show 46 :: 46 :: quoteL false (r ++ _) = _
        rw [quote_app hc, e3]; rfl
      · have hc0 := h (c :: r) (by simp) c (by simp)
        have e4 : dueN (c :: r) = c :: r := if_neg (by simpa using h46)
        have e5 : (true && c == 46) = false := by rw [Bool.true_and, beq_eq_false_iff_ne]; exact h46
        have e6 : (c == 10) = false := by rw [beq_eq_false_iff_ne]; exact hc0.2
        rw [e4]
        show (if (true && c == 46) = true then _ else c :: quoteL (c == 10) (r ++ _)) = _
        rw [e5, e6, if_neg (by decide), quote_app hc, e3]; rfl
theorem glued_list (sep : Str) : ∀ (ps : List Str) (last : Str), (Txt.join sep (ps ++ [last])).cps.toList = flatS sep.cps.toList (ps.map fun p => p.cps.toList) ++ last.cps.toList := by
  have go : ∀ (r : List Str) (acc : Array Nat), (r.foldl (fun acc p => acc ++ sep.cps ++ p.cps) acc).toList = acc.toList ++ (r.map fun p => sep.cps.toList ++ p.cps.toList).flatten := by
    intro r
    induction r with
    | nil => intro acc; simp
    | cons p r ih => intro acc; rw [List.foldl_cons, ih]; simp
  have sw : ∀ (ps : List Str) (p last : Str), p.cps.toList ++ ((ps ++ [last]).map fun p => sep.cps.toList ++ p.cps.toList).flatten = flatS sep.cps.toList ((p :: ps).map fun p => p.cps.toList) ++ last.cps.toList := by
    intro ps
    induction ps with
    | nil => intro p last; simp [flatS]
    | cons q ps ih =>
      intro p last
      have h := ih q last
      have e1 : flatS sep.cps.toList ((p :: q :: ps).map fun p => p.cps.toList) = p.cps.toList ++ sep.cps.toList ++ flatS sep.cps.toList ((q :: ps).map fun p => p.cps.toList) := by simp [flatS]
      rw [e1, List.append_assoc, ← h]
      simp
  intro ps last
  unfold Txt.join Builtin.Str.glued
  cases ps with
  | nil => simp [flatS]
  | cons p ps =>
    rw [← sw]
    exact go _ _

end
/-! P4 -/
section

noncomputable def endE (turn : Int) (i : Nat) : List Nat := (endsZ.getD ((turn + (i : Int)).fmod 3).toNat ⟨#[]⟩).cps.toList
theorem endE_ok (turn : Int) (i : Nat) : endE turn i = [13, 10] ∨ endE turn i = [10] ∨ (endE turn i = [13] ∧ endE turn (i + 1) = [13, 10]) := by
  have h1 := Int.fmod_eq_emod_of_nonneg (turn + (i : Int)) (b := 3) (by decide)
  have h2 := Int.fmod_eq_emod_of_nonneg (turn + ((i + 1 : Nat) : Int)) (b := 3) (by decide)
  have h3 : (turn + (i : Int)) % 3 = 0 ∨ (turn + (i : Int)) % 3 = 1 ∨ (turn + (i : Int)) % 3 = 2 := by omega
  unfold endE
  rw [h1, h2]
  rcases h3 with h | h | h
  · left; rw [h]; rfl
  · right; left; rw [h]; rfl
  · right; right
    have h4 : (turn + ((i + 1 : Nat) : Int)) % 3 = 0 := by omega
    rw [h, h4]; exact ⟨rfl, rfl⟩
theorem segs_snoc {e : Nat → List Nat} {l : List Nat} : ∀ (ls : List (List Nat)) (a : Nat), segs e a (ls ++ [l]) = segs e a ls ++ (l ++ e (a + ls.length))
  | [], a => by simp [segs]
  | q :: ls, a => by
    show q ++ (e a ++ segs e (a + 1) (ls ++ [l])) = q ++ (e a ++ segs e (a + 1) ls) ++ _
    rw [segs_snoc ls (a + 1)]
    have : a + 1 + ls.length = a + (q :: ls).length := by simp; omega
    rw [this]; simp
theorem typed_list {lines : List Str} {turn : Int} : ∀ j, j ≤ lines.length → (typedZ lines turn j).cps.toList = segs (endE turn) 0 ((lines.map fun l : Str => l.cps.toList).take j)
  | 0, _ => by simp [typedZ, segs]
  | j + 1, h => by
    have ih := typed_list (lines := lines) (turn := turn) j (by omega)
    have e1 : ((lines.map fun l : Str => l.cps.toList).take (j + 1)) = ((lines.map fun l : Str => l.cps.toList).take j) ++ [(lines.getD j ⟨#[]⟩).cps.toList] := by
      rw [List.take_add_one, List.getElem?_map, List.getD_eq_getElem?_getD, List.getElem?_eq_getElem h]; rfl
    rw [e1, segs_snoc, ← ih]
    have e2 : 0 + ((lines.map fun l : Str => l.cps.toList).take j).length = j := by rw [List.length_take, List.length_map]; omega
    rw [e2]
    show ((typedZ lines turn j).cps ++ ((lines.getD j ⟨#[]⟩).cps ++ _)).toList = _
    rw [Array.toList_append, Array.toList_append]; rfl
theorem due_list (l : List Nat) : due1 ⟨l.toArray⟩ = ⟨(dueN l).toArray⟩ := by
  unfold due1 dueN
  by_cases h : l.take 1 = [46]
  · simp only [h, decide_true, if_true]
    refine str_ext ?_
    show (#[46] ++ l.toArray).toList = 46 :: l
    rw [Array.toList_append]; rfl
  · simp only [h, decide_false, if_false]
    rfl
theorem no13 {ls : List (List Nat)} (h : ∀ l ∈ ls, Clean l) : ∀ l ∈ ls, 13 ∉ l := fun l hl hc => (h l hl 13 hc).1 rfl
theorem due_clean {l : List Nat} (h : Clean l) : Clean (dueN l) := by
  unfold dueN
  split
  · intro c hc
    rcases List.mem_cons.mp hc with rfl | hc
    · decide
    · exact h c hc
  · exact h
theorem flat_len {sep : List Nat} {k : Nat} : ∀ {ls : List (List Nat)}, (∀ l ∈ ls, l.length ≤ k) → (flatS sep ls).length ≤ (k + sep.length) * ls.length
  | [], _ => by simp [flatS]
  | l :: ls, h => by
    have ih := flat_len (sep := sep) (ls := ls) fun q hq => h q (List.mem_cons_of_mem _ hq)
    have h1 := h l (by simp)
    have e : (flatS sep (l :: ls)).length = l.length + sep.length + (flatS sep ls).length := by simp [flatS]; omega
    rw [e, List.length_cons, Nat.mul_succ]; omega
noncomputable def mk (l : List Nat) : Str := ⟨l.toArray⟩
theorem sent_lines {page : Str} {turn : Int} {ls : List (List Nat)} (hc : ∀ l ∈ ls, Clean l) (hs : Txt.split page crlfS = (ls ++ [[]]).map mk) :
    crlfZ (typedZ (Txt.split page crlfS) turn ((Txt.split page crlfS).length - 1)).cps.toList = flatS [13, 10] ls ∧
    quoteZ (typedZ (Txt.split page crlfS) turn ((Txt.split page crlfS).length - 1)).cps.toList = flatS [13, 10] (ls.map dueN) ∧
    sentZ page turn = (ls ++ [[]]).map fun l => due1 (mk l) := by
  have e0 : (typedZ (Txt.split page crlfS) turn ((Txt.split page crlfS).length - 1)).cps.toList = segs (endE turn) 0 ls := by
    rw [typed_list _ (by omega), hs]
    have e1 : (((ls ++ [[]]).map mk).map fun l : Str => l.cps.toList) = ls ++ [[]] := by
      rw [List.map_map]; exact List.map_id' _
    rw [e1]
    congr 1
    have e2 : ((ls ++ [[]]).map mk).length - 1 = ls.length := by simp
    rw [e2]
    exact List.take_left
  have e1 := crlf_segs (endE_ok turn) ls 0 hc
  have h1 : crlfZ (segs (endE turn) 0 ls) = flatS [13, 10] ls := by rw [crlfZ_eq, e1]
  have h2 : quoteZ (segs (endE turn) 0 ls) = flatS [13, 10] (ls.map dueN) := by rw [quoteZ_eq, e1, quote_lines ls hc]
  have hsp := split_parts (x := mk (flatS [13, 10] (ls.map dueN))) (y := crlfS) (c0 := 13) (sep := [10]) (last := []) (ps := ls.map dueN) (by decide +kernel) rfl (by simp) (no13 fun l hl => by
    obtain ⟨q, hq, rfl⟩ := List.mem_map.mp hl
    exact due_clean (hc q hq)) (by simp [mk])
  refine ⟨by rw [e0, h1], by rw [e0, h2], ?_⟩
  have e3 : (Txt.split page crlfS).map due1 = (ls ++ [[]]).map fun l => due1 (mk l) := by rw [hs, List.map_map]; rfl
  unfold sentZ
  rw [e0, h2, e3]
  refine if_pos (decide_eq_true ?_)
  refine hsp.trans ?_
  rw [List.map_append, List.map_append, List.map_map]
  congr 1
  exact List.map_congr_left fun l _ => (due_list l).symm

end
/-! P5 -/
section

noncomputable def lineN (t : Tri) : List Nat := List.replicate (t.1 - 1) 46 ++ [if t.2.2.fmod 2 = 0 then 110 else 78] ++ [58, 32] ++ List.replicate t.2.1 46
theorem colon_eq : Str.ofString ": " = ⟨#[58, 32]⟩ := by decide +kernel
theorem crlf_eq : Str.ofString "\r\n" = ⟨#[13, 10]⟩ := by decide +kernel
theorem empty_eq : Str.ofString "" = ⟨#[]⟩ := by decide +kernel
theorem app_list (a b : Str) : (a ++ b).cps.toList = a.cps.toList ++ b.cps.toList := by
  show (a.cps ++ b.cps).toList = _
  rw [Array.toList_append]
theorem line_list (t : Tri) : (lineZ (rowS t)).cps.toList = lineN t := by
  unfold lineZ rowS nameZ lineN
  rw [colon_eq]
  simp only [app_list]
  rfl
theorem line_mk (t : Tri) : lineZ (rowS t) = mk (lineN t) := str_ext (line_list t)
theorem line_mem {t : Tri} {c : Nat} (h : c ∈ lineN t) : c = 46 ∨ c = 110 ∨ c = 78 ∨ c = 58 ∨ c = 32 := by
  unfold lineN at h
  simp only [List.mem_append, List.mem_replicate, List.mem_cons, List.not_mem_nil, or_false] at h
  rcases h with ((h | h) | h | h) | h
  · exact .inl h.2
  · split at h
    · exact .inr (.inl h)
    · exact .inr (.inr (.inl h))
  · exact .inr (.inr (.inr (.inl h)))
  · exact .inr (.inr (.inr (.inr h)))
  · exact .inl h.2
theorem line_clean (t : Tri) : Clean (lineN t) := fun c hc => by
  rcases line_mem hc with h | h | h | h | h <;> subst h <;> decide
theorem lineN_len {t : Tri} (h : t.1 ≤ 6 ∧ t.2.1 ≤ 6) : (lineN t).length ≤ 14 := by
  unfold lineN
  simp only [List.length_append, List.length_replicate, List.length_cons, List.length_nil]
  omega
theorem parse_row (t : Tri) : Txt.split (lineZ (rowS t)) (Str.ofString ": ") = [(rowS t).1, (rowS t).2] := by
  have h := split_parts (x := lineZ (rowS t)) (y := Str.ofString ": ") (c0 := 58) (sep := [32]) (last := (rowS t).2.cps.toList) (ps := [(rowS t).1.cps.toList]) (by rw [colon_eq]; decide +kernel) (by rw [colon_eq]) (by
    show 58 ∉ (List.replicate t.2.1 46).toArray.toList
    simp) (fun p hp => by
    rw [List.mem_singleton.mp hp]
    show 58 ∉ (nameZ t.1 t.2.2).cps.toList
    unfold nameZ
    rw [app_list]
    show 58 ∉ (List.replicate (t.1 - 1) 46) ++ [if t.2.2.fmod 2 = 0 then 110 else 78]
    simp only [List.mem_append, List.mem_replicate, List.mem_cons, List.not_mem_nil, or_false]
    rintro (h | h)
    · omega
    · split at h <;> omega) (by
    show (lineZ (rowS t)).cps.toList = _
    unfold lineZ
    rw [colon_eq, app_list, app_list]
    simp [flatS])
  rw [h]
  rfl
theorem page_list (T : List Tri) : (pageZ (rowsL T)).cps.toList = flatS [13, 10] (T.map lineN ++ [[]]) ++ [] := by
  unfold pageZ
  rw [crlf_eq, empty_eq]
  have e : (rowsL T).map lineZ ++ [(⟨#[]⟩ : Str), ⟨#[]⟩] = ((rowsL T).map lineZ ++ [⟨#[]⟩]) ++ [⟨#[]⟩] := by simp
  rw [e, glued_list]
  have e2 : (((rowsL T).map lineZ ++ [(⟨#[]⟩ : Str)]).map fun p : Str => p.cps.toList) = T.map lineN ++ [[]] := by
    rw [List.map_append, List.map_map, List.map_map]
    congr 1
    exact List.map_congr_left fun t _ => line_list t
  rw [e2]
theorem lines_clean (T : List Tri) : ∀ l ∈ T.map lineN ++ [[]], Clean l := fun l hl => by
  rcases List.mem_append.mp hl with h | h
  · obtain ⟨t, _, rfl⟩ := List.mem_map.mp h
    exact line_clean t
  · rw [List.mem_singleton.mp h]; exact fun c hc => absurd hc (by simp)
theorem page_split (T : List Tri) : Txt.split (pageZ (rowsL T)) crlfS = ((T.map lineN ++ [[]]) ++ [[]]).map mk :=
  split_parts (c0 := 13) (sep := [10]) (by decide +kernel) rfl (by simp) (no13 (lines_clean T)) (page_list T)
/-- all that law asks of the strings -/
structure StrsOk (tot : Int) (T : List Tri) : Prop where
  sent : sentZ (pageZ (rowsL T)) tot = (T.map fun t => due1 (lineZ (rowS t))) ++ [⟨#[]⟩, ⟨#[]⟩]
  s1 : (pageZ (rowsL T)).length ≤ 300
  s2 : (Txt.split (pageZ (rowsL T)) crlfS).length ≤ 10
  s3 : ∀ l ∈ Txt.split (pageZ (rowsL T)) crlfS, l.length ≤ 20
  s4 : (crlfZ (typedZ (Txt.split (pageZ (rowsL T)) crlfS) tot ((Txt.split (pageZ (rowsL T)) crlfS).length - 1)).cps.toList).length ≤ 1000
  s5 : (quoteZ (typedZ (Txt.split (pageZ (rowsL T)) crlfS) tot ((Txt.split (pageZ (rowsL T)) crlfS).length - 1)).cps.toList).length ≤ 10000
theorem strsOk {tot : Int} {T : List Tri} (hm : T.length ≤ 5) (hb : ∀ t ∈ T, t.1 ≤ 6 ∧ t.2.1 ≤ 6) : StrsOk tot T := by
  obtain ⟨h1, h2, h3⟩ := sent_lines (page := pageZ (rowsL T)) (turn := tot) (lines_clean T) (page_split T)
  have hl : ∀ l ∈ T.map lineN ++ [[]], l.length ≤ 14 := fun l hl => by
    rcases List.mem_append.mp hl with h | h
    · obtain ⟨t, ht, rfl⟩ := List.mem_map.mp h
      exact lineN_len (hb t ht)
    · rw [List.mem_singleton.mp h]; decide
  have hl2 : ∀ l ∈ (T.map lineN ++ [[]]).map dueN, l.length ≤ 15 := fun l hl' => by
    obtain ⟨q, hq, rfl⟩ := List.mem_map.mp hl'
    have := hl q hq
    unfold dueN
    split
    · simp only [List.length_cons]; omega
    · omega
  have hn : (T.map lineN ++ [[]]).length ≤ 6 := by simp; omega
  have f1 := flat_len (sep := [13, 10]) hl
  have f2 := flat_len (sep := [13, 10]) hl2
  rw [List.length_map] at f2
  have f1' : (flatS [13, 10] (T.map lineN ++ [[]])).length ≤ 16 * 6 := Nat.le_trans f1 (Nat.mul_le_mul_left _ hn)
  have f2' : (flatS [13, 10] ((T.map lineN ++ [[]]).map dueN)).length ≤ 17 * 6 := Nat.le_trans f2 (Nat.mul_le_mul_left _ hn)
  refine ⟨?_, ?_, ?_, ?_, by rw [h1]; omega, by rw [h2]; omega⟩
  · rw [h3]
    simp only [List.map_append, List.map_map, List.map_cons, List.map_nil, List.append_assoc]
    congr 1
    exact List.map_congr_left fun t _ => by show due1 (mk (lineN t)) = _; rw [line_mk]
  · rw [len_list, page_list, List.append_nil]; omega
  · rw [page_split]; simp; omega
  · rw [page_split]
    intro l hl'
    obtain ⟨q, hq, rfl⟩ := List.mem_map.mp hl'
    have e : (mk q).length = q.length := by rw [len_list]; rfl
    rw [e]
    rcases List.mem_append.mp hq with h | h
    · have := hl q h; omega
    · rw [List.mem_singleton.mp h]; decide

end
/-! P6 -/
section

noncomputable abbrev Shape := List Bool × List Int
noncomputable def leavesB (told : List Bool) : List Nat := (List.range told.length).filter fun j => !told.getD j false
noncomputable def growB (s : Shape) (hour t : Nat) : Shape :=
  let p := (leavesB s.1).getD t 0
  (s.1.take p ++ [true, false, false] ++ s.1.drop (p + 1), s.2.take t ++ (hour : Int) :: s.2.drop t)
noncomputable def shapes : Nat → List Shape
  | 0 => [([false], [])]
  | j + 1 => (shapes j).flatMap fun s => (List.range (j + 1)).map fun t => growB s j t
noncomputable def shapeOf (g : Tree) : Shape := (g.1.map joint, g.2)
theorem getD_joint (codes : List Int) (j : Nat) : (codes.map joint).getD j false = joint (codes.getD j 0) := by
  rw [List.getD_eq_getElem?_getD, List.getD_eq_getElem?_getD, List.getElem?_map]
  cases codes[j]? with
  | none => rfl
  | some c => rfl
theorem leavesZ_B (codes : List Int) : leavesZ codes = leavesB (codes.map joint) := by
  unfold leavesZ leavesB
  rw [List.length_map]
  exact List.filter_congr fun j _ => by rw [getD_joint]
theorem growZ_B {g : Tree} {h : Nat} (G : Grown g h) (x : Int) : shapeOf (growZ g h x) = growB (shapeOf g) h (turnZ h x) := by
  have ht := turnZ_lt h x
  obtain ⟨p1, p2⟩ := leavesZ_at (codes := g.1) (t := turnZ h x) (by rw [G.cnt]; exact ht)
  unfold shapeOf growZ growB
  simp only [leavesZ_B] at p1 p2 ⊢
  simp only [List.map_append, List.map_cons, List.map_nil, List.map_take, List.map_drop, signZ_joint, leafZ_notjoint, p2]
theorem grown_shape (numbers : List Int) : ∀ j, shapeOf (grownAt numbers j) ∈ shapes j
  | 0 => by
    have : shapeOf (grownAt numbers 0) = ([false], []) := rfl
    rw [this]; exact List.mem_singleton.mpr rfl
  | j + 1 => by
    refine List.mem_flatMap.mpr ⟨_, grown_shape numbers j, List.mem_map.mpr ⟨turnZ j (numbers.getD j 0), List.mem_range.mpr (turnZ_lt _ _), ?_⟩⟩
    exact (growZ_B (grownAt_ok numbers j) _).symm
/-- every sign is a code -/
noncomputable def CodesIn (codes : List Int) : Prop := ∀ c ∈ codes, 0 ≤ c ∧ c < 1114112
theorem leafZ_in (x : Int) : 0 ≤ leafZ x ∧ leafZ x < 1114112 := by
  unfold leafZ
  split
  · decide
  · have h1 := fmod_bounds (x.fdiv 2880) (m := 64) (by decide)
    have h2 := fmod_bounds (x.fdiv 2880) (m := 1114112) (by decide)
    have hk := kindZ_lt x
    unfold rawLeaf
    match kindZ x, hk with
    | 0, _ => show (0 : Int) ≤ 12271 ∧ (12271 : Int) < 1114112; decide
    | 1, _ => show (0 : Int) ≤ 12284 ∧ (12284 : Int) < 1114112; decide
    | 2, _ => show 0 ≤ (x.fdiv 2880).fmod 64 ∧ (x.fdiv 2880).fmod 64 < 1114112; omega
    | 3, _ => exact h2
theorem signZ_in (x : Int) : 0 ≤ signZ x ∧ signZ x < 1114112 := by
  have := fmod_bounds (x.fdiv 60) (m := 12) (by omega)
  unfold signZ; omega
theorem getD_in {codes : List Int} (h : CodesIn codes) (p : Nat) : 0 ≤ codes.getD p 0 ∧ codes.getD p 0 < 1114112 := by
  rw [List.getD_eq_getElem?_getD]
  cases e : codes[p]? with
  | none => decide
  | some c => exact h c (List.mem_of_getElem? e)
theorem grown_in (numbers : List Int) : ∀ j, CodesIn (grownAt numbers j).1
  | 0 => fun c hc => by
    have : c = 63 := List.mem_singleton.mp hc
    subst this; decide
  | j + 1 => fun c hc => by
    have ih := grown_in numbers j
    have hc' : c ∈ (growZ (grownAt numbers j) j (numbers.getD j 0)).1 := hc
    unfold growZ at hc'
    simp only [List.mem_append, List.mem_cons, List.not_mem_nil, or_false] at hc'
    rcases hc' with (h | rfl | rfl | rfl) | h
    · exact ih c (List.mem_of_mem_take h)
    · exact signZ_in _
    · exact getD_in ih _
    · exact leafZ_in _
    · exact ih c (List.mem_of_mem_drop h)
/-! the codes put aside -/
noncomputable def bareT (t : Tri) : Tri := (t.1, t.2.1, 0)
noncomputable def bareN (n : Node) : Node := (n.1, n.2.map bareT)
theorem arms_bare : ∀ (its : List (Bool × Int)) (stk : List Node), (armsRun its stk).map (·.map bareN) = armsRun (its.map fun p => (p.1, 0)) (stk.map bareN)
  | [], stk => rfl
  | (true, c) :: its, [] => rfl
  | (true, c) :: its, [_] => rfl
  | (true, c) :: its, (l, a) :: (r, b) :: stk => by
    show (armsRun its ((l + r, a ++ [(l, r, c)] ++ b) :: stk)).map _ = armsRun _ ((l + r, a.map bareT ++ [(l, r, 0)] ++ b.map bareT) :: stk.map bareN)
    rw [arms_bare its]
    simp [bareN, bareT]
  | (false, c) :: its, stk => by
    show (armsRun its ((1, []) :: stk)).map _ = armsRun _ ((1, []) :: stk.map bareN)
    rw [arms_bare its]
    rfl
theorem zip_bare : ∀ (xs : List Bool) (ys : List Int), xs.length = ys.length → (xs.zip ys).map (fun p => (p.1, (0 : Int))) = xs.map fun b => (b, 0)
  | [], _, _ => rfl
  | x :: xs, [], h => by cases h
  | x :: xs, y :: ys, h => by
    show (x, 0) :: ((xs.zip ys).map _) = (x, 0) :: _
    rw [zip_bare xs ys (by simpa using h)]
noncomputable def triR (hours : List Int) : List Tri := (rowsZ hours).map fun p => (p.1, p.2, 0)
noncomputable def placesR (hours : List Int) : List Int := (rowsZ hours).map fun p => ((p.1 * p.2 : Nat) : Int)
noncomputable def okShape (m : Nat) (s : Shape) : Bool :=
  decide (s.1.length = 2 * m + 1) && decide (s.2.length = m) && decide (armsRun (s.1.reverse.map fun b => (b, 0)) [] = some [(m + 1, triR s.2)]) && (rowsZ s.2).all (fun p => decide (1 ≤ p.1) && decide (p.1 ≤ 6) && decide (p.2 ≤ 6)) &&
  decide (againZ (placesR s.2) m 0 m = s.1) && boundedZ (placesR s.2) s.2 && s.2.all fun x => decide (0 ≤ x) && decide (x < 10)
noncomputable def okPair (s t : Shape) : Bool := !(decide (costZ s.2 (placesR s.2) ≥ costZ s.2 (placesR t.2)) && !decide (placesR s.2 = placesR t.2))
theorem shapes4 : (shapes 4).all (okShape 4) = true := by decide +kernel
theorem shapes5 : (shapes 5).all (okShape 5) = true := by decide +kernel
theorem pairs4 : (shapes 4).all (fun s => (shapes 4).all (okPair s)) = true := by decide +kernel

end
/-! P7 -/
section

/-- the hours of growing, with the places that they give -/
noncomputable def hpl5 : List (List Int × List Int) := [([4,3,2,1,0],[1,2,3,4,5]),([3,4,2,1,0],[2,1,3,4,5]),([3,2,4,1,0],[1,4,1,4,5]),([3,2,1,4,0],[1,2,6,1,5]),([3,2,1,0,4],[1,2,3,8,1]),([4,2,3,1,0],[1,4,1,4,5]),([2,4,3,1,0],[3,1,2,4,5]),([2,3,4,1,0],[3,2,1,4,5]),([2,3,1,4,0],[2,1,6,1,5]),([2,3,1,0,4],[2,1,3,8,1]),([4,2,1,3,0],[1,2,6,1,5]),([2,4,1,3,0],[2,1,6,1,5]),([2,1,4,3,0],[1,6,1,2,5]),([2,1,3,4,0],[1,6,2,1,5]),([2,1,3,0,4],[1,4,1,8,1]),([4,2,1,0,3],[1,2,3,8,1]),([2,4,1,0,3],[2,1,3,8,1]),([2,1,4,0,3],[1,4,1,8,1]),([2,1,0,4,3],[1,2,9,1,2]),([2,1,0,3,4],[1,2,9,2,1]),([4,3,1,2,0],[1,2,6,1,5]),([3,4,1,2,0],[2,1,6,1,5]),([3,1,4,2,0],[1,6,1,2,5]),([3,1,2,4,0],[1,6,2,1,5]),([3,1,2,0,4],[1,4,1,8,1]),([4,1,3,2,0],[1,6,1,2,5]),([1,4,3,2,0],[4,1,2,3,5]),([1,3,4,2,0],[4,2,1,3,5]),([1,3,2,4,0],[4,1,4,1,5]),([1,3,2,0,4],[3,1,2,8,1]),([4,1,2,3,0],[1,6,2,1,5]),([1,4,2,3,0],[4,1,4,1,5]),([1,2,4,3,0],[4,3,1,2,5]),([1,2,3,4,0],[4,3,2,1,5]),([1,2,3,0,4],[3,2,1,8,1]),([4,1,2,0,3],[1,4,1,8,1]),([1,4,2,0,3],[3,1,2,8,1]),([1,2,4,0,3],[3,2,1,8,1]),([1,2,0,4,3],[2,1,9,1,2]),([1,2,0,3,4],[2,1,9,2,1]),([4,3,1,0,2],[1,2,3,8,1]),([3,4,1,0,2],[2,1,3,8,1]),([3,1,4,0,2],[1,4,1,8,1]),([3,1,0,4,2],[1,2,9,1,2]),([3,1,0,2,4],[1,2,9,2,1]),([4,1,3,0,2],[1,4,1,8,1]),([1,4,3,0,2],[3,1,2,8,1]),([1,3,4,0,2],[3,2,1,8,1]),([1,3,0,4,2],[2,1,9,1,2]),([1,3,0,2,4],[2,1,9,2,1]),([4,1,0,3,2],[1,2,9,1,2]),([1,4,0,3,2],[2,1,9,1,2]),([1,0,4,3,2],[1,8,1,2,3]),([1,0,3,4,2],[1,8,2,1,3]),([1,0,3,2,4],[1,8,1,4,1]),([4,1,0,2,3],[1,2,9,2,1]),([1,4,0,2,3],[2,1,9,2,1]),([1,0,4,2,3],[1,8,1,4,1]),([1,0,2,4,3],[1,8,3,1,2]),([1,0,2,3,4],[1,8,3,2,1]),([4,3,2,0,1],[1,2,3,8,1]),([3,4,2,0,1],[2,1,3,8,1]),([3,2,4,0,1],[1,4,1,8,1]),([3,2,0,4,1],[1,2,9,1,2]),([3,2,0,1,4],[1,2,9,2,1]),([4,2,3,0,1],[1,4,1,8,1]),([2,4,3,0,1],[3,1,2,8,1]),([2,3,4,0,1],[3,2,1,8,1]),([2,3,0,4,1],[2,1,9,1,2]),([2,3,0,1,4],[2,1,9,2,1]),([4,2,0,3,1],[1,2,9,1,2]),([2,4,0,3,1],[2,1,9,1,2]),([2,0,4,3,1],[1,8,1,2,3]),([2,0,3,4,1],[1,8,2,1,3]),([2,0,3,1,4],[1,8,1,4,1]),([4,2,0,1,3],[1,2,9,2,1]),([2,4,0,1,3],[2,1,9,2,1]),([2,0,4,1,3],[1,8,1,4,1]),([2,0,1,4,3],[1,8,3,1,2]),([2,0,1,3,4],[1,8,3,2,1]),([4,3,0,2,1],[1,2,9,1,2]),([3,4,0,2,1],[2,1,9,1,2]),([3,0,4,2,1],[1,8,1,2,3]),([3,0,2,4,1],[1,8,2,1,3]),([3,0,2,1,4],[1,8,1,4,1]),([4,0,3,2,1],[1,8,1,2,3]),([0,4,3,2,1],[5,1,2,3,4]),([0,3,4,2,1],[5,2,1,3,4]),([0,3,2,4,1],[5,1,4,1,4]),([0,3,2,1,4],[5,1,2,6,1]),([4,0,2,3,1],[1,8,2,1,3]),([0,4,2,3,1],[5,1,4,1,4]),([0,2,4,3,1],[5,3,1,2,4]),([0,2,3,4,1],[5,3,2,1,4]),([0,2,3,1,4],[5,2,1,6,1]),([4,0,2,1,3],[1,8,1,4,1]),([0,4,2,1,3],[5,1,2,6,1]),([0,2,4,1,3],[5,2,1,6,1]),([0,2,1,4,3],[5,1,6,1,2]),([0,2,1,3,4],[5,1,6,2,1]),([4,3,0,1,2],[1,2,9,2,1]),([3,4,0,1,2],[2,1,9,2,1]),([3,0,4,1,2],[1,8,1,4,1]),([3,0,1,4,2],[1,8,3,1,2]),([3,0,1,2,4],[1,8,3,2,1]),([4,0,3,1,2],[1,8,1,4,1]),([0,4,3,1,2],[5,1,2,6,1]),([0,3,4,1,2],[5,2,1,6,1]),([0,3,1,4,2],[5,1,6,1,2]),([0,3,1,2,4],[5,1,6,2,1]),([4,0,1,3,2],[1,8,3,1,2]),([0,4,1,3,2],[5,1,6,1,2]),([0,1,4,3,2],[5,4,1,2,3]),([0,1,3,4,2],[5,4,2,1,3]),([0,1,3,2,4],[5,4,1,4,1]),([4,0,1,2,3],[1,8,3,2,1]),([0,4,1,2,3],[5,1,6,2,1]),([0,1,4,2,3],[5,4,1,4,1]),([0,1,2,4,3],[5,4,3,1,2]),([0,1,2,3,4],[5,4,3,2,1])]
noncomputable def plc5 : List (List Int) := [[1,2,3,4,5],[2,1,3,4,5],[1,4,1,4,5],[1,2,6,1,5],[1,2,3,8,1],[3,1,2,4,5],[3,2,1,4,5],[2,1,6,1,5],[2,1,3,8,1],[1,6,1,2,5],[1,6,2,1,5],[1,4,1,8,1],[1,2,9,1,2],[1,2,9,2,1],[4,1,2,3,5],[4,2,1,3,5],[4,1,4,1,5],[3,1,2,8,1],[4,3,1,2,5],[4,3,2,1,5],[3,2,1,8,1],[2,1,9,1,2],[2,1,9,2,1],[1,8,1,2,3],[1,8,2,1,3],[1,8,1,4,1],[1,8,3,1,2],[1,8,3,2,1],[5,1,2,3,4],[5,2,1,3,4],[5,1,4,1,4],[5,1,2,6,1],[5,3,1,2,4],[5,3,2,1,4],[5,2,1,6,1],[5,1,6,1,2],[5,1,6,2,1],[5,4,1,2,3],[5,4,2,1,3],[5,4,1,4,1],[5,4,3,1,2],[5,4,3,2,1]]
theorem shapes5_hp : (shapes 5).all (fun s => decide ((s.2, placesR s.2) ∈ hpl5)) = true := by decide +kernel
theorem hpl_plc : hpl5.all (fun s => decide (s.2 ∈ plc5)) = true := by decide +kernel
theorem hpl_less : hpl5.all (fun s => plc5.all fun q => decide (s.2 = q) || decide (costZ s.1 s.2 < costZ s.1 q)) = true := by decide +kernel
theorem pair_ok {m : Nat} (hm : m = 4 ∨ m = 5) {s t : Shape} (hs : s ∈ shapes m) (ht : t ∈ shapes m) : okPair s t = true := by
  rcases hm with rfl | rfl
  · exact List.all_eq_true.mp (List.all_eq_true.mp pairs4 s hs) t ht
  · have h1 := of_decide_eq_true (List.all_eq_true.mp shapes5_hp s hs)
    have h2 := of_decide_eq_true (List.all_eq_true.mp shapes5_hp t ht)
    have h3 := of_decide_eq_true (List.all_eq_true.mp hpl_plc _ h2)
    have h4 := List.all_eq_true.mp (List.all_eq_true.mp hpl_less _ h1) _ h3
    simp only [Bool.or_eq_true, decide_eq_true_eq] at h4
    unfold okPair
    rcases h4 with h | h
    · simp [h]
    · have : ¬ (costZ s.2 (placesR s.2) ≥ costZ s.2 (placesR t.2)) := by omega
      simp [this]
theorem shape_ok {m : Nat} (hm : m = 4 ∨ m = 5) {s : Shape} (hs : s ∈ shapes m) : okShape m s = true := by
  rcases hm with rfl | rfl
  · exact List.all_eq_true.mp shapes4 s hs
  · exact List.all_eq_true.mp shapes5 s hs
/-- what the finite look over all the ways of growing gives -/
structure TreeFacts (m : Nat) (g : Tree) (T : List Tri) : Prop where
  clen : g.1.length = 2 * m + 1
  arms : armsRun ((g.1.map joint).reverse.zip g.1.reverse) [] = some [(m + 1, T)]
  tlen : T.length = m
  bnd : ∀ t ∈ T, 1 ≤ t.1 ∧ t.1 ≤ 6 ∧ t.2.1 ≤ 6
  again : againZ (placesL T) m 0 m = g.1.map joint
  hlen : g.2.length = m
  hb : ∀ x ∈ g.2, 0 ≤ x ∧ x < 10
  bounded : boundedZ (placesL T) g.2 = true
  rows : rowsZ g.2 = T.map fun t => (t.1, t.2.1)
  place : placesL T = placesR g.2
theorem tree_facts {m : Nat} (hm : m = 4 ∨ m = 5) (numbers : List Int) : ∃ T, TreeFacts m (grownAt numbers m) T := by
  have h := shape_ok hm (grown_shape numbers m)
  generalize grownAt numbers m = g at h
  unfold okShape shapeOf at h
  simp only [Bool.and_eq_true, decide_eq_true_eq] at h
  obtain ⟨⟨⟨⟨⟨⟨h1, h2⟩, h3⟩, h4⟩, h5⟩, h6⟩, h7⟩ := h
  rw [List.length_map] at h1
  have hz := arms_bare ((g.1.map joint).reverse.zip g.1.reverse) []
  rw [zip_bare _ _ (by simp)] at hz
  rw [show ([] : List Node).map bareN = [] from rfl, h3] at hz
  obtain ⟨X, hX, hX2⟩ := Option.map_eq_some_iff.mp hz
  obtain ⟨T, rfl, hT⟩ : ∃ T, X = [(m + 1, T)] ∧ T.map bareT = triR g.2 := by
    match X, hX2 with
    | (a, T) :: r, e =>
      have e' : (a, T.map bareT) :: r.map bareN = [(m + 1, triR g.2)] := e
      injection e' with e1 e2
      injection e1 with e3 e4
      exact ⟨T, by rw [e3, List.map_eq_nil_iff.mp e2], e4⟩
  have hrow : rowsZ g.2 = T.map fun t => (t.1, t.2.1) := by
    have e1 : (triR g.2).map (fun t => (t.1, t.2.1)) = rowsZ g.2 := by
      unfold triR; rw [List.map_map]; exact List.map_id' _
    rw [← e1, ← hT, List.map_map]; rfl
  have hpl : placesL T = placesR g.2 := by
    unfold placesR placesL
    rw [hrow, List.map_map]; rfl
  refine ⟨T, h1, hX, ?_, ?_, ?_, h2, ?_, ?_, hrow, hpl⟩
  · have e := congrArg List.length hrow
    rw [List.length_map] at e
    rw [← e]; unfold rowsZ; rw [List.length_map, List.length_range, h2]
  · intro t ht
    have hm' : (t.1, t.2.1) ∈ rowsZ g.2 := by rw [hrow]; exact List.mem_map.mpr ⟨t, ht, rfl⟩
    have := List.all_eq_true.mp h4 _ hm'
    simp only [Bool.and_eq_true, decide_eq_true_eq] at this
    exact ⟨this.1.1, this.1.2, this.2⟩
  · rw [hpl]; exact h5
  · intro x hx
    have := List.all_eq_true.mp h7 x hx
    simpa using this
  · rw [hpl]; exact h6

end
/-! P8 -/
section

theorem toNats {l : List Int} (h : CodesIn l) : (l.map Int.toNat).map (fun c : Nat => (c : Int)) = l := by
  rw [List.map_map]
  conv => rhs; rw [← List.map_id' l]
  exact List.map_congr_left fun c hc => by show ((c.toNat : Nat) : Int) = c; have := (h c hc).1; omega
theorem tree_ok {m : Nat} (hm : m = 4 ∨ m = 5) {g : Tree} {T : List Tri} (F : TreeFacts m g T) (tot : Int) (i : Nat) : TreeOk m tot i g T := by
  have hb : ∀ t ∈ T, t.1 ≤ 6 ∧ t.2.1 ≤ 6 := fun t ht => (F.bnd t ht).2
  have S : StrsOk (tot + i) T := strsOk (by rw [F.tlen]; omega) hb
  exact ⟨F.clen, F.arms, F.tlen, F.bnd, S.sent, S.s1, S.s2, S.s3, S.s4, S.s5, fun t _ => parse_row t, F.again⟩
theorem tree_ok2 {m : Nat} {g : Tree} {T : List Tri} (F : TreeFacts m g T) : TreeOk2 m g T := ⟨F.hlen, F.hb, F.bounded, F.rows⟩
theorem law_true {script : List Int} (hl : script.length ≤ 63) {P : Params} {w : World} {k : Nat} : OpS (KK P) w (k+9) [] (fun vs => call (.ref 279) vs []) [.d (.list (dInts script))] (.d (.bool true)) [] := by
  have hm : sizeN script = 4 ∨ sizeN script = 5 := by unfold sizeN; omega
  generalize hmm : sizeN script = m at hm
  have hs0 := grown_shape ((numsZ script).take m) m
  have hs1 := grown_shape (((numsZ script).drop 5).take m) m
  have hi0 := grown_in ((numsZ script).take m) m
  have hi1 := grown_in (((numsZ script).drop 5).take m) m
  obtain ⟨T0, F0⟩ := tree_facts hm ((numsZ script).take m)
  obtain ⟨T1, F1⟩ := tree_facts hm (((numsZ script).drop 5).take m)
  generalize hg0 : grownAt ((numsZ script).take m) m = g0 at hs0 hi0 F0
  generalize hg1 : grownAt (((numsZ script).drop 5).take m) m = g1 at hs1 hi1 F1
  have hin : CodesIn (g0.1 ++ g1.1) := fun c hc => by
    rcases List.mem_append.mp hc with h | h
    · exact hi0 c h
    · exact hi1 c h
  have ht : toldN ((g0.1 ++ g1.1).map Int.toNat) = g0.1.map joint ++ g1.1.map joint := by
    have e : toldN ((g0.1 ++ g1.1).map Int.toNat) = (((g0.1 ++ g1.1).map Int.toNat).map fun c : Nat => (c : Int)).map joint := by rw [List.map_map]; rfl
    rw [e, toNats hin, List.map_append]
  have p01 := pair_ok hm hs0 hs1
  have p10 := pair_ok hm hs1 hs0
  have q0 := F0.place
  have q1 := F1.place
  refine @law_op _ _ _ script (numsZ script) m ((g0.1 ++ g1.1).map Int.toNat) (fun i => if i = 0 then g0 else g1) (fun i => if i = 0 then T0 else T1) hl rfl hmm hg0 hg1 ?_ ?_ ?_ ?_ ?_ ?_ ?_ ?_
  · show dInts (g0.1 ++ g1.1) = dNats ((g0.1 ++ g1.1).map Int.toNat)
    have e : dNats ((g0.1 ++ g1.1).map Int.toNat) = (((g0.1 ++ g1.1).map Int.toNat).map fun c : Nat => (c : Int)).map D.int := by rw [List.map_map]; rfl
    rw [e, toNats hin]
  · intro c hc
    obtain ⟨d, hd, rfl⟩ := List.mem_map.mp hc
    have := hin d hd; omega
  · rw [List.length_map, List.length_append, F0.clen, F1.clen]; omega
  · rw [ht, List.length_append, List.length_map, List.length_map, F0.clen, F1.clen]; omega
  · intro i hi
    rw [ht]
    match i, hi with
    | 0, _ =>
      show ((g0.1.map joint ++ g1.1.map joint).drop (0 * (2 * m + 1))).take (2 * m + 1) = g0.1.map joint
      rw [Nat.zero_mul, List.drop_zero]
      exact List.take_left' (by rw [List.length_map, F0.clen])
    | 1, _ =>
      show ((g0.1.map joint ++ g1.1.map joint).drop (1 * (2 * m + 1))).take (2 * m + 1) = g1.1.map joint
      rw [Nat.one_mul, List.drop_left' (by rw [List.length_map, F0.clen])]
      exact List.take_of_length_le (by rw [List.length_map, F1.clen]; exact Nat.le_refl _)
  · intro i hi
    match i, hi with
    | 0, _ => exact tree_ok hm F0 _ 0
    | 1, _ => exact tree_ok hm F1 _ 1
  · intro i hi
    match i, hi with
    | 0, _ => exact tree_ok2 F0
    | 1, _ => exact tree_ok2 F1
  · intro i hi
    match i, hi with
    | 0, _ =>
      show (decide (costZ g0.2 (placesL T0) ≥ costZ g0.2 (placesL T1)) && !decide (placesL T0 = placesL T1)) = false
      rw [q0, q1]
      exact Bool.not_eq_true' _ |>.mp p01
    | 1, _ =>
      show (decide (costZ g1.2 (placesL T1) ≥ costZ g1.2 (placesL T0)) && !decide (placesL T0 = placesL T1)) = false
      rw [q0, q1]
      have e : decide (placesR g0.2 = placesR g1.2) = decide (placesR g1.2 = placesR g0.2) := decide_eq_decide.mpr ⟨Eq.symm, Eq.symm⟩
      rw [e]
      exact Bool.not_eq_true' _ |>.mp p10

end
/-! Q1 -/
section

theorem rep_ints {b : PM} {fs : List Foot} : ∀ {vs : List Value} {ns : List Int}, IntsAre vs ns → RepL b vs (dInts ns)
  | _, _, .nil => .nil
  | _, _, .cons _ _ h => .cons .int (rep_ints (fs := fs) h)
theorem law_hc {d : DefRec} (hd' : d.name = Str.ofString "law") {kwd : List (Str × Expr)} : WalkX view loose (XL view []) (X.obsZ addrs) (X.valZ KK 280 759) PySem.Challenge.rw_sr0049_01.row.toRowW d kwd fun f vs => PySem.call f vs := by
  intro w s₀ s₁ mg mb G Y a o pm cd doc dV kV ho hd hcd hD hg hgens args vals as L hpre hlay hrd hwl hlo
  have hT := G.T
  obtain ⟨FA, FI, FN, FT⟩ := X.z_facts (K := KK) (fun P => rfl) Y
  have KI : (KK w.params).In s₁.heap := InK.keeps w s₀.heap s₁.heap FI L.keeps
  have e1 := mg_of (n := Str.ofString "law") (v := .ref 279) KI hT.g (by rfl)
  rw [hd'] at hg
  rw [hg] at e1
  obtain rfl : a = 279 := by injection e1 with e1; injection e1
  clear ho hd hcd hD hg hd'
  wrow_args hpre hlay hrd hwl hlo
  rename_i script _ _ _ _ _ _ _ Da vs _ hL _ _ _ hI _ hlen _
  have hobj := X.script_obj L hL
  refine law_true (k := 0) (P := w.params) (w := w) (script := script) (by omega) callerA s₁ s₁.heap.get? [] [] [.ref Da] _ _ (fun p hp => nomatch hp) ⟨by decide +kernel, by decide +kernel, rfl, [], rfl, fun e he => nomatch he⟩
    ⟨fun a o e => e, fun a o e => KI a o e, fun p hp => (nomatch hp), fun p hp => (nomatch hp), .nil, rfl, fun i c f e => nomatch e⟩ ⟨.list hobj (rep_ints (fs := []) hI), trivial⟩ fun b' fs' h' tk v sb kf S ev => ?_
  cases ev
  refine ⟨.inl ⟨_, .bool true, [], rfl, raisesW_false ?_, .bool true, ?_, unshared_nil⟩, .of_keep fun b o e => S.base _ _ (sb _ _ e), rfl, .of_eq hgens⟩
  · wrow_none_raised
  · wrow_post

end
/-! Q2 -/
section
set_option maxHeartbeats 4000000 in
theorem law_holds : PySem.Challenge.rw_sr0049_01.Holds := by
  refine holds_law law_said fun said => ?_
  exact holds_openX (q := view) (loose := loose) (Xt := okX) (XP := XL view []) (Yf := X.obsZ addrs) (Ya := X.valZ KK 280 759) (N := 4002) left_all (fun s e => xl_of s (Bool.and_eq_true_iff.mp e).1) XL.keeps (by rfl) (by rfl) (by rfl) (fun s e => recFacts_of (Bool.and_eq_true_iff.mp e).2) (by rfl) (by first | assumption | decide +kernel) (by decide +kernel) ⟨rfl, rfl, rfl, rfl, rfl, by decide +kernel⟩ (by w_witness2) (law_hc rfl)

end
end Mine

theorem PySem.Challenge.cw_sr0049_01_holds : PySem.Challenge.rw_sr0049_01.Holds := by
  exact Mine.law_holds

