import PyProof.Rows.All
import Wide.All
import OpenK.AllK
import Wide.FinOn
import PySem.Challenge.RW_ul0022_02
open PySem PySem.W PySem.Calls PyProof.Rows PySem.Spec
set_option Elab.async false
set_option maxRecDepth 100000
set_option linter.unusedVariables false
namespace Mine
section
/-! ## small sums -/
theorem ar_step {i n : Nat} (h : i < n) : n + 1 - (i + 1) < n + 1 - i := Nat.sub_lt_sub_left (Nat.lt_succ_of_lt h) (Nat.lt_succ_self i)
theorem ar_units {u n c L : Nat} (hc : c ≤ 8) (h : u + 8 * (n + 1) + 64 < L) : u + c + 8 * n + 64 < L := Nat.lt_of_le_of_lt (Nat.add_le_add_right (by rw [Nat.add_assoc]; exact Nat.add_le_add_left (Nat.add_comm c _ ▸ Nat.add_le_add_left hc _) u) 64) h
theorem ar_depth {d n L : Nat} (h : d + (n + 1) < L) : d + 1 + n < L := by rw [Nat.add_right_comm]; exact h
theorem ar_sub1 {i n : Nat} (h : i < n) : n - i = n - (i + 1) + 1 := (Nat.sub_one_add_one (Nat.sub_ne_zero_of_lt h)).symm
theorem ar_sub2 {n k : Nat} : n - 1 - k = n - (k + 1) := (Nat.sub_sub n 1 k).trans (congrArg (n - ·) (Nat.add_comm 1 k))
theorem ar_le3 {a b c d : Nat} (h : a ≤ b) (h' : b < c) (h'' : c ≤ d) : a ≤ d := Nat.le_trans h (Nat.le_trans (Nat.le_of_lt h') h'')

/-! ## views of the heap -/
noncomputable abbrev Vw := Addr → Option Obj
noncomputable def Le (P Q : Vw) : Prop := ∀ b o, P b = some o → Q b = some o
noncomputable def In (P : Vw) (h : Heap) : Prop := ∀ b o, P b = some o → h.get? b = some o
theorem Le.refl (P : Vw) : Le P P := fun _ _ e => e
theorem Le.trans {P Q R : Vw} (x : Le P Q) (y : Le Q R) : Le P R := fun b o e => y b o (x b o e)
theorem In.le {P Q : Vw} {h : Heap} (x : In Q h) (y : Le P Q) : In P h := fun b o e => x b o (y b o e)

/-! ## data by value -/
inductive D
  | none
  | bool (b : Bool)
  | int (i : Int)
  | str (x : Str)
  | list (ds : List D)
  | tup (ds : List D)
  | obj (C : Addr) (fs : List (Str × D))
  | raw (a : Addr)
  | inst (x C dx : Addr)
  | pack (a : Addr) (l : List (Addr × Obj))
  | strT (x : Str) (b : Nat)
  | also (d : D) (l : List (Addr × Obj))

mutual
inductive Is (P : Vw) : Value → D → Prop
  | none : Is P .none .none
  | bool (b : Bool) : Is P (.bool b) (.bool b)
  | int (i : Int) (t : Tok) : Is P (.int i t) (.int i)
  | str (x : Str) (t : Tok) : Is P (.str x t) (.str x)
  | list {a : Addr} {vs : List Value} {n : Nat} {ds : List D} : P a = some (listOf vs.toArray n) → IsAll P vs ds → Is P (.ref a) (.list ds)
  | tup {a : Addr} {vs : List Value} {n : Nat} {ds : List D} : P a = some { cls := .type "tuple", data := .seq vs.toArray n } → IsAll P vs ds → Is P (.ref a) (.tup ds)
  | raw (a : Addr) : Is P (.ref a) (.raw a)
  | inst {x C dx : Addr} : P x = some (instObj C dx) → Is P (.ref x) (.inst x C dx)
  | pack {a : Addr} {l : List (Addr × Obj)} : (∀ p ∈ l, P p.1 = some p.2) → Is P (.ref a) (.pack a l)
  | obj {a dx C : Addr} {es : List DictEntry} {n : Nat} {fs : List (Str × D)} : P a = some (instObj C dx) → P dx = some (dictOf es n) → IsFs P es fs → Is P (.ref a) (.obj C fs)
  | strT {x : Str} {t : Tok} {b : Nat} : t ≠ 0 → t < b → Is P (.str x t) (.strT x b)
  | also {v : Value} {d : D} {l : List (Addr × Obj)} : Is P v d → (∀ p ∈ l, P p.1 = some p.2) → Is P v (.also d l)
inductive IsAll (P : Vw) : List Value → List D → Prop
  | nil : IsAll P [] []
  | cons {v : Value} {vs : List Value} {d : D} {ds : List D} : Is P v d → IsAll P vs ds → IsAll P (v :: vs) (d :: ds)
inductive IsFs (P : Vw) : List DictEntry → List (Str × D) → Prop
  | nil : IsFs P [] []
  | cons {hs : Int} {x : Str} {t : Tok} {v : Value} {es : List DictEntry} {d : D} {fs : List (Str × D)} : Is P v d → IsFs P es fs → IsFs P (⟨hs, .str x t, v⟩ :: es) ((x, d) :: fs)
end

theorem Is.mono {P P' : Vw} (k : Le P P') {v : Value} {d : D} (h : Is P v d) : Is P' v d :=
  Is.rec (motive_1 := fun v d _ => Is P' v d) (motive_2 := fun vs ds _ => IsAll P' vs ds) (motive_3 := fun es fs _ => IsFs P' es fs) .none .bool .int .str (fun h _ ih => .list (k _ _ h) ih) (fun h _ ih => .tup (k _ _ h) ih) .raw (fun h => .inst (k _ _ h)) (fun h => .pack fun p hp => k _ _ (h p hp)) (fun h g _ ih => .obj (k _ _ h) (k _ _ g) ih) (fun a b => .strT a b) (fun _ h ih => .also ih fun p hp => k _ _ (h p hp)) .nil (fun _ _ ih1 ih2 => .cons ih1 ih2) .nil (fun _ _ ih1 ih2 => .cons ih1 ih2) h
theorem IsAll.mono {P P' : Vw} (k : Le P P') {vs : List Value} {ds : List D} (h : IsAll P vs ds) : IsAll P' vs ds :=
  IsAll.rec (motive_1 := fun v d _ => Is P' v d) (motive_2 := fun vs ds _ => IsAll P' vs ds) (motive_3 := fun es fs _ => IsFs P' es fs) .none .bool .int .str (fun h _ ih => .list (k _ _ h) ih) (fun h _ ih => .tup (k _ _ h) ih) .raw (fun h => .inst (k _ _ h)) (fun h => .pack fun p hp => k _ _ (h p hp)) (fun h g _ ih => .obj (k _ _ h) (k _ _ g) ih) (fun a b => .strT a b) (fun _ h ih => .also ih fun p hp => k _ _ (h p hp)) .nil (fun _ _ ih1 ih2 => .cons ih1 ih2) .nil (fun _ _ ih1 ih2 => .cons ih1 ih2) h
theorem IsFs.mono {P P' : Vw} (k : Le P P') {es : List DictEntry} {fs : List (Str × D)} (h : IsFs P es fs) : IsFs P' es fs :=
  IsFs.rec (motive_1 := fun v d _ => Is P' v d) (motive_2 := fun vs ds _ => IsAll P' vs ds) (motive_3 := fun es fs _ => IsFs P' es fs) .none .bool .int .str (fun h _ ih => .list (k _ _ h) ih) (fun h _ ih => .tup (k _ _ h) ih) .raw (fun h => .inst (k _ _ h)) (fun h => .pack fun p hp => k _ _ (h p hp)) (fun h g _ ih => .obj (k _ _ h) (k _ _ g) ih) (fun a b => .strT a b) (fun _ h ih => .also ih fun p hp => k _ _ (h p hp)) .nil (fun _ _ ih1 ih2 => .cons ih1 ih2) .nil (fun _ _ ih1 ih2 => .cons ih1 ih2) h
/-! what a value is, read off its data -/
noncomputable def Is.Inv (P : Vw) (v : Value) (d : D) : Prop := D.casesOn (motive_1 := fun _ => Prop) d (v = .none) (fun b => v = .bool b) (fun i => ∃ t, v = .int i t) (fun x => ∃ t, v = .str x t)
  (fun ds => ∃ a vs n, v = .ref a ∧ P a = some (listOf vs.toArray n) ∧ IsAll P vs ds) (fun ds => ∃ a vs n, v = .ref a ∧ P a = some { cls := .type "tuple", data := .seq vs.toArray n } ∧ IsAll P vs ds)
  (fun C fs => ∃ a dx es n, v = .ref a ∧ P a = some (instObj C dx) ∧ P dx = some (dictOf es n) ∧ IsFs P es fs) (fun a => v = .ref a) (fun x C dx => v = .ref x ∧ P x = some (instObj C dx)) (fun a l => v = .ref a ∧ ∀ p ∈ l, P p.1 = some p.2) (fun x b => ∃ t, v = .str x t ∧ t ≠ 0 ∧ t < b) (fun d l => Is P v d ∧ ∀ p ∈ l, P p.1 = some p.2)
theorem Is.inv {P : Vw} {v : Value} {d : D} (h : Is P v d) : Is.Inv P v d :=
  Is.casesOn (motive_1 := fun v d _ => Is.Inv P v d) h rfl (fun _ => rfl) (fun _ t => ⟨t, rfl⟩) (fun _ t => ⟨t, rfl⟩) (fun q r => ⟨_, _, _, rfl, q, r⟩) (fun q r => ⟨_, _, _, rfl, q, r⟩) (fun _ => rfl) (fun q => ⟨rfl, q⟩) (fun q => ⟨rfl, q⟩) (fun q r f => ⟨_, _, _, _, rfl, q, r, f⟩) (fun a b => ⟨_, rfl, a, b⟩) (fun a b => ⟨a, b⟩)
section
variable {P : Vw} {v : Value}
theorem Is.noneI (h : Is P v .none) : v = .none := h.inv
theorem Is.strI {x : Str} (h : Is P v (.str x)) : ∃ t, v = .str x t := h.inv
theorem Is.intI {i : Int} (h : Is P v (.int i)) : ∃ t, v = .int i t := h.inv
theorem Is.boolI {b : Bool} (h : Is P v (.bool b)) : v = .bool b := h.inv
theorem Is.rawI {a : Addr} (h : Is P v (.raw a)) : v = .ref a := h.inv
theorem Is.listI {ds : List D} (h : Is P v (.list ds)) : ∃ a vs n, v = .ref a ∧ P a = some (listOf vs.toArray n) ∧ IsAll P vs ds := h.inv
theorem Is.tupI {ds : List D} (h : Is P v (.tup ds)) : ∃ a vs n, v = .ref a ∧ P a = some { cls := .type "tuple", data := .seq vs.toArray n } ∧ IsAll P vs ds := h.inv
theorem Is.instI {x C dx : Addr} (h : Is P v (.inst x C dx)) : v = .ref x ∧ P x = some (instObj C dx) := h.inv
theorem Is.packI {a : Addr} {l : List (Addr × Obj)} (h : Is P v (.pack a l)) : v = .ref a ∧ ∀ p ∈ l, P p.1 = some p.2 := h.inv
theorem Is.objI {C : Addr} {fs : List (Str × D)} (h : Is P v (.obj C fs)) : ∃ a dx es n, v = .ref a ∧ P a = some (instObj C dx) ∧ P dx = some (dictOf es n) ∧ IsFs P es fs := h.inv
theorem Is.strTI {x : Str} {b : Nat} (h : Is P v (.strT x b)) : ∃ t, v = .str x t ∧ t ≠ 0 ∧ t < b := h.inv
theorem Is.alsoI {d : D} {l : List (Addr × Obj)} (h : Is P v (.also d l)) : Is P v d ∧ ∀ p ∈ l, P p.1 = some p.2 := h.inv
theorem Is.weak {x : Str} {b : Nat} (h : Is P v (.strT x b)) : Is P v (.str x) := by obtain ⟨t, rfl, _⟩ := h.strTI; exact .str x t
end
noncomputable def IsAll.Inv (P : Vw) (vs : List Value) (ds : List D) : Prop := List.casesOn (motive := fun _ => Prop) ds (vs = []) (fun d ds => ∃ v r, vs = v :: r ∧ Is P v d ∧ IsAll P r ds)
theorem IsAll.inv {P : Vw} {vs : List Value} {ds : List D} (h : IsAll P vs ds) : IsAll.Inv P vs ds :=
  IsAll.casesOn (motive_2 := fun vs ds _ => IsAll.Inv P vs ds) h rfl (fun a r => ⟨_, _, rfl, a, r⟩)
section
variable {P : Vw} {vs : List Value}
theorem IsAll.consI {d : D} {ds : List D} (h : IsAll P vs (d :: ds)) : ∃ v r, vs = v :: r ∧ Is P v d ∧ IsAll P r ds := h.inv
theorem IsAll.nilI (h : IsAll P vs []) : vs = [] := h.inv
theorem IsAll.consE {C : List Value → Prop} {d : D} {ds : List D} (h : IsAll P vs (d :: ds)) (c : ∀ v r, Is P v d → IsAll P r ds → C (v :: r)) : C vs := by
  obtain ⟨v, r, rfl, a, b⟩ := h.consI
  exact c v r a b
theorem IsAll.nilE {C : List Value → Prop} (h : IsAll P vs []) (c : C []) : C vs := h.nilI ▸ c
theorem IsAll.oneE {C : List Value → Prop} {d : D} (h : IsAll P vs [d]) (c : ∀ v, Is P v d → C [v]) : C vs := h.consE fun v _ a b => b.nilE (C := fun r => C (v :: r)) (c v a)
theorem IsAll.twoE {C : List Value → Prop} {d e : D} (h : IsAll P vs [d, e]) (c : ∀ v u, Is P v d → Is P u e → C [v, u]) : C vs := h.consE fun v _ a b => b.oneE (C := fun r => C (v :: r)) fun u i => c v u a i
theorem IsAll.oneI {d : D} (h : IsAll P vs [d]) : ∃ v, vs = [v] ∧ Is P v d := h.oneE (C := fun vs => ∃ v, vs = [v] ∧ Is P v d) fun v a => ⟨v, rfl, a⟩
theorem IsAll.twoI {d e : D} (h : IsAll P vs [d, e]) : ∃ v u, vs = [v, u] ∧ Is P v d ∧ Is P u e := h.twoE (C := fun vs => ∃ v u, vs = [v, u] ∧ Is P v d ∧ Is P u e) fun v u a b => ⟨v, u, rfl, a, b⟩
theorem IsAll.nilV {ds : List D} (h : IsAll P [] ds) : ds = [] := by
  cases ds with
  | nil => rfl
  | cons d ds => obtain ⟨v, r, e, _⟩ := h.consI; exact nomatch e
theorem IsAll.consV {v : Value} {vs : List Value} {ds : List D} (h : IsAll P (v :: vs) ds) : ∃ d es, ds = d :: es ∧ Is P v d ∧ IsAll P vs es := by
  cases ds with
  | nil => exact nomatch h.nilI
  | cons d ds =>
    obtain ⟨v', r, e, a, b⟩ := h.consI
    obtain ⟨rfl, rfl⟩ := List.cons.inj e
    exact ⟨d, ds, rfl, a, b⟩
end
noncomputable def IsFs.Inv (P : Vw) (es : List DictEntry) (fs : List (Str × D)) : Prop := List.casesOn (motive := fun _ => Prop) fs (es = []) (fun p fs => ∃ hs t v es', es = ⟨hs, .str p.1 t, v⟩ :: es' ∧ Is P v p.2 ∧ IsFs P es' fs)
theorem IsFs.inv {P : Vw} {es : List DictEntry} {fs : List (Str × D)} (h : IsFs P es fs) : IsFs.Inv P es fs :=
  IsFs.casesOn (motive_3 := fun es fs _ => IsFs.Inv P es fs) h rfl (fun a r => ⟨_, _, _, _, rfl, a, r⟩)
theorem IsFs.nilI {P : Vw} {es : List DictEntry} (h : IsFs P es []) : es = [] := h.inv
theorem IsFs.consI {P : Vw} {es : List DictEntry} {x : Str} {d : D} {fs : List (Str × D)} (h : IsFs P es ((x, d) :: fs)) : ∃ hs t v es', es = ⟨hs, .str x t, v⟩ :: es' ∧ Is P v d ∧ IsFs P es' fs := h.inv
theorem len1 {α : Type} {vs : List α} (h : vs.length = 1) : ∃ v, vs = [v] := List.length_eq_one_iff.mp h
theorem len2 {α : Type} {vs : List α} (h : vs.length = 2) : ∃ v u, vs = [v, u] := by
  cases vs with
  | nil => exact nomatch h
  | cons a r => obtain ⟨b, rfl⟩ := len1 (Nat.succ.inj h); exact ⟨a, b, rfl⟩
section
variable {P : Vw} {v : Value} {d : D} {vs ws : List Value} {ds es : List D}
theorem IsAll.length (h : IsAll P vs ds) : vs.length = ds.length := by
  induction vs generalizing ds with
  | nil => rw [h.nilV]; rfl
  | cons v vs ih =>
    obtain ⟨d, es, rfl, _, r⟩ := h.consV
    exact congrArg Nat.succ (ih r)
theorem IsAll.append (h : IsAll P vs ds) (k : IsAll P ws es) : IsAll P (vs ++ ws) (ds ++ es) := by
  induction vs generalizing ds with
  | nil => rw [h.nilV]; exact k
  | cons v vs ih =>
    obtain ⟨d, es, rfl, a, r⟩ := h.consV
    exact .cons a (ih r)
theorem IsAll.get (h : IsAll P vs ds) {k : Nat} {d : D} (hk : ds[k]? = some d) : ∃ v, vs[k]? = some v ∧ Is P v d := by
  induction vs generalizing ds k with
  | nil => rw [h.nilV] at hk; exact nomatch hk
  | cons v vs ih =>
    obtain ⟨e, es, rfl, a, r⟩ := h.consV
    cases k with
    | zero => exact ⟨v, rfl, Option.some.inj hk ▸ a⟩
    | succ k => exact ih r hk
theorem IsAll.getV (h : IsAll P vs ds) {k : Nat} {v : Value} (hk : vs[k]? = some v) : ∃ d, ds[k]? = some d ∧ Is P v d := by
  induction vs generalizing ds k with
  | nil => exact nomatch hk
  | cons v' vs ih =>
    obtain ⟨e, es, rfl, a, r⟩ := h.consV
    cases k with
    | zero => exact ⟨e, rfl, Option.some.inj hk ▸ a⟩
    | succ k => exact ih r hk
theorem IsAll.take (h : IsAll P vs ds) (k : Nat) : IsAll P (vs.take k) (ds.take k) := by
  induction vs generalizing ds k with
  | nil => rw [h.nilV, List.take_nil, List.take_nil]; exact .nil
  | cons v vs ih =>
    obtain ⟨e, es, rfl, a, r⟩ := h.consV
    cases k with
    | zero => exact .nil
    | succ k => exact .cons a (ih r k)
theorem IsAll.drop (h : IsAll P vs ds) (k : Nat) : IsAll P (vs.drop k) (ds.drop k) := by
  induction vs generalizing ds k with
  | nil => rw [h.nilV, List.drop_nil, List.drop_nil]; exact .nil
  | cons v vs ih =>
    obtain ⟨e, es, rfl, a, r⟩ := h.consV
    cases k with
    | zero => exact .cons a r
    | succ k => exact ih r k
end

/-! ## objects that turn, by value -/
inductive MO
  | dict (fs : List (Str × D))
  | list (ds : List D)
  | obj (o : Obj)
inductive MIs (P : Vw) : Obj → MO → Prop
  | dict {es : List DictEntry} {n : Nat} {fs : List (Str × D)} : IsFs P es fs → MIs P (dictOf es n) (.dict fs)
  | list {vs : List Value} {n : Nat} {ds : List D} : IsAll P vs ds → MIs P (listOf vs.toArray n) (.list ds)
  | obj (o : Obj) : MIs P o (.obj o)
noncomputable def MIs.Inv (P : Vw) (o : Obj) (m : MO) : Prop := MO.casesOn (motive := fun _ => Prop) m (fun fs => ∃ es n, o = dictOf es n ∧ IsFs P es fs) (fun ds => ∃ vs n, o = listOf vs.toArray n ∧ IsAll P vs ds) (fun o' => o = o')
theorem MIs.inv {P : Vw} {o : Obj} {m : MO} (h : MIs P o m) : MIs.Inv P o m := MIs.casesOn (motive := fun o m _ => MIs.Inv P o m) h (fun h => ⟨_, _, rfl, h⟩) (fun h => ⟨_, _, rfl, h⟩) fun _ => rfl
theorem MIs.dictI {P : Vw} {o : Obj} {fs : List (Str × D)} (h : MIs P o (.dict fs)) : ∃ es n, o = dictOf es n ∧ IsFs P es fs := h.inv
theorem MIs.listI {P : Vw} {o : Obj} {ds : List D} (h : MIs P o (.list ds)) : ∃ vs n, o = listOf vs.toArray n ∧ IsAll P vs ds := h.inv
theorem MIs.objI {P : Vw} {o o' : Obj} (h : MIs P o (.obj o')) : o = o' := h.inv
theorem MIs.mono {P P' : Vw} (k : Le P P') {o : Obj} {m : MO} (h : MIs P o m) : MIs P' o m :=
  MIs.casesOn (motive := fun o m _ => MIs P' o m) h (fun h => .dict (h.mono k)) (fun h => .list (h.mono k)) fun o => .obj o

/-! ## what an evaluation may do: it only adds -/
noncomputable def GG (g g' : Array GenState) : Prop := (∀ (i : Nat) (x : GenState), g[i]? = some x → g'[i]? = some x) ∧ (AllBare g → AllBare g')
theorem GG.refl (g : Array GenState) : GG g g := ⟨fun _ _ e => e, id⟩
theorem GG.trans {a b c : Array GenState} (x : GG a b) (y : GG b c) : GG a c := ⟨fun i x' e => y.1 i x' (x.1 i x' e), fun h => y.2 (x.2 h)⟩

structure Gr (P : Vw) (s : Shared) (P' : Vw) (s' : Shared) : Prop where
  le : Le P P'
  inn : In P' s'.heap
  old : ∀ b o, s.heap.get? b = some o → s'.heap.get? b = some o
  new : ∀ b o, P' b = some o → P b = some o ∨ s.heap.get? b = none
  gens : GG s.gens s'.gens
  drawn : s'.drawn = s.drawn
  os : s'.os = s.os
theorem Gr.refl {P : Vw} {s : Shared} (h : In P s.heap) : Gr P s P s := ⟨Le.refl _, h, fun _ _ e => e, fun _ _ e => .inl e, GG.refl _, rfl, rfl⟩
theorem none_of_old {h h' : Heap} (k : ∀ b o, h.get? b = some o → h'.get? b = some o) {b : Addr} (e : h'.get? b = none) : h.get? b = none := by
  cases q : h.get? b with
  | none => rfl
  | some o => rw [k b o q] at e; cases e
theorem Gr.trans {P P' P'' : Vw} {s s' s'' : Shared} (x : Gr P s P' s') (y : Gr P' s' P'' s'') : Gr P s P'' s'' :=
  ⟨x.le.trans y.le, y.inn, fun b o e => y.old b o (x.old b o e), fun b o e => (y.new b o e).elim (x.new b o) fun q => .inr (none_of_old x.old q), x.gens.trans y.gens, y.drawn.trans x.drawn, y.os.trans x.os⟩
/-- tokens alone, or objects that nobody looks at -/
theorem Gr.keep {P : Vw} {s : Shared} {h' : Heap} {tk : Nat} (h : In P s.heap) (k : ∀ b o, s.heap.get? b = some o → h'.get? b = some o) : Gr P s P { s with heap := h', toks := tk } :=
  ⟨Le.refl _, fun b o e => k b o (h b o e), k, fun _ _ e => .inl e, GG.refl _, rfl, rfl⟩
theorem Gr.toks {P : Vw} {s : Shared} {tk : Nat} (h : In P s.heap) : Gr P s P { s with toks := tk } := Gr.keep h fun _ _ e => e
open Classical in
/-- the view that also holds all that is new -/
noncomputable def plus (P : Vw) (h h' : Heap) : Vw := fun b => match P b with
  | some o => some o
  | none => if h.get? b = none then h'.get? b else none
theorem Gr.more {P : Vw} {s : Shared} {h' : Heap} {tk : Nat} (h : In P s.heap) (k : ∀ b o, s.heap.get? b = some o → h'.get? b = some o) : Gr P s (plus P s.heap h') { s with heap := h', toks := tk } := by
  refine ⟨fun b o e => by simp [plus, e], fun b o e => ?_, k, fun b o e => ?_, GG.refl _, rfl, rfl⟩
  · unfold plus at e
    split at e
    · rename_i o' q; cases e; exact k _ _ (h _ _ q)
    · split at e
      · exact e
      · cases e
  · unfold plus at e
    split at e
    · rename_i o' q; cases e; exact .inl q
    · split at e
      · rename_i q; exact .inr q
      · cases e
theorem plus_new {P : Vw} {h h' : Heap} (hp : In P h) {b : Addr} {o : Obj} (e : h.get? b = none) (e' : h'.get? b = some o) : plus P h h' b = some o := by
  unfold plus
  split
  · rename_i o' q; rw [hp _ _ q] at e; cases e
  · rw [if_pos e]; exact e'
/-- union of two views that hold in one heap -/
noncomputable def uni (P Q : Vw) : Vw := fun b => (P b).or (Q b)
theorem uni_left {P Q : Vw} : Le P (uni P Q) := fun b o e => by simp [uni, e]
theorem uni_right {P Q : Vw} {h : Heap} (hp : In P h) (hq : In Q h) : Le Q (uni P Q) := fun b o e => by
  unfold uni
  cases q : P b with
  | none => simpa using e
  | some o' =>
    have z := hq _ _ e
    rw [hp _ _ q] at z
    simpa using z
theorem uni_in {P Q : Vw} {h : Heap} (hp : In P h) (hq : In Q h) : In (uni P Q) h := fun b o e => by
  unfold uni at e
  cases q : P b with
  | none => rw [q] at e; exact hq _ _ (by simpa using e)
  | some o' => rw [q] at e; cases e; exact hp _ _ q
/-! ## the base: the text's own objects -/
structure Bs (K : Frag) (pv : Program) (loose : List Str) (mean : ExcName → Option Value) (mg mb : Str → Option Value) (P : Vw) : Prop where
  k : ∀ a o, K.lookup a = some o → P a = some o
  top : ∀ h, In P h → Top pv loose mean mg mb h
theorem Bs.up {K : Frag} {pv : Program} {loose : List Str} {mean : ExcName → Option Value} {mg mb : Str → Option Value} {P P' : Vw} (x : Bs K pv loose mean mg mb P) (k : Le P P') : Bs K pv loose mean mg mb P' :=
  ⟨fun a o e => k _ _ (x.k a o e), fun h hp => x.top h (hp.le k)⟩

noncomputable def AOk (n : Nat) (A : Around) : Prop := A.handled = none ∧ A.depth + n < recursionLimit ∧ A.units + 8 * n + 64 < cLine
theorem AOk.le {n m : Nat} {A : Around} (x : AOk n A) (h : m ≤ n) : AOk m A := ⟨x.1, Nat.lt_of_le_of_lt (Nat.add_le_add_left h _) x.2.1, Nat.lt_of_le_of_lt (Nat.add_le_add_right (Nat.add_le_add_left (Nat.mul_le_mul_left 8 h) _) _) x.2.2⟩
theorem AOk.deeper {n : Nat} {A : Around} {env : Env} (x : AOk (n + 1) A) : AOk n (A.deeper env) := ⟨x.1, ar_depth x.2.1, ar_units (by decide) x.2.2⟩

/-! ## names -/
inductive NameOk (S : Vw) (env : Env) (x : Str) : Value → Prop
  | loc {o : Obj} {m : Str → Option Value} {v : Value} : env.kindOf x = some .local → S env.locals = some o → LCg.NsObj o m → m x = some v → NameOk S env x v
  | cel {c : Addr} {o : Obj} {v : Value} : env.kindOf x = some .cell ∨ env.kindOf x = some .free → env.cells.lookup x = some c → S c = some o → o.data = .cell (some v) → NameOk S env x v
theorem NameOk.up {S S' : Vw} {env : Env} {x : Str} {v : Value} (k : Le S S') (h : NameOk S env x v) : NameOk S' env x v :=
  NameOk.casesOn (motive := fun v _ => NameOk S' env x v) h (fun a b c d => .loc a (k _ _ b) c d) fun a b c d => .cel a b (k _ _ c) d

/-- what an expression sees: names that hold data, names that hold a list that turns -/
structure Cx (S P : Vw) (env : Env) (Γ : List (Str × D)) (Δ : List (Str × List D)) : Prop where
  fn : env.scope.kind = .function
  gl : env.globals = mainGlobals
  bi : env.builtins = builtinsNs
  vars : ∀ p ∈ Γ, ∃ v, NameOk S env p.1 v ∧ Is P v p.2
  muts : ∀ p ∈ Δ, ∃ a vs n, NameOk S env p.1 (.ref a) ∧ S a = some (listOf vs.toArray n) ∧ IsAll P vs p.2
theorem Cx.up {S S' P P' : Vw} {env : Env} {Γ : List (Str × D)} {Δ : List (Str × List D)} (x : Cx S P env Γ Δ) (k : Le S S') (l : Le P P') : Cx S' P' env Γ Δ :=
  ⟨x.fn, x.gl, x.bi, fun p hp => (x.vars p hp).imp fun v h => ⟨h.1.up k, h.2.mono l⟩, fun p hp => (x.muts p hp).imp fun a h => h.imp fun vs h => h.imp fun n h => ⟨h.1.up k, k _ _ h.2.1, h.2.2.mono l⟩⟩

section
variable (prog : Program) (w : World) (K : Frag) (pv : Program) (loose : List Str) (mean : ExcName → Option Value) (mg mb : Str → Option Value)
/-- the world: program, draws, the text's objects -/
structure Wd where
  prog : Program
  w : World
  K : Frag
  pv : Program
  loose : List Str
  mean : ExcName → Option Value
  mg : Str → Option Value
  mb : Str → Option Value
  raws : List (Addr × MO)
end
noncomputable abbrev Wd.at (W : Wd) (l : List (Addr × MO)) : Wd := { W with raws := l }
noncomputable abbrev Wd.M (W : Wd) : Model := model W.prog W.w
noncomputable abbrev Wd.B (W : Wd) (P : Vw) : Prop := Bs W.K W.pv W.loose W.mean W.mg W.mb P

/-- a state in which an expression may be read -/
structure St (W : Wd) (k : Nat) (A : Around) (S P : Vw) (s : Shared) : Prop where
  a : AOk k A
  b : W.B P
  sv : In S s.heap
  p : In P s.heap
  tk : 1 ≤ s.toks
  rw : ∀ p ∈ W.raws, ∃ o, S p.1 = some o ∧ MIs P o p.2
theorem Gr.s {S P P' : Vw} {s s' : Shared} (g : Gr P s P' s') (h : In S s.heap) : In S s'.heap := fun b o e => g.old b o (h b o e)
theorem St.next {W : Wd} {k : Nat} {A : Around} {S P P' : Vw} {s s' : Shared} (x : St W k A S P s) (g : Gr P s P' s') (tk : 1 ≤ s'.toks) : St W k A S P' s' := ⟨x.a, x.b.up g.le, g.s x.sv, g.inn, tk, fun p hp => (x.rw p hp).imp fun o hh => ⟨hh.1, hh.2.mono g.le⟩⟩

/-- e gives the datum d -/
noncomputable def Ev (W : Wd) (k : Nat) (env : Env) (Γ : List (Str × D)) (Δ : List (Str × List D)) (e : Expr) (d : D) : Prop :=
  ∀ (A : Around) (S P : Vw) (s : Shared) (E Q : Value → Shared → Prop), St W k A S P s → Cx S P env Γ Δ →
    (∀ v P' s', Gr P s P' s' → 1 ≤ s'.toks → Is P' v d → Q v s') → wpAny W.M A (eval e env) Q E s
/-- e gives a list (one that turns, perhaps) -/
noncomputable def EvL (W : Wd) (k : Nat) (env : Env) (Γ : List (Str × D)) (Δ : List (Str × List D)) (e : Expr) (ds : List D) : Prop :=
  ∀ (A : Around) (S P : Vw) (s : Shared) (E Q : Value → Shared → Prop), St W k A S P s → Cx S P env Γ Δ →
    (∀ a vs n P' s', Gr P s P' s' → 1 ≤ s'.toks → s'.heap.get? a = some (listOf vs.toArray n) → IsAll P' vs ds → Q (.ref a) s') → wpAny W.M A (eval e env) Q E s
/-- the test e comes out b -/
noncomputable def Ts (W : Wd) (k : Nat) (env : Env) (Γ : List (Str × D)) (Δ : List (Str × List D)) (e : Expr) (b : Bool) : Prop :=
  ∀ (A : Around) (S P : Vw) (s : Shared) (E : Value → Shared → Prop) (Q : Bool → Shared → Prop), St W k A S P s → Cx S P env Γ Δ →
    (∀ P' s', Gr P s P' s' → 1 ≤ s'.toks → Q b s') → wpAny W.M A (isTrue e env (eval e env)) Q E s
/-- the arguments es give the data ds -/
noncomputable def Evs (W : Wd) (k : Nat) (env : Env) (Γ : List (Str × D)) (Δ : List (Str × List D)) (es : List Expr) (ds : List D) : Prop :=
  ∀ (A : Around) (S P : Vw) (s : Shared) (E : Value → Shared → Prop) (Q : List Value → Shared → Prop) (pos : Pos), St W k A S P s → Cx S P env Γ Δ →
    (∀ vs P' s', Gr P s P' s' → 1 ≤ s'.toks → IsAll P' vs ds → Q vs s') → wpAny W.M A (spliced (backTo pos (starEach es env))) Q E s
/-- a step upon values -/
noncomputable def Op1 (W : Wd) (k : Nat) (f : Value → Sem Value) (a d : D) : Prop :=
  ∀ (A : Around) (S P : Vw) (s : Shared) (E Q : Value → Shared → Prop) (x : Value), St W k A S P s → Is P x a →
    (∀ v P' s', Gr P s P' s' → Is P' v d → Q v s') → wpAny W.M A (f x) Q E s
noncomputable def Op2 (W : Wd) (k : Nat) (f : Value → Value → Sem Value) (a b d : D) : Prop :=
  ∀ (A : Around) (S P : Vw) (s : Shared) (E Q : Value → Shared → Prop) (x y : Value), St W k A S P s → Is P x a → Is P y b →
    (∀ v P' s', Gr P s P' s' → Is P' v d → Q v s') → wpAny W.M A (f x y) Q E s
/-- a call upon values -/
noncomputable def Cl (W : Wd) (k : Nat) (f : Value) (ds : List D) (d : D) : Prop :=
  ∀ (A : Around) (S P : Vw) (s : Shared) (E Q : Value → Shared → Prop) (vs : List Value), St W k A S P s → IsAll P vs ds →
    (∀ v P' s', Gr P s P' s' → Is P' v d → Q v s') → wpAny W.M A (call f vs) Q E s
/-- a call upon one list -/
noncomputable def ClL (W : Wd) (k : Nat) (f : Value) (ds : List D) (d : D) : Prop :=
  ∀ (A : Around) (S P : Vw) (s : Shared) (E Q : Value → Shared → Prop) (a : Addr) (vs : List Value) (n : Nat), St W k A S P s → s.heap.get? a = some (listOf vs.toArray n) → IsAll P vs ds →
    (∀ v P' s', Gr P s P' s' → Is P' v d → Q v s') → wpAny W.M A (call f [.ref a]) Q E s

noncomputable def plainE : Expr → Bool
  | .Starred .. => false
  | _ => true
theorem starEach_cons {e : Expr} {r : List Expr} {env : Env} (h : plainE e = true) : starEach (e :: r) env = (false, eval e env) :: starEach r env := by
  cases e <;> first | rfl | cases h

section
variable {W : Wd} {k : Nat} {env : Env} {Γ : List (Str × D)} {Δ : List (Str × List D)}
theorem wp_tk {α : Type} {M : Model} {A : Around} {t : Sem α} {s : Shared} {Q : α → Shared → Prop} {E : Value → Shared → Prop} (h1 : 1 ≤ s.toks) (h : wpAny M A t (fun a s' => 1 ≤ s'.toks → Q a s') E s) : wpAny M A t Q E s :=
  wpAny_with_toks h1 (wpAny_mono h (fun _ _ x => x) fun _ _ x _ => x)
theorem Ev.mk {e : Expr} {d : D} (h : ∀ (A : Around) (S P : Vw) (s : Shared) (E Q : Value → Shared → Prop), St W k A S P s → Cx S P env Γ Δ →
    (∀ v P' s', Gr P s P' s' → Is P' v d → Q v s') → wpAny W.M A (eval e env) Q E s) : Ev W k env Γ Δ e d := fun A S P s E Q st hC hQ =>
  wp_tk st.tk (h A S P s E _ st hC fun v P' s' g i tk => hQ v P' s' g tk i)
theorem Ev.list {e : Expr} {ds : List D} (h : Ev W k env Γ Δ e (.list ds)) : EvL W k env Γ Δ e ds := fun A S P s E Q st hC hQ =>
  h A S P s E Q st hC fun v P' s' g tk i => by
    obtain ⟨a, vs, n, rfl, q, r⟩ := i.listI
    exact hQ _ _ _ P' s' g tk (g.inn _ _ q) r

theorem ev_int {i : Int} {t : Nat} {p : Pos} : Ev W k env Γ Δ (.Constant (.int i) t p) (.int i) := .mk fun A S P s E Q st hC hQ =>
  wpAny_Constant_int (hQ _ P _ (Gr.toks st.p) (.int _ _))
theorem ev_str {x : Str} {t : Nat} {p : Pos} : Ev W k env Γ Δ (.Constant (.str x) t p) (.str x) := .mk fun A S P s E Q st hC hQ =>
  Constant_str (hQ _ P _ (Gr.toks st.p) (.str _ _))
theorem ev_bool {b : Bool} {t : Nat} {p : Pos} : Ev W k env Γ Δ (.Constant (.bool b) t p) (.bool b) := .mk fun A S P s E Q st hC hQ =>
  fun _ _ _ => hQ _ P _ (Gr.refl st.p) (.bool _)
theorem ev_none {t : Nat} {p : Pos} : Ev W k env Γ Δ (.Constant .none t p) .none := .mk fun A S P s E Q st hC hQ =>
  fun _ _ _ => hQ _ P _ (Gr.refl st.p) .none

theorem name_read {M : Model} {A : Around} {E : Value → Shared → Prop} {Q : Value → Shared → Prop} {s : Shared} {S : Vw} {x : Str} {pos : Pos} {v : Value} (hk : env.scope.kind = .function) (hS : In S s.heap) (n : NameOk S env x v) (h : Q v s)
    (hd : (x == ("__debug__" : Str)) = false) (hn : (x == ("__classdict__" : Str)) = false) : wpAny M A (eval (.Name x pos) env) Q E s := by
  cases n with
  | loc a b c d => exact wpAny_Name (wpAny_loadName_local hk a (c.ns (hS _ _ b)) d h) hd
  | cel a b c d =>
    rcases a with a | a
    · exact wpAny_Name (wpAny_loadName_cell hk a b ⟨_, hS _ _ c, d⟩ h) hd
    · exact wpAny_Name (wpAny_loadName_free hk a b ⟨_, hS _ _ c, d⟩ h hn) hd
theorem ev_name {x : Str} {pos : Pos} {d : D} (h : (x, d) ∈ Γ) (hd : (x == ("__debug__" : Str)) = false := by decide) (hn : (x == ("__classdict__" : Str)) = false := by decide) : Ev W k env Γ Δ (.Name x pos) d := .mk fun A S P s E Q st hC hQ => by
  obtain ⟨v, n, i⟩ := hC.vars _ h
  exact name_read hC.fn st.sv n (hQ v P s (Gr.refl st.p) i) hd hn
theorem ev_mut {x : Str} {pos : Pos} {ds : List D} (h : (x, ds) ∈ Δ) (hd : (x == ("__debug__" : Str)) = false := by decide) (hn : (x == ("__classdict__" : Str)) = false := by decide) : EvL W k env Γ Δ (.Name x pos) ds := fun A S P s E Q st hC hQ => by
  obtain ⟨a, vs, n, nm, q, r⟩ := hC.muts _ h
  exact name_read hC.fn st.sv nm (hQ a vs n P s (Gr.refl st.p) st.tk (st.sv _ _ q) r) hd hn

theorem ev_bin {l r : Expr} {op : Operator} {pos : Pos} {a b d : D} (h1 : Ev W k env Γ Δ l a) (h2 : Ev W k env Γ Δ r b) (h : Op2 W k (binaryOp op) a b d) : Ev W k env Γ Δ (.BinOp l op r pos) d := .mk fun A S P s E Q st hC hQ =>
  wpAny_BinOp (h1 A S P s E _ st hC fun x P₁ s₁ g₁ tk₁ i₁ => h2 A S P₁ s₁ E _ (st.next g₁ tk₁) (hC.up (Le.refl _) g₁.le) fun y P₂ s₂ g₂ tk₂ i₂ =>
    h A S P₂ s₂ E Q x y ((st.next g₁ tk₁).next g₂ tk₂) (i₁.mono g₂.le) i₂ fun v P₃ s₃ g₃ i₃ => hQ v P₃ s₃ ((g₁.trans g₂).trans g₃) i₃)
theorem ev_un {e : Expr} {op : UnaryOp} {pos : Pos} {a d : D} (h1 : Ev W k env Γ Δ e a) (h : Op1 W k (unaryOp op) a d) : Ev W k env Γ Δ (.UnaryOp op e pos) d := .mk fun A S P s E Q st hC hQ =>
  UnaryOp_ (h1 A S P s E _ st hC fun x P₁ s₁ g₁ tk₁ i₁ => h A S P₁ s₁ E Q x (st.next g₁ tk₁) i₁ fun v P₃ s₃ g₃ i₃ => hQ v P₃ s₃ (g₁.trans g₃) i₃)
theorem ev_cmp {l r : Expr} {op : CmpOp} {pos : Pos} {a b d : D} (h1 : Ev W k env Γ Δ l a) (h2 : Ev W k env Γ Δ r b) (h : Op2 W k (compareOp op) a b d) (hm : behindInMarks op r = false := by with_unfolding_all rfl) : Ev W k env Γ Δ (.Compare l [op] [r] pos) d := .mk fun A S P s E Q st hC hQ =>
  wpAny_Compare1 (h1 A S P s E _ st hC fun x P₁ s₁ g₁ tk₁ i₁ => h2 A S P₁ s₁ E _ (st.next g₁ tk₁) (hC.up (Le.refl _) g₁.le) fun y P₂ s₂ g₂ tk₂ i₂ =>
    h A S P₂ s₂ E Q x y ((st.next g₁ tk₁).next g₂ tk₂) (i₁.mono g₂.le) i₂ fun v P₃ s₃ g₃ i₃ => hQ v P₃ s₃ ((g₁.trans g₂).trans g₃) i₃) hm
theorem Ts.mk {e : Expr} {b : Bool} (h : ∀ (A : Around) (S P : Vw) (s : Shared) (E : Value → Shared → Prop) (Q : Bool → Shared → Prop), St W k A S P s → Cx S P env Γ Δ →
    (∀ P' s', Gr P s P' s' → Q b s') → wpAny W.M A (isTrue e env (eval e env)) Q E s) : Ts W k env Γ Δ e b := fun A S P s E Q st hC hQ =>
  wp_tk st.tk (h A S P s E _ st hC fun P' s' g tk => hQ P' s' g tk)
theorem ts_cmp {l r : Expr} {op : CmpOp} {pos : Pos} {a b : D} {c : Bool} (h1 : Ev W k env Γ Δ l a) (h2 : Ev W k env Γ Δ r b) (h : Op2 W k (compareOp op) a b (.bool c)) (hm : behindInMarks op r = false := by with_unfolding_all rfl) : Ts W k env Γ Δ (.Compare l [op] [r] pos) c := .mk fun A S P s E Q st hC hQ =>
  wpAny_isTrue_Compare1 (h1 A S P s E _ st hC fun x P₁ s₁ g₁ tk₁ i₁ => h2 A S P₁ s₁ E _ (st.next g₁ tk₁) (hC.up (Le.refl _) g₁.le) fun y P₂ s₂ g₂ tk₂ i₂ =>
    h A S P₂ s₂ E _ x y ((st.next g₁ tk₁).next g₂ tk₂) (i₁.mono g₂.le) i₂ fun v P₃ s₃ g₃ i₃ => by
      rw [i₃.boolI]; exact wpAny_truthy_bool (hQ P₃ s₃ ((g₁.trans g₂).trans g₃))) hm
/-- a test that is any other expression: its value's truth -/
theorem ts_plain {e : Expr} {d : D} {b : Bool} (h1 : Ev W k env Γ Δ e d)
    (h : ∀ (A : Around) (S P : Vw) (s : Shared) (E : Value → Shared → Prop) (Q : Bool → Shared → Prop) (v : Value), St W k A S P s → Is P v d → (∀ P' s', Gr P s P' s' → Q b s') → wpAny W.M A (truthy v) Q E s)
    (hp : isTrue e env (eval e env) = (do let v ← eval e env; standAt e.pos; holding [v] (truthy v)) := by rfl) : Ts W k env Γ Δ e b := .mk fun A S P s E Q st hC hQ =>
  isTrue_plain (h1 A S P s E _ st hC fun v P₁ s₁ g₁ tk₁ i₁ => h A S P₁ s₁ E Q v (st.next g₁ tk₁) i₁ fun P₂ s₂ g₂ => hQ P₂ s₂ (g₁.trans g₂)) hp
theorem ts_bool {e : Expr} {b : Bool} (h1 : Ev W k env Γ Δ e (.bool b)) (hp : isTrue e env (eval e env) = (do let v ← eval e env; standAt e.pos; holding [v] (truthy v)) := by rfl) : Ts W k env Γ Δ e b :=
  ts_plain h1 (fun A S P s E Q v st i hQ => by rw [i.boolI]; exact wpAny_truthy_bool (hQ P s (Gr.refl st.p))) hp
theorem ts_str {e : Expr} {x : Str} (h1 : Ev W k env Γ Δ e (.str x)) (hx : x.length < 2 ^ 62) (hp : isTrue e env (eval e env) = (do let v ← eval e env; standAt e.pos; holding [v] (truthy v)) := by rfl) : Ts W k env Γ Δ e ((x.length : Int) != 0) :=
  ts_plain h1 (fun A S P s E Q v st i hQ => by obtain ⟨t, rfl⟩ := i.strI; exact SBL.truthy (Int.ofNat_lt.mpr (Nat.lt_of_lt_of_le hx (by decide))) (hQ P _ (Gr.toks st.p))) hp
/-- the truth of «a and b and ..», «a or b or ..», with what the earlier ones say -/
inductive TsAnd (W : Wd) (k : Nat) (env : Env) (Γ : List (Str × D)) (Δ : List (Str × List D)) : List Expr → Bool → Prop
  | nil : TsAnd W k env Γ Δ [] true
  | tt {e : Expr} {r : List Expr} {b : Bool} : Ts W k env Γ Δ e true → TsAnd W k env Γ Δ r b → TsAnd W k env Γ Δ (e :: r) b
  | ff {e : Expr} {r : List Expr} : Ts W k env Γ Δ e false → TsAnd W k env Γ Δ (e :: r) false
inductive TsOr (W : Wd) (k : Nat) (env : Env) (Γ : List (Str × D)) (Δ : List (Str × List D)) : List Expr → Bool → Prop
  | nil : TsOr W k env Γ Δ [] false
  | ff {e : Expr} {r : List Expr} {b : Bool} : Ts W k env Γ Δ e false → TsOr W k env Γ Δ r b → TsOr W k env Γ Δ (e :: r) b
  | tt {e : Expr} {r : List Expr} : Ts W k env Γ Δ e true → TsOr W k env Γ Δ (e :: r) true
theorem ts_and {es : List Expr} {pos : Pos} {b : Bool} (h : TsAnd W k env Γ Δ es b) : Ts W k env Γ Δ (.BoolOp .And es pos) b := .mk fun A S P s E Q st hC hQ => by
  suffices ∀ (whole : Sem Value), wpAny W.M A (isTrue (.BoolOp .And es pos) env whole) Q E s from this _
  induction h generalizing P s with
  | nil => exact fun whole => isTrue_and_nil (hQ P s (Gr.refl st.p))
  | tt h1 _ ih => exact fun whole => isTrue_and (h1 A S P s E _ st hC fun P₁ s₁ g₁ tk₁ => by
      rw [if_pos rfl]
      exact ih P₁ s₁ (st.next g₁ tk₁) (hC.up (Le.refl _) g₁.le) (fun P₂ s₂ g₂ => hQ P₂ s₂ (g₁.trans g₂)) _)
  | ff h1 => exact fun whole => isTrue_and (h1 A S P s E _ st hC fun P₁ s₁ g₁ tk₁ => by
      rw [if_neg Bool.false_ne_true]
      exact hQ P₁ s₁ g₁)
theorem ts_or {es : List Expr} {pos : Pos} {b : Bool} (h : TsOr W k env Γ Δ es b) : Ts W k env Γ Δ (.BoolOp .Or es pos) b := .mk fun A S P s E Q st hC hQ => by
  suffices ∀ (whole : Sem Value), wpAny W.M A (isTrue (.BoolOp .Or es pos) env whole) Q E s from this _
  induction h generalizing P s with
  | nil => exact fun whole => isTrue_or_nil (hQ P s (Gr.refl st.p))
  | ff h1 _ ih => exact fun whole => isTrue_or (h1 A S P s E _ st hC fun P₁ s₁ g₁ tk₁ => by
      rw [if_neg Bool.false_ne_true]
      exact ih P₁ s₁ (st.next g₁ tk₁) (hC.up (Le.refl _) g₁.le) (fun P₂ s₂ g₂ => hQ P₂ s₂ (g₁.trans g₂)) _)
  | tt h1 => exact fun whole => isTrue_or (h1 A S P s E _ st hC fun P₁ s₁ g₁ tk₁ => by
      rw [if_pos rfl]
      exact hQ P₁ s₁ g₁)

/-! ### arguments -/
theorem evs_nil : Evs W k env Γ Δ [] [] := fun A S P s E Q pos st hC hQ => spliced_nil (hQ [] P s (Gr.refl st.p) st.tk .nil)
theorem evs_cons {e : Expr} {es : List Expr} {d : D} {ds : List D} (h1 : Ev W k env Γ Δ e d) (h2 : Evs W k env Γ Δ es ds) (hp : plainE e = true := by rfl) : Evs W k env Γ Δ (e :: es) (d :: ds) := fun A S P s E Q pos st hC hQ => by
  rw [starEach_cons hp]
  exact spliced_cons (h1 A S P s E _ st hC fun v P₁ s₁ g₁ tk₁ i₁ => h2 A S P₁ s₁ E _ pos (st.next g₁ tk₁) (hC.up (Le.refl _) g₁.le) fun vs P₂ s₂ g₂ tk₂ i₂ =>
    hQ (v :: vs) P₂ s₂ (g₁.trans g₂) tk₂ (.cons (i₁.mono g₂.le) i₂))

/-- a name of the built-ins -/
structure NmB (W : Wd) (env : Env) (x : Str) (v : Value) : Prop where
  kind : env.kindOf x = some .globalImplicit
  no : nsIn W.K mainGlobals x = some none
  boot : bootBuiltins x = some v
  nn : x ≠ "__name__"
structure NmG (W : Wd) (env : Env) (x : Str) (v : Value) : Prop where
  kind : env.kindOf x = some .globalImplicit
  has : nsIn W.K mainGlobals x = some (some v)
theorem Bs.frag {P : Vw} {h : Heap} (x : W.B P) (p : In P h) : W.K.In h := fun a o e => p _ _ (x.k a o e)
theorem name_bi {M : Model} {A : Around} {S P : Vw} {s : Shared} {E Q : Value → Shared → Prop} {x : Str} {pos : Pos} {v : Value} (b : W.B P) (hp : In P s.heap) (hC : Cx S P env Γ Δ) (n : NmB W env x v) (h : Q v s) (hd : (x == ("__debug__" : Str)) = false) : wpAny M A (eval (.Name x pos) env) Q E s := by
  have T := b.top s.heap hp
  refine Name_function_global hC.fn n.kind (loadGlobal_builtin (env := env) (by rw [hC.gl]; exact T.g) (mg_none_of (Bs.frag b hp) T.g n.no) (by rw [hC.bi]; exact T.b) ((T.builtins x n.nn).trans n.boot) h) hd
theorem name_gl {M : Model} {A : Around} {S P : Vw} {s : Shared} {E Q : Value → Shared → Prop} {x : Str} {pos : Pos} {v : Value} (b : W.B P) (hp : In P s.heap) (hC : Cx S P env Γ Δ) (n : NmG W env x v) (h : Q v s) (hd : (x == ("__debug__" : Str)) = false) : wpAny M A (eval (.Name x pos) env) Q E s := by
  have T := b.top s.heap hp
  exact Name_function_global hC.fn n.kind (loadGlobal_global (env := env) (by rw [hC.gl]; exact T.g) (mg_of (Bs.frag b hp) T.g n.has) h) hd
/-- a global name that holds a str -/
theorem ev_gstr {x y : Str} {t : Tok} {pos : Pos} (n : NmG W env x (.str y t)) (hd : (x == ("__debug__" : Str)) = false := by decide) : Ev W k env Γ Δ (.Name x pos) (.str y) := .mk fun A S P s E Q st hC hQ =>
  name_gl st.b st.p hC n (hQ _ P s (Gr.refl st.p) (.str _ _)) hd

theorem plain_any : ∀ {args : List Expr} {pos : Pos}, (args.all plainE) = true → (backTo pos (starEach args env)).any (·.1) = false
  | [], _, _ => rfl
  | e :: r, pos, h => by
    have h' := Bool.and_eq_true_iff.mp (by simpa using h : (plainE e && r.all plainE) = true)
    rw [starEach_cons h'.1]
    show (false || (backTo pos (starEach r env)).any (·.1)) = false
    rw [plain_any h'.2]; rfl
theorem evalArgs_ev {A : Around} {S P : Vw} {s : Shared} {E : Value → Shared → Prop} {Q : Args → Shared → Prop} {f : Value} {e : Expr} {r : List Expr} {ds : List D} {pos : Pos} (hp : (e :: r).all plainE = true) (st : St W k A S P s) (hC : Cx S P env Γ Δ) (h : Evs W k env Γ Δ (e :: r) ds)
    (hQ : ∀ vs P' s', Gr P s P' s' → 1 ≤ s'.toks → IsAll P' vs ds → Q ⟨vs, []⟩ s') : wpAny W.M A (evalArgs f true (backTo pos (starEach (e :: r) env)) []) Q E s := by
  have h' := Bool.and_eq_true_iff.mp (by simpa using hp : (plainE e && r.all plainE) = true)
  have z := h A S P s E (fun vs s' => Q ⟨vs, []⟩ s') pos st hC hQ
  rw [starEach_cons h'.1] at z ⊢
  exact evalArgs_plain z
/-- a built-in function by its name, upon data -/
theorem ev_callB {x : Str} {f : String} {p pos : Pos} {e : Expr} {r : List Expr} {ds : List D} {d : D} (n : NmB W env x (.builtin f)) (h : Evs W k env Γ Δ (e :: r) ds) (hc : Cl W k (.builtin f) ds d)
    (hp : (e :: r).all plainE = true := by rfl) (hd : (x == ("__debug__" : Str)) = false := by decide) : Ev W k env Γ Δ (.Call (.Name x p) (e :: r) [] pos) d := .mk fun A S P s E Q st hC hQ => by
  refine wpAny_Call_Name_kw (name_bi st.b st.p hC n ?_ hd)
  refine callWith_builtin (plain_any hp) (evalArgs_ev hp st hC h fun vs P₁ s₁ g₁ tk₁ i₁ => ?_)
  exact hc A S P₁ s₁ E Q vs (st.next g₁ tk₁) i₁ fun v P₂ s₂ g₂ i₂ => hQ v P₂ s₂ (g₁.trans g₂) i₂
/-- a built-in function upon one list -/
theorem ev_callBL {x : Str} {f : String} {p pos : Pos} {e : Expr} {ds : List D} {d : D} (n : NmB W env x (.builtin f)) (h : EvL W k env Γ Δ e ds) (hc : ClL W k (.builtin f) ds d)
    (hp : plainE e = true := by rfl) (hd : (x == ("__debug__" : Str)) = false := by decide) : Ev W k env Γ Δ (.Call (.Name x p) [e] [] pos) d := .mk fun A S P s E Q st hC hQ => by
  refine wpAny_Call_Name_kw (name_bi st.b st.p hC n ?_ hd)
  have hp' : [e].all plainE = true := by simp [hp]
  refine callWith_builtin (plain_any hp') ?_
  rw [starEach_cons hp]
  refine evalArgs_plain (spliced_cons (h A S P s E _ st hC fun a vs n P₁ s₁ g₁ tk₁ q₁ i₁ => spliced_nil ?_))
  exact hc A S P₁ s₁ E Q a vs n (st.next g₁ tk₁) q₁ i₁ fun v P₂ s₂ g₂ i₂ => hQ v P₂ s₂ (g₁.trans g₂) i₂
end
end
section
/-! small sums, each proved once -/
theorem az_sub (a b : Nat) : ((a : Int) - b).toNat = a - b := Int.toNat_sub a b
theorem az_m1 (n : Nat) : ((-1 : Int) + n).toNat = n - 1 := by rw [Int.add_comm]; exact Int.toNat_sub n 1
theorem az_sub1 {a b : Nat} (h : b ≤ a) : ((a : Int) - b + 1).toNat = a - b + 1 := by rw [← Int.ofNat_sub h]; rfl
theorem az_w (w : Int) : (w + 1 + 1 - 2).toNat = w.toNat := by rw [Int.add_assoc]; exact congrArg Int.toNat (Int.add_sub_cancel w 2)
theorem az_lead {i : Nat} (h : i < 40) : ((-1000 ≤ 2 + (i : Int) ∧ 2 + (i : Int) ≤ 1000) ∧ 1 ≤ 1000) ∧ 1 * (2 + (i : Int)).toNat ≤ 10000 := by revert i; decide
theorem az_ints {i : Nat} (h : i ≤ 100000) : -2 ^ 62 ≤ (i : Int) ∧ (i : Int) < 2 ^ 62 := ⟨Int.le_trans (by decide) (Int.natCast_nonneg i), Int.lt_of_le_of_lt (Int.ofNat_le.mpr h) (by decide)⟩
theorem az_dle {a b : Nat} : decide ((a : Int) ≤ b) = decide (a ≤ b) := decide_eq_decide.mpr Int.ofNat_le
theorem az_le5 {l : Nat} (h : l ≤ 4) : l = 0 ∨ l = 1 ∨ l = 2 ∨ l = 3 ∨ l = 4 := by revert l; decide
theorem az_min (n : Nat) : min (min 4 n) n = min 4 n := Nat.min_eq_left (Nat.min_le_right _ _)
theorem az_from {n e : Nat} (h : e ≤ n) : min (max 0 (e : Int)).toNat n = e := by rw [Int.max_eq_right (Int.natCast_nonneg e)]; exact Nat.min_eq_left h
theorem az_of4 {p : Nat → Prop} (h0 : p 0) (h1 : p 1) (h2 : p 2) (h3 : p 3) {i : Nat} (hi : i < 4) : p i := by
  cases i with
  | zero => exact h0
  | succ i => cases i with
    | zero => exact h1
    | succ i => cases i with
      | zero => exact h2
      | succ i => cases i with
        | zero => exact h3
        | succ i => exact absurd hi (Nat.not_lt.mpr (Nat.le_add_left 4 i))
theorem az_of5 {p : Nat → Prop} (h0 : p 0) (h1 : p 1) (h2 : p 2) (h3 : p 3) (h4 : p 4) {i : Nat} (hi : i < 5) : p i := by
  cases i with
  | zero => exact h0
  | succ i => exact az_of4 (p := fun i => p (i + 1)) h1 h2 h3 h4 (Nat.lt_of_succ_lt_succ hi)
theorem az_q4 {a : Int} (h : 0 ≤ a ∧ a < 6) : -2 ^ 62 ≤ a ∧ a < 2 ^ 62 := ⟨Int.le_trans (by decide) h.1, Int.lt_trans h.2 (by decide)⟩
end
section
section
variable {W : Wd} {k : Nat} {f : Value → Value → Sem Value} {g : Value} {d : D}
theorem op2_ii {a : Int} {b : Int} (h : ∀ (A : Around) (S P : Vw) (s : Shared) (E Q : Value → Shared → Prop) (t u : Tok), St W k A S P s → (∀ v P' s', Gr P s P' s' → Is P' v d → Q v s') → wpAny W.M A (f (.int a t) (.int b u)) Q E s) : Op2 W k f (.int a) (.int b) d := fun A S P s E Q x y st hx hy hQ => by
  obtain ⟨t, rfl⟩ := hx.intI; obtain ⟨u, rfl⟩ := hy.intI; exact h A S P s E Q t u st hQ
theorem op2_ss {a : Str} {b : Str} (h : ∀ (A : Around) (S P : Vw) (s : Shared) (E Q : Value → Shared → Prop) (t u : Tok), St W k A S P s → (∀ v P' s', Gr P s P' s' → Is P' v d → Q v s') → wpAny W.M A (f (.str a t) (.str b u)) Q E s) : Op2 W k f (.str a) (.str b) d := fun A S P s E Q x y st hx hy hQ => by
  obtain ⟨t, rfl⟩ := hx.strI; obtain ⟨u, rfl⟩ := hy.strI; exact h A S P s E Q t u st hQ
theorem op2_si {a : Str} {b : Int} (h : ∀ (A : Around) (S P : Vw) (s : Shared) (E Q : Value → Shared → Prop) (t u : Tok), St W k A S P s → (∀ v P' s', Gr P s P' s' → Is P' v d → Q v s') → wpAny W.M A (f (.str a t) (.int b u)) Q E s) : Op2 W k f (.str a) (.int b) d := fun A S P s E Q x y st hx hy hQ => by
  obtain ⟨t, rfl⟩ := hx.strI; obtain ⟨u, rfl⟩ := hy.intI; exact h A S P s E Q t u st hQ
theorem cl_1s {x : Str} (h : ∀ (A : Around) (S P : Vw) (s : Shared) (E Q : Value → Shared → Prop) (t : Tok), St W k A S P s → (∀ v P' s', Gr P s P' s' → Is P' v d → Q v s') → wpAny W.M A (call g [.str x t]) Q E s) : Cl W k g [.str x] d := fun A S P s E Q vs st i hQ => by
  obtain ⟨v, rfl, a⟩ := i.oneI; obtain ⟨t, rfl⟩ := a.strI; exact h A S P s E Q t st hQ
theorem cl_2s {x y : Str} (h : ∀ (A : Around) (S P : Vw) (s : Shared) (E Q : Value → Shared → Prop) (t u : Tok), St W k A S P s → (∀ v P' s', Gr P s P' s' → Is P' v d → Q v s') → wpAny W.M A (call g [.str x t, .str y u]) Q E s) : Cl W k g [.str x, .str y] d := fun A S P s E Q vs st i hQ => by
  obtain ⟨v, u, rfl, a, b⟩ := i.twoI; obtain ⟨t, rfl⟩ := a.strI; obtain ⟨t2, rfl⟩ := b.strI; exact h A S P s E Q t t2 st hQ
theorem cl_2s2i {x y : Str} {i j : Int} (h : ∀ (A : Around) (S P : Vw) (s : Shared) (E Q : Value → Shared → Prop) (t u v w : Tok), St W k A S P s → (∀ v P' s', Gr P s P' s' → Is P' v d → Q v s') → wpAny W.M A (call g [.str x t, .str y u, .int i v, .int j w]) Q E s) : Cl W k g [.str x, .str y, .int i, .int j] d := fun A S P s E Q vs st i hQ => by
  obtain ⟨v, _, rfl, a, i⟩ := i.consI; obtain ⟨u, _, rfl, b, i⟩ := i.consI; obtain ⟨y, z, rfl, c, e⟩ := i.twoI; obtain ⟨t, rfl⟩ := a.strI; obtain ⟨t2, rfl⟩ := b.strI; obtain ⟨t3, rfl⟩ := c.intI; obtain ⟨t4, rfl⟩ := e.intI; exact h A S P s E Q t t2 t3 t4 st hQ
end
section
variable {W : Wd} {k : Nat} {env : Env} {Γ : List (Str × D)} {Δ : List (Str × List D)}

theorem Gr.alloc {P : Vw} {s : Shared} {o : Obj} {tk : Nat} (h : In P s.heap) (hf : o.isFreed = false := by rfl) : Gr P s (plus P s.heap (s.heap.push o)) { s with heap := s.heap.push o, toks := tk } ∧ plus P s.heap (s.heap.push o) s.heap.objs.size = some o :=
  ⟨Gr.more h fun _ _ e => Heap.get?_push_of_some _ e, plus_new h (Heap.get?_none_of_le (Nat.le_refl _)) (Heap.get?_push_size _ hf)⟩
theorem Gr.pushed {P : Vw} {s : Shared} {o : Obj} {tk : Nat} (h : In P s.heap) : Gr P s P { s with heap := s.heap.push o, toks := tk } := Gr.keep h fun _ _ e => Heap.get?_push_of_some _ e

theorem none_size {P : Vw} {h : Heap} (p : In P h) : P h.objs.size = none := by
  cases q : P h.objs.size with
  | none => rfl
  | some o => exact absurd (Heap.lt_size (p _ _ q)) (Nat.lt_irrefl _)
/-! ### operators -/
theorem op_add_int {a b : Int} : Op2 W k (binaryOp .Add) (.int a) (.int b) (.int (a + b)) := op2_ii fun A S P s E Q t u st hQ => add_int (hQ _ P _ (Gr.toks st.p) (.int _ _))
theorem op_sub_int {a b : Int} : Op2 W k (binaryOp .Sub) (.int a) (.int b) (.int (a - b)) := op2_ii fun A S P s E Q t u st hQ => sub_int (hQ _ P _ (Gr.toks st.p) (.int _ _))
theorem op_mul_int {a b : Int} (h : IntMulOk a b) : Op2 W k (binaryOp .Mult) (.int a) (.int b) (.int (a * b)) := op2_ii fun A S P s E Q t u st hQ => mul_int (hQ _ P _ (Gr.toks st.p) (.int _ _)) h
theorem op_mod_int {a b : Int} (h : b ≠ 0) : Op2 W k (binaryOp .Mod) (.int a) (.int b) (.int (Int.fmod a b)) := op2_ii fun A S P s E Q t u st hQ => mod_int' h (hQ _ P _ (Gr.toks st.p) (.int _ _))
theorem op_div_int {a b : Int} (h : b ≠ 0) (hs : b.natAbs < 1073741824) : Op2 W k (binaryOp .FloorDiv) (.int a) (.int b) (.int (Int.fdiv a b)) := op2_ii fun A S P s E Q t u st hQ => floordiv_int h (hQ _ P _ (Gr.toks st.p) (.int _ _)) (Or.inl (PyProof.noPylong_small (by omega)))
theorem op_pow_int {a n : Int} (h0 : 0 ≤ n) (h1 : n ≤ 1000000) (h2 : a.natAbs < 2 ^ 64) : Op2 W k (binaryOp .Pow) (.int a) (.int n) (.int (a ^ n.toNat)) := op2_ii fun A S P s E Q t u st hQ => pow_int_small h0 h1 h2 (hQ _ P _ (Gr.toks st.p) (.int _ _))
theorem op_add_str {a b : Str} (h : a.length + b.length ≤ sizeLine) : Op2 W k (binaryOp .Add) (.str a) (.str b) (.str (a ++ b)) := op2_ss fun A S P s E Q t u st hQ => add_str (fun t' tk => hQ _ P _ (Gr.toks st.p) (.str _ _)) h
theorem op_mul_str {a : Str} {n : Int} (h : MulOk a n) : Op2 W k (binaryOp .Mult) (.str a) (.int n) (.str (Txt.mul a n)) := op2_si fun A S P s E Q t u st hQ => SB.mul h (fun t' tk => hQ _ P _ (Gr.toks st.p) (.str _ _))
theorem op_neg {a : Int} : Op1 W k (unaryOp .USub) (.int a) (.int (-a)) := fun A S P s E Q x st hx hQ => by
  obtain ⟨t, rfl⟩ := hx.intI; exact neg_int (hQ _ P _ (Gr.toks st.p) (.int _ _))
theorem op_eq_int {a b : Int} : Op2 W k (compareOp .Eq) (.int a) (.int b) (.bool (a == b)) := op2_ii fun A S P s E Q t u st hQ => eq_int (hQ _ P _ (Gr.refl st.p) (.bool _))
theorem op_ne_int {a b : Int} : Op2 W k (compareOp .NotEq) (.int a) (.int b) (.bool (a != b)) := op2_ii fun A S P s E Q t u st hQ => ne_int (hQ _ P _ (Gr.refl st.p) (.bool _))
theorem op_lt_int {a b : Int} : Op2 W k (compareOp .Lt) (.int a) (.int b) (.bool (decide (a < b))) := op2_ii fun A S P s E Q t u st hQ => lt_int (hQ _ P _ (Gr.refl st.p) (.bool _))
theorem op_gt_int {a b : Int} : Op2 W k (compareOp .Gt) (.int a) (.int b) (.bool (decide (b < a))) := op2_ii fun A S P s E Q t u st hQ => gt_int (hQ _ P _ (Gr.refl st.p) (.bool _))
theorem op_le_int {a b : Int} : Op2 W k (compareOp .LtE) (.int a) (.int b) (.bool (decide (a ≤ b))) := op2_ii fun A S P s E Q t u st hQ => le_int (hQ _ P _ (Gr.refl st.p) (.bool _))
theorem op_ge_int {a b : Int} : Op2 W k (compareOp .GtE) (.int a) (.int b) (.bool (decide (b ≤ a))) := op2_ii fun A S P s E Q t u st hQ => ge_int (hQ _ P _ (Gr.refl st.p) (.bool _))
theorem op_eq_str {a b : Str} : Op2 W k (compareOp .Eq) (.str a) (.str b) (.bool (a == b)) := op2_ss fun A S P s E Q t u st hQ => eq_str (hQ _ P _ (Gr.refl st.p) (.bool _))
theorem op_ne_str {a b : Str} : Op2 W k (compareOp .NotEq) (.str a) (.str b) (.bool (a != b)) := op2_ss fun A S P s E Q t u st hQ => ne_str (hQ _ P _ (Gr.refl st.p) (.bool _))
/-- «y in x» -/
noncomputable def inS (y x : Str) : Bool := !(Builtin.Str.occurrences x y 0 x.length 1).isEmpty
theorem op_in_str {a b : Str} : Op2 W k (compareOp .In) (.str a) (.str b) (.bool (inS a b)) := op2_ss fun A S P s E Q t u st hQ => in_str (hQ _ P _ (Gr.refl st.p) (.bool _))
theorem op_notin_str {a b : Str} : Op2 W k (compareOp .NotIn) (.str a) (.str b) (.bool (!inS a b)) := op2_ss fun A S P s E Q t u st hQ => notIn_str (hQ _ P _ (Gr.refl st.p) (.bool _))
theorem op_is_bool {a b : Bool} : Op2 W k (compareOp .Is) (.bool a) (.bool b) (.bool (a == b)) := fun A S P s E Q x y st hx hy hQ => by
  rw [hx.boolI, hy.boolI]
  refine wpAny_is_plain rfl ?_
  have : (Value.bool a == Value.bool b) = (a == b) := by cases a <;> cases b <;> rfl
  rw [this]; exact hQ _ P _ (Gr.refl st.p) (.bool _)
theorem op_isnot_bool {a b : Bool} : Op2 W k (compareOp .IsNot) (.bool a) (.bool b) (.bool (!(a == b))) := fun A S P s E Q x y st hx hy hQ => by
  rw [hx.boolI, hy.boolI]
  refine wpAny_isNot_plain rfl ?_
  have : (Value.bool a == Value.bool b) = (a == b) := by cases a <;> cases b <;> rfl
  rw [this]; exact hQ _ P _ (Gr.refl st.p) (.bool _)
theorem op_is_none_none : Op2 W k (compareOp .Is) .none .none (.bool true) := fun A S P s E Q x y st hx hy hQ => by
  rw [hx.noneI, hy.noneI]; exact wpAny_is_plain rfl (hQ _ P _ (Gr.refl st.p) (.bool _))
theorem op_is_int_none {i : Int} : Op2 W k (compareOp .Is) (.int i) .none (.bool false) := fun A S P s E Q x y st hx hy hQ => by
  rw [hy.noneI]; obtain ⟨t, rfl⟩ := hx.intI; exact wpAny_is_plain rfl (hQ _ P _ (Gr.refl st.p) (.bool _))

/-! ### displays -/
/-- e gives a list that is new and that nobody else holds -/
noncomputable def EvN (W : Wd) (k : Nat) (env : Env) (Γ : List (Str × D)) (Δ : List (Str × List D)) (e : Expr) (ds : List D) : Prop :=
  ∀ (A : Around) (S P : Vw) (s : Shared) (E Q : Value → Shared → Prop), St W k A S P s → Cx S P env Γ Δ →
    (∀ a vs n P' s', Gr P s P' s' → 1 ≤ s'.toks → s.heap.get? a = none → P' a = none → s'.heap.get? a = some (listOf vs.toArray n) → IsAll P' vs ds → Q (.ref a) s') → wpAny W.M A (eval e env) Q E s
theorem EvN.mk {e : Expr} {ds : List D} (h : ∀ (A : Around) (S P : Vw) (s : Shared) (E Q : Value → Shared → Prop), St W k A S P s → Cx S P env Γ Δ →
    (∀ a vs n P' s', Gr P s P' s' → s.heap.get? a = none → P' a = none → s'.heap.get? a = some (listOf vs.toArray n) → IsAll P' vs ds → Q (.ref a) s') → wpAny W.M A (eval e env) Q E s) : EvN W k env Γ Δ e ds := fun A S P s E Q st hC hQ =>
  wp_tk st.tk (h A S P s E _ st hC fun a vs n P' s' g h1 h2 h3 i tk => hQ a vs n P' s' g tk h1 h2 h3 i)
open Classical in
noncomputable def addV (P : Vw) (a : Addr) (o : Obj) : Vw := fun b => if b = a then some o else P b
theorem addV_at {P : Vw} {a : Addr} {o : Obj} : addV P a o a = some o := if_pos rfl
theorem addV_ne {P : Vw} {a b : Addr} {o : Obj} (h : b ≠ a) : addV P a o b = P b := if_neg h
theorem addV_le {P : Vw} {a : Addr} {o : Obj} (h : P a = none) : Le P (addV P a o) := fun b o' e => by
  have : b ≠ a := fun q => by rw [q, h] at e; cases e
  rw [addV_ne this]; exact e
theorem Gr.add {P P' : Vw} {s s' : Shared} {a : Addr} {o : Obj} (g : Gr P s P' s') (h0 : s.heap.get? a = none) (h1 : P' a = none) (h2 : s'.heap.get? a = some o) : Gr P s (addV P' a o) s' :=
  ⟨g.le.trans (addV_le h1), fun b o' e => by
    by_cases hb : b = a
    · subst hb; rw [addV_at] at e; cases e; exact h2
    · rw [addV_ne hb] at e; exact g.inn _ _ e, g.old, fun b o' e => by
    by_cases hb : b = a
    · subst hb; exact .inr h0
    · rw [addV_ne hb] at e; exact g.new _ _ e, g.gens, g.drawn, g.os⟩
theorem EvN.ev {e : Expr} {ds : List D} (h : EvN W k env Γ Δ e ds) : Ev W k env Γ Δ e (.list ds) := fun A S P s E Q st hC hQ =>
  h A S P s E Q st hC fun a vs n P' s' g tk h0 h1 h2 i => hQ _ (addV P' a (listOf vs.toArray n)) s' (g.add h0 h1 h2) tk (.list addV_at (i.mono (addV_le h1)))
theorem evn_list {es : List Expr} {pos : Pos} {ds : List D} (h : Evs W k env Γ Δ es ds) (hsz : Nat.ble ds.length 64 = true := by rfl) : EvN W k env Γ Δ (.List es pos) ds := .mk fun A S P s E Q st hC hQ =>
  List_ (h A S P s E _ pos st hC fun vs P₁ s₁ g₁ tk₁ i₁ => by
    refine wpAny_newObj_type ?_ (by show vs.toArray.size ≤ sizeLine; rw [List.size_toArray, i₁.length]; exact Nat.le_trans (Nat.le_of_ble_eq_true hsz) (by decide))
    exact hQ _ vs 0 P₁ _ (g₁.trans (Gr.pushed (tk := s₁.toks) g₁.inn)) (none_of_old g₁.old (Heap.get?_none_of_le (Nat.le_refl _))) (none_size g₁.inn) (Heap.get?_push_size _ rfl) i₁)
theorem ev_list {es : List Expr} {pos : Pos} {ds : List D} (h : Evs W k env Γ Δ es ds) (hsz : Nat.ble ds.length 64 = true := by rfl) : Ev W k env Γ Δ (.List es pos) (.list ds) := (evn_list h hsz).ev
theorem ev_tuple {es : List Expr} {n : Nat} {pos : Pos} {ds : List D} (h : Evs W k env Γ Δ es ds) (hsz : Nat.ble ds.length 64 = true := by rfl) : Ev W k env Γ Δ (.Tuple es n pos) (.tup ds) := .mk fun A S P s E Q st hC hQ =>
  Tuple_ (h A S P s E _ pos st hC fun vs P₁ s₁ g₁ tk₁ i₁ => by
    refine wpAny_newObj_type ?_ (by show vs.toArray.size ≤ sizeLine; rw [List.size_toArray, i₁.length]; exact Nat.le_trans (Nat.le_of_ble_eq_true hsz) (by decide))
    obtain ⟨g, q⟩ := Gr.alloc (P := P₁) (s := s₁) (o := { cls := .type "tuple", data := .seq vs.toArray 0 }) (tk := s₁.toks) g₁.inn
    exact hQ _ _ _ (g₁.trans g) (.tup q (i₁.mono g.le)))

/-! ### calls of built-ins -/
theorem cl_len_str {x : Str} (h : x.length < 2 ^ 62) : Cl W k (.builtin "len") [.str x] (.int x.length) := cl_1s fun A S P s E Q t st hQ => len_str (by omega) (hQ _ P _ (Gr.toks st.p) (.int _ _))
theorem cl_len_list {ds : List D} (h : ds.length < 2 ^ 62) : ClL W k (.builtin "len") ds (.int ds.length) := fun A S P s E Q a vs n st q i hQ => by
  have hl : s.heap.IsList a vs.toArray := ⟨_, q, rfl, n, rfl⟩
  refine call_len_list hl (by rw [List.size_toArray, i.length]; omega) ?_
  rw [List.size_toArray, i.length]
  exact hQ _ P _ (Gr.toks st.p) (.int _ _)

/-! ### methods of str -/
theorem typeIs_of {P : Vw} {s : Shared} {v : Value} {x : Str} (i : Is P v (.str x)) : s.TypeIs v "str" := by obtain ⟨t, rfl⟩ := i.strI; rfl
theorem noRef_of {P : Vw} {s : Shared} {v : Value} {x : Str} (i : Is P v (.str x)) : ∀ a, v = .ref a → ∃ ob, s.heap.get? a = some ob ∧ ob.dict = none := by obtain ⟨t, rfl⟩ := i.strI; exact fun a e => nomatch e
theorem kwNone {pos : Pos} : (backToKw pos (keywordEach [] env)).all (fun x => x.1.isSome) = true := rfl
theorem few_ok {args : List Expr} {pos : Pos} (h : args.all plainE = true) (hl : args.length < 29) :
    ((backTo pos (starEach args env)).all (fun x => !x.1) && (backToKw pos (keywordEach [] env)).all (fun x => x.1.isSome) && decide (args.length + ([] : List Keyword).length + (if ([] : List Keyword).isEmpty then 0 else 1) < 30)) = true := by
  have h1 : (backTo pos (starEach args env)).all (fun x => !x.1) = true := by
    have := plain_any (env := env) (pos := pos) h
    rw [List.all_eq_true]
    intro x hx
    rw [List.any_eq_false] at this
    simpa using this x hx
  rw [h1, kwNone]
  simp only [Bool.and_self, Bool.true_and, decide_eq_true_eq, List.length_nil, List.isEmpty_nil, if_true]
  omega
/-- x.m(a, ..) of a str -/
theorem ev_smeth {o : Expr} {name : Str} {apos pos : Pos} {e : Expr} {r : List Expr} {id : String} {x : Str} {ds : List D} {d : D} (h0 : Ev W k env Γ Δ o (.str x)) (h1 : Evs W k env Γ Δ (e :: r) ds)
    (slot : Slot "str" name id) (hty : typeOf (.builtin id) = pure (.type "method_descriptor")) (hc : Cl W k (.builtin id) (.str x :: ds) d)
    (hp : (e :: r).all plainE = true := by rfl) (hl : (e :: r).length < 29 := by decide) (hbase : attributeBase o name env (eval o env) = eval o env := by rfl) (hline : (apos.endLine == pos.line) = true := by decide) :
    Ev W k env Γ Δ (.Call (.Attribute o name apos) (e :: r) [] pos) d := .mk fun A S P s E Q st hC hQ => by
  refine wpAny_Call_method hbase (few_ok hp hl) hline F.plainAttrs_str slot hty (h0 A S P s E _ st hC fun v P₁ s₁ g₁ tk₁ i₁ => ⟨typeIs_of i₁, noRef_of i₁, ?_⟩)
  refine callWith_builtin (plain_any hp) (evalArgs_ev hp (st.next g₁ tk₁) (hC.up (Le.refl _) g₁.le) h1 fun vs P₂ s₂ g₂ tk₂ i₂ => ?_)
  exact hc A S P₂ s₂ E Q (v :: vs) ((st.next g₁ tk₁).next g₂ tk₂) (.cons (i₁.mono g₂.le) i₂) fun u P₃ s₃ g₃ i₃ => hQ u P₃ s₃ ((g₁.trans g₂).trans g₃) i₃
theorem cl_find {x y : Str} : Cl W k (.builtin "str.find") [.str x, .str y] (.int (Txt.find x y)) := cl_2s fun A S P s E Q t u st hQ => SC.find (hQ _ P _ (Gr.toks st.p) (.int _ _))
theorem cl_startswith {x y : Str} : Cl W k (.builtin "str.startswith") [.str x, .str y] (.bool (Txt.startswith x y)) := cl_2s fun A S P s E Q t u st hQ => SC.startswith (hQ _ P _ (Gr.refl st.p) (.bool _))
theorem cl_endswith {x y : Str} : Cl W k (.builtin "str.endswith") [.str x, .str y] (.bool (Txt.endswith x y)) := cl_2s fun A S P s E Q t u st hQ => SC.endswith (hQ _ P _ (Gr.refl st.p) (.bool _))
theorem cl_index {x y : Str} (h : (Builtin.Str.occurrences x y 0 x.length 1).isEmpty = false) : Cl W k (.builtin "str.index") [.str x, .str y] (.int (Txt.find x y)) := cl_2s fun A S P s E Q t u st hQ => index_or st.a.1 (fun _ h' => by rw [h] at h'; cases h') (fun _ _ => hQ _ P _ (Gr.toks st.p) (.int _ _))

/-! ### items and slices -/
theorem letGo_str {base : Expr} {x : Str} {t : Tok} {r : Value} : letTemporaryGo base (.str x t) r = pure () := by cases base <;> rfl
theorem sub_slice {A : Around} {s : Shared} {E : Value → Shared → Prop} {prog : Program} {w : World} {value : Expr} {lower upper : Option Expr} {p pos : Pos} {T id : String} {Q : Value → Shared → Prop}
    (hl : typeLookup (.type T) "__getitem__" = pure (some (.builtin id)))
    (h : wpAny (model prog w) A (eval value env) (fun o s₁ => wpAny (model prog w) A (eval (.Slice lower upper none p) env) (fun i s₂ => s₂.TypeIs o T ∧ wpAny (model prog w) A (getItem o i) Q E s₂) E s₁) E s) :
    wpAny (model prog w) A (eval (.Subscript value (.Slice lower upper none p) pos) env) Q E s := by
  rw [eval_Subscript]
  refine wpAny_bind (wpAny_mono h (fun o s₁ h₁ => wpAny_bind (wpAny_holding (wpAny_mono h₁ (fun i s₂ h₂ => wpAny_bind (wpAny_standAt ?_)) fun _ _ x => x))) fun _ _ x => x)
  refine wpAny_bind ?_
  rw [getitemInPython_of_ne h₂.1.not_modules]
  refine wpAny_bind (wpAny_specialOf h₂.1 hl ?_)
  have fin : wpAny (model prog w) A (operate [i, o] (getItem o i)) (fun r s₃ => wpAny (model prog w) A (letTemporaryGo value o r >>= fun _ => pure r) Q E s₃) E s₂ :=
    wpAny_operating (wpAny_mono h₂.2 (fun r s₃ h₃ => wpAny_bind (wpAny_letTemporaryGo (wpAny_pure h₃))) fun _ _ x => x)
  first
    | exact wpAny_pure (wpAny_bind fin)
    | exact wpAny_bind (wpAny_pure (wpAny_bind fin))
    | exact wpAny_bind fin
theorem ev_item_str {value slice : Expr} {pos : Pos} {x : Str} {i : Int} (h1 : Ev W k env Γ Δ value (.str x)) (h2 : Ev W k env Γ Δ slice (.int i)) (hr : fitsSsize i = true) (hlo : -(x.length : Int) ≤ i) (hhi : i < x.length)
    (hs : ∀ (t u : Tok), subscripted slice false (.str x t) (.int i u) = operate [.str x t, .int i u] (getItem (.str x t) (.int i u)) := by intro _ _; with_unfolding_all rfl) : Ev W k env Γ Δ (.Subscript value slice pos) (.str (Txt.item x i)) := .mk fun A S P s E Q st hC hQ =>
  Subscript_ (h1 A S P s E _ st hC fun v P₁ s₁ g₁ tk₁ i₁ => h2 A S P₁ s₁ E _ (st.next g₁ tk₁) (hC.up (Le.refl _) g₁.le) fun u P₂ s₂ g₂ tk₂ i₂ => by
    obtain ⟨t1, rfl⟩ := i₁.strI; obtain ⟨t2, rfl⟩ := i₂.intI
    exact item_str hr hlo hhi (fun _ => hQ _ P₂ _ ((g₁.trans g₂).trans (Gr.toks g₂.inn)) (.str _ _)) (hs _ _) (fun _ => letGo_str))
/-- the index of an item from either end -/
noncomputable def at? (ds : List D) (i : Int) : Option D := if 0 ≤ i then ds[i.toNat]? else if -(ds.length : Int) ≤ i then ds[(i + ds.length).toNat]? else none
theorem ev_item_list {value slice : Expr} {pos : Pos} {ds : List D} {d : D} {i : Int} (h1 : EvL W k env Γ Δ value ds) (h2 : Ev W k env Γ Δ slice (.int i)) (hd : at? ds i = some d) (hb : -2 ^ 62 ≤ i ∧ i < 2 ^ 62 := by decide)
    (hs : ∀ (a : Addr) (u : Tok), subscripted slice false (.ref a) (.int i u) = operate [.ref a, .int i u] (getItem (.ref a) (.int i u)) := by intro _ _; with_unfolding_all rfl) : Ev W k env Γ Δ (.Subscript value slice pos) d := .mk fun A S P s E Q st hC hQ =>
  Subscript_ (h1 A S P s E _ st hC fun a vs n P₁ s₁ g₁ tk₁ q₁ i₁ => h2 A S P₁ s₁ E _ (st.next g₁ tk₁) (hC.up (Le.refl _) g₁.le) fun u P₂ s₂ g₂ tk₂ i₂ => by
    obtain ⟨t2, rfl⟩ := i₂.intI
    have hl : s₂.heap.IsList a vs.toArray := ⟨_, g₂.old _ _ q₁, rfl, n, rfl⟩
    have i₁' := i₁.mono g₂.le
    unfold at? at hd
    split at hd
    · rename_i h0
      obtain ⟨v, hv, hi⟩ := i₁'.get hd
      exact tail_any hl.typeIs F.slot_list_getitem.lookup (wpAny_getItem_list hl h0 (by omega) (by simpa using hv) (hQ _ P₂ _ (g₁.trans g₂) hi)) (hs _ _)
    · rename_i h0
      split at hd
      · rename_i h1'
        obtain ⟨v, hv, hi⟩ := i₁'.get hd
        refine tail_any hl.typeIs F.slot_list_getitem.lookup (wpAny_getItem_list_neg hl (by omega) ?_ (by omega) ?_ (hQ _ P₂ _ (g₁.trans g₂) hi)) (hs _ _)
        · rw [List.size_toArray, i₁'.length]; exact h1'
        · rw [List.size_toArray, i₁'.length]; simpa using hv
      · cases hd)
end
end
section
section
variable {W : Wd} {k : Nat} {env : Env} {Γ : List (Str × D)} {Δ : List (Str × List D)}

/-! ### slices -/
noncomputable def EvO (W : Wd) (k : Nat) (env : Env) (Γ : List (Str × D)) (Δ : List (Str × List D)) (o : Option Expr) (i : Option Int) : Prop :=
  ∀ (A : Around) (S P : Vw) (s : Shared) (E Q : Value → Shared → Prop), St W k A S P s → Cx S P env Γ Δ →
    (∀ (r : Option (Int × Tok)) P' s', Gr P s P' s' → 1 ≤ s'.toks → r.map (·.1) = i → Q (partValue r) s') → wpAny W.M A (evalPart o env) Q E s
theorem evo_none : EvO W k env Γ Δ none none := fun A S P s E Q st hC hQ => wpAny_pure (hQ none P s (Gr.refl st.p) st.tk rfl)
theorem evo_some {e : Expr} {i : Int} (h : Ev W k env Γ Δ e (.int i)) : EvO W k env Γ Δ (some e) (some i) := fun A S P s E Q st hC hQ =>
  h A S P s E Q st hC fun v P' s' g tk x => by obtain ⟨t, rfl⟩ := x.intI; exact hQ (some (i, t)) P' s' g tk rfl
theorem isPart_of (r : Option (Int × Tok)) : IsPart (partValue r) (r.map (·.1)) := by
  cases r with
  | none => exact .none
  | some p => exact .int _ _
theorem post_slice {s : Shared} {x : Str} {t : Tok} {l u : Option (Int × Tok)} {a b : Option Int} {Q : Value → Shared → Prop} (ha : l.map (·.1) = a) (hb : u.map (·.1) = b)
    (h : (Txt.slice x a b).length ≤ sizeLine ∧ ∀ t' k, Q (.str (Txt.slice x a b) t') { s with toks := k }) : (sliceMade x t l u none).post Q s := by
  subst ha hb
  unfold Txt.slice at h
  exact post_val_or_str h
theorem ev_slice_str {value : Expr} {lower upper : Option Expr} {p pos : Pos} {x : Str} {lo hi : Option Int} (h1 : Ev W k env Γ Δ value (.str x)) (h2 : EvO W k env Γ Δ lower lo) (h3 : EvO W k env Γ Δ upper hi) (hsz : x.length ≤ sizeLine) : Ev W k env Γ Δ (.Subscript value (.Slice lower upper none p) pos) (.str (Txt.slice x lo hi)) := .mk fun A S P s E Q st hC hQ =>
  sub_slice F.slot_str_getitem.lookup (h1 A S P s E _ st hC fun v P₁ s₁ g₁ tk₁ i₁ => wpAny_Slice (h2 A S P₁ s₁ E _ (st.next g₁ tk₁) (hC.up (Le.refl _) g₁.le) fun l P₂ s₂ g₂ tk₂ e₂ =>
    h3 A S P₂ s₂ E _ ((st.next g₁ tk₁).next g₂ tk₂) (hC.up (Le.refl _) (g₁.le.trans g₂.le)) fun u P₃ s₃ g₃ tk₃ e₃ => wpAny_pure (by
      obtain ⟨t, rfl⟩ := Is.strI i₁
      refine ⟨rfl, wpAny_getItem_str_slice (l := l) (u := u) (st := none) ⟨_, Heap.get?_push_size _ rfl, rfl, rfl⟩ rfl ?_⟩
      refine post_slice e₂ e₃ ⟨Nat.le_trans (Txt.slice_le x lo hi) hsz, fun t' n => ?_⟩
      exact hQ _ P₃ _ (((g₁.trans g₂).trans g₃).trans (Gr.pushed g₃.inn)) (.str _ _))))
noncomputable def pick {α : Type} (ds : List α) (lo hi : Option Int) : List α := (ds.drop (kms_lo lo ds.length)).take (kms_hi hi ds.length - kms_lo lo ds.length)
theorem evn_slice_list {value : Expr} {lower upper : Option Expr} {p pos : Pos} {ds : List D} {lo hi : Option Int} (h1 : EvL W k env Γ Δ value ds) (h2 : EvO W k env Γ Δ lower lo) (h3 : EvO W k env Γ Δ upper hi) (hsz : ds.length ≤ sizeLine) : EvN W k env Γ Δ (.Subscript value (.Slice lower upper none p) pos) (pick ds lo hi) := .mk fun A S P s E Q st hC hQ =>
  sub_slice F.slot_list_getitem.lookup (h1 A S P s E _ st hC fun a vs n P₁ s₁ g₁ tk₁ q₁ i₁ => wpAny_Slice (h2 A S P₁ s₁ E _ (st.next g₁ tk₁) (hC.up (Le.refl _) g₁.le) fun l P₂ s₂ g₂ tk₂ e₂ =>
    h3 A S P₂ s₂ E _ ((st.next g₁ tk₁).next g₂ tk₂) (hC.up (Le.refl _) (g₁.le.trans g₂.le)) fun u P₃ s₃ g₃ tk₃ e₃ => wpAny_pure (by
      have hl : s₃.heap.IsList a vs.toArray := ⟨_, g₃.old _ _ (g₂.old _ _ q₁), rfl, n, rfl⟩
      have hl' := hl.push { cls := .type "slice", data := .fields #[partValue l, partValue u, .none] }
      refine ⟨Heap.IsList.typeIs (s := { s₃ with heap := s₃.heap.push { cls := .type "slice", data := .fields #[partValue l, partValue u, .none] } }) hl', ?_⟩
      have i₁' := (i₁.mono g₂.le).mono g₃.le
      refine wpAny_getItem_list_slice hl' (Heap.IsSliceOf.new ..) (isPart_of l) (isPart_of u) .none (by simp) ?_ (by rw [List.size_toArray, i₁'.length]; exact hsz)
      rw [kms_pick_eq, e₂, e₃]
      have g4 : Gr P₃ s₃ P₃ { s₃ with heap := s₃.heap.push { cls := .type "slice", data := .fields #[partValue l, partValue u, .none] } } := Gr.pushed g₃.inn
      have g04 := ((g₁.trans g₂).trans g₃).trans g4
      refine hQ _ (kms_pick vs lo hi) 0 P₃ _ (g04.trans (Gr.pushed (tk := s₃.toks) g4.inn)) (none_of_old g04.old (Heap.get?_none_of_le (Nat.le_refl _))) (none_size g4.inn) (Heap.get?_push_size _ rfl) ?_
      unfold kms_pick pick
      rw [i₁'.length]
      exact (i₁'.drop _).take _)))

/-! ### what can be walked over -/
noncomputable def EvI (W : Wd) (k : Nat) (env : Env) (Γ : List (Str × D)) (Δ : List (Str × List D)) (pers : Bool) (e : Expr) (its : List D) : Prop :=
  ∀ (A : Around) (S P : Vw) (s : Shared) (E Q : Value → Shared → Prop), St W k A S P s → Cx S P env Γ Δ →
    (∀ I fp Pv Sx P' s', Gr P s P' s' → 1 ≤ s'.toks → (∀ A' : Around, A'.handled = none → Walks W.prog W.w A' I fp [I] its.length Pv Sx) → (∀ i v, Pv i v → ∃ d, its[i]? = some d ∧ Is P' v d) → Sx 0 s'.heap →
      s.heap.get? I = none → P' I = none → (∀ i h, Sx i h → ∃ o, h.get? I = some o) → (∀ b ∈ fp, b ≠ I → ∃ o, s'.heap.get? b = some o ∧ (pers = true → P' b = some o)) → Q (.ref I) s') →
    wpAny W.M A (eval e env) (fun x s₁ => wpAny W.M A (pyIter x) Q E s₁) E s
theorem gone {h h' : Heap} (k : ∀ b o, h.get? b = some o → h'.get? b = some o) : h.get? h'.objs.size = none := none_of_old k (Heap.get?_none_of_le (Nat.le_refl _))
theorem evi_list {e : Expr} {ds : List D} (h : EvL W k env Γ Δ e ds) : EvI W k env Γ Δ false e ds := fun A S P s E Q st hC hQ =>
  h A S P s E _ st hC fun a vs n P₁ s₁ g₁ tk₁ q₁ i₁ => by
    have hl : s₁.heap.IsList a vs.toArray := ⟨_, q₁, rfl, n, rfl⟩
    have hne : a ≠ s₁.heap.objs.size := Nat.ne_of_lt (Heap.lt_size q₁)
    have hlen : vs.toArray.size = ds.length := by rw [List.size_toArray, i₁.length]
    refine wpAny_pyIter_list hl (hQ s₁.heap.objs.size [s₁.heap.objs.size, a] _ _ P₁ _ (g₁.trans (Gr.pushed (tk := s₁.toks) g₁.inn)) tk₁ (fun A' hA => hlen ▸ Walks.list hA s₁.heap.objs.size a hne vs.toArray) ?_
      ⟨⟨_, Heap.get?_push_size _ rfl, rfl, rfl⟩, hl.push _⟩ (gone g₁.old) (none_size g₁.inn) (fun i h x => by obtain ⟨o, q, _⟩ := x.1; exact ⟨o, q⟩) ?_)
    · intro i v hv
      exact i₁.getV (by simpa using hv)
    · intro b hb hne'
      rcases List.mem_cons.mp hb with rfl | hb
      · exact absurd rfl hne'
      · rw [List.mem_singleton.mp hb]
        exact ⟨_, Heap.get?_push_of_some _ q₁, fun e => by cases e⟩
theorem evi_listP {e : Expr} {ds : List D} (h : Ev W k env Γ Δ e (.list ds)) : EvI W k env Γ Δ true e ds := fun A S P s E Q st hC hQ =>
  h A S P s E _ st hC fun v P₁ s₁ g₁ tk₁ i₁ => by
    obtain ⟨a, vs, n, rfl, q₀, i₁⟩ := i₁.listI
    have q₁ := g₁.inn _ _ q₀
    have hl : s₁.heap.IsList a vs.toArray := ⟨_, q₁, rfl, n, rfl⟩
    have hne : a ≠ s₁.heap.objs.size := Nat.ne_of_lt (Heap.lt_size q₁)
    have hlen : vs.toArray.size = ds.length := by rw [List.size_toArray, i₁.length]
    refine wpAny_pyIter_list hl (hQ s₁.heap.objs.size [s₁.heap.objs.size, a] _ _ P₁ _ (g₁.trans (Gr.pushed (tk := s₁.toks) g₁.inn)) tk₁ (fun A' hA => hlen ▸ Walks.list hA s₁.heap.objs.size a hne vs.toArray) ?_
      ⟨⟨_, Heap.get?_push_size _ rfl, rfl, rfl⟩, hl.push _⟩ (gone g₁.old) (none_size g₁.inn) (fun i h x => by obtain ⟨o, q, _⟩ := x.1; exact ⟨o, q⟩) ?_)
    · intro i v hv
      exact i₁.getV (by simpa using hv)
    · intro b hb hne'
      rcases List.mem_cons.mp hb with rfl | hb
      · exact absurd rfl hne'
      · rw [List.mem_singleton.mp hb]
        exact ⟨_, Heap.get?_push_of_some _ q₁, fun _ => q₀⟩
noncomputable def chars (x : Str) : List D := x.cps.toList.map fun c => D.str ⟨#[c]⟩
theorem evi_str {e : Expr} {x : Str} (h : Ev W k env Γ Δ e (.str x)) : EvI W k env Γ Δ true e (chars x) := fun A S P s E Q st hC hQ =>
  h A S P s E _ st hC fun v P₁ s₁ g₁ tk₁ i₁ => by
    obtain ⟨t, rfl⟩ := Is.strI i₁
    have hlen : x.cps.size = (chars x).length := by simp [chars]
    have hP : ∀ (P' : Vw) i v, SignAt x i v → ∃ d, (chars x)[i]? = some d ∧ Is P' v d := by
      rintro P' i v ⟨c, u, hc, rfl⟩
      exact ⟨.str ⟨#[c]⟩, by simp [chars, hc], .str _ _⟩
    cases ha : x.cps.all (· < 128)
    · exact wpAny_pyIter_wide ha (hQ s₁.heap.objs.size [s₁.heap.objs.size] _ _ P₁ _ (g₁.trans (Gr.pushed (tk := s₁.toks) g₁.inn)) tk₁ (fun A' hA => hlen ▸ Walks.strWide hA _ x t) (hP P₁) ⟨_, Heap.get?_push_size _ rfl, rfl, rfl⟩ (gone g₁.old) (none_size g₁.inn)
        (fun i h y => by obtain ⟨o, q, _⟩ := y; exact ⟨o, q⟩) fun b hb hne => absurd (List.mem_singleton.mp hb) hne)
    · exact wpAny_pyIter_ascii ha (hQ s₁.heap.objs.size [s₁.heap.objs.size] _ _ P₁ _ (g₁.trans (Gr.pushed (tk := s₁.toks) g₁.inn)) tk₁ (fun A' hA => hlen ▸ Walks.strAscii hA _ x t) (hP P₁) ⟨_, Heap.get?_push_size _ rfl, rfl, rfl⟩ (gone g₁.old) (none_size g₁.inn)
        (fun i h y => by obtain ⟨o, q, _⟩ := y; exact ⟨o, q⟩) fun b hb hne => absurd (List.mem_singleton.mp hb) hne)
/-- range(a, a + n) -/
noncomputable def rngs (a : Int) (n : Nat) : List D := (List.range n).map fun (i : Nat) => D.int (a + (i : Int))
theorem range_go {A : Around} {S P : Vw} {s : Shared} {E Q : Value → Shared → Prop} {r : Addr} {a b : Int} {t u v : Tok} {n : Nat} (st : St W k A S P s) (hr : IsRange s.heap r a b 1 t u v) (hsm : Builtin.Range.small a b 1 = true) (hn : Builtin.Range.rangeSize a b 1 = ((n : Nat) : Int))
    (hQ : ∀ I fp Pv Sx P' s', Gr P s P' s' → 1 ≤ s'.toks → (∀ A' : Around, A'.handled = none → Walks W.prog W.w A' I fp [I] (rngs a n).length Pv Sx) → (∀ i v, Pv i v → ∃ d, (rngs a n)[i]? = some d ∧ Is P' v d) → Sx 0 s'.heap →
      s.heap.get? I = none → P' I = none → (∀ i h, Sx i h → ∃ o, h.get? I = some o) → (∀ b ∈ fp, b ≠ I → ∃ o, s'.heap.get? b = some o ∧ (true = true → P' b = some o)) → Q (.ref I) s') : wpAny W.M A (pyIter (.ref r)) Q E s := by
  have hlen : (rngs a n).length = n := by simp [rngs]
  refine wpAny_pyIter_range hr hsm (hQ s.heap.objs.size [s.heap.objs.size] (fun i v => i < n ∧ ∃ t, v = .int (a + (i : Int)) t) (fun i h => IsRangeIter h s.heap.objs.size (a + (i : Nat) * 1) ((n : Int) - (i : Nat)) 1) P _ (Gr.pushed (tk := s.toks) st.p) st.tk (fun A' hA => ?_) ?_
    (by show IsRangeIter _ _ _ _ _; rw [hn]; simpa using Heap.get?_push_size _ rfl) (Heap.get?_none_of_le (Nat.le_refl _)) (none_size st.p) (fun i h x => ⟨_, x⟩) fun b hb hne => absurd (List.mem_singleton.mp hb) hne)
  · rw [hlen]
    have W' : Walks W.prog W.w A' s.heap.objs.size [s.heap.objs.size] [s.heap.objs.size] n (fun i v => i < n ∧ ∃ t, v = .int (a + i * 1) t) (fun i h => IsRangeIter h s.heap.objs.size (a + (i : Nat) * 1) ((n : Int) - (i : Nat)) 1) := (Walks.range hA _ a 1 n).bound
    simpa only [Int.mul_one] using W'
  · rintro i v ⟨hi, t, rfl⟩
    exact ⟨.int (a + (i : Int)), by simp [rngs, hi], .int _ _⟩
end
end
section
section
variable {W : Wd} {k : Nat} {env : Env} {Γ : List (Str × D)} {Δ : List (Str × List D)}

/-! ### comprehensions -/
structure Lp (P₂ : Vw) (s₂ : Shared) (I C T : Addr) (P' : Vw) (s' : Shared) : Prop where
  le : Le P₂ P'
  inn : In P' s'.heap
  old : ∀ b o, b ≠ I → s₂.heap.get? b = some o → s'.heap.get? b = some o
  new : ∀ b o, P' b = some o → P₂ b = some o ∨ s₂.heap.get? b = none
  hI : P' I = none ∧ ∃ o, s'.heap.get? I = some o
  hC : P' C = none ∧ ∃ o, s'.heap.get? C = some o
  hT : P' T = none ∧ ∃ o, s'.heap.get? T = some o
  gens : GG s₂.gens s'.gens
  drawn : s'.drawn = s₂.drawn
  os : s'.os = s₂.os
theorem gr_none {P P' : Vw} {s s' : Shared} (g : Gr P s P' s') {b : Addr} (h : P b = none ∧ ∃ o, s.heap.get? b = some o) : P' b = none ∧ ∃ o, s'.heap.get? b = some o := by
  obtain ⟨h1, o, ho⟩ := h
  refine ⟨?_, o, g.old _ _ ho⟩
  cases q : P' b with
  | none => rfl
  | some o' =>
    rcases g.new b o' q with z | z
    · rw [h1] at z; cases z
    · rw [ho] at z; cases z
theorem Lp.gr {P₂ P' P'' : Vw} {s₂ s' s'' : Shared} {I C T : Addr} (x : Lp P₂ s₂ I C T P' s') (g : Gr P' s' P'' s'') : Lp P₂ s₂ I C T P'' s'' where
  le := x.le.trans g.le
  inn := g.inn
  old := fun b o n e => g.old b o (x.old b o n e)
  new := fun b o e => (g.new b o e).elim (x.new b o) fun z => by
    cases q : s₂.heap.get? b with
    | none => exact .inr rfl
    | some o' =>
      exfalso
      by_cases hb : b = I
      · subst hb
        obtain ⟨_, oI, hI⟩ := x.hI
        rw [hI] at z; cases z
      · rw [x.old b o' hb q] at z; cases z
  hI := gr_none g x.hI
  hC := gr_none g x.hC
  hT := gr_none g x.hT
  gens := x.gens.trans g.gens
  drawn := g.drawn.trans x.drawn
  os := g.os.trans x.os
theorem Lp.set {P₂ P' : Vw} {s₂ s' : Shared} {I C T a : Addr} {h' : Heap} {tk : Nat} (x : Lp P₂ s₂ I C T P' s') (ha : P' a = none) (hn : a = I ∨ s₂.heap.get? a = none) (hk : ∀ b o, b ≠ a → s'.heap.get? b = some o → h'.get? b = some o) (he : ∃ o, h'.get? a = some o) : Lp P₂ s₂ I C T P' { s' with heap := h', toks := tk } where
  le := x.le
  inn := fun b o e => hk b o (fun q => by rw [q, ha] at e; cases e) (x.inn b o e)
  old := fun b o n e => hk b o (fun q => by
    rcases hn with z | z
    · exact n (q.trans z)
    · rw [q, z] at e; cases e) (x.old b o n e)
  new := x.new
  hI := ⟨x.hI.1, by
    obtain ⟨_, o, q⟩ := x.hI
    by_cases e : I = a
    · rw [e]; exact he
    · exact ⟨o, hk _ _ e q⟩⟩
  hC := ⟨x.hC.1, by
    obtain ⟨_, o, q⟩ := x.hC
    by_cases e : C = a
    · rw [e]; exact he
    · exact ⟨o, hk _ _ e q⟩⟩
  hT := ⟨x.hT.1, by
    obtain ⟨_, o, q⟩ := x.hT
    by_cases e : T = a
    · rw [e]; exact he
    · exact ⟨o, hk _ _ e q⟩⟩
  gens := x.gens
  drawn := x.drawn
  os := x.os

theorem forIn_false {α : Type} (l : List α) (f : α → Bool → Sem (ForInStep Bool)) (h : ∀ x, f x false = pure (.yield false)) : forIn l false f = pure false := by
  induction l with
  | nil => rfl
  | cons x l ih => rw [List.forIn_cons, h, pure_bind]; exact ih
theorem wp_tests {A : Around} {S P : Vw} {s : Shared} {E : Value → Shared → Prop} {Q : Bool → Shared → Prop} {ifs : List Expr} {b : Bool} (st : St W k A S P s) (hC : Cx S P env Γ Δ) (h : TsAnd W k env Γ Δ ifs b) (hQ : ∀ P' s', Gr P s P' s' → 1 ≤ s'.toks → Q b s') :
    wpAny W.M A (forIn ifs true fun c r => if r = true then do let ok ← isTrue c env (eval c env); pure (ForInStep.yield ok) else pure (ForInStep.yield r)) Q E s := by
  induction h generalizing P s with
  | nil => rw [List.forIn_nil]; exact wpAny_pure (hQ P s (Gr.refl st.p) st.tk)
  | tt h1 _ ih =>
    rw [List.forIn_cons, if_pos rfl]
    refine wpAny_bind (wpAny_bind (h1 A S P s E _ st hC fun P₁ s₁ g₁ tk₁ => wpAny_pure ?_))
    exact ih (st.next g₁ tk₁) (hC.up (Le.refl _) g₁.le) fun P₂ s₂ g₂ tk₂ => hQ P₂ s₂ (g₁.trans g₂) tk₂
  | ff h1 =>
    rw [List.forIn_cons, if_pos rfl]
    refine wpAny_bind (wpAny_bind (h1 A S P s E _ st hC fun P₁ s₁ g₁ tk₁ => wpAny_pure ?_))
    refine wpAny_of_eq (forIn_false _ _ fun x => ?_) (hQ P₁ s₁ g₁ tk₁)
    rw [if_neg Bool.false_ne_true]

noncomputable def CompItem (W : Wd) (k : Nat) (env : Env) (Γ : List (Str × D)) (Δ : List (Str × List D)) (ifs : List Expr) (elt : Expr) : Option D → Prop
  | some d => TsAnd W k env Γ Δ ifs true ∧ Ev W k env Γ Δ elt d
  | none => TsAnd W k env Γ Δ ifs false

/-- names that a comprehension reads through its cells -/
noncomputable def Thru (env : Env) (scope : Scope) (cl : List (Str × Addr)) : List Str → Prop
  | [] => True
  | y :: r => ((env.kindOf y = some .cell ∨ env.kindOf y = some .free) ∧ ((compEnvC scope cl 0 env).kindOf y = some .cell ∨ (compEnvC scope cl 0 env).kindOf y = some .free) ∧ cl.lookup y = env.cells.lookup y) ∧ Thru env scope cl r
theorem Thru.mem {scope : Scope} {cl : List (Str × Addr)} : ∀ {l : List Str}, Thru env scope cl l → ∀ y ∈ l, (env.kindOf y = some .cell ∨ env.kindOf y = some .free) ∧ ((compEnvC scope cl 0 env).kindOf y = some .cell ∨ (compEnvC scope cl 0 env).kindOf y = some .free) ∧ cl.lookup y = env.cells.lookup y
  | _ :: _, h, y, hm => by
    rcases List.mem_cons.mp hm with rfl | m
    · exact h.1
    · exact Thru.mem h.2 y m
theorem NameOk.thru {S S' : Vw} {scope : Scope} {cl : List (Str × Addr)} {C : Addr} {y : Str} {v : Value} (n : NameOk S env y v) (h : (env.kindOf y = some .cell ∨ env.kindOf y = some .free) ∧ ((compEnvC scope cl 0 env).kindOf y = some .cell ∨ (compEnvC scope cl 0 env).kindOf y = some .free) ∧ cl.lookup y = env.cells.lookup y)
    (hS : Le S S') : NameOk S' (compEnvC scope cl C env) y v := by
  cases n with
  | loc a b c d => rcases h.1 with e | e <;> rw [a] at e <;> cases e
  | cel a b c d => exact .cel h.2.1 (h.2.2.trans b) (hS _ _ c) d

theorem filterMap_take_succ {α β : Type} (f : α → Option β) (l : List α) (i : Nat) (a : α) (h : l[i]? = some a) : (l.take (i + 1)).filterMap f = (l.take i).filterMap f ++ (f a).toList := by
  rw [List.take_add_one, h, List.filterMap_append]
  cases q : f a <;> simp [q]

theorem Gr.but {P P' : Vw} {s s' : Shared} {C : Addr} {h' : Heap} (g : Gr P s P' s') (h0 : s.heap.get? C = none) (h1 : P' C = none) (hs : Heap.SameBut C s'.heap h') : Gr P s P' { s' with heap := h' } :=
  ⟨g.le, fun b o e => hs.extBut b o (fun q => by rw [q, h1] at e; cases e) (g.inn b o e), fun b o e => hs.extBut b o (fun q => by rw [q, h0] at e; cases e) (g.old b o e), g.new, g.gens, g.drawn, g.os⟩
theorem comp_core {elt iter : Expr} {x : Str} {px : Pos} {ifs : List Expr} {scope : Scope} {pos : Pos} {cl : List (Str × Addr)} {its : List D} {res : List (Option D)} {Γ' : List (Str × D)} {Δ' : List (Str × List D)} {b : Bool}
    {A : Around} {S P : Vw} {s : Shared} {E : Value → Shared → Prop} {RR : Value → Addr → Result → Shared → Prop} (st : St W k A S P s) (hC : Cx S P env Γ Δ)
    (hI : EvI W k env Γ Δ b iter its) (hlen : res.length = its.length)
    (helt : ∀ (C : Addr) (i : Nat) (d : D) (r : Option D), its[i]? = some d → res[i]? = some r → CompItem W k (compEnvC scope cl C env) ((x, d) :: Γ') Δ' ifs elt r)
    (hΓ : ∀ p ∈ Γ', p ∈ Γ) (hΔ : ∀ p ∈ Δ', p ∈ Δ) (hthru : Thru env scope cl (Γ'.map (·.1) ++ Δ'.map (·.1)))
    (hcell : ∀ y ∈ scope.names, y.2 ≠ .cell) (hkind : scope.kind = .function) (hx : scope.names.lookup x = some .local) (hsz : its.length ≤ sizeLine)
    (hRR : ∀ T C ys P' s', Gr P s P' s' → 1 ≤ s'.toks → s.heap.get? T = none → P' T = none → s'.heap.get? T = some (LCg.lst ys) → IsAll P' ys (res.filterMap id) → s.heap.get? C = none → P' C = none → C ≠ T → (∃ m, s'.heap.Ns C m) → RR (.ref T) C (.ok .next) s') :
    wpAny W.M A (eval iter env) (fun x₁ s₁ => wpAny W.M A (pyIter x₁) (fun it s₂ => wpAny W.M A (newList []) (fun acc s₃ => wpAny W.M A (newFunctionEnv scope env.globals cl [] env.qual none .none (some env)) (fun cenv s₄ =>
      codeAny W.M A (.compStart (.ListComp elt [⟨.Name x px, iter, ifs, 0⟩] scope pos) 0 it acc { cenv with scope := relabel scope env }) (RR acc cenv.locals) s₄) E s₃) E s₂) E s₁) E s := by
  refine hI A S P s E _ st hC fun I fp Pv Sx P₂ s₂ g₂ tk₂ hW hP hst₂ hIs hI0 hIx hfp => ?_
  have W' := hW A st.a.1
  have p₂ := g₂.inn
  obtain ⟨oI, hoI⟩ := hIx _ _ hst₂
  have hIlt : I < s₂.heap.objs.size := Heap.lt_size hoI
  refine wpAny_newObj_type (wpAny_newFunctionEnv hcell (by intro y hy; simp at hy) (fun h₁ hns₁ hsb₁ => ?_) hkind)
  dsimp only at hns₁ hsb₁ ⊢
  generalize hH2 : s₂.heap.push { cls := .type "list", dict := none, data := .seq ([] : List Value).toArray } = H2 at hns₁ hsb₁ ⊢
  have hCs : H2.objs.size = s₂.heap.objs.size + 1 := by rw [← hH2, Heap.size_push]
  have hDC : s₂.heap.objs.size ≠ H2.objs.size := by rw [hCs]; exact Nat.ne_of_lt (Nat.lt_succ_self _)
  have below : ∀ b, b < s₂.heap.objs.size → b ≠ H2.objs.size ∧ b ≠ s₂.heap.objs.size := fun b hb => ⟨by rw [hCs]; exact Nat.ne_of_lt (Nat.lt_succ_of_lt hb), Nat.ne_of_lt hb⟩
  have old : ∀ b o, s₂.heap.get? b = some o → h₁.get? b = some o := fun b o e => hsb₁.extBut b o (below b (Heap.lt_size e)).1 (Heap.get?_push_of_some _ (hH2 ▸ Heap.get?_push_of_some _ e))
  have hacc : h₁.get? s₂.heap.objs.size = some (LCg.lst []) := hsb₁.extBut _ _ hDC (Heap.get?_push_of_some _ (hH2 ▸ Heap.get?_push_size _ rfl))
  have fresh : ∀ a, s₂.heap.objs.size ≤ a → s₂.heap.get? a = none := fun a ha => Heap.get?_none_of_le ha
  have freshP : ∀ a, s₂.heap.objs.size ≤ a → P₂ a = none := fun a ha => by
    cases q : P₂ a with
    | none => rfl
    | some o => have := p₂ _ _ q; rw [fresh a ha] at this; cases this
  generalize hT : s₂.heap.objs.size = T at *
  generalize hCC : H2.objs.size = C at *
  have hIC : I ≠ C := (below I hIlt).1
  have hIT : I ≠ T := (below I hIlt).2
  have freshT : s₂.heap.get? T = none := fresh T (Nat.le_refl _)
  have freshC : s₂.heap.get? C = none := fresh C (by rw [hCs]; exact Nat.le_succ _)
  have hTf : T ∉ fp := fun hm => by
    obtain ⟨o, q, _⟩ := hfp T hm (Ne.symm hIT)
    rw [freshT] at q; cases q
  have hCf : C ∉ fp := fun hm => by
    obtain ⟨o, q, _⟩ := hfp C hm (Ne.symm hIC)
    rw [freshC] at q; cases q
  have hst₁ : Sx 0 h₁ := W'.frame _ _ _ hst₂ fun b _ o e => old b o e
  -- the state of the loop
  have L₀ : ∀ tk, Lp P₂ s₂ I C T P₂ { s₂ with heap := h₁, toks := tk } := fun tk =>
    { le := Le.refl _, inn := fun b o e => old b o (p₂ b o e), old := fun b o _ e => old b o e, new := fun b o e => .inl e, hI := ⟨hI0, oI, old _ _ hoI⟩,
      hC := ⟨freshP C (by rw [hCs]; exact Nat.le_succ _), by obtain ⟨o, _, _, q, _⟩ := hns₁; exact ⟨o, q⟩⟩, hT := ⟨freshP T (Nat.le_refl _), _, hacc⟩, gens := GG.refl _, drawn := rfl, os := rfl }
  have loop : ∀ s₃ : Shared, s₃ = { s₂ with heap := h₁, toks := s₂.toks + ([] : List (Str × Value)).length } →
      codeAny W.M A (.compLoop (.ListComp elt [⟨.Name x px, iter, ifs, 0⟩] scope pos) 0 (.ref I) (.ref T) (compEnvC scope cl C env)) (RR (.ref T) C) s₃ := by
    rintro s₃ rfl
    refine codeAny_compLoop_tests
      (fun j s' => ∃ i ys m' P', i ≤ its.length ∧ j = its.length + 1 - i ∧ Sx i s'.heap ∧ s'.heap.Ns C m' ∧ s'.heap.get? T = some (LCg.lst ys) ∧ IsAll P' ys ((res.take i).filterMap id) ∧ Lp P₂ s₂ I C T P' s' ∧ 1 ≤ s'.toks) ?_ (its.length + 1)
      ⟨0, [], _, P₂, Nat.zero_le _, rfl, hst₁, hns₁, hacc, .nil, L₀ _, Nat.le_trans tk₂ (Nat.le_add_right _ _)⟩
    rintro j s' ⟨i, ys, m', P', hi, rfl, hst', hn', hacc', hys, L', tk'⟩
    by_cases hlt : i < its.length
    · refine wp_tk tk' (W'.item i s' _ _ hlt hst' fun v h₂ tk₂' hPv hst₂' hk₂ tkv => ?_)
      obtain ⟨d, hd, hid⟩ := hP i v hPv
      obtain ⟨r, hr⟩ : ∃ r, res[i]? = some r := ⟨res[i]'(by rw [hlen]; exact hlt), by rw [List.getElem?_eq_getElem]⟩
      have L₂ : Lp P₂ s₂ I C T P' { s' with heap := h₂, toks := tk₂' } := L'.set L'.hI.1 (.inl rfl) (fun b o n e => hk₂ b o (by simpa using n) e) (hIx _ _ hst₂')
      refine wpAny_assign_Name (wpAny_storeName_local (lookup_relabel_local hx) (hn'.at' fun o e => hk₂ _ o (by simpa using Ne.symm hIC) e) (fun h₃ hn₃ hs₃ => ?_) (by simp [compEnvC, relabel, hkind]))
      have L₃ : Lp P₂ s₂ I C T P' { s' with heap := h₃, toks := tk₂' + 1 } := L₂.set L'.hC.1 (.inr freshC) (fun b o n e => hs₃.extBut b o n e) (by obtain ⟨o, _, _, q, _⟩ := hn₃; exact ⟨o, q⟩)
      have hst₃ : Sx (i + 1) h₃ := W'.frame _ _ _ hst₂' fun b hb o e => hs₃.extBut b o (fun q => hCf (by have q' : b = C := q; rw [← q']; exact hb)) e
      have hacc₃ : h₃.get? T = some (LCg.lst ys) := hs₃.extBut _ _ hDC (hk₂ _ _ (by simpa using Ne.symm hIT) hacc')
      obtain ⟨oC, hoC, nsC⟩ := LCg.ns_obj hn₃
      have upS : Le S (fun b => h₃.get? b) := fun b o e => L₃.old b o (fun q => by have := st.sv _ _ e; rw [q, hIs] at this; cases this) (g₂.old _ _ (st.sv _ _ e))
      have st₃ : St W k A (fun b => h₃.get? b) P' { s' with heap := h₃, toks := tk₂' + 1 } := ⟨st.a, (st.b.up g₂.le).up L₃.le, fun b o e => e, L₃.inn, Nat.le_trans tkv (Nat.le_succ _), fun p hp => (st.rw p hp).imp fun o hh => ⟨upS _ _ hh.1, (hh.2.mono g₂.le).mono L₃.le⟩⟩
      have C₃ : Cx (fun b => h₃.get? b) P' (compEnvC scope cl C env) ((x, d) :: Γ') Δ' := by
        refine ⟨by simp [compEnvC, relabel, hkind], hC.gl, hC.bi, fun p hp => ?_, fun p hp => ?_⟩
        · rcases List.mem_cons.mp hp with rfl | hp
          · exact ⟨v, .loc (lookup_relabel_local hx) hoC nsC (by simp), hid.mono L₃.le⟩
          · obtain ⟨u, n, q⟩ := hC.vars p (hΓ p hp)
            exact ⟨u, n.thru (hthru.mem p.1 (List.mem_append.mpr (.inl (List.mem_map_of_mem hp)))) upS, (q.mono g₂.le).mono L₃.le⟩
        · obtain ⟨a, vs, n, nm, q, r⟩ := hC.muts p (hΔ p hp)
          exact ⟨a, vs, n, nm.thru (hthru.mem p.1 (List.mem_append.mpr (.inr (List.mem_map_of_mem hp)))) upS, upS _ _ q, (r.mono g₂.le).mono L₃.le⟩
      have hit := helt C i d r hd hr
      have hfm := filterMap_take_succ id res i r hr
      cases r with
      | none =>
        refine wp_tests st₃ C₃ hit fun P₄ s₄ g₄ tk₄ => ?_
        rw [if_neg Bool.false_ne_true]
        have L₄ := L₃.gr g₄
        refine ⟨its.length + 1 - (i + 1), ar_step hlt, i + 1, ys, _, P₄, hlt, rfl, W'.frame _ _ _ hst₃ fun b _ o e => g₄.old b o e, hn₃.keeps g₄.old, g₄.old _ _ hacc₃, ?_, L₄, tk₄⟩
        rw [hfm]
        simpa using hys.mono g₄.le
      | some d' =>
        refine wp_tests st₃ C₃ hit.1 fun P₄ s₄ g₄ tk₄ => ?_
        rw [if_pos rfl]
        have st₄ : St W k A (fun b => h₃.get? b) P₄ s₄ := st₃.next g₄ tk₄
        refine hit.2 A (fun b => h₃.get? b) P₄ s₄ _ _ st₄ (C₃.up (Le.refl _) g₄.le) fun y P₅ s₅ g₅ tk₅ i₅ => ?_
        have g45 := g₄.trans g₅
        have L₅ := L₃.gr g45
        have hacc₅ : s₅.heap.get? T = some (LCg.lst ys) := g45.old _ _ hacc₃
        have hyl : ys.length ≤ i := by
          have e1 := hys.length
          have e2 := List.length_filterMap_le id (res.take i)
          rw [e1]
          exact Nat.le_trans e2 (by rw [List.length_take]; exact Nat.min_le_left _ _)
        refine append_at (hsz := by show ys.toArray.size ≤ sizeLine; exact ar_le3 hyl hlt hsz) hacc₅ fun h₆ hs₆ hD₆ => ?_
        have L₆ : Lp P₂ s₂ I C T P₅ { s₅ with heap := h₆, toks := s₅.toks } := L₅.set L₅.hT.1 (.inr freshT) (fun b o n e => hs₆.extBut b o n e) ⟨_, hD₆⟩
        refine ⟨its.length + 1 - (i + 1), ar_step hlt, i + 1, ys ++ [y], _, P₅, hlt, rfl, ?_, (hn₃.keeps g45.old).sameBut hs₆ (Ne.symm hDC), hD₆.trans (congrArg some (LCg.lst_snoc ys y)), ?_, L₆, tk₅⟩
        · exact W'.frame _ _ h₆ hst₃ fun b hb o e => hs₆.extBut b o (fun q => hTf (q ▸ hb)) (g45.old b o e)
        · rw [hfm]
          exact ((hys.mono g₄.le).mono g₅.le).append (by simpa using IsAll.cons i₅ .nil)
    · obtain rfl : i = its.length := Nat.le_antisymm hi (Nat.not_lt.mp hlt)
      refine wp_tk tk' (W'.done s' _ _ hst' fun h₂ tk₂' hk₂ tkd => ?_)
      have hT' : h₂.get? T = some (LCg.lst ys) := hk₂ _ _ (by simpa using Ne.symm hIT) hacc'
      have up : ∀ b o, b ≠ I → s'.heap.get? b = some o → h₂.get? b = some o := fun b o n1 e => hk₂ b o (by simpa using n1) e
      have hf : (res.take its.length).filterMap id = res.filterMap id := by rw [← hlen, List.take_length]
      refine hRR T C ys P' _ ⟨g₂.le.trans L'.le, fun b o e => ?_, fun b o e => ?_, fun b o e => ?_, g₂.gens.trans L'.gens, L'.drawn.trans g₂.drawn, L'.os.trans g₂.os⟩ tkd (none_of_old g₂.old freshT) L'.hT.1 hT' ?_ (none_of_old g₂.old freshC) L'.hC.1 (Ne.symm hDC)
        ⟨m', hn'.at' fun o e => hk₂ _ o (by simpa using Ne.symm hIC) e⟩
      · exact up b o (fun q => by rw [q, L'.hI.1] at e; cases e) (L'.inn _ _ e)
      · have n1 : b ≠ I := fun q => by rw [q, hIs] at e; cases e
        exact up b o n1 (L'.old b o n1 (g₂.old _ _ e))
      · rcases L'.new b o e with z | z
        · exact g₂.new b o z
        · exact .inr (none_of_old g₂.old z)
      · rw [← hf]
        exact hys
  exact codeAny_compStart_list (loop _ rfl) (W'.self 0 _ _ _ hst₁ (loop _ rfl))
theorem evn_comp {elt iter : Expr} {x : Str} {px : Pos} {ifs : List Expr} {scope : Scope} {pos : Pos} {cl : List (Str × Addr)} {its : List D} {res : List (Option D)} {Γ' : List (Str × D)} {Δ' : List (Str × List D)} {b : Bool}
    (hI : EvI W k env Γ Δ b iter its) (hlen : res.length = its.length)
    (helt : ∀ (C : Addr) (i : Nat) (d : D) (r : Option D), its[i]? = some d → res[i]? = some r → CompItem W k (compEnvC scope cl C env) ((x, d) :: Γ') Δ' ifs elt r)
    (hΓ : ∀ p ∈ Γ', p ∈ Γ) (hΔ : ∀ p ∈ Δ', p ∈ Δ) (hthru : Thru env scope cl (Γ'.map (·.1) ++ Δ'.map (·.1)))
    (hclos : closureFor scope env = pure cl) (hcell : ∀ y ∈ scope.names, y.2 ≠ .cell) (hkind : scope.kind = .function)
    (hnames : ∀ y ∈ scope.names, y.2 = .local → scope.names.lookup y.1 = some .local) (hx : scope.names.lookup x = some .local)
    (hsz : its.length ≤ sizeLine)
    (hs : ∀ v, foldedSetIterable iter env v = pure v := by intro _; rfl) :
    EvN W k env Γ Δ (.ListComp elt [⟨.Name x px, iter, ifs, 0⟩] scope pos) (res.filterMap id) := .mk fun A S P s E Q st hC hQ => by
  rw [eval_ListComp]
  refine wpAny_comprehension_free (use := none) rfl hs hclos hkind hnames ?_
  refine comp_core st hC hI hlen helt hΓ hΔ hthru hcell hkind hx hsz fun T C ys P' s' g tk h0 h1 h2 hi c0 c1 cT hm => ?_
  obtain ⟨m', hn'⟩ := hm
  exact ⟨m', hn', fun h' hs' => hQ T ys ys.length P' _ (g.but c0 c1 hs') h0 h1 (hs'.extBut _ _ (Ne.symm cT) h2) hi⟩
end
end
section
/-! ### a frame at work -/
noncomputable def lookN (env : Env) (m cv : Str → Option Value) (x : Str) : Option Value := match env.kindOf x with
  | some .local => m x
  | some .cell => if (env.cells.lookup x).isSome then cv x else none
  | _ => none
noncomputable def ownOf (env : Env) (Δ : List (Str × List D)) (ad : Str → Addr) (Mx : List (Addr × MO)) : List Addr := env.locals :: (env.cells.map (·.2) ++ (Δ.map (fun p => ad p.1) ++ Mx.map (·.1)))
structure AtX (env : Env) (Γ : List (Str × D)) (Δ : List (Str × List D)) (Mx : List (Addr × MO)) (H P : Vw) (m cv : Str → Option Value) (ad : Str → Addr) (h : Heap) : Prop where
  ns : h.Ns env.locals m
  cells : ∀ p ∈ env.cells, ∃ o, h.get? p.2 = some o ∧ o.data = .cell (cv p.1)
  vars : ∀ p ∈ Γ, ∃ v, lookN env m cv p.1 = some v ∧ Is P v p.2
  muts : ∀ p ∈ Δ, ∃ vs n, lookN env m cv p.1 = some (.ref (ad p.1)) ∧ h.get? (ad p.1) = some (listOf vs.toArray n) ∧ IsAll P vs p.2
  raw : ∀ p ∈ Mx, ∃ o, h.get? p.1 = some o ∧ MIs P o p.2
  nd : (ownOf env Δ ad Mx).Nodup
  cnd : (env.cells.map (·.1)).Nodup
  offP : ∀ b ∈ ownOf env Δ ad Mx, P b = none
  offH : ∀ b ∈ ownOf env Δ ad Mx, H b = none
structure At (W : Wd) (k : Nat) (A : Around) (env : Env) (s₀ : Shared) (P₀ H : Vw) (Γ : List (Str × D)) (Δ : List (Str × List D)) (Mx : List (Addr × MO)) (P : Vw) (s : Shared) : Prop where
  a : AOk k A
  b : W.B P
  tk : 1 ≤ s.toks
  fn : env.scope.kind = .function
  gl : env.globals = mainGlobals
  bi : env.builtins = builtinsNs
  le : Le P₀ P
  inn : In P s.heap
  hin : In H s.heap
  new : ∀ b o, P b = some o → P₀ b = some o ∨ s₀.heap.get? b = none
  newH : ∀ b o, P b = some o → P₀ b = some o ∨ H b = none
  ext : ∀ b o, s₀.heap.get? b = some o → ∃ o', s.heap.get? b = some o'
  mnew : ∃ m cv ad, AtX env Γ Δ Mx H P m cv ad s.heap ∧ ∀ p ∈ Δ, s₀.heap.get? (ad p.1) = none
  gens : GG s₀.gens s.gens
  drawn : s.drawn = s₀.drawn
  os : s.os = s₀.os

section
variable {W : Wd} {k : Nat} {A : Around} {env : Env} {s₀ : Shared} {P₀ H : Vw} {Γ : List (Str × D)} {Δ : List (Str × List D)} {Mx : List (Addr × MO)} {P : Vw} {s : Shared}

theorem nodup_inj {α : Type} {β : Type} {f : α → β} : ∀ {l : List α}, (l.map f).Nodup → ∀ {a b : α}, a ∈ l → b ∈ l → f a = f b → a = b
  | x :: r, n, a, b, ha, hb, e => by
    have n' := List.nodup_cons.mp n
    rcases List.mem_cons.mp ha with h1 | h1
    · rcases List.mem_cons.mp hb with h2 | h2
      · exact h1.trans h2.symm
      · exact absurd (by rw [← h1, e]; exact List.mem_map_of_mem h2) n'.1
    · rcases List.mem_cons.mp hb with h2 | h2
      · exact absurd (by rw [← h2, ← e]; exact List.mem_map_of_mem h1) n'.1
      · exact nodup_inj n'.2 h1 h2 e
theorem AtX.exist {m cv : Str → Option Value} {ad : Str → Addr} {h : Heap} (x : AtX env Γ Δ Mx H P m cv ad h) : ∀ b ∈ ownOf env Δ ad Mx, ∃ o, h.get? b = some o := by
  intro b hb
  rcases List.mem_cons.mp hb with rfl | hb
  · obtain ⟨o, _, _, q, _⟩ := x.ns; exact ⟨o, q⟩
  · rcases List.mem_append.mp hb with hb | hb
    · obtain ⟨p, hp, rfl⟩ := List.mem_map.mp hb
      obtain ⟨o, q, _⟩ := x.cells p hp; exact ⟨o, q⟩
    · rcases List.mem_append.mp hb with hb | hb
      · obtain ⟨p, hp, rfl⟩ := List.mem_map.mp hb
        obtain ⟨vs, n, _, q, _⟩ := x.muts p hp; exact ⟨_, q⟩
      · obtain ⟨p, hp, rfl⟩ := List.mem_map.mp hb
        obtain ⟨o, q, _⟩ := x.raw p hp; exact ⟨o, q⟩
theorem mem_of_lookup {α : Type} {x : Str} {v : α} : ∀ {l : List (Str × α)}, l.lookup x = some v → (x, v) ∈ l
  | (y, u) :: r, h => by
    rw [List.lookup_cons] at h
    cases e : x == y with
    | true => rw [e] at h; cases h; rw [eq_of_beq e]; exact List.mem_cons_self
    | false => rw [e] at h; exact List.mem_cons_of_mem _ (mem_of_lookup h)
theorem AtX.nameOk {m cv : Str → Option Value} {ad : Str → Addr} {h : Heap} (x : AtX env Γ Δ Mx H P m cv ad h) {y : Str} {v : Value} (e : lookN env m cv y = some v) : NameOk (fun b => h.get? b) env y v := by
  unfold lookN at e
  split at e
  · rename_i hk
    obtain ⟨o, ho, n⟩ := LCg.ns_obj x.ns
    exact .loc hk ho n e
  · rename_i hk
    split at e
    · rename_i hs
      obtain ⟨c, hc⟩ := Option.isSome_iff_exists.mp hs
      obtain ⟨o, ho, hd⟩ := x.cells _ (mem_of_lookup hc)
      exact .cel (.inl hk) hc ho (by rw [hd, e])
    · cases e
  · cases e
theorem AtX.unique {m cv m' cv' : Str → Option Value} {ad ad' : Str → Addr} {h : Heap} (x : AtX env Γ Δ Mx H P m cv ad h) (y : AtX env Γ Δ Mx H P m' cv' ad' h) : ownOf env Δ ad Mx = ownOf env Δ ad' Mx := by
  have hm : m = m' := by
    obtain ⟨o, es, ep, q, d, _, f⟩ := x.ns
    obtain ⟨o', es', ep', q', d', _, f'⟩ := y.ns
    rw [q] at q'; cases q'
    rw [d] at d'; cases d'
    funext z; rw [← f z, ← f' z]
  subst hm
  have : Δ.map (fun p => ad p.1) = Δ.map (fun p => ad' p.1) := List.map_congr_left fun p hp => by
    obtain ⟨vs, n, e, _⟩ := x.muts p hp
    obtain ⟨vs', n', e', _⟩ := y.muts p hp
    unfold lookN at e e'
    split at e
    · rename_i hk
      rw [hk] at e'
      have := e.symm.trans e'
      simpa using this
    · rename_i hk
      rw [hk] at e'
      split at e
      · rename_i hs
        simp only [hs, if_true] at e'
        obtain ⟨c, hc⟩ := Option.isSome_iff_exists.mp hs
        obtain ⟨o, q, d⟩ := x.cells _ (mem_of_lookup hc)
        obtain ⟨o', q', d'⟩ := y.cells _ (mem_of_lookup hc)
        rw [q] at q'; cases q'
        rw [d] at d'
        have d2 : cv p.1 = cv' p.1 := by simpa using d'
        rw [e, e'] at d2
        simpa using d2
      · cases e
    · cases e
  unfold ownOf
  rw [this]
theorem At.st (x : At W k A env s₀ P₀ H Γ Δ Mx P s) : St (W.at Mx) k A (fun b => s.heap.get? b) P s := ⟨x.a, x.b, fun _ _ e => e, x.inn, x.tk, fun p hp => let ⟨_, _, _, y, _⟩ := x.mnew; y.raw p hp⟩
theorem At.cx (x : At W k A env s₀ P₀ H Γ Δ Mx P s) : Cx (fun b => s.heap.get? b) P env Γ Δ := by
  obtain ⟨m, cv, ad, y, _⟩ := x.mnew
  refine ⟨x.fn, x.gl, x.bi, fun p hp => ?_, fun p hp => ?_⟩
  · obtain ⟨v, e, i⟩ := y.vars p hp
    exact ⟨v, y.nameOk e, i⟩
  · obtain ⟨vs, n, e, q, i⟩ := y.muts p hp
    exact ⟨_, vs, n, y.nameOk e, q, i⟩
theorem At.gr {P' : Vw} {s' : Shared} (x : At W k A env s₀ P₀ H Γ Δ Mx P s) (g : Gr P s P' s') (tk : 1 ≤ s'.toks) : At W k A env s₀ P₀ H Γ Δ Mx P' s' where
  a := x.a
  b := x.b.up g.le
  tk := tk
  fn := x.fn
  gl := x.gl
  bi := x.bi
  le := x.le.trans g.le
  inn := g.inn
  hin := fun b o e => g.old _ _ (x.hin _ _ e)
  new := fun b o e => (g.new b o e).elim (x.new b o) fun z => .inr (by
    cases q : s₀.heap.get? b with
    | none => rfl
    | some o' => obtain ⟨o'', q'⟩ := x.ext b o' q; rw [z] at q'; cases q')
  newH := fun b o e => (g.new b o e).elim (x.newH b o) fun z => .inr (by
    cases q : H b with
    | none => rfl
    | some o' => have := x.hin _ _ q; rw [z] at this; cases this)
  ext := fun b o e => (x.ext b o e).imp fun o' q => g.old _ _ q
  mnew := by
    obtain ⟨m, cv, ad, y, hn⟩ := x.mnew
    refine ⟨m, cv, ad, ⟨y.ns.keeps g.old, fun p hp => ?_, fun p hp => ?_, fun p hp => ?_, fun p hp => (y.raw p hp).imp fun o hh => ⟨g.old _ _ hh.1, hh.2.mono g.le⟩, y.nd, y.cnd, fun b hb => (gr_none g ⟨y.offP b hb, y.exist b hb⟩).1, y.offH⟩, hn⟩
    · obtain ⟨o, q, d⟩ := y.cells p hp; exact ⟨o, g.old _ _ q, d⟩
    · obtain ⟨v, e, i⟩ := y.vars p hp; exact ⟨v, e, i.mono g.le⟩
    · obtain ⟨vs, n, e, q, i⟩ := y.muts p hp; exact ⟨vs, n, e, g.old _ _ q, i.mono g.le⟩
  gens := x.gens.trans g.gens
  drawn := g.drawn.trans x.drawn
  os := g.os.trans x.os

theorem At.forget {Γ' : List (Str × D)} (x : At W k A env s₀ P₀ H Γ Δ Mx P s) (h : ∀ p ∈ Γ', p ∈ Γ) : At W k A env s₀ P₀ H Γ' Δ Mx P s :=
  { x with mnew := by obtain ⟨m, cv, ad, y, hn⟩ := x.mnew; exact ⟨m, cv, ad, { y with vars := fun p hp => y.vars p (h p hp) }, hn⟩ }
theorem At.drop {Δ' : List (Str × List D)} (x : At W k A env s₀ P₀ H Γ Δ Mx P s) (h : Δ'.Sublist Δ) : At W k A env s₀ P₀ H Γ Δ' Mx P s := by
  obtain ⟨m, cv, ad, y, hn⟩ := x.mnew
  have hs : (ownOf env Δ' ad Mx).Sublist (ownOf env Δ ad Mx) := List.Sublist.cons_cons _ (List.Sublist.append (List.Sublist.refl _) (List.Sublist.append (h.map _) (List.Sublist.refl _)))
  exact { x with mnew := ⟨m, cv, ad, { y with muts := fun p hp => y.muts p (h.subset hp), nd := y.nd.sublist hs, offP := fun b hb => y.offP b (hs.subset hb), offH := fun b hb => y.offH b (hs.subset hb) }, fun p hp => hn p (h.subset hp)⟩ }
/-- one owned object is changed, all else stands -/
theorem keep_but {P : Vw} {h h' : Heap} {a : Addr} (p : In P h) (hs : ∀ b o, b ≠ a → h.get? b = some o → h'.get? b = some o) (hp : P a = none) : In P h' := fun b o e => hs b o (fun q => by rw [q, hp] at e; cases e) (p b o e)

noncomputable def Bindable (env : Env) (x : Str) : Prop := env.kindOf x = some .local ∨ (env.kindOf x = some .cell ∧ (env.cells.lookup x).isSome = true)
theorem lookN_set_local {m cv : Str → Option Value} {x : Str} {v : Value} (hk : env.kindOf x = some .local) : lookN env (fun y => if y = x then some v else m y) cv x = some v := by
  unfold lookN; rw [hk]; simp
theorem lookN_set_cell {m cv : Str → Option Value} {x : Str} {v : Value} (hk : env.kindOf x = some .cell) (hc : (env.cells.lookup x).isSome = true) : lookN env m (fun y => if y = x then some v else cv y) x = some v := by
  unfold lookN; rw [hk, hc]; simp
theorem lookN_ne_local {m cv : Str → Option Value} {x y : Str} {v : Value} (h : y ≠ x) : lookN env (fun z => if z = x then some v else m z) cv y = lookN env m cv y := by
  unfold lookN; split <;> simp [h]
theorem lookN_ne_cell {m cv : Str → Option Value} {x y : Str} {v : Value} (h : y ≠ x) : lookN env m (fun z => if z = x then some v else cv z) y = lookN env m cv y := by
  unfold lookN; split <;> simp [h]

/-- a name is stored -/
theorem At.store {M : Model} {E : Value → Shared → Prop} {Q : Unit → Shared → Prop} {x : Str} {v : Value} (X : At W k A env s₀ P₀ H Γ Δ Mx P s) {m cv : Str → Option Value} {ad : Str → Addr} (y : AtX env Γ Δ Mx H P m cv ad s.heap) (hn : ∀ p ∈ Δ, s₀.heap.get? (ad p.1) = none) (hb : Bindable env x) (hΓ : ∀ p ∈ Γ, p.1 ≠ x) (hΔ : ∀ p ∈ Δ, p.1 ≠ x)
    (h : ∀ s', (∀ d, Is P v d → At W k A env s₀ P₀ H ((x, d) :: Γ) Δ Mx P s' ∧ ∃ m' cv' ad', AtX env ((x, d) :: Γ) Δ Mx H P m' cv' ad' s'.heap ∧ ∀ b ∈ ownOf env Δ ad' Mx, b ∈ ownOf env Δ ad Mx) →
      (∀ a vs n ds, v = .ref a → s.heap.get? a = some (listOf vs.toArray n) → IsAll P vs ds → P a = none → H a = none → a ∉ ownOf env Δ ad Mx → s₀.heap.get? a = none → At W k A env s₀ P₀ H Γ ((x, ds) :: Δ) Mx P s' ∧ ∃ m' cv' ad', AtX env Γ ((x, ds) :: Δ) Mx H P m' cv' ad' s'.heap ∧ ∀ b ∈ ownOf env ((x, ds) :: Δ) ad' Mx, b = a ∨ b ∈ ownOf env Δ ad Mx) →
      (∀ b o, b ∉ ownOf env Δ ad Mx → s.heap.get? b = some o → s'.heap.get? b = some o) → Q () s') :
    wpAny M A (storeName env x v) Q E s := by
  have key : ∀ (c : Addr) (h' : Heap) (tk' : Nat) (m' cv' : Str → Option Value), c ∈ ownOf env Δ ad Mx → c ∉ Δ.map (fun p => ad p.1) ++ Mx.map (·.1) → (∀ b o, b ≠ c → s.heap.get? b = some o → h'.get? b = some o) → (∃ o, h'.get? c = some o) → 1 ≤ tk' →
      h'.Ns env.locals m' → (∀ p ∈ env.cells, ∃ o, h'.get? p.2 = some o ∧ o.data = .cell (cv' p.1)) → lookN env m' cv' x = some v → (∀ z, z ≠ x → lookN env m' cv' z = lookN env m cv z) →
      Q () { s with heap := h', toks := tk' } := by
    intro c h' tk' m' cv' hc hc' hk he htk hns hcells hx hz
    have mutK : ∀ p ∈ Δ, ∃ vs n, lookN env m' cv' p.1 = some (.ref (ad p.1)) ∧ h'.get? (ad p.1) = some (listOf vs.toArray n) ∧ IsAll P vs p.2 := fun p hp => by
      obtain ⟨vs, n, e, q, i⟩ := y.muts p hp
      exact ⟨vs, n, (hz _ (hΔ p hp)).trans e, hk _ _ (fun z => hc' (List.mem_append.mpr (.inl (z ▸ List.mem_map_of_mem hp)))) q, i⟩
    have rawK : ∀ p ∈ Mx, ∃ o, h'.get? p.1 = some o ∧ MIs P o p.2 := fun p hp => (y.raw p hp).imp fun o hh => ⟨hk _ _ (fun z => hc' (List.mem_append.mpr (.inr (z ▸ List.mem_map_of_mem hp)))) hh.1, hh.2⟩
    have base : ∀ Γ' Δ', (∃ m cv ad, AtX env Γ' Δ' Mx H P m cv ad h' ∧ ∀ p ∈ Δ', s₀.heap.get? (ad p.1) = none) → At W k A env s₀ P₀ H Γ' Δ' Mx P { s with heap := h', toks := tk' } := fun Γ' Δ' hm =>
      { a := X.a, b := X.b, tk := htk, fn := X.fn, gl := X.gl, bi := X.bi, le := X.le, inn := keep_but X.inn hk (y.offP c hc), hin := keep_but X.hin hk (y.offH c hc), new := X.new, newH := X.newH,
        ext := fun b o e => by
          obtain ⟨o', q⟩ := X.ext b o e
          by_cases hbc : b = c
          · rw [hbc]; exact he
          · exact ⟨o', hk _ _ hbc q⟩,
        mnew := hm, gens := X.gens, drawn := X.drawn, os := X.os }
    refine h _ (fun d hd => by
        have yy : AtX env ((x, d) :: Γ) Δ Mx H P m' cv' ad h' := by
          refine ⟨hns, hcells, fun p hp => ?_, mutK, rawK, y.nd, y.cnd, y.offP, y.offH⟩
          rcases List.mem_cons.mp hp with rfl | hp
          · exact ⟨v, hx, hd⟩
          · obtain ⟨u, e, i⟩ := y.vars p hp
            exact ⟨u, (hz _ (hΓ p hp)).trans e, i⟩
        exact ⟨base _ _ ⟨m', cv', ad, yy, hn⟩, m', cv', ad, yy, fun b hb => hb⟩) (fun a vs n ds hv ha hi hPa hHa hfr hsa => ?_) (fun b o hno e => ?_)
    · have hna := hfr
      have hac : a ≠ c := fun q => hna (q ▸ hc)
      let ad' : Str → Addr := fun z => if z = x then a else ad z
      have hmap : Δ.map (fun p => ad' p.1) = Δ.map (fun p => ad p.1) := List.map_congr_left fun p hp => by simp [ad', hΔ p hp]
      have hown : (ownOf env ((x, ds) :: Δ) ad' Mx).Perm (a :: ownOf env Δ ad Mx) := by
        show (env.locals :: (env.cells.map (·.2) ++ ((ad' x :: Δ.map (fun p => ad' p.1)) ++ Mx.map (·.1)))).Perm _
        rw [hmap, show ad' x = a from if_pos rfl]
        refine List.Perm.trans ?_ (List.Perm.swap _ _ _)
        exact List.Perm.cons _ List.perm_middle
      have yy : AtX env Γ ((x, ds) :: Δ) Mx H P m' cv' ad' h' := by
        refine ⟨hns, hcells, fun p hp => ?_, fun p hp => ?_, rawK, hown.nodup_iff.mpr (List.nodup_cons.mpr ⟨hna, y.nd⟩), y.cnd, fun b hb => ?_, fun b hb => ?_⟩
        · obtain ⟨u, e, i⟩ := y.vars p hp
          exact ⟨u, (hz _ (hΓ p hp)).trans e, i⟩
        · rcases List.mem_cons.mp hp with rfl | hp
          · exact ⟨vs, n, by rw [hx, hv]; simp [ad'], by simpa [ad'] using hk _ _ hac ha, hi⟩
          · obtain ⟨us, n', e, q, i⟩ := mutK p hp
            have : ad' p.1 = ad p.1 := if_neg (hΔ p hp)
            exact ⟨us, n', by rw [this]; exact e, by rw [this]; exact q, i⟩
        · rcases List.mem_cons.mp (hown.subset hb) with rfl | hb
          · exact hPa
          · exact y.offP b hb
        · rcases List.mem_cons.mp (hown.subset hb) with rfl | hb
          · exact hHa
          · exact y.offH b hb
      refine ⟨base _ _ ⟨m', cv', ad', yy, fun p hp => ?_⟩, m', cv', ad', yy, fun b hb => List.mem_cons.mp (hown.subset hb)⟩
      rcases List.mem_cons.mp hp with rfl | hp
      · simpa [ad'] using hsa
      · have : ad' p.1 = ad p.1 := if_neg (hΔ p hp)
        rw [this]; exact hn p hp
    · exact hk b o (fun q => hno (q ▸ hc)) e
  rcases hb with hk | ⟨hk, hc⟩
  · refine wpAny_storeName_local hk y.ns (fun h' hns hsb => ?_) (by rw [X.fn]; rfl)
    have nd := List.nodup_cons.mp y.nd
    refine key env.locals h' _ _ cv List.mem_cons_self (fun q => nd.1 (List.mem_append.mpr (.inr q))) (fun b o n e => hsb.extBut b o n e) (by obtain ⟨o, _, _, q, _⟩ := hns; exact ⟨o, q⟩) (Nat.le_trans X.tk (Nat.le_succ _)) hns (fun p hp => ?_) (lookN_set_local hk) (fun z hz => lookN_ne_local hz)
    obtain ⟨o, q, d⟩ := y.cells p hp
    exact ⟨o, hsb.extBut _ _ (fun z => nd.1 (List.mem_append.mpr (.inl (z ▸ List.mem_map_of_mem hp)))) q, d⟩
  · obtain ⟨c, hc⟩ := Option.isSome_iff_exists.mp hc
    have hmem := mem_of_lookup hc
    obtain ⟨o, ho, hd⟩ := y.cells _ hmem
    have hcm : c ∈ env.cells.map (·.2) := List.mem_map_of_mem hmem
    have nd := List.nodup_cons.mp y.nd
    have nd2 := List.nodup_append.mp nd.2
    refine wpAny_storeName_cell X.fn hk hc ⟨o, ho, hd⟩ fun h' hv' hsb => ?_
    obtain ⟨o', ho', hd'⟩ := hv'
    refine key c h' _ m (fun z => if z = x then some v else cv z) (List.mem_cons_of_mem _ (List.mem_append.mpr (.inl hcm))) (fun q => nd2.2.2 c hcm c q rfl) (fun b o n e => hsb.extBut b o n e) ⟨o', ho'⟩ X.tk (y.ns.sameBut hsb ?_) (fun p hp => ?_) (lookN_set_cell hk (by rw [hc]; rfl)) (fun z hz => lookN_ne_cell hz)
    · exact fun q => nd.1 (List.mem_append.mpr (.inl (q ▸ hcm)))
    · by_cases hp1 : p.1 = x
      · have hp2 : p.2 = c := congrArg Prod.snd (nodup_inj y.cnd hp hmem hp1)
        rw [hp1, hp2]
        exact ⟨o', ho', by rw [if_pos rfl]; exact hd'⟩
      · obtain ⟨op, q, d⟩ := y.cells p hp
        exact ⟨op, hsb.extBut _ _ (fun z => hp1 (congrArg Prod.fst (nodup_inj nd2.1 hp hmem z))) q, by rw [if_neg hp1]; exact d⟩
end
end
section
section
variable {W : Wd} {k : Nat} {A : Around} {env : Env} {s₀ : Shared} {P₀ H : Vw} {Γ : List (Str × D)} {Δ : List (Str × List D)} {Mx : List (Addr × MO)} {P : Vw} {s : Shared} {E : Value → Shared → Prop} {Q : Flow → Shared → Prop}

theorem At.none₀ (X : At W k A env s₀ P₀ H Γ Δ Mx P s) {b : Addr} (h : s.heap.get? b = none) : s₀.heap.get? b = none ∧ H b = none := by
  constructor
  · cases q : s₀.heap.get? b with
    | none => rfl
    | some o => obtain ⟨o', q'⟩ := X.ext b o q; rw [h] at q'; cases q'
  · cases q : H b with
    | none => rfl
    | some o => have := X.hin _ _ q; rw [h] at this; cases this

/-- the frame's names, as they stand behind an evaluation; an object that was fresh ahead of it is none of the owned ones -/
theorem At.gr_own {P' : Vw} {s' : Shared} (X : At W k A env s₀ P₀ H Γ Δ Mx P s) (g : Gr P s P' s') : ∃ m cv ad, AtX env Γ Δ Mx H P' m cv ad s'.heap ∧ (∀ p ∈ Δ, s₀.heap.get? (ad p.1) = none) ∧ ∀ b, s.heap.get? b = none → b ∉ ownOf env Δ ad Mx := by
  obtain ⟨m, cv, ad, y, hn⟩ := X.mnew
  refine ⟨m, cv, ad, ⟨y.ns.keeps g.old, fun p hp => ?_, fun p hp => ?_, fun p hp => ?_, fun p hp => (y.raw p hp).imp fun o hh => ⟨g.old _ _ hh.1, hh.2.mono g.le⟩, y.nd, y.cnd, fun b hb => (gr_none g ⟨y.offP b hb, y.exist b hb⟩).1, y.offH⟩, hn, fun b h hb => ?_⟩
  · obtain ⟨o, q, d⟩ := y.cells p hp; exact ⟨o, g.old _ _ q, d⟩
  · obtain ⟨v, e, i⟩ := y.vars p hp; exact ⟨v, e, i.mono g.le⟩
  · obtain ⟨vs, n, e, q, i⟩ := y.muts p hp; exact ⟨vs, n, e, g.old _ _ q, i.mono g.le⟩
  · obtain ⟨o, q⟩ := y.exist b hb
    rw [h] at q; cases q

/-! ### statements: one, then the rest -/
/-- objects that nobody owns may go -/
theorem At.but {C : Addr} {h' : Heap} (X : At W k A env s₀ P₀ H Γ Δ Mx P s) (h0 : s₀.heap.get? C = none) (h1 : P C = none) (h2 : H C = none) (hC : ∃ m cv ad, AtX env Γ Δ Mx H P m cv ad s.heap ∧ C ∉ ownOf env Δ ad Mx) (hs : Heap.SameBut C s.heap h') : At W k A env s₀ P₀ H Γ Δ Mx P { s with heap := h' } :=
  { X with
    inn := keep_but X.inn (fun b o n e => hs.extBut b o n e) h1
    hin := keep_but X.hin (fun b o n e => hs.extBut b o n e) h2
    ext := fun b o e => by
      obtain ⟨o', q⟩ := X.ext b o e
      exact ⟨o', hs.extBut _ _ (fun z => by rw [z, h0] at e; cases e) q⟩
    mnew := by
      obtain ⟨m, cv, ad, y, hn⟩ := X.mnew
      have hc : C ∉ ownOf env Δ ad Mx := by
        obtain ⟨m', cv', ad', y', hc⟩ := hC
        rw [AtX.unique y y']; exact hc
      have up : ∀ b ∈ ownOf env Δ ad Mx, ∀ o, s.heap.get? b = some o → h'.get? b = some o := fun b hb o e => hs.extBut _ _ (fun z => hc (z ▸ hb)) e
      refine ⟨m, cv, ad, ⟨y.ns.at' fun o e => up _ List.mem_cons_self o e, fun p hp => ?_, y.vars, fun p hp => ?_, fun p hp => ?_, y.nd, y.cnd, y.offP, y.offH⟩, hn⟩
      · obtain ⟨o, q, d⟩ := y.cells p hp
        exact ⟨o, up _ (List.mem_cons_of_mem _ (List.mem_append.mpr (.inl (List.mem_map_of_mem hp)))) o q, d⟩
      · obtain ⟨vs, n, e, q, i⟩ := y.muts p hp
        exact ⟨vs, n, e, up _ (List.mem_cons_of_mem _ (List.mem_append.mpr (.inr (List.mem_append.mpr (.inl (List.mem_map_of_mem hp)))))) _ q, i⟩
      · obtain ⟨o, q, i⟩ := y.raw p hp
        exact ⟨o, up _ (List.mem_cons_of_mem _ (List.mem_append.mpr (.inr (List.mem_append.mpr (.inr (List.mem_map_of_mem hp)))))) _ q, i⟩ }

/-- a comprehension that is bound to a local name at once -/
theorem s_assignC {x y : Str} {px p pos cpos : Pos} {elt iter : Expr} {ifs : List Expr} {scope : Scope} {rest : List Stmt} {cl : List (Str × Addr)} {its : List D} {res : List (Option D)} {Γ' : List (Str × D)} {Δ' : List (Str × List D)} {b mu : Bool}
    (X : At W k A env s₀ P₀ H Γ Δ Mx P s)
    (hI : EvI (W.at Mx) k env Γ Δ b iter its) (hlen : res.length = its.length)
    (helt : ∀ (C : Addr) (i : Nat) (d : D) (r : Option D), its[i]? = some d → res[i]? = some r → CompItem (W.at Mx) k (compEnvC scope cl C env) ((x, d) :: Γ') Δ' ifs elt r)
    (hΓ' : ∀ p ∈ Γ', p ∈ Γ) (hΔ' : ∀ p ∈ Δ', p ∈ Δ) (hthru : Thru env scope cl (Γ'.map (·.1) ++ Δ'.map (·.1)))
    (hclos : closureFor scope env = pure cl) (hcell : ∀ y ∈ scope.names, y.2 ≠ .cell) (hkind : scope.kind = .function)
    (hnames : ∀ y ∈ scope.names, y.2 = .local → scope.names.lookup y.1 = some .local) (hx : scope.names.lookup x = some .local)
    (hsz : its.length ≤ sizeLine)
    (hb : Bindable env y) (hΓ : ∀ p ∈ Γ, p.1 ≠ y) (hΔ : ∀ p ∈ Δ, p.1 ≠ y)
    (next : ∀ P' s', At W k A env s₀ P₀ H (if mu then Γ else (y, .list (res.filterMap id)) :: Γ) (if mu then (y, res.filterMap id) :: Δ else Δ) Mx P' s' → wpAny W.M A (execs rest env) Q E s')
    (hsw : swapsWith (.ListComp elt [⟨.Name x px, iter, ifs, 0⟩] scope cpos) (some (.Name y p)) pos.line env = pure true)
    (hs : ∀ v, foldedSetIterable iter env v = pure v := by intro _; rfl) :
    wpAny W.M A (execs (.Assign [.Name y p] (.ListComp elt [⟨.Name x px, iter, ifs, 0⟩] scope cpos) pos :: rest) env) Q E s := by
  refine wpAny_execs_cons ?_
  rw [exec_Assign_Name_used _ _ _ _ hsw]
  refine wpAny_bind (wpAny_standAt (wpAny_bind ?_))
  show wpAny _ A (do let _ ← comprehension (.ListComp elt [⟨.Name x px, iter, ifs, 0⟩] scope cpos) scope env _ (newList []) false (eval iter env) (some (assign (.Name y p) env))) _ _ s
  refine wpAny_bind (wpAny_mono (wpAny_comprehension_free (use := some (assign (.Name y p) env)) (Q := fun _ s' => wpAny W.M A (execs rest env) Q E s') rfl hs hclos hkind hnames
    (comp_core (W := W.at Mx) X.st X.cx hI hlen helt hΓ' hΔ' hthru hcell hkind hx hsz fun T C ys P' s' g tk h0 h1 h2 hi c0 c1 cT hm => ?_)) (fun _ s' hq => wpAny_pure (wpAny_pure hq)) fun _ _ e => e)
  obtain ⟨mC, hnC⟩ := hm
  have zT := X.none₀ h0
  have zC := X.none₀ c0
  obtain ⟨oC, qC, nC⟩ := LCg.ns_obj hnC
  show wpAny _ A (assign (.Name y p) env (.ref T)) _ _ _
  cases mu with
  | true =>
    obtain ⟨m, cv, ad, w, hn, ho⟩ := X.gr_own g
    have hCo := ho C c0
    refine wpAny_assign_Name (At.store (X.gr g tk) w hn hb hΓ hΔ fun s'' g1 g2 g3 => ?_)
    refine ⟨mC, nC.ns (g3 _ _ hCo qC), fun h' hs' => ?_⟩
    obtain ⟨X1, m', cv', ad', w', hw'⟩ := g2 T ys ys.length _ rfl h2 hi h1 zT.2 (ho T h0) zT.1
    exact next P' _ (X1.but zC.1 c1 zC.2 ⟨m', cv', ad', w', fun q => (hw' _ q).elim cT hCo⟩ hs')
  | false =>
    have g' := g.add h0 h1 h2
    obtain ⟨m, cv, ad, w, hn, ho⟩ := X.gr_own g'
    have hCo := ho C c0
    refine wpAny_assign_Name (At.store (X.gr g' tk) w hn hb hΓ hΔ fun s'' g1 g2 g3 => ?_)
    refine ⟨mC, nC.ns (g3 _ _ hCo qC), fun h' hs' => ?_⟩
    have hi' : Is (addV P' T (LCg.lst ys)) (.ref T) (.list (res.filterMap id)) := .list addV_at (hi.mono (addV_le h1))
    obtain ⟨X1, m', cv', ad', w', hw'⟩ := g1 _ hi'
    exact next _ _ (X1.but zC.1 (by rw [addV_ne cT]; exact c1) zC.2 ⟨m', cv', ad', w', fun q => hCo (hw' _ q)⟩ hs')
end
end
section
noncomputable abbrev IfQ (W : Wd) (A : Around) (env : Env) (rest : List Stmt) (Q : Flow → Shared → Prop) (E : Value → Shared → Prop) : Flow → Shared → Prop := fun f s'' => match f with | .next => wpAny W.M A (execs rest env) Q E s'' | f => Q f s''
noncomputable abbrev ForQ (W : Wd) (k : Nat) (A : Around) (env : Env) (s₀ : Shared) (P' H' : Vw) (Q : Flow → Shared → Prop) (B J : List (Str × D) → List (Str × List D) → List (Addr × MO) → Prop) : Flow → Shared → Prop := fun f s'' => match f with
  | .ret v => Q (.ret v) s''
  | .brk => ∃ Γ'' Δ'' Mx'' P'', B Γ'' Δ'' Mx'' ∧ At W k A env s₀ P' H' Γ'' Δ'' Mx'' P'' s''
  | _ => ∃ Γ'' Δ'' Mx'' P'', J Γ'' Δ'' Mx'' ∧ At W k A env s₀ P' H' Γ'' Δ'' Mx'' P'' s''
noncomputable abbrev ForMQ (W : Wd) (k : Nat) (A : Around) (env : Env) (s₀ : Shared) (P₀ H : Vw) (Q : Flow → Shared → Prop) (J : Nat → Vw → List (Str × D) → List (Str × List D) → List (Addr × MO) → Prop) (n : Nat) : Flow → Shared → Prop := fun f s3 => match f with
  | .ret v => Q (.ret v) s3
  | .brk => False
  | _ => ∃ n' Γ3 Δ3 M3 P3, n' < n ∧ J n' P3 Γ3 Δ3 M3 ∧ At W k A env s₀ P₀ H Γ3 Δ3 M3 P3 s3
noncomputable abbrev JoinQ (W : Wd) (k : Nat) (A : Around) (env : Env) (s₀ : Shared) (P₀ H : Vw) (Q : Flow → Shared → Prop) (J : List (Str × D) → List (Str × List D) → List (Addr × MO) → Prop) : Flow → Shared → Prop := fun f s'' => (f = .next ∧ ∃ Γ' Δ' Mx' P'', J Γ' Δ' Mx' ∧ At W k A env s₀ P₀ H Γ' Δ' Mx' P'' s'') ∨ (f ≠ .next ∧ Q f s'')
section
variable {W : Wd} {k : Nat} {A : Around} {env : Env} {s₀ : Shared} {P₀ H : Vw} {Γ : List (Str × D)} {Δ : List (Str × List D)} {Mx : List (Addr × MO)} {P : Vw} {s : Shared} {E : Value → Shared → Prop} {Q : Flow → Shared → Prop}

theorem s_if {test : Expr} {body orelse rest : List Stmt} {pos : Pos} {b : Bool} (X : At W k A env s₀ P₀ H Γ Δ Mx P s) (ht : Ts (W.at Mx) k env Γ Δ test b)
    (next : ∀ P' s', At W k A env s₀ P₀ H Γ Δ Mx P' s' → wpAny W.M A (execs (if b then body else orelse) env) (IfQ W A env rest Q E) E s') :
    wpAny W.M A (execs (.If test body orelse pos :: rest) env) Q E s := by
  refine wpAny_execs_cons (wpAny_If (ht A _ P s E _ X.st X.cx fun P' s' g tk => ?_))
  have z := next P' s' (X.gr g tk)
  cases b with
  | true => rw [if_pos rfl]; exact z
  | false => rw [if_neg Bool.false_ne_true]; exact z
theorem s_nil (h : Q .next s) : wpAny W.M A (execs [] env) Q E s := wpAny_execs_nil h
theorem s_ret {e : Expr} {pos : Pos} {rest : List Stmt} {d : D} (X : At W k A env s₀ P₀ H Γ Δ Mx P s) (hv : Ev (W.at Mx) k env Γ Δ e d) (next : ∀ v P' s', At W k A env s₀ P₀ H Γ Δ Mx P' s' → Is P' v d → Q (.ret v) s') :
    wpAny W.M A (execs (.Return (some e) pos :: rest) env) Q E s :=
  wpAny_execs_cons (wpAny_Return_some (hv A _ P s E _ X.st X.cx fun v P' s' g tk i => next v P' s' (X.gr g tk) i))

theorem At.rebase (X : At W k A env s₀ P₀ H Γ Δ Mx P s) : At W k A env s₀ P H Γ Δ Mx P s :=
  { X with le := Le.refl _, new := fun b o e => .inl e, newH := fun b o e => .inl e }
theorem At.back {Γ' : List (Str × D)} {Δ' : List (Str × List D)} {Mx' : List (Addr × MO)} {P' : Vw} {s' : Shared} (X : At W k A env s₀ P₀ H Γ Δ Mx P s) (Y : At W k A env s₀ P H Γ' Δ' Mx' P' s') : At W k A env s₀ P₀ H Γ' Δ' Mx' P' s' :=
  { Y with le := X.le.trans Y.le, new := fun b o e => (Y.new b o e).elim (X.new b o) .inr, newH := fun b o e => (Y.newH b o e).elim (X.newH b o) .inr }
/-! ### for -/
open Classical in
noncomputable def HI (H : Vw) (I : Addr) (h : Heap) : Vw := fun b => if b = I then h.get? I else H b
theorem HI_at {H : Vw} {I : Addr} {h : Heap} : HI H I h I = h.get? I := if_pos rfl
theorem HI_ne {H : Vw} {I b : Addr} {h : Heap} (n : b ≠ I) : HI H I h b = H b := if_neg n
theorem At.lessH {H' : Vw} (X : At W k A env s₀ P₀ H' Γ Δ Mx P s) (h : Le H H') : At W k A env s₀ P₀ H Γ Δ Mx P s :=
  have nn : ∀ b, H' b = none → H b = none := fun b e => by
    cases q : H b with
    | none => rfl
    | some o => rw [h b o q] at e; cases e
  { X with
    hin := fun b o e => X.hin _ _ (h b o e)
    newH := fun b o e => (X.newH b o e).imp id (nn b)
    mnew := by obtain ⟨m, cv, ad, y, hn⟩ := X.mnew; exact ⟨m, cv, ad, { y with offH := fun b hb => nn b (y.offH b hb) }, hn⟩ }
/-- the iterator is turned; it counts among what must stand -/
theorem At.iter {H₁ : Vw} {I : Addr} {h' : Heap} {tk' : Nat} (X : At W k A env s₀ P₀ H₁ Γ Δ Mx P s) (hH : ∀ b, b ≠ I → H₁ b = H b) (hI : ∃ m cv ad, AtX env Γ Δ Mx H₁ P m cv ad s.heap ∧ I ∉ ownOf env Δ ad Mx) (hP : P I = none) (h0 : s₀.heap.get? I = none)
    (hk : ∀ b o, b ≠ I → s.heap.get? b = some o → h'.get? b = some o) (tk : 1 ≤ tk') : At W k A env s₀ P₀ (HI H I h') Γ Δ Mx P { s with heap := h', toks := tk' } :=
  { X with
    tk := tk
    inn := keep_but X.inn hk hP
    hin := fun b o e => by
      by_cases q : b = I
      · subst q; rw [HI_at] at e; exact e
      · rw [HI_ne q] at e
        exact hk b o q (X.hin b o (by rw [hH b q]; exact e))
    newH := fun b o e => by
      by_cases q : b = I
      · rw [q, hP] at e; cases e
      · rw [HI_ne q, ← hH b q]; exact X.newH b o e
    ext := fun b o e => by
      obtain ⟨o', q⟩ := X.ext b o e
      exact ⟨o', hk _ _ (fun z => by rw [z, h0] at e; cases e) q⟩
    mnew := by
      obtain ⟨m', cv', ad', y', hc'⟩ := hI
      obtain ⟨m, cv, ad, y, hn⟩ := X.mnew
      have hc : I ∉ ownOf env Δ ad Mx := by rw [AtX.unique y y']; exact hc'
      have up : ∀ b ∈ ownOf env Δ ad Mx, ∀ o, s.heap.get? b = some o → h'.get? b = some o := fun b hb o e => hk _ _ (fun z => hc (z ▸ hb)) e
      refine ⟨m, cv, ad, ⟨y.ns.at' fun o e => up _ List.mem_cons_self o e, fun p hp => ?_, y.vars, fun p hp => ?_, fun p hp => ?_, y.nd, y.cnd, y.offP, fun b hb => ?_⟩, hn⟩
      · obtain ⟨o, q, d⟩ := y.cells p hp
        exact ⟨o, up _ (List.mem_cons_of_mem _ (List.mem_append.mpr (.inl (List.mem_map_of_mem hp)))) o q, d⟩
      · obtain ⟨vs, n, e, q, i⟩ := y.muts p hp
        exact ⟨vs, n, e, up _ (List.mem_cons_of_mem _ (List.mem_append.mpr (.inr (List.mem_append.mpr (.inl (List.mem_map_of_mem hp)))))) _ q, i⟩
      · obtain ⟨o, q, i⟩ := y.raw p hp
        exact ⟨o, up _ (List.mem_cons_of_mem _ (List.mem_append.mpr (.inr (List.mem_append.mpr (.inr (List.mem_map_of_mem hp)))))) _ q, i⟩
      · have n : b ≠ I := fun z => hc (z ▸ hb)
        rw [HI_ne n, ← hH b n]; exact y.offH b hb }
/-- what stands as H is none of the owned -/
theorem At.notOwn (X : At W k A env s₀ P₀ H Γ Δ Mx P s) {I : Addr} {o : Obj} (h : H I = some o) : ∃ m cv ad, AtX env Γ Δ Mx H P m cv ad s.heap ∧ I ∉ ownOf env Δ ad Mx := by
  obtain ⟨m, cv, ad, y, hn⟩ := X.mnew
  exact ⟨m, cv, ad, y, fun hb => by rw [y.offH I hb] at h; cases h⟩

theorem s_for {x : Str} {px pos : Pos} {iter : Expr} {body rest : List Stmt} {its : List D} (X : At W k A env s₀ P₀ H Γ Δ Mx P s) (hI : EvI (W.at Mx) k env Γ Δ true iter its) (hb : Bindable env x)
    (J : Nat → List (Str × D) → List (Str × List D) → List (Addr × MO) → Prop) (B : List (Str × D) → List (Str × List D) → List (Addr × MO) → Prop) (hJ : J 0 Γ Δ Mx)
    (hJx : ∀ i Γ' Δ' Mx', J i Γ' Δ' Mx' → (∀ p ∈ Γ', p.1 ≠ x) ∧ (∀ p ∈ Δ', p.1 ≠ x))
    (turn : ∀ i d H' Γ' Δ' Mx' P' s' (E' : Value → Shared → Prop), its[i]? = some d → J i Γ' Δ' Mx' → At W k A env s₀ P' H' ((x, d) :: Γ') Δ' Mx' P' s' →
      (∀ Γ'' Δ'' Mx'' P'' s'', At W k A env s₀ P' H' Γ'' Δ'' Mx'' P'' s'' → At W k A env s₀ P₀ H Γ'' Δ'' Mx'' P'' s'') →
      wpAny W.M A (execs body env) (ForQ W k A env s₀ P' H' Q B (J (i + 1))) E' s')
    (done : ∀ Γ' Δ' Mx' P' s', J its.length Γ' Δ' Mx' ∨ B Γ' Δ' Mx' → At W k A env s₀ P₀ H Γ' Δ' Mx' P' s' → wpAny W.M A (execs rest env) Q E s')
    (hs : ∀ v, foldedSetIterable iter env v = pure v := by intro _; rfl) : wpAny W.M A (execs (.For (.Name x px) iter body [] pos :: rest) env) Q E s := by
  refine wpAny_execs_cons (wpAny_For (hI A _ P s E _ X.st X.cx fun I fp Pv Sx P₁ s₁ g₁ tk₁ hW hP hst₁ hIs hI0 hIx hfp => ?_) hs)
  have W' := hW A X.a.1
  obtain ⟨oI, hoI⟩ := hIx _ _ hst₁
  have zI := X.none₀ hIs
  have X₁ := X.gr g₁ tk₁
  have own₁ : ∃ m cv ad, AtX env Γ Δ Mx H P₁ m cv ad s₁.heap ∧ I ∉ ownOf env Δ ad Mx := by
    obtain ⟨m, cv, ad, y, _, ho⟩ := X.gr_own g₁
    exact ⟨m, cv, ad, y, ho I hIs⟩
  have P0I : P₀ I = none := by
    cases q : P₀ I with
    | none => rfl
    | some o => rw [X₁.le _ _ q] at hI0; cases hI0
  have HleI : ∀ h, Le H (HI H I h) := fun h b o e => by
    have n : b ≠ I := fun z => by rw [z, zI.2] at e; cases e
    rw [HI_ne n]; exact e
  -- the footprint stands, whatever the frame does
  have fpK : ∀ i (h h' : Heap) (P' : Vw), Sx i h → Le P₁ P' → In P' h' → (∀ o, h.get? I = some o → h'.get? I = some o) → In P' h → Sx i h' := fun i h h' P' q le inn hi inn0 => W'.frame i h h' q fun b hb o e => by
    by_cases z : b = I
    · subst z; exact hi o e
    · obtain ⟨o', _, hp⟩ := hfp b hb z
      have e1 := inn0 _ _ (le _ _ (hp rfl))
      rw [e] at e1; cases e1
      exact inn _ _ (le _ _ (hp rfl))
  refine codeAny_forLoop (fun j s' => ∃ i Γ' Δ' Mx' P', i ≤ its.length ∧ j = its.length + 1 - i ∧ J i Γ' Δ' Mx' ∧ Le P₁ P' ∧ P' I = none ∧ Sx i s'.heap ∧ At W k A env s₀ P₀ (HI H I s'.heap) Γ' Δ' Mx' P' s') ?_ (its.length + 1)
    ⟨0, Γ, Δ, Mx, P₁, Nat.zero_le _, rfl, hJ, Le.refl _, hI0, hst₁, X₁.iter (h' := s₁.heap) (fun _ _ => rfl) own₁ hI0 zI.1 (fun _ _ _ e => e) tk₁⟩
  rintro j s' ⟨i, Γ', Δ', Mx', P', hi, rfl, hJ', le', hPI, hst', X'⟩
  obtain ⟨oI', hoI'⟩ := hIx _ _ hst'
  have own' := X'.notOwn (I := I) (o := oI') (by rw [HI_at]; exact hoI')
  by_cases hlt : i < its.length
  · refine wp_tk X'.tk (W'.item i s' _ _ hlt hst' fun v h₂ tk₂ hPv hst₂ hk₂ tkv => ?_)
    obtain ⟨d, hd, hid⟩ := hP i v hPv
    have X₂ : At W k A env s₀ P₀ (HI H I h₂) Γ' Δ' Mx' P' { s' with heap := h₂, toks := tk₂ } := X'.iter (fun b n => HI_ne n) own' hPI zI.1 (fun b o n e => hk₂ b o (by simpa using n) e) tkv
    obtain ⟨hx1, hx2⟩ := hJx i Γ' Δ' Mx' hJ'
    obtain ⟨m, cv, ad, y, hn⟩ := X₂.mnew
    obtain ⟨oI₂, hoI₂⟩ := hIx _ _ hst₂
    refine wpAny_assign_Name (At.store X₂ y hn hb hx1 hx2 fun s₃ g1 _ g3 => ?_)
    have X₃ := (g1 d (hid.mono le')).1
    have hst₃ : Sx (i + 1) s₃.heap := fpK _ _ _ P' hst₂ le' X₃.inn (fun o e => X₃.hin _ _ (by rw [HI_at]; exact e)) X₂.inn
    refine wpAny_mono (turn i d (HI H I h₂) Γ' Δ' Mx' P' s₃ _ hd hJ' X₃.rebase fun Γ'' Δ'' Mx'' P'' s'' Y => (X₃.back Y).lessH (HleI h₂)) (fun f s₄ q => ?_) fun _ _ z => z
    have fin : ∀ Γ'' Δ'' Mx'' P'', At W k A env s₀ P₀ (HI H I h₂) Γ'' Δ'' Mx'' P'' s₄ → Le P₁ P'' → Sx (i + 1) s₄.heap → J (i + 1) Γ'' Δ'' Mx'' → ∃ m, m < its.length + 1 - i ∧ ∃ i Γ' Δ' Mx' P', i ≤ its.length ∧ m = its.length + 1 - i ∧ J i Γ' Δ' Mx' ∧ Le P₁ P' ∧ P' I = none ∧ Sx i s₄.heap ∧ At W k A env s₀ P₀ (HI H I s₄.heap) Γ' Δ' Mx' P' s₄ := by
      intro Γ'' Δ'' Mx'' P'' X₄ le4 st4 hJ4
      have hI4 : P'' I = none := by
        cases q : P'' I with
        | none => rfl
        | some o =>
          rcases X₄.newH I o q with z | z
          · rw [P0I] at z; cases z
          · rw [HI_at, hoI₂] at z; cases z
      have own4 := X₄.notOwn (I := I) (o := oI₂) (by rw [HI_at]; exact hoI₂)
      exact ⟨its.length + 1 - (i + 1), ar_step hlt, i + 1, Γ'', Δ'', Mx'', P'', hlt, rfl, hJ4, le4, hI4, st4, X₄.iter (h' := s₄.heap) (fun b n => HI_ne n) own4 hI4 zI.1 (fun _ _ _ e => e) X₄.tk⟩
    have go : ∀ Γ'' Δ'' Mx'' P'', J (i + 1) Γ'' Δ'' Mx'' → At W k A env s₀ P' (HI H I h₂) Γ'' Δ'' Mx'' P'' s₄ → ∃ m, m < its.length + 1 - i ∧ ∃ i Γ' Δ' Mx' P', i ≤ its.length ∧ m = its.length + 1 - i ∧ J i Γ' Δ' Mx' ∧ Le P₁ P' ∧ P' I = none ∧ Sx i s₄.heap ∧ At W k A env s₀ P₀ (HI H I s₄.heap) Γ' Δ' Mx' P' s₄ := by
      intro Γ'' Δ'' Mx'' P'' hJ4 Y
      exact fin Γ'' Δ'' Mx'' P'' (X₃.back Y) (le'.trans Y.le) (fpK _ _ _ P' hst₃ le' (Y.inn.le Y.le) (fun o e => by
        have e3 := X₃.hin I oI₂ (by rw [HI_at]; exact hoI₂)
        have e4 := Y.hin I oI₂ (by rw [HI_at]; exact hoI₂)
        rw [e3] at e; cases e; exact e4) X₃.inn) hJ4
    cases f with
    | next => obtain ⟨Γ'', Δ'', Mx'', P'', hJ4, Y⟩ := q; exact go _ _ _ _ hJ4 Y
    | cont => obtain ⟨Γ'', Δ'', Mx'', P'', hJ4, Y⟩ := q; exact go _ _ _ _ hJ4 Y
    | brk =>
      obtain ⟨Γ'', Δ'', Mx'', P'', hB, Y⟩ := q
      exact done Γ'' Δ'' Mx'' P'' s₄ (.inr hB) ((X₃.back Y).lessH (HleI h₂))
    | ret v => exact q
  · obtain rfl : i = its.length := Nat.le_antisymm hi (Nat.not_lt.mp hlt)
    refine wp_tk X'.tk (W'.done s' _ _ hst' fun h₂ tk₂ hk₂ tkd => ?_)
    have X₂ : At W k A env s₀ P₀ (HI H I h₂) Γ' Δ' Mx' P' { s' with heap := h₂, toks := tk₂ } := X'.iter (fun b n => HI_ne n) own' hPI zI.1 (fun b o n e => hk₂ b o (by simpa using n) e) tkd
    exact wpAny_execs_nil (done Γ' Δ' Mx' P' _ (.inl hJ') (X₂.lessH (HleI h₂)))
end
end
section
/-! ### calls that turn owned objects -/
structure GrM (X : List Addr) (P : Vw) (s : Shared) (P' : Vw) (s' : Shared) : Prop where
  le : Le P P'
  inn : In P' s'.heap
  old : ∀ b o, b ∉ X → s.heap.get? b = some o → s'.heap.get? b = some o
  ext : ∀ b o, s.heap.get? b = some o → ∃ o', s'.heap.get? b = some o'
  new : ∀ b o, P' b = some o → P b = some o ∨ s.heap.get? b = none
  gens : GG s.gens s'.gens
  drawn : s'.drawn = s.drawn
  os : s'.os = s.os
theorem Gr.m {P P' : Vw} {s s' : Shared} (g : Gr P s P' s') (X : List Addr) : GrM X P s P' s' := ⟨g.le, g.inn, fun b o _ e => g.old b o e, fun b o e => ⟨o, g.old b o e⟩, g.new, g.gens, g.drawn, g.os⟩
theorem GrM.gr {P P' : Vw} {s s' : Shared} (g : GrM [] P s P' s') : Gr P s P' s' := ⟨g.le, g.inn, fun b o e => g.old b o (by simp) e, g.new, g.gens, g.drawn, g.os⟩
theorem GrM.trans {X : List Addr} {P P' P'' : Vw} {s s' s'' : Shared} (x : GrM X P s P' s') (y : GrM X P' s' P'' s'') : GrM X P s P'' s'' :=
  ⟨x.le.trans y.le, y.inn, fun b o n e => y.old b o n (x.old b o n e), fun b o e => let ⟨o', q⟩ := x.ext b o e; y.ext b o' q,
    fun b o e => (y.new b o e).elim (x.new b o) fun q => .inr (by
      cases z : s.heap.get? b with
      | none => rfl
      | some o' => obtain ⟨o'', w⟩ := x.ext b o' z; rw [q] at w; cases w), x.gens.trans y.gens, y.drawn.trans x.drawn, y.os.trans x.os⟩
theorem GrM.wide {X Y : List Addr} {P P' : Vw} {s s' : Shared} (x : GrM X P s P' s') (h : ∀ b ∈ X, b ∈ Y) : GrM Y P s P' s' :=
  ⟨x.le, x.inn, fun b o n e => x.old b o (fun q => n (h b q)) e, x.ext, x.new, x.gens, x.drawn, x.os⟩
noncomputable abbrev ads (Mx : List (Addr × MO)) : List Addr := Mx.map (·.1)
structure Dv (P : Vw) (s : Shared) (Mx : List (Addr × MO)) : Prop where
  has : ∀ p ∈ Mx, ∃ o, s.heap.get? p.1 = some o ∧ MIs P o p.2
  nd : (ads Mx).Nodup
  off : ∀ p ∈ Mx, P p.1 = none
noncomputable def ClM (W : Wd) (k : Nat) (f : Value) (ds : List D) (d : D) (Mx Mx' : List (Addr × MO)) : Prop :=
  ∀ (A : Around) (S P : Vw) (s : Shared) (E Q : Value → Shared → Prop) (vs : List Value), St W k A S P s → IsAll P vs ds → Dv P s Mx →
    (∀ v P' s', GrM (ads Mx) P s P' s' → 1 ≤ s'.toks → Dv P' s' Mx' → Is P' v d → Q v s') → wpAny W.M A (call f vs) Q E s
theorem ClM.pure {W : Wd} {k : Nat} {f : Value} {ds : List D} {d : D} (h : ClM W k f ds d [] []) : Cl W k f ds d := fun A S P s E Q vs st i hQ =>
  h A S P s E Q vs st i ⟨by simp, by simp [ads], by simp⟩ fun v P' s' g tk _ i' => hQ v P' s' g.gr i'

/-! ### entering a def -/
theorem bindL_not {kd : Str → Option NameKind} {x : Str} : ∀ {l : List (Str × Value)} {m : Str → Option Value}, x ∉ l.map (·.1) → bindL kd l m x = m x
  | [], _, _ => rfl
  | (n, v) :: r, m, h => by
    have h' : x ≠ n ∧ x ∉ r.map (·.1) := by simpa using h
    unfold bindL
    rw [bindL_not h'.2]
    split
    · simp [h'.1]
    · rfl
theorem bindC_not {kd : Str → Option NameKind} {x : Str} : ∀ {l : List (Str × Value)} {m : Str → Option Value}, x ∉ l.map (·.1) → bindC kd l m x = m x
  | [], _, _ => rfl
  | (n, v) :: r, m, h => by
    have h' : x ≠ n ∧ x ∉ r.map (·.1) := by simpa using h
    unfold bindC
    rw [bindC_not h'.2]
    split
    · rfl
    · simp [h'.1]
theorem bindL_mem {kd : Str → Option NameKind} {x : Str} {v : Value} : ∀ {l : List (Str × Value)} {m : Str → Option Value}, (l.map (·.1)).Nodup → (x, v) ∈ l → kd x = some .local → bindL kd l m x = some v
  | (n, u) :: r, m, nd, h, hk => by
    have nd' := List.nodup_cons.mp nd
    unfold bindL
    rcases List.mem_cons.mp h with e | h
    · cases e
      rw [bindL_not nd'.1, if_pos hk, if_pos rfl]
    · exact bindL_mem nd'.2 h hk
theorem bindC_mem {kd : Str → Option NameKind} {x : Str} {v : Value} : ∀ {l : List (Str × Value)} {m : Str → Option Value}, (l.map (·.1)).Nodup → (x, v) ∈ l → kd x = some .cell → bindC kd l m x = some v
  | (n, u) :: r, m, nd, h, hk => by
    have nd' := List.nodup_cons.mp nd
    unfold bindC
    rcases List.mem_cons.mp h with e | h
    · cases e
      rw [bindC_not nd'.1, if_neg (by rw [hk]; decide), if_pos rfl]
    · exact bindC_mem nd'.2 h hk
theorem cellsFrom_names : ∀ (names : List (Str × NameKind)) (n : Nat) (acc : List (Str × Addr)), ((cellsFrom n names acc).map (·.1)).Perm (((names.filter (·.2 == .cell)).map (·.1)) ++ acc.map (·.1))
  | [], n, acc => by simp [cellsFrom]
  | (x, kd) :: r, n, acc => by
    unfold cellsFrom
    cases h : kd == NameKind.cell with
    | true =>
      rw [if_pos rfl]
      refine (cellsFrom_names r (n + 1) ((x, n) :: acc)).trans ?_
      rw [List.filter_cons, if_pos (by exact h)]
      exact List.perm_middle
    | false =>
      rw [if_neg Bool.false_ne_true]
      refine (cellsFrom_names r n acc).trans ?_
      rw [List.filter_cons, if_neg (by simp [h])]
theorem lookup_of_mem {α : Type} {x : Str} {c : α} : ∀ {l : List (Str × α)}, (l.map (·.1)).Nodup → (x, c) ∈ l → l.lookup x = some c
  | (y, u) :: r, nd, h => by
    have nd' := List.nodup_cons.mp nd
    rcases List.mem_cons.mp h with e | h
    · cases e; simp
    · have : x ≠ y := fun q => nd'.1 (q ▸ List.mem_map_of_mem (f := (·.1)) h)
      rw [List.lookup_cons, beq_eq_false_iff_ne.mpr this]
      exact lookup_of_mem nd'.2 h

structure FnPre (W : Wd) (P : Vw) (f : Addr) (fd : FuncData) (body : List Stmt) (names : List Str) : Prop where
  has : ∃ o, P f = some o ∧ o.data = .func fd
  code : codeIn W.K fd.code fd.qualname = true
  body : fd.body = .stmts body
  bind : ∀ vs : List Value, vs.length = names.length → bindArgs fd ⟨vs, []⟩ = pure (names.zip vs)
  clo : fd.closure = []
  kind : ∀ x ∈ names, fd.scope.names.lookup x = some .local ∨ (fd.scope.names.lookup x = some .cell ∧ x ∈ (fd.scope.names.filter (·.2 == .cell)).map (·.1))
  nd : names.Nodup
  cnd : ((fd.scope.names.filter (·.2 == .cell)).map (·.1)).Nodup
  gl : fd.globals = mainGlobals
  bi : fd.builtins = builtinsNs
  fn : fd.scope.kind = .function
  co : fd.scope.isCoroutine = false
open Classical in
structure FnIn (W : Wd) (P : Vw) (f : Addr) (fd : FuncData) (body : List Stmt) (names : List Str) : Prop where
  has : ∃ o, P f = some o ∧ o.data = .func fd
  code : codeIn W.K fd.code fd.qualname = true
  body : fd.body = .stmts body
  bind : ∀ vs : List Value, vs.length = names.length → bindArgs fd ⟨vs, []⟩ = pure (names.zip vs)
  clo : fd.closure = []
  kind : ∀ x ∈ names, fd.scope.names.lookup x = some .local ∨ (fd.scope.names.lookup x = some .cell ∧ x ∈ (fd.scope.names.filter (·.2 == .cell)).map (·.1))
  nd : names.Nodup
  cnd : ((fd.scope.names.filter (·.2 == .cell)).map (·.1)).Nodup
  gl : fd.globals = mainGlobals
  bi : fd.builtins = builtinsNs
  fn : fd.scope.kind = .function
  co : fd.scope.isCoroutine = false
  gen : fd.scope.isGenerator = false
open Classical in
theorem FnIn.pre {W : Wd} {P : Vw} {f : Addr} {fd : FuncData} {body : List Stmt} {names : List Str} (x : FnIn W P f fd body names) : FnPre W P f fd body names := ⟨x.has, x.code, x.body, x.bind, x.clo, x.kind, x.nd, x.cnd, x.gl, x.bi, x.fn, x.co⟩
noncomputable def offX (X : List Addr) (h : Heap) : Vw := fun b => if b ∈ X then none else h.get? b
theorem offX_in {X : List Addr} {h : Heap} : In (offX X h) h := fun b o e => by
  unfold offX at e
  split at e
  · cases e
  · exact e
theorem offX_none {X : List Addr} {h : Heap} {b : Addr} (hb : b ∈ X) : offX X h b = none := if_pos hb
theorem offX_fresh {X : List Addr} {h : Heap} {b : Addr} (hb : h.get? b = none) : offX X h b = none := by
  unfold offX; split
  · rfl
  · exact hb
theorem offX_old {X : List Addr} {h : Heap} {b : Addr} {o : Obj} (hb : b ∉ X) (e : h.get? b = some o) : offX X h b = some o := by
  unfold offX; rw [if_neg hb]; exact e
/-- where the body of a def begins -/
theorem at_enter {W : Wd} {k : Nat} {A : Around} {S P : Vw} {s s₁ : Shared} {f : Addr} {fd : FuncData} {body : List Stmt} {names : List Str} {vs : List Value} {ds : List D} {Mx : List (Addr × MO)} (F : FnPre W P f fd body names) (st : St W (k + 1) A S P s) (i : IsAll P vs ds) (hl : ds.length = names.length)
    (dv : Dv P s Mx) (tk : 1 ≤ s₁.toks)
    (x : InCallC s (callEnvC fd s.heap.objs.size f).locals (bindL (callEnvC fd s.heap.objs.size f).kindOf (names.zip vs) fun _ => none) (callEnvC fd s.heap.objs.size f).cells (bindC (callEnvC fd s.heap.objs.size f).kindOf (names.zip vs) fun _ => none) s₁) :
    At W k (A.deeper (callEnvC fd s.heap.objs.size f)) (callEnvC fd s.heap.objs.size f) s P (offX (ads Mx) s.heap) (names.zip ds) [] Mx P s₁ := by
  have hcn : ((callEnvC fd s.heap.objs.size f).cells.map (·.1)).Nodup := by
    have := cellsFrom_names fd.scope.names (s.heap.objs.size + 1) []
    rw [List.map_nil, List.append_nil] at this
    exact this.nodup_iff.mpr F.cnd
  have hlv : vs.length = names.length := i.length.trans hl
  have hnz : ((names.zip vs).map (·.1)) = names := by rw [List.map_fst_zip (Nat.le_of_eq hlv.symm)]
  have fr : ∀ b, s.heap.objs.size ≤ b → s.heap.get? b = none := fun b h => Heap.get?_none_of_le h
  have hL : s.heap.objs.size ≤ (callEnvC fd s.heap.objs.size f).locals := x.toInCall.fresh
  obtain ⟨h', tk', rfl⟩ := x.toInCall.same
  refine ⟨st.a.deeper, st.b, tk, F.fn, F.gl, F.bi, Le.refl _, fun b o e => x.toInCall.keep b o (st.p _ _ e), fun b o e => x.toInCall.keep b o (offX_in _ _ e), fun b o e => .inl e, fun b o e => .inl e,
    fun b o e => ⟨o, x.toInCall.keep b o e⟩, ⟨_, bindC (callEnvC fd s.heap.objs.size f).kindOf (names.zip vs) fun _ => none, fun _ => 0, ⟨x.toInCall.ns, fun p hp => ?_, fun p hp => ?_, fun p hp => (nomatch hp), fun p hp => let ⟨o, q, i⟩ := dv.has p hp; ⟨o, x.toInCall.keep _ _ q, i⟩, ?_, hcn, fun b hb => ?_, fun b hb => ?_⟩, fun p hp => (nomatch hp)⟩, GG.refl _, rfl, rfl⟩
  · exact x.cell p.1 p.2 (lookup_of_mem hcn hp)
  · obtain ⟨j, hj, e⟩ := List.mem_iff_getElem.mp hp
    rw [List.length_zip] at hj
    have hj1 : j < names.length := Nat.lt_of_lt_of_le hj (Nat.min_le_left _ _)
    have hj2 : j < ds.length := Nat.lt_of_lt_of_le hj (Nat.min_le_right _ _)
    rw [List.getElem_zip] at e
    obtain ⟨v, hv, hi⟩ := i.get (k := j) (d := ds[j]) (List.getElem?_eq_getElem hj2)
    have hjv : j < vs.length := hlv ▸ hj1
    have hm : (names[j], v) ∈ names.zip vs := by
      refine List.mem_iff_getElem.mpr ⟨j, by rw [List.length_zip]; exact Nat.lt_min.mpr ⟨hj1, hjv⟩, ?_⟩
      rw [List.getElem_zip]
      rw [List.getElem?_eq_getElem hjv] at hv
      rw [Option.some.inj hv]
    rw [← e]
    refine ⟨v, ?_, hi⟩
    unfold lookN
    have ndz : ((names.zip vs).map (·.1)).Nodup := by rw [hnz]; exact F.nd
    rcases F.kind names[j] (List.getElem_mem hj1) with hk | ⟨hk, hc⟩
    · rw [show (callEnvC fd s.heap.objs.size f).kindOf names[j] = some .local from hk]
      exact bindL_mem ndz hm hk
    · rw [show (callEnvC fd s.heap.objs.size f).kindOf names[j] = some .cell from hk]
      have hc' : names[j] ∈ ((callEnvC fd s.heap.objs.size f).cells.map (·.1)) := by
        have := cellsFrom_names fd.scope.names (s.heap.objs.size + 1) []
        rw [List.map_nil, List.append_nil] at this
        exact this.mem_iff.mpr hc
      obtain ⟨p, hp, hpe⟩ := List.mem_map.mp hc'
      have hlk := lookup_of_mem (x := p.1) (c := p.2) hcn hp
      rw [hpe] at hlk
      rw [hlk]
      exact bindC_mem ndz hm hk
  · refine List.nodup_cons.mpr ⟨fun h => ?_, List.nodup_append.mpr ⟨?_, by simpa using dv.nd, fun a ha b hb e => ?_⟩⟩
    · rcases List.mem_append.mp h with h | h
      · obtain ⟨p, hp, e⟩ := List.mem_map.mp h
        exact Nat.ne_of_gt (x.above p.1 p.2 hp) e
      · obtain ⟨p, hp, e⟩ := List.mem_map.mp (by simpa using h : _ ∈ ads Mx)
        obtain ⟨o, this, _⟩ := dv.has p hp
        rw [e, fr _ hL] at this; cases this
    · exact List.pairwise_map.mpr x.apart
    · obtain ⟨p, hp, rfl⟩ := List.mem_map.mp ha
      obtain ⟨q, hq, rfl⟩ := List.mem_map.mp (by simpa using hb : b ∈ ads Mx)
      obtain ⟨o, this, _⟩ := dv.has q hq
      rw [← e, fr _ (Nat.le_trans hL (Nat.le_of_lt (x.above p.1 p.2 hp)))] at this; cases this
  · rcases List.mem_cons.mp hb with rfl | hb
    · cases q : P (callEnvC fd s.heap.objs.size f).locals with
      | none => rfl
      | some o => have := st.p _ _ q; rw [fr _ hL] at this; cases this
    · rcases List.mem_append.mp hb with hb | hb
      · obtain ⟨p, hp, rfl⟩ := List.mem_map.mp hb
        cases q : P p.2 with
        | none => rfl
        | some o => have := st.p _ _ q; rw [fr _ (Nat.le_trans hL (Nat.le_of_lt (x.above p.1 p.2 hp)))] at this; cases this
      · obtain ⟨p, hp, rfl⟩ := List.mem_map.mp (by simpa using hb : b ∈ ads Mx)
        exact dv.off p hp
  · rcases List.mem_cons.mp hb with rfl | hb
    · exact offX_fresh (fr _ hL)
    · rcases List.mem_append.mp hb with hb | hb
      · obtain ⟨p, hp, rfl⟩ := List.mem_map.mp hb
        exact offX_fresh (fr _ (Nat.le_trans hL (Nat.le_of_lt (x.above p.1 p.2 hp))))
      · exact offX_none (by simpa using hb)
/-- what a body comes to -/
noncomputable def FinM (W : Wd) (k : Nat) (A : Around) (env : Env) (s₀ : Shared) (P₀ H : Vw) (Mx' : List (Addr × MO)) (d : D) (fl : Flow) (s' : Shared) : Prop :=
  ∃ P' Γ' Δ' rest, At W k A env s₀ P₀ H Γ' Δ' (Mx' ++ rest) P' s' ∧ Is P' (match fl with | .ret v => v | _ => .none) d
theorem At.leave {W : Wd} {k : Nat} {A : Around} {env : Env} {s₀ s : Shared} {P₀ P : Vw} {X : List Addr} {Γ : List (Str × D)} {Δ : List (Str × List D)} {Mx rest : List (Addr × MO)} (Y : At W k A env s₀ P₀ (offX X s₀.heap) Γ Δ (Mx ++ rest) P s) (hX : ads Mx = X) : GrM X P₀ s₀ P s ∧ Dv P s Mx := by
  obtain ⟨m, cv, ad, y, hn⟩ := Y.mnew
  refine ⟨⟨Y.le, Y.inn, fun b o n e => Y.hin b o (offX_old n e), Y.ext, Y.new, Y.gens, Y.drawn, Y.os⟩, fun p hp => y.raw p (List.mem_append_left _ hp), ?_, fun p hp => y.offP p.1 ?_⟩
  · have h1 := (List.nodup_append.mp (List.nodup_cons.mp y.nd).2).2.1
    have h2 := (List.nodup_append.mp h1).2.1
    rw [List.map_append] at h2
    exact (List.nodup_append.mp h2).1
  · exact List.mem_cons_of_mem _ (List.mem_append_right _ (List.mem_append_right _ (List.mem_map_of_mem (List.mem_append_left _ hp))))
/-- the same, of the code of a call -/
noncomputable def KlM (W : Wd) (k : Nat) (f : Value) (ds : List D) (d : D) (Mx Mx' : List (Addr × MO)) : Prop :=
  ∀ (A : Around) (S P : Vw) (s : Shared) (R : Result → Shared → Prop) (vs : List Value), St W k A S P s → IsAll P vs ds → Dv P s Mx →
    (∀ v P' s', GrM (ads Mx) P s P' s' → 1 ≤ s'.toks → Dv P' s' Mx' → Is P' v d → R (.ok (.ret v)) s') → codeAny W.M A (.call f ⟨vs, []⟩) R s
theorem KlM.cl {W : Wd} {k : Nat} {f : Value} {ds : List D} {d : D} {Mx Mx' : List (Addr × MO)} (h : KlM W k f ds d Mx Mx') : ClM W k f ds d Mx Mx' := fun A S P s E Q vs st i dv hQ =>
  wpAny_call (h A S P s _ vs st i dv fun v P' s' g tk dv' i' => hQ v P' s' g tk dv' i')
theorem klm_fn {W : Wd} {k : Nat} {f : Addr} {fd : FuncData} {body : List Stmt} {names : List Str} {ds : List D} {d : D} {Mx Mx' : List (Addr × MO)} (F : ∀ P, W.B P → FnIn W P f fd body names) (hl : ds.length = names.length) (hX : ads Mx' = ads Mx)
    (hb : ∀ A L s₀ P₀ P s, Le P₀ P → At W k A (callEnvC fd L f) s₀ P₀ (offX (ads Mx) s₀.heap) (names.zip ds) [] Mx P s →
      wpAny W.M A (execs body (callEnvC fd L f)) (FinM W k A (callEnvC fd L f) s₀ P₀ (offX (ads Mx) s₀.heap) Mx' d) (fun _ _ => False) s) : KlM W (k + 1) (.ref f) ds d Mx Mx' := by
  intro A S P s R vs st i dv hQ
  have F := F P st.b
  obtain ⟨o, ho, hd⟩ := F.has
  have T := st.b.top s.heap st.p
  refine codeAny_call_function (Nat.lt_of_le_of_lt (Nat.le_add_right _ _) st.a.2.1) (st.p _ _ ho) hd F.co F.gen F.body (codeRec_of (Bs.frag st.b st.p) F.code) ?_
  rw [F.bind vs (i.length.trans hl), F.clo]
  refine wpAny_pure (wp_tk st.tk (wpAny_newFunctionEnv_cells F.fn (fun x hx => ?_) fun env he s' x tk => ?_))
  · have hx1 := (List.of_mem_zip (a := x.1) (b := x.2) hx).1
    rcases F.kind x.1 hx1 with h | ⟨h, hc⟩
    · exact .inl h
    · refine .inr ⟨h, ?_⟩
      have := cellsFrom_names fd.scope.names (s.heap.objs.size + 1) []
      rw [List.map_nil, List.append_nil] at this
      obtain ⟨p, hp, hpe⟩ := List.mem_map.mp (this.mem_iff.mpr hc)
      have hcn := this.nodup_iff.mpr F.cnd
      rw [← hpe, lookup_of_mem hcn hp]; rfl
  · subst he
    refine ⟨T.nolimit.keeps x.toInCall.keep, codeAny_func (wpAny_mono (hb _ s.heap.objs.size s P P s' (Le.refl _) (at_enter F.pre st i hl dv tk x)) (fun fl s'' hf => ?_) fun _ _ h => h.elim)⟩
    obtain ⟨P', Γ', Δ', rest, Y, hi⟩ := hf
    obtain ⟨g, dv'⟩ := Y.leave hX
    exact hQ _ P' s'' g Y.tk dv' hi
theorem clm_fn {W : Wd} {k : Nat} {f : Addr} {fd : FuncData} {body : List Stmt} {names : List Str} {ds : List D} {d : D} {Mx Mx' : List (Addr × MO)} (F : ∀ P, W.B P → FnIn W P f fd body names) (hl : ds.length = names.length) (hX : ads Mx' = ads Mx)
    (hb : ∀ A L s₀ P₀ P s, Le P₀ P → At W k A (callEnvC fd L f) s₀ P₀ (offX (ads Mx) s₀.heap) (names.zip ds) [] Mx P s →
      wpAny W.M A (execs body (callEnvC fd L f)) (FinM W k A (callEnvC fd L f) s₀ P₀ (offX (ads Mx) s₀.heap) Mx' d) (fun _ _ => False) s) : ClM W (k + 1) (.ref f) ds d Mx Mx' := (klm_fn F hl hX hb).cl
noncomputable abbrev Done (W : Wd) (k : Nat) (A : Around) (env : Env) (s₀ : Shared) (P₀ H : Vw) (d : D) (fl : Flow) (s' : Shared) : Prop := ∃ P' Γ' Δ' Mx', At W k A env s₀ P₀ H Γ' Δ' Mx' P' s' ∧ Is P' (match fl with | .ret v => v | _ => .none) d
/-- a def that turns nothing -/
theorem cl_fn {W : Wd} {k : Nat} {f : Addr} {fd : FuncData} {body : List Stmt} {names : List Str} {ds : List D} {d : D} (F : ∀ P, W.B P → FnIn W P f fd body names) (hl : ds.length = names.length)
    (hb : ∀ A L s₀ P₀ H P s, At W k A (callEnvC fd L f) s₀ P₀ H (names.zip ds) [] [] P s →
      wpAny W.M A (execs body (callEnvC fd L f)) (Done W k A (callEnvC fd L f) s₀ P₀ H d) (fun _ _ => False) s) : Cl W (k + 1) (.ref f) ds d :=
  ClM.pure (clm_fn F hl rfl fun A L s₀ P₀ P s _ X =>
    wpAny_mono (hb A L s₀ P₀ _ P s X) (fun fl s' h => h) fun _ _ h => h)
end
section
section
variable {W : Wd} {k : Nat} {A : Around} {env : Env} {s₀ : Shared} {P₀ H : Vw} {Γ : List (Str × D)} {Δ : List (Str × List D)} {Mx : List (Addr × MO)} {P : Vw} {s : Shared} {E : Value → Shared → Prop} {Q : Flow → Shared → Prop}

/-! ### names that go -/
noncomputable def rm {α : Type} (x : Str) (l : List (Str × α)) : List (Str × α) := l.filter fun p => !(p.1 == x)
theorem rm_ne {α : Type} {x : Str} {l : List (Str × α)} : ∀ p ∈ rm x l, p.1 ≠ x := fun p hp => by
  have := (List.mem_filter.mp hp).2
  simpa using this
theorem rm_sub {α : Type} {x : Str} {l : List (Str × α)} : ∀ p ∈ rm x l, p ∈ l := fun p hp => (List.mem_filter.mp hp).1
theorem rm_mem {α : Type} {x y : Str} {d : α} {l : List (Str × α)} (h : (y == x) = false) (hm : (y, d) ∈ l) : (y, d) ∈ rm x l := List.mem_filter.mpr ⟨hm, by show (!(y == x)) = true; rw [h]; rfl⟩
theorem At.less (X : At W k A env s₀ P₀ H Γ Δ Mx P s) (x : Str) : At W k A env s₀ P₀ H (rm x Γ) (rm x Δ) Mx P s := (X.forget rm_sub).drop List.filter_sublist
theorem At.permM {Mx' : List (Addr × MO)} (X : At W k A env s₀ P₀ H Γ Δ Mx P s) (h : Mx'.Perm Mx) : At W k A env s₀ P₀ H Γ Δ Mx' P s := by
  obtain ⟨m, cv, ad, y, hn⟩ := X.mnew
  have hp : (ownOf env Δ ad Mx').Perm (ownOf env Δ ad Mx) := List.Perm.cons _ (List.Perm.append (List.Perm.refl _) (List.Perm.append (List.Perm.refl _) (h.map _)))
  exact { X with mnew := ⟨m, cv, ad, { y with raw := fun p q => y.raw p (h.subset q), nd := hp.nodup_iff.mpr y.nd, offP := fun b hb => y.offP b (hp.subset hb), offH := fun b hb => y.offH b (hp.subset hb) }, hn⟩ }

theorem AtX.gr {m cv : Str → Option Value} {ad : Str → Addr} {P' : Vw} {s' : Shared} (y : AtX env Γ Δ Mx H P m cv ad s.heap) (g : Gr P s P' s') : AtX env Γ Δ Mx H P' m cv ad s'.heap := by
  refine ⟨y.ns.keeps g.old, fun p hp => ?_, fun p hp => ?_, fun p hp => ?_, fun p hp => (y.raw p hp).imp fun o hh => ⟨g.old _ _ hh.1, hh.2.mono g.le⟩, y.nd, y.cnd, fun b hb => (gr_none g ⟨y.offP b hb, y.exist b hb⟩).1, y.offH⟩
  · obtain ⟨o, q, d⟩ := y.cells p hp; exact ⟨o, g.old _ _ q, d⟩
  · obtain ⟨v, e, i⟩ := y.vars p hp; exact ⟨v, e, i.mono g.le⟩
  · obtain ⟨vs, n, e, q, i⟩ := y.muts p hp; exact ⟨vs, n, e, g.old _ _ q, i.mono g.le⟩

/-- the first list that turns takes new items -/
theorem At.turn {x : Str} {ds ds' : List D} {m cv : Str → Option Value} {ad : Str → Addr} {vs' : List Value} {n' : Nat} {h' : Heap} {tk' : Nat} (X : At W k A env s₀ P₀ H Γ ((x, ds) :: Δ) Mx P s) (y : AtX env Γ ((x, ds) :: Δ) Mx H P m cv ad s.heap) (hn : ∀ p ∈ (x, ds) :: Δ, s₀.heap.get? (ad p.1) = none)
    (tk : 1 ≤ tk') (hk : ∀ b o, b ≠ ad x → s.heap.get? b = some o → h'.get? b = some o) (he : h'.get? (ad x) = some (listOf vs'.toArray n')) (hi : IsAll P vs' ds') : At W k A env s₀ P₀ H Γ ((x, ds') :: Δ) Mx P { s with heap := h', toks := tk' } := by
  have hmem : ad x ∈ ownOf env ((x, ds) :: Δ) ad Mx := List.mem_cons_of_mem _ (List.mem_append_right _ (List.mem_append_left _ (List.mem_map_of_mem (f := fun p => ad p.1) (List.mem_cons_self (a := (x, ds))))))
  have nd := List.nodup_cons.mp y.nd
  have nd2 := List.nodup_append.mp nd.2
  have nd3 := List.nodup_append.mp nd2.2.1
  have nd4 := List.nodup_cons.mp nd3.1
  refine { X with
    tk := tk
    inn := keep_but X.inn hk (y.offP _ hmem)
    hin := keep_but X.hin hk (y.offH _ hmem)
    ext := fun b o e => by
      obtain ⟨o', q⟩ := X.ext b o e
      by_cases hb : b = ad x
      · rw [hb]; exact ⟨_, he⟩
      · exact ⟨o', hk _ _ hb q⟩
    mnew := ⟨m, cv, ad, ⟨y.ns.at' fun o e => hk _ o (fun z => nd.1 (z ▸ List.mem_append_right _ (List.mem_append_left _ List.mem_cons_self))) e, fun p hp => ?_, y.vars, fun p hp => ?_, fun p hp => ?_, y.nd, y.cnd, y.offP, y.offH⟩, fun p hp => ?_⟩ }
  · obtain ⟨o, q, d⟩ := y.cells p hp
    exact ⟨o, hk _ _ (fun z => nd2.2.2 p.2 (List.mem_map_of_mem hp) (ad x) (List.mem_append_left _ List.mem_cons_self) z) q, d⟩
  · rcases List.mem_cons.mp hp with rfl | hp
    · obtain ⟨vs, n, e, q, i⟩ := y.muts _ List.mem_cons_self
      exact ⟨vs', n', e, he, hi⟩
    · obtain ⟨vs, n, e, q, i⟩ := y.muts _ (List.mem_cons_of_mem _ hp)
      refine ⟨vs, n, e, hk _ _ (fun z => nd4.1 ?_) q, i⟩
      have hm := List.mem_map_of_mem (f := fun p => ad p.1) hp
      show ad x ∈ _
      rw [← z]; exact hm
  · obtain ⟨o, q, i⟩ := y.raw p hp
    exact ⟨o, hk _ _ (fun z => nd3.2.2 (ad x) List.mem_cons_self p.1 (List.mem_map_of_mem hp) z.symm) q, i⟩
  · rcases List.mem_cons.mp hp with rfl | hp
    · exact hn (x, ds) List.mem_cons_self
    · exact hn p (List.mem_cons_of_mem _ hp)
/-- the first raw object is changed -/
theorem At.turnR {a : Addr} {o o' : MO} {ob : Obj} {h' : Heap} {tk' : Nat} (X : At W k A env s₀ P₀ H Γ Δ ((a, o) :: Mx) P s) (tk : 1 ≤ tk') (hk : ∀ b o, b ≠ a → s.heap.get? b = some o → h'.get? b = some o) (he : h'.get? a = some ob) (hi : MIs P ob o') :
    At W k A env s₀ P₀ H Γ Δ ((a, o') :: Mx) P { s with heap := h', toks := tk' } := by
  obtain ⟨m, cv, ad, y, hn⟩ := X.mnew
  have hmem : a ∈ ownOf env Δ ad ((a, o) :: Mx) := List.mem_cons_of_mem _ (List.mem_append_right _ (List.mem_append_right _ List.mem_cons_self))
  have nd := List.nodup_cons.mp y.nd
  have nd2 := List.nodup_append.mp nd.2
  have nd3 := List.nodup_append.mp nd2.2.1
  have nd4 := List.nodup_cons.mp nd3.2.1
  refine { X with
    tk := tk
    inn := keep_but X.inn hk (y.offP _ hmem)
    hin := keep_but X.hin hk (y.offH _ hmem)
    ext := fun b o e => by
      obtain ⟨o', q⟩ := X.ext b o e
      by_cases hb : b = a
      · rw [hb]; exact ⟨_, he⟩
      · exact ⟨o', hk _ _ hb q⟩
    mnew := ⟨m, cv, ad, ⟨y.ns.at' fun o e => hk _ o (fun z => nd.1 (z ▸ List.mem_append_right _ (List.mem_append_right _ List.mem_cons_self))) e, fun p hp => ?_, y.vars, fun p hp => ?_, fun p hp => ?_, y.nd, y.cnd, y.offP, y.offH⟩, hn⟩ }
  · obtain ⟨o, q, d⟩ := y.cells p hp
    exact ⟨o, hk _ _ (fun z => nd2.2.2 p.2 (List.mem_map_of_mem hp) a (List.mem_append_right _ List.mem_cons_self) z) q, d⟩
  · obtain ⟨vs, n, e, q, i⟩ := y.muts _ hp
    exact ⟨vs, n, e, hk _ _ (fun z => nd3.2.2 (ad p.1) (List.mem_map_of_mem (f := fun p => ad p.1) hp) a List.mem_cons_self z) q, i⟩
  · rcases List.mem_cons.mp hp with rfl | hp
    · exact ⟨_, he, hi⟩
    · obtain ⟨o, q, i⟩ := y.raw p (List.mem_cons_of_mem _ hp)
      exact ⟨o, hk _ _ (fun z => nd4.1 (z ▸ List.mem_map_of_mem (f := (·.1)) hp)) q, i⟩
/-- a list that turned turns no more: it becomes data -/
theorem addV_in {h : Heap} {a : Addr} {o : Obj} (p : In P h) (e : h.get? a = some o) : In (addV P a o) h := fun b o' q => by
  by_cases hb : b = a
  · subst hb; rw [addV_at] at q; cases q; exact e
  · rw [addV_ne hb] at q; exact p _ _ q
theorem At.freeze {x : Str} {ds : List D} (X : At W k A env s₀ P₀ H Γ ((x, ds) :: Δ) Mx P s) : ∃ P', At W k A env s₀ P₀ H ((x, .list ds) :: Γ) Δ Mx P' s := by
  obtain ⟨m, cv, ad, y, hn⟩ := X.mnew
  obtain ⟨vs, n, e, q, i⟩ := y.muts _ List.mem_cons_self
  have hmem : ad x ∈ ownOf env ((x, ds) :: Δ) ad Mx := List.mem_cons_of_mem _ (List.mem_append_right _ (List.mem_append_left _ (List.mem_map_of_mem (f := fun p => ad p.1) (List.mem_cons_self (a := (x, ds))))))
  have hP := y.offP _ hmem
  have hH := y.offH _ hmem
  have hs : (ownOf env Δ ad Mx).Sublist (ownOf env ((x, ds) :: Δ) ad Mx) := List.Sublist.cons_cons _ (List.Sublist.append (List.Sublist.refl _) (List.Sublist.append ((List.sublist_cons_self _ _).map _) (List.Sublist.refl _)))
  have hx : ad x ∉ ownOf env Δ ad Mx := by
    have : (ownOf env ((x, ds) :: Δ) ad Mx).Perm (ad x :: ownOf env Δ ad Mx) := by
      show (env.locals :: (env.cells.map (·.2) ++ ((ad x :: Δ.map (fun p => ad p.1)) ++ Mx.map (·.1)))).Perm _
      refine List.Perm.trans ?_ (List.Perm.swap _ _ _)
      exact List.Perm.cons _ List.perm_middle
    exact (List.nodup_cons.mp (this.nodup_iff.mp y.nd)).1
  have h0 := hn _ List.mem_cons_self
  refine ⟨addV P (ad x) (PySem.W.listOf vs.toArray n), { X with
    b := X.b.up (addV_le hP)
    le := X.le.trans (addV_le hP)
    inn := addV_in X.inn q
    new := fun b o e' => by
      by_cases hb : b = ad x
      · subst hb; exact .inr h0
      · rw [addV_ne hb] at e'; exact X.new _ _ e'
    newH := fun b o e' => by
      by_cases hb : b = ad x
      · subst hb; exact .inr hH
      · rw [addV_ne hb] at e'; exact X.newH _ _ e'
    mnew := ⟨m, cv, ad, ⟨y.ns, y.cells, fun p hp => ?_, fun p hp => ?_, fun p hp => (y.raw p hp).imp fun o hh => ⟨hh.1, hh.2.mono (addV_le hP)⟩, y.nd.sublist hs, y.cnd, fun b hb => ?_, fun b hb => y.offH b (hs.subset hb)⟩, fun p hp => hn p (List.mem_cons_of_mem _ hp)⟩ }⟩
  · rcases List.mem_cons.mp hp with rfl | hp
    · exact ⟨_, e, .list addV_at (i.mono (addV_le hP))⟩
    · obtain ⟨v, e, i⟩ := y.vars p hp
      exact ⟨v, e, i.mono (addV_le hP)⟩
  · obtain ⟨vs, n, e, q, i⟩ := y.muts p (List.mem_cons_of_mem _ hp)
    exact ⟨vs, n, e, q, i.mono (addV_le hP)⟩
  · rw [addV_ne (fun z : b = ad x => hx (z ▸ hb))]
    exact y.offP b (hs.subset hb)

/-! ### assignments -/
theorem s_set {x : Str} {p pos : Pos} {e : Expr} {rest : List Stmt} {d : D} (X : At W k A env s₀ P₀ H Γ Δ Mx P s) (hv : Ev (W.at Mx) k env Γ Δ e d) (hb : Bindable env x)
    (next : ∀ P' s', At W k A env s₀ P₀ H ((x, d) :: rm x Γ) (rm x Δ) Mx P' s' → wpAny W.M A (execs rest env) Q E s')
    (hs : swapsWith e (some (.Name x p)) pos.line env = pure false := by rfl) : wpAny W.M A (execs (.Assign [.Name x p] e pos :: rest) env) Q E s := by
  refine wpAny_execs_cons (wpAny_Assign_Name (hv A _ P s E _ X.st X.cx fun v P' s' g tk i => ?_) hs)
  have X' := (X.gr g tk).less x
  obtain ⟨m, cv, ad, y, hn⟩ := X'.mnew
  exact At.store X' y hn hb rm_ne rm_ne fun s'' h1 _ _ => next P' s'' (h1 d i).1
theorem s_setN {x : Str} {p pos : Pos} {e : Expr} {rest : List Stmt} {ds : List D} (X : At W k A env s₀ P₀ H Γ Δ Mx P s) (hv : EvN (W.at Mx) k env Γ Δ e ds) (hb : Bindable env x)
    (next : ∀ P' s', At W k A env s₀ P₀ H (rm x Γ) ((x, ds) :: rm x Δ) Mx P' s' → wpAny W.M A (execs rest env) Q E s')
    (hs : swapsWith e (some (.Name x p)) pos.line env = pure false := by rfl) : wpAny W.M A (execs (.Assign [.Name x p] e pos :: rest) env) Q E s := by
  refine wpAny_execs_cons (wpAny_Assign_Name (hv A _ P s E _ X.st X.cx fun a vs n P' s' g tk h0 h1 h2 i => ?_) hs)
  have z := X.none₀ h0
  obtain ⟨m₀, cv₀, ad₀, y₀, hn₀, ho⟩ := X.gr_own g
  have X1 := X.gr g tk
  have X' := X1.less x
  have y : AtX env (rm x Γ) (rm x Δ) Mx H P' m₀ cv₀ ad₀ s'.heap := by
    have hs : (ownOf env (rm x Δ) ad₀ Mx).Sublist (ownOf env Δ ad₀ Mx) := List.Sublist.cons_cons _ (List.Sublist.append (List.Sublist.refl _) (List.Sublist.append (List.filter_sublist.map _) (List.Sublist.refl _)))
    exact { y₀ with vars := fun p hp => y₀.vars p (rm_sub p hp), muts := fun p hp => y₀.muts p (rm_sub p hp), nd := y₀.nd.sublist hs, offP := fun b hb => y₀.offP b (hs.subset hb), offH := fun b hb => y₀.offH b (hs.subset hb) }
  have hown : a ∉ ownOf env (rm x Δ) ad₀ Mx := fun hb => by
    have hs : (ownOf env (rm x Δ) ad₀ Mx).Sublist (ownOf env Δ ad₀ Mx) := List.Sublist.cons_cons _ (List.Sublist.append (List.Sublist.refl _) (List.Sublist.append (List.filter_sublist.map _) (List.Sublist.refl _)))
    exact ho a h0 (hs.subset hb)
  exact At.store X' y (fun p hp => hn₀ p (rm_sub p hp)) hb rm_ne rm_ne fun s'' _ h3 _ => next P' s'' (h3 a vs n ds rfl h2 i h1 z.2 hown z.1).1

/-- one name takes a value that is at hand -/
theorem At.name {M : Model} {Q : Unit → Shared → Prop} {x : Str} {v : Value} {d : D} (X : At W k A env s₀ P₀ H Γ Δ Mx P s) (i : Is P v d) (hb : Bindable env x)
    (h : ∀ s', At W k A env s₀ P₀ H ((x, d) :: rm x Γ) (rm x Δ) Mx P s' → Q () s') : wpAny M A (storeName env x v) Q E s := by
  have X' := X.less x
  obtain ⟨m, cv, ad, y, hn⟩ := X'.mnew
  exact At.store X' y hn hb rm_ne rm_ne fun s'' h1 _ _ => h s'' (h1 d i).1
theorem At.same (X : At W k A env s₀ P₀ H Γ Δ Mx P s) {h' : Heap} {tk' : Nat} (hk : ∀ b o, s.heap.get? b = some o → h'.get? b = some o) (tk : 1 ≤ tk') : At W k A env s₀ P₀ H Γ Δ Mx P { s with heap := h', toks := tk' } := X.gr (Gr.keep X.inn hk) tk
theorem ext_keep {h h' : Heap} (k : Heap.ExtBut h.objs.size h h') : ∀ b o, h.get? b = some o → h'.get? b = some o := fun b o e => k b o (Nat.ne_of_lt (Heap.lt_size e)) e

theorem tup2 {P : Vw} {v : Value} {d1 d2 : D} (i : Is P v (.tup [d1, d2])) : ∃ t v1 v2 n, v = .ref t ∧ P t = some { cls := .type "tuple", data := .seq [v1, v2].toArray n } ∧ Is P v1 d1 ∧ Is P v2 d2 := by
  obtain ⟨t, vs, n, rfl, q, r⟩ := i.tupI
  obtain ⟨v1, v2, rfl, i1, i2⟩ := r.twoI
  exact ⟨_, _, _, _, rfl, q, i1, i2⟩
/-- a, b = (..): the pair's names are stored the last one first -/
theorem s_pair' {x y : Str} {px py tp pos : Pos} {kk : Nat} {e : Expr} {rest : List Stmt} {d1 d2 : D} (X : At W k A env s₀ P₀ H Γ Δ Mx P s) (hv : Ev (W.at Mx) k env Γ Δ e (.tup [d1, d2])) (hx : Bindable env x) (hy : Bindable env y)
    (next : ∀ P' s', At W k A env s₀ P₀ H ((x, d1) :: rm x ((y, d2) :: rm y Γ)) (rm x (rm y Δ)) Mx P' s' → wpAny W.M A (execs rest env) Q E s')
    (hs : swapsWithSole [.Tuple [.Name x px, .Name y py] kk tp] e pos.line env = pure false := by rfl)
    (hw : swappedStores [.Tuple [.Name x px, .Name y py] kk tp] e env = pure (some [x, y]) := by rfl) : wpAny W.M A (execs (.Assign [.Tuple [.Name x px, .Name y py] kk tp] e pos :: rest) env) Q E s := by
  refine wpAny_execs_cons (Assign_Tuple_swapped (hv A _ P s E _ X.st X.cx fun v P' s' g tk i => ?_) hs hw)
  have X' := X.gr g tk
  obtain ⟨t, v1, v2, n, rfl, q, i1, i2⟩ := tup2 i
  rw [show ([x, y] : List Str).length = [v1, v2].toArray.size from rfl]
  refine unpackItems_tuple X.a.1 ⟨_, g.inn _ _ q, rfl, n, rfl⟩ fun h' hk => ?_
  have X2 := X'.same (ext_keep hk) tk
  refine assignInOrder_cons (bindName_ (X2.name i2 hy fun s3 X3 => assignInOrder_cons (bindName_ (X3.name i1 hx fun s4 X4 => assignInOrder_nil (next P' s4 X4)))))
theorem s_pair {x y : Str} {px py tp pos : Pos} {kk : Nat} {e : Expr} {rest : List Stmt} {d1 d2 : D} (X : At W k A env s₀ P₀ H Γ Δ Mx P s) (hv : Ev (W.at Mx) k env Γ Δ e (.tup [d1, d2])) (hx : Bindable env x) (hy : Bindable env y)
    (next : ∀ P' s', At W k A env s₀ P₀ H ((y, d2) :: rm y ((x, d1) :: rm x Γ)) (rm y (rm x Δ)) Mx P' s' → wpAny W.M A (execs rest env) Q E s')
    (hs : swapsWithSole [.Tuple [.Name x px, .Name y py] kk tp] e pos.line env = pure false := by rfl)
    (hw : swappedStores [.Tuple [.Name x px, .Name y py] kk tp] e env = pure none := by rfl) : wpAny W.M A (execs (.Assign [.Tuple [.Name x px, .Name y py] kk tp] e pos :: rest) env) Q E s := by
  refine wpAny_execs_cons (Assign_Tuple (hv A _ P s E _ X.st X.cx fun v P' s' g tk i => ?_) hs hw)
  have X' := X.gr g tk
  obtain ⟨t, v1, v2, n, rfl, q, i1, i2⟩ := tup2 i
  refine wpAny_assign_Tuple X.a.1 ⟨_, g.inn _ _ q, rfl, n, rfl⟩ rfl rfl fun h' hk => ?_
  have X2 := X'.same (ext_keep hk) tk
  refine assignInOrder_cons (assign_Name (X2.name i1 hx fun s3 X3 => assignInOrder_cons (assign_Name (X3.name i2 hy fun s4 X4 => assignInOrder_nil (next P' s4 X4)))))
/-- a = b = c = e -/
theorem s_three {x y z : Str} {px py pz pos : Pos} {e : Expr} {rest : List Stmt} {d : D} (X : At W k A env s₀ P₀ H Γ Δ Mx P s) (hv : Ev (W.at Mx) k env Γ Δ e d) (hx : Bindable env x) (hy : Bindable env y) (hz : Bindable env z)
    (next : ∀ P' s', At W k A env s₀ P₀ H ((z, d) :: rm z ((y, d) :: rm y ((x, d) :: rm x Γ))) (rm z (rm y (rm x Δ))) Mx P' s' → wpAny W.M A (execs rest env) Q E s')
    (hw : swappedStores [.Name x px, .Name y py, .Name z pz] e env = pure none := by rfl) : wpAny W.M A (execs (.Assign [.Name x px, .Name y py, .Name z pz] e pos :: rest) env) Q E s := by
  refine wpAny_execs_cons (wpAny_Assign_three (hv A _ P s E _ X.st X.cx fun v P' s' g tk i => ?_) rfl hw)
  have X' := X.gr g tk
  exact assign_Name (X'.name i hx fun s1 X1 => assign_Name (X1.name i hy fun s2 X2 => assign_Name (X2.name i hz fun s3 X3 => next P' s3 X3)))

/-! ### x op= e -/
theorem op_iadd_int {a b : Int} : Op2 W k (inplaceOp .Add) (.int a) (.int b) (.int (a + b)) := op2_ii fun A S P s E Q t u st hQ => iadd_int (hQ _ P _ (Gr.toks st.p) (.int _ _))
theorem op_isub_int {a b : Int} : Op2 W k (inplaceOp .Sub) (.int a) (.int b) (.int (a - b)) := op2_ii fun A S P s E Q t u st hQ => isub_int (hQ _ P _ (Gr.toks st.p) (.int _ _))
theorem op_iadd_str {a b : Str} (h : a.length + b.length ≤ sizeLine) : Op2 W k (inplaceOp .Add) (.str a) (.str b) (.str (a ++ b)) := op2_ss fun A S P s E Q t u st hQ => SBL.iadd (hsz := h) (fun t' tk _ => hQ _ P _ (Gr.toks st.p) (.str _ _))
theorem s_aug {x : Str} {p pos : Pos} {op : Operator} {e : Expr} {rest : List Stmt} {a b d : D} (X : At W k A env s₀ P₀ H Γ Δ Mx P s) (hx : (x, a) ∈ Γ) (hv : Ev (W.at Mx) k env Γ Δ e b) (ho : Op2 (W.at Mx) k (inplaceOp op) a b d) (hb : Bindable env x)
    (next : ∀ P' s', At W k A env s₀ P₀ H ((x, d) :: rm x Γ) (rm x Δ) Mx P' s' → wpAny W.M A (execs rest env) Q E s') : wpAny W.M A (execs (.AugAssign (.Name x p) op e pos :: rest) env) Q E s := by
  refine wpAny_execs_cons (wpAny_AugAssign_Name ?_)
  obtain ⟨v, nm, i⟩ := X.cx.vars _ hx
  have go : wpAny W.M A (eval e env) (fun v_1 s₂ => wpAny W.M A (inplaceOp op v v_1) (fun r s₃ => wpAny W.M A (storeName env x r) (fun _ s => wpAny W.M A (execs rest env) Q E s) E s₃) E s₂) E s :=
    hv A _ P s E _ X.st X.cx fun u P1 s1 g1 tk1 i1 => wp_tk tk1 (ho A _ P1 s1 E _ v u (X.st.next g1 tk1) (i.mono g1.le) i1 fun r P2 s2 g2 i2 tk2 => ((X.gr g1 tk1).gr g2 tk2).name i2 hb fun s3 X3 => next P2 s3 X3)
  cases nm with
  | loc e1 e2 e3 e4 => exact wpAny_loadName_local X.fn e1 (e3.ns (X.st.sv _ _ e2)) e4 go
  | cel e1 e2 e3 e4 =>
    rcases e1 with e1 | e1
    · exact wpAny_loadName_cell X.fn e1 e2 ⟨_, X.st.sv _ _ e3, e4⟩ go
    · obtain ⟨m, cv, ad, y, hn⟩ := X.mnew
      exfalso
      rcases hb with h | ⟨h, _⟩ <;> rw [e1] at h <;> cases h

/-! ### lists that turn -/
theorem s_append {x : Str} {xp ap pos p : Pos} {e : Expr} {rest : List Stmt} {ds : List D} {d : D} (X : At W k A env s₀ P₀ H Γ ((x, ds) :: Δ) Mx P s) (hv : Ev (W.at Mx) k env Γ ((x, ds) :: Δ) e d) (hsz : ds.length ≤ sizeLine)
    (next : ∀ P' s', At W k A env s₀ P₀ H Γ ((x, ds ++ [d]) :: Δ) Mx P' s' → wpAny W.M A (execs rest env) Q E s')
    (hd : (x == ("__debug__" : Str)) = false := by decide) (hn : (x == ("__classdict__" : Str)) = false := by decide)
    (hp : plainE e = true := by rfl) (hbase : attributeBase (.Name x xp) "append" env (eval (.Name x xp) env) = eval (.Name x xp) env := by rfl) (hline : (ap.endLine == pos.line) = true := by decide)
    (hi : interactive env = false := by rfl) :
    wpAny W.M A (execs (.Expr (.Call (.Attribute (.Name x xp) "append" ap) [e] [] pos) p :: rest) env) Q E s := by
  refine wpAny_execs_cons (wpAny_Expr ?_ hi rfl)
  obtain ⟨m, cv, ad, y, hnn⟩ := X.mnew
  obtain ⟨vs, n, e1, q, i⟩ := y.muts _ List.mem_cons_self
  have hpl : [e].all plainE = true := by simp [hp]
  refine wpAny_Call_method hbase (few_ok hpl (by simp)) hline F.plainAttrs_list F.slot_list_append F.type_list_append (name_read X.fn X.st.sv (y.nameOk e1) ⟨⟨_, q, rfl⟩, fun a ha => by cases ha; exact ⟨_, q, rfl⟩, ?_⟩ hd hn)
  refine callWith_builtin (plain_any hpl) ?_
  rw [starEach_cons hp]
  refine evalArgs_plain (spliced_cons (hv A _ P s E _ X.st X.cx fun v P' s' g tk iv => spliced_nil ?_))
  have y' := y.gr g
  refine append_at (hsz := by rw [List.size_toArray, i.length]; exact hsz) (g.old _ _ q) fun h' hs' he' => ?_
  exact next P' _ ((X.gr g tk).turn (n' := n + 1) y' hnn tk (fun b o n e => hs'.extBut b o n e) (he'.trans (by simp [PySem.W.listOf])) ((i.mono g.le).append (.cons iv .nil)))
end
end
section
noncomputable abbrev Eq3 (Γ : List (Str × D)) (Δ : List (Str × List D)) (Mx : List (Addr × MO)) (Γ₀ : List (Str × D)) (Δ₀ : List (Str × List D)) (Mx₀ : List (Addr × MO)) : Prop := Γ = Γ₀ ∧ Δ = Δ₀ ∧ Mx = Mx₀
open PySem.Builtin PySem.Builtin.Str in
/-- x.find(y, i, j) -/
noncomputable def find4 (x y : Str) (i j : Int) : Int := match occurrences x y (fromIndex x.length i) (min (fromIndex x.length j) x.length) 1 with | k :: _ => (k : Int) | [] => -1
open PySem.Builtin PySem.Builtin.Str in
noncomputable def rfind4 (x y : Str) (i j : Int) : Int := match lastOccurrence x y (fromIndex x.length i) (min (fromIndex x.length j) x.length) with | some k => (k : Int) | none => -1
open PySem.Builtin PySem.Builtin.Str in
theorem gives_find4 (x y : Str) (i j : Int) (t u v v' : Tok) : Gives («str.find» ⟨[.str x t, .str y u, .int i v, .int j v'], []⟩) (.int (find4 x y i j)) := by
  show Gives (match occurrences x y (fromIndex x.length i) (min (fromIndex x.length j) x.length) 1 with | k :: _ => retInt k | [] => (do rule "str.find.not-found"; retInt (-1))) _
  unfold find4
  cases occurrences x y (fromIndex x.length i) (min (fromIndex x.length j) x.length) 1 with
  | nil => exact .rule (.of_eq rfl)
  | cons k _ => exact .of_eq rfl
open PySem.Builtin PySem.Builtin.Str in
theorem gives_rfind4 (x y : Str) (i j : Int) (t u v v' : Tok) : Gives («str.rfind» ⟨[.str x t, .str y u, .int i v, .int j v'], []⟩) (.int (rfind4 x y i j)) := by
  show Gives (match lastOccurrence x y (fromIndex x.length i) (min (fromIndex x.length j) x.length) with | some k => retInt k | none => (do rule "str.rfind.not-found"; retInt (-1))) _
  unfold rfind4
  cases lastOccurrence x y (fromIndex x.length i) (min (fromIndex x.length j) x.length) with
  | none => exact .rule (.of_eq rfl)
  | some k => exact .of_eq rfl
section
variable {W : Wd} {k : Nat} {env : Env} {Γ : List (Str × D)} {Δ : List (Str × List D)}
theorem cl_find4 {x y : Str} {i j : Int} : Cl W k (.builtin "str.find") [.str x, .str y, .int i, .int j] (.int (find4 x y i j)) := cl_2s2i fun A S P s E Q _ _ _ _ st hQ => call_gives F.slot_str_find (PySem.typeIs_str _ _ _) F.entry_str_find (F.args_str_find_4 _ _ _ _) (gives_find4 x y i j _ _ _ _) (hQ _ P _ (Gr.toks st.p) (.int _ _))
theorem cl_rfind4 {x y : Str} {i j : Int} : Cl W k (.builtin "str.rfind") [.str x, .str y, .int i, .int j] (.int (rfind4 x y i j)) := cl_2s2i fun A S P s E Q _ _ _ _ st hQ => call_gives F.slot_str_rfind (PySem.typeIs_str _ _ _) F.entry_str_rfind (F.args_str_rfind_4 _ _ _ _) (gives_rfind4 x y i j _ _ _ _) (hQ _ P _ (Gr.toks st.p) (.int _ _))
end
theorem sub_nil {α : Type} {l : List α} : ∀ p ∈ ([] : List α), p ∈ l := fun _ h => nomatch h
theorem sub_cons {α : Type} {a : α} {r l : List α} (h : a ∈ l) (k : ∀ p ∈ r, p ∈ l) : ∀ p ∈ a :: r, p ∈ l := fun p hp => (List.mem_cons.mp hp).elim (fun e => e ▸ h) (k p)
theorem ne_nil {α : Type} {x : Str} : ∀ p ∈ ([] : List (Str × α)), p.1 ≠ x := fun _ h => nomatch h
theorem ne_cons {α : Type} {x y : Str} {d : α} {r : List (Str × α)} (h : (y == x) = false) (k : ∀ p ∈ r, p.1 ≠ x) : ∀ p ∈ (y, d) :: r, p.1 ≠ x := fun p hp => (List.mem_cons.mp hp).elim (fun e => by rw [e]; exact beq_eq_false_iff_ne.mp h) (k p)
section
variable {W : Wd} {k : Nat} {env : Env} {Γ : List (Str × D)} {Δ : List (Str × List D)}
theorem nv {x : Str} {pos : Pos} {d : D} (h : (x, d) ∈ Γ := by trivial) (hd : (x == ("__debug__" : Str)) = false := by decide) (hn : (x == ("__classdict__" : Str)) = false := by decide) : Ev W k env Γ Δ (.Name x pos) d := ev_name h hd hn
theorem nm {x : Str} {pos : Pos} {ds : List D} (h : (x, ds) ∈ Δ := by trivial) (hd : (x == ("__debug__" : Str)) = false := by decide) (hn : (x == ("__classdict__" : Str)) = false := by decide) : EvL W k env Γ Δ (.Name x pos) ds := ev_mut h hd hn
theorem nmB {x : Str} {v : Value} {K : Frag} (hK : W.K = K) (no : nsIn K mainGlobals x = some none := by rfl) (boot : bootBuiltins x = some v := by rfl) (kind : env.kindOf x = some .globalImplicit := by rfl) (nn : x ≠ "__name__" := by decide) : NmB W env x v := ⟨kind, hK ▸ no, boot, nn⟩
theorem nmG {x : Str} {v : Value} {K : Frag} (hK : W.K = K) (has : nsIn K mainGlobals x = some (some v) := by rfl) (kind : env.kindOf x = some .globalImplicit := by rfl) : NmG W env x v := ⟨kind, hK ▸ has⟩
end
section
variable {W : Wd} {k : Nat} {A : Around} {env : Env} {s₀ : Shared} {P₀ H : Vw} {Γ : List (Str × D)} {Δ : List (Str × List D)} {Mx : List (Addr × MO)} {P : Vw} {s : Shared} {E : Value → Shared → Prop} {Q : Flow → Shared → Prop}
/-- if test: x = e -/
theorem s_ifset {x : Str} {px p q : Pos} {test e : Expr} {rest : List Stmt} {b : Bool} {d0 d' : D} (X : At W k A env s₀ P₀ H Γ Δ Mx P s) (ht : Ts (W.at Mx) k env Γ Δ test b) (hx0 : (x, d0) ∈ Γ) (hv : b = true → Ev (W.at Mx) k env Γ Δ e d') (hF : b = false → d' = d0) (hb : Bindable env x)
    (next : ∀ P' s', At W k A env s₀ P₀ H ((x, d') :: rm x Γ) (rm x Δ) Mx P' s' → wpAny W.M A (execs rest env) Q E s')
    (hs : swapsWith e (some (.Name x px)) p.line env = pure false := by rfl) : wpAny W.M A (execs (.If test [.Assign [.Name x px] e p] [] q :: rest) env) Q E s := by
  refine s_if X ht fun P' s' X' => ?_
  cases b with
  | true =>
    rw [if_pos rfl]
    exact s_set X' (hv rfl) hb (fun P'' s'' X'' => s_nil (next P'' s'' X'')) hs
  | false =>
    rw [if_neg Bool.false_ne_true]
    refine s_nil (next P' s' ?_)
    rw [hF rfl]
    refine (X'.drop (Δ' := rm x Δ) List.filter_sublist).forget fun p hp => ?_
    rcases List.mem_cons.mp hp with rfl | hp
    · exact hx0
    · exact rm_sub p hp
/-- the two ways of an if meet -/
theorem s_ifJ {test : Expr} {body orelse rest : List Stmt} {pos : Pos} {b : Bool} (X : At W k A env s₀ P₀ H Γ Δ Mx P s) (ht : Ts (W.at Mx) k env Γ Δ test b) (J : List (Str × D) → List (Str × List D) → List (Addr × MO) → Prop)
    (hb : ∀ P' s', At W k A env s₀ P₀ H Γ Δ Mx P' s' → wpAny W.M A (execs (if b then body else orelse) env) (JoinQ W k A env s₀ P₀ H Q J) E s')
    (next : ∀ Γ' Δ' Mx' P' s', J Γ' Δ' Mx' → At W k A env s₀ P₀ H Γ' Δ' Mx' P' s' → wpAny W.M A (execs rest env) Q E s') :
    wpAny W.M A (execs (.If test body orelse pos :: rest) env) Q E s := by
  refine s_if X ht fun P' s' X' => wpAny_mono (hb P' s' X') (fun f s'' h => ?_) fun _ _ h => h
  rcases h with ⟨rfl, Γ', Δ', Mx', P'', hJ, X''⟩ | ⟨hf, hq⟩
  · exact next _ _ _ _ _ hJ X''
  · cases f with
    | next => exact absurd rfl hf
    | cont => exact hq
    | brk => exact hq
    | ret v => exact hq
end
end
section
section
variable {P : Vw}
theorem isAll_strs {vs : List Value} {xs : List Str} (h : IsAll P vs (xs.map .str)) : ∃ l : List (Str × Tok), vs = strValues l ∧ l.map (·.1) = xs := by
  induction xs generalizing vs with
  | nil => exact ⟨[], h.nilI, rfl⟩
  | cons x xs ih =>
    obtain ⟨v, r, rfl, a, b⟩ := h.consI
    obtain ⟨t, rfl⟩ := a.strI
    obtain ⟨l, rfl, rfl⟩ := ih b
    exact ⟨(x, t) :: l, rfl, rfl⟩
theorem strs_isAll : ∀ (l : List (Str × Tok)), IsAll P (strValues l) ((l.map (·.1)).map .str)
  | [] => .nil
  | p :: r => .cons (.str p.1 p.2) (strs_isAll r)
end
section
variable {W : Wd} {k : Nat} {env : Env} {Γ : List (Str × D)} {Δ : List (Str × List D)}
/-! ### split, join, replace -/
open PySem.Builtin PySem.Builtin.Str in
noncomputable def cutOk (x y : Str) : Bool := !(decide (x.length < y.length) || decide (strKind x < strKind y)) && !(y.length == 0) && !(occurrences x y 0 x.length (x.length + 1)).isEmpty && decide (x.length ≤ 16384) && decide ((partsBetween x (occurrences x y 0 x.length (x.length + 1)) y.length).length ≤ 16384)
open PySem.Builtin PySem.Builtin.Str in
noncomputable def cut (x y : Str) : List Str := partsBetween x (occurrences x y 0 x.length (x.length + 1)) y.length
open PySem.Builtin PySem.Builtin.Str in
theorem evn_split {o e : Expr} {apos pos : Pos} {x y : Str} (h0 : Ev W k env Γ Δ o (.str x)) (h1 : Ev W k env Γ Δ e (.str y)) (hok : cutOk x y = true)
    (hp : plainE e = true := by rfl) (hbase : attributeBase o "split" env (eval o env) = eval o env := by rfl) (hline : (apos.endLine == pos.line) = true := by decide) :
    EvN W k env Γ Δ (.Call (.Attribute o "split" apos) [e] [] pos) ((cut x y).map .str) := .mk fun A S P s E Q st hC hQ => by
  unfold cutOk at hok
  simp only [Bool.and_eq_true, Bool.not_eq_true', decide_eq_true_eq] at hok
  obtain ⟨⟨⟨⟨a1, a2⟩, a3⟩, a4⟩, a5⟩ := hok
  have hpl : [e].all plainE = true := by simp [hp]
  refine wpAny_Call_method hbase (few_ok hpl (by simp)) hline F.plainAttrs_str F.slot_str_split F.type_str_split (h0 A S P s E _ st hC fun v P₁ s₁ g₁ tk₁ i₁ => ⟨typeIs_of i₁, noRef_of i₁, ?_⟩)
  refine callWith_builtin (plain_any hpl) ?_
  rw [starEach_cons hp]
  refine evalArgs_plain (spliced_cons (h1 A S P₁ s₁ E _ (st.next g₁ tk₁) (hC.up (Le.refl _) g₁.le) fun u P₂ s₂ g₂ tk₂ i₂ => spliced_nil ?_))
  obtain ⟨t, rfl⟩ := Is.strI i₁
  obtain ⟨u, rfl⟩ := Is.strI i₂
  refine call_meets F.slot_str_split (PySem.typeIs_str _ _ _) F.entry_str_split (F.args_str_split_2 _ _) (meets_str_split_sep x y t u a1 a2 a3 (Nat.le_trans a4 (by decide)) (Nat.le_trans a5 (by decide))) ?_
  show Q (.ref s₂.heap.objs.size) { s₂ with toks := _, heap := s₂.heap.push { cls := .type "list", data := .seq (strsFrom s₂.toks (cut x y)).toArray } }
  have g12 := g₁.trans g₂
  refine hQ _ _ 0 P₂ _ (g12.trans (Gr.pushed g₂.inn)) (none_of_old g12.old (Heap.get?_none_of_le (Nat.le_refl _))) (none_size g₂.inn) (Heap.get?_push_size _ rfl) ?_
  rw [strsFrom_eq]
  have := strs_isAll (P := P₂) (numbered s₂.toks (cut x y))
  rwa [numbered_texts] at this
theorem cl_join {x : Str} {xs : List Str} (h : JoinOk x xs = true) : Cl W k (.builtin "str.join") [.str x, .list (xs.map .str)] (.str (Txt.join x xs)) := fun A S P s E Q vs st i hQ => by
  obtain ⟨_, r, rfl, a, ir⟩ := i.consI
  obtain ⟨_, r, rfl, b, ir⟩ := ir.consI
  obtain rfl := ir.nilI
  obtain ⟨t, rfl⟩ := Is.strI a
  obtain ⟨l, vs, n, rfl, q, i⟩ := b.listI
  obtain ⟨l, rfl, e⟩ := isAll_strs i
  exact SC.join ⟨_, st.p _ _ q, rfl, n, rfl⟩ e h fun t' kk => hQ _ P _ (Gr.toks st.p) (.str _ _)
/-- x.replace(c, d), both constants -/
theorem ev_replaceC {o : Expr} {apos pos p1 p2 : Pos} {k1 k2 : Nat} {x y z : Str} (h0 : Ev W k env Γ Δ o (.str x)) (hyz : (y == z) = false) (hx : x.length ≤ 1048576) (hz : z.length ≤ 14 := by decide)
    (hbase : attributeBase o "replace" env (eval o env) = eval o env := by rfl) (hline : (apos.endLine == pos.line) = true := by decide) :
    Ev W k env Γ Δ (.Call (.Attribute o "replace" apos) [.Constant (.str y) k1 p1, .Constant (.str z) k2 p2] [] pos) (.str (Txt.replace x y z)) := .mk fun A S P s E Q st hC hQ => by
  refine wpAny_Call_method hbase (few_ok rfl (by simp)) hline F.plainAttrs_str F.slot_str_replace F.type_str_replace (h0 A S P s E _ st hC fun v P₁ s₁ g₁ tk₁ i₁ => ⟨typeIs_of i₁, noRef_of i₁, ?_⟩)
  refine callWith_builtin (plain_any rfl) ?_
  rw [starEach_cons rfl, starEach_cons rfl]
  refine evalArgs_plain (spliced_cons (Constant_str (k := k1) (pos := p1) (spliced_cons (Constant_str (k := k2) (pos := p2) (spliced_nil ?_)))))
  obtain ⟨t, rfl⟩ := Is.strI i₁
  refine SC.replaceW (Nat.ne_of_gt tk₁) (Nat.succ_ne_zero _) (Nat.ne_of_lt (Nat.lt_succ_self _)) hyz hx hz fun t' kk => ?_
  exact hQ _ P₁ _ (g₁.trans (Gr.toks g₁.inn)) (.str _ _)
/-- x.replace(y[i], c) -/
theorem ev_replaceI {o v1 i1 : Expr} {apos pos p1 p2 : Pos} {k2 : Nat} {x y z : Str} {i : Int} (h0 : Ev W k env Γ Δ o (.str x)) (h1 : Ev W k env Γ Δ v1 (.str y)) (h2 : Ev W k env Γ Δ i1 (.int i)) (hr : fitsSsize i = true) (hlo : -(y.length : Int) ≤ i) (hhi : i < y.length)
    (hyz : (Txt.item y i == z) = false) (hx : x.length ≤ 1048576) (hz : z.length ≤ 14 := by decide)
    (hs : ∀ (t u : Tok), subscripted i1 false (.str y t) (.int i u) = operate [.str y t, .int i u] (getItem (.str y t) (.int i u)) := by intro _ _; with_unfolding_all rfl)
    (hbase : attributeBase o "replace" env (eval o env) = eval o env := by rfl) (hline : (apos.endLine == pos.line) = true := by decide) :
    Ev W k env Γ Δ (.Call (.Attribute o "replace" apos) [.Subscript v1 i1 p1, .Constant (.str z) k2 p2] [] pos) (.str (Txt.replace x (Txt.item y i) z)) := .mk fun A S P s E Q st hC hQ => by
  refine wpAny_Call_method hbase (few_ok rfl (by simp)) hline F.plainAttrs_str F.slot_str_replace F.type_str_replace (h0 A S P s E _ st hC fun v P₁ s₁ g₁ tk₁ i₁ => ⟨typeIs_of i₁, noRef_of i₁, ?_⟩)
  refine callWith_builtin (plain_any rfl) ?_
  rw [starEach_cons rfl, starEach_cons rfl]
  refine evalArgs_plain (spliced_cons (Subscript_ (h1 A S P₁ s₁ E _ (st.next g₁ tk₁) (hC.up (Le.refl _) g₁.le) fun w P₂ s₂ g₂ tk₂ i₂ => h2 A S P₂ s₂ E _ ((st.next g₁ tk₁).next g₂ tk₂) (hC.up (Le.refl _) (g₁.le.trans g₂.le)) fun u P₃ s₃ g₃ tk₃ i₃ => ?_)))
  obtain ⟨t2, rfl⟩ := i₂.strI; obtain ⟨t3, rfl⟩ := i₃.intI
  refine item_str hr hlo hhi (fun _ => ?_) (hs _ _) (fun _ => letGo_str)
  refine spliced_cons (Constant_str (k := k2) (pos := p2) (spliced_nil ?_))
  obtain ⟨t, rfl⟩ := Is.strI i₁
  refine SC.replaceW (Nat.ne_of_gt tk₃) (Nat.succ_ne_zero _) (Nat.ne_of_lt (Nat.lt_succ_self _)) hyz hx hz fun t' kk => ?_
  exact hQ _ P₃ _ (((g₁.trans g₂).trans g₃).trans (Gr.toks g₃.inn)) (.str _ _)

/-! ### lists -/
/-- e gives a list, of whatever kind; the addition of two lists is a new one -/
theorem EvN.l {e : Expr} {ds : List D} (h : EvN W k env Γ Δ e ds) : EvL W k env Γ Δ e ds := fun A S P s E Q st hC hQ =>
  h A S P s E Q st hC fun a vs n P' s' g tk _ _ q i => hQ a vs n P' s' g tk q i
theorem evn_add {l r : Expr} {pos : Pos} {ds es : List D} (h1 : EvL W k env Γ Δ l ds) (h2 : EvL W k env Γ Δ r es) (hsz : ds.length + es.length ≤ sizeLine) : EvN W k env Γ Δ (.BinOp l .Add r pos) (ds ++ es) := .mk fun A S P s E Q st hC hQ =>
  wpAny_BinOp (h1 A S P s E _ st hC fun a vs n P₁ s₁ g₁ tk₁ q₁ i₁ => h2 A S P₁ s₁ E _ (st.next g₁ tk₁) (hC.up (Le.refl _) g₁.le) fun b ws m P₂ s₂ g₂ tk₂ q₂ i₂ => by
    refine _root_.PySem.P.add_list (items := vs.toArray) (items2 := ws.toArray) (g₂.old _ _ q₁) q₂ ?_ (by rw [List.size_toArray, List.size_toArray, i₁.length, i₂.length]; exact hsz)
    have g12 := g₁.trans g₂
    rw [List.append_toArray]
    exact hQ _ (vs ++ ws) 0 P₂ _ (g12.trans (Gr.pushed (tk := s₂.toks) g₂.inn)) (none_of_old g12.old (Heap.get?_none_of_le (Nat.le_refl _))) (none_size g₂.inn) (Heap.get?_push_size _ rfl) ((i₁.mono g₂.le).append i₂))
/-- a call of a type by its name, upon data -/
theorem ev_callT {x : Str} {T : String} {p pos : Pos} {e : Expr} {r : List Expr} {ds : List D} {d : D} (n : NmB W env x (.type T)) (h : Evs W k env Γ Δ (e :: r) ds) (hc : Cl W k (.type T) ds d)
    (hp : (e :: r).all plainE = true := by rfl) (hd : (x == ("__debug__" : Str)) = false := by decide) : Ev W k env Γ Δ (.Call (.Name x p) (e :: r) [] pos) d := .mk fun A S P s E Q st hC hQ => by
  refine wpAny_Call_Name_kw (name_bi st.b st.p hC n ?_ hd)
  refine PySem.callWith_type (plain_any hp) (evalArgs_ev hp st hC h fun vs P₁ s₁ g₁ tk₁ i₁ => ?_)
  exact hc A S P₁ s₁ E Q vs (st.next g₁ tk₁) i₁ fun v P₂ s₂ g₂ i₂ => hQ v P₂ s₂ (g₁.trans g₂) i₂
theorem cl_int_bool {b : Bool} : Cl W k (.type "int") [.bool b] (.int (if b then 1 else 0)) := fun A S P s E Q vs st i hQ => by
  obtain ⟨_, r, rfl, a, ir⟩ := i.consI
  obtain rfl := ir.nilI
  obtain rfl := a.boolI
  exact call_int_bool (hQ _ P _ (Gr.toks st.p) (.int _ _))
theorem cl_max_two {a b : Int} : Cl W k (.builtin "max") [.int a, .int b] (.int (if b > a then b else a)) := fun A S P s E Q vs st i hQ => by
  obtain ⟨_, r, rfl, x, ir⟩ := i.consI
  obtain ⟨_, r, rfl, y, ir⟩ := ir.consI
  obtain rfl := ir.nilI
  obtain ⟨_, rfl⟩ := Is.intI x
  obtain ⟨_, rfl⟩ := Is.intI y
  refine max_two_ints st.a.1 fun h' tk hk => ?_
  by_cases hc : b > a
  · rw [if_pos hc] at hQ ⊢; exact hQ _ P _ (Gr.keep st.p hk) (.int _ _)
  · rw [if_neg hc] at hQ ⊢; exact hQ _ P _ (Gr.keep st.p hk) (.int _ _)
/-- list(xs), of a list -/
theorem evn_listOf {x : Str} {p pos : Pos} {e : Expr} {ds : List D} (n : NmB W env x (.type "list")) (h : EvL W k env Γ Δ e ds) (hsz : ds.length ≤ sizeLine)
    (hp : plainE e = true := by rfl) (hd : (x == ("__debug__" : Str)) = false := by decide) : EvN W k env Γ Δ (.Call (.Name x p) [e] [] pos) ds := .mk fun A S P s E Q st hC hQ => by
  refine wpAny_Call_Name_kw (name_bi st.b st.p hC n ?_ hd)
  have hp' : [e].all plainE = true := by simp [hp]
  refine PySem.callWith_type (plain_any hp') ?_
  rw [starEach_cons hp]
  refine evalArgs_plain (spliced_cons (h A S P s E _ st hC fun a vs n P₁ s₁ g₁ tk₁ q₁ i₁ => spliced_nil ?_))
  refine call_list_seq a (.inl rfl) q₁ rfl rfl (fun h' c' hk he => ?_) (by rw [List.size_toArray, i₁.length]; exact hsz)
  exact hQ _ vs c' P₁ _ (g₁.trans (Gr.keep (tk := s₁.toks) g₁.inn hk)) (none_of_old g₁.old (Heap.get?_none_of_le (Nat.le_refl _))) (none_size g₁.inn) he i₁
/-- list(x), of a str -/
theorem evn_listStr {f : Str} {p pos : Pos} {e : Expr} {x : Str} (n : NmB W env f (.type "list")) (h : Ev W k env Γ Δ e (.str x)) (hsz : x.cps.size ≤ sizeLine)
    (hp : plainE e = true := by rfl) (hd : (f == ("__debug__" : Str)) = false := by decide) : EvN W k env Γ Δ (.Call (.Name f p) [e] [] pos) (chars x) := .mk fun A S P s E Q st hC hQ => by
  refine wpAny_Call_Name_kw (name_bi st.b st.p hC n ?_ hd)
  have hp' : [e].all plainE = true := by simp [hp]
  refine PySem.callWith_type (plain_any hp') ?_
  rw [starEach_cons hp]
  refine evalArgs_plain (spliced_cons (h A S P s E _ st hC fun v P₁ s₁ g₁ tk₁ i₁ => spliced_nil ?_))
  obtain ⟨t, rfl⟩ := Is.strI i₁
  refine call_list_str st.a.1 x t (fun h' tk acc' c' hk he hit => ?_) hsz
  refine hQ _ acc'.toList c' P₁ _ (g₁.trans (Gr.keep (tk := tk) g₁.inn hk)) (none_of_old g₁.old (Heap.get?_none_of_le (Nat.le_refl _))) (none_size g₁.inn) he ?_
  obtain ⟨hn, hv⟩ := hit
  have key : ∀ (cs : List Nat) (vs : List Value), vs.length = cs.length → (∀ (j : Nat) (v : Value), vs[j]? = some v → ∃ (c : Nat) (u : Tok), cs[j]? = some c ∧ v = Value.str ⟨#[c]⟩ u) → IsAll P₁ vs (cs.map fun c => D.str ⟨#[c]⟩) := by
    intro cs
    induction cs with
    | nil => intro vs hl _; cases vs with | nil => exact .nil | cons => cases hl
    | cons c cs ih =>
      intro vs hl hv
      cases vs with
      | nil => cases hl
      | cons v vs =>
        obtain ⟨c', u, hc, rfl⟩ := hv 0 v rfl
        cases hc
        exact .cons (.str _ _) (ih vs (by simpa using hl) fun j w hw => hv (j + 1) w hw)
  refine key x.cps.toList acc'.toList (by simpa using hn) fun j v hj => ?_
  obtain ⟨c, u, hc, rfl⟩ := hv j v (by simpa using hj)
  exact ⟨c, u, by simpa using hc, rfl⟩
/-- tuple(xs), of a list -/
theorem ev_tupleOf {x : Str} {p pos : Pos} {e : Expr} {ds : List D} (n : NmB W env x (.type "tuple")) (h : EvL W k env Γ Δ e ds) (hsz : ds.length ≤ sizeLine)
    (hp : plainE e = true := by rfl) (hd : (x == ("__debug__" : Str)) = false := by decide) : Ev W k env Γ Δ (.Call (.Name x p) [e] [] pos) (.tup ds) := .mk fun A S P s E Q st hC hQ => by
  refine wpAny_Call_Name_kw (name_bi st.b st.p hC n ?_ hd)
  have hp' : [e].all plainE = true := by simp [hp]
  refine PySem.callWith_type (plain_any hp') ?_
  rw [starEach_cons hp]
  refine evalArgs_plain (spliced_cons (h A S P s E _ st hC fun a vs n P₁ s₁ g₁ tk₁ q₁ i₁ => spliced_nil ?_))
  refine call_tuple_list ⟨_, q₁, rfl, n, rfl⟩ (fun h' hk => ?_) (by rw [List.size_toArray, i₁.length]; exact hsz)
  have g2 : Gr P₁ s₁ P₁ { s₁ with heap := h', toks := s₁.toks } := Gr.keep g₁.inn hk
  obtain ⟨g3, q⟩ := Gr.alloc (P := P₁) (s := { s₁ with heap := h', toks := s₁.toks }) (o := { cls := .type "tuple", data := .seq vs.toArray 0 }) (tk := s₁.toks) g2.inn
  exact hQ _ _ _ ((g₁.trans g2).trans g3) (.tup q (i₁.mono g3.le))
/-! ### range -/
theorem range_small {a b : Int} (ha : 0 ≤ a ∧ a < 2 ^ 62) (hb : 0 ≤ b ∧ b < 2 ^ 62) : Builtin.Range.small a b 1 = true := by
  have hz : 0 ≤ Builtin.Range.rangeSize a b 1 ∧ Builtin.Range.rangeSize a b 1 < 2 ^ 62 := by
    unfold Builtin.Range.rangeSize
    rw [if_pos (by decide)]
    split <;> omega
  have hf : ∀ i : Int, 0 ≤ i ∧ i < 2 ^ 62 → Builtin.Range.rangeFitsLong i = true := fun i hi => by
    unfold Builtin.Range.rangeFitsLong
    simp
    omega
  unfold Builtin.Range.small
  rw [hf a ha, hf b hb, hf 1 (by decide), hf _ hz, if_pos (by decide), show b + (1 - 1) = b by omega, hf b hb]
  simp
theorem evi_range1 {x : Str} {p pos : Pos} {e : Expr} {n : Nat} (nb : NmB W env x (.type "range")) (h : Ev W k env Γ Δ e (.int (n : Int))) (hn : n < 2 ^ 62)
    (hp : plainE e = true := by rfl) (hd : (x == ("__debug__" : Str)) = false := by decide) : EvI W k env Γ Δ true (.Call (.Name x p) [e] [] pos) (rngs 0 n) := fun A S P s E Q st hC hQ => by
  refine wpAny_Call_Name_kw (name_bi st.b st.p hC nb ?_ hd)
  have hp' : [e].all plainE = true := by simp [hp]
  refine PySem.callWith_type (plain_any hp') ?_
  rw [starEach_cons hp]
  refine evalArgs_plain (spliced_cons (h A S P s E _ st hC fun v P₁ s₁ g₁ tk₁ i₁ => spliced_nil ?_))
  obtain ⟨t, rfl⟩ := Is.intI i₁
  refine call_range_1 ?_
  obtain ⟨g2, q⟩ := Gr.alloc (P := P₁) (s := s₁) (o := { cls := .type "range", data := .fields #[.int 0 s₁.toks, .int n t, .int 1 (s₁.toks + 1)] }) (tk := s₁.toks + 1 + 1) g₁.inn
  refine range_go (st := (st.next g₁ tk₁).next g2 (by show 1 ≤ s₁.toks + 1 + 1; omega)) (a := 0) (b := (n : Int)) (n := n) (g2.inn _ _ q) ?_ ?_ fun I fp Pv Sx P' s' g tk hW hP hS h0 h1 hI hf => hQ I fp Pv Sx P' s' ((g₁.trans g2).trans g) tk hW hP hS (none_of_old (g₁.trans g2).old h0) h1 hI hf
  · exact range_small (by omega) (by omega)
  · unfold Builtin.Range.rangeSize; simp
    omega
theorem evi_range2 {x : Str} {p pos : Pos} {e1 e2 : Expr} {a : Int} {n : Nat} {b : Int} (nb : NmB W env x (.type "range")) (h1 : Ev W k env Γ Δ e1 (.int a)) (h2 : Ev W k env Γ Δ e2 (.int b)) (ha : 0 ≤ a ∧ a < 2 ^ 61) (hb : 0 ≤ b ∧ b < 2 ^ 61) (hn : (b - a).toNat = n)
    (hp : [e1, e2].all plainE = true := by rfl) (hd : (x == ("__debug__" : Str)) = false := by decide) : EvI W k env Γ Δ true (.Call (.Name x p) [e1, e2] [] pos) (rngs a n) := fun A S P s E Q st hC hQ => by
  refine wpAny_Call_Name_kw (name_bi st.b st.p hC nb ?_ hd)
  refine PySem.callWith_type (plain_any hp) (evalArgs_ev hp st hC (evs_cons h1 (evs_cons h2 evs_nil (by have := Bool.and_eq_true_iff.mp (by simpa using hp : (plainE e1 && plainE e2) = true); exact this.2)) (by have := Bool.and_eq_true_iff.mp (by simpa using hp : (plainE e1 && plainE e2) = true); exact this.1)) fun vs P₁ s₁ g₁ tk₁ i₁ => ?_)
  obtain ⟨_, _, rfl, x, y⟩ := i₁.twoI
  obtain ⟨t, rfl⟩ := Is.intI x
  obtain ⟨u, rfl⟩ := Is.intI y
  refine call_range_2 ?_
  obtain ⟨g2, q⟩ := Gr.alloc (P := P₁) (s := s₁) (o := { cls := .type "range", data := .fields #[.int a t, .int b u, .int 1 s₁.toks] }) (tk := s₁.toks + 1) g₁.inn
  refine range_go (st := (st.next g₁ tk₁).next g2 (by show 1 ≤ s₁.toks + 1; exact Nat.le_add_left ..)) (a := a) (b := b) (n := n) (g2.inn _ _ q) ?_ ?_ fun I fp Pv Sx P' s' g tk hW hP hS h0 h1 hI hf => hQ I fp Pv Sx P' s' ((g₁.trans g2).trans g) tk hW hP hS (none_of_old (g₁.trans g2).old h0) h1 hI hf
  · exact range_small (by omega) (by omega)
  · unfold Builtin.Range.rangeSize; simp
    omega
end
end
section
open PySem PySem.W PySem.Calls PyProof.Rows PySem.Spec PySem.SeqAt PyProof.V
theorem rngs_get {a : Int} {n i : Nat} {d : D} (h : (rngs a n)[i]? = some d) : i < n ∧ d = .int (a + i) := by
  unfold rngs at h
  rw [List.getElem?_map] at h
  obtain ⟨j, hj, rfl⟩ := Option.map_eq_some_iff.mp h
  obtain ⟨h1, h2⟩ := List.getElem?_eq_some_iff.mp hj
  rw [List.getElem_range] at h2
  subst h2
  exact ⟨by simpa using h1, rfl⟩
theorem rngs_len {a : Int} {n : Nat} : (rngs a n).length = n := by simp [rngs]
/-! ### equality of data -/
section
variable {P : Vw} {h : Heap}
theorem reads_ints (p : In P h) {v : Value} {ns : List Int} (i : Is P v (.list (ns.map .int))) : ∃ as, Reads h v (.list (ns.map .int)) as := by
  obtain ⟨a, vs, n, rfl, q, r⟩ := i.listI
  have : ∃ as, ReadsAll h vs (ns.map .int) as := by
    clear q i
    induction ns generalizing vs with
    | nil => rw [r.nilI]; exact ⟨_, .nil⟩
    | cons n ns ih =>
      obtain ⟨v, w, rfl, i, r'⟩ := r.consI
      obtain ⟨t, rfl⟩ := i.intI
      obtain ⟨as, ra⟩ := ih _ r'
      exact ⟨_, .cons (.int n t) ra⟩
  exact this.imp' (a :: ·) fun as ra => .list (p _ _ q) rfl rfl (List.toList_toArray .. ▸ ra)
theorem reads_strs (p : In P h) {v : Value} {xs : List Str} (i : Is P v (.list (xs.map .str))) : ∃ as, Reads h v (.list (xs.map .str)) as := by
  obtain ⟨a, vs, n, rfl, q, r⟩ := i.listI
  have : ∃ as, ReadsAll h vs (xs.map .str) as := by
    clear q i
    induction xs generalizing vs with
    | nil => rw [r.nilI]; exact ⟨_, .nil⟩
    | cons x xs ih =>
      obtain ⟨v, w, rfl, i, r'⟩ := r.consI
      obtain ⟨t, rfl⟩ := i.strI
      obtain ⟨as, ra⟩ := ih _ r'
      exact ⟨_, .cons (.str x t) ra⟩
  exact this.imp' (a :: ·) fun as ra => .list (p _ _ q) rfl rfl (List.toList_toArray .. ▸ ra)
end
noncomputable def strsOk (xs : List Str) : Bool := xs.all PyData.strOk
theorem canLayAll0_strs : ∀ xs : List Str, strsOk xs = true → PyData.canLayAll0 (xs.map PyData.str) = true
  | [], _ => by simp [PyData.canLayAll0]
  | n :: r, h => by
    have h' : PyData.strOk n = true ∧ strsOk r = true := by simpa [strsOk] using h
    simp [PyData.canLayAll0, PyData.canLay0, canLayAll0_strs r h'.2, h'.1]
theorem depthAll_strs : ∀ xs : List Str, PyData.depthAll (xs.map PyData.str) ≤ 1
  | [] => by simp [PyData.depthAll]
  | n :: r => by
    have := depthAll_strs r
    simp only [List.map_cons, PyData.depthAll, PyData.depth]
    omega
theorem shaped_strs (xs : List Str) (h : strsOk xs = true) : shaped (.list (xs.map PyData.str)) = true := by
  have h1 := depthAll_strs xs
  have h2 : PyData.depth (.list (xs.map PyData.str)) ≤ 64 := by simp only [PyData.depth]; omega
  show (PyData.canLay0 (.list (xs.map PyData.str)) && decide (PyData.depth (.list (xs.map PyData.str)) ≤ 64)) = true
  rw [Bool.and_eq_true]
  exact ⟨by simp only [PyData.canLay0]; exact canLayAll0_strs xs h, decide_eq_true h2⟩
theorem noMix_strs : ∀ xs ys : List Str, noMixAll (xs.map PyData.str) (ys.map PyData.str) = true
  | [], [] => by simp [noMixAll]
  | [], _ :: _ => by simp [noMixAll]
  | _ :: _, [] => by simp [noMixAll]
  | _ :: r, _ :: q => by simp [noMixAll, noMix, noMix_strs r q]
theorem same_strs : ∀ xs ys : List Str, PySem.Spec.sameAll (xs.map PyData.str) (ys.map PyData.str) = decide (xs = ys)
  | [], [] => by simp [PySem.Spec.sameAll]
  | [], _ :: _ => by simp [PySem.Spec.sameAll]
  | _ :: _, [] => by simp [PySem.Spec.sameAll]
  | n :: r, k :: q => by
    simp only [List.map_cons, PySem.Spec.sameAll, PySem.Spec.same, same_strs r q]
    by_cases h : n = k <;> simp [h]
section
variable {W : Wd} {k : Nat} {env : Env} {Γ : List (Str × D)} {Δ : List (Str × List D)}
theorem units_ok {A : Around} (a : AOk k A) : A.units + 64 < cLine := by have := a.2.2; omega
theorem op_ne_ints {ns ms : List Int} : Op2 W k (compareOp .NotEq) (.list (ns.map .int)) (.list (ms.map .int)) (.bool (!decide (ns = ms))) := fun A S P s E Q u v st hu hv hQ => by
  obtain ⟨as, ra⟩ := reads_ints st.p hu
  obtain ⟨bs, rb⟩ := reads_ints st.p hv
  refine ne_dataH_same ra rb (shaped_ints ns) (shaped_ints ms) (units_ok st.a) (by simp only [noMix]; exact noMix_ints ns ms) (hQ _ P _ (Gr.refl st.p) ?_)
  simp only [PySem.Spec.same, same_ints]; exact .bool _
theorem op_ne_strs {xs ys : List Str} (h1 : strsOk xs = true) (h2 : strsOk ys = true) : Op2 W k (compareOp .NotEq) (.list (xs.map .str)) (.list (ys.map .str)) (.bool (!decide (xs = ys))) := fun A S P s E Q u v st hu hv hQ => by
  obtain ⟨as, ra⟩ := reads_strs st.p hu
  obtain ⟨bs, rb⟩ := reads_strs st.p hv
  refine ne_dataH_same ra rb (shaped_strs xs h1) (shaped_strs ys h2) (units_ok st.a) (by simp only [noMix]; exact noMix_strs xs ys) (hQ _ P _ (Gr.refl st.p) ?_)
  simp only [PySem.Spec.same, same_strs]; exact .bool _
theorem op_ne_nil : Op2 W k (compareOp .NotEq) (.list []) (.list []) (.bool false) := by
  have := op_ne_ints (W := W) (k := k) (ns := []) (ms := []); simpa using this

/-! ### «a and b», as a value: b's value, or a's if it is false -/
end

section
variable {W : Wd} {k : Nat} {A : Around} {env : Env} {s₀ : Shared} {P₀ H : Vw} {Γ : List (Str × D)} {Δ : List (Str × List D)} {Mx : List (Addr × MO)} {P : Vw} {s : Shared} {E : Value → Shared → Prop} {Q : Flow → Shared → Prop}
theorem s_assert {test : Expr} {pos : Pos} {rest : List Stmt} (X : At W k A env s₀ P₀ H Γ Δ Mx P s) (ht : Ts (W.at Mx) k env Γ Δ test true)
    (next : ∀ P' s', At W k A env s₀ P₀ H Γ Δ Mx P' s' → wpAny W.M A (execs rest env) Q E s') : wpAny W.M A (execs (.Assert test none pos :: rest) env) Q E s :=
  wpAny_execs_cons (wpAny_Assert_holds (ht A _ P s E _ X.st X.cx fun P' s' g tk => ⟨rfl, next P' s' (X.gr g tk)⟩))
theorem s_assert' {test : Expr} {pos : Pos} {rest : List Stmt} {b : Bool} (X : At W k A env s₀ P₀ H Γ Δ Mx P s) (ht : Ts (W.at Mx) k env Γ Δ test b) (hb : b = true)
    (next : ∀ P' s', At W k A env s₀ P₀ H Γ Δ Mx P' s' → wpAny W.M A (execs rest env) Q E s') : wpAny W.M A (execs (.Assert test none pos :: rest) env) Q E s := by
  subst hb
  exact s_assert X ht next
theorem s_break {pos : Pos} {rest : List Stmt} (h : Q .brk s) : wpAny W.M A (execs (.Break pos :: rest) env) Q E s := wpAny_execs_cons (wpAny_Break h)
theorem s_continue {pos : Pos} {rest : List Stmt} (h : Q .cont s) : wpAny W.M A (execs (.Continue pos :: rest) env) Q E s := wpAny_execs_cons (wpAny_Continue h)
theorem seqIndex_nn {i : Int} {n : Nat} (h0 : 0 ≤ i) (h1 : i < n) : seqIndex? i n = some i.toNat := by
  unfold seqIndex?
  have : ¬ i < 0 := by omega
  simp [this, h0, h1]
theorem seqIndex_neg {i : Int} {n : Nat} (h0 : i < 0) (h1 : -(n : Int) ≤ i) : seqIndex? i n = some (i + n).toNat := by
  unfold seqIndex?
  have h2 : 0 ≤ i + n ∧ i + n < n := by omega
  simp [h0, h2]
/-- del xs[i] -/
theorem s_del {x : Str} {xp p pos : Pos} {ie : Expr} {rest : List Stmt} {ds : List D} {i : Int} {j : Nat} (X : At W k A env s₀ P₀ H Γ ((x, ds) :: Δ) Mx P s) (hi : Ev (W.at Mx) k env Γ ((x, ds) :: Δ) ie (.int i)) (hj : seqIndex? i ds.length = some j) (hf : Builtin.List.listFitsIndex i = true := by decide) (hsz : ds.length ≤ sizeLine)
    (next : ∀ P' s', At W k A env s₀ P₀ H Γ ((x, ds.eraseIdx j) :: Δ) Mx P' s' → wpAny W.M A (execs rest env) Q E s')
    (hd : (x == ("__debug__" : Str)) = false := by decide) (hn : (x == ("__classdict__" : Str)) = false := by decide) :
    wpAny W.M A (execs (.Delete [.Subscript (.Name x xp) ie p] pos :: rest) env) Q E s := by
  refine wpAny_execs_cons (wpAny_Delete (wpAny_deleteEach_cons (wpAny_delete_Subscript ?_)))
  obtain ⟨m, cv, ad, y, hnn⟩ := X.mnew
  obtain ⟨vs, n, e1, q, iv⟩ := y.muts _ List.mem_cons_self
  refine name_read X.fn X.st.sv (y.nameOk e1) ?_ hd hn
  refine hi A _ P s E _ X.st X.cx fun v P' s' g tk ii => ?_
  obtain ⟨t, rfl⟩ := Is.intI ii
  have y' := y.gr g
  have hlen : vs.toArray.size = ds.length := by rw [List.size_toArray, iv.length]
  refine wpAny_delItem_plain ⟨n, g.old _ _ q⟩ hf (by rw [hlen]; exact hj) (fun h' hl hs' => wpAny_deleteEach_nil ?_) (by rw [hlen]; exact hsz)
  obtain ⟨n', he'⟩ := hl
  have er : ∀ {vs : List Value} {ds : List D} {j : Nat}, IsAll P' vs ds → IsAll P' (vs.eraseIdx j) (ds.eraseIdx j) := by
    intro vs
    induction vs with
    | nil => intro ds j h; rw [h.nilV]; exact .nil
    | cons v vs ih =>
      intro ds j h
      obtain ⟨e, es, rfl, a, b⟩ := h.consV
      cases j with
      | zero => exact b
      | succ j => exact .cons a (ih b)
  refine next P' _ ((X.gr g tk).turn (vs' := vs.eraseIdx j) (n' := n') y' hnn tk (fun b o n e => hs'.extBut b o n e) (he'.trans ?_) (er (iv.mono g.le)))
  show some _ = some _
  congr 1
  simp [PySem.W.listOf]
/-- xs[i] = e -/
theorem s_setitem {x : Str} {xp p pos : Pos} {ie e : Expr} {rest : List Stmt} {ds : List D} {d : D} {i : Int} (X : At W k A env s₀ P₀ H Γ ((x, ds) :: Δ) Mx P s) (hv : Ev (W.at Mx) k env Γ ((x, ds) :: Δ) e d) (hi : Ev (W.at Mx) k env Γ ((x, ds) :: Δ) ie (.int i)) (h0 : 0 ≤ i) (h1 : i < ds.length) (hb : i < 2 ^ 63)
    (next : ∀ P' s', At W k A env s₀ P₀ H Γ ((x, ds.set i.toNat d) :: Δ) Mx P' s' → wpAny W.M A (execs rest env) Q E s')
    (hd : (x == ("__debug__" : Str)) = false := by decide) (hn : (x == ("__classdict__" : Str)) = false := by decide)
    (hs : swapsWith e (some (.Subscript (.Name x xp) ie p)) pos.line env = pure false := by rfl) :
    wpAny W.M A (execs (.Assign [.Subscript (.Name x xp) ie p] e pos :: rest) env) Q E s := by
  refine wpAny_execs_cons (wpAny_Assign_Subscript (hv A _ P s E _ X.st X.cx fun v P1 s1 g1 tk1 i1 => ?_) hs)
  have X1 := X.gr g1 tk1
  obtain ⟨m, cv, ad, y, hnn⟩ := X1.mnew
  obtain ⟨vs, n, e1, q, iv⟩ := y.muts _ List.mem_cons_self
  refine name_read X1.fn X1.st.sv (y.nameOk e1) ?_ hd hn
  refine hi A _ P1 s1 E _ X1.st X1.cx fun w P2 s2 g2 tk2 i2 => ?_
  obtain ⟨t, rfl⟩ := Is.intI i2
  have y2 := y.gr g2
  have hlen : vs.toArray.size = ds.length := by rw [List.size_toArray, iv.length]
  have ho := g2.old _ _ q
  have er : ∀ {vs : List Value} {ds : List D} {j : Nat}, IsAll P2 vs ds → IsAll P2 (vs.set j v) (ds.set j d) := by
    intro vs
    induction vs with
    | nil => intro ds j h; rw [h.nilV]; exact .nil
    | cons v vs ih =>
      intro ds j h
      obtain ⟨e, es, rfl, a, b⟩ := h.consV
      cases j with
      | zero => exact .cons (i1.mono g2.le) b
      | succ j => exact .cons a (ih b)
  refine PySem.W.ki_setAt ho h0 hb (by rw [hlen]; exact h1) ?_
  have ho' := Heap.get?_update_self (Obj.mapSeq (·.setIfInBounds i.toNat v)) ho (by simp [PySem.W.listOf, Obj.mapSeq, Obj.isFreed])
  refine next P2 _ ((X1.gr g2 tk2).turn (vs' := vs.set i.toNat v) (n' := n) (tk' := s2.toks) y2 hnn tk2 (fun b o nb e => (Heap.SameBut.update ..).extBut b o nb e) (ho'.trans ?_) (er (iv.mono g2.le)))
  simp [PySem.W.listOf, Obj.mapSeq]
end
end
section
/-! ### fields -/
noncomputable def putF (name : Str) (d : D) : List (Str × D) → List (Str × D)
  | [] => [(name, d)]
  | (x, e) :: r => if x == name then (x, d) :: r else (x, e) :: putF name d r
section
variable {P : Vw}
theorem isStr_eq {x name : Str} {t : Tok} (q : (name == x) = true) : (Value.str x t).isStr name = true := by
  simpa [Value.isStr] using (beq_iff_eq.mp q).symm
theorem isStr_ne {x name : Str} {t : Tok} (q : (name == x) = false) : (Value.str x t).isStr name = false := by
  simpa [Value.isStr] using fun e : x = name => by rw [e] at q; simp at q
theorem IsFs.get {name : Str} {d : D} {es : List DictEntry} {fs : List (Str × D)} (h : IsFs P es fs) (hl : fs.lookup name = some d) : ∃ v, getL name es = some (some v) ∧ Is P v d := by
  induction fs generalizing es with
  | nil => exact nomatch hl
  | cons p r ih =>
    obtain ⟨hs, t, v, es, rfl, i, r⟩ := h.consI
    rw [List.lookup_cons] at hl
    unfold getL
    rw [List.find?_cons]
    cases q : name == p.1 with
    | true =>
      rw [q] at hl
      rw [isStr_eq q]
      exact ⟨v, rfl, Option.some.inj hl ▸ i⟩
    | false =>
      rw [q] at hl
      rw [isStr_ne q]
      obtain ⟨w, e, iw⟩ := ih r hl
      refine ⟨w, ?_, iw⟩
      unfold getL at e
      dsimp only
      split at e
      · rename_i en he; rw [he]; exact e
      · rename_i he
        split at e
        · exact nomatch e
        · exact nomatch e
theorem IsFs.noRef {es : List DictEntry} {fs : List (Str × D)} (h : IsFs P es fs) : es.any (·.refKey) = false := by
  induction fs generalizing es with
  | nil => rw [h.nilI]; rfl
  | cons p r ih =>
    obtain ⟨hs, t, v, es, rfl, i, r⟩ := h.consI
    rw [List.any_cons, ih r]; rfl
theorem IsFs.missF {name : Str} {es : List DictEntry} {fs : List (Str × D)} (h : IsFs P es fs) (hl : fs.lookup name = none) : es.find? (·.key.isStr name) = none := by
  induction fs generalizing es with
  | nil => rw [h.nilI]; rfl
  | cons p r ih =>
    obtain ⟨hs, t, v, es, rfl, i, r⟩ := h.consI
    rw [List.lookup_cons] at hl
    rw [List.find?_cons]
    cases q : name == p.1 with
    | true => rw [q] at hl; exact nomatch hl
    | false =>
      rw [q] at hl
      rw [isStr_ne q]
      exact ih r hl
theorem IsFs.miss {name : Str} {es : List DictEntry} {fs : List (Str × D)} (h : IsFs P es fs) (hl : fs.lookup name = none) : getL name es = some none := by
  unfold getL
  rw [h.missF hl, h.noRef]; rfl
theorem IsFs.put {name : Str} {hs : Int} {t : Tok} {v : Value} {d : D} (i : Is P v d) {es : List DictEntry} {fs : List (Str × D)} (h : IsFs P es fs) : IsFs P (putL name hs (.str name t) v es) (putF name d fs) := by
  induction fs generalizing es with
  | nil => rw [h.nilI]; exact .cons i .nil
  | cons p r ih =>
    obtain ⟨h0, u, w, es, rfl, j, r⟩ := h.consI
    unfold putL putF
    cases q : p.1 == name with
    | true =>
      rw [show (Value.str p.1 u).isStr name = true from by simpa [Value.isStr] using beq_iff_eq.mp q, if_pos rfl, if_pos rfl]
      exact .cons i r
    | false =>
      rw [show (Value.str p.1 u).isStr name = false from by simpa [Value.isStr] using beq_eq_false_iff_ne.mp q, if_neg Bool.false_ne_true, if_neg Bool.false_ne_true]
      exact .cons j (ih r)
theorem IsFs.length {es : List DictEntry} {fs : List (Str × D)} (h : IsFs P es fs) : es.length = fs.length := by
  induction fs generalizing es with
  | nil => rw [h.nilI]; rfl
  | cons p r ih =>
    obtain ⟨h0, u, w, es, rfl, j, r⟩ := h.consI
    exact congrArg Nat.succ (ih r)
theorem handed_of {v : Value} {d : D} (h : Is P v d) : handedIn v = true :=
  Is.rec (motive_1 := fun v _ _ => handedIn v = true) (motive_2 := fun _ _ _ => True) (motive_3 := fun _ _ _ => True) rfl (fun _ => rfl) (fun _ _ => rfl) (fun _ _ => rfl) (fun _ _ _ => rfl) (fun _ _ _ => rfl) (fun _ => rfl) (fun _ => rfl) (fun _ => rfl) (fun _ _ _ _ => rfl) (fun _ _ => rfl) (fun _ _ ih => ih) trivial (fun _ _ _ _ => trivial) trivial (fun _ _ _ _ => trivial) h
end

/-- reading a name of an instance of C finds it in the instance -/
structure GetK (K : Frag) (C : Addr) (name : Str) : Prop where
  ga : findIn K (.ref C) "__getattribute__" = some (some (.builtin "object.__getattribute__"))
  hh : hasDictIn K C = true
  at_ : ∃ attr, findIn K (.ref C) name = some attr ∧ noGet K attr = true
structure SetK (K : Frag) (C : Addr) (name : Str) : Prop where
  sa : findIn K (.ref C) "__setattr__" = some (some (.builtin "object.__setattr__"))
  po : plainOver K C = true
  tk : takerIn K C name = some none
  hh : hasDictIn K C = true
structure MethK (K : Frag) (C : Addr) (name : Str) (f : Addr) : Prop where
  ga : findIn K (.ref C) "__getattribute__" = some (some (.builtin "object.__getattribute__"))
  gt : findIn K (.ref C) "__getattr__" = some none
  hf : findIn K (.ref C) name = some (some (.ref f))
  ty : typeIn K (.ref f) = some (.type "function")

section
variable {prog : Program} {w : World} {A : Around} {E : Value → Shared → Prop} {s : Shared} {K : Frag} {x C dx : Addr}
theorem inst_at {h : Heap} {od : Obj} (h1 : h.get? x = some (instObj C dx)) (h2 : h.get? dx = some od) : InstAt h x (instObj C dx) C (some od) := ⟨h1, rfl, rfl, h2⟩
theorem putL_len {name : Str} {hs : Int} {key v : Value} : ∀ (es : List DictEntry), (putL name hs key v es).length ≤ es.length + 1
  | [] => Nat.le_refl _
  | e :: r => by
    have := putL_len (name := name) (hs := hs) (key := key) (v := v) r
    unfold putL
    split
    · exact Nat.le_succ _
    · rw [List.length_cons, List.length_cons]; omega
theorem osa_raw {name : Str} {tk : Tok} {v : Value} {es : List DictEntry} {n : Nat} {R : Result → Shared → Prop} (X : K.In s.heap) (G : SetK K C name) (h1 : s.heap.get? x = some (instObj C dx)) (h2 : s.heap.get? dx = some (dictOf es n))
    (hl : (getL name es).isSome = true) (hz : es.length ≤ 900)
    (h : ∀ hs t h' n', Heap.SameBut dx s.heap h' → h'.get? dx = some (dictOf (putL name hs (.str name t) v es) n') → R (.ok (.ret .none)) { s with heap := h', toks := s.toks + 1 }) : codeAny (model prog w) A (.call (.builtin "object.__setattr__") ⟨[.ref x, .str name tk, v], []⟩) R s := by
  refine osa_open X (inst_at h1 h2) G.po G.tk fun b => ?_
  obtain ⟨cd, hc, hd'⟩ := any_some G.hh
  refine wpAny_bind (wpAny_pure (wpAny_bind (wpAny_bind (wpAny_loadPart h1 (wpAny_bind ((looks_clsIn X hc).here ?_))))))
  rw [hd']
  refine wpAny_pure (a := some dx) (wpAny_bind (wpAny_pure (wpAny_bind ?_)))
  unfold nsSet
  refine wpAny_bind (wpAny_bind (wpAny_askSetting (wpAny_pure (wpAny_bind (wpAny_mkText (wpAny_bind (wpAny_loadPart h2 ?_)))))))
  dsimp only
  have c : (!es.toArray.any (·.key.isStr name) && es.toArray.any (·.refKey)) = false := by
    rw [← Array.any_toList, ← Array.any_toList]
    show (!es.any _ && es.any _) = _
    unfold getL at hl
    split at hl
    · rename_i en he
      rw [List.any_eq_true.mpr ⟨en, List.mem_of_find?_eq_some he, List.find?_some he⟩]; rfl
    · split at hl
      · cases hl
      · rename_i z; rw [Bool.not_eq_true] at z
        rw [z, Bool.and_false]
  rw [aRefKeyMayBeTheName_at, c]
  refine wpAny_updatePart h2 ?_
  have D' : ∀ (hs : Int) (t : Tok), (s.heap.update dx (Obj.putName name hs (.str name t) v)).get? dx = some (dictOf (putL name hs (.str name t) v es) (putN name es n)) := fun hs t => by
    have := Heap.get?_update_self (Obj.putName name hs (.str name t) v) h2 (by rw [putName_dict]; rfl)
    rw [this, putName_dict]
  refine wpAny_bind (wpAny_lookBehind (D' _ _) (by rw [pastItsLine_dict]; rw [List.size_toArray, sizeLine_eq]; exact Nat.le_trans (putL_len es) (by omega)) ?_)
  exact wpAny_pure (h _ _ _ _ (Heap.SameBut.update ..) (D' _ _))
/-- a field is stored -/
theorem set_raw {name : Str} {v : Value} {es : List DictEntry} {n : Nat} {Q : Unit → Shared → Prop} (X : K.In s.heap) (G : SetK K C name) (h1 : s.heap.get? x = some (instObj C dx)) (h2 : s.heap.get? dx = some (dictOf es n))
    (hl : (getL name es).isSome = true) (hz : es.length ≤ 900)
    (h : ∀ hs t h' n', Heap.SameBut dx s.heap h' → h'.get? dx = some (dictOf (putL name hs (.str name t) v es) n') → Q () { s with heap := h', toks := s.toks + 2 }) : wpAny (model prog w) A (setAttr (.ref x) name v) Q E s :=
  set_plain X (inst_at h1 h2) G.sa (osa_raw (s := { s with toks := s.toks + 1 }) X G h1 h2 hl hz fun hs t h' n' a b => h hs t h' n' a b)
end
end
section
noncomputable abbrev callForm (o : Expr) (name : Str) (apos pos : Pos) (args : List Expr) (pl : Sem Bool) (env : Env) : Prop := eval (.Call (.Attribute o name apos) args [] pos) env = (do
      let ov ← eval o env
      standAt apos.atName
      let (f, first) ← holding [ov] (getMethod ov name pl)
      callWith pos f first (backTo pos (starEach args env)) [])
noncomputable abbrev attrForm (o : Expr) (name : Str) (pos : Pos) (env : Env) : Prop := eval (.Attribute o name pos) env = (do
      let v ← eval o env
      standAt pos.atName
      let r ← holding [v] (getAttr v name true)
      letTemporaryGo o v r
      pure r)
structure FnK (K : Frag) (f : Addr) : Prop where
  has : ∃ o fd, K.lookup f = some o ∧ o.data = .func fd
section
variable {W : Wd} {k : Nat} {env : Env} {Γ : List (Str × D)} {Δ : List (Str × List D)}
theorem evalArgs_ev' {A : Around} {S P : Vw} {s : Shared} {E : Value → Shared → Prop} {Q : Args → Shared → Prop} {f : Value} {args : List Expr} {ds : List D} {pos : Pos} (hp : args.all plainE = true) (st : St W k A S P s) (hC : Cx S P env Γ Δ) (h : Evs W k env Γ Δ args ds) (hA : args = [] → ds = [])
    (hQ : ∀ vs P' s', Gr P s P' s' → 1 ≤ s'.toks → IsAll P' vs ds → Q ⟨vs, []⟩ s') : wpAny W.M A (evalArgs f true (backTo pos (starEach args env)) []) Q E s := by
  cases args with
  | nil => rw [hA rfl] at hQ; exact PySem.evalArgs_none (hQ [] P s (Gr.refl st.p) st.tk .nil)
  | cons e r => exact evalArgs_ev hp st hC h hQ
/-- a call of one of the text's functions -/
theorem callWith_fn {A : Around} {S P : Vw} {s : Shared} {E Q : Value → Shared → Prop} {f : Addr} {first : List Value} {args : List Expr} {ds : List D} {pos : Pos} (F : FnK W.K f) (hp : args.all plainE = true) (st : St W k A S P s) (hC : Cx S P env Γ Δ) (h : Evs W k env Γ Δ args ds) (hA : args = [] → ds = [])
    (hQ : ∀ vs P' s', Gr P s P' s' → 1 ≤ s'.toks → IsAll P' vs ds → wpAny W.M A (call (.ref f) (first ++ vs)) Q E s') : wpAny W.M A (callWith pos (.ref f) first (backTo pos (starEach args env)) []) Q E s := by
  obtain ⟨o, fd, ho, hd⟩ := F.has
  refine callWith_function (o := o) (fd := fd) (evalArgs_ev' hp st hC h hA fun vs P' s' g tk i => ⟨⟨?_, hd⟩, hQ vs P' s' g tk i⟩)
  exact Bs.frag (st.b.up g.le) g.inn _ _ ho
theorem ev_callF {x : Str} {f : Addr} {p pos : Pos} {args : List Expr} {ds : List D} {d : D} (n : NmG W env x (.ref f)) (F : FnK W.K f) (h : Evs W k env Γ Δ args ds) (hc : Cl W k (.ref f) ds d)
    (hA : args = [] → ds = [] := by intro h; first | rfl | cases h) (hp : args.all plainE = true := by rfl) (hd : (x == ("__debug__" : Str)) = false := by decide) : Ev W k env Γ Δ (.Call (.Name x p) args [] pos) d := .mk fun A S P s E Q st hC hQ => by
  refine wpAny_Call_Name_kw (name_gl st.b st.p hC n ?_ hd)
  exact callWith_fn F hp st hC h hA fun vs P₁ s₁ g₁ tk₁ i₁ => hc A S P₁ s₁ E Q vs (st.next g₁ tk₁) i₁ fun v P₂ s₂ g₂ i₂ => hQ v P₂ s₂ (g₁.trans g₂) i₂

/-! ### fields -/
theorem ev_attrI {o : Expr} {name : Str} {pos : Pos} {x C dx : Addr} {fs : List (Str × D)} {d : D} (h0 : Ev W k env Γ Δ o (.inst x C dx)) (hm : (dx, MO.dict fs) ∈ W.raws) (G : GetK W.K C name) (hl : fs.lookup name = some d)
    (he : attrForm o name pos env := by with_unfolding_all rfl) : Ev W k env Γ Δ (.Attribute o name pos) d := .mk fun A S P s E Q st hC hQ =>
  Attribute_any_ (h0 A S P s E _ st hC fun v P₁ s₁ g₁ tk₁ i₁ => by
    obtain ⟨rfl, hx⟩ := i₁.instI
    obtain ⟨ob, ho, hi⟩ := (st.next g₁ tk₁).rw _ hm
    obtain ⟨es, n, rfl, hf⟩ := hi.dictI
    obtain ⟨u, hu, hiu⟩ := hf.get hl
    obtain ⟨attr, ha, hn⟩ := G.at_
    refine get_value (Bs.frag (st.b.up g₁.le) g₁.inn) (inst_at (g₁.inn _ _ hx) (g₁.s st.sv _ _ ho)) G.ga (findObj_own G.hh ha hn (by rw [lookIn_dict]; exact hu)) (handed_of hiu) ?_
    exact hQ u P₁ _ (g₁.trans (Gr.toks g₁.inn)) hiu) he
theorem ev_attrO {o : Expr} {name : Str} {pos : Pos} {C : Addr} {fs : List (Str × D)} {d : D} (h0 : Ev W k env Γ Δ o (.obj C fs)) (G : GetK W.K C name) (hl : fs.lookup name = some d)
    (he : attrForm o name pos env := by with_unfolding_all rfl) : Ev W k env Γ Δ (.Attribute o name pos) d := .mk fun A S P s E Q st hC hQ =>
  Attribute_any_ (h0 A S P s E _ st hC fun v P₁ s₁ g₁ tk₁ i₁ => by
    obtain ⟨a, dx, es, n, rfl, hx, hd, hf⟩ := i₁.objI
    obtain ⟨u, hu, hiu⟩ := hf.get hl
    obtain ⟨attr, ha, hn⟩ := G.at_
    refine get_value (Bs.frag (st.b.up g₁.le) g₁.inn) (inst_at (g₁.inn _ _ hx) (g₁.inn _ _ hd)) G.ga (findObj_own G.hh ha hn (by rw [lookIn_dict]; exact hu)) (handed_of hiu) ?_
    exact hQ u P₁ _ (g₁.trans (Gr.toks g₁.inn)) hiu) he
/-- a str that stands in a class -/
theorem ev_attrC {x name : Str} {p pos : Pos} {C : Addr} {y : Str} {t : Tok} (n : NmG W env x (.ref C)) (hr : readsIn W.K C (.type "type") = true) (hf : findCls W.K (.ref C) (.type "type") name = some (.val (.str y t)))
    (he : attrForm (.Name x p) name pos env := by with_unfolding_all rfl) (hd : (x == ("__debug__" : Str)) = false := by decide) : Ev W k env Γ Δ (.Attribute (.Name x p) name pos) (.str y) := .mk fun A S P s E Q st hC hQ =>
  Attribute_any_ (name_gl st.b st.p hC n (cls_value (Bs.frag st.b st.p) hr hf rfl (hQ _ P _ (Gr.toks st.p) (.str _ _))) hd) he
/-- x.m(..), of an object that stands, by a method that turns nothing -/
theorem ev_methO {o : Expr} {name : Str} {apos pos : Pos} {args : List Expr} {pl : Sem Bool} {C f : Addr} {fs : List (Str × D)} {ds : List D} {d : D} (h0 : Ev W k env Γ Δ o (.obj C fs)) (M : MethK W.K C name f) (F : FnK W.K f) (hl : fs.lookup name = none) (h : Evs W k env Γ Δ args ds) (hc : Cl W k (.ref f) (.obj C fs :: ds) d)
    (he : callForm o name apos pos args pl env := by rfl) (hA : args = [] → ds = [] := by intro h; first | rfl | cases h) (hp : args.all plainE = true := by rfl) : Ev W k env Γ Δ (.Call (.Attribute o name apos) args [] pos) d := .mk fun A S P s E Q st hC hQ =>
  MethodCall_ (h0 A S P s E _ st hC fun v P₁ s₁ g₁ tk₁ i₁ => by
    obtain ⟨a, dx, es, n, rfl, hx, hd, hf⟩ := i₁.objI
    refine method_fn (Bs.frag (st.b.up g₁.le) g₁.inn) (inst_at (g₁.inn _ _ hx) (g₁.inn _ _ hd)) M.ga M.gt M.hf M.ty (by show (lookIn name (dictOf es n)).map _ = _; rw [lookIn_dict, hf.miss hl]; rfl) ?_
    refine callWith_fn F hp (st.next g₁ tk₁) (hC.up (Le.refl _) g₁.le) h hA fun vs P₂ s₂ g₂ tk₂ i₂ => ?_
    exact hc A S P₂ s₂ E Q (.ref a :: vs) ((st.next g₁ tk₁).next g₂ tk₂) (.cons (Is.obj (g₂.le _ _ hx) (g₂.le _ _ hd) (hf.mono g₂.le)) i₂) fun u P₃ s₃ g₃ i₃ => hQ u P₃ s₃ ((g₁.trans g₂).trans g₃) i₃) he

theorem at_attrC {K : Frag} {x name : Str} {p pos : Pos} {C : Addr} {y : Str} {t : Tok} (hK : W.K = K) (n : NmG W env x (.ref C)) (hr : readsIn K C (.type "type") = true := by rfl) (hf : findCls K (.ref C) (.type "type") name = some (.val (.str y t)) := by rfl)
    (he : attrForm (.Name x p) name pos env := by with_unfolding_all rfl) (hd : (x == ("__debug__" : Str)) = false := by decide) : Ev W k env Γ Δ (.Attribute (.Name x p) name pos) (.str y) := ev_attrC n (by rw [hK]; exact hr) (by rw [hK]; exact hf) he hd
theorem getK {K : Frag} {C : Addr} {name : Str} {attr : Option Value} (hK : W.K = K) (ga : findIn K (.ref C) "__getattribute__" = some (some (.builtin "object.__getattribute__")) := by rfl) (hh : hasDictIn K C = true := by rfl) (ha : findIn K (.ref C) name = some attr := by rfl) (hn : noGet K attr = true := by rfl) : GetK W.K C name :=
  ⟨by rw [hK]; exact ga, by rw [hK]; exact hh, attr, by rw [hK]; exact ha, by rw [hK]; exact hn⟩
theorem setK {K : Frag} {C : Addr} {name : Str} (hK : W.K = K) (sa : findIn K (.ref C) "__setattr__" = some (some (.builtin "object.__setattr__")) := by rfl) (po : plainOver K C = true := by rfl) (tk : takerIn K C name = some none := by rfl) (hh : hasDictIn K C = true := by rfl) : SetK W.K C name :=
  ⟨by rw [hK]; exact sa, by rw [hK]; exact po, by rw [hK]; exact tk, by rw [hK]; exact hh⟩
theorem methK {K : Frag} {C f : Addr} {name : Str} (hK : W.K = K) (ga : findIn K (.ref C) "__getattribute__" = some (some (.builtin "object.__getattribute__")) := by rfl) (gt : findIn K (.ref C) "__getattr__" = some none := by rfl) (hf : findIn K (.ref C) name = some (some (.ref f)) := by rfl) (ty : typeIn K (.ref f) = some (.type "function") := by rfl) : MethK W.K C name f :=
  ⟨by rw [hK]; exact ga, by rw [hK]; exact gt, by rw [hK]; exact hf, by rw [hK]; exact ty⟩
theorem fnK {K : Frag} {f : Addr} {o : Obj} {fd : FuncData} (hK : W.K = K) (ho : K.lookup f = some o := by rfl) (hd : o.data = .func fd := by rfl) : FnK W.K f := ⟨o, fd, by rw [hK]; exact ho, hd⟩
/-! ### calls that turn owned objects -/
noncomputable def EvM (W : Wd) (k : Nat) (env : Env) (Γ : List (Str × D)) (Δ : List (Str × List D)) (e : Expr) (d : D) (Mx Mx' : List (Addr × MO)) : Prop :=
  ∀ (A : Around) (S P : Vw) (s : Shared) (E Q : Value → Shared → Prop), St W k A S P s → Cx S P env Γ Δ → Dv P s Mx → (∀ p ∈ Mx, S p.1 = none) →
    (∀ v P' s', GrM (ads Mx) P s P' s' → 1 ≤ s'.toks → Dv P' s' Mx' → Is P' v d → Q v s') → wpAny W.M A (eval e env) Q E s
theorem Dv.gr {P P' : Vw} {s s' : Shared} {Mx : List (Addr × MO)} (h : Dv P s Mx) (g : Gr P s P' s') : Dv P' s' Mx :=
  ⟨fun p hp => (h.has p hp).imp fun o hh => ⟨g.old _ _ hh.1, hh.2.mono g.le⟩, h.nd, fun p hp => let ⟨o, q, i⟩ := h.has p hp; (gr_none g ⟨h.off p hp, o, q⟩).1⟩
theorem evm_callF {x : Str} {f : Addr} {p pos : Pos} {args : List Expr} {ds : List D} {d : D} {Mx Mx' : List (Addr × MO)} (n : NmG W env x (.ref f)) (F : FnK W.K f) (h : Evs W k env Γ Δ args ds) (hc : ClM W k (.ref f) ds d Mx Mx')
    (hA : args = [] → ds = [] := by intro h; first | rfl | cases h) (hp : args.all plainE = true := by rfl) (hd : (x == ("__debug__" : Str)) = false := by decide) : EvM W k env Γ Δ (.Call (.Name x p) args [] pos) d Mx Mx' := fun A S P s E Q st hC dv hoff hQ => by
  refine wpAny_Call_Name_kw (name_gl st.b st.p hC n ?_ hd)
  exact callWith_fn F hp st hC h hA fun vs P₁ s₁ g₁ tk₁ i₁ => hc A S P₁ s₁ E Q vs (st.next g₁ tk₁) i₁ (dv.gr g₁) fun v P₂ s₂ g₂ tk₂ dv₂ i₂ => hQ v P₂ s₂ ((g₁.m _).trans g₂) tk₂ dv₂ i₂
/-- x.m(..), of an object whose fields turn -/
theorem evm_meth {o : Expr} {name : Str} {apos pos : Pos} {args : List Expr} {pl : Sem Bool} {x C dx f : Addr} {fs : List (Str × D)} {ds : List D} {d : D} {Mx Mx' : List (Addr × MO)} (h0 : Ev W k env Γ Δ o (.inst x C dx)) (M : MethK W.K C name f) (F : FnK W.K f) (hm : (dx, MO.dict fs) ∈ Mx) (hl : fs.lookup name = none) (h : Evs W k env Γ Δ args ds)
    (hc : ClM W k (.ref f) (.inst x C dx :: ds) d Mx Mx') (he : callForm o name apos pos args pl env := by rfl) (hA : args = [] → ds = [] := by intro h; first | rfl | cases h) (hp : args.all plainE = true := by rfl) : EvM W k env Γ Δ (.Call (.Attribute o name apos) args [] pos) d Mx Mx' := fun A S P s E Q st hC dv hoff hQ =>
  MethodCall_ (h0 A S P s E _ st hC fun v P₁ s₁ g₁ tk₁ i₁ => by
    obtain ⟨rfl, hx⟩ := i₁.instI
    obtain ⟨ob, ho, hi⟩ := dv.has _ hm
    obtain ⟨es, n, rfl, hf⟩ := hi.dictI
    refine method_fn (Bs.frag (st.b.up g₁.le) g₁.inn) (inst_at (g₁.inn _ _ hx) (g₁.old _ _ ho)) M.ga M.gt M.hf M.ty (by show (lookIn name (dictOf es n)).map _ = _; rw [lookIn_dict, hf.miss hl]; rfl) ?_
    refine callWith_fn F hp (st.next g₁ tk₁) (hC.up (Le.refl _) g₁.le) h hA fun vs P₂ s₂ g₂ tk₂ i₂ => ?_
    exact hc A S P₂ s₂ E Q (.ref x :: vs) ((st.next g₁ tk₁).next g₂ tk₂) (.cons (.inst (g₂.le _ _ hx)) i₂) ((dv.gr g₁).gr g₂) fun u P₃ s₃ g₃ tk₃ dv₃ i₃ => hQ u P₃ s₃ (((g₁.trans g₂).m _).trans g₃) tk₃ dv₃ i₃) he
end
section
variable {W : Wd} {k : Nat} {A : Around} {env : Env} {s₀ : Shared} {P₀ H : Vw} {Γ : List (Str × D)} {Δ : List (Str × List D)} {Mx Mx' rest : List (Addr × MO)} {P : Vw} {s : Shared} {E : Value → Shared → Prop} {Q : Flow → Shared → Prop}
theorem At.stM (X : At W k A env s₀ P₀ H Γ Δ (Mx ++ rest) P s) : St (W.at []) k A (offX (ads Mx) s.heap) P s := ⟨X.a, X.b, offX_in, X.inn, X.tk, fun p hp => nomatch hp⟩
theorem At.nd (X : At W k A env s₀ P₀ H Γ Δ (Mx ++ rest) P s) {m cv : Str → Option Value} {ad : Str → Addr} (y : AtX env Γ Δ (Mx ++ rest) H P m cv ad s.heap) : env.locals ∉ ads Mx ∧ (∀ p ∈ env.cells, p.2 ∉ ads Mx) ∧ (∀ p ∈ Δ, ad p.1 ∉ ads Mx) ∧ (∀ p ∈ rest, p.1 ∉ ads Mx) := by
  have nd := List.nodup_cons.mp y.nd
  have nd2 := List.nodup_append.mp nd.2
  have nd3 := List.nodup_append.mp nd2.2.1
  have nd4 : (ads Mx ++ ads rest).Nodup := by have := nd3.2.1; rw [List.map_append] at this; exact this
  have nd5 := List.nodup_append.mp nd4
  have up : ∀ b, b ∈ ads Mx → b ∈ (Mx ++ rest).map (·.1) := fun b hb => by rw [List.map_append]; exact List.mem_append_left _ hb
  refine ⟨fun h => nd.1 (List.mem_append_right _ (List.mem_append_right _ (up _ h))), fun p hp h => nd2.2.2 p.2 (List.mem_map_of_mem hp) p.2 (List.mem_append_right _ (up _ h)) rfl,
    fun p hp h => nd3.2.2 (ad p.1) (List.mem_map_of_mem (f := fun p => ad p.1) hp) (ad p.1) (up _ h) rfl, fun p hp h => nd5.2.2 p.1 h p.1 (List.mem_map_of_mem hp) rfl⟩
theorem lookN_kinds {m cv : Str → Option Value} {x : Str} {v : Value} {S h : Vw} (e : lookN env m cv x = some v) (hS : ∀ b o, h b = some o → (b = env.locals ∨ b ∈ env.cells.map (·.2)) → S b = some o) (n : NameOk h env x v) : NameOk S env x v := by
  cases n with
  | loc a b c d => exact .loc a (hS _ _ b (.inl rfl)) c d
  | cel a b c d => exact .cel a b (hS _ _ c (.inr (List.mem_map_of_mem (f := (·.2)) (mem_of_lookup b)))) d
theorem At.cxM (X : At W k A env s₀ P₀ H Γ Δ (Mx ++ rest) P s) : Cx (offX (ads Mx) s.heap) P env Γ Δ := by
  obtain ⟨m, cv, ad, y, _⟩ := X.mnew
  obtain ⟨n1, n2, n3, n4⟩ := X.nd y
  have hS : ∀ b o, s.heap.get? b = some o → (b = env.locals ∨ b ∈ env.cells.map (·.2)) → offX (ads Mx) s.heap b = some o := fun b o e hb => offX_old (by
    rcases hb with rfl | hb
    · exact n1
    · obtain ⟨p, hp, rfl⟩ := List.mem_map.mp hb; exact n2 p hp) e
  refine ⟨X.fn, X.gl, X.bi, fun p hp => ?_, fun p hp => ?_⟩
  · obtain ⟨v, e, i⟩ := y.vars p hp
    exact ⟨v, lookN_kinds e hS (y.nameOk e), i⟩
  · obtain ⟨vs, n, e, q, i⟩ := y.muts p hp
    exact ⟨_, vs, n, lookN_kinds e hS (y.nameOk e), offX_old (n3 p hp) q, i⟩
theorem At.dvM (X : At W k A env s₀ P₀ H Γ Δ (Mx ++ rest) P s) : Dv P s Mx := by
  obtain ⟨m, cv, ad, y, _⟩ := X.mnew
  refine ⟨fun p hp => y.raw p (List.mem_append_left _ hp), ?_, fun p hp => y.offP p.1 ?_⟩
  · have h1 := (List.nodup_append.mp (List.nodup_append.mp (List.nodup_cons.mp y.nd).2).2.1).2.1
    rw [List.map_append] at h1
    exact (List.nodup_append.mp h1).1
  · exact List.mem_cons_of_mem _ (List.mem_append_right _ (List.mem_append_right _ (List.mem_map_of_mem (List.mem_append_left _ hp))))
/-- behind a call that turned owned objects -/
theorem At.grM {P' : Vw} {s' : Shared} (X : At W k A env s₀ P₀ H Γ Δ (Mx ++ rest) P s) (g : GrM (ads Mx) P s P' s') (tk : 1 ≤ s'.toks) (dv : Dv P' s' Mx') (ha : ads Mx' = ads Mx) : At W k A env s₀ P₀ H Γ Δ (Mx' ++ rest) P' s' where
  a := X.a
  b := X.b.up g.le
  tk := tk
  fn := X.fn
  gl := X.gl
  bi := X.bi
  le := X.le.trans g.le
  inn := g.inn
  hin := fun b o e => g.old _ _ (fun hb => by
    obtain ⟨m, cv, ad, y, _⟩ := X.mnew
    have := y.offH b (List.mem_cons_of_mem _ (List.mem_append_right _ (List.mem_append_right _ (by rw [List.map_append]; exact List.mem_append_left _ hb))))
    rw [this] at e; cases e) (X.hin _ _ e)
  new := fun b o e => (g.new b o e).elim (X.new b o) fun z => .inr (by
    cases q : s₀.heap.get? b with
    | none => rfl
    | some o' => obtain ⟨o'', q'⟩ := X.ext b o' q; rw [z] at q'; cases q')
  newH := fun b o e => (g.new b o e).elim (X.newH b o) fun z => .inr (by
    cases q : H b with
    | none => rfl
    | some o' => have := X.hin _ _ q; rw [z] at this; cases this)
  ext := fun b o e => let ⟨o', q⟩ := X.ext b o e; g.ext b o' q
  mnew := by
    obtain ⟨m, cv, ad, y, hn⟩ := X.mnew
    obtain ⟨n1, n2, n3, n4⟩ := X.nd y
    have none' : ∀ b, P b = none → (∃ o, s.heap.get? b = some o) → P' b = none := fun b h1 ⟨o, ho⟩ => by
      cases q : P' b with
      | none => rfl
      | some o' =>
        rcases g.new b o' q with z | z
        · rw [h1] at z; cases z
        · rw [ho] at z; cases z
    have ho : ownOf env Δ ad (Mx' ++ rest) = ownOf env Δ ad (Mx ++ rest) := by unfold ownOf; rw [List.map_append, List.map_append, show Mx'.map (·.1) = Mx.map (·.1) from ha]
    refine ⟨m, cv, ad, ⟨y.ns.at' fun o e => g.old _ _ n1 e, fun p hp => ?_, fun p hp => ?_, fun p hp => ?_, fun p hp => ?_, by rw [ho]; exact y.nd, y.cnd, fun b hb => ?_, fun b hb => ?_⟩, hn⟩
    · obtain ⟨o, q, d⟩ := y.cells p hp; exact ⟨o, g.old _ _ (n2 p hp) q, d⟩
    · obtain ⟨v, e, i⟩ := y.vars p hp; exact ⟨v, e, i.mono g.le⟩
    · obtain ⟨vs, n, e, q, i⟩ := y.muts p hp; exact ⟨vs, n, e, g.old _ _ (n3 p hp) q, i.mono g.le⟩
    · rcases List.mem_append.mp hp with hp | hp
      · exact dv.has p hp
      · obtain ⟨o, q, i⟩ := y.raw p (List.mem_append_right _ hp); exact ⟨o, g.old _ _ (n4 p hp) q, i.mono g.le⟩
    · rw [ho] at hb; exact none' b (y.offP b hb) (y.exist b hb)
    · rw [ho] at hb; exact y.offH b hb
  gens := X.gens.trans g.gens
  drawn := g.drawn.trans X.drawn
  os := g.os.trans X.os
/-! ### statements that call so -/
theorem s_setM {x : Str} {p pos : Pos} {e : Expr} {rest' : List Stmt} {d : D} (X : At W k A env s₀ P₀ H Γ Δ (Mx ++ rest) P s) (hv : EvM (W.at []) k env Γ Δ e d Mx Mx') (ha : ads Mx' = ads Mx) (hb : Bindable env x)
    (next : ∀ P' s', At W k A env s₀ P₀ H ((x, d) :: rm x Γ) (rm x Δ) (Mx' ++ rest) P' s' → wpAny W.M A (execs rest' env) Q E s')
    (hs : swapsWith e (some (.Name x p)) pos.line env = pure false := by rfl) : wpAny W.M A (execs (.Assign [.Name x p] e pos :: rest') env) Q E s :=
  wpAny_execs_cons (wpAny_Assign_Name (hv A _ P s E _ X.stM X.cxM X.dvM (fun p hp => offX_none (List.mem_map_of_mem hp)) fun v P' s' g tk dv i => (X.grM g tk dv ha).name i hb fun s'' X'' => next P' s'' X'') hs)
theorem s_exprM {p : Pos} {e : Expr} {rest' : List Stmt} (X : At W k A env s₀ P₀ H Γ Δ (Mx ++ rest) P s) (hv : EvM (W.at []) k env Γ Δ e .none Mx Mx') (ha : ads Mx' = ads Mx)
    (next : ∀ P' s', At W k A env s₀ P₀ H Γ Δ (Mx' ++ rest) P' s' → wpAny W.M A (execs rest' env) Q E s')
    (hi : interactive env = false := by rfl) (hs : swapsWith e none p.line env = pure false := by rfl) : wpAny W.M A (execs (.Expr e p :: rest') env) Q E s :=
  wpAny_execs_cons (wpAny_Expr (hv A _ P s E _ X.stM X.cxM X.dvM (fun p hp => offX_none (List.mem_map_of_mem hp)) fun v P' s' g tk dv i => by obtain rfl := i.noneI; exact next P' s' (X.grM g tk dv ha)) hi hs)
/-- self.x = e -/
theorem s_setattr {o : Expr} {name : Str} {p pos : Pos} {e : Expr} {rest' : List Stmt} {x C dx : Addr} {fs : List (Str × D)} {d : D} (X : At W k A env s₀ P₀ H Γ Δ ((dx, .dict fs) :: Mx) P s) (hv : Ev (W.at ((dx, .dict fs) :: Mx)) k env Γ Δ e d) (ho : Ev (W.at ((dx, .dict fs) :: Mx)) k env Γ Δ o (.inst x C dx)) (G : SetK W.K C name)
    (next : ∀ P' s', At W k A env s₀ P₀ H Γ Δ ((dx, .dict (putF name d fs)) :: Mx) P' s' → wpAny W.M A (execs rest' env) Q E s')
    (hz : Nat.ble fs.length 900 = true := by rfl) (hs : swapsWith e (some (.Attribute o name p)) pos.line env = pure false := by rfl) : wpAny W.M A (execs (.Assign [.Attribute o name p] e pos :: rest') env) Q E s := by
  refine wpAny_execs_cons (plainObj_wpAny_Assign_Attribute (hv A _ P s E _ X.st X.cx fun v P1 s1 g1 tk1 i1 => ho A _ P1 s1 E _ (X.st.next g1 tk1) (X.cx.up (Le.refl _) g1.le) fun ov P2 s2 g2 tk2 i2 => ?_) hs)
  have X2 := (X.gr g1 tk1).gr g2 tk2
  obtain ⟨rfl, hx⟩ := i2.instI
  obtain ⟨m, cv, ad, y, hn⟩ := X2.mnew
  obtain ⟨ob, hq, hi⟩ := y.raw _ List.mem_cons_self
  obtain ⟨es, n, rfl, hf⟩ := hi.dictI
  refine set_raw (Bs.frag X2.b X2.inn) G (X2.inn _ _ hx) hq ?_ (by rw [hf.length]; exact Nat.le_of_ble_eq_true hz) fun hs' t h' n' hb he => ?_
  · cases q : fs.lookup name with
    | none => rw [hf.miss q]; rfl
    | some d' => obtain ⟨u, hu, _⟩ := hf.get q; rw [hu]; rfl
  · exact next P2 _ (X2.turnR (o' := .dict (putF name d fs)) (Nat.le_trans tk2 (Nat.le_add_right _ _)) (fun b o nb e => hb.extBut b o nb e) he (.dict (hf.put (i1.mono g2.le))))
end
end
section
section
variable {W : Wd} {k : Nat} {env : Env} {Γ : List (Str × D)} {Δ : List (Str × List D)}
theorem fold_one (v : Value) (n : Nat) : List.foldl (fun (x1 x2 : Array Value) => x1 ++ x2) #[] (List.replicate n #[v]) = (List.replicate n v).toArray := by
  have key : ∀ (n : Nat) (acc : Array Value), List.foldl (fun (x1 x2 : Array Value) => x1 ++ x2) acc (List.replicate n #[v]) = acc ++ (List.replicate n v).toArray := by
    intro n
    induction n with
    | zero => intro acc; simp
    | succ n ih => intro acc; rw [List.replicate_succ, List.foldl_cons, ih, List.replicate_succ]; apply Array.ext'; simp
  rw [key]; simp
theorem ts_and2 {e1 e2 : Expr} {pos : Pos} {b1 b2 : Bool} (h1 : Ts W k env Γ Δ e1 b1) (h2 : b1 = true → Ts W k env Γ Δ e2 b2) : Ts W k env Γ Δ (.BoolOp .And [e1, e2] pos) (b1 && b2) := ts_and (by
  cases b1 with
  | false => exact .ff h1
  | true => cases b2 with
    | false => exact .tt h1 (.ff (h2 rfl))
    | true => exact .tt h1 (.tt (h2 rfl) .nil))
theorem ts_or3 {e1 e2 e3 : Expr} {pos : Pos} {b1 b2 b3 : Bool} (h1 : Ts W k env Γ Δ e1 b1) (h2 : b1 = false → Ts W k env Γ Δ e2 b2) (h3 : b1 = false → b2 = false → Ts W k env Γ Δ e3 b3) : Ts W k env Γ Δ (.BoolOp .Or [e1, e2, e3] pos) (b1 || b2 || b3) := ts_or (by
  cases b1 with
  | true => exact .tt h1
  | false => cases b2 with
    | true => exact .ff h1 (.tt (h2 rfl))
    | false => cases b3 with
      | true => exact .ff h1 (.ff (h2 rfl) (.tt (h3 rfl rfl)))
      | false => exact .ff h1 (.ff (h2 rfl) (.ff (h3 rfl rfl) .nil)))
/-- [x] * n -/
theorem evn_mul1 {l r : Expr} {pos : Pos} {d : D} {n : Int} (h1 : EvL W k env Γ Δ l [d]) (h2 : Ev W k env Γ Δ r (.int n)) (hlo : 0 ≤ n) (hhi : n ≤ 16384) : EvN W k env Γ Δ (.BinOp l .Mult r pos) (List.replicate n.toNat d) := .mk fun A S P s E Q st hC hQ =>
  wpAny_BinOp (h1 A S P s E _ st hC fun a vs m P₁ s₁ g₁ tk₁ q₁ i₁ => h2 A S P₁ s₁ E _ (st.next g₁ tk₁) (hC.up (Le.refl _) g₁.le) fun y P₂ s₂ g₂ tk₂ i₂ => by
    obtain ⟨u, rfl⟩ := Is.intI i₂
    obtain ⟨v, rfl, iv⟩ := i₁.oneI
    have ho := g₂.old _ _ q₁
    refine wpAny_binaryOp_repeat_ref (T := "list") (U := "int") (by decide) ⟨_, ho, rfl⟩ (fun s' => PySem.typeIs_int s' n u) noFill_list_mul F.fills_int_mul F.slot_int_rmul repeat_list F.slot_int_index.lookup
      (call_meets F.slot_int_rmul (PySem.typeIs_int s₂ n u) F.entry_int_rmul (F.args_int_rmul_2 _ _) (lm_int_rmul_list_any n u a [v].toArray m none #[])
        ⟨ho, rfl, ⟨_, ho, rfl⟩, call_meets F.slot_list_mul ⟨_, ho, rfl⟩ F.entry_list_mul (F.args_list_mul_2 _ _)
          (lm_list_mul_any a [v].toArray m none #[] n u (by simp [Builtin.List.listFitsIndex]; omega) (by simp; omega) (by simp [Builtin.List.listTooLong, sizeLine]; omega))
          ⟨ho, ?_⟩⟩)
    have e : List.foldl (fun (x1 x2 : Array Value) => x1 ++ x2) #[] (List.replicate (if [v].toArray.isEmpty = true then 0 else n.toNat) [v].toArray) = (List.replicate n.toNat v).toArray := by
      rw [if_neg (by simp)]; exact fold_one v _
    have g12 := g₁.trans g₂
    have := hQ s₂.heap.objs.size (List.replicate n.toNat v) 0 P₂ _ (g12.trans (Gr.pushed (tk := s₂.toks) g₂.inn)) (none_of_old g12.old (Heap.get?_none_of_le (Nat.le_refl _))) (none_size g₂.inn) (Heap.get?_push_size _ rfl) (by
      have rep : ∀ j : Nat, IsAll P₂ (List.replicate j v) (List.replicate j d) := fun j => by
        induction j with
        | zero => exact .nil
        | succ j ih => exact .cons (iv.mono g₂.le) ih
      exact rep _)
    rw [← e] at this
    exact this)
end
theorem cl_len_tup {W : Wd} {k : Nat} {ds : List D} (h : ds.length < 2 ^ 62) : Cl W k (.builtin "len") [.tup ds] (.int ds.length) := fun A S P s E Q vs st i hQ => by
  obtain ⟨_, rfl, a⟩ := i.oneI; obtain ⟨t, vs, n, rfl, q, i⟩ := a.tupI
  refine PyProof.Rows.len_tuple ⟨_, st.p _ _ q, rfl, n, rfl⟩ (by rw [List.size_toArray, i.length]; omega) ?_
  rw [List.size_toArray, i.length]
  exact hQ _ P _ (Gr.toks st.p) (.int _ _)
theorem ev_item_tup {W : Wd} {k : Nat} {env : Env} {Γ : List (Str × D)} {Δ : List (Str × List D)} {value slice : Expr} {pos : Pos} {ds : List D} {d : D} {i : Int} {j : Nat} (h1 : Ev W k env Γ Δ value (.tup ds)) (h2 : Ev W k env Γ Δ slice (.int i)) (hj : seqIndex? i ds.length = some j) (hd : ds[j]? = some d) (hb : -2 ^ 62 ≤ i ∧ i < 2 ^ 62 := by decide)
    (hs : ∀ (a : Addr) (u : Tok), subscripted slice false (.ref a) (.int i u) = operate [.ref a, .int i u] (getItem (.ref a) (.int i u)) := by intro _ _; with_unfolding_all rfl) : Ev W k env Γ Δ (.Subscript value slice pos) d := .mk fun A S P s E Q st hC hQ =>
  Subscript_ (h1 A S P s E _ st hC fun v P₁ s₁ g₁ tk₁ i₁ => h2 A S P₁ s₁ E _ (st.next g₁ tk₁) (hC.up (Le.refl _) g₁.le) fun u P₂ s₂ g₂ tk₂ i₂ => by
    obtain ⟨t, rfl⟩ := Is.intI i₂
    obtain ⟨a, vs, n, rfl, q₁, i₁⟩ := i₁.tupI
    have i₁' := i₁.mono g₂.le
    obtain ⟨v, hv, hi⟩ := i₁'.get hd
    exact item_tupleT ⟨_, g₂.inn _ _ (g₂.le _ _ q₁), rfl, n, rfl⟩ (by omega) (by omega) (by rw [i₁.length]; exact hj) hv (hQ _ P₂ _ (g₁.trans g₂) hi) (hs _ _))
/-- a class is called: a new object, then its __init__ -/
theorem cl_make {W : Wd} {k : Nat} {C f : Addr} {ds : List D} {fs : List (Str × D)} (hm : makesIn W.K C = true) (hi : findIn W.K (.ref C) "__init__" = some (some (.ref f))) (hf : typeIn W.K (.ref f) = some (.type "function"))
    (hc : ∀ x dx, KlM W k (.ref f) (.inst x C dx :: ds) .none [(dx, .dict [])] [(dx, .dict fs)]) : Cl W (k + 1) (.ref C) ds (.obj C fs) := fun A S P s E Q vs st i hQ => by
  have X := Bs.frag st.b st.p
  obtain ⟨hh, g, d, t, os⟩ := s
  refine wpAny_call (make_core (makes_of X hm) (looks_findIn X hi) (fun self => bind_fn X self hf) (.inl rfl) ?_)
  have hs1 : (hh.push emptyDict).objs.size = hh.objs.size + 1 := Heap.size_push ..
  have k1 : ∀ b o, hh.get? b = some o → ((hh.push emptyDict).push (instObj C hh.objs.size)).get? b = some o := fun b o e => Heap.get?_push_of_some _ (Heap.get?_push_of_some _ e)
  have hx : ((hh.push emptyDict).push (instObj C hh.objs.size)).get? (hh.objs.size + 1) = some (instObj C hh.objs.size) := by
    have := Heap.get?_push_size (hh.push emptyDict) (o := instObj C hh.objs.size) rfl
    rwa [hs1] at this
  have hd : ((hh.push emptyDict).push (instObj C hh.objs.size)).get? hh.objs.size = some emptyDict := Heap.get?_push_of_some _ (Heap.get?_push_size _ rfl)
  have f0 : hh.get? hh.objs.size = none := Heap.get?_none_of_le (Nat.le_refl _)
  have f1 : hh.get? (hh.objs.size + 1) = none := Heap.get?_none_of_le (Nat.le_succ _)
  have pn : ∀ b, hh.get? b = none → P b = none := fun b e => by
    cases q : P b with
    | none => rfl
    | some o => have := st.p _ _ q; rw [show (Shared.heap ⟨hh, g, d, t, os⟩) = hh from rfl, e] at this; cases this
  have inn1 : In (addV P (hh.objs.size + 1) (instObj C hh.objs.size)) ((hh.push emptyDict).push (instObj C hh.objs.size)) := addV_in (fun b o e => k1 b o (st.p _ _ e)) hx
  have le1 : Le P (addV P (hh.objs.size + 1) (instObj C hh.objs.size)) := addV_le (pn _ f1)
  have hne : hh.objs.size ≠ hh.objs.size + 1 := Nat.ne_of_lt (Nat.lt_succ_self _)
  have st1 : St W k (A.under (.builtin "type.__call__" ⟨.ref C :: vs, []⟩)) S (addV P (hh.objs.size + 1) (instObj C hh.objs.size)) ⟨(hh.push emptyDict).push (instObj C hh.objs.size), g, d, t, os⟩ := by
    refine ⟨⟨st.a.1, ?_, ?_⟩, st.b.up le1, fun b o e => k1 b o (st.sv _ _ e), inn1, st.tk, fun p hp => (st.rw p hp).imp fun o hh => ⟨hh.1, hh.2.mono le1⟩⟩
    · have h1 := st.a.2.1
      have h2 : (Code.builtin "type.__call__" ⟨Value.ref C :: vs, []⟩).weight = 1 := by with_unfolding_all rfl
      show A.depth + (Code.builtin "type.__call__" ⟨Value.ref C :: vs, []⟩).weight + k < _
      rw [h2]; exact ar_depth h1
    · have h1 := st.a.2.2
      have h2 : (Code.builtin "type.__call__" ⟨Value.ref C :: vs, []⟩).cUnits = 1 := by with_unfolding_all rfl
      show A.units + (Code.builtin "type.__call__" ⟨Value.ref C :: vs, []⟩).cUnits + 8 * k + 64 < _
      rw [h2]; exact ar_units (by decide) h1
  refine hc (hh.objs.size + 1) hh.objs.size _ S _ _ _ (.ref (hh.objs.size + 1) :: vs) st1 (.cons (.inst addV_at) (i.mono le1)) ⟨fun p hp => ?_, by simp [ads], fun p hp => ?_⟩ fun v P' s' g' tk' dv' i' => ?_
  · cases List.mem_singleton.mp hp
    exact ⟨_, hd, .dict (es := []) (n := 0) .nil⟩
  · cases List.mem_singleton.mp hp
    show addV P (hh.objs.size + 1) (instObj C hh.objs.size) hh.objs.size = none
    rw [addV_ne hne]; exact pn _ f0
  · obtain rfl := i'.noneI
    refine ⟨rfl, ?_⟩
    obtain ⟨o, ho, hi'⟩ := dv'.has _ List.mem_cons_self
    obtain ⟨es, n, rfl, hfs⟩ := hi'.dictI
    have hP' := dv'.off _ List.mem_cons_self
    have hle := addV_le (o := dictOf es n) hP'
    refine hQ _ (addV P' hh.objs.size (dictOf es n)) s' ⟨(le1.trans g'.le).trans hle, addV_in g'.inn ho, fun b o e => ?_, fun b o e => ?_, g'.gens, g'.drawn, g'.os⟩ (.obj (hle _ _ (g'.le _ _ addV_at)) addV_at (hfs.mono hle))
    · refine g'.old b o (fun hb => ?_) (k1 b o e)
      rw [List.mem_singleton.mp hb] at e
      rw [show (Shared.heap ⟨hh, g, d, t, os⟩) = hh from rfl] at e
      have e' : hh.get? hh.objs.size = some o := e
      rw [f0] at e'; cases e'
    · by_cases hb : b = hh.objs.size
      · subst hb; exact .inr f0
      · rw [addV_ne hb] at e
        rcases g'.new b o e with z | z
        · by_cases hb1 : b = hh.objs.size + 1
          · subst hb1; exact .inr f1
          · rw [addV_ne hb1] at z; exact .inl z
        · exact .inr (none_of_old k1 z)
end
section
section
variable {W : Wd} {k : Nat} {env : Env} {Γ : List (Str × D)} {Δ : List (Str × List D)}
theorem fm_some {α : Type} : ∀ l : List α, (l.map some).filterMap id = l
  | [] => rfl
  | a :: r => by simp [fm_some r]
/-- [elt for x in iter] -/
theorem evn_for {elt iter : Expr} {x : Str} {px : Pos} {scope : Scope} {pos : Pos} {cl : List (Str × Addr)} {its ds : List D} {b : Bool} (Γ' : List (Str × D)) (Δ' : List (Str × List D))
    (hI : EvI W k env Γ Δ b iter its) (hlen : ds.length = its.length)
    (helt : ∀ (C : Addr) (i : Nat) (d d' : D), its[i]? = some d → ds[i]? = some d' → Ev W k (compEnvC scope cl C env) ((x, d) :: Γ') Δ' elt d')
    (hΓ : ∀ p ∈ Γ', p ∈ Γ := by trivial) (hΔ : ∀ p ∈ Δ', p ∈ Δ := by trivial)
    (hclos : closureFor scope env = pure cl := by rfl) (hthru : Thru env scope cl (Γ'.map (·.1) ++ Δ'.map (·.1)) := by repeat (first | exact True.intro | refine And.intro ⟨by first | exact .inl rfl | exact .inr rfl, by first | exact .inl rfl | exact .inr rfl, rfl⟩ ?_))
    (hcell : ∀ y ∈ scope.names, y.2 ≠ .cell := by decide) (hkind : scope.kind = .function := by rfl)
    (hnames : ∀ y ∈ scope.names, y.2 = .local → scope.names.lookup y.1 = some .local := by decide) (hx : scope.names.lookup x = some .local := by rfl)
    (hsz : Nat.ble its.length 16384 = true := by rfl)
    (hs : ∀ v, foldedSetIterable iter env v = pure v := by intro _; rfl) :
    EvN W k env Γ Δ (.ListComp elt [⟨.Name x px, iter, [], 0⟩] scope pos) ds := by
  have := evn_comp (res := ds.map some) (pos := pos) (px := px) hI (by rw [List.length_map]; exact hlen) (fun C i d r h1 h2 => by
    rw [List.getElem?_map] at h2
    obtain ⟨d', h3, rfl⟩ := Option.map_eq_some_iff.mp h2
    exact ⟨.nil, helt C i d d' h1 h3⟩) hΓ hΔ hthru hclos hcell hkind hnames hx (Nat.le_trans (Nat.le_of_ble_eq_true hsz) (by decide)) hs
  rwa [fm_some] at this
/-- [elt for x in iter if test] -/
theorem evn_forif {elt iter test : Expr} {x : Str} {px : Pos} {scope : Scope} {pos : Pos} {cl : List (Str × Addr)} {its : List D} {b : Bool} (Γ' : List (Str × D)) (Δ' : List (Str × List D)) (p : D → Bool) (f : D → D)
    (hI : EvI W k env Γ Δ b iter its)
    (ht : ∀ (C : Addr) (d : D), d ∈ its → Ts W k (compEnvC scope cl C env) ((x, d) :: Γ') Δ' test (p d))
    (helt : ∀ (C : Addr) (d : D), d ∈ its → p d = true → Ev W k (compEnvC scope cl C env) ((x, d) :: Γ') Δ' elt (f d))
    (hΓ : ∀ p ∈ Γ', p ∈ Γ := by trivial) (hΔ : ∀ p ∈ Δ', p ∈ Δ := by trivial)
    (hclos : closureFor scope env = pure cl := by rfl) (hthru : Thru env scope cl (Γ'.map (·.1) ++ Δ'.map (·.1)) := by repeat (first | exact True.intro | refine And.intro ⟨by first | exact .inl rfl | exact .inr rfl, by first | exact .inl rfl | exact .inr rfl, rfl⟩ ?_))
    (hcell : ∀ y ∈ scope.names, y.2 ≠ .cell := by decide) (hkind : scope.kind = .function := by rfl)
    (hnames : ∀ y ∈ scope.names, y.2 = .local → scope.names.lookup y.1 = some .local := by decide) (hx : scope.names.lookup x = some .local := by rfl)
    (hsz : Nat.ble its.length 16384 = true := by rfl)
    (hs : ∀ v, foldedSetIterable iter env v = pure v := by intro _; rfl) :
    EvN W k env Γ Δ (.ListComp elt [⟨.Name x px, iter, [test], 0⟩] scope pos) ((its.filter p).map f) := by
  have := evn_comp (res := its.map fun d => if p d then some (f d) else none) (pos := pos) (px := px) hI (List.length_map ..) (fun C i d r h1 h2 => by
    rw [List.getElem?_map, h1] at h2
    have hm := List.mem_of_getElem? h1
    cases h2
    cases hp : p d with
    | true =>
      have : CompItem W k (compEnvC scope cl C env) ((x, d) :: Γ') Δ' [test] elt (some (f d)) := ⟨.tt (hp ▸ ht C d hm) .nil, helt C d hm hp⟩
      simpa [hp] using this
    | false =>
      have : CompItem W k (compEnvC scope cl C env) ((x, d) :: Γ') Δ' [test] elt none := .ff (hp ▸ ht C d hm)
      simpa [hp] using this) hΓ hΔ hthru hclos hcell hkind hnames hx (Nat.le_trans (Nat.le_of_ble_eq_true hsz) (by decide)) hs
  have e : (its.map fun d => if p d then some (f d) else none).filterMap id = (its.filter p).map f := by
    clear this hsz helt ht hI
    induction its with
    | nil => rfl
    | cons a r ih =>
      rw [List.map_cons, List.filterMap_cons, List.filter_cons]
      cases hp : p a <;> simp [ih]
  rwa [e] at this
end
section
variable {W : Wd} {k : Nat} {A : Around} {env : Env} {s₀ : Shared} {P₀ H : Vw} {Γ : List (Str × D)} {Δ : List (Str × List D)} {Mx : List (Addr × MO)} {P : Vw} {s : Shared} {E : Value → Shared → Prop} {Q : Flow → Shared → Prop}
theorem fm_if {p : D → Bool} {f : D → D} : ∀ its : List D, (its.map fun d => if p d then some (f d) else none).filterMap id = (its.filter p).map f
  | [] => rfl
  | a :: r => by
    rw [List.map_cons, List.filterMap_cons, List.filter_cons]
    cases hp : p a <;> simp [fm_if r]
theorem s_forifC {x y : Str} {px p pos cpos : Pos} {elt iter test : Expr} {scope : Scope} {rest : List Stmt} {cl : List (Str × Addr)} {its : List D} {b : Bool} (mu : Bool) (Γ' : List (Str × D)) (Δ' : List (Str × List D)) (pp : D → Bool) (f : D → D)
    (X : At W k A env s₀ P₀ H Γ Δ Mx P s) (hI : EvI (W.at Mx) k env Γ Δ b iter its)
    (ht : ∀ (C : Addr) (d : D), d ∈ its → Ts (W.at Mx) k (compEnvC scope cl C env) ((x, d) :: Γ') Δ' test (pp d))
    (helt : ∀ (C : Addr) (d : D), d ∈ its → pp d = true → Ev (W.at Mx) k (compEnvC scope cl C env) ((x, d) :: Γ') Δ' elt (f d))
    (hb : Bindable env y) (hyΓ : ∀ p ∈ Γ, p.1 ≠ y) (hyΔ : ∀ p ∈ Δ, p.1 ≠ y)
    (next : ∀ P' s', At W k A env s₀ P₀ H (if mu then Γ else (y, .list ((its.filter pp).map f)) :: Γ) (if mu then (y, (its.filter pp).map f) :: Δ else Δ) Mx P' s' → wpAny W.M A (execs rest env) Q E s')
    (hΓ : ∀ p ∈ Γ', p ∈ Γ := by trivial) (hΔ : ∀ p ∈ Δ', p ∈ Δ := by trivial)
    (hclos : closureFor scope env = pure cl := by rfl) (hthru : Thru env scope cl (Γ'.map (·.1) ++ Δ'.map (·.1)) := by repeat (first | exact True.intro | refine And.intro ⟨by first | exact .inl rfl | exact .inr rfl, by first | exact .inl rfl | exact .inr rfl, rfl⟩ ?_))
    (hcell : ∀ y ∈ scope.names, y.2 ≠ .cell := by decide) (hkind : scope.kind = .function := by rfl)
    (hnames : ∀ y ∈ scope.names, y.2 = .local → scope.names.lookup y.1 = some .local := by decide) (hx : scope.names.lookup x = some .local := by rfl)
    (hsz : Nat.ble its.length 16384 = true := by rfl)
    (hsw : swapsWith (.ListComp elt [⟨.Name x px, iter, [test], 0⟩] scope cpos) (some (.Name y p)) pos.line env = pure true := by rfl)
    (hs : ∀ v, foldedSetIterable iter env v = pure v := by intro _; rfl) :
    wpAny W.M A (execs (.Assign [.Name y p] (.ListComp elt [⟨.Name x px, iter, [test], 0⟩] scope cpos) pos :: rest) env) Q E s := by
  refine s_assignC (mu := mu) (res := its.map fun d => if pp d then some (f d) else none) X hI (List.length_map ..) (fun C i d r h1 h2 => ?_) hΓ hΔ hthru hclos hcell hkind hnames hx (Nat.le_trans (Nat.le_of_ble_eq_true hsz) (by decide)) hb hyΓ hyΔ (by rw [fm_if]; exact next) hsw hs
  rw [List.getElem?_map, h1] at h2
  have hm := List.mem_of_getElem? h1
  cases h2
  cases hp : pp d with
  | true =>
    have : CompItem (W.at Mx) k (compEnvC scope cl C env) ((x, d) :: Γ') Δ' [test] elt (some (f d)) := ⟨.tt (hp ▸ ht C d hm) .nil, helt C d hm hp⟩
    simpa [hp] using this
  | false =>
    have : CompItem (W.at Mx) k (compEnvC scope cl C env) ((x, d) :: Γ') Δ' [test] elt none := .ff (hp ▸ ht C d hm)
    simpa [hp] using this
end
end
section
section
variable {M : Model} {A : Around} {R : GenEnd} {Y : Protocol} {n : Nat} {s₀ : Shared} {c : Code} {fs : List Frame} {s : Shared} {env : Env}
  {K : Flow → Sem Fin} {H : Value → Sem Fin} {gd : Bool → Bool} {lv : List Value → List Value}
/-- a statement that does not yield -/
theorem seg_stmt {st : Stmt} (h : wpAny M (A.over c fs) (exec st env) (fun f s' => Seg M A R Y n s₀ c (K f) fs s') (fun x s' => Seg M A R Y n s₀ c (H x) fs s') s) : Seg M A R Y n s₀ c ((exec st env).wrap K H gd lv) fs s := seg_wrap h
theorem seg_If {test : Expr} {body orelse : List Stmt} {pos : Pos}
    (h : wpAny M (A.over c fs) (isTrue test env (eval test env)) (fun b s' => Seg M A R Y n s₀ c ((execs (if b then body else orelse) env).wrap K H gd lv) fs s') (fun x s' => Seg M A R Y n s₀ c (H x) fs s') s) :
    Seg M A R Y n s₀ c ((exec (.If test body orelse pos) env).wrap K H gd lv) fs s := by
  rw [exec_If]
  show Seg M A R Y n s₀ c (.at pos fun _ => ((isTrue test env (eval test env) >>= fun b => if b then execs body env else execs orelse env)).wrap K H gd lv) fs s
  refine seg_at ?_
  rw [Sem.bind_eq_wrap', Sem.wrap_wrap]
  refine seg_wrap (wpAny_mono h (fun b s' hb => ?_) fun _ _ x => x)
  cases b <;> exact hb
noncomputable def forRet (env : Env) (K : Flow → Sem Fin) (H : Value → Sem Fin) (gd : Bool → Bool) (lv : List Value → List Value) : Result → Sem Fin := fun r => ((match r with | .ok f => (.pure f : Sem Flow) | .error e => .raise e).onRaise fun (x : Value) => do
        if (← field x 1) == Value.none then unsupported "frame.own-activation:exception-without-traceback"
        setFlight x env.frame).wrap K H gd lv
theorem seg_For {target iter : Expr} {body orelse : List Stmt} {pos : Pos}
    (h : wpAny M (A.over c fs) (eval iter env) (fun x s₁ => wpAny M (A.over c fs) (pyIter x) (fun it s₂ => ∀ p, Seg M A R Y n s₀ (.forLoop target it body orelse env) (M.den (.forLoop target it body orelse env)) (.ret (forRet env K H gd lv) none (gd false) (lv []) c p [] :: fs) s₂) (fun x s' => Seg M A R Y n s₀ c (H x) fs s') s₁) (fun x s' => Seg M A R Y n s₀ c (H x) fs s') s)
    (hs : ∀ x, foldedSetIterable iter env x = pure x := by intro _; rfl) :
    Seg M A R Y n s₀ c ((exec (.For target iter body orelse pos) env).wrap K H gd lv) fs s := by
  rw [exec_For]
  show Seg M A R Y n s₀ c (.at pos fun _ => ((eval iter env >>= fun v => foldedSetIterable iter env v >>= fun x => (standAt iter.pos >>= fun _ => holding [x] (pyIter x) >>= fun it => runOwn (.forLoop target it body orelse env) env))).wrap K H gd lv) fs s
  refine seg_at ?_
  rw [Sem.bind_eq_wrap', Sem.wrap_wrap]
  refine seg_wrap (wpAny_mono h (fun x s₁ h₁ => ?_) fun _ _ x => x)
  rw [hs, pure_bind]
  show Seg M A R Y n s₀ c (.at iter.pos fun _ => ((holding [x] (pyIter x) >>= fun it => runOwn (.forLoop target it body orelse env) env)).wrap K H gd lv) fs s₁
  refine seg_at ?_
  rw [Sem.bind_eq_wrap', Sem.wrap_wrap]
  refine seg_wrap (wpAny_holding (wpAny_mono h₁ (fun it s₂ h₂ => ?_) fun _ _ x => x))
  exact seg_call h₂
end
section
variable {prog : Program} {w : World} {A : Around} {R : GenEnd} {Y : Protocol} {n : Nat} {s₀ : Shared} {fs : List Frame} {s : Shared} {env : Env}
noncomputable abbrev loopH (env : Env) : Value → Sem Fin := fun e => (do noteFrame e env; theTreesLotGoes e : Sem Unit).wrap (fun _ => .raise e) .raise id id
theorem seg_forLoop {target : Expr} {it : Value} {body : List Stmt}
    (h : wpAny (model prog w) (A.over (.forLoop target it body [] env) fs) (pyNext it) (fun r s' => match r with
      | none => Seg (model prog w) A R Y n s₀ (.block [] env) ((model prog w).den (.block [] env)) fs s'
      | some v => wpAny (model prog w) (A.over (.forLoop target it body [] env) fs) (letOwnedTupleGo target it v) (fun _ s₁ => wpAny (model prog w) (A.over (.forLoop target it body [] env) fs) (assign target env v) (fun _ s₂ =>
          Seg (model prog w) A R Y n s₀ (.forLoop target it body [] env) ((execs body env).wrap (fun f => match f with
            | .next | .cont => .pure (.again (.forLoop target it body [] env))
            | .brk => .pure (.done .next)
            | .ret v => .pure (.done (.ret v))) (loopH env) id id) fs s₂) (fun _ _ => False) s₁) (fun _ _ => False) s')
      (fun _ _ => False) s) :
    Seg (model prog w) A R Y n s₀ (.forLoop target it body [] env) ((model prog w).den (.forLoop target it body [] env)) fs s := by
  show Seg _ A R Y n s₀ _ ((forTurn target it body [] env).onRaise (fun x => do noteFrame x env; theTreesLotGoes x)) fs s
  unfold forTurn
  rw [Sem.onRaise_eq_wrap]
  show Seg _ A R Y n s₀ _ (.at target.pos fun _ => ((pyNext it).onRaise (fun _ => standAt { target.pos with line := 0 }) >>= _).wrap _ _ _ _) fs s
  refine seg_at ?_
  rw [Sem.bind_eq_wrap', Sem.wrap_wrap]
  refine seg_wrap (wpAny_onRaise (wpAny_mono h (fun r s' hr => ?_) fun _ _ x => x.elim))
  cases r with
  | none => exact seg_again rfl hr
  | some v =>
    dsimp only
    rw [Sem.bind_eq_wrap', Sem.wrap_wrap]
    refine seg_wrap (wpAny_mono hr (fun _ s₁ h₁ => ?_) fun _ _ x => x.elim)
    rw [Sem.bind_eq_wrap', Sem.wrap_wrap]
    refine seg_wrap (wpAny_mono h₁ (fun _ s₂ h₂ => ?_) fun _ _ x => x.elim)
    rw [Sem.bind_eq_wrap', Sem.wrap_wrap]
    rw [Sem.wrap_congr (execs body env) _ _ (K' := fun f => match f with
            | .next | .cont => .pure (.again (.forLoop target it body [] env))
            | .brk => .pure (.done .next)
            | .ret v => .pure (.done (.ret v))) (H' := loopH env)
        (fun f => by cases f <;> rfl)
        (fun e => by first | exact Sem.bind_eq_wrap _ _ | (show (do noteFrame e env; theTreesLotGoes e : Sem Unit).bind (fun _ => .raise e) = _; rw [Sem.bind_eq_wrap]))]
    exact h₂
end
end
section
section
variable {prog : Program} {w : World} {A : Around} {E : Value → Shared → Prop} {s : Shared}
/-- the next item of a generator that a def made; its new state is bare -/
theorem gen_next {a : Addr} {g n : Nat} {gs : GenState} {Pe : Nat → Shared → Shared → Prop} {Y : Protocol} {Q : Option Value → Shared → Prop} (hh : A.handled = none)
    (hl : s.heap.NoLimit) (hroom : A.depth < recursionLimit) (hg : s.heap.IsGen a g) (hgs : s.gens[g]? = some gs)
    (hgo : gs.Goes (model prog w) A.in1 (fun n s₀ r s₁ => r = .ok (.ret .none) ∧ Pe n s₀ s₁) Y n (.send .none) (s.setGen g .running))
    (hY : ∀ v s₁ gs', gs'.bare = true → Y (n - 1) (s.setGen g .running) v s₁ (fun r' s'' => match n with
        | 0 => False
        | m + 1 => gs'.Goes (model prog w) A.in1 (fun n s₀ r s₁ => r = .ok (.ret .none) ∧ Pe n s₀ s₁) Y m r' s'') → Q (some v) (s₁.setGen g gs'))
    (hP : ∀ s₁, Pe n (s.setGen g .running) s₁ → ∀ h', (∀ b o, s₁.heap.get? b = some o → h'.get? b = some o) → Q none { s₁.setGen g .finished with heap := h' }) :
    wpAny (model prog w) A (pyNext (.ref a)) Q E s := by
  unfold pyNext
  refine wpAny_bind (wpAny_attempt (wpAny_callSpecial?_slot (name := Str.ofString "__next__") hg.typeIs slot_gen_next (wpAny_call_entry slot_gen_next hg.typeIs entry_gen_next ?_ (args_gen_next _))))
  show wpAny _ A.in1 (Builtin.Generator.genWake (.ref a) (.send .none)) _ _ s
  unfold Builtin.Generator.genWake
  refine wpAny_bind (wpAny_holding (wpAny_genNumber hg (wpAny_bind (wpAny_genState hgs ?_))))
  have fin : ∀ {x : Result} {s₁ : Shared}, (x = .ok (.ret .none) ∧ Pe n (s.setGen g .running) s₁) → x = .ok (.ret .none) ∧ Pe n (s.setGen g .running) s₁ := id
  cases gs with
  | running => exact hgo.elim
  | finished => exact hgo.elim
  | _ =>
    refine wpAny_bind (wpAny_roomToWake hl hroom ?_)
    show wpAny _ A.in1 (.resume g (.send .none) [] _) _ _ s
    refine wpAny_resumeQ hgs hgo (fun x s₁ hx => ?_) (fun v s₁ gs' hb hv => wpAny_pure ⟨v, rfl, wpAny_pure (hY v s₁ gs' hb hv)⟩)
    obtain ⟨rfl, hp⟩ := hx
    show wpAny _ A.in1 (newExc (.type "StopIteration") [] >>= _) _ _ _
    refine wpAny_bind ?_
    simp only [newExc, newTuple]
    refine wpAny_bind (wpAny_newObj_type ?_ (by size_fits))
    refine wpAny_bind (m := firstArgMember _ _) (wpAny_of_eq (a := Value.none) (by first | rfl | (simp only [firstArgMember]; rfl)) ?_)
    refine wpAny_newObj_type ?_ (by size_fits)
    refine wpAny_bind (wpAny_bind (wpAny_handled ?_))
    first | rw [show A.in1.handled = none from hh] | rw [hh]
    refine wpAny_throw ?_
    refine wpAny_bind (wpAny_isInstance (T := "StopIteration") (b := true) ⟨_, Heap.get?_push_size _ rfl, rfl⟩ isSubtype_stop ?_)
    exact wpAny_pure (hP s₁ hp _ fun b o hb => Heap.get?_push_of_some _ (Heap.get?_push_of_some _ hb))
end
noncomputable def flatD : D → Bool
  | .none | .bool _ | .int _ | .str _ => true
  | _ => false
theorem Is.flat {P P' : Vw} {v : Value} {d : D} (h : flatD d = true) (i : Is P v d) : Is P' v d := by
  exact Is.casesOn (motive_1 := fun v d _ => flatD d = true → Is P' v d) i (fun _ => .none) (fun b _ => .bool b) (fun i t _ => .int i t) (fun x t _ => .str x t) (fun _ _ h => nomatch h) (fun _ _ h => nomatch h) (fun _ h => nomatch h) (fun _ h => nomatch h) (fun _ h => nomatch h) (fun _ _ _ h => nomatch h) (fun _ _ h => nomatch h) (fun _ _ h => nomatch h) h
noncomputable def objM : MO → Bool
  | .obj _ => true
  | _ => false
section
variable {W : Wd} {k : Nat} {A A' : Around} {env : Env} {s₀ s₃ : Shared} {P₀ H Pb : Vw} {Γ : List (Str × D)} {Mx : List (Addr × MO)} {P : Vw} {s : Shared}
/-- a frame without cells goes on in a later state in which its own objects stand as they stood -/
theorem At.wake (X : At W k A env s₀ P₀ H Γ [] Mx P s) (hc : env.cells = []) (hΓ : ∀ p ∈ Γ, flatD p.2 = true) (hM : ∀ p ∈ Mx, objM p.2 = true) (a : AOk k A') (b : W.B Pb) (inn : In Pb s₃.heap) (tk : 1 ≤ s₃.toks)
    (same : ∀ c ∈ env.locals :: ads Mx, s₃.heap.get? c = s.heap.get? c) (off : ∀ c ∈ env.locals :: ads Mx, Pb c = none) : At W k A' env s₃ Pb (offX (env.locals :: ads Mx) s₃.heap) Γ [] Mx Pb s₃ := by
  obtain ⟨m, cv, ad, y, _⟩ := X.mnew
  have own : ownOf env [] ad Mx = env.locals :: ads Mx := by unfold ownOf; rw [hc]; rfl
  refine ⟨a, b, tk, X.fn, X.gl, X.bi, Le.refl _, inn, offX_in, fun _ _ e => .inl e, fun _ _ e => .inl e, fun b o e => ⟨o, e⟩, ⟨m, cv, ad, ⟨?_, fun p hp => ?_, fun p hp => ?_, fun p hp => (nomatch hp), fun p hp => ?_, y.nd, y.cnd, fun c hc' => off c (own ▸ hc'), fun c hc' => offX_none (own ▸ hc')⟩, fun p hp => (nomatch hp)⟩, GG.refl _, rfl, rfl⟩
  · exact y.ns.at' fun o e => (same _ List.mem_cons_self).trans e
  · rw [hc] at hp; cases hp
  · obtain ⟨v, e, i⟩ := y.vars p hp
    exact ⟨v, e, i.flat (hΓ p hp)⟩
  · obtain ⟨o, q, i⟩ := y.raw p hp
    refine ⟨o, (same _ (List.mem_cons_of_mem _ (List.mem_map_of_mem hp))).trans q, ?_⟩
    have := hM p hp
    obtain ⟨c, mo⟩ := p
    cases i with
    | obj o => exact .obj o
    | dict _ => cases this
    | list _ => cases this
end
/-- as GrM; of the objects that are turned nothing is said, not even that they are still there -/
structure GrQ (X : List Addr) (P : Vw) (s : Shared) (P' : Vw) (s' : Shared) : Prop where
  le : Le P P'
  inn : In P' s'.heap
  old : ∀ b o, b ∉ X → s.heap.get? b = some o → s'.heap.get? b = some o
  new : ∀ b o, P' b = some o → P b = some o ∨ s.heap.get? b = none
  gens : GG s.gens s'.gens
  drawn : s'.drawn = s.drawn
  os : s'.os = s.os
theorem GrM.q {X : List Addr} {P P' : Vw} {s s' : Shared} (x : GrM X P s P' s') : GrQ X P s P' s' := ⟨x.le, x.inn, x.old, x.new, x.gens, x.drawn, x.os⟩
theorem GrQ.up {X : List Addr} {P P₁ P' : Vw} {s s' : Shared} (x : GrQ X P s P' s') (k : Le P P₁) (h : In P₁ s.heap) (hX : ∀ b ∈ X, P₁ b = none) : GrQ X P₁ s (uni P₁ P') s' := by
  have h1 : In P₁ s'.heap := fun b o e => x.old b o (fun q => by rw [hX b q] at e; cases e) (h b o e)
  refine ⟨uni_left, uni_in h1 x.inn, x.old, fun b o e => ?_, x.gens, x.drawn, x.os⟩
  unfold uni at e
  cases q : P₁ b with
  | none => rw [q] at e; exact (x.new b o (by simpa using e)).imp (fun z => by rw [k b o z] at q; cases q) id
  | some o' => rw [q] at e; exact .inl e
open Classical in
noncomputable def HX (H : Vw) (own : List Addr) (h : Heap) : Vw := fun b => if b ∈ own then h.get? b else H b
theorem HX_in {H : Vw} {own : List Addr} {h : Heap} {b : Addr} (hb : b ∈ own) : HX H own h b = h.get? b := if_pos hb
theorem HX_out {H : Vw} {own : List Addr} {h : Heap} {b : Addr} (hb : b ∉ own) : HX H own h b = H b := if_neg hb
section
variable {W : Wd} {k : Nat} {A : Around} {env : Env} {s₀ : Shared} {P₀ H H₁ : Vw} {Γ : List (Str × D)} {Δ : List (Str × List D)} {Mx : List (Addr × MO)} {P P' : Vw} {s s' : Shared}
/-- objects that count among what must stand are turned by somebody else -/
theorem At.stepX {own : List Addr} {g' : Array GenState} (X : At W k A env s₀ P₀ H₁ Γ Δ Mx P s) (hH : ∀ b, b ∉ own → H₁ b = H b) (g : GrQ own P s P' s') (tk : 1 ≤ s'.toks) (hown : ∃ m cv ad, AtX env Γ Δ Mx H₁ P m cv ad s.heap ∧ ∀ b ∈ own, b ∉ ownOf env Δ ad Mx)
    (h0 : ∀ b ∈ own, s₀.heap.get? b = none) (hP' : ∀ b ∈ own, P' b = none) (gg : GG s₀.gens g') : At W k A env s₀ P₀ (HX H own s'.heap) Γ Δ Mx P' { s' with gens := g' } where
  a := X.a
  b := X.b.up g.le
  tk := tk
  fn := X.fn
  gl := X.gl
  bi := X.bi
  le := X.le.trans g.le
  inn := g.inn
  hin := fun b o e => by
    by_cases hb : b ∈ own
    · rw [HX_in hb] at e; exact e
    · rw [HX_out hb] at e; exact g.old b o hb (X.hin b o ((hH b hb).trans e))
  new := fun b o e => (g.new b o e).elim (X.new b o) fun z => .inr (by
    cases q : s₀.heap.get? b with
    | none => rfl
    | some o' => obtain ⟨o'', q'⟩ := X.ext b o' q; rw [z] at q'; cases q')
  newH := fun b o e => by
    have hb : b ∉ own := fun hb => by rw [hP' b hb] at e; cases e
    rw [HX_out hb, ← hH b hb]
    exact (g.new b o e).elim (X.newH b o) fun z => .inr (by
      cases q : H₁ b with
      | none => rfl
      | some o' => have := X.hin _ _ q; rw [z] at this; cases this)
  ext := fun b o e => (X.ext b o e).imp fun o' q => g.old b o' (fun hb => by rw [h0 b hb] at e; cases e) q
  mnew := by
    obtain ⟨m', cv', ad', y', hc'⟩ := hown
    obtain ⟨m, cv, ad, y, hn⟩ := X.mnew
    have hd : ∀ b ∈ ownOf env Δ ad Mx, b ∉ own := fun b hb ho => hc' b ho (by rw [← AtX.unique y y']; exact hb)
    have up : ∀ b ∈ ownOf env Δ ad Mx, ∀ o, s.heap.get? b = some o → s'.heap.get? b = some o := fun b hb o e => g.old b o (hd b hb) e
    refine ⟨m, cv, ad, ⟨y.ns.at' fun o e => up _ List.mem_cons_self o e, fun p hp => ?_, fun p hp => ?_, fun p hp => ?_, fun p hp => ?_, y.nd, y.cnd, fun b hb => ?_, fun b hb => ?_⟩, hn⟩
    · obtain ⟨o, q, d⟩ := y.cells p hp
      exact ⟨o, up _ (List.mem_cons_of_mem _ (List.mem_append.mpr (.inl (List.mem_map_of_mem hp)))) o q, d⟩
    · obtain ⟨v, e, i⟩ := y.vars p hp; exact ⟨v, e, i.mono g.le⟩
    · obtain ⟨vs, n, e, q, i⟩ := y.muts p hp
      exact ⟨vs, n, e, up _ (List.mem_cons_of_mem _ (List.mem_append.mpr (.inr (List.mem_append.mpr (.inl (List.mem_map_of_mem hp)))))) _ q, i.mono g.le⟩
    · obtain ⟨o, q, i⟩ := y.raw p hp
      exact ⟨o, up _ (List.mem_cons_of_mem _ (List.mem_append.mpr (.inr (List.mem_append.mpr (.inr (List.mem_map_of_mem hp)))))) _ q, i.mono g.le⟩
    · cases q : P' b with
      | none => rfl
      | some o' =>
        obtain ⟨o, ho⟩ := y.exist b hb
        rcases g.new b o' q with z | z
        · rw [y.offP b hb] at z; cases z
        · rw [ho] at z; cases z
    · rw [HX_out (hd b hb), ← hH b (hd b hb)]; exact y.offH b hb
  gens := gg
  drawn := g.drawn.trans X.drawn
  os := g.os.trans X.os
end
end
local macro_rules | `(tactic| trivial) => `(tactic| ((with_reducible refine ne_cons ?_ ?_); decide; trivial))
local macro_rules | `(tactic| trivial) => `(tactic| with_reducible exact ne_nil)
local macro_rules | `(tactic| trivial) => `(tactic| ((with_reducible refine sub_cons ?_ ?_) <;> trivial))
local macro_rules | `(tactic| trivial) => `(tactic| with_reducible exact sub_nil)
local macro_rules | `(tactic| trivial) => `(tactic| ((with_reducible apply rm_mem); decide; trivial))
local macro_rules | `(tactic| trivial) => `(tactic| ((with_reducible apply List.mem_cons_of_mem); trivial))
local macro_rules | `(tactic| trivial) => `(tactic| with_reducible exact List.mem_cons_self)
section
/-! the generator -/
noncomputable def escLoop : List Nat → Nat → Bool → Nat → List (Nat × Str)
  | [], _, esc, last => if esc then [(last, "\\")] else []
  | c :: r, i, esc, _ => if esc then (i, ("\\" : Str) ++ ⟨#[c]⟩) :: escLoop r (i + 1) false i
    else if (⟨#[c]⟩ : Str) == "\\" then escLoop r (i + 1) true i
    else (i, ⟨#[c]⟩) :: escLoop r (i + 1) false i
noncomputable def escItems (x : Str) : List (Nat × Str) := escLoop x.cps.toList 0 false 0
noncomputable def itemD (p : Nat × Str) : D := .tup [.int p.1, .str p.2]
noncomputable def genY (its : List D) (own : List Addr) (Pb : Vw) : Protocol := fun m s₁ v s₂ kap => ∃ P' d, its.reverse[m]? = some d ∧ GrQ own Pb s₁ P' s₂ ∧ 1 ≤ s₂.toks ∧ Is P' v d ∧ (∀ b ∈ own, P' b = none) ∧ (∀ b ∈ own, ∃ o, s₂.heap.get? b = some o) ∧
  ∀ s₃ : Shared, In Pb s₃.heap → 1 ≤ s₃.toks → (∀ c ∈ own, s₃.heap.get? c = s₂.heap.get? c) → kap (.send .none) s₃
noncomputable def genE (own : List Addr) (Pb : Vw) : Nat → Shared → Shared → Prop := fun n s₁ s₂ => n = 0 ∧ ∃ P', GrQ own Pb s₁ P' s₂ ∧ 1 ≤ s₂.toks ∧ (∀ b ∈ own, P' b = none)
noncomputable abbrev genR (own : List Addr) (Pb : Vw) : GenEnd := fun n s₀ r s₁ => r = .ok (.ret .none) ∧ genE own Pb n s₀ s₁
noncomputable abbrev enumO (it : Addr) (i : Int) (old : Value) : Obj := { cls := .type "enumerate", dict := none, data := .fields #[.none, .bool false, .ref it, rawInt i, .none, old], slots := #[] }
section
variable {W : Wd} {k : Nat} {A : Around} {env : Env} {s₀ : Shared} {P₀ H : Vw} {Γ : List (Str × D)} {P : Vw} {s : Shared} {E : Value → Shared → Prop} {e it : Addr} {x : Str} {t : Tok} {old : Value} {oi : Obj}
noncomputable def iterO (x : Str) (t : Tok) (i : Nat) (o : Obj) : Prop := o.cls = .type (strIterType x) ∧ o.data = .fields #[.str x t, .int i 0]
theorem draws_str {prog : Program} {w : World} {A : Around} (hh : A.handled = none) (it : Addr) (x : Str) (t : Tok) : Draws prog w A it [it] x.cps.size (fun i v => ∃ c u, x.cps[i]? = some c ∧ v = .str ⟨#[c]⟩ u) (fun i h => h.IsStrIter it (strIterType x) x t i) := by
  unfold strIterType
  cases h : x.cps.all (· < 128) with
  | true => simpa using Draws.strAscii hh it x t
  | false => simpa using Draws.strWide hh it x t
/-- the next pair of enumerate(x) -/
theorem enum_item {i : Nat} {Q : Option Value → Shared → Prop} {elts : List Expr} {x1 : Nat} {pos : Pos} (X : At W k A env s₀ P₀ H Γ [] [(e, .obj (enumO it i old)), (it, .obj oi)] P s) (ho : iterO x t i oi) (hi : i < x.cps.size)
    (h : ∀ c T v P' s' oi' old', x.cps[i]? = some c → v = .ref T → Is P' v (.tup [.int i, .str ⟨#[c]⟩]) → iterO x t (i + 1) oi' →
      (∀ Q' : Unit → Shared → Prop, (∀ P'' s'', At W k A env s₀ P₀ H Γ [] [(e, .obj (enumO it (i + 1 : Nat) old')), (it, .obj oi')] P'' s'' → Is P'' v (.tup [.int i, .str ⟨#[c]⟩]) → Q' () s'') → wpAny W.M A (letOwnedTupleGo (.Tuple elts x1 pos) (.ref e) v) Q' E s') → Q (some v) s') :
    wpAny W.M A (pyNext (.ref e)) Q E s := by
  obtain ⟨m, cv, ad, y, _⟩ := X.mnew
  obtain ⟨o1, q1, i1⟩ := y.raw _ List.mem_cons_self
  obtain ⟨o2, q2, i2⟩ := y.raw _ (List.mem_cons_of_mem _ List.mem_cons_self)
  obtain rfl := i1.objI.symm; obtain rfl := i2.objI.symm
  have nd := (List.nodup_append.mp (List.nodup_cons.mp y.nd).2).2.1
  have hne : e ≠ it := by
    have := List.nodup_cons.mp (show [e, it].Nodup from nd)
    simpa using this.1
  have D := draws_str (prog := W.prog) (w := W.w) (A := A.in1) X.a.1 it x t
  refine wp_tk X.tk (wpAny_pyNext_enum_itemD D q1 ⟨_, q2, ho.1, ho.2⟩ hi hne (by simpa using hne) fun v h' tk hv he hst hT hz hk tk' => ?_)
  obtain ⟨c, u, hc, rfl⟩ := hv
  obtain ⟨oi', qi, hi1, hi2⟩ := hst
  have f0 : s.heap.get? s.heap.objs.size = none := Heap.get?_none_of_le (Nat.le_refl _)
  have pT : P s.heap.objs.size = none := none_size X.inn
  have hTe : s.heap.objs.size ≠ e := fun q => by rw [← q, f0] at q1; cases q1
  have hTi : s.heap.objs.size ≠ it := fun q => by rw [← q, f0] at q2; cases q2
  have hPe := y.offP e (List.mem_cons_of_mem _ (List.mem_append_right _ (List.mem_append_right _ List.mem_cons_self)))
  have hPi := y.offP it (List.mem_cons_of_mem _ (List.mem_append_right _ (List.mem_append_right _ (List.mem_cons_of_mem _ List.mem_cons_self))))
  have hle := addV_le (o := { cls := .type "tuple", data := .seq #[.int i tk, .str ⟨#[c]⟩ u] }) pT
  have g : GrM [e, it] P s (addV P s.heap.objs.size { cls := .type "tuple", data := .seq #[.int i tk, .str ⟨#[c]⟩ u] }) { s with heap := h', toks := tk + 1 } := by
    refine ⟨hle, addV_in (fun b o q => hk b o (fun z => by rw [z, hPe] at q; cases q) (fun z => by rw [z, hPi] at q; cases q) (X.inn _ _ q)) hT, fun b o n q => hk b o (fun z => n (by simp [z])) (fun z => n (by simp [z])) q, fun b o q => ?_, fun b o q => ?_, GG.refl _, rfl, rfl⟩
    · by_cases h1 : b = e
      · subst h1; exact ⟨_, he⟩
      · by_cases h2 : b = it
        · subst h2; exact ⟨_, qi⟩
        · exact ⟨_, hk b o h1 h2 q⟩
    · by_cases hb : b = s.heap.objs.size
      · subst hb; exact .inr f0
      · rw [addV_ne hb] at q; exact .inl q
  have dv : Dv (addV P s.heap.objs.size { cls := .type "tuple", data := .seq #[.int i tk, .str ⟨#[c]⟩ u] }) { s with heap := h', toks := tk + 1 } [(e, .obj { cls := .type "enumerate", dict := none, data := .fields #[rawInt s.heap.objs.size, .bool false, .ref it, rawInt ((i : Int) + 1), .none, .str ⟨#[c]⟩ u], slots := #[] }), (it, .obj oi')] := by
    refine ⟨fun p hp => ?_, by simpa [ads] using hne, fun p hp => ?_⟩
    · simp only [List.mem_cons, List.not_mem_nil, or_false] at hp
      rcases hp with rfl | rfl
      · exact ⟨_, he, .obj _⟩
      · exact ⟨_, qi, .obj _⟩
    · simp only [List.mem_cons, List.not_mem_nil, or_false] at hp
      rcases hp with rfl | rfl
      · rw [addV_ne (Ne.symm hTe)]; exact hPe
      · rw [addV_ne (Ne.symm hTi)]; exact hPi
  have X' := At.grM (rest := []) (Mx := [(e, .obj (enumO it i old)), (it, .obj oi)]) X g (Nat.succ_le_succ (Nat.zero_le _)) dv rfl
  have iT : Is (addV P s.heap.objs.size { cls := .type "tuple", data := .seq #[.int i tk, .str ⟨#[c]⟩ u] }) (.ref s.heap.objs.size) (.tup [.int i, .str ⟨#[c]⟩]) := .tup (vs := [.int i tk, .str ⟨#[c]⟩ u]) (n := 0) addV_at (.cons (.int _ _) (.cons (.str _ _) .nil))
  refine h c s.heap.objs.size _ _ _ oi' (.str ⟨#[c]⟩ u) hc rfl iT ⟨hi1, hi2⟩ fun Q' hQ' => ?_
  refine wpAny_letOwnedTupleGo_enum he fun h'' he' hs' => ?_
  exact hQ' _ _ (At.turnR (o' := .obj _) X' (Nat.succ_le_succ (Nat.zero_le _)) (fun b o n q => hs'.extBut b o n q) he' (.obj _)) iT
end
section
variable {W : Wd} {k : Nat} {A : Around} {env : Env} {s₀ : Shared} {P₀ H : Vw} {Γ : List (Str × D)} {Mx : List (Addr × MO)} {P : Vw} {s : Shared} {E : Value → Shared → Prop}
/-- one local name takes a value, and the heap is as long as it was -/
theorem At.nameZ {M : Model} {Q : Unit → Shared → Prop} {x : Str} {v : Value} {d : D} (X : At W k A env s₀ P₀ H Γ [] Mx P s) (i : Is P v d) (hk : env.kindOf x = some .local)
    (h : ∀ s', At W k A env s₀ P₀ H ((x, d) :: rm x Γ) [] Mx P s' → s'.heap.objs.size = s.heap.objs.size → Q () s') : wpAny M A (storeName env x v) Q E s := by
  have X' := X.less x
  obtain ⟨m, cv, ad, y, hn⟩ := X'.mnew
  refine wpAny_storeName_local hk y.ns (fun h' hns hsb => ?_) (by rw [X.fn]; rfl)
  have nd := List.nodup_cons.mp y.nd
  have hkp : ∀ b o, b ≠ env.locals → s.heap.get? b = some o → h'.get? b = some o := fun b o n e => hsb.extBut b o n e
  refine h _ { a := X.a, b := X.b, tk := Nat.le_trans X.tk (Nat.le_succ _), fn := X.fn, gl := X.gl, bi := X.bi, le := X.le, inn := keep_but X.inn hkp (y.offP _ List.mem_cons_self), hin := keep_but X.hin hkp (y.offH _ List.mem_cons_self), new := X.new, newH := X.newH, ext := fun b o e => ?_, mnew := ⟨_, cv, ad, ⟨hns, fun p hp => ?_, fun p hp => ?_, fun p hp => (nomatch hp), fun p hp => ?_, y.nd, y.cnd, y.offP, y.offH⟩, fun p hp => (nomatch hp)⟩, gens := X.gens, drawn := X.drawn, os := X.os } hsb.1
  · obtain ⟨o', q⟩ := X.ext b o e
    by_cases hbc : b = env.locals
    · rw [hbc]; obtain ⟨o, _, _, q, _⟩ := hns; exact ⟨o, q⟩
    · exact ⟨o', hkp _ _ hbc q⟩
  · obtain ⟨o, q, d⟩ := y.cells p hp
    exact ⟨o, hkp _ _ (fun z => nd.1 (List.mem_append.mpr (.inl (z ▸ List.mem_map_of_mem hp)))) q, d⟩
  · rcases List.mem_cons.mp hp with rfl | hp
    · exact ⟨v, lookN_set_local hk, i⟩
    · obtain ⟨u, e, i⟩ := y.vars p hp
      exact ⟨u, (lookN_ne_local (rm_ne p hp)).trans e, i⟩
  · obtain ⟨o, q, i⟩ := y.raw p hp
    exact ⟨o, hkp _ _ (fun z => nd.1 (List.mem_append.mpr (.inr (List.mem_append.mpr (.inr (z ▸ List.mem_map_of_mem hp)))))) q, i⟩
end
theorem aok_func {k : Nat} {A : Around} {b : List Stmt} {e : Env} (a : AOk (k + 1) A) : AOk k (A.over (.func b e) []) :=
  ⟨a.1, ar_depth a.2.1, ar_units (c := 3) (by decide) a.2.2⟩
theorem aok_loop {k : Nat} {A : Around} {b : List Stmt} {e e' : Env} {t : Expr} {it : Value} {ss els : List Stmt} {K : Result → Sem Fin} {g : Bool} {l : List Value} {p : Pos} {l2 : List Value} (a : AOk (k + 1) A) : AOk k (A.over (.forLoop t it ss els e') [.ret K none g l (.func b e) p l2]) :=
  ⟨a.1, ar_depth a.2.1, ar_units (c := 3) (by decide) a.2.2⟩
theorem none_of_in {P : Vw} {h : Heap} {b : Addr} (p : In P h) (e : h.get? b = none) : P b = none := by
  cases q : P b with
  | none => rfl
  | some o => rw [p b o q] at e; cases e
theorem At.own2 {W : Wd} {k : Nat} {A : Around} {env : Env} {s₀ : Shared} {P₀ H : Vw} {Γ : List (Str × D)} {P : Vw} {s : Shared} {h' : Heap} {e it : Addr} {oe oi : Obj} (X : At W k A env s₀ P₀ H Γ [] [] P s) (hk : ∀ b o, s.heap.get? b = some o → h'.get? b = some o)
    (he : h'.get? e = some oe) (hi : h'.get? it = some oi) (fe : s.heap.get? e = none) (fi : s.heap.get? it = none) (ne : e ≠ it) : At W k A env s₀ P₀ H Γ [] [(e, .obj oe), (it, .obj oi)] P { s with heap := h' } := by
  have X' := X.same hk X.tk
  have pe : P e = none := none_of_in X.inn fe
  have pi : P it = none := none_of_in X.inn fi
  have qe : H e = none := none_of_in X.hin fe
  have qi : H it = none := none_of_in X.hin fi
  obtain ⟨m0, cv0, ad0, y0, hn0⟩ := X.mnew
  obtain ⟨m, cv, ad, y, hn⟩ := X'.mnew
  have off : ∀ b, s.heap.get? b = none → b ∉ ownOf env [] ad [] := fun b hb hm => by
    obtain ⟨o, q⟩ := y0.exist b hm
    rw [hb] at q; cases q
  have own : (ownOf env [] ad [(e, .obj oe), (it, .obj oi)]).Perm (e :: it :: ownOf env [] ad []) := by
    show (env.locals :: (env.cells.map (·.2) ++ ([] ++ [e, it]))).Perm (e :: it :: env.locals :: (env.cells.map (·.2) ++ ([] ++ [])))
    simp only [List.nil_append, List.append_nil]
    exact (List.perm_append_comm (l₁ := env.locals :: env.cells.map (·.2)) (l₂ := [e, it]))
  refine { X' with mnew := ⟨m, cv, ad, { y with raw := fun p hp => ?_, nd := ?_, offP := fun b hb => ?_, offH := fun b hb => ?_ }, hn⟩ }
  · simp only [List.mem_cons, List.not_mem_nil, or_false] at hp
    rcases hp with rfl | rfl
    · exact ⟨_, he, .obj _⟩
    · exact ⟨_, hi, .obj _⟩
  · refine own.nodup_iff.mpr (List.nodup_cons.mpr ⟨fun hm => ?_, List.nodup_cons.mpr ⟨off it fi, y.nd⟩⟩)
    rcases List.mem_cons.mp hm with z | z
    · exact ne z
    · exact off e fe z
  · rcases List.mem_cons.mp (own.subset hb) with rfl | hb
    · exact pe
    rcases List.mem_cons.mp hb with rfl | hb
    · exact pi
    · exact y.offP b hb
  · rcases List.mem_cons.mp (own.subset hb) with rfl | hb
    · exact qe
    rcases List.mem_cons.mp hb with rfl | hb
    · exact qi
    · exact y.offH b hb
/-- a loop of a generator, turn by turn -/
theorem seg_ind {M : Model} {A : Around} {R : GenEnd} {Y : Protocol} {C : Code} {D : Sem Fin} {fs : List Frame} {s₀ s : Shared} {n : Nat} (N : Nat) (Inv : Nat → Nat → Shared → Shared → Prop)
    (step : ∀ i n s₀ s, i < N → (∀ n' s₀' s', Inv (i + 1) n' s₀' s' → Seg M A R Y n' s₀' C D fs s') → Inv i n s₀ s → Seg M A R Y n s₀ C D fs s)
    (stop : ∀ n s₀ s, Inv N n s₀ s → Seg M A R Y n s₀ C D fs s) (h : Inv 0 n s₀ s) : Seg M A R Y n s₀ C D fs s := by
  have go : ∀ j i, i + j = N → ∀ n s₀ s, Inv i n s₀ s → Seg M A R Y n s₀ C D fs s := by
    intro j
    induction j with
    | zero => intro i e n s₀ s h; rw [Nat.add_zero] at e; subst e; exact stop n s₀ s h
    | succ j ih => intro i e n s₀ s h; exact step i n s₀ s (by omega) (ih (i + 1) (by omega)) h
  exact go N 0 (Nat.zero_add N) n s₀ s h
theorem rev_at {α : Type} {pre rem : List α} {d : α} : (pre ++ d :: rem).reverse[rem.length]? = some d := by
  rw [List.reverse_append, List.reverse_cons, List.append_assoc, List.getElem?_append_right (by simp)]
  simp
section
variable {prog : Program} {w : World} {A : Around} {E : Value → Shared → Prop} {s : Shared}
/-- an ascii str's iterator at its end: it stands, without its str; a StopIteration is raised -/
theorem ascii_over {it : Addr} {x : Str} {t : Tok} {i : Nat} {Q : Value → Shared → Prop} (hh : A.handled = none) (h0 : s.heap.IsStrIter it "str_ascii_iterator" x t i) (hi : x.cps[i]? = none)
    (h : ∀ h' e, Heap.ExtBut it s.heap h' → (∃ o, h'.get? it = some o) → s.TypeIs (.ref it) "str_ascii_iterator" → (∃ o, h'.get? e = some o ∧ o.cls = .type "StopIteration") → E (.ref e) { s with heap := h' }) :
    wpAny (model prog w) A (Builtin.SmallTypes.nextOf (.ref it)) Q E s := by
  have ty := h0.typeIs
  obtain ⟨o, q, c1, c2⟩ := h0
  have fr : (Obj.mapFields (·.setIfInBounds 0 Value.none) o).isFreed = false := by
    obtain ⟨_, _, _, _⟩ := o; cases c2; rfl
  have up := Heap.get?_update_self (Obj.mapFields (·.setIfInBounds 0 Value.none)) q fr
  rw [Builtin.SmallTypes.nextOf]
  apply wpAny_bind
  apply wpAny_callSpecial?_slot (name := Str.ofString "__next__") ty F.slot_str_ascii_iterator_next
  apply wpAny_call_entry F.slot_str_ascii_iterator_next ty F.entry_str_ascii_iterator_next ?_ (F.args_str_ascii_iterator_next_1 _)
  change wpAny _ _ (field (.ref it) 0 >>= _) _ _ s
  apply wpAny_bind
  apply wpAny_field q c2 (x := .str x t) rfl
  change wpAny _ _ (field (.ref it) 1 >>= _) _ _ s
  apply wpAny_bind
  apply wpAny_field q c2 (x := .int i 0) rfl
  simp only [Int.toNat_natCast, hi]
  apply wpAny_bind
  apply wpAny_rule
  apply wpAny_bind
  apply wpAny_setField q c2 (by simp)
  apply wpAny_bind
  apply wpAny_letGo
  change wpAny _ _ (newExc (.type "StopIteration") [] >>= _) _ _ _
  apply wpAny_bind
  rw [newExc, newTuple]
  apply wpAny_bind
  refine wpAny_newObj_type ?_ (by size_fits)
  refine wpAny_bind (m := firstArgMember _ _) (wpAny_of_eq (a := Value.none) (by first | rfl | (simp only [firstArgMember]; rfl)) ?_)
  refine wpAny_newObj_type ?_ (by size_fits)
  rw [raiseNew]
  apply wpAny_bind
  apply wpAny_handled
  rw [show A.in1.handled = none from hh]
  refine wpAny_bind (wpAny_pure (wpAny_throw ?_))
  exact h _ _ (((Heap.SameBut.update ..).extBut.push _).push _) ⟨_, Heap.get?_push_of_some _ (Heap.get?_push_of_some _ up)⟩ ty ⟨_, Heap.get?_push_size _ rfl, rfl⟩
/-- enumerate at its end: both iterators stand -/
theorem enum_over {e it : Addr} {x : Str} {t : Tok} {i : Int} {j : Nat} {old : Value} {Q : Option Value → Shared → Prop} (hh : A.handled = none) (he : IsEnum s.heap e it i old) (h0 : s.heap.IsStrIter it "str_ascii_iterator" x t j) (hj : x.cps[j]? = none)
    (h : ∀ h', Heap.ExtBut it s.heap h' → (∃ o, h'.get? it = some o) → Q none { s with heap := h' }) : wpAny (model prog w) A (pyNext (.ref e)) Q E s := by
  have ty : s.TypeIs (.ref e) "enumerate" := ⟨_, he, rfl⟩
  rw [pyNext]
  refine wpAny_bind (wpAny_attempt (wpAny_callSpecial?_slot (name := Str.ofString "__next__") ty F.slot_enumerate_next (wpAny_call_entry F.slot_enumerate_next ty F.entry_enumerate_next ?_ (F.args_enumerate_next_1 _))))
  change wpAny _ _ (field (.ref e) 2 >>= _) _ _ _
  refine wpAny_bind (wpAny_field he rfl (x := .ref it) rfl (wpAny_bind (ascii_over hh h0 hj fun h' ex x1 x2 _ x3 => ?_)))
  obtain ⟨o, q, c⟩ := x3
  exact wpAny_bind (wpAny_isInstance (T := "StopIteration") (b := true) ⟨o, q, c⟩ isSubtype_stop (wpAny_pure (h _ x1 x2)))
end
end
section
/-! generators: what a consumer sees -/
structure GSame (Pb : Vw) (own : List Addr) (g : Nat) (s s₃ : Shared) : Prop where
  inn : In Pb s₃.heap
  tk : 1 ≤ s₃.toks
  same : ∀ c ∈ own, s₃.heap.get? c = s.heap.get? c
  gen : s₃.gens[g]? = s.gens[g]?
noncomputable def GRdy (prog : Program) (w : World) (A : Around) (a g : Nat) (Pb : Vw) : List D → List Addr → Shared → Prop
  | [], own, s => ∀ (s₃ : Shared) (E : Value → Shared → Prop) (Q : Option Value → Shared → Prop), GSame Pb own g s s₃ →
      (∀ own' P' s₁ gs', (∀ b ∈ own, b ∈ own') → (∀ b ∈ own', b ∈ own ∨ s₃.heap.get? b = none) → GrQ own' Pb (s₃.setGen g .running) P' s₁ → 1 ≤ s₁.toks → (∀ b ∈ own', P' b = none) → gs'.bare = true → Q none (s₁.setGen g gs')) → wpAny (model prog w) A (pyNext (.ref a)) Q E s₃
  | d :: ds, own, s => ∀ (s₃ : Shared) (E : Value → Shared → Prop) (Q : Option Value → Shared → Prop), GSame Pb own g s s₃ →
      (∀ own' P' v s₁ gs', (∀ b ∈ own, b ∈ own') → (∀ b ∈ own', b ∈ own ∨ s₃.heap.get? b = none) → GrQ own' Pb (s₃.setGen g .running) P' s₁ → 1 ≤ s₁.toks → (∀ b ∈ own', P' b = none) → (∀ b ∈ own', ∃ o, s₁.heap.get? b = some o) → gs'.bare = true → g < s₁.gens.size → Is P' v d →
        GRdy prog w A a g Pb ds own' (s₁.setGen g gs') → Q (some v) (s₁.setGen g gs')) → wpAny (model prog w) A (pyNext (.ref a)) Q E s₃
theorem GRdy.move {prog : Program} {w : World} {A : Around} {a g : Nat} {Pb : Vw} {its : List D} {own : List Addr} {s s' : Shared} (h : GRdy prog w A a g Pb its own s) (e : ∀ b ∈ own, s'.heap.get? b = s.heap.get? b) (eg : s'.gens[g]? = s.gens[g]?) : GRdy prog w A a g Pb its own s' := by
  cases its with
  | nil => exact fun s₃ E Q x hQ => h s₃ E Q ⟨x.inn, x.tk, fun c hc => (x.same c hc).trans (e c hc), x.gen.trans eg⟩ hQ
  | cons d ds => exact fun s₃ E Q x hQ => h s₃ E Q ⟨x.inn, x.tk, fun c hc => (x.same c hc).trans (e c hc), x.gen.trans eg⟩ hQ
theorem aok_in1 {k : Nat} {A : Around} (a : AOk (k + 1) A) : AOk k A.in1 := ⟨a.1, Nat.lt_of_succ_lt a.2.1, ar_units (by decide) a.2.2⟩
theorem GrQ.genHeap {own : List Addr} {P P' : Vw} {s s₁ : Shared} {h' : Heap} (x : GrQ own P s P' s₁) (k : ∀ b o, s₁.heap.get? b = some o → h'.get? b = some o) : GrQ own P s P' { s₁ with heap := h' } :=
  ⟨x.le, fun b o e => k b o (x.inn b o e), fun b o n e => k b o (x.old b o n e), x.new, x.gens, x.drawn, x.os⟩
theorem drop_rev {α : Type} {l : List α} {n : Nat} {d : α} (h : l.reverse[n]? = some d) : l.drop (l.length - (n + 1)) = d :: l.drop (l.length - n) ∧ n < l.length := by
  have hn : n < l.length := by
    have := (List.getElem?_eq_some_iff.mp h).1
    rwa [List.length_reverse] at this
  have e := List.getElem?_reverse (l := l) hn
  rw [e] at h
  have h2 : l.length - 1 - n = l.length - (n + 1) := ar_sub2
  rw [h2] at h
  obtain ⟨h3, rfl⟩ := List.getElem?_eq_some_iff.mp h
  refine ⟨?_, hn⟩
  rw [List.drop_eq_getElem_cons h3]
  exact congrArg (fun z => _ :: l.drop z) (ar_sub1 hn).symm
section
variable {W : Wd} {A : Around} {a g : Nat} {Pb : Vw} {its : List D} {own : List Addr}
/-- behind the first item -/
theorem grdy_go (hA : AOk 1 A) (hB : W.B Pb) (hgo : Heap → Prop) (hg : ∀ h : Heap, In Pb h → h.IsGen a g) : ∀ (n : Nat) (s : Shared) (gs : GenState), n ≤ its.length → s.gens[g]? = some gs →
    (∀ s₃ : Shared, In Pb s₃.heap → 1 ≤ s₃.toks → (∀ c ∈ own, s₃.heap.get? c = s.heap.get? c) → gs.Goes W.M A.in1 (genR own Pb) (genY its own Pb) n (.send .none) s₃) →
    GRdy W.prog W.w A a g Pb (its.drop (its.length - n)) own s := by
  intro n
  induction n with
  | zero =>
    intro s gs _ hgs go
    rw [Nat.sub_zero, List.drop_length]
    intro s₃ E Q x hQ
    refine gen_next hA.1 (hB.top _ x.inn).nolimit (by have := hA.2.1; omega) (hg _ x.inn) (x.gen.trans hgs) (go _ x.inn x.tk x.same) (fun v s₁ gs' _ hy => ?_) (fun s₁ hp h' hk => ?_)
    · obtain ⟨P', d, _, q, tk, _, _, _, z⟩ := hy
      exact (z s₁ (q.inn.le q.le) tk fun _ _ => rfl).elim
    · obtain ⟨_, P', q, tk, off⟩ := hp
      exact hQ own P' { s₁ with heap := h' } .finished (fun _ h => h) (fun _ h => .inl h) (q.genHeap hk) tk off rfl
  | succ n ih =>
    intro s gs hn hgs go
    have ex : ∃ d, its.reverse[n]? = some d := ⟨its.reverse[n]'(by rw [List.length_reverse]; omega), by rw [List.getElem?_eq_getElem]⟩
    obtain ⟨d, hd⟩ := ex
    rw [(drop_rev hd).1]
    intro s₃ E Q x hQ
    refine gen_next hA.1 (hB.top _ x.inn).nolimit (by have := hA.2.1; omega) (hg _ x.inn) (x.gen.trans hgs) (go _ x.inn x.tk x.same) (fun v s₁ gs' hb hy => ?_) (fun s₁ hp h' hk => ?_)
    · obtain ⟨P', d', hd', q, tk, i, off, ex, z⟩ := hy
      rw [show n + 1 - 1 = n from rfl, hd] at hd'
      cases hd'
      have hsz : g < s₁.gens.size := by
        have h0 : g < s₃.gens.size := by
          have := x.gen.trans hgs
          exact (Array.getElem?_eq_some_iff.mp this).1
        have := q.gens.1 g .running (by show (s₃.gens.setIfInBounds g .running)[g]? = _; rw [Array.getElem?_setIfInBounds_self_of_lt h0])
        exact (Array.getElem?_eq_some_iff.mp this).1
      refine hQ own P' v s₁ gs' (fun _ h => h) (fun _ h => .inl h) q tk off ex hb hsz i (ih _ gs' (by omega) ?_ fun s₄ i4 t4 e4 => z s₄ i4 t4 e4)
      show (s₁.gens.setIfInBounds g gs')[g]? = _
      rw [Array.getElem?_setIfInBounds_self_of_lt hsz]
    · obtain ⟨h0, _⟩ := hp
      cases h0
end
noncomputable abbrev GenSegs (W : Wd) (fd : FuncData) (body : List Stmt) (f : Addr) (nm : Str) (x : Str) (its : List D) : Prop := ∀ (A : Around) (L : Addr) (Pb : Vw) (s₁ : Shared), AOk 2 A →
  At W 2 A (callEnvC fd L f) s₁ Pb (offX [L] s₁.heap) [(nm, .str x)] [] [] Pb s₁ →
  Seg W.M A (genR [L, s₁.heap.objs.size + 1, s₁.heap.objs.size] Pb) (genY its [L, s₁.heap.objs.size + 1, s₁.heap.objs.size] Pb) its.length s₁ (.func body (callEnvC fd L f)) (W.M.den (.func body (callEnvC fd L f))) [] s₁
theorem grdy_first {W : Wd} {A A₀ : Around} {a g f L : Addr} {Pb P₀ P H : Vw} {its : List D} {fd : FuncData} {body : List Stmt} {nm x : Str} {s₀ s : Shared} (hA : AOk 3 A) (hB : W.B Pb) (hg : ∀ h : Heap, In Pb h → h.IsGen a g) (hS : GenSegs W fd body f nm x its)
    (X : At W 2 A₀ (callEnvC fd L f) s₀ P₀ H [(nm, .str x)] [] [] P s) (hc : (callEnvC fd L f).cells = []) {s' : Shared} (hn : s'.heap.get? L = s.heap.get? L) (hgs : s'.gens[g]? = some (.fresh (.func body (callEnvC fd L f)))) (off : Pb L = none) : GRdy W.prog W.w A a g Pb its [L] s' := by
  have h1 : AOk 1 A := hA.le (by omega)
  have z1 : ∀ s₃ : Shared, s₃.heap.get? s₃.heap.objs.size = none := fun s₃ => Heap.get?_none_of_le (Nat.le_refl _)
  have z2 : ∀ s₃ : Shared, s₃.heap.get? (s₃.heap.objs.size + 1) = none := fun s₃ => Heap.get?_none_of_le (Nat.le_succ _)
  have go : ∀ s₃, GSame Pb [L] g s' s₃ → (GenState.fresh (.func body (callEnvC fd L f))).Goes W.M A.in1 (genR [L, s₃.heap.objs.size + 1, s₃.heap.objs.size] Pb) (genY its [L, s₃.heap.objs.size + 1, s₃.heap.objs.size] Pb) its.length (.send .none) (s₃.setGen g .running) := fun s₃ x => by
    refine ⟨rfl, hS A.in1 L Pb (s₃.setGen g .running) (aok_in1 hA) (At.wake X hc (fun p hp => ?_) (fun p hp => nomatch hp) (aok_in1 hA) hB x.inn x.tk (fun c hc => ?_) fun c hc => ?_)⟩
    · rw [List.mem_singleton.mp hp]; rfl
    · have hc' : c ∈ [L] := hc
      rw [List.mem_singleton.mp hc']
      exact (x.same L List.mem_cons_self).trans hn
    · have hc' : c ∈ [L] := hc
      rw [List.mem_singleton.mp hc']; exact off
  have own1 : ∀ (s₃ : Shared), ∀ b ∈ [L], b ∈ [L, s₃.heap.objs.size + 1, s₃.heap.objs.size] := fun s₃ b hb => by rw [List.mem_singleton.mp hb]; exact List.mem_cons_self
  have own2 : ∀ (s₃ : Shared), ∀ b ∈ [L, s₃.heap.objs.size + 1, s₃.heap.objs.size], b ∈ [L] ∨ s₃.heap.get? b = none := fun s₃ b hb => by
    simp only [List.mem_cons, List.not_mem_nil, or_false] at hb ⊢
    rcases hb with rfl | rfl | rfl
    · exact .inl rfl
    · exact .inr (z2 _)
    · exact .inr (z1 _)
  cases its with
  | nil =>
    intro s₃ E Q y hQ
    refine gen_next hA.1 (hB.top _ y.inn).nolimit (by have := hA.2.1; omega) (hg _ y.inn) (y.gen.trans hgs) (go _ y) (fun v s₁ gs' _ hy => ?_) (fun s₁ hp h' hk => ?_)
    · obtain ⟨P', d, _, q, tk, _, _, _, z⟩ := hy
      exact (z s₁ (q.inn.le q.le) tk fun _ _ => rfl).elim
    · obtain ⟨_, P', q, tk, off⟩ := hp
      exact hQ _ P' { s₁ with heap := h' } .finished (own1 s₃) (own2 s₃) (q.genHeap hk) tk off rfl
  | cons d ds =>
    intro s₃ E Q y hQ
    refine gen_next hA.1 (hB.top _ y.inn).nolimit (by have := hA.2.1; omega) (hg _ y.inn) (y.gen.trans hgs) (go _ y) (fun v s₁ gs' hb hy => ?_) (fun s₁ hp h' hk => ?_)
    · obtain ⟨P', d', hd', q, tk, i, off, ex, z⟩ := hy
      have e := drop_rev hd'
      rw [show (d :: ds).length - 1 = ds.length from rfl, show (d :: ds).length - (ds.length + 1) = 0 by simp, show (d :: ds).length - ds.length = 1 by simp] at e
      obtain ⟨e, _⟩ := e
      cases e
      have hsz : g < s₁.gens.size := by
        have h0 : g < s₃.gens.size := by
          have := y.gen.trans hgs
          exact (Array.getElem?_eq_some_iff.mp this).1
        have := q.gens.1 g .running (by show (s₃.gens.setIfInBounds g .running)[g]? = _; rw [Array.getElem?_setIfInBounds_self_of_lt h0])
        exact (Array.getElem?_eq_some_iff.mp this).1
      refine hQ _ P' v s₁ gs' (own1 s₃) (own2 s₃) q tk off ex hb hsz i ?_
      have := grdy_go (W := W) (A := A) (its := d :: ds) (own := [L, s₃.heap.objs.size + 1, s₃.heap.objs.size]) h1 hB (fun _ => True) hg ds.length (s₁.setGen g gs') gs' (by simp) (by
        show (s₁.gens.setIfInBounds g gs')[g]? = _
        rw [Array.getElem?_setIfInBounds_self_of_lt hsz]) fun s₄ i4 t4 e4 => z s₄ i4 t4 e4
      rw [show (d :: ds).length - ds.length = 1 by simp] at this
      exact this
    · obtain ⟨h0, _⟩ := hp
      cases h0
noncomputable abbrev genO (g : Nat) (n1 n2 : Value) : Obj := { cls := .type "generator", data := .fields #[.int g 0, n1, n2] }
theorem genO_is {P : Vw} {a g : Nat} {n1 n2 : Value} (e : P a = some (genO g n1 n2)) : ∀ h : Heap, In P h → h.IsGen a g := fun h hp => ⟨_, n1, n2, hp _ _ e, rfl, rfl, rfl⟩
/-- a generator function is called -/
theorem call_gen {W : Wd} {A : Around} {S P : Vw} {f : Addr} {fd : FuncData} {body : List Stmt} {nm x : Str} {its : List D} {s : Shared} {v : Value} {R : Result → Shared → Prop} (F : FnPre W P f fd body [nm]) (hgen : fd.scope.isGenerator = true) (hc : ∀ L, (callEnvC fd L f).cells = []) (hS : GenSegs W fd body f nm x its) (st : St W 3 A S P s) (i : Is P v (.str x))
    (hQ : ∀ a g own n1 n2 P' s', Gr P s P' s' → 1 ≤ s'.toks → P' a = some (genO g n1 n2) → s.gens.size ≤ g → (∀ b ∈ own, s.heap.get? b = none ∧ P' b = none ∧ ∃ o, s'.heap.get? b = some o) → (∀ A', AOk 3 A' → GRdy W.prog W.w A' a g P' its own s') → R (.ok (.ret (.ref a))) s') :
    codeAny W.M A (.call (.ref f) ⟨[v], []⟩) R s := by
  obtain ⟨o, ho, hd⟩ := F.has
  have T := st.b.top s.heap st.p
  refine codeAny_call_generator (Nat.lt_of_le_of_lt (Nat.le_add_right _ _) st.a.2.1) (st.p _ _ ho) hd F.co hgen F.body (codeRec_of (Bs.frag st.b st.p) F.code) ?_
  rw [F.bind [v] rfl, F.clo]
  refine wpAny_pure (wp_tk st.tk (wpAny_newFunctionEnv_cells F.fn (fun y hy => ?_) fun env he s' y tk => ?_))
  · have hx1 := (List.of_mem_zip (a := y.1) (b := y.2) hy).1
    rcases F.kind y.1 hx1 with h | ⟨h, hc⟩
    · exact .inl h
    · refine .inr ⟨h, ?_⟩
      have := cellsFrom_names fd.scope.names (s.heap.objs.size + 1) []
      rw [List.map_nil, List.append_nil] at this
      obtain ⟨p, hp, hpe⟩ := List.mem_map.mp (this.mem_iff.mpr hc)
      have hcn := this.nodup_iff.mpr F.cnd
      rw [← hpe, lookup_of_mem hcn hp]; rfl
  · subst he
    have X := at_enter (Mx := []) F st (.cons i .nil) rfl ⟨fun p hp => (nomatch hp), List.nodup_nil, fun p hp => (nomatch hp)⟩ tk y
    obtain ⟨h', tk', rfl⟩ := y.toInCall.same
    have kp := y.toInCall.keep
    refine ⟨T.nolimit.keeps kp, ?_⟩
    dsimp only at *
    obtain ⟨m, cv, ad, yy, _⟩ := X.mnew
    obtain ⟨oL, qL⟩ := yy.exist _ List.mem_cons_self
    have hLa : (callEnvC fd s.heap.objs.size f).locals < h'.objs.size := Heap.lt_size qL
    have fa : h'.get? h'.objs.size = none := Heap.get?_none_of_le (Nat.le_refl _)
    have pa : P h'.objs.size = none := none_of_in X.inn fa
    have g1 : Gr P s P { s with heap := h', toks := tk' } := Gr.keep st.p kp
    have fL : s.heap.get? (callEnvC fd s.heap.objs.size f).locals = none := Heap.get?_none_of_le (Nat.le_refl _)
    have offL : addV P h'.objs.size (genO s.gens.size (.str fd.name tk') (.str fd.qualname (tk' + 1))) (callEnvC fd s.heap.objs.size f).locals = none := by
      rw [addV_ne (Nat.ne_of_lt hLa)]
      exact none_of_in st.p fL
    have gP : (s.gens.push (.fresh (.func body (callEnvC fd s.heap.objs.size f))))[s.gens.size]? = some (.fresh (.func body (callEnvC fd s.heap.objs.size f))) := Array.getElem?_push_size
    have hle := addV_le (o := genO s.gens.size (.str fd.name tk') (.str fd.qualname (tk' + 1))) pa
    refine hQ h'.objs.size s.gens.size [(callEnvC fd s.heap.objs.size f).locals] (.str fd.name tk') (.str fd.qualname (tk' + 1)) (addV P h'.objs.size (genO s.gens.size (.str fd.name tk') (.str fd.qualname (tk' + 1)))) _ ?_ (Nat.le_trans tk (Nat.le_add_right _ 2)) addV_at (Nat.le_refl _) (fun b hb => ?_) (fun A' hA' => ?_)
    · refine ⟨hle, addV_in (fun b o e => Heap.get?_push_of_some _ (X.inn b o e)) (Heap.get?_push_size _ rfl), fun b o e => Heap.get?_push_of_some _ (kp b o e), fun b o e => ?_, ⟨fun j z e => ?_, fun h => AllBare.push h rfl⟩, rfl, rfl⟩
      · by_cases hb : b = h'.objs.size
        · subst hb; exact .inr (none_of_old kp fa)
        · rw [addV_ne hb] at e; exact .inl e
      · have := (Array.getElem?_eq_some_iff.mp e).1
        show (s.gens.push _)[j]? = _
        rw [Array.getElem?_push_lt this]
        exact (Array.getElem?_eq_some_iff.mp e).2 ▸ rfl
    · rw [List.mem_singleton.mp hb]
      exact ⟨fL, offL, oL, Heap.get?_push_of_some _ qL⟩
    · exact grdy_first hA' (st.b.up hle) (genO_is addV_at) hS X (hc _) ((Heap.get?_push_of_some _ qL).trans qL.symm) gP offL

/-- iter gives a generator -/
noncomputable def EvG (W : Wd) (env : Env) (Γ : List (Str × D)) (Δ : List (Str × List D)) (iter : Expr) (its : List D) : Prop :=
  ∀ (A : Around) (S P : Vw) (s : Shared) (E Q : Value → Shared → Prop), St W 3 A S P s → Cx S P env Γ Δ →
    (∀ a g own n1 n2 P' s', Gr P s P' s' → 1 ≤ s'.toks → P' a = some (genO g n1 n2) → s.gens.size ≤ g → (∀ b ∈ own, s.heap.get? b = none ∧ P' b = none ∧ ∃ o, s'.heap.get? b = some o) → (∀ A', AOk 3 A' → GRdy W.prog W.w A' a g P' its own s') → Q (.ref a) s') → wpAny W.M A (eval iter env) Q E s
theorem evg_call {W : Wd} {env : Env} {Γ : List (Str × D)} {Δ : List (Str × List D)} {z nm x : Str} {f : Addr} {fd : FuncData} {body : List Stmt} {its : List D} {p pos : Pos} {e : Expr} (n : NmG W env z (.ref f)) (Fk : FnK W.K f) (F : ∀ P, W.B P → FnPre W P f fd body [nm]) (hgen : fd.scope.isGenerator = true) (hc : ∀ L, (callEnvC fd L f).cells = []) (hS : GenSegs W fd body f nm x its)
    (h : Ev W 3 env Γ Δ e (.str x)) (hp : [e].all plainE = true := by rfl) (hpe : plainE e = true := by rfl) (hd : (z == ("__debug__" : Str)) = false := by decide) : EvG W env Γ Δ (.Call (.Name z p) [e] [] pos) its := fun A S P s E Q st hC hQ => by
  refine wpAny_Call_Name_kw (name_gl st.b st.p hC n ?_ hd)
  refine callWith_fn (ds := [.str x]) Fk hp st hC (evs_cons h evs_nil hpe) (fun h => nomatch h) fun vs P₁ s₁ g₁ tk₁ i₁ => ?_
  obtain ⟨v, rfl, iv⟩ := i₁.oneI
  refine wpAny_call (call_gen (F P₁ (st.b.up g₁.le)) hgen hc hS (st.next g₁ tk₁) iv fun a g own n1 n2 P' s' g₂ tk₂ ha hg hown hr => ?_)
  refine hQ a g own n1 n2 P' s' (g₁.trans g₂) tk₂ ha (Nat.le_trans ?_ hg) (fun b hb => ?_) hr
  · refine Nat.le_of_not_lt fun h => ?_
    have := g₁.gens.1 s₁.gens.size s.gens[s₁.gens.size] (by rw [Array.getElem?_eq_getElem h])
    exact absurd (Array.getElem?_eq_some_iff.mp this).1 (Nat.lt_irrefl _)
  · obtain ⟨h1, h2, h3⟩ := hown b hb
    exact ⟨none_of_old g₁.old h1, h2, h3⟩
theorem letOwned_gen {prog : Program} {w : World} {A : Around} {E : Value → Shared → Prop} {s : Shared} {elts : List Expr} {x1 : Nat} {pos : Pos} {a T : Addr} {g : Nat} {n1 n2 : Value} {Q : Unit → Shared → Prop} (h : s.heap.get? a = some (genO g n1 n2)) (hQ : Q () s) : wpAny (model prog w) A (letOwnedTupleGo (.Tuple elts x1 pos) (.ref a) (.ref T)) Q E s := by
  refine wpAny_bind (wpAny_load h ?_)
  change wpAny _ A (if (["enumerate", "zip", "dict_itemiterator", "dict_reverseitemiterator", "odict_iterator", "itertools.zip_longest", "itertools.pairwise"].contains "generator" && _) = true then _ else _) Q E s
  rw [show (["enumerate", "zip", "dict_itemiterator", "dict_reverseitemiterator", "odict_iterator", "itertools.zip_longest", "itertools.pairwise"].contains "generator") = false from by decide, Bool.false_and, if_neg Bool.false_ne_true]
  exact wpAny_pure hQ
section
variable {W : Wd} {k : Nat} {A : Around} {env : Env} {s₀ : Shared} {P₀ H : Vw} {Γ : List (Str × D)} {Δ : List (Str × List D)} {Mx : List (Addr × MO)} {P : Vw} {s : Shared} {E : Value → Shared → Prop} {Q : Flow → Shared → Prop}
theorem GG.set {g0 g1 : Array GenState} {i : Nat} {x : GenState} (h : GG g0 g1) (hi : g0.size ≤ i) (hx : x.bare = true) : GG g0 (g1.setIfInBounds i x) := by
  refine ⟨fun j y e => ?_, fun hb z hz => ?_⟩
  · have hj := (Array.getElem?_eq_some_iff.mp e).1
    rw [Array.getElem?_setIfInBounds_ne (by omega)]
    exact h.1 j y e
  · rcases Array.mem_or_eq_of_mem_setIfInBounds hz with q | rfl
    · exact h.2 hb z q
    · exact hx
theorem GG.size {g0 g1 : Array GenState} (h : GG g0 g1) : g0.size ≤ g1.size := by
  refine Nat.le_of_not_lt fun q => ?_
  have := h.1 g1.size g0[g1.size] (by rw [Array.getElem?_eq_getElem q])
  exact absurd (Array.getElem?_eq_some_iff.mp this).1 (Nat.lt_irrefl _)
theorem s_forG {x y : Str} {px py tp pos : Pos} {kk : Nat} {iter : Expr} {body rest : List Stmt} {its : List D} (X : At W (k + 3) A env s₀ P₀ H Γ Δ Mx P s) (hI : EvG (W.at Mx) env Γ Δ iter its) (hx : Bindable env x) (hy : Bindable env y)
    (J : Nat → List (Str × D) → List (Str × List D) → List (Addr × MO) → Prop) (B : List (Str × D) → List (Str × List D) → List (Addr × MO) → Prop) (hJ : J 0 Γ Δ Mx)
    (hits : ∀ d ∈ its, ∃ d1 d2, d = .tup [d1, d2])
    (turn : ∀ i d1 d2 s₁ H' Γ' Δ' Mx' P' s' (E' : Value → Shared → Prop), its[i]? = some (.tup [d1, d2]) → J i Γ' Δ' Mx' → At W (k + 3) A env s₁ P' H' ((y, d2) :: rm y ((x, d1) :: rm x Γ')) (rm y (rm x Δ')) Mx' P' s' →
      (∀ Γ'' Δ'' Mx'' P'' s'', At W (k + 3) A env s₁ P' H' Γ'' Δ'' Mx'' P'' s'' → At W (k + 3) A env s₀ P₀ H Γ'' Δ'' Mx'' P'' s'') →
      wpAny W.M A (execs body env) (ForQ W (k + 3) A env s₁ P' H' Q B (J (i + 1))) E' s')
    (done : ∀ Γ' Δ' Mx' P' s', J its.length Γ' Δ' Mx' ∨ B Γ' Δ' Mx' → At W (k + 3) A env s₀ P₀ H Γ' Δ' Mx' P' s' → wpAny W.M A (execs rest env) Q E s')
    (hs : ∀ v, foldedSetIterable iter env v = pure v := by intro _; rfl) : wpAny W.M A (execs (.For (.Tuple [.Name x px, .Name y py] kk tp) iter body [] pos :: rest) env) Q E s := by
  refine wpAny_execs_cons (wpAny_For (hI A _ P s E _ { X.st with a := X.a.le (by omega) } X.cx fun a g own n1 n2 P₁ s₁ g₁ tk₁ ha hgs hown hrdy => wpAny_pyIter_gen (genO_is ha _ g₁.inn) ?_) hs)
  have X₁ := X.gr g₁ tk₁
  have hg0 : s₀.gens.size ≤ g := Nat.le_trans X.gens.size hgs
  have hown₁ : ∀ b ∈ own, s₀.heap.get? b = none ∧ H b = none ∧ P₁ b = none ∧ ∃ o, s₁.heap.get? b = some o := fun b hb => by
    obtain ⟨h1, h2, h3⟩ := hown b hb
    exact ⟨(X.none₀ h1).1, (X.none₀ h1).2, h2, h3⟩
  have X₂ : At W (k + 3) A env s₀ P₀ (HX H own s₁.heap) Γ Δ Mx P₁ s₁ := by
    refine At.stepX X₁ (fun _ _ => rfl) ⟨Le.refl _, g₁.inn, fun _ _ _ e => e, fun _ _ e => .inl e, GG.refl _, rfl, rfl⟩ tk₁ ?_ (fun b hb => (hown₁ b hb).1) (fun b hb => (hown₁ b hb).2.2.1) X₁.gens
    obtain ⟨m, cv, ad, yy, _, ho⟩ := X.gr_own g₁
    exact ⟨m, cv, ad, yy, fun b hb => ho b (hown b hb).1⟩
  refine codeAny_forLoop_any (fun j s' => ∃ i Γ' Δ' Mx' P' own, i ≤ its.length ∧ j = its.length + 1 - i ∧ J i Γ' Δ' Mx' ∧ Le P₁ P' ∧ (∀ b ∈ own, s₀.heap.get? b = none ∧ H b = none ∧ P' b = none ∧ ∃ o, s'.heap.get? b = some o) ∧ GRdy W.prog W.w A a g P₁ (its.drop i) own s' ∧ At W (k + 3) A env s₀ P₀ (HX H own s'.heap) Γ' Δ' Mx' P' s') ?_ (its.length + 1)
    ⟨0, Γ, Δ, Mx, P₁, own, Nat.zero_le _, rfl, hJ, Le.refl _, hown₁, hrdy A (X.a.le (by omega)), X₂⟩
  rintro j s' ⟨i, Γ', Δ', Mx', P', own, hi, rfl, hJ', le', hown', hr, X'⟩
  have p1 : In P₁ s'.heap := X'.inn.le le'
  have gsame : GSame P₁ own g s' s' := ⟨p1, X'.tk, fun _ _ => rfl, rfl⟩
  -- what the frame has behind a resume
  have step : ∀ own2 P2 s2 gs2, (∀ b ∈ own, b ∈ own2) → (∀ b ∈ own2, b ∈ own ∨ s'.heap.get? b = none) → GrQ own2 P₁ (s'.setGen g .running) P2 s2 → 1 ≤ s2.toks → (∀ b ∈ own2, P2 b = none) → gs2.bare = true →
      At W (k + 3) A env s₀ P₀ (HX H own2 s2.heap) Γ' Δ' Mx' (uni P' P2) (s2.setGen g gs2) ∧ (∀ b ∈ own2, s₀.heap.get? b = none ∧ H b = none ∧ uni P' P2 b = none) := by
    intro own2 P2 s2 gs2 h1 h2 q tk2 off2 hb2
    have hp' : ∀ b ∈ own2, P' b = none := fun b hb => by
      rcases h2 b hb with z | z
      · exact (hown' b z).2.2.1
      · exact none_of_in X'.inn z
    have hH2 : ∀ b ∈ own2, H b = none := fun b hb => by
      rcases h2 b hb with z | z
      · exact (hown' b z).2.1
      · cases qq : H b with
        | none => rfl
        | some o =>
          exfalso
          have n : b ∉ own := fun z' => by rw [(hown' b z').2.1] at qq; cases qq
          have := X'.hin b o (by rw [HX_out n]; exact qq)
          rw [z] at this; cases this
    have h02 : ∀ b ∈ own2, s₀.heap.get? b = none := fun b hb => by
      rcases h2 b hb with z | z
      · exact (hown' b z).1
      · cases qq : s₀.heap.get? b with
        | none => rfl
        | some o => obtain ⟨o', q'⟩ := X'.ext b o qq; rw [z] at q'; cases q'
    have offU : ∀ b ∈ own2, uni P' P2 b = none := fun b hb => by
      unfold uni; rw [hp' b hb, off2 b hb]; rfl
    have XR : At W (k + 3) A env s₀ P₀ (HX H own s'.heap) Γ' Δ' Mx' P' (s'.setGen g .running) := { X' with gens := X'.gens.set hg0 rfl }
    refine ⟨At.stepX (own := own2) XR (fun b hb => HX_out fun z => hb (h1 b z)) (q.up le' X'.inn hp') tk2 ?_ h02 offU ?_, fun b hb => ⟨h02 b hb, hH2 b hb, offU b hb⟩⟩
    · obtain ⟨m, cv, ad, yy, _⟩ := XR.mnew
      refine ⟨m, cv, ad, yy, fun b hb hm => ?_⟩
      rcases h2 b hb with z | z
      · have := yy.offH b hm
        rw [HX_in z] at this
        obtain ⟨o, e⟩ := (hown' b z).2.2.2
        rw [e] at this; cases this
      · obtain ⟨o, e⟩ := yy.exist b hm
        rw [show (s'.setGen g .running).heap.get? b = s'.heap.get? b from rfl, z] at e; cases e
    · exact GG.set (XR.gens.trans q.gens) hg0 hb2
  by_cases hlt : i < its.length
  · obtain ⟨d, hd⟩ : ∃ d, its[i]? = some d := ⟨its[i], by rw [List.getElem?_eq_getElem]⟩
    obtain ⟨d1, d2, rfl⟩ := hits d (List.mem_of_getElem? hd)
    have hdr : its.drop i = .tup [d1, d2] :: its.drop (i + 1) := by
      obtain ⟨h1, h2⟩ := List.getElem?_eq_some_iff.mp hd
      rw [← h2]; exact List.drop_eq_getElem_cons h1
    rw [hdr] at hr
    refine hr s' _ _ gsame fun own2 P2 v s2 gs2 h1 h2 q tk2 off2 ex2 hb2 hsz iv hr2 => ?_
    obtain ⟨X2, ok2⟩ := step own2 P2 s2 gs2 h1 h2 q tk2 off2 hb2
    have leU : Le P' (uni P' P2) := uni_left
    have iv' : Is (uni P' P2) v (.tup [d1, d2]) := iv.mono (uni_right (X'.inn.le (Le.refl _) |> fun z => (q.up le' X'.inn (fun b hb => by
      have := (ok2 b hb).2.2
      unfold uni at this
      cases qq : P' b with
      | none => rfl
      | some o => rw [qq] at this; cases this)).inn.le leU) q.inn)
    obtain ⟨T, v1, v2, nn, rfl, qT, i1, i2⟩ := tup2 iv'
    refine letOwned_gen (X2.inn _ _ (leU _ _ (le' _ _ ha))) ?_
    refine wpAny_assign_Tuple X2.a.1 ⟨_, X2.inn _ _ qT, rfl, nn, rfl⟩ rfl rfl fun h3 hk3 => ?_
    have X2' : At W (k + 3) A env { s₀ with gens := (s2.setGen g gs2).gens } P₀ (HX H own2 s2.heap) Γ' Δ' Mx' (uni P' P2) (s2.setGen g gs2) := { X2 with gens := GG.refl _ }
    have X3 := X2'.same (ext_keep hk3) X2.tk
    refine assignInOrder_cons (assign_Name (X3.name i1 hx fun s4 X4 => assignInOrder_cons (assign_Name (X4.name i2 hy fun s5 X5 => assignInOrder_nil ?_))))
    -- the generator's state and objects stand as the frame goes on
    have e5 : ∀ b ∈ own2, s5.heap.get? b = s2.heap.get? b := fun b hb => by
      obtain ⟨o, e⟩ := ex2 b hb
      rw [e]; exact X5.hin b o (by rw [HX_in hb]; exact e)
    have toS : ∀ {P0 H0 Γ'' Δ'' Mx'' P'' s''}, At W (k + 3) A env { s₀ with gens := (s2.setGen g gs2).gens } P0 H0 Γ'' Δ'' Mx'' P'' s'' → At W (k + 3) A env s₀ P0 H0 Γ'' Δ'' Mx'' P'' s'' := fun Y => { Y with gens := X2.gens.trans Y.gens }
    have hless : Le H (HX H own2 s2.heap) := fun b o e => by
      have n : b ∉ own2 := fun z => by rw [(ok2 b z).2.1] at e; cases e
      rw [HX_out n]; exact e
    have hgen : (s2.setGen g gs2).gens[g]? = some gs2 := Array.getElem?_setIfInBounds_self_of_lt hsz
    have go : ∀ Γ'' Δ'' Mx'' P'' s4, J (i + 1) Γ'' Δ'' Mx'' → At W (k + 3) A env { s₀ with gens := (s2.setGen g gs2).gens } (uni P' P2) (HX H own2 s2.heap) Γ'' Δ'' Mx'' P'' s4 → ∃ m, m < its.length + 1 - i ∧ ∃ i Γ' Δ' Mx' P' own, i ≤ its.length ∧ m = its.length + 1 - i ∧ J i Γ' Δ' Mx' ∧ Le P₁ P' ∧ (∀ b ∈ own, s₀.heap.get? b = none ∧ H b = none ∧ P' b = none ∧ ∃ o, s4.heap.get? b = some o) ∧ GRdy W.prog W.w A a g P₁ (its.drop i) own s4 ∧ At W (k + 3) A env s₀ P₀ (HX H own s4.heap) Γ' Δ' Mx' P' s4 := by
      intro Γ'' Δ'' Mx'' P'' s4 hJ4 Y
      have e4 : ∀ b ∈ own2, s4.heap.get? b = s2.heap.get? b := fun b hb => by
        obtain ⟨o, e⟩ := ex2 b hb
        rw [e]; exact Y.hin b o (by rw [HX_in hb]; exact e)
      have eH : HX H own2 s2.heap = HX H own2 s4.heap := by
        funext b
        by_cases hb : b ∈ own2
        · rw [HX_in hb, HX_in hb, e4 b hb]
        · rw [HX_out hb, HX_out hb]
      refine ⟨its.length + 1 - (i + 1), ar_step hlt, i + 1, Γ'', Δ'', Mx'', P'', own2, hlt, rfl, hJ4, le'.trans (leU.trans Y.le), fun b hb => ⟨(ok2 b hb).1, (ok2 b hb).2.1, ?_, ?_⟩, ?_, ?_⟩
      · cases qq : P'' b with
        | none => rfl
        | some o =>
          rcases Y.newH b o qq with z | z
          · rw [(ok2 b hb).2.2] at z; cases z
          · obtain ⟨o', e⟩ := ex2 b hb
            rw [HX_in hb, e] at z; cases z
      · obtain ⟨o, e⟩ := ex2 b hb
        exact ⟨o, (e4 b hb).trans e⟩
      · exact hr2.move (fun b hb => e4 b hb) ((Y.gens.1 g gs2 hgen).trans hgen.symm)
      · rw [← eH]; exact (toS X5).back (toS Y)
    refine wpAny_mono (turn i d1 d2 _ _ Γ' Δ' Mx' _ s5 _ hd hJ' X5.rebase fun Γ'' Δ'' Mx'' P'' s'' Y => ((toS X5).back (toS Y)).lessH hless) (fun f s4 z => ?_) fun _ _ z => z
    cases f with
    | next => obtain ⟨Γ'', Δ'', Mx'', P'', hJ4, Y⟩ := z; exact go _ _ _ _ _ hJ4 Y
    | cont => obtain ⟨Γ'', Δ'', Mx'', P'', hJ4, Y⟩ := z; exact go _ _ _ _ _ hJ4 Y
    | brk => obtain ⟨Γ'', Δ'', Mx'', P'', hB, Y⟩ := z; exact done Γ'' Δ'' Mx'' P'' s4 (.inr hB) (((toS X5).back (toS Y)).lessH hless)
    | ret v => exact z
  · obtain rfl : i = its.length := Nat.le_antisymm hi (Nat.not_lt.mp hlt)
    rw [List.drop_length] at hr
    refine hr s' _ _ gsame fun own2 P2 s2 gs2 h1 h2 q tk2 off2 hb2 => ?_
    obtain ⟨X2, ok2⟩ := step own2 P2 s2 gs2 h1 h2 q tk2 off2 hb2
    refine wpAny_execs_nil (done Γ' Δ' Mx' _ _ (.inl hJ') (X2.lessH fun b o e => ?_))
    have n : b ∉ own2 := fun z => by rw [(ok2 b z).2.1] at e; cases e
    rw [HX_out n]; exact e
end
theorem At.vsub {W : Wd} {k : Nat} {A : Around} {env : Env} {s₀ : Shared} {P₀ H : Vw} {Γ Γ' : List (Str × D)} {Δ : List (Str × List D)} {Mx : List (Addr × MO)} {P : Vw} {s : Shared} (X : At W k A env s₀ P₀ H Γ Δ Mx P s) (h : ∀ p ∈ Γ', p ∈ Γ) : At W k A env s₀ P₀ H Γ' Δ Mx P s := by
  obtain ⟨m, cv, ad, y, hn⟩ := X.mnew
  exact { X with mnew := ⟨m, cv, ad, { y with vars := fun p hp => y.vars p (h p hp) }, hn⟩ }
theorem At.leaveH {W : Wd} {k : Nat} {A : Around} {env : Env} {s₃ : Shared} {P₀ H : Vw} {Γ : List (Str × D)} {Δ : List (Str × List D)} {Mx : List (Addr × MO)} {P : Vw} {s : Shared} {X' : List Addr} (X : At W k A env s₃ P₀ H Γ Δ Mx P s) (hH : H = offX X' s₃.heap) : GrM X' P₀ s₃ P s := by
  subst hH
  exact ⟨X.le, X.inn, fun b o n e => X.hin b o (offX_old n e), X.ext, X.new, X.gens, X.drawn, X.os⟩
theorem At.around {W : Wd} {k k' : Nat} {A A' : Around} {env : Env} {s₀ : Shared} {P₀ H : Vw} {Γ : List (Str × D)} {Δ : List (Str × List D)} {Mx : List (Addr × MO)} {P : Vw} {s : Shared} (X : At W k A env s₀ P₀ H Γ Δ Mx P s) (a : AOk k' A') : At W k' A' env s₀ P₀ H Γ Δ Mx P s := { X with a := a }
end
section
/-! attributes of a function -/
theorem slot_fn_ga : Slot "function" "__getattribute__" "object.__getattribute__" :=
  .of (owner := "object") (n := "__getattribute__") (by rw [typeLookup_type, builtinLookup_eq_fast]; kernel_rfl) (by decide +kernel) (by decide +kernel) (by decide +kernel)
    (by first | exact .inl (by decide +kernel) | exact .inr (by decide +kernel)) (by rw [isSubtype_type]; kernel_rfl)
theorem slot_fn_sa : Slot "function" "__setattr__" "object.__setattr__" :=
  .of (owner := "object") (n := "__setattr__") (by rw [typeLookup_type, builtinLookup_eq_fast]; kernel_rfl) (by decide +kernel) (by decide +kernel) (by decide +kernel)
    (by first | exact .inl (by decide +kernel) | exact .inr (by decide +kernel)) (by rw [isSubtype_type]; kernel_rfl)
theorem look_fn_read : typeLookup (.type "function") "read" = pure none := by rw [typeLookup_type, builtinLookup_eq_fast]; kernel_rfl
theorem look_fn_getattr : typeLookup (.type "function") "__getattr__" = pure none := by rw [typeLookup_type, builtinLookup_eq_fast]; kernel_rfl
noncomputable abbrev fnObj (dd : Addr) (fd : FuncData) : Obj := { cls := .type "function", dict := some dd, data := .func fd }
noncomputable abbrev fnObj0 (fd : FuncData) : Obj := { cls := .type "function", data := .func fd }
section
variable {prog : Program} {w : World} {A : Around} {E : Value → Shared → Prop} {s : Shared}
open Builtin Builtin.ObjectAttr
theorem look_dict {M : Model} {h : Heap} {dd : Addr} {es : List DictEntry} {n : Nat} {r : Option Value} {name : Str} (h2 : h.get? dd = some (dictOf es n)) (hv : getL name es = some r) : Looks M h (nsGet dd name) r := by
  refine looks_nsIn (K := [(dd, dictOf es n)]) (fun b o e => ?_) ?_
  · rw [List.lookup_cons] at e
    split at e
    · rename_i q; cases e; rw [beq_iff_eq.mp q]; exact h2
    · cases e
  · unfold nsIn
    rw [List.lookup_cons, beq_self_eq_true]
    exact hv
theorem find_fn {M : Model} {h : Heap} {st dd : Addr} {fd : FuncData} {es : List DictEntry} {n : Nat} {v : Value} (h1 : h.get? st = some (fnObj dd fd)) (h2 : h.get? dd = some (dictOf es n)) (hv : getL "read" es = some (some v)) : Looks M h (find (.ref st) (.type "function") "read") (.value v) := by
  have l1 := look_dict (M := M) h2 hv
  intro A Q E s k q
  have h1' := k _ _ h1
  refine wpAny_bind ?_
  rw [look_fn_read]
  refine wpAny_pure (wpAny_bind (wpAny_pure (wpAny_bind (wpAny_pure ?_))))
  refine wpAny_bind (m := inOwnDict "read" (.ref st)) (wpAny_bind (m := ownDict st) (wpAny_bind (m := loadHead st) (wpAny_load h1' ?_)))
  refine wpAny_bind (m := loadPart st _) (wpAny_loadPart h1' ?_)
  exact wpAny_pure (l1 A _ E s k (wpAny_bind (wpAny_rule (wpAny_pure q))))
theorem fn_getAttr {st dd : Addr} {fd : FuncData} {es : List DictEntry} {n : Nat} {v : Value} {Q : Value → Shared → Prop} (h1 : s.heap.get? st = some (fnObj dd fd)) (h2 : s.heap.get? dd = some (dictOf es n)) (hv : getL "read" es = some (some v)) (hh : handedIn v = true)
    (h : Q v { s with toks := s.toks + 1 }) : wpAny (model prog w) A (getAttr (.ref st) "read") Q E s := by
  have hT : ∀ tk', (⟨s.heap, s.gens, s.drawn, tk', s.os⟩ : Shared).TypeIs (.ref st) "function" := fun _ => ⟨_, h1, rfl⟩
  unfold getAttr
  refine wpAny_bind (wpAny_mkText ?_)
  unfold getAttrBy
  refine wpAny_holding (wpAny_bind (wpAny_typeOf (hT _) (wpAny_bind ?_)))
  rw [slot_fn_ga.lookup]
  refine wpAny_pure ?_
  show wpAny _ _ (getAttrByItsOwn _ _ _ _ _ _) _ _ _
  unfold getAttrByItsOwn
  refine wpAny_bind (wpAny_pure (wpAny_bind (wpAny_attempt (wpAny_holding ?_))))
  show wpAny _ _ (boundAndCalled _ _ _) _ _ _
  unfold boundAndCalled
  refine wpAny_bind ?_
  rw [slot_fn_ga.bind]
  refine wpAny_pure ?_
  refine wpAny_call_entry slot_fn_ga (hT _) PySem.F.entry_object_getattribute ?_ (by unfold argsOk; kernel_rfl)
  unfold Builtin.«object.__getattribute__»
  refine wpAny_bind (wpAny_of_eq (a := ((.ref st : Value), [Value.str "read" s.toks])) (by rfl) ?_)
  refine wpAny_bind (wpAny_of_eq (a := Str.ofString "read") (by rfl) ?_)
  refine wpAny_bind (wpAny_typeOf (hT _) (wpAny_bind ((find_fn h1 h2 hv).at ?_)))
  refine wpAny_pure ⟨v, rfl, ?_⟩
  show wpAny _ _ (handedOut v) _ _ _
  rw [handedOut_of hh]
  exact wpAny_pure h
theorem fn_getMethod {st dd : Addr} {fd : FuncData} {es : List DictEntry} {n : Nat} {v : Value} {pl : Sem Bool} {Q : Value × List Value → Shared → Prop} (h1 : s.heap.get? st = some (fnObj dd fd)) (h2 : s.heap.get? dd = some (dictOf es n)) (hv : getL "read" es = some (some v)) (hh : handedIn v = true)
    (h : Q (v, []) { s with toks := s.toks + 1 }) : wpAny (model prog w) A (getMethod (.ref st) "read" pl) Q E s := by
  have hT : s.TypeIs (.ref st) "function" := ⟨_, h1, rfl⟩
  unfold getMethod
  refine wpAny_bind (wpAny_specialOf hT slot_fn_ga.lookup ?_)
  show wpAny _ _ (if _ then _ else _) _ _ _
  rw [if_neg (by decide +kernel)]
  refine wpAny_bind (wpAny_specialOf hT look_fn_getattr ?_)
  show wpAny _ _ (specialOf _ _ >>= _) _ _ _
  refine wpAny_bind (wpAny_specialOf hT look_fn_read ?_)
  exact wpAny_bind (fn_getAttr h1 h2 hv hh (wpAny_pure h))
theorem thd_fn : typeHasDict (.type "function") = true := by decide +kernel
theorem mro_fn : mroOf (.type "function") = pure [.type "function", .type "object"] := by
  kernel_rfl
theorem refuse_fn (self : Value) : refuseLoop self "__setattr__" [.type "function", .type "object"] = pure () := by kernel_rfl
theorem fn_setAttr {st : Addr} {fd : FuncData} {v : Value} {Q : Unit → Shared → Prop} (h1 : s.heap.get? st = some (fnObj0 fd))
    (h : ∀ hs t h' n, (∀ b o, b ≠ st → s.heap.get? b = some o → h'.get? b = some o) → s.heap.get? s.heap.objs.size = none → h'.get? st = some (fnObj s.heap.objs.size fd) → h'.get? s.heap.objs.size = some (dictOf [⟨hs, .str "read" t, v⟩] n) → Q () { s with heap := h', toks := s.toks + 2 }) :
    wpAny (model prog w) A (setAttr (.ref st) "read" v) Q E s := by
  have hT : ∀ tk', (⟨s.heap, s.gens, s.drawn, tk', s.os⟩ : Shared).TypeIs (.ref st) "function" := fun _ => ⟨_, h1, rfl⟩
  unfold setAttr
  refine wpAny_bind (wpAny_mkText (wpAny_bind (wpAny_callSpecial?_slot (name := Str.ofString "__setattr__") (hT _) slot_fn_sa (wpAny_call_entry slot_fn_sa (hT _) PySem.F.entry_object_setattr ?_ (by unfold argsOk; kernel_rfl)))))
  rw [osa_eq, refuse_eq]
  refine wpAny_bind (wpAny_bind (wpAny_typeOf (hT _) (wpAny_bind ?_)))
  rw [mro_fn]
  refine wpAny_pure ?_
  rw [refuse_fn]
  refine wpAny_pure ?_
  refine wpAny_bind (wpAny_typeOf (hT _) (wpAny_bind ?_))
  rw [look_fn_read]
  refine wpAny_pure (wpAny_bind (wpAny_pure ?_))
  show wpAny _ _ (storeInOwnDict _ _ _ _ _ _) _ _ _
  unfold storeInOwnDict
  refine wpAny_bind (wpAny_of_eq (a := ()) (by rfl) ?_)
  rw [if_neg (by decide +kernel)]
  refine wpAny_bind (m := ownDictForStores (.ref st)) (wpAny_bind (m := loadPart st _) (wpAny_loadPart h1 ?_))
  show wpAny _ _ (if (!true || !typeHasDict (.type "function")) = true then _ else _) _ _ _
  rw [thd_fn, if_neg (by decide)]
  refine wpAny_bind (wpAny_alloc ?_)
  have hne : st ≠ s.heap.objs.size := Nat.ne_of_lt (Heap.lt_size h1)
  have q1 : (s.heap.push { cls := .type "dict", data := .dict #[] }).get? st = some (fnObj0 fd) := Heap.get?_push_of_some _ h1
  refine wpAny_bind (wpAny_update q1 ?_)
  generalize hH : (s.heap.push { cls := .type "dict", data := .dict #[] }).update st (fun o => { o with dict := some s.heap.objs.size }) = H
  have q2 : H.get? st = some (fnObj s.heap.objs.size fd) := hH ▸ Heap.get?_update_self _ q1 rfl
  have sb : Heap.SameBut st (s.heap.push { cls := .type "dict", data := .dict #[] }) H := hH ▸ Heap.SameBut.update ..
  have q3 : H.get? s.heap.objs.size = some (dictOf [] 0) := (sb.2 _ (Ne.symm hne)).trans (Heap.get?_push_size _ rfl)
  refine wpAny_of_eq (a := some s.heap.objs.size) (by kernel_rfl) ?_
  show wpAny _ _ (storeInDict _ _ _ _) _ _ _
  refine wpAny_bind (wpAny_of_eq (a := ()) (by rfl) (wpAny_bind ?_))
  unfold nsSet
  refine wpAny_bind (wpAny_bind (wpAny_askSetting (wpAny_pure (wpAny_bind (wpAny_mkText (wpAny_bind (wpAny_loadPart q3 ?_)))))))
  dsimp only
  rw [aRefKeyMayBeTheName_at, show ((!(([] : List DictEntry).toArray.any (·.key.isStr "read"))) && ([] : List DictEntry).toArray.any (·.refKey)) = false from by simp]
  refine wpAny_updatePart q3 ?_
  have D' : ∀ (hs : Int) (t : Tok), (H.update s.heap.objs.size (Obj.putName "read" hs (.str "read" t) v)).get? s.heap.objs.size = some (dictOf (putL "read" hs (.str "read" t) v []) (putN "read" [] 0)) := fun hs t => by
    have := Heap.get?_update_self (Obj.putName "read" hs (.str "read" t) v) q3 (by rw [putName_dict]; rfl)
    rw [this, putName_dict]
  refine wpAny_bind (wpAny_lookBehind (D' _ _) (by rw [pastItsLine_dict]; rw [List.size_toArray, sizeLine_eq]; exact Nat.le_trans (putL_len []) (by decide)) ?_)
  refine wpAny_pure ⟨_, rfl, ?_⟩
  refine wpAny_pure (h _ _ _ _ (fun b o n e => ?_) (Heap.get?_none_of_le (Nat.le_refl _)) ?_ (D' _ _))
  · exact (Heap.SameBut.update ..).extBut b o (fun z => by rw [z, Heap.get?_none_of_le (Nat.le_refl _)] at e; cases e) (sb.extBut b o n (Heap.get?_push_of_some _ e))
  · exact (Heap.SameBut.update ..).extBut _ _ hne q2
end
end
section
set_option maxHeartbeats 4000000
/-! owned objects, apart -/
theorem Dv.app {P : Vw} {s : Shared} {Mx R : List (Addr × MO)} (h : Dv P s (Mx ++ R)) : Dv P s Mx ∧ Dv P s R ∧ ∀ p ∈ R, p.1 ∉ ads Mx := by
  have nd : (ads Mx ++ ads R).Nodup := by have := h.nd; unfold ads at this ⊢; rwa [List.map_append] at this
  have n2 := List.nodup_append.mp nd
  exact ⟨⟨fun p hp => h.has p (List.mem_append_left _ hp), n2.1, fun p hp => h.off p (List.mem_append_left _ hp)⟩, ⟨fun p hp => h.has p (List.mem_append_right _ hp), n2.2.1, fun p hp => h.off p (List.mem_append_right _ hp)⟩,
    fun p hp hm => n2.2.2 _ hm _ (List.mem_map_of_mem hp) rfl⟩
theorem Dv.frame {P P' : Vw} {s s' : Shared} {Mx Mx' R : List (Addr × MO)} (h : Dv P s (Mx ++ R)) (g : GrM (ads Mx) P s P' s') (h' : Dv P' s' Mx') (ha : ads Mx' = ads Mx) : Dv P' s' (Mx' ++ R) := by
  obtain ⟨h1, h2, h3⟩ := h.app
  refine ⟨fun p hp => ?_, ?_, fun p hp => ?_⟩
  · rcases List.mem_append.mp hp with hp | hp
    · exact h'.has p hp
    · obtain ⟨o, q, i⟩ := h2.has p hp
      exact ⟨o, g.old _ _ (h3 p hp) q, i.mono g.le⟩
  · have e : ads (Mx' ++ R) = ads (Mx ++ R) := by unfold ads at ha ⊢; rw [List.map_append, List.map_append, ha]
    rw [e]; exact h.nd
  · rcases List.mem_append.mp hp with hp | hp
    · exact h'.off p hp
    · obtain ⟨o, q, i⟩ := h2.has p hp
      cases e : P' p.1 with
      | none => rfl
      | some o' =>
        rcases g.new _ _ e with z | z
        · rw [h2.off p hp] at z; cases z
        · rw [q] at z; cases z
theorem Dv.perm {P : Vw} {s : Shared} {Mx N : List (Addr × MO)} (h : Dv P s Mx) (e : N.Perm Mx) : Dv P s N :=
  ⟨fun p hp => h.has p (e.subset hp), (e.map _).nodup_iff.mpr h.nd, fun p hp => h.off p (e.subset hp)⟩
theorem KlM.frame {W : Wd} {k : Nat} {f : Value} {ds : List D} {d : D} {Mx Mx' : List (Addr × MO)} (h : KlM W k f ds d Mx Mx') (ha : ads Mx' = ads Mx) (R : List (Addr × MO)) : KlM W k f ds d (Mx ++ R) (Mx' ++ R) := fun A S P s E vs st i dv hQ =>
  h A S P s E vs st i dv.app.1 fun v P' s' g tk dv' i' => hQ v P' s' (g.wide fun b hb => by unfold ads at hb ⊢; rw [List.map_append]; exact List.mem_append_left _ hb) tk (dv.frame g dv' ha) i'
/-- a new object is owned -/
theorem At.own {W : Wd} {k : Nat} {A : Around} {env : Env} {s₀ : Shared} {P₀ H : Vw} {Γ : List (Str × D)} {Δ : List (Str × List D)} {Mx : List (Addr × MO)} {P : Vw} {s : Shared} {h' : Heap} {a : Addr} {ob : Obj} {mo : MO} {tk' : Nat} (X : At W k A env s₀ P₀ H Γ Δ Mx P s) (hk : ∀ b o, s.heap.get? b = some o → h'.get? b = some o) (tk : 1 ≤ tk')
    (ha : h'.get? a = some ob) (fa : s.heap.get? a = none) (hi : MIs P ob mo) : At W k A env s₀ P₀ H Γ Δ ((a, mo) :: Mx) P { s with heap := h', toks := tk' } := by
  have X' := X.same hk tk
  have pa : P a = none := none_of_in X.inn fa
  have qa : H a = none := none_of_in X.hin fa
  obtain ⟨m, cv, ad, y, hn⟩ := X.mnew
  have off : a ∉ ownOf env Δ ad Mx := fun hm => by
    obtain ⟨o, q⟩ := y.exist a hm
    rw [fa] at q; cases q
  have own : (ownOf env Δ ad ((a, mo) :: Mx)).Perm (a :: ownOf env Δ ad Mx) := by
    show (env.locals :: (env.cells.map (·.2) ++ (Δ.map (fun p => ad p.1) ++ (a :: Mx.map (·.1))))).Perm _
    refine List.Perm.trans (List.Perm.cons _ ?_) (List.Perm.swap _ _ _)
    rw [← List.append_assoc]
    refine List.Perm.trans List.perm_middle ?_
    rw [List.append_assoc]
  refine { X' with mnew := ⟨m, cv, ad, ⟨y.ns.keeps hk, fun p hp => ?_, y.vars, fun p hp => ?_, fun p hp => ?_, own.nodup_iff.mpr (List.nodup_cons.mpr ⟨off, y.nd⟩), y.cnd, fun b hb => ?_, fun b hb => ?_⟩, hn⟩ }
  · obtain ⟨o, q, d⟩ := y.cells p hp; exact ⟨o, hk _ _ q, d⟩
  · obtain ⟨vs, n, e, q, i⟩ := y.muts p hp; exact ⟨vs, n, e, hk _ _ q, i⟩
  · rcases List.mem_cons.mp hp with rfl | hp
    · exact ⟨_, ha, hi⟩
    · obtain ⟨o, q, i⟩ := y.raw p hp; exact ⟨o, hk _ _ q, i⟩
  · rcases List.mem_cons.mp (own.subset hb) with rfl | hb
    · exact pa
    · exact y.offP b hb
  · rcases List.mem_cons.mp (own.subset hb) with rfl | hb
    · exact qa
    · exact y.offH b hb
/-! the stream -/
noncomputable def sl1 (text : Str) (n : Nat) : Str := Txt.slice text (some (n : Int)) (some ((n : Int) + 1))
noncomputable def RdOk (W : Wd) (rd al : Addr) (text : Str) (l : List (Addr × Obj)) : Prop := ∀ (k n : Nat) (A : Around) (S P : Vw) (s : Shared) (R : Result → Shared → Prop) (v : Value), St W (k + 1) A S P s → (∀ p ∈ l, P p.1 = some p.2) → Is P v (.int 1) → Dv P s [(al, .list [.int n])] →
  (∀ v P' s', GrM [al] P s P' s' → 1 ≤ s'.toks → Dv P' s' [(al, .list [.int (n + 1 : Nat)])] → Is P' v (.str (sl1 text n)) → R (.ok (.ret v)) s') → codeAny W.M A (.call (.ref rd) ⟨[v], []⟩) R s
structure StreamOk (W : Wd) (st al : Addr) (text : Str) (l : List (Addr × Obj)) : Prop where
  has : ∃ dd fd0 hs tk n rd o fd, (st, fnObj dd fd0) ∈ l ∧ (dd, dictOf [⟨hs, .str "read" tk, .ref rd⟩] n) ∈ l ∧ (rd, o) ∈ l ∧ o.data = .func fd ∧ RdOk W rd al text l
noncomputable abbrev rdBody (p1 p2 p3 p4 p5 p6 p7 p8 p9 q1 q2 q3 q4 q5 q6 q7 q8 q9 q10 q11 q12 : Pos) (k1 k2 k3 k4 : Nat) : List Stmt :=
  [.Assign [.Subscript (.Name "at" p1) (.Constant (.int 0) k1 p2) p3] (.BinOp (.Subscript (.Name "at" p4) (.Constant (.int 0) k2 p5) p6) .Add (.Name "size" p7) p8) p9,
   .Return (some (.Subscript (.Name "text" q1) (.Slice (some (.BinOp (.Subscript (.Name "at" q2) (.Constant (.int 0) k3 q3) q4) .Sub (.Name "size" q5) q6)) (some (.Subscript (.Name "at" q7) (.Constant (.int 0) k4 q8) q9)) none q10) q11)) q12]
noncomputable abbrev rdEnv (fd : FuncData) (L rd : Addr) : Env := newEnv fd.scope L fd.globals fd.closure (fd.qualname ++ ".<locals>.") (some rd) fd.code none fd.builtins
theorem list1_set {P : Vw} {vs : List Value} {a : Int} {v : Value} {d : D} (h : IsAll P vs [.int a]) (i : Is P v d) : IsAll P (vs.set 0 v) [d] := by
  obtain ⟨_, rfl, _⟩ := h.oneI; exact .cons i .nil
theorem rd_ok {W : Wd} {rd al c1 c2 cc : Addr} {text : Str} {tt : Tok} {l : List (Addr × Obj)} {o oc1 oc2 occ : Obj} {fd : FuncData} {p1 p2 p3 p4 p5 p6 p7 p8 p9 q1 q2 q3 q4 q5 q6 q7 q8 q9 q10 q11 q12 : Pos} {k1 k2 k3 k4 : Nat} {vs : Array Value} {tq : Tok} (hsz : text.length ≤ sizeLine) (hraw : W.raws = [])
    (m1 : (rd, o) ∈ l) (hd : o.data = .func fd) (m2 : (c1, oc1) ∈ l) (d1 : oc1.data = .cell (some (.ref al))) (m3 : (c2, oc2) ∈ l) (d2 : oc2.data = .cell (some (.str text tt))) (m4 : (cc, occ) ∈ l) (d4 : occ.data = .fields vs) (d5 : vs[1]? = some (.str fd.qualname tq)) (d6 : fd.code = .ref cc)
    (hb : fd.body = .stmts (rdBody p1 p2 p3 p4 p5 p6 p7 p8 p9 q1 q2 q3 q4 q5 q6 q7 q8 q9 q10 q11 q12 k1 k2 k3 k4)) (hsc : fd.scope = { kind := .function, names := [("size", .local), ("at", .free), ("text", .free)], isGenerator := false, isCoroutine := false }) (hcl1 : fd.closure.lookup ("at" : Str) = some c1) (hcl2 : fd.closure.lookup ("text" : Str) = some c2)
    (hg : fd.globals = mainGlobals) (hbi : fd.builtins = builtinsNs) (hbind : ∀ v, bindArgs fd ⟨[v], []⟩ = pure [(("size" : Str), v)])
    (hs9 : ∀ env, swapsWith (.BinOp (.Subscript (.Name "at" p4) (.Constant (.int 0) k2 p5) p6) .Add (.Name "size" p7) p8) (some (.Subscript (.Name "at" p1) (.Constant (.int 0) k1 p2) p3)) p9.line env = pure false := by intro _; rfl) : RdOk W rd al text l := by
  intro k n A S P s R v st hl iv dv hR
  have T := st.b.top s.heap st.p
  have hk1 : fd.scope.kind = .function := by rw [hsc]
  refine codeAny_call_function (Nat.lt_of_le_of_lt (Nat.le_add_right _ _) st.a.2.1) (st.p _ _ (hl _ m1)) hd (by rw [hsc]) (by rw [hsc]) hb ⟨cc, occ, vs, tq, d6, st.p _ _ (hl _ m4), d4, d5⟩ ?_
  rw [hbind]
  refine wpAny_pure (wpAny_newFunctionEnv (by rw [hsc]; decide) (by rw [hsc]; intro y hy; rw [List.mem_singleton.mp hy]; rfl) (fun h' hns hsb => ⟨T.nolimit.fresh _ hsb, ?_⟩) hk1)
  have kp : ∀ b o, s.heap.get? b = some o → h'.get? b = some o := fun b o e => hsb.extBut b o (Nat.ne_of_lt (Heap.lt_size e)) (Heap.get?_push_of_some _ e)
  refine codeAny_func ?_
  rw [show ([(("size" : Str), v)] : List (Str × Value)).length = 1 from rfl]
  have g0 : Gr P s P { s with heap := h', toks := s.toks + 1 } := Gr.keep st.p kp
  have e1 : rdEnv fd s.heap.objs.size rd = newEnv fd.scope s.heap.objs.size fd.globals fd.closure (fd.qualname ++ ".<locals>.") (some rd) fd.code none fd.builtins := rfl
  rw [← e1]
  generalize he : rdEnv fd s.heap.objs.size rd = env
  have st1 : St W k (A.deeper env) (fun b => h'.get? b) P { s with heap := h', toks := s.toks + 1 } := ⟨st.a.deeper, st.b, fun _ _ e => e, g0.inn, Nat.le_add_left _ _, fun p hp => (st.rw p hp).imp fun o hh => ⟨kp _ _ (st.sv _ _ hh.1), hh.2⟩⟩
  obtain ⟨ol, hol, nsl⟩ := LCg.ns_obj hns
  have kz : env.kindOf "size" = some .local := by rw [← he]; show fd.scope.names.lookup _ = _; rw [hsc]; rfl
  have ka : env.kindOf "at" = some .free := by rw [← he]; show fd.scope.names.lookup _ = _; rw [hsc]; rfl
  have kt : env.kindOf "text" = some .free := by rw [← he]; show fd.scope.names.lookup _ = _; rw [hsc]; rfl
  have ca : env.cells.lookup ("at" : Str) = some c1 := by rw [← he]; exact hcl1
  have ct : env.cells.lookup ("text" : Str) = some c2 := by rw [← he]; exact hcl2
  have hL : env.locals = s.heap.objs.size := by rw [← he]; rfl
  obtain ⟨oa, qa, ia⟩ := dv.has _ List.mem_cons_self
  obtain ⟨va, na, rfl, iva⟩ := ia.listI
  have cx : ∀ (h2 : Heap) (va' : List Value) (na' : Nat) (j : Int), (∀ b o, b ≠ al → h'.get? b = some o → h2.get? b = some o) → h2.get? al = some (listOf va'.toArray na') → ∀ P2 : Vw, Le P P2 → IsAll P2 va' [.int j] → Cx (fun b => h2.get? b) P2 env [("size", .int 1), ("text", .str text)] [("at", [.int j])] := by
    intro h2 va' na' j hk2 hal P2 le2 iall
    have nal : ∀ b, P b ≠ none → b ≠ al := fun b hb z => hb (z ▸ dv.off _ List.mem_cons_self)
    have kP : ∀ b o, P b = some o → h2.get? b = some o := fun b o e => hk2 b o (nal b (by rw [e]; exact nofun)) (g0.inn _ _ e)
    refine ⟨by rw [← he]; exact hk1, by rw [← he]; exact hg, by rw [← he]; exact hbi, fun p hp => ?_, fun p hp => ?_⟩
    · simp only [List.mem_cons, List.not_mem_nil, or_false] at hp
      rcases hp with rfl | rfl
      · refine ⟨v, .loc kz (hk2 _ _ ?_ (hL ▸ hol)) nsl (by simp [List.lookup_cons]), iv.mono le2⟩
        rw [hL]
        intro z
        rw [← z, Heap.get?_none_of_le (Nat.le_refl _)] at qa
        cases qa
      · exact ⟨.str text tt, .cel (.inr kt) ct (kP _ _ (hl _ m3)) d2, .str _ _⟩
    · rw [List.mem_singleton.mp hp]
      exact ⟨al, va', na', .cel (.inr ka) ca (kP _ _ (hl _ m2)) d1, hal, iall⟩
  have cx1 := cx h' va na n (fun _ _ _ e => e) (kp _ _ qa) P (Le.refl _) iva
  refine wpAny_execs_cons (wpAny_Assign_Subscript ((ev_bin (ev_item_list nm ev_int (by rfl)) nv op_add_int) (A.deeper env) (fun b => h'.get? b) P _ _ _ st1 cx1 fun u P1 s1 g1 tk1 i1 => ?_) (hs9 _))
  have st2 := st1.next g1 tk1
  have qa1 : s1.heap.get? al = some (listOf va.toArray na) := g1.old _ _ (kp _ _ qa)
  refine name_read (by rw [← he]; exact hk1) st2.sv (NameOk.cel (.inr ka) ca (g0.inn _ _ (hl _ m2)) d1) ?_ (by decide) (by decide)
  refine wpAny_Constant_int ?_
  have hlen : va.toArray.size = 1 := by rw [List.size_toArray, iva.length]; rfl
  refine PySem.W.ki_setAt (s := { s1 with toks := s1.toks + 1 }) qa1 (by decide) (by decide) (by rw [hlen]; decide) ?_
  have ho' := Heap.get?_update_self (Obj.mapSeq (·.setIfInBounds (0 : Int).toNat u)) qa1 (by simp [PySem.W.listOf, Obj.mapSeq, Obj.isFreed])
  generalize hh2 : s1.heap.update al (Obj.mapSeq (·.setIfInBounds (0 : Int).toNat u)) = h2 at ho'
  have sb2 : ∀ b o, b ≠ al → s1.heap.get? b = some o → h2.get? b = some o := fun b o nb e => hh2 ▸ (Heap.SameBut.update ..).extBut b o nb e
  have ho2 : h2.get? al = some (listOf (va.set 0 u).toArray na) := ho'.trans (by simp [PySem.W.listOf, Obj.mapSeq])
  have i2 : IsAll P1 (va.set 0 u) [.int ((n : Int) + 1)] := list1_set (iva.mono g1.le) i1
  have p1al : P1 al = none := (gr_none g1 ⟨dv.off _ List.mem_cons_self, _, kp _ _ qa⟩).1
  have inn2 : In P1 h2 := fun b o e => sb2 b o (fun z => by rw [z, p1al] at e; cases e) (g1.inn _ _ e)
  have cx2 := cx h2 _ na (n + 1) (fun b o nb e => sb2 b o nb (g1.old _ _ e)) ho2 P1 g1.le i2
  have gM : GrM [al] P s P1 { s1 with heap := h2, toks := s1.toks + 1 } := by
    have g01 := g0.trans g1
    refine ⟨g01.le, inn2, fun b o nb e => sb2 b o (by simpa using nb) (g01.old _ _ e), fun b o e => ?_, g01.new, g01.gens, g01.drawn, g01.os⟩
    by_cases hb : b = al
    · rw [hb]; exact ⟨_, ho2⟩
    · exact ⟨_, sb2 b o hb (g01.old _ _ e)⟩
  have st3 : St W k (A.deeper env) (fun b => h2.get? b) P1 { s1 with heap := h2, toks := s1.toks + 1 } := ⟨st.a.deeper, st2.b, fun _ _ e => e, inn2, Nat.le_add_left _ _, fun p hp => by rw [hraw] at hp; cases hp⟩
  refine wpAny_execs_cons (wpAny_Return_some ((ev_slice_str nv (evo_some (ev_bin (ev_item_list nm ev_int (by rfl)) nv op_sub_int)) (evo_some (ev_item_list nm ev_int (by rfl))) hsz) (A.deeper env) (fun b => h2.get? b) P1 _ _ _ st3 cx2 fun u2 P3 s3 g3 tk3 i3 => ?_))
  have qa3 := g3.old _ _ ho2
  refine hR u2 P3 s3 (gM.trans (g3.m [al])) tk3 ⟨fun p hp => ?_, by simp [ads], fun p hp => ?_⟩ ?_
  · rw [List.mem_singleton.mp hp]
    exact ⟨_, qa3, .list (i2.mono g3.le)⟩
  · rw [List.mem_singleton.mp hp]
    exact (gr_none g3 ⟨p1al, _, ho2⟩).1
  · have : Txt.slice text (some ((n : Int) + 1 - 1)) (some ((n : Int) + 1)) = sl1 text n := by
      unfold sl1; rw [Int.add_sub_cancel]
    rw [← this]; exact i3
end
section
/-! iter(f, '') upon a bound method -/
theorem wpAny_callBorrowed {M : Model} {A : Around} {E : Value → Shared → Prop} {s : Shared} {f : Value} {pos : List Value} {Q : Value → Shared → Prop}
    (hc : codeAny M A (.call f ⟨pos, []⟩) (fun r s' => match r with | .ok (.ret v) => Q v s' | .ok _ => False | .error e => E e s') s) : wpAny M A (callBorrowed f pos) Q E s := fun Γ p hΓ => by
  have h := hc _ p rfl (hΓ.enter (.call f ⟨pos, []⟩) none p (by intro x; cases x))
  show wpCode M _ _ p s
  refine wpCode_mono (fun r s' q => ?_) h
  cases r with
  | error e => exact q
  | ok fl => cases fl <;> first | exact q | exact q.elim
theorem slot_ci_next : Slot "callable_iterator" "__next__" "callable_iterator.__next__" :=
  .of (owner := "callable_iterator") (n := "__next__") (by rw [typeLookup_type, builtinLookup_eq_fast]; kernel_rfl) (by decide +kernel) (by decide +kernel) (by decide +kernel)
    (by first | exact .inl (by decide +kernel) | exact .inr (by decide +kernel)) (by rw [isSubtype_type]; kernel_rfl)
theorem entry_ci_next : entryFor table "callable_iterator.__next__" = some Builtin.«callable_iterator.__next__» := entryFor_of_tree (by kernel_rfl)
theorem slot_ci_iter : Slot "callable_iterator" "__iter__" "callable_iterator.__iter__" :=
  .of (owner := "callable_iterator") (n := "__iter__") (by rw [typeLookup_type, builtinLookup_eq_fast]; kernel_rfl) (by decide +kernel) (by decide +kernel) (by decide +kernel)
    (by first | exact .inl (by decide +kernel) | exact .inr (by decide +kernel)) (by rw [isSubtype_type]; kernel_rfl)
theorem look_method_call : typeLookup (.type "method") "__call__" = pure (some (.builtin "method.__call__")) := by rw [typeLookup_type, builtinLookup_eq_fast]; kernel_rfl
theorem kind_iter : builtinKind "iter" = none := by decide +kernel
theorem plain_iter : plainId "iter" = true := by decide +kernel
theorem entry_iter : entryFor table "iter" = some Builtin.«iter» := entryFor_of_tree (by kernel_rfl)
theorem args_iter_2 (a b : Value) : argsOk "iter" ⟨[a, b], []⟩ := by unfold argsOk; kernel_rfl
theorem entry_ci_iter : entryFor table "callable_iterator.__iter__" = some Builtin.«dict_keyiterator.__iter__» :=
  entryFor_alias (id' := "dict_keyiterator.__iter__") (by kernel_rfl) rfl (by decide +kernel) (by kernel_rfl)
noncomputable abbrev ciObj (a b c : Value) : Obj := { cls := .type "callable_iterator", data := .fields #[a, b, c] }
section
variable {prog : Program} {w : World} {A : Around} {E : Value → Shared → Prop} {s : Shared}
theorem call_iter2 {m : Addr} {b : Value} {Q : Value → Shared → Prop} (hm : s.TypeIs (.ref m) "method") (h : Q (.ref s.heap.objs.size) { s with heap := s.heap.push (ciObj (.ref m) b (.bool false)) }) : wpAny (model prog w) A (call (.builtin "iter") [.ref m, b]) Q E s := by
  refine Calls.call_function_entry kind_iter plain_iter entry_iter (args_iter_2 _ _) ?_
  unfold Builtin.«iter»
  refine wpAny_bind (wpAny_of_eq (a := [.ref m, b]) (by first | rfl | kernel_rfl) ?_)
  dsimp only
  refine wpAny_bind (wpAny_specialOf hm look_method_call ?_)
  refine wpAny_bind (wpAny_rule (wpAny_bind ?_))
  rw [newFields]
  refine wpAny_newObj_type ?_ (by size_fits)
  exact wpAny_pure ⟨_, rfl, h⟩
theorem pyIter_ci {ci : Addr} {o : Obj} {Q : Value → Shared → Prop} (hc : s.heap.get? ci = some o) (ht : o.cls = .type "callable_iterator") (h : Q (.ref ci) s) : wpAny (model prog w) A (pyIter (.ref ci)) Q E s := by
  have ty : s.TypeIs (.ref ci) "callable_iterator" := ⟨_, hc, ht⟩
  refine wpAny_pyIter_slot ty slot_ci_iter (wpAny_call_entry slot_ci_iter ty entry_ci_iter ?_ (by unfold argsOk; kernel_rfl))
  show wpAny _ _ (ret (.ref ci)) _ _ s
  exact wpAny_pure ⟨_, rfl, "callable_iterator", _, ty, slot_ci_next.lookup, h⟩
theorem pyNext_ci {ci m x f : Addr} {y : Str} {t : Tok} {of : Obj} {fd : FuncData} {Q : Option Value → Shared → Prop} (hh : A.handled = none) (h1 : s.heap.get? ci = some (ciObj (.ref m) (.str y t) (.bool false))) (hm : s.heap.get? m = some (methodObj (.ref f) (.ref x))) (hf : s.heap.get? f = some of) (hfd : of.data = .func fd)
    (hc : codeAny (model prog w) A.in1 (.call (.ref f) ⟨[.ref x], []⟩) (fun r s' => ∃ ch t', r = .ok (.ret (.str ch t')) ∧ s'.heap.get? ci = some (ciObj (.ref m) (.str y t) (.bool false)) ∧ s'.heap.get? m = some (methodObj (.ref f) (.ref x)) ∧ s'.heap.get? f = some of ∧
      ((y == ch) = true → ∀ h', Heap.ExtBut ci s'.heap h' → h'.get? ci = some (ciObj .none .none (.bool true)) → Q none { s' with heap := h' }) ∧ ((y == ch) = false → Q (some (.str ch t')) s')) s) : wpAny (model prog w) A (pyNext (.ref ci)) Q E s := by
  have ty : s.TypeIs (.ref ci) "callable_iterator" := ⟨_, h1, rfl⟩
  have be : ∀ (A' : Around) (E' : Value → Shared → Prop) (Q' : Bool → Shared → Prop) (s' : Shared), s'.heap.get? m = some (methodObj (.ref f) (.ref x)) → s'.heap.get? f = some of → Q' true s' → wpAny (model prog w) A' (borrowsExactly (.ref m)) Q' E' s' := by
    intro A' E' Q' s' e1 e2 q
    refine wpAny_bind (m := load m) (wpAny_load e1 ?_)
    show wpAny _ _ (load f >>= _) _ _ _
    refine wpAny_bind (wpAny_load e2 ?_)
    rw [hfd]
    exact wpAny_pure q
  rw [pyNext]
  refine wpAny_bind (wpAny_attempt (wpAny_callSpecial?_slot (name := Str.ofString "__next__") ty slot_ci_next (wpAny_call_entry slot_ci_next ty entry_ci_next ?_ (by unfold argsOk; kernel_rfl))))
  unfold Builtin.«callable_iterator.__next__»
  refine wpAny_bind (wpAny_of_eq (a := ((.ref ci : Value), ([] : List Value))) (by rfl) ?_)
  dsimp only
  refine wpAny_bind (wpAny_field h1 rfl (x := .bool false) rfl ?_)
  rw [if_neg (by decide)]
  refine wpAny_bind (wpAny_field h1 rfl (x := .ref m) rfl (wpAny_bind (wpAny_attempt ?_)))
  rw [callOutOfASlot]
  refine wpAny_bind (be _ _ _ _ hm hf ?_)
  rw [if_pos rfl]
  refine wpAny_callBorrowed (method_call hm (codeAny_mono hc fun r s' z => ?_))
  obtain ⟨ch, t', rfl, z1, z2, z3, z4, z5⟩ := z
  dsimp only
  refine wpAny_bind (wpAny_field z1 rfl (x := .bool false) rfl ?_)
  rw [if_neg (by decide)]
  refine wpAny_bind (wpAny_field z1 rfl (x := .str y t) rfl (wpAny_bind (wpAny_holding (eqBool_str ?_))))
  cases hyc : (y == ch) with
  | false =>
    rw [if_pos (by rfl)]
    refine wpAny_bind (wpAny_pure (wpAny_pure ?_))
    exact ⟨_, rfl, wpAny_pure (z5 hyc)⟩
  | true =>
    rw [if_neg (by decide)]
    refine wpAny_bind (wpAny_rule (wpAny_bind ?_))
    change wpAny _ _ (field (.ref ci) 0 >>= fun v => slotLetsGo "callable_iterator.__next__" v _ >>= fun _ => setField (.ref ci) 0 .none >>= fun _ => setField (.ref ci) 1 .none >>= fun _ => setField (.ref ci) 2 (.bool true)) _ _ _
    refine wpAny_bind (wpAny_field z1 rfl (x := .ref m) rfl (wpAny_bind ?_))
    rw [slotLetsGo]
    refine wpAny_bind (be _ _ _ _ z2 z3 ?_)
    rw [if_pos rfl]
    refine wpAny_pure (wpAny_bind (wpAny_setField z1 rfl (by simp) ?_))
    have u1 := Heap.get?_update_self (Obj.mapFields (·.setIfInBounds 0 Value.none)) z1 rfl
    refine wpAny_bind (wpAny_setField u1 rfl (by simp) ?_)
    have u2 := Heap.get?_update_self (Obj.mapFields (·.setIfInBounds 1 Value.none)) u1 rfl
    refine wpAny_setField u2 rfl (by simp) ?_
    have u3 := Heap.get?_update_self (Obj.mapFields (·.setIfInBounds 2 (Value.bool true))) u2 rfl
    change wpAny _ _ (newExc (.type "StopIteration") [] >>= _) _ _ _
    apply wpAny_bind
    rw [newExc, newTuple]
    apply wpAny_bind
    refine wpAny_newObj_type ?_ (by size_fits)
    refine wpAny_bind (m := firstArgMember _ _) (wpAny_of_eq (a := Value.none) (by first | rfl | (simp only [firstArgMember]; rfl)) ?_)
    refine wpAny_newObj_type ?_ (by size_fits)
    rw [raiseNew]
    apply wpAny_bind
    apply wpAny_handled
    rw [show A.in1.handled = none from hh]
    refine wpAny_bind (wpAny_pure (wpAny_throw ?_))
    refine wpAny_bind (wpAny_isInstance (T := "StopIteration") (b := true) ⟨_, Heap.get?_push_size _ rfl, rfl⟩ isSubtype_stop (wpAny_pure ?_))
    refine z4 hyc _ (fun b o n e => Heap.get?_push_of_some _ (Heap.get?_push_of_some _ ?_)) (Heap.get?_push_of_some _ (Heap.get?_push_of_some _ u3))
    exact (Heap.SameBut.update ..).extBut b o n ((Heap.SameBut.update ..).extBut b o n ((Heap.SameBut.update ..).extBut b o n e))
/-- an ended one stays at its end -/
theorem pyNext_ciE {ci : Addr} {a b : Value} {Q : Option Value → Shared → Prop} (hh : A.handled = none) (h1 : s.heap.get? ci = some (ciObj a b (.bool true))) (h : ∀ h', (∀ b o, s.heap.get? b = some o → h'.get? b = some o) → Q none { s with heap := h' }) : wpAny (model prog w) A (pyNext (.ref ci)) Q E s := by
  have ty : s.TypeIs (.ref ci) "callable_iterator" := ⟨_, h1, rfl⟩
  rw [pyNext]
  refine wpAny_bind (wpAny_attempt (wpAny_callSpecial?_slot (name := Str.ofString "__next__") ty slot_ci_next (wpAny_call_entry slot_ci_next ty entry_ci_next ?_ (by unfold argsOk; kernel_rfl))))
  unfold Builtin.«callable_iterator.__next__»
  refine wpAny_bind (wpAny_of_eq (a := ((.ref ci : Value), ([] : List Value))) (by rfl) ?_)
  dsimp only
  refine wpAny_bind (wpAny_field h1 rfl (x := .bool true) rfl ?_)
  rw [if_pos (by decide)]
  refine wpAny_bind (wpAny_rule ?_)
  refine wpAny_bind ?_
  change wpAny _ _ (newExc (.type "StopIteration") [] >>= _) _ _ _
  apply wpAny_bind
  rw [newExc, newTuple]
  apply wpAny_bind
  refine wpAny_newObj_type ?_ (by size_fits)
  refine wpAny_bind (m := firstArgMember _ _) (wpAny_of_eq (a := Value.none) (by first | rfl | (simp only [firstArgMember]; rfl)) ?_)
  refine wpAny_newObj_type ?_ (by size_fits)
  rw [raiseNew]
  apply wpAny_bind
  apply wpAny_handled
  rw [show A.in1.handled = none from hh]
  refine wpAny_throw ?_
  refine wpAny_bind (wpAny_isInstance (T := "StopIteration") (b := true) ⟨_, Heap.get?_push_size _ rfl, rfl⟩ isSubtype_stop (wpAny_pure ?_))
  exact h _ fun b o e => Heap.get?_push_of_some _ (Heap.get?_push_of_some _ e)
end
end
section
/-! comprehensions whose elements turn owned objects -/
section
variable {W : Wd} {k : Nat} {env : Env} {Γ : List (Str × D)} {Δ : List (Str × List D)}
structure LpM (X : List Addr) (P₂ : Vw) (s₂ : Shared) (I C T : Addr) (P' : Vw) (s' : Shared) : Prop where
  le : Le P₂ P'
  inn : In P' s'.heap
  old : ∀ b o, b ≠ I → b ∉ X → s₂.heap.get? b = some o → s'.heap.get? b = some o
  ext : ∀ b o, s₂.heap.get? b = some o → ∃ o', s'.heap.get? b = some o'
  new : ∀ b o, P' b = some o → P₂ b = some o ∨ s₂.heap.get? b = none
  hI : P' I = none ∧ ∃ o, s'.heap.get? I = some o
  hC : P' C = none ∧ ∃ o, s'.heap.get? C = some o
  hT : P' T = none ∧ ∃ o, s'.heap.get? T = some o
  gens : GG s₂.gens s'.gens
  drawn : s'.drawn = s₂.drawn
  os : s'.os = s₂.os
theorem grm_none {X : List Addr} {P P' : Vw} {s s' : Shared} (g : GrM X P s P' s') {b : Addr} (h : P b = none ∧ ∃ o, s.heap.get? b = some o) : P' b = none ∧ ∃ o, s'.heap.get? b = some o := by
  obtain ⟨h1, o, ho⟩ := h
  refine ⟨?_, g.ext _ _ ho⟩
  cases q : P' b with
  | none => rfl
  | some o' =>
    rcases g.new b o' q with z | z
    · rw [h1] at z; cases z
    · rw [ho] at z; cases z
theorem LpM.gr {X : List Addr} {P₂ P' P'' : Vw} {s₂ s' s'' : Shared} {I C T : Addr} (x : LpM X P₂ s₂ I C T P' s') (g : GrM X P' s' P'' s'') : LpM X P₂ s₂ I C T P'' s'' where
  le := x.le.trans g.le
  inn := g.inn
  old := fun b o n m e => g.old b o m (x.old b o n m e)
  ext := fun b o e => let ⟨o', q⟩ := x.ext b o e; g.ext _ _ q
  new := fun b o e => (g.new b o e).elim (x.new b o) fun z => by
    cases q : s₂.heap.get? b with
    | none => exact .inr rfl
    | some o' => obtain ⟨o'', q'⟩ := x.ext b o' q; rw [z] at q'; cases q'
  hI := grm_none g x.hI
  hC := grm_none g x.hC
  hT := grm_none g x.hT
  gens := x.gens.trans g.gens
  drawn := g.drawn.trans x.drawn
  os := g.os.trans x.os
theorem LpM.set {X : List Addr} {P₂ P' : Vw} {s₂ s' : Shared} {I C T a : Addr} {h' : Heap} {tk : Nat} (x : LpM X P₂ s₂ I C T P' s') (ha : P' a = none) (hn : a = I ∨ s₂.heap.get? a = none) (hk : ∀ b o, b ≠ a → s'.heap.get? b = some o → h'.get? b = some o) (he : ∃ o, h'.get? a = some o) : LpM X P₂ s₂ I C T P' { s' with heap := h', toks := tk } where
  le := x.le
  inn := fun b o e => hk b o (fun q => by rw [q, ha] at e; cases e) (x.inn b o e)
  old := fun b o n m e => hk b o (fun q => by
    rcases hn with z | z
    · exact n (q.trans z)
    · rw [q, z] at e; cases e) (x.old b o n m e)
  ext := fun b o e => by
    obtain ⟨o', q⟩ := x.ext b o e
    by_cases hb : b = a
    · rw [hb]; exact he
    · exact ⟨o', hk _ _ hb q⟩
  new := x.new
  hI := ⟨x.hI.1, by
    obtain ⟨_, o, q⟩ := x.hI
    by_cases e : I = a
    · rw [e]; exact he
    · exact ⟨o, hk _ _ e q⟩⟩
  hC := ⟨x.hC.1, by
    obtain ⟨_, o, q⟩ := x.hC
    by_cases e : C = a
    · rw [e]; exact he
    · exact ⟨o, hk _ _ e q⟩⟩
  hT := ⟨x.hT.1, by
    obtain ⟨_, o, q⟩ := x.hT
    by_cases e : T = a
    · rw [e]; exact he
    · exact ⟨o, hk _ _ e q⟩⟩
  gens := x.gens
  drawn := x.drawn
  os := x.os
theorem Dv.move {P : Vw} {s s' : Shared} {Mx : List (Addr × MO)} (h : Dv P s Mx) (k : ∀ p ∈ Mx, ∀ o, s.heap.get? p.1 = some o → s'.heap.get? p.1 = some o) : Dv P s' Mx :=
  ⟨fun p hp => (h.has p hp).imp fun o hh => ⟨k p hp o hh.1, hh.2⟩, h.nd, h.off⟩
theorem comp_coreM {elt iter : Expr} {x : Str} {px : Pos} {scope : Scope} {pos : Pos} {cl : List (Str × Addr)} {its ds : List D} {Γ' : List (Str × D)} {Δ' : List (Str × List D)} {X : List Addr} (MM : Nat → List (Addr × MO))
    {A : Around} {S P : Vw} {s : Shared} {E : Value → Shared → Prop} {RR : Value → Addr → Result → Shared → Prop} (st : St W k A S P s) (hC : Cx S P env Γ Δ) (hraw : W.raws = []) (hM : ∀ i, ads (MM i) = X) (dv : Dv P s (MM 0)) (hoff : ∀ b ∈ X, S b = none)
    (hI : EvI W k env Γ Δ true iter its) (hlen : ds.length = its.length)
    (helt : ∀ (C : Addr) (i : Nat) (d d' : D), its[i]? = some d → ds[i]? = some d' → EvM W k (compEnvC scope cl C env) ((x, d) :: Γ') Δ' elt d' (MM i) (MM (i + 1)))
    (hΓ : ∀ p ∈ Γ', p ∈ Γ) (hΔ : ∀ p ∈ Δ', p ∈ Δ) (hthru : Thru env scope cl (Γ'.map (·.1) ++ Δ'.map (·.1)))
    (hcell : ∀ y ∈ scope.names, y.2 ≠ .cell) (hkind : scope.kind = .function) (hx : scope.names.lookup x = some .local) (hsz : its.length ≤ sizeLine)
    (hRR : ∀ T C ys P' s', GrM X P s P' s' → 1 ≤ s'.toks → Dv P' s' (MM its.length) → s.heap.get? T = none → P' T = none → s'.heap.get? T = some (LCg.lst ys) → IsAll P' ys ds → s.heap.get? C = none → P' C = none → C ≠ T → (∃ m, s'.heap.Ns C m) → RR (.ref T) C (.ok .next) s') :
    wpAny W.M A (eval iter env) (fun x₁ s₁ => wpAny W.M A (pyIter x₁) (fun it s₂ => wpAny W.M A (newList []) (fun acc s₃ => wpAny W.M A (newFunctionEnv scope env.globals cl [] env.qual none .none (some env)) (fun cenv s₄ =>
      codeAny W.M A (.compStart (.ListComp elt [⟨.Name x px, iter, [], 0⟩] scope pos) 0 it acc { cenv with scope := relabel scope env }) (RR acc cenv.locals) s₄) E s₃) E s₂) E s₁) E s := by
  refine hI A S P s E _ st hC fun I fp Pv Sx P₂ s₂ g₂ tk₂ hW hP hst₂ hIs hI0 hIx hfp => ?_
  have W' := hW A st.a.1
  have p₂ := g₂.inn
  have dv₂ := dv.gr g₂
  have hex : ∀ b ∈ X, ∃ o, s.heap.get? b = some o := fun b hb => by
    obtain ⟨p, hp, rfl⟩ := List.mem_map.mp ((hM 0).symm ▸ hb : b ∈ ads (MM 0))
    obtain ⟨o, q, _⟩ := dv.has p hp
    exact ⟨o, q⟩
  have hofP : ∀ {P' s'}, Dv P' s' (MM 0) → ∀ b ∈ X, P' b = none := fun dv b hb => by
    obtain ⟨p, hp, rfl⟩ := List.mem_map.mp ((hM 0).symm ▸ hb : b ∈ ads (MM 0))
    exact dv.off p hp
  have nX : ∀ b, s.heap.get? b = none → b ∉ X := fun b hb hm => by obtain ⟨o, q⟩ := hex b hm; rw [hb] at q; cases q
  have hIX : I ∉ X := nX I hIs
  have hfpX : ∀ b ∈ fp, b ∉ X := fun b hb hm => by
    by_cases z : b = I
    · exact hIX (z ▸ hm)
    · obtain ⟨o, _, q⟩ := hfp b hb z
      rw [hofP dv₂ b hm] at q
      cases q rfl
  obtain ⟨oI, hoI⟩ := hIx _ _ hst₂
  have hIlt : I < s₂.heap.objs.size := Heap.lt_size hoI
  refine wpAny_newObj_type (wpAny_newFunctionEnv hcell (by intro y hy; simp at hy) (fun h₁ hns₁ hsb₁ => ?_) hkind)
  dsimp only at hns₁ hsb₁ ⊢
  generalize hH2 : s₂.heap.push { cls := .type "list", dict := none, data := .seq ([] : List Value).toArray } = H2 at hns₁ hsb₁ ⊢
  have hCs : H2.objs.size = s₂.heap.objs.size + 1 := by rw [← hH2, Heap.size_push]
  have hDC : s₂.heap.objs.size ≠ H2.objs.size := by rw [hCs]; exact Nat.ne_of_lt (Nat.lt_succ_self _)
  have below : ∀ b, b < s₂.heap.objs.size → b ≠ H2.objs.size ∧ b ≠ s₂.heap.objs.size := fun b hb => ⟨by rw [hCs]; exact Nat.ne_of_lt (Nat.lt_succ_of_lt hb), Nat.ne_of_lt hb⟩
  have old : ∀ b o, s₂.heap.get? b = some o → h₁.get? b = some o := fun b o e => hsb₁.extBut b o (below b (Heap.lt_size e)).1 (Heap.get?_push_of_some _ (hH2 ▸ Heap.get?_push_of_some _ e))
  have hacc : h₁.get? s₂.heap.objs.size = some (LCg.lst []) := hsb₁.extBut _ _ hDC (Heap.get?_push_of_some _ (hH2 ▸ Heap.get?_push_size _ rfl))
  have fresh : ∀ a, s₂.heap.objs.size ≤ a → s₂.heap.get? a = none := fun a ha => Heap.get?_none_of_le ha
  have freshP : ∀ a, s₂.heap.objs.size ≤ a → P₂ a = none := fun a ha => none_of_in p₂ (fresh a ha)
  generalize hT : s₂.heap.objs.size = T at *
  generalize hCC : H2.objs.size = C at *
  have hIC : I ≠ C := (below I hIlt).1
  have hIT : I ≠ T := (below I hIlt).2
  have freshT : s₂.heap.get? T = none := fresh T (Nat.le_refl _)
  have freshC : s₂.heap.get? C = none := fresh C (by rw [hCs]; exact Nat.le_succ _)
  have hTX : T ∉ X := nX T (none_of_old g₂.old freshT)
  have hCX : C ∉ X := nX C (none_of_old g₂.old freshC)
  have hTf : T ∉ fp := fun hm => by
    obtain ⟨o, q, _⟩ := hfp T hm (Ne.symm hIT)
    rw [freshT] at q; cases q
  have hCf : C ∉ fp := fun hm => by
    obtain ⟨o, q, _⟩ := hfp C hm (Ne.symm hIC)
    rw [freshC] at q; cases q
  have hst₁ : Sx 0 h₁ := W'.frame _ _ _ hst₂ fun b _ o e => old b o e
  have L₀ : ∀ tk, LpM X P₂ s₂ I C T P₂ { s₂ with heap := h₁, toks := tk } := fun tk =>
    { le := Le.refl _, inn := fun b o e => old b o (p₂ b o e), old := fun b o _ _ e => old b o e, ext := fun b o e => ⟨o, old b o e⟩, new := fun b o e => .inl e, hI := ⟨hI0, oI, old _ _ hoI⟩,
      hC := ⟨freshP C (by rw [hCs]; exact Nat.le_succ _), by obtain ⟨o, _, _, q, _⟩ := hns₁; exact ⟨o, q⟩⟩, hT := ⟨freshP T (Nat.le_refl _), _, hacc⟩, gens := GG.refl _, drawn := rfl, os := rfl }
  have memX : ∀ {i : Nat} {p : Addr × MO}, p ∈ MM i → p.1 ∈ X := fun {i p} hp => (hM i) ▸ List.mem_map_of_mem hp
  have loop : ∀ s₃ : Shared, s₃ = { s₂ with heap := h₁, toks := s₂.toks + ([] : List (Str × Value)).length } →
      codeAny W.M A (.compLoop (.ListComp elt [⟨.Name x px, iter, [], 0⟩] scope pos) 0 (.ref I) (.ref T) (compEnvC scope cl C env)) (RR (.ref T) C) s₃ := by
    rintro s₃ rfl
    refine codeAny_compLoop_tests
      (fun j s' => ∃ i ys m' P', i ≤ its.length ∧ j = its.length + 1 - i ∧ Sx i s'.heap ∧ s'.heap.Ns C m' ∧ s'.heap.get? T = some (LCg.lst ys) ∧ IsAll P' ys (ds.take i) ∧ LpM X P₂ s₂ I C T P' s' ∧ Dv P' s' (MM i) ∧ 1 ≤ s'.toks) ?_ (its.length + 1)
      ⟨0, [], _, P₂, Nat.zero_le _, rfl, hst₁, hns₁, hacc, .nil, L₀ _, dv₂.move fun p hp o q => old _ _ q, Nat.le_trans tk₂ (Nat.le_add_right _ _)⟩
    rintro j s' ⟨i, ys, m', P', hi, rfl, hst', hn', hacc', hys, L', dv', tk'⟩
    by_cases hlt : i < its.length
    · refine wp_tk tk' (W'.item i s' _ _ hlt hst' fun v h₂ tk₂' hPv hst₂' hk₂ tkv => ?_)
      obtain ⟨d, hd, hid⟩ := hP i v hPv
      obtain ⟨d', hr⟩ : ∃ r, ds[i]? = some r := ⟨ds[i]'(by rw [hlen]; exact hlt), by rw [List.getElem?_eq_getElem]⟩
      have L₂ : LpM X P₂ s₂ I C T P' { s' with heap := h₂, toks := tk₂' } := L'.set L'.hI.1 (.inl rfl) (fun b o n e => hk₂ b o (by simpa using n) e) (hIx _ _ hst₂')
      refine wpAny_assign_Name (wpAny_storeName_local (lookup_relabel_local hx) (hn'.at' fun o e => hk₂ _ o (by simpa using Ne.symm hIC) e) (fun h₃ hn₃ hs₃ => ?_) (by simp [compEnvC, relabel, hkind]))
      have L₃ : LpM X P₂ s₂ I C T P' { s' with heap := h₃, toks := tk₂' + 1 } := L₂.set L'.hC.1 (.inr freshC) (fun b o n e => hs₃.extBut b o n e) (by obtain ⟨o, _, _, q, _⟩ := hn₃; exact ⟨o, q⟩)
      have hst₃ : Sx (i + 1) h₃ := W'.frame _ _ _ hst₂' fun b hb o e => hs₃.extBut b o (fun q => hCf (by have q' : b = C := q; rw [← q']; exact hb)) e
      have hacc₃ : h₃.get? T = some (LCg.lst ys) := hs₃.extBut _ _ hDC (hk₂ _ _ (by simpa using Ne.symm hIT) hacc')
      obtain ⟨oC, hoC, nsC⟩ := LCg.ns_obj hn₃
      have dv₃ : Dv P' { s' with heap := h₃, toks := tk₂' + 1 } (MM i) := dv'.move fun p hp o q => hs₃.extBut _ _ (fun z => hCX (by have z' : p.1 = C := z; exact z' ▸ memX hp)) (hk₂ _ _ (by simpa using fun z => hIX (by have z' : p.1 = I := z; exact z' ▸ memX hp)) q)
      have upS : Le S (offX X h₃) := fun b o e => by
        have nb : b ∉ X := fun hm => by rw [hoff b hm] at e; cases e
        exact offX_old nb (L₃.old b o (fun q => by have := st.sv _ _ e; rw [q, hIs] at this; cases this) nb (g₂.old _ _ (st.sv _ _ e)))
      have st₃ : St W k A (offX X h₃) P' { s' with heap := h₃, toks := tk₂' + 1 } := ⟨st.a, (st.b.up g₂.le).up L₃.le, offX_in, L₃.inn, Nat.le_trans tkv (Nat.le_succ _), fun p hp => by rw [hraw] at hp; cases hp⟩
      have C₃ : Cx (offX X h₃) P' (compEnvC scope cl C env) ((x, d) :: Γ') Δ' := by
        refine ⟨by simp [compEnvC, relabel, hkind], hC.gl, hC.bi, fun p hp => ?_, fun p hp => ?_⟩
        · rcases List.mem_cons.mp hp with rfl | hp
          · exact ⟨v, .loc (lookup_relabel_local hx) (offX_old hCX hoC) nsC (by simp), hid.mono L₃.le⟩
          · obtain ⟨u, n, q⟩ := hC.vars p (hΓ p hp)
            exact ⟨u, n.thru (hthru.mem p.1 (List.mem_append.mpr (.inl (List.mem_map_of_mem hp)))) upS, (q.mono g₂.le).mono L₃.le⟩
        · obtain ⟨a, vs, n, nm, q, r⟩ := hC.muts p (hΔ p hp)
          exact ⟨a, vs, n, nm.thru (hthru.mem p.1 (List.mem_append.mpr (.inr (List.mem_map_of_mem hp)))) upS, upS _ _ q, (r.mono g₂.le).mono L₃.le⟩
      refine wpAny_pure ?_
      rw [if_pos rfl]
      refine helt C i d d' hd hr A (offX X h₃) P' _ _ _ st₃ C₃ dv₃ (fun p hp => offX_none (memX hp)) fun y P₅ s₅ g₅ tk₅ dv₅ i₅ => ?_
      rw [hM i] at g₅
      have L₅ := L₃.gr g₅
      have hacc₅ : s₅.heap.get? T = some (LCg.lst ys) := g₅.old _ _ hTX hacc₃
      have hyl : ys.length ≤ i := by
        rw [hys.length, List.length_take]; exact Nat.min_le_left _ _
      refine append_at (hsz := by show ys.toArray.size ≤ sizeLine; exact ar_le3 hyl hlt hsz) hacc₅ fun h₆ hs₆ hD₆ => ?_
      have L₆ : LpM X P₂ s₂ I C T P₅ { s₅ with heap := h₆, toks := s₅.toks } := L₅.set L₅.hT.1 (.inr freshT) (fun b o n e => hs₆.extBut b o n e) ⟨_, hD₆⟩
      have hfm : ds.take (i + 1) = ds.take i ++ [d'] := by rw [List.take_add_one, hr]; rfl
      refine ⟨its.length + 1 - (i + 1), ar_step hlt, i + 1, ys ++ [y], _, P₅, hlt, rfl, ?_, ((hn₃.at' fun o e => g₅.old _ _ hCX e)).sameBut hs₆ (Ne.symm hDC), hD₆.trans (congrArg some (LCg.lst_snoc ys y)), ?_, L₆, dv₅.move fun p hp o q => hs₆.extBut _ _ (fun z => hTX (by have z' : p.1 = T := z; exact z' ▸ memX hp)) q, tk₅⟩
      · exact W'.frame _ _ h₆ hst₃ fun b hb o e => hs₆.extBut b o (fun q => hTf (q ▸ hb)) (g₅.old b o (hfpX b hb) e)
      · rw [hfm]
        exact (hys.mono g₅.le).append (.cons i₅ .nil)
    · obtain rfl : i = its.length := Nat.le_antisymm hi (Nat.not_lt.mp hlt)
      refine wp_tk tk' (W'.done s' _ _ hst' fun h₂ tk₂' hk₂ tkd => ?_)
      have hT' : h₂.get? T = some (LCg.lst ys) := hk₂ _ _ (by simpa using Ne.symm hIT) hacc'
      have up : ∀ b o, b ≠ I → s'.heap.get? b = some o → h₂.get? b = some o := fun b o n1 e => hk₂ b o (by simpa using n1) e
      have hf : ds.take its.length = ds := by rw [← hlen, List.take_length]
      have nI : ∀ b o, s.heap.get? b = some o → b ≠ I := fun b o e q => by rw [q, hIs] at e; cases e
      refine hRR T C ys P' _ ⟨g₂.le.trans L'.le, fun b o e => ?_, fun b o hb e => ?_, fun b o e => ?_, fun b o e => ?_, g₂.gens.trans L'.gens, L'.drawn.trans g₂.drawn, L'.os.trans g₂.os⟩ tkd (dv'.move fun p hp o q => up _ _ (fun z => hIX (by have z' : p.1 = I := z; exact z' ▸ memX hp)) q) (none_of_old g₂.old freshT) L'.hT.1 hT' ?_ (none_of_old g₂.old freshC) L'.hC.1 (Ne.symm hDC)
        ⟨m', hn'.at' fun o e => hk₂ _ o (by simpa using Ne.symm hIC) e⟩
      · exact up b o (fun q => by rw [q, L'.hI.1] at e; cases e) (L'.inn _ _ e)
      · exact up b o (nI b o e) (L'.old b o (nI b o e) hb (g₂.old _ _ e))
      · obtain ⟨o', q⟩ := L'.ext b o (g₂.old _ _ e)
        exact ⟨o', up b o' (nI b o e) q⟩
      · rcases L'.new b o e with z | z
        · exact g₂.new b o z
        · exact .inr (none_of_old g₂.old z)
      · rw [← hf]
        exact hys
  exact codeAny_compStart_list (loop _ rfl) (W'.self 0 _ _ _ hst₁ (loop _ rfl))
end
theorem GrM.add {X : List Addr} {P P' : Vw} {s s' : Shared} {a : Addr} {o : Obj} (g : GrM X P s P' s') (h0 : s.heap.get? a = none) (h1 : P' a = none) (h2 : s'.heap.get? a = some o) : GrM X P s (addV P' a o) s' :=
  ⟨g.le.trans (addV_le h1), addV_in g.inn h2, g.old, g.ext, fun b o' e => by
    by_cases hb : b = a
    · subst hb; exact .inr h0
    · rw [addV_ne hb] at e; exact g.new _ _ e, g.gens, g.drawn, g.os⟩
theorem GrM.but {X : List Addr} {P P' : Vw} {s s' : Shared} {C : Addr} {h' : Heap} (g : GrM X P s P' s') (h0 : s.heap.get? C = none) (h1 : P' C = none) (hs : Heap.SameBut C s'.heap h') : GrM X P s P' { s' with heap := h' } :=
  ⟨g.le, fun b o e => hs.extBut b o (fun q => by rw [q, h1] at e; cases e) (g.inn b o e), fun b o hb e => hs.extBut b o (fun q => by rw [q, h0] at e; cases e) (g.old b o hb e), fun b o e => (g.ext b o e).imp fun o' q => hs.extBut b o' (fun q => by rw [q, h0] at e; cases e) q, g.new, g.gens, g.drawn, g.os⟩
theorem Dv.add {P : Vw} {s s' : Shared} {Mx Mx' : List (Addr × MO)} {a : Addr} {o : Obj} (h : Dv P s' Mx') (h0 : Dv P s Mx → True) (ha : a ∉ ads Mx') (h1 : P a = none) : Dv (addV P a o) s' Mx' :=
  ⟨fun p hp => (h.has p hp).imp fun o' hh => ⟨hh.1, hh.2.mono (addV_le h1)⟩, h.nd, fun p hp => by rw [addV_ne (fun z : p.1 = a => ha (z ▸ List.mem_map_of_mem hp))]; exact h.off p hp⟩
section
variable {W : Wd} {k : Nat} {A : Around} {env : Env} {s₀ : Shared} {P₀ H : Vw} {Γ : List (Str × D)} {Δ : List (Str × List D)} {Mx Mx' rest : List (Addr × MO)} {P : Vw} {s : Shared} {E : Value → Shared → Prop} {Q : Flow → Shared → Prop}
theorem At.grM_own {P' : Vw} {s' : Shared} (X : At W k A env s₀ P₀ H Γ Δ (Mx ++ rest) P s) (g : GrM (ads Mx) P s P' s') (dv : Dv P' s' Mx') (ha : ads Mx' = ads Mx) : ∃ m cv ad, AtX env Γ Δ (Mx' ++ rest) H P' m cv ad s'.heap ∧ (∀ p ∈ Δ, s₀.heap.get? (ad p.1) = none) ∧ ∀ b, s.heap.get? b = none → b ∉ ownOf env Δ ad (Mx' ++ rest) := by
  obtain ⟨m, cv, ad, y, hn⟩ := X.mnew
  obtain ⟨n1, n2, n3, n4⟩ := X.nd y
  have ho : ownOf env Δ ad (Mx' ++ rest) = ownOf env Δ ad (Mx ++ rest) := by unfold ownOf; rw [List.map_append, List.map_append, show Mx'.map (·.1) = Mx.map (·.1) from ha]
  refine ⟨m, cv, ad, ⟨y.ns.at' fun o e => g.old _ _ n1 e, fun p hp => ?_, fun p hp => ?_, fun p hp => ?_, fun p hp => ?_, by rw [ho]; exact y.nd, y.cnd, fun b hb => ?_, fun b hb => ?_⟩, hn, fun b h hb => ?_⟩
  · obtain ⟨o, q, d⟩ := y.cells p hp; exact ⟨o, g.old _ _ (n2 p hp) q, d⟩
  · obtain ⟨v, e, i⟩ := y.vars p hp; exact ⟨v, e, i.mono g.le⟩
  · obtain ⟨vs, n, e, q, i⟩ := y.muts p hp; exact ⟨vs, n, e, g.old _ _ (n3 p hp) q, i.mono g.le⟩
  · rcases List.mem_append.mp hp with hp | hp
    · exact dv.has p hp
    · obtain ⟨o, q, i⟩ := y.raw p (List.mem_append_right _ hp); exact ⟨o, g.old _ _ (n4 p hp) q, i.mono g.le⟩
  · rw [ho] at hb; exact (grm_none g ⟨y.offP b hb, y.exist b hb⟩).1
  · rw [ho] at hb; exact y.offH b hb
  · rw [ho] at hb
    obtain ⟨o, q⟩ := y.exist b hb
    rw [h] at q; cases q
/-- an object that nobody has is owned -/
theorem At.take {a : Addr} {ob : Obj} {mo : MO} (X : At W k A env s₀ P₀ H Γ Δ Mx P s) (pa : P a = none) (qa : H a = none) (hno : ∃ m cv ad, AtX env Γ Δ Mx H P m cv ad s.heap ∧ a ∉ ownOf env Δ ad Mx) (ha : s.heap.get? a = some ob) (hi : MIs P ob mo) : At W k A env s₀ P₀ H Γ Δ ((a, mo) :: Mx) P s := by
  obtain ⟨m, cv, ad, y, hn⟩ := X.mnew
  have off : a ∉ ownOf env Δ ad Mx := by
    obtain ⟨m', cv', ad', y', h⟩ := hno
    rw [AtX.unique y y']; exact h
  have own : (ownOf env Δ ad ((a, mo) :: Mx)).Perm (a :: ownOf env Δ ad Mx) := by
    show (env.locals :: (env.cells.map (·.2) ++ (Δ.map (fun p => ad p.1) ++ (a :: Mx.map (·.1))))).Perm _
    refine List.Perm.trans (List.Perm.cons _ ?_) (List.Perm.swap _ _ _)
    rw [← List.append_assoc]
    refine List.Perm.trans List.perm_middle ?_
    rw [List.append_assoc]
  refine { X with mnew := ⟨m, cv, ad, ⟨y.ns, y.cells, y.vars, y.muts, fun p hp => ?_, own.nodup_iff.mpr (List.nodup_cons.mpr ⟨off, y.nd⟩), y.cnd, fun b hb => ?_, fun b hb => ?_⟩, hn⟩ }
  · rcases List.mem_cons.mp hp with rfl | hp
    · exact ⟨_, ha, hi⟩
    · exact y.raw p hp
  · rcases List.mem_cons.mp (own.subset hb) with rfl | hb
    · exact pa
    · exact y.offP b hb
  · rcases List.mem_cons.mp (own.subset hb) with rfl | hb
    · exact qa
    · exact y.offH b hb
/-- y = [elt for x in iter], where elt turns owned objects -/
theorem s_forCM {x y : Str} {px p pos cpos : Pos} {elt iter : Expr} {scope : Scope} {rest' : List Stmt} {cl : List (Str × Addr)} {its ds : List D} (MM : Nat → List (Addr × MO)) (Γ' : List (Str × D)) (Δ' : List (Str × List D))
    (X : At W k A env s₀ P₀ H Γ Δ (MM 0 ++ rest) P s) (hM : ∀ i, ads (MM i) = ads (MM 0)) (hI : EvI (W.at []) k env Γ Δ true iter its) (hlen : ds.length = its.length)
    (helt : ∀ (C : Addr) (i : Nat) (d d' : D), its[i]? = some d → ds[i]? = some d' → EvM (W.at []) k (compEnvC scope cl C env) ((x, d) :: Γ') Δ' elt d' (MM i) (MM (i + 1)))
    (hb : Bindable env y) (hyΓ : ∀ p ∈ Γ, p.1 ≠ y) (hyΔ : ∀ p ∈ Δ, p.1 ≠ y)
    (next : ∀ P' s', At W k A env s₀ P₀ H ((y, .list ds) :: Γ) Δ (MM its.length ++ rest) P' s' → wpAny W.M A (execs rest' env) Q E s')
    (hΓ : ∀ p ∈ Γ', p ∈ Γ := by trivial) (hΔ : ∀ p ∈ Δ', p ∈ Δ := by trivial)
    (hclos : closureFor scope env = pure cl := by rfl) (hthru : Thru env scope cl (Γ'.map (·.1) ++ Δ'.map (·.1)) := by repeat (first | exact True.intro | refine And.intro ⟨by first | exact .inl rfl | exact .inr rfl, by first | exact .inl rfl | exact .inr rfl, rfl⟩ ?_))
    (hcell : ∀ y ∈ scope.names, y.2 ≠ .cell := by decide) (hkind : scope.kind = .function := by rfl)
    (hnames : ∀ y ∈ scope.names, y.2 = .local → scope.names.lookup y.1 = some .local := by decide) (hx : scope.names.lookup x = some .local := by rfl)
    (hsz : Nat.ble its.length 16384 = true := by rfl)
    (hsw : swapsWith (.ListComp elt [⟨.Name x px, iter, [], 0⟩] scope cpos) (some (.Name y p)) pos.line env = pure true := by rfl)
    (hs : ∀ v, foldedSetIterable iter env v = pure v := by intro _; rfl) :
    wpAny W.M A (execs (.Assign [.Name y p] (.ListComp elt [⟨.Name x px, iter, [], 0⟩] scope cpos) pos :: rest') env) Q E s := by
  refine wpAny_execs_cons ?_
  rw [exec_Assign_Name_used _ _ _ _ hsw]
  refine wpAny_bind (wpAny_standAt (wpAny_bind ?_))
  show wpAny _ A (do let _ ← comprehension (.ListComp elt [⟨.Name x px, iter, [], 0⟩] scope cpos) scope env _ (newList []) false (eval iter env) (some (assign (.Name y p) env))) _ _ s
  refine wpAny_bind (wpAny_mono (wpAny_comprehension_free (use := some (assign (.Name y p) env)) (Q := fun _ s' => wpAny W.M A (execs rest' env) Q E s') rfl hs hclos hkind hnames
    (comp_coreM (W := W.at []) (X := ads (MM 0)) MM X.stM X.cxM rfl hM X.dvM (fun b hb => offX_none hb) hI hlen helt hΓ hΔ hthru hcell hkind hx (Nat.le_trans (Nat.le_of_ble_eq_true hsz) (by decide)) fun T C ys P' s' g tk dv h0 h1 h2 hi c0 c1 cT hm => ?_)) (fun _ s' hq => wpAny_pure (wpAny_pure hq)) fun _ _ e => e)
  obtain ⟨mC, hnC⟩ := hm
  have zT := X.none₀ h0
  have zC := X.none₀ c0
  obtain ⟨oC, qC, nC⟩ := LCg.ns_obj hnC
  show wpAny _ A (assign (.Name y p) env (.ref T)) _ _ _
  have hTm : T ∉ ads (MM its.length) := fun hm => by
    rw [hM] at hm
    obtain ⟨p, hp, e⟩ := List.mem_map.mp hm
    obtain ⟨o, q, _⟩ := X.dvM.has p hp
    rw [e, h0] at q; cases q
  have dv' : Dv (addV P' T (LCg.lst ys)) s' (MM its.length) := dv.add (s := s') (Mx := []) (fun _ => trivial) hTm h1
  have g' := g.add h0 h1 h2
  obtain ⟨m, cv, ad, w, hn, ho⟩ := X.grM_own g' dv' (hM _)
  have hCo := ho C c0
  refine wpAny_assign_Name (At.store (X.grM g' tk dv' (hM _)) w hn hb hyΓ hyΔ fun s'' g1 g2 g3 => ?_)
  refine ⟨mC, nC.ns (g3 _ _ hCo qC), fun h' hs' => ?_⟩
  have hi' : Is (addV P' T (LCg.lst ys)) (.ref T) (.list ds) := .list addV_at (hi.mono (addV_le h1))
  obtain ⟨X1, m', cv', ad', w', hw'⟩ := g1 _ hi'
  exact next _ _ (X1.but zC.1 (by rw [addV_ne cT]; exact c1) zC.2 ⟨m', cv', ad', w', fun q => hCo (hw' _ q)⟩ hs')
end
/-- e gives a new list and turns owned objects -/
noncomputable def EvMN (W : Wd) (k : Nat) (env : Env) (Γ : List (Str × D)) (Δ : List (Str × List D)) (e : Expr) (ds : List D) (Mx Mx' : List (Addr × MO)) : Prop :=
  ∀ (A : Around) (S P : Vw) (s : Shared) (E Q : Value → Shared → Prop), St W k A S P s → Cx S P env Γ Δ → Dv P s Mx → (∀ p ∈ Mx, S p.1 = none) →
    (∀ a vs n P' s', GrM (ads Mx) P s P' s' → 1 ≤ s'.toks → Dv P' s' Mx' → s.heap.get? a = none → P' a = none → s'.heap.get? a = some (listOf vs.toArray n) → IsAll P' vs ds → Q (.ref a) s') → wpAny W.M A (eval e env) Q E s
section
variable {W : Wd} {k : Nat} {env : Env} {Γ : List (Str × D)} {Δ : List (Str × List D)}
theorem evmn_for {elt iter : Expr} {x : Str} {px : Pos} {scope : Scope} {pos : Pos} {cl : List (Str × Addr)} {its ds : List D} (MM : Nat → List (Addr × MO)) (Γ' : List (Str × D)) (Δ' : List (Str × List D)) (hraw : W.raws = []) (hM : ∀ i, ads (MM i) = ads (MM 0))
    (hI : EvI W k env Γ Δ true iter its) (hlen : ds.length = its.length)
    (helt : ∀ (C : Addr) (i : Nat) (d d' : D), its[i]? = some d → ds[i]? = some d' → EvM W k (compEnvC scope cl C env) ((x, d) :: Γ') Δ' elt d' (MM i) (MM (i + 1)))
    (hΓ : ∀ p ∈ Γ', p ∈ Γ := by trivial) (hΔ : ∀ p ∈ Δ', p ∈ Δ := by trivial)
    (hclos : closureFor scope env = pure cl := by rfl) (hthru : Thru env scope cl (Γ'.map (·.1) ++ Δ'.map (·.1)) := by repeat (first | exact True.intro | refine And.intro ⟨by first | exact .inl rfl | exact .inr rfl, by first | exact .inl rfl | exact .inr rfl, rfl⟩ ?_))
    (hcell : ∀ y ∈ scope.names, y.2 ≠ .cell := by decide) (hkind : scope.kind = .function := by rfl)
    (hnames : ∀ y ∈ scope.names, y.2 = .local → scope.names.lookup y.1 = some .local := by decide) (hx : scope.names.lookup x = some .local := by rfl)
    (hsz : Nat.ble its.length 16384 = true := by rfl)
    (hs : ∀ v, foldedSetIterable iter env v = pure v := by intro _; rfl) :
    EvMN W k env Γ Δ (.ListComp elt [⟨.Name x px, iter, [], 0⟩] scope pos) ds (MM 0) (MM its.length) := fun A S P s E Q st hC dv hoff hQ => by
  rw [eval_ListComp]
  refine wpAny_comprehension_free (use := none) rfl hs hclos hkind hnames ?_
  refine comp_coreM (X := ads (MM 0)) MM st hC hraw hM dv (fun b hb => by obtain ⟨p, hp, rfl⟩ := List.mem_map.mp hb; exact hoff p hp) hI hlen helt hΓ hΔ hthru hcell hkind hx (Nat.le_trans (Nat.le_of_ble_eq_true hsz) (by decide)) fun T C ys P' s' g tk dv' h0 h1 h2 hi c0 c1 cT hm => ?_
  obtain ⟨m', hn'⟩ := hm
  refine ⟨m', hn', fun h' hs' => hQ T ys ys.length P' _ (g.but c0 c1 hs') tk (dv'.move fun p hp o q => hs'.extBut _ _ (fun z => ?_) q) h0 h1 (hs'.extBut _ _ (Ne.symm cT) h2) hi⟩
  have hm2 : p.1 ∈ ads (MM 0) := hM its.length ▸ List.mem_map_of_mem hp
  obtain ⟨p0, hp0, e0⟩ := List.mem_map.mp hm2
  obtain ⟨o0, q0, _⟩ := dv.has p0 hp0
  rw [e0, z, c0] at q0; cases q0
/-- the new list is data -/
theorem EvMN.m {e : Expr} {ds : List D} {Mx Mx' : List (Addr × MO)} (h : EvMN W k env Γ Δ e ds Mx Mx') (ha : ads Mx' = ads Mx) : EvM W k env Γ Δ e (.list ds) Mx Mx' := fun A S P s E Q st hC dv hoff hQ =>
  h A S P s E Q st hC dv hoff fun a vs n P' s' g tk dv' h0 h1 h2 i => by
    have hTm : a ∉ ads Mx' := fun hm => by
      rw [ha] at hm
      obtain ⟨p, hp, e⟩ := List.mem_map.mp hm
      obtain ⟨o, q, _⟩ := dv.has p hp
      rw [e, h0] at q; cases q
    exact hQ _ _ s' (g.add h0 h1 h2) tk (dv'.add (s := s') (Mx := []) (fun _ => trivial) hTm h1) (.list addV_at (i.mono (addV_le h1)))
end
end
section
section
variable {W : Wd} {k : Nat} {env : Env} {Γ : List (Str × D)} {Δ : List (Str × List D)}
/-- o.instream.read(1) -/
theorem evm_stream {o e : Expr} {p1 p2 pos : Pos} {pl : Sem Bool} {x C dx st al : Addr} {fs : List (Str × D)} {text : Str} {l : List (Addr × Obj)} {n : Nat} (h0 : Ev W (k + 1) env Γ Δ o (.inst x C dx)) (G : GetK W.K C "instream") (hl : fs.lookup ("instream" : Str) = some (.pack st l)) (hS : StreamOk W st al text l) (h1 : Ev W (k + 1) env Γ Δ e (.int 1)) (hp : [e].all plainE = true := by rfl) (hpe : plainE e = true := by rfl)
    (he1 : attrForm o "instream" p1 env := by with_unfolding_all rfl) (he2 : callForm (.Attribute o "instream" p1) "read" p2 pos [e] pl env := by rfl) :
    EvM W (k + 1) env Γ Δ (.Call (.Attribute (.Attribute o "instream" p1) "read" p2) [e] [] pos) (.str (sl1 text n)) [(dx, .dict fs), (al, .list [.int n])] [(dx, .dict fs), (al, .list [.int (n + 1 : Nat)])] := fun A S P s E Q st' hC dv hoff hQ => by
  obtain ⟨dd, fd0, hs, tk0, n0, rd, or, fd, m1, m2, m3, hd, hRd⟩ := hS.has
  refine MethodCall_ (Attribute_any_ (h0 A S P s E _ st' hC fun v P₁ s₁ g₁ tk₁ i₁ => ?_) he1) he2
  obtain ⟨rfl, hx⟩ := i₁.instI
  obtain ⟨ob, ho, hi⟩ := (dv.gr g₁).has _ List.mem_cons_self
  obtain ⟨es, nn, rfl, hf⟩ := hi.dictI
  obtain ⟨u, hu, hiu⟩ := hf.get hl
  obtain ⟨attr, ha, hn⟩ := G.at_
  refine get_value (Bs.frag (st'.b.up g₁.le) g₁.inn) (inst_at (g₁.inn _ _ hx) ho) G.ga (findObj_own G.hh ha hn (by rw [lookIn_dict]; exact hu)) (handed_of hiu) ?_
  obtain ⟨rfl, hl'⟩ := hiu.packI
  refine fn_getMethod (g₁.inn _ _ (hl' _ m1)) (g₁.inn _ _ (hl' _ m2)) (by rfl) rfl ?_
  have g2 : Gr P₁ s₁ P₁ { s₁ with toks := s₁.toks + 1 + 1 } := Gr.toks g₁.inn
  have g12 := g₁.trans g2
  have st2 := st'.next g12 (Nat.le_add_left _ _)
  refine callWith_function (o := or) (fd := fd) (evalArgs_ev' hp st2 (hC.up (Le.refl _) g12.le) (evs_cons h1 evs_nil hpe) (fun h => nomatch h) fun vs P₃ s₃ g₃ tk₃ i₃ => ⟨⟨g₃.inn _ _ (g₃.le _ _ (hl' _ m3)), hd⟩, ?_⟩)
  obtain ⟨v3, rfl, iv⟩ := i₃.oneI
  have dv3 := ((dv.gr g12).gr g₃).perm (N := [(al, .list [.int n]), (dx, .dict fs)]) (List.Perm.swap ..)
  refine wpAny_call (hRd k n A S P₃ s₃ _ v3 (st2.next g₃ tk₃) (fun p hp => g₃.le _ _ (hl' _ hp)) iv (Dv.app (R := [(dx, .dict fs)]) dv3).1 fun v4 P₄ s₄ g₄ tk₄ dv₄ i₄ => ?_)
  have dv5 := (Dv.frame (Mx := [(al, .list [.int n])]) (R := [(dx, .dict fs)]) dv3 g₄ dv₄ rfl).perm (N := [(dx, .dict fs), (al, .list [.int (n + 1 : Nat)])]) (List.Perm.swap ..)
  exact hQ v4 P₄ s₄ (((g12.trans g₃).m _).trans (g₄.wide fun b hb => by simp only [List.mem_singleton] at hb; subst hb; simp [ads])) tk₄ dv5 i₄
end
/-- a name of an instance of C that is a function of C's -/
structure BindK (K : Frag) (C : Addr) (name : Str) (f : Addr) : Prop where
  ga : findIn K (.ref C) "__getattribute__" = some (some (.builtin "object.__getattribute__"))
  gt : findIn K (.ref C) "__getattr__" = some none
  hh : hasDictIn K C = true
  ha : findIn K (.ref C) name = some (some (.ref f))
  hg : specialIn K (.ref f) "__get__" = some (some (.builtin "function.__get__"))
  ht : takesIn K (.ref f) = some false
  hc : copiedNames.contains name = false
  ty : typeIn K (.ref f) = some (.type "function")
theorem bindK {K K' : Frag} {C f : Addr} {name : Str} (hK : K' = K) (ga : findIn K (.ref C) "__getattribute__" = some (some (.builtin "object.__getattribute__")) := by rfl) (gt : findIn K (.ref C) "__getattr__" = some none := by rfl) (hh : hasDictIn K C = true := by rfl) (ha : findIn K (.ref C) name = some (some (.ref f)) := by rfl)
    (hg : specialIn K (.ref f) "__get__" = some (some (.builtin "function.__get__")) := by rfl) (ht : takesIn K (.ref f) = some false := by rfl) (hc : copiedNames.contains name = false := by rfl) (ty : typeIn K (.ref f) = some (.type "function") := by rfl) : BindK K' C name f := hK ▸ ⟨ga, gt, hh, ha, hg, ht, hc, ty⟩
section
variable {W : Wd} {k : Nat} {A : Around} {env : Env} {s₀ : Shared} {P₀ H : Vw} {Γ : List (Str × D)} {Δ : List (Str × List D)} {Mx : List (Addr × MO)} {P : Vw} {s : Shared} {E : Value → Shared → Prop} {Q : Flow → Shared → Prop}
/-- z = iter(o.m, '..') -/
theorem s_iter {z y : Str} {o : Expr} {name : Str} {pz p1 p2 p3 p4 pos : Pos} {k3 : Nat} {x C dx f : Addr} {fs : List (Str × D)} {rest' : List Stmt} (X : At W k A env s₀ P₀ H Γ Δ ((dx, .dict fs) :: Mx) P s) (n : NmB W env "iter" (.builtin "iter")) (ho : Ev (W.at ((dx, .dict fs) :: Mx)) k env Γ Δ o (.inst x C dx)) (B : BindK W.K C name f) (hl : fs.lookup name = none) (hb : Bindable env z)
    (next : ∀ ci m t P' s', P' m = some (methodObj (.ref f) (.ref x)) → At W k A env s₀ P₀ H ((z, .pack ci [(m, methodObj (.ref f) (.ref x))]) :: rm z Γ) (rm z Δ) ((ci, .obj (ciObj (.ref m) (.str y t) (.bool false))) :: (dx, .dict fs) :: Mx) P' s' → wpAny W.M A (execs rest' env) Q E s')
    (he : attrForm o name p2 env := by with_unfolding_all rfl)
    (hs : swapsWith (.Call (.Name "iter" p1) [.Attribute o name p2, .Constant (.str y) k3 p3] [] p4) (some (.Name z pz)) pos.line env = pure false := by rfl) :
    wpAny W.M A (execs (.Assign [.Name z pz] (.Call (.Name "iter" p1) [.Attribute o name p2, .Constant (.str y) k3 p3] [] p4) pos :: rest') env) Q E s := by
  refine wpAny_execs_cons (wpAny_Assign_Name (wpAny_Call_Name_kw (name_bi X.b X.inn X.cx n ?_ (by decide))) hs)
  have hp' : [Expr.Attribute o name p2, .Constant (.str y) k3 p3].all plainE = true := by rfl
  refine callWith_builtin (plain_any hp') ?_
  rw [starEach_cons rfl, starEach_cons rfl]
  refine evalArgs_plain (spliced_cons (Attribute_any_ (ho A _ P s E _ X.st X.cx fun v P₁ s₁ g₁ tk₁ i₁ => ?_) he))
  have X1 := X.gr g₁ tk₁
  obtain ⟨rfl, hx⟩ := i₁.instI
  obtain ⟨m0, cv, ad, yy, _⟩ := X1.mnew
  obtain ⟨ob, hob, hi⟩ := yy.raw _ List.mem_cons_self
  obtain ⟨es, nn, rfl, hf⟩ := hi.dictI
  refine get_bind (Bs.frag X1.b X1.inn) (inst_at (X1.inn _ _ hx) hob) B.ga (PySem.W.findObj_fn B.hh B.ha B.hg B.ht B.hc (by rw [lookIn_dict]; exact hf.miss hl)) B.gt ?_
  refine wpAny_call (fn_get (s := { s₁ with toks := s₁.toks + 1 }) (Bs.frag X1.b X1.inn) B.ty (handed_on rfl ?_))
  refine spliced_cons (Constant_str (k := k3) (pos := p3) (spliced_nil ?_))
  have f0 : s₁.heap.get? s₁.heap.objs.size = none := Heap.get?_none_of_le (Nat.le_refl _)
  have qm : (s₁.heap.push (methodObj (.ref f) (.ref x))).get? s₁.heap.objs.size = some (methodObj (.ref f) (.ref x)) := Heap.get?_push_size _ rfl
  refine call_iter2 ⟨_, qm, rfl⟩ ?_
  have gm : Gr P₁ s₁ (addV P₁ s₁.heap.objs.size (methodObj (.ref f) (.ref x))) { s₁ with heap := s₁.heap.push (methodObj (.ref f) (.ref x)), toks := s₁.toks + 1 + 1 } := Gr.add (Gr.pushed X1.inn) f0 (none_size X1.inn) qm
  have X2 := X1.gr gm (Nat.le_add_left _ _)
  have X3 := At.own (a := (s₁.heap.push (methodObj (.ref f) (.ref x))).objs.size) (h' := (s₁.heap.push (methodObj (.ref f) (.ref x))).push (ciObj (.ref s₁.heap.objs.size) (.str y (s₁.toks + 1)) (.bool false))) (tk' := s₁.toks + 1 + 1) X2 (fun b o e => Heap.get?_push_of_some _ e) (Nat.le_add_left _ _) (Heap.get?_push_size _ rfl) (Heap.get?_none_of_le (Nat.le_refl _)) (.obj _)
  exact X3.name (.pack (l := [(s₁.heap.objs.size, methodObj (.ref f) (.ref x))]) fun p hp => by rw [List.mem_singleton.mp hp]; exact addV_at) hb fun s' X4 => next _ _ _ _ s' addV_at X4
theorem At.packP {z : Str} {a : Addr} {l : List (Addr × Obj)} (X : At W k A env s₀ P₀ H Γ Δ Mx P s) (h : (z, D.pack a l) ∈ Γ) : ∀ p ∈ l, P p.1 = some p.2 := by
  obtain ⟨v, _, i⟩ := X.cx.vars _ h
  exact i.packI.2
theorem At.instP {z : Str} {x C dx : Addr} (X : At W k A env s₀ P₀ H Γ Δ Mx P s) (h : (z, D.inst x C dx) ∈ Γ) : P x = some (instObj C dx) := by
  obtain ⟨v, _, i⟩ := X.cx.vars _ h
  exact i.instI.2
/-- the next item of an iterator among the owned objects -/
noncomputable def NxM (W : Wd) (k : Nat) (A : Around) (P : Vw) (v : Value) (r : Option D) (Mx Mx' : List (Addr × MO)) : Prop :=
  ∀ (s : Shared) (E : Value → Shared → Prop) (Q : Option Value → Shared → Prop) (S : Vw), St W k A S P s → Dv P s Mx →
    (∀ r' P' s', GrM (ads Mx) P s P' s' → 1 ≤ s'.toks → Dv P' s' Mx' → (match r, r' with | some d, some u => Is P' u d | none, none => True | _, _ => False) → Q r' s') → wpAny W.M A (pyNext v) Q E s
/-- for x in z: .., z a callable iterator -/
theorem s_forM {x z : Str} {px pz pos : Pos} {body rest' : List Stmt} {ci : Addr} {lci : List (Addr × Obj)} {a0 b0 c0 : Value} (X : At W k A env s₀ P₀ H Γ Δ ((ci, .obj (ciObj a0 b0 c0)) :: Mx) P s) (hz : (z, D.pack ci lci) ∈ Γ) (hb : Bindable env x)
    (N : Nat) (J : Nat → Vw → List (Str × D) → List (Str × List D) → List (Addr × MO) → Prop) (hJ : J N P Γ Δ ((ci, .obj (ciObj a0 b0 c0)) :: Mx))
    (turn : ∀ n P' Γ' Δ' Mx' s', J n P' Γ' Δ' Mx' → At W k A env s₀ P₀ H Γ' Δ' Mx' P' s' → ∃ r M1 M2 R, Mx' = M1 ++ R ∧ ads M2 = ads M1 ∧ NxM (W.at []) k A P' (.ref ci) r M1 M2 ∧
      (match r with
      | none => ∀ P'' s'', Le P' P'' → At W k A env s₀ P₀ H Γ' Δ' (M2 ++ R) P'' s'' → wpAny W.M A (execs rest' env) Q E s''
      | some d => ∀ P'' s'' (E' : Value → Shared → Prop), Le P' P'' → At W k A env s₀ P₀ H ((x, d) :: rm x Γ') (rm x Δ') (M2 ++ R) P'' s'' → wpAny W.M A (execs body env) (ForMQ W k A env s₀ P₀ H Q J n) E' s''))
    (hd : (z == ("__debug__" : Str)) = false := by decide) (hn : (z == ("__classdict__" : Str)) = false := by decide) (hs : ∀ v, foldedSetIterable (.Name z pz) env v = pure v := by intro _; rfl) :
    wpAny W.M A (execs (.For (.Name x px) (.Name z pz) body [] pos :: rest') env) Q E s := by
  obtain ⟨v, nv0, iv0⟩ := X.cx.vars _ hz
  refine wpAny_execs_cons (wpAny_For (name_read X.fn X.st.sv nv0 ?_ hd hn) hs)
  obtain ⟨rfl, _⟩ := iv0.packI
  obtain ⟨m0, cv, ad, yy, _⟩ := X.mnew
  obtain ⟨ob, hob, hi⟩ := yy.raw _ List.mem_cons_self
  obtain rfl := hi.objI.symm
  refine pyIter_ci hob rfl ?_
  refine codeAny_forLoop (fun j s' => ∃ Γ' Δ' Mx' P', J j P' Γ' Δ' Mx' ∧ At W k A env s₀ P₀ H Γ' Δ' Mx' P' s') ?_ N ⟨Γ, Δ, _, P, hJ, X⟩
  rintro j s' ⟨Γ', Δ', Mx', P', hJ', X'⟩
  obtain ⟨r, M1, M2, R, rfl, ha, hnx, ht⟩ := turn j P' Γ' Δ' Mx' s' hJ' X'
  refine hnx s' _ _ _ X'.stM X'.dvM fun r' P'' s'' g tk dv h => ?_
  have X2 := X'.grM g tk dv ha
  cases r with
  | none =>
    cases r' with
    | some u => exact h.elim
    | none => exact wpAny_execs_nil (ht P'' s'' g.le X2)
  | some d =>
    cases r' with
    | none => exact h.elim
    | some u =>
      refine wpAny_assign_Name (X2.name h hb fun s3 X3 => ?_)
      refine wpAny_mono (ht P'' s3 _ g.le X3) (fun f s4 q => ?_) fun _ _ q => q
      cases f with
      | next => obtain ⟨n', Γ3, Δ3, M3, P3, h1, h2, h3⟩ := q; exact ⟨n', h1, Γ3, Δ3, M3, P3, h2, h3⟩
      | cont => obtain ⟨n', Γ3, Δ3, M3, P3, h1, h2, h3⟩ := q; exact ⟨n', h1, Γ3, Δ3, M3, P3, h2, h3⟩
      | brk => exact q.elim
      | ret v => exact q
end
end
section
/-! calls that give new owned objects -/
noncomputable abbrev OutT := D → List (Addr × MO) → List (Addr × MO) → Prop
noncomputable def KlX (W : Wd) (k : Nat) (f : Value) (ds : List D) (Mx : List (Addr × MO)) (Out : OutT) : Prop :=
  ∀ (A : Around) (S P : Vw) (s : Shared) (R : Result → Shared → Prop) (vs : List Value), St W k A S P s → IsAll P vs ds → Dv P s Mx →
    (∀ v P' s' d Mx' N, Out d Mx' N → ads Mx' = ads Mx → GrM (ads Mx) P s P' s' → 1 ≤ s'.toks → Dv P' s' (Mx' ++ N) → (∀ p ∈ N, s.heap.get? p.1 = none) → Is P' v d → R (.ok (.ret v)) s') → codeAny W.M A (.call f ⟨vs, []⟩) R s
noncomputable def ClX (W : Wd) (k : Nat) (f : Value) (ds : List D) (Mx : List (Addr × MO)) (Out : OutT) : Prop :=
  ∀ (A : Around) (S P : Vw) (s : Shared) (E Q : Value → Shared → Prop) (vs : List Value), St W k A S P s → IsAll P vs ds → Dv P s Mx →
    (∀ v P' s' d Mx' N, Out d Mx' N → ads Mx' = ads Mx → GrM (ads Mx) P s P' s' → 1 ≤ s'.toks → Dv P' s' (Mx' ++ N) → (∀ p ∈ N, s.heap.get? p.1 = none) → Is P' v d → Q v s') → wpAny W.M A (call f vs) Q E s
theorem KlX.cl {W : Wd} {k : Nat} {f : Value} {ds : List D} {Mx : List (Addr × MO)} {Out : OutT} (h : KlX W k f ds Mx Out) : ClX W k f ds Mx Out := fun A S P s E Q vs st i dv hQ =>
  wpAny_call (h A S P s _ vs st i dv fun v P' s' d Mx' N o a g tk dv' fr i' => hQ v P' s' d Mx' N o a g tk dv' fr i')
noncomputable def FinX (W : Wd) (k : Nat) (A : Around) (env : Env) (s₀ : Shared) (P₀ H : Vw) (Mx : List (Addr × MO)) (Out : OutT) (fl : Flow) (s' : Shared) : Prop :=
  ∃ P' Γ' Δ' Mx' N rest d, At W k A env s₀ P₀ H Γ' Δ' ((Mx' ++ N) ++ rest) P' s' ∧ Out d Mx' N ∧ ads Mx' = ads Mx ∧ (∀ p ∈ N, s₀.heap.get? p.1 = none) ∧ Is P' (match fl with | .ret v => v | _ => .none) d
theorem klx_fn {W : Wd} {k : Nat} {f : Addr} {fd : FuncData} {body : List Stmt} {names : List Str} {ds : List D} {Mx : List (Addr × MO)} {Out : OutT} (F : ∀ P, W.B P → FnIn W P f fd body names) (hl : ds.length = names.length)
    (hb : ∀ A L s₀ P₀ P s, Le P₀ P → At W k A (callEnvC fd L f) s₀ P₀ (offX (ads Mx) s₀.heap) (names.zip ds) [] Mx P s →
      wpAny W.M A (execs body (callEnvC fd L f)) (FinX W k A (callEnvC fd L f) s₀ P₀ (offX (ads Mx) s₀.heap) Mx Out) (fun _ _ => False) s) : KlX W (k + 1) (.ref f) ds Mx Out := by
  intro A S P s R vs st i dv hQ
  have F := F P st.b
  obtain ⟨o, ho, hd⟩ := F.has
  have T := st.b.top s.heap st.p
  refine codeAny_call_function (Nat.lt_of_le_of_lt (Nat.le_add_right _ _) st.a.2.1) (st.p _ _ ho) hd F.co F.gen F.body (codeRec_of (Bs.frag st.b st.p) F.code) ?_
  rw [F.bind vs (i.length.trans hl), F.clo]
  refine wpAny_pure (wp_tk st.tk (wpAny_newFunctionEnv_cells F.fn (fun x hx => ?_) fun env he s' x tk => ?_))
  · have hx1 := (List.of_mem_zip (a := x.1) (b := x.2) hx).1
    rcases F.kind x.1 hx1 with h | ⟨h, hc⟩
    · exact .inl h
    · refine .inr ⟨h, ?_⟩
      have := cellsFrom_names fd.scope.names (s.heap.objs.size + 1) []
      rw [List.map_nil, List.append_nil] at this
      obtain ⟨p, hp, hpe⟩ := List.mem_map.mp (this.mem_iff.mpr hc)
      have hcn := this.nodup_iff.mpr F.cnd
      rw [← hpe, lookup_of_mem hcn hp]; rfl
  · subst he
    refine ⟨T.nolimit.keeps x.toInCall.keep, codeAny_func (wpAny_mono (hb _ s.heap.objs.size s P P s' (Le.refl _) (at_enter F.pre st i hl dv tk x)) (fun fl s'' hf => ?_) fun _ _ h => h.elim)⟩
    obtain ⟨P', Γ', Δ', Mx', N, rest, d, Y, hO, ha, hN, hi⟩ := hf
    have g := Y.leaveH rfl
    obtain ⟨m, cv, ad, y, _⟩ := Y.mnew
    refine hQ _ P' s'' d Mx' N hO ha g Y.tk ⟨fun p hp => y.raw p (List.mem_append_left _ hp), ?_, fun p hp => y.offP p.1 ?_⟩ hN hi
    · have h1 := (List.nodup_append.mp (List.nodup_cons.mp y.nd).2).2.1
      have h2 := (List.nodup_append.mp h1).2.1
      rw [List.map_append] at h2
      exact (List.nodup_append.mp h2).1
    · exact List.mem_cons_of_mem _ (List.mem_append_right _ (List.mem_append_right _ (List.mem_map_of_mem (List.mem_append_left _ hp))))
section
variable {W : Wd} {k : Nat} {A : Around} {env : Env} {s₀ : Shared} {P₀ H : Vw} {Γ : List (Str × D)} {Δ : List (Str × List D)} {Mx Mx' rest : List (Addr × MO)} {P : Vw} {s : Shared} {E : Value → Shared → Prop} {Q : Flow → Shared → Prop}
theorem At.takeN {N : List (Addr × MO)} (X : At W k A env s₀ P₀ H Γ Δ Mx P s) (hno : ∃ m cv ad, AtX env Γ Δ Mx H P m cv ad s.heap ∧ ∀ p ∈ N, p.1 ∉ ownOf env Δ ad Mx) (nd : (ads N).Nodup) (pN : ∀ p ∈ N, P p.1 = none) (qN : ∀ p ∈ N, H p.1 = none) (has : ∀ p ∈ N, ∃ o, s.heap.get? p.1 = some o ∧ MIs P o p.2) :
    At W k A env s₀ P₀ H Γ Δ (N ++ Mx) P s := by
  obtain ⟨m, cv, ad, y, hn⟩ := X.mnew
  have off : ∀ p ∈ N, p.1 ∉ ownOf env Δ ad Mx := by
    obtain ⟨m', cv', ad', y', h⟩ := hno
    rw [AtX.unique y y']; exact h
  have own : (ownOf env Δ ad (N ++ Mx)).Perm (ads N ++ ownOf env Δ ad Mx) := by
    unfold ownOf ads
    rw [List.map_append]
    have : (env.locals :: (env.cells.map (·.2) ++ (Δ.map (fun p => ad p.1) ++ (N.map (·.1) ++ Mx.map (·.1))))) = (env.locals :: (env.cells.map (·.2) ++ Δ.map (fun p => ad p.1))) ++ (N.map (·.1) ++ Mx.map (·.1)) := by simp
    rw [this]
    have e2 : (env.locals :: (env.cells.map (·.2) ++ (Δ.map (fun p => ad p.1) ++ Mx.map (·.1)))) = (env.locals :: (env.cells.map (·.2) ++ Δ.map (fun p => ad p.1))) ++ Mx.map (·.1) := by simp
    rw [e2, ← List.append_assoc, ← List.append_assoc]
    exact List.Perm.append List.perm_append_comm (List.Perm.refl _)
  refine { X with mnew := ⟨m, cv, ad, ⟨y.ns, y.cells, y.vars, y.muts, fun p hp => ?_, own.nodup_iff.mpr (List.nodup_append.mpr ⟨nd, y.nd, fun a ha b hb e => ?_⟩), y.cnd, fun b hb => ?_, fun b hb => ?_⟩, hn⟩ }
  · rcases List.mem_append.mp hp with hp | hp
    · exact has p hp
    · exact y.raw p hp
  · obtain ⟨p, hp, rfl⟩ := List.mem_map.mp ha
    exact off p hp (e ▸ hb)
  · rcases List.mem_append.mp (own.subset hb) with hb | hb
    · obtain ⟨p, hp, rfl⟩ := List.mem_map.mp hb
      exact pN p hp
    · exact y.offP b hb
  · rcases List.mem_append.mp (own.subset hb) with hb | hb
    · obtain ⟨p, hp, rfl⟩ := List.mem_map.mp hb
      exact qN p hp
    · exact y.offH b hb
noncomputable def EvX (W : Wd) (k : Nat) (env : Env) (Γ : List (Str × D)) (Δ : List (Str × List D)) (e : Expr) (Mx : List (Addr × MO)) (Out : OutT) : Prop :=
  ∀ (A : Around) (S P : Vw) (s : Shared) (E Q : Value → Shared → Prop), St W k A S P s → Cx S P env Γ Δ → Dv P s Mx → (∀ p ∈ Mx, S p.1 = none) →
    (∀ v P' s' d Mx' N, Out d Mx' N → ads Mx' = ads Mx → GrM (ads Mx) P s P' s' → 1 ≤ s'.toks → Dv P' s' (Mx' ++ N) → (∀ p ∈ N, s.heap.get? p.1 = none) → Is P' v d → Q v s') → wpAny W.M A (eval e env) Q E s
theorem evx_callF {x : Str} {f : Addr} {p pos : Pos} {args : List Expr} {ds : List D} {Out : OutT} (n : NmG W env x (.ref f)) (F : FnK W.K f) (h : Evs W k env Γ Δ args ds) (hc : ClX W k (.ref f) ds Mx Out)
    (hA : args = [] → ds = [] := by intro h; first | rfl | cases h) (hp : args.all plainE = true := by rfl) (hd : (x == ("__debug__" : Str)) = false := by decide) : EvX W k env Γ Δ (.Call (.Name x p) args [] pos) Mx Out := fun A S P s E Q st hC dv hoff hQ => by
  refine wpAny_Call_Name_kw (name_gl st.b st.p hC n ?_ hd)
  exact callWith_fn F hp st hC h hA fun vs P₁ s₁ g₁ tk₁ i₁ => hc A S P₁ s₁ E Q vs (st.next g₁ tk₁) i₁ (dv.gr g₁) fun v P₂ s₂ d Mx' N o a g₂ tk₂ dv₂ fr i₂ => hQ v P₂ s₂ d Mx' N o a ((g₁.m _).trans g₂) tk₂ dv₂ (fun q hq => none_of_old g₁.old (fr q hq)) i₂
/-- C(e): e gives new owned objects, and so does the class -/
theorem evx_callC {x : Str} {C : Addr} {p pos : Pos} {e : Expr} {O1 : OutT} {O2 : D → OutT} (n : NmG W env x (.ref C)) (hk : keepIn W.K (.ref C) = true) (h : EvX W k env Γ Δ e Mx O1) (hc : ∀ d Mx' N, O1 d Mx' N → ClX W k (.ref C) [d] [] (O2 d))
    (hpe : plainE e = true := by rfl) (hd : (x == ("__debug__" : Str)) = false := by decide) : EvX W k env Γ Δ (.Call (.Name x p) [e] [] pos) Mx (fun d2 Mx' N => ∃ d1 N1 N2, O1 d1 Mx' N1 ∧ O2 d1 d2 [] N2 ∧ N = N2 ++ N1) := fun A S P s E Q st hC dv hoff hQ => by
  refine wpAny_Call_Name_kw (name_gl st.b st.p hC n ?_ hd)
  have he : starEach [e] env = (false, eval e env) :: starEach [] env := starEach_cons hpe
  refine callWith_K (h₀ := s.heap) (Bs.frag st.b st.p) hk ?_ he rfl
  rw [he]
  refine spliced_cons (h A S P s E _ st hC dv hoff fun v P₁ s₁ d Mx' N o ha g tk dv' fr i => spliced_nil ?_)
  refine ⟨Bs.frag (st.b.up g.le) g.inn, ?_⟩
  have nS : ∀ b o, S b = some o → b ∉ ads Mx := fun b o e hm => by
    obtain ⟨p, hp, rfl⟩ := List.mem_map.mp hm
    rw [hoff p hp] at e; cases e
  have st1 : St W k A S P₁ s₁ := ⟨st.a, st.b.up g.le, fun b o e => g.old b o (nS b o e) (st.sv _ _ e), g.inn, tk, fun p hp => (st.rw p hp).imp fun o hh => ⟨hh.1, hh.2.mono g.le⟩⟩
  refine hc d Mx' N o A S P₁ s₁ E Q [v] st1 (.cons i .nil) ⟨fun p hp => (nomatch hp), List.nodup_nil, fun p hp => (nomatch hp)⟩ fun v2 P₂ s₂ d2 M2 N2 o2 ha2 g2 tk2 dv2 fr2 i2 => ?_
  obtain rfl : M2 = [] := List.map_eq_nil_iff.mp ha2
  have gg := GrM.gr g2
  have dvA := dv'.gr gg
  have dvJ : Dv P₂ s₂ ((Mx' ++ N) ++ N2) := by
    refine ⟨fun q hq => ?_, ?_, fun q hq => ?_⟩
    · rcases List.mem_append.mp hq with hq | hq
      · exact dvA.has q hq
      · exact dv2.has q hq
    · unfold ads
      rw [List.map_append]
      refine List.nodup_append.mpr ⟨dvA.nd, dv2.nd, fun a ha b hb e => ?_⟩
      obtain ⟨q, hq, rfl⟩ := List.mem_map.mp ha
      obtain ⟨r, hr, rfl⟩ := List.mem_map.mp hb
      obtain ⟨o, z, _⟩ := dv'.has q hq
      rw [e, fr2 r hr] at z; cases z
    · rcases List.mem_append.mp hq with hq | hq
      · exact dvA.off q hq
      · exact dv2.off q hq
  refine hQ v2 P₂ s₂ d2 Mx' (N2 ++ N) ⟨d, N, N2, o, o2, rfl⟩ ha (g.trans (gg.m _)) tk2 (dvJ.perm ?_) (fun q hq => ?_) i2
  · rw [List.append_assoc]
    exact List.Perm.append (List.Perm.refl _) List.perm_append_comm
  · rcases List.mem_append.mp hq with hq | hq
    · cases e : s.heap.get? q.1 with
      | none => rfl
      | some o => obtain ⟨o', z⟩ := g.ext _ _ e; rw [fr2 q hq] at z; cases z
    · exact fr q hq
theorem s_setX {x : Str} {p pos : Pos} {e : Expr} {rest' : List Stmt} {Out : OutT} (X : At W k A env s₀ P₀ H Γ Δ (Mx ++ rest) P s) (hv : EvX (W.at []) k env Γ Δ e Mx Out) (hb : Bindable env x)
    (next : ∀ d Mx' N P' s', Out d Mx' N → ads Mx' = ads Mx → At W k A env s₀ P₀ H ((x, d) :: rm x Γ) (rm x Δ) (N ++ (Mx' ++ rest)) P' s' → wpAny W.M A (execs rest' env) Q E s')
    (hs : swapsWith e (some (.Name x p)) pos.line env = pure false := by rfl) : wpAny W.M A (execs (.Assign [.Name x p] e pos :: rest') env) Q E s :=
  wpAny_execs_cons (wpAny_Assign_Name (hv A _ P s E _ X.stM X.cxM X.dvM (fun p hp => offX_none (List.mem_map_of_mem hp)) fun v P' s' d Mx' N o ha g tk dv fr i => by
    have dv1 := dv.app
    have X1 := X.grM g tk dv1.1 ha
    obtain ⟨m, cv, ad, y, hn, ho⟩ := X.grM_own g dv1.1 ha
    have X2 := X1.takeN (N := N) ⟨m, cv, ad, y, fun q hq => ho _ (fr q hq)⟩ dv1.2.1.nd dv1.2.1.off (fun q hq => (X.none₀ (fr q hq)).2) dv1.2.1.has
    exact X2.name i hb fun s'' X'' => next d Mx' N P' s'' o ha X'') hs)
end
/-- a class is called: a new object whose fields turn -/
theorem clx_make {W : Wd} {k : Nat} {C f : Addr} {ds : List D} {Out0 : List (Str × D) → List (Addr × MO) → Prop} (hm : makesIn W.K C = true) (hi : findIn W.K (.ref C) "__init__" = some (some (.ref f))) (hf : typeIn W.K (.ref f) = some (.type "function"))
    (hc : ∀ x dx, KlX W k (.ref f) (.inst x C dx :: ds) [(dx, .dict [])] (fun d Mx' N => d = .none ∧ ∃ fs, Mx' = [(dx, .dict fs)] ∧ Out0 fs N)) : ClX W (k + 1) (.ref C) ds [] (fun d Mx' N => ∃ x dx fs N0, d = .inst x C dx ∧ Mx' = [] ∧ N = (dx, .dict fs) :: N0 ∧ Out0 fs N0) := fun A S P s E Q vs st i dv0 hQ => by
  have X := Bs.frag st.b st.p
  obtain ⟨hh, g, d, t, os⟩ := s
  refine wpAny_call (make_core (makes_of X hm) (looks_findIn X hi) (fun self => bind_fn X self hf) (.inl rfl) ?_)
  have hs1 : (hh.push emptyDict).objs.size = hh.objs.size + 1 := Heap.size_push ..
  have k1 : ∀ b o, hh.get? b = some o → ((hh.push emptyDict).push (instObj C hh.objs.size)).get? b = some o := fun b o e => Heap.get?_push_of_some _ (Heap.get?_push_of_some _ e)
  have hx : ((hh.push emptyDict).push (instObj C hh.objs.size)).get? (hh.objs.size + 1) = some (instObj C hh.objs.size) := by
    have := Heap.get?_push_size (hh.push emptyDict) (o := instObj C hh.objs.size) rfl
    rwa [hs1] at this
  have hd : ((hh.push emptyDict).push (instObj C hh.objs.size)).get? hh.objs.size = some emptyDict := Heap.get?_push_of_some _ (Heap.get?_push_size _ rfl)
  have f0 : hh.get? hh.objs.size = none := Heap.get?_none_of_le (Nat.le_refl _)
  have f1 : hh.get? (hh.objs.size + 1) = none := Heap.get?_none_of_le (Nat.le_succ _)
  have pn : ∀ b, hh.get? b = none → P b = none := fun b e => none_of_in (h := hh) st.p e
  have inn1 : In (addV P (hh.objs.size + 1) (instObj C hh.objs.size)) ((hh.push emptyDict).push (instObj C hh.objs.size)) := addV_in (fun b o e => k1 b o (st.p _ _ e)) hx
  have le1 : Le P (addV P (hh.objs.size + 1) (instObj C hh.objs.size)) := addV_le (pn _ f1)
  have hne : hh.objs.size ≠ hh.objs.size + 1 := Nat.ne_of_lt (Nat.lt_succ_self _)
  have st1 : St W k (A.under (.builtin "type.__call__" ⟨.ref C :: vs, []⟩)) S (addV P (hh.objs.size + 1) (instObj C hh.objs.size)) ⟨(hh.push emptyDict).push (instObj C hh.objs.size), g, d, t, os⟩ := by
    refine ⟨⟨st.a.1, ?_, ?_⟩, st.b.up le1, fun b o e => k1 b o (st.sv _ _ e), inn1, st.tk, fun p hp => (st.rw p hp).imp fun o hh => ⟨hh.1, hh.2.mono le1⟩⟩
    · have h1 := st.a.2.1
      have h2 : (Code.builtin "type.__call__" ⟨Value.ref C :: vs, []⟩).weight = 1 := by with_unfolding_all rfl
      show A.depth + (Code.builtin "type.__call__" ⟨Value.ref C :: vs, []⟩).weight + k < _
      rw [h2]; exact ar_depth h1
    · have h1 := st.a.2.2
      have h2 : (Code.builtin "type.__call__" ⟨Value.ref C :: vs, []⟩).cUnits = 1 := by with_unfolding_all rfl
      show A.units + (Code.builtin "type.__call__" ⟨Value.ref C :: vs, []⟩).cUnits + 8 * k + 64 < _
      rw [h2]; exact ar_units (by decide) h1
  refine hc (hh.objs.size + 1) hh.objs.size _ S _ _ _ (.ref (hh.objs.size + 1) :: vs) st1 (.cons (.inst addV_at) (i.mono le1)) ⟨fun p hp => ?_, by simp [ads], fun p hp => ?_⟩ fun v P' s' d' Mx' N hO ha g' tk' dv' fr' i' => ?_
  · cases List.mem_singleton.mp hp
    exact ⟨_, hd, .dict (es := []) (n := 0) .nil⟩
  · cases List.mem_singleton.mp hp
    show addV P (hh.objs.size + 1) (instObj C hh.objs.size) hh.objs.size = none
    rw [addV_ne hne]; exact pn _ f0
  · obtain ⟨rfl, fs, rfl, hO⟩ := hO
    obtain rfl := i'.noneI
    refine ⟨rfl, ?_⟩
    have key : ∀ b o, hh.get? b = some o → s'.heap.get? b = some o := fun b o e => g'.old b o (fun hb => by
      rw [List.mem_singleton.mp hb, f0] at e; cases e) (k1 b o e)
    refine hQ _ P' s' (.inst (hh.objs.size + 1) C hh.objs.size) [] ((hh.objs.size, .dict fs) :: N) ⟨_, _, fs, N, rfl, rfl, rfl, hO⟩ rfl ⟨le1.trans g'.le, g'.inn, fun b o _ e => key b o e, fun b o e => ⟨o, key b o e⟩, fun b o e => ?_, g'.gens, g'.drawn, g'.os⟩ tk' dv' (fun p hp => ?_) (.inst (g'.le _ _ addV_at))
    · rcases g'.new b o e with z | z
      · by_cases hb1 : b = hh.objs.size + 1
        · subst hb1; exact .inr f1
        · rw [addV_ne hb1] at z; exact .inl z
      · exact .inr (none_of_old k1 z)
    · rcases List.mem_cons.mp hp with rfl | hp
      · exact f0
      · exact none_of_old k1 (fr' p hp)
section
variable {W : Wd} {k : Nat} {A : Around} {env : Env} {s₀ : Shared} {P₀ H : Vw} {Γ : List (Str × D)} {Δ : List (Str × List D)} {Mx Mx' rest : List (Addr × MO)} {P : Vw} {s : Shared} {E : Value → Shared → Prop} {Q : Flow → Shared → Prop}
/-- self.x = [..], a list that turns -/
theorem s_setattrN {o : Expr} {name : Str} {p pos : Pos} {e : Expr} {rest' : List Stmt} {x C dx : Addr} {fs : List (Str × D)} {ds : List D} (X : At W k A env s₀ P₀ H Γ Δ ((dx, .dict fs) :: Mx) P s) (hv : EvN (W.at ((dx, .dict fs) :: Mx)) k env Γ Δ e ds) (ho : Ev (W.at ((dx, .dict fs) :: Mx)) k env Γ Δ o (.inst x C dx)) (G : SetK W.K C name)
    (next : ∀ a P' s', s₀.heap.get? a = none → At W k A env s₀ P₀ H Γ Δ ((dx, .dict (putF name (.raw a) fs)) :: (a, .list ds) :: Mx) P' s' → wpAny W.M A (execs rest' env) Q E s')
    (hz : Nat.ble fs.length 900 = true := by rfl) (hs : swapsWith e (some (.Attribute o name p)) pos.line env = pure false := by rfl) : wpAny W.M A (execs (.Assign [.Attribute o name p] e pos :: rest') env) Q E s := by
  refine wpAny_execs_cons (plainObj_wpAny_Assign_Attribute (hv A _ P s E _ X.st X.cx fun a vs n P1 s1 g1 tk1 h0 h1 h2 i1 => ho A _ P1 s1 E _ (X.st.next g1 tk1) (X.cx.up (Le.refl _) g1.le) fun ov P2 s2 g2 tk2 i2 => ?_) hs)
  have X2 := (X.gr g1 tk1).gr g2 tk2
  have pa := (gr_none g2 ⟨h1, _, h2⟩).1
  obtain ⟨m0, cv0, ad0, y0, _, ho0⟩ := X.gr_own (g1.trans g2)
  have X3 := (X2.take (mo := .list ds) pa (X.none₀ h0).2 ⟨m0, cv0, ad0, y0, ho0 a h0⟩ (g2.old _ _ h2) (.list (i1.mono g2.le))).permM (List.Perm.swap ..)
  obtain ⟨rfl, hx⟩ := i2.instI
  obtain ⟨m, cv, ad, y, hn⟩ := X3.mnew
  obtain ⟨ob, hq, hi⟩ := y.raw _ List.mem_cons_self
  obtain ⟨es, n, rfl, hf⟩ := hi.dictI
  refine set_raw (Bs.frag X2.b X2.inn) G (X2.inn _ _ hx) hq ?_ (by rw [hf.length]; exact Nat.le_of_ble_eq_true hz) fun hs' t h' n' hb he => ?_
  · cases q : fs.lookup name with
    | none => rw [hf.miss q]; rfl
    | some d' => obtain ⟨u, hu, _⟩ := hf.get q; rw [hu]; rfl
  · exact next a P2 _ (X.none₀ h0).1 (X3.turnR (o' := .dict (putF name (.raw a) fs)) (Nat.le_trans tk2 (Nat.le_add_right _ _)) (fun b o nb e => hb.extBut b o nb e) he (.dict (hf.put (.raw a))))
end
end
section
/-! lists reached through a field -/
section
variable {W : Wd} {k : Nat} {A : Around} {env : Env} {s₀ : Shared} {P₀ H : Vw} {Γ : List (Str × D)} {Δ : List (Str × List D)} {Mx : List (Addr × MO)} {P : Vw} {s : Shared} {E : Value → Shared → Prop} {Q : Flow → Shared → Prop}
theorem ts_rawlist {e : Expr} {a : Addr} {ds : List D} (h1 : Ev W k env Γ Δ e (.raw a)) (hm : (a, MO.list ds) ∈ W.raws) (hl : ds.length < 2 ^ 62) (hp : isTrue e env (eval e env) = (do let v ← eval e env; standAt e.pos; holding [v] (truthy v)) := by rfl) : Ts W k env Γ Δ e (!ds.isEmpty) :=
  ts_plain h1 (fun A S P s E Q v st i hQ => by
    obtain rfl := i.rawI
    obtain ⟨o, e, i⟩ := st.rw _ hm
    obtain ⟨vs, n, rfl, iv⟩ := i.listI
    have hl' : s.heap.IsList a vs.toArray := ⟨_, st.sv _ _ e, rfl, n, rfl⟩
    refine wpAny_truthy_list hl' (by rw [List.size_toArray, iv.length]; omega) ?_
    have : (!vs.toArray.isEmpty) = !ds.isEmpty := by
      have := iv.length
      cases vs <;> cases ds <;> simp_all
    rw [this]
    exact hQ P _ (Gr.toks st.p)) hp
theorem isAll_erase {vs : List Value} {ds : List D} (j : Nat) (h : IsAll P vs ds) : IsAll P (vs.eraseIdx j) (ds.eraseIdx j) := by
  induction vs generalizing ds j with
  | nil => rw [h.nilV]; exact .nil
  | cons v vs ih =>
    obtain ⟨e, es, rfl, a, r⟩ := h.consV
    cases j with
    | zero => exact r
    | succ j => exact .cons a (ih j r)
/-- return o.pop(i) -/
theorem s_retPop {o ie : Expr} {ap pos p : Pos} {rest' : List Stmt} {a : Addr} {ds : List D} {d : D} {i : Int} {j : Nat} (X : At W k A env s₀ P₀ H Γ Δ ((a, .list ds) :: Mx) P s) (ho : Ev (W.at ((a, .list ds) :: Mx)) k env Γ Δ o (.raw a)) (hi : Ev (W.at ((a, .list ds) :: Mx)) k env Γ Δ ie (.int i)) (hj : seqIndex? i ds.length = some j) (hd : ds[j]? = some d) (hsz : ds.length ≤ sizeLine) (hf : Builtin.List.listFitsIndex i = true := by decide)
    (next : ∀ v P' s', At W k A env s₀ P₀ H Γ Δ ((a, .list (ds.eraseIdx j)) :: Mx) P' s' → Is P' v d → Q (.ret v) s')
    (hp : plainE ie = true := by rfl) (hbase : attributeBase o "pop" env (eval o env) = eval o env := by rfl) (hline : (ap.endLine == pos.line) = true := by decide) :
    wpAny W.M A (execs (.Return (some (.Call (.Attribute o "pop" ap) [ie] [] pos)) p :: rest') env) Q E s := by
  refine wpAny_execs_cons (wpAny_Return_some ?_)
  have hpl : [ie].all plainE = true := by simp [hp]
  refine wpAny_Call_method hbase (few_ok hpl (by simp)) hline F.plainAttrs_list F.slot_list_pop F.type_list_pop (ho A _ P s E _ X.st X.cx fun v P1 s1 g1 tk1 i1 => ?_)
  obtain rfl := i1.rawI
  have X1 := X.gr g1 tk1
  obtain ⟨m, cv, ad, y, hnn⟩ := X1.mnew
  obtain ⟨ob, q, im⟩ := y.raw _ List.mem_cons_self
  obtain ⟨vs, n, rfl, iv⟩ := im.listI
  refine ⟨⟨_, q, rfl⟩, fun b hb => by cases hb; exact ⟨_, q, rfl⟩, ?_⟩
  refine callWith_builtin (plain_any hpl) ?_
  rw [starEach_cons hp]
  refine evalArgs_plain (spliced_cons (hi A _ P1 s1 E _ X1.st X1.cx fun u P2 s2 g2 tk2 i2 => spliced_nil ?_))
  obtain ⟨t, rfl⟩ := Is.intI i2
  have q2 := g2.old _ _ q
  have iv2 := iv.mono g2.le
  have hlen : vs.toArray.size = ds.length := by rw [List.size_toArray, iv.length]
  have hjl : j < vs.length := by rw [iv.length]; exact (List.getElem?_eq_some_iff.mp hd).1
  obtain ⟨v, hv, iv3⟩ := iv2.get hd
  refine call_meets (s := s2) F.slot_list_pop ⟨_, q2, rfl⟩ F.entry_list_pop (F.args_list_pop_2 _ _) (PySem.MeetsSeq.list_pop_at a vs.toArray n i t j v hf (by rw [hlen]; exact hj) (by simpa using hv) (by rw [hlen]; exact hsz)) ⟨q2, ?_⟩
  have hu := Heap.get?_update_self (Obj.mapSeq fun xs => xs.eraseIdxIfInBounds j) q2 (by simp [PySem.W.listOf, Obj.mapSeq, Obj.isFreed])
  have hobj : ∃ n', Obj.mapSeq (fun xs => xs.eraseIdxIfInBounds j) (listOf vs.toArray n) = listOf (vs.eraseIdx j).toArray n' := by
    refine ⟨if (vs.toArray.eraseIdxIfInBounds j).size == vs.toArray.size then n else n + 1, ?_⟩
    have e : vs.toArray.eraseIdxIfInBounds j = (vs.eraseIdx j).toArray := by simp [Array.eraseIdxIfInBounds, hjl]
    simp only [PySem.W.listOf, Obj.mapSeq]
    exact congrArg (fun ys => ({ cls := .type "list", data := .seq ys (if (vs.toArray.eraseIdxIfInBounds j).size == vs.toArray.size then n else n + 1) } : Obj)) e
  obtain ⟨n', hobj⟩ := hobj
  rw [hobj] at hu
  exact next v P2 _ (At.turnR (o' := .list (ds.eraseIdx j)) (X1.gr g2 tk2) tk2 (fun b o nb e => (Heap.SameBut.update ..).extBut b o nb e) hu (.list (isAll_erase j iv2))) iv3
/-- o.append(e) -/
theorem s_appendR {o e : Expr} {ap pos p : Pos} {rest' : List Stmt} {a : Addr} {ds : List D} {d : D} (X : At W k A env s₀ P₀ H Γ Δ ((a, .list ds) :: Mx) P s) (ho : Ev (W.at ((a, .list ds) :: Mx)) k env Γ Δ o (.raw a)) (hv : Ev (W.at ((a, .list ds) :: Mx)) k env Γ Δ e d) (hsz : ds.length ≤ sizeLine)
    (next : ∀ P' s', At W k A env s₀ P₀ H Γ Δ ((a, .list (ds ++ [d])) :: Mx) P' s' → wpAny W.M A (execs rest' env) Q E s')
    (hp : plainE e = true := by rfl) (hbase : attributeBase o "append" env (eval o env) = eval o env := by rfl) (hline : (ap.endLine == pos.line) = true := by decide)
    (hi : interactive env = false := by rfl) (hsw : swapsWith (.Call (.Attribute o "append" ap) [e] [] pos) none p.line env = pure false := by rfl) :
    wpAny W.M A (execs (.Expr (.Call (.Attribute o "append" ap) [e] [] pos) p :: rest') env) Q E s := by
  refine wpAny_execs_cons (wpAny_Expr ?_ hi hsw)
  have hpl : [e].all plainE = true := by simp [hp]
  refine wpAny_Call_method hbase (few_ok hpl (by simp)) hline F.plainAttrs_list F.slot_list_append F.type_list_append (ho A _ P s E _ X.st X.cx fun v P1 s1 g1 tk1 i1 => ?_)
  obtain rfl := i1.rawI
  have X1 := X.gr g1 tk1
  obtain ⟨m, cv, ad, y, hnn⟩ := X1.mnew
  obtain ⟨ob, q, im⟩ := y.raw _ List.mem_cons_self
  obtain ⟨vs, n, rfl, iv⟩ := im.listI
  refine ⟨⟨_, q, rfl⟩, fun b hb => by cases hb; exact ⟨_, q, rfl⟩, ?_⟩
  refine callWith_builtin (plain_any hpl) ?_
  rw [starEach_cons hp]
  refine evalArgs_plain (spliced_cons (hv A _ P1 s1 E _ X1.st X1.cx fun u P2 s2 g2 tk2 i2 => spliced_nil ?_))
  refine append_at (hsz := by rw [List.size_toArray, iv.length]; exact hsz) (g2.old _ _ q) fun h' hs' he' => ?_
  exact next P2 _ (At.turnR (o' := .list (ds ++ [d])) (X1.gr g2 tk2) tk2 (fun b o n e => hs'.extBut b o n e) he' (by
    have := (iv.mono g2.le).append (.cons i2 .nil)
    have e : ({ cls := .type "list", data := .seq (vs.toArray.push u) (n + 1) } : Obj) = listOf (vs ++ [u]).toArray (n + 1) := by simp [PySem.W.listOf]
    rw [e]; exact .list this))
/-- o.x op= e -/
theorem s_augattr {o e : Expr} {name : Str} {tp pos : Pos} {op : Operator} {rest' : List Stmt} {x C dx : Addr} {fs : List (Str × D)} {a b d : D} (X : At W k A env s₀ P₀ H Γ Δ ((dx, .dict fs) :: Mx) P s) (ho : Ev (W.at ((dx, .dict fs) :: Mx)) k env Γ Δ o (.inst x C dx)) (G : GetK W.K C name) (T : SetK W.K C name) (hl : fs.lookup name = some a) (hv : Ev (W.at ((dx, .dict fs) :: Mx)) k env Γ Δ e b) (hop : Op2 (W.at ((dx, .dict fs) :: Mx)) k (inplaceOp op) a b d)
    (next : ∀ P' s', At W k A env s₀ P₀ H Γ Δ ((dx, .dict (putF name d fs)) :: Mx) P' s' → wpAny W.M A (execs rest' env) Q E s') (hz : Nat.ble fs.length 900 = true := by rfl) :
    wpAny W.M A (execs (.AugAssign (.Attribute o name tp) op e pos :: rest') env) Q E s := by
  refine wpAny_execs_cons (wpAny_AugAssign_AttributeAny (ho A _ P s E _ X.st X.cx fun v P1 s1 g1 tk1 i1 => ?_))
  obtain ⟨rfl, hx⟩ := i1.instI
  have X1 := X.gr g1 tk1
  obtain ⟨m, cv, ad, y, hnn⟩ := X1.mnew
  obtain ⟨ob, q, im⟩ := y.raw _ List.mem_cons_self
  obtain ⟨es, n, rfl, hf⟩ := im.dictI
  obtain ⟨u, hu, hiu⟩ := hf.get hl
  obtain ⟨attr, ha, hn⟩ := G.at_
  refine get_value (Bs.frag X1.b X1.inn) (inst_at (X1.inn _ _ hx) q) G.ga (findObj_own G.hh ha hn (by rw [lookIn_dict]; exact hu)) (handed_of hiu) ?_
  have X2 := X1.gr (Gr.toks (tk := s1.toks + 1) X1.inn) (Nat.le_add_left _ _)
  refine hv A _ _ _ E _ X2.st X2.cx fun w P3 s3 g3 tk3 i3 => ?_
  have X3 := X2.gr g3 tk3
  refine wp_tk tk3 (hop A _ P3 s3 E _ u w X3.st (hiu.mono g3.le) i3 fun r P4 s4 g4 i4 tk4 => ?_)
  have X4 := X3.gr g4 tk4
  have q4 := g4.old _ _ (g3.old _ _ q)
  have hf4 := (hf.mono g3.le).mono g4.le
  refine set_raw (Bs.frag X4.b X4.inn) T (X4.inn _ _ (g4.le _ _ (g3.le _ _ hx))) q4 (by rw [(hf4.get hl).choose_spec.1]; rfl) (by rw [hf.length]; exact Nat.le_of_ble_eq_true hz) fun hs' t h' n' hb he => ?_
  exact next P4 _ (X4.turnR (o' := .dict (putF name d fs)) (Nat.le_trans tk4 (Nat.le_add_right _ _)) (fun b o nb e => hb.extBut b o nb e) he (.dict (hf4.put i4)))
end
theorem sl1_cons {text : Str} {n c : Nat} {r : List Nat} (h : text.cps.toList.drop n = c :: r) : sl1 text n = ⟨#[c]⟩ := by
  have hn : n < text.cps.toList.length := by
    refine Nat.lt_of_not_le fun q => ?_
    rw [List.drop_eq_nil_of_le q] at h; cases h
  have := slice_closes (x := text) (i := n) (j := (n : Int) + 1) ⟨by omega, by omega, by omega⟩
  rw [beq_iff_eq] at this
  unfold sl1
  rw [this]
  rw [show ((n : Int)).toNat = n from rfl, h, show ((n : Int) + 1 - n).toNat = 1 by omega]
  rfl
theorem sl1_nil {text : Str} {n : Nat} (h : text.cps.toList.drop n = []) : sl1 text n = "" := by
  have hn : text.cps.toList.length ≤ n := List.drop_eq_nil_iff.mp h
  have hl : text.length = text.cps.toList.length := by show text.cps.size = _; simp
  have h0 : ¬ (n : Int) < 0 := by omega
  have h1 : ¬ ((n : Int) + 1 < 0) := by omega
  have h3 : ¬ ((text.length : Int) < 0) := by omega
  have h2 : (1 : Int) > 0 := by decide
  have e2 : Txt.slice text (some (n : Int)) (some ((n : Int) + 1)) = Txt.slice text (some (text.length : Int)) (some (text.length : Int)) := by
    unfold Txt.slice
    have : Builtin.Str.strSliceIndices (some (n : Int)) (some ((n : Int) + 1)) 1 text.length = Builtin.Str.strSliceIndices (some (text.length : Int)) (some (text.length : Int)) 1 text.length := by
      simp only [Builtin.Str.strSliceIndices, h0, h1, h2, h3, if_false, if_true, Int.min_eq_right (show (text.length : Int) ≤ n by omega), Int.min_eq_right (show (text.length : Int) ≤ (n : Int) + 1 by omega), Int.min_self]
    rw [this]
  have := slice_closes (x := text) (i := text.length) (j := text.length) ⟨by omega, Int.le_refl _, by omega⟩
  rw [beq_iff_eq] at this
  unfold sl1
  rw [e2, this]
  simp
  rfl
end
section
set_option maxHeartbeats 4000000
/-! defs and lambdas in a frame; closures handed out -/
section
variable {W : Wd} {k : Nat} {A : Around} {env : Env} {s₀ : Shared} {P₀ H : Vw} {Γ : List (Str × D)} {Δ : List (Str × List D)} {Mx : List (Addr × MO)} {P : Vw} {s : Shared} {E : Value → Shared → Prop} {Q : Flow → Shared → Prop}
theorem At.redatum {x : Str} {d d' : D} (X : At W k A env s₀ P₀ H ((x, d) :: Γ) Δ Mx P s) (h : ∀ v, Is P v d → Is P v d') : At W k A env s₀ P₀ H ((x, d') :: Γ) Δ Mx P s := by
  obtain ⟨m, cv, ad, y, hn⟩ := X.mnew
  refine { X with mnew := ⟨m, cv, ad, { y with vars := fun p hp => ?_ }, hn⟩ }
  rcases List.mem_cons.mp hp with rfl | hp
  · obtain ⟨v, e, i⟩ := y.vars _ List.mem_cons_self
    exact ⟨v, e, h v i⟩
  · exact y.vars p (List.mem_cons_of_mem _ hp)
/-- an owned object is changed no more -/
theorem At.freezeM {a : Addr} {o : Obj} (X : At W k A env s₀ P₀ H Γ Δ ((a, .obj o) :: Mx) P s) (h0 : s₀.heap.get? a = none) : At W k A env s₀ P₀ H Γ Δ Mx (addV P a o) s := by
  obtain ⟨m, cv, ad, y, hn⟩ := X.mnew
  obtain ⟨ob, q, i⟩ := y.raw _ List.mem_cons_self
  obtain rfl := i.objI.symm
  have hmem : a ∈ ownOf env Δ ad ((a, .obj o) :: Mx) := List.mem_cons_of_mem _ (List.mem_append_right _ (List.mem_append_right _ List.mem_cons_self))
  have hP := y.offP _ hmem
  have hH := y.offH _ hmem
  have own : (ownOf env Δ ad ((a, .obj o) :: Mx)).Perm (a :: ownOf env Δ ad Mx) := by
    show (env.locals :: (env.cells.map (·.2) ++ (Δ.map (fun p => ad p.1) ++ (a :: Mx.map (·.1))))).Perm _
    refine List.Perm.trans (List.Perm.cons _ ?_) (List.Perm.swap _ _ _)
    rw [← List.append_assoc]
    refine List.Perm.trans List.perm_middle ?_
    rw [List.append_assoc]
  have nd := List.nodup_cons.mp (own.nodup_iff.mp y.nd)
  refine { X with
    b := X.b.up (addV_le hP)
    le := X.le.trans (addV_le hP)
    inn := addV_in X.inn q
    new := fun b o' e' => by
      by_cases hb : b = a
      · subst hb; exact .inr h0
      · rw [addV_ne hb] at e'; exact X.new _ _ e'
    newH := fun b o' e' => by
      by_cases hb : b = a
      · subst hb; exact .inr hH
      · rw [addV_ne hb] at e'; exact X.newH _ _ e'
    mnew := ⟨m, cv, ad, ⟨y.ns, y.cells, fun p hp => ?_, fun p hp => ?_, fun p hp => ?_, nd.2, y.cnd, fun b hb => ?_, fun b hb => y.offH b (own.symm.subset (List.mem_cons_of_mem _ hb))⟩, hn⟩ }
  · obtain ⟨v, e, i⟩ := y.vars p hp; exact ⟨v, e, i.mono (addV_le hP)⟩
  · obtain ⟨vs, n, e, q, i⟩ := y.muts p hp; exact ⟨vs, n, e, q, i.mono (addV_le hP)⟩
  · obtain ⟨o', q, i⟩ := y.raw p (List.mem_cons_of_mem _ hp); exact ⟨o', q, i.mono (addV_le hP)⟩
  · rw [addV_ne (fun z : b = a => nd.1 (z ▸ hb))]
    exact y.offP b (own.symm.subset (List.mem_cons_of_mem _ hb))
/-- a list that turns, apart from its name -/
theorem At.unlist {x : Str} {c : Addr} {ds : List D} (X : At W k A env s₀ P₀ H Γ ((x, ds) :: Δ) Mx P s) (hk : env.kindOf x = some .cell) (hc : env.cells.lookup x = some c) :
    ∃ a o, At W k A env s₀ P₀ H Γ Δ ((a, .list ds) :: Mx) P s ∧ s₀.heap.get? a = none ∧ s.heap.get? c = some o ∧ o.data = .cell (some (.ref a)) := by
  obtain ⟨m, cv, ad, y, hn⟩ := X.mnew
  obtain ⟨vs, n, e, q, i⟩ := y.muts _ List.mem_cons_self
  obtain ⟨o, ho, hd⟩ := y.cells _ (mem_of_lookup hc)
  have he : cv x = some (.ref (ad x)) := by
    unfold lookN at e
    rw [hk] at e
    dsimp only at e
    rw [hc] at e
    simpa using e
  have own : (ownOf env Δ ad ((ad x, .list ds) :: Mx)).Perm (ownOf env ((x, ds) :: Δ) ad Mx) := by
    show (env.locals :: (env.cells.map (·.2) ++ (Δ.map (fun p => ad p.1) ++ (ad x :: Mx.map (·.1))))).Perm (env.locals :: (env.cells.map (·.2) ++ ((ad x :: Δ.map (fun p => ad p.1)) ++ Mx.map (·.1))))
    exact List.Perm.cons _ (List.Perm.append (List.Perm.refl _) List.perm_middle)
  refine ⟨ad x, o, { X with mnew := ⟨m, cv, ad, ⟨y.ns, y.cells, y.vars, fun p hp => y.muts p (List.mem_cons_of_mem _ hp), fun p hp => ?_, own.nodup_iff.mpr y.nd, y.cnd, fun b hb => y.offP b (own.subset hb), fun b hb => y.offH b (own.subset hb)⟩, fun p hp => hn p (List.mem_cons_of_mem _ hp)⟩ }, hn _ List.mem_cons_self, ho, by rw [hd, he]⟩
  rcases List.mem_cons.mp hp with rfl | hp
  · exact ⟨_, q, .list i⟩
  · exact y.raw p hp
/-- what a cell holds -/
theorem At.cellv {x : Str} {c : Addr} {d : D} (X : At W k A env s₀ P₀ H Γ Δ Mx P s) (hx : (x, d) ∈ Γ) (hk : env.kindOf x = some .cell) (hc : env.cells.lookup x = some c) : ∃ o v, s.heap.get? c = some o ∧ o.data = .cell (some v) ∧ Is P v d := by
  obtain ⟨m, cv, ad, y, hn⟩ := X.mnew
  obtain ⟨v, e, i⟩ := y.vars _ hx
  obtain ⟨o, ho, hd⟩ := y.cells _ (mem_of_lookup hc)
  unfold lookN at e
  rw [hk] at e
  dsimp only at e
  rw [hc] at e
  exact ⟨o, v, ho, by rw [hd]; simpa using e, i⟩
theorem At.cellOff {c : Addr} {x : Str} (X : At W k A env s₀ P₀ H Γ Δ Mx P s) (hc : env.cells.lookup x = some c) : P c = none ∧ c ∉ ads Mx := by
  obtain ⟨m, cv, ad, y, hn⟩ := X.mnew
  have hm : c ∈ env.cells.map (·.2) := List.mem_map_of_mem (mem_of_lookup hc)
  have nd := List.nodup_append.mp (List.nodup_cons.mp y.nd).2
  refine ⟨y.offP _ (List.mem_cons_of_mem _ (List.mem_append_left _ hm)), fun h => nd.2.2 _ hm _ (List.mem_append_right _ h) rfl⟩
theorem top_bi {h : Heap} (T : Top W.pv W.loose W.mean W.mg W.mb h) {Tb : Addr} {ps : Array Value} (hT : h.get? Tb = some (tabObj ps)) : mainGlobals ≠ Tb ∧ h.BuiltinsAt W.mg Tb := by
  obtain ⟨bm, ob, b1, b2, b3, b4, b5, b6⟩ := T.bmain
  refine ⟨fun q => ?_, bm, ob, b1, b2, fun q => ?_, fun q => ?_, b3, b4, b5, b6⟩
  · obtain ⟨o, es, ep, e, hd, _⟩ := T.g
    rw [q, hT] at e; cases e; cases hd
  · obtain ⟨o, es, ep, e, hd, _⟩ := T.g
    rw [q, e] at b3; cases b3; rw [hd] at b6; cases b6
  · rw [q, hT] at b3; cases b3; cases b4
/-- x = lambda ..: .. -/
theorem s_lambda {x : Str} {p pos lpos : Pos} {params : Arguments} {body : Expr} {scope : Scope} {clos : List (Str × Addr)} {rest' : List Stmt} {c Tb : Addr} {ps : Array Value} (X : At W k A env s₀ P₀ H Γ Δ ([(Tb, .obj (tabObj ps))] ++ Mx) P s) (hcode : env.code = .ref c) (hC : codeHdIn W.K c Tb = true) (ht : TriplesOk ps.toList) (hnf : codeAmong lpos ps.toList = none)
    (hdef : defaultsOf params env = ([], [])) (hcl : closureFor scope env = pure clos) (hb : Bindable env x)
    (next : ∀ st fd c' P' s', s₀.heap.get? st = none → At W k A env s₀ P₀ H ((x, .raw st) :: rm x Γ) (rm x Δ) ((st, .obj (fnObj0 fd)) :: ([(Tb, .obj (tabObj (ps ++ #[rawInt lpos.line, rawInt lpos.col, .ref c'])))] ++ Mx)) P' s' → wpAny W.M A (execs rest' env) Q E s')
    (hs : swapsWith (.Lambda params body scope lpos) (some (.Name x p)) pos.line env = pure false := by rfl) :
    wpAny W.M A (execs (.Assign [.Name x p] (.Lambda params body scope lpos) pos :: rest') env) Q E s := by
  refine wpAny_execs_cons (wpAny_Assign_Name (kla_eval hdef (wp_tk X.tk ?_)) hs)
  obtain ⟨m, cv, ad, y, hn⟩ := X.mnew
  obtain ⟨ob, q, i⟩ := y.raw _ List.mem_cons_self
  obtain rfl := i.objI.symm
  have T := X.b.top s.heap X.inn
  obtain ⟨t1, t2⟩ := top_bi T q
  refine kla_makeFunction (mg := W.mg) hcl X.gl T.g hcode (codeHd_of_K (Bs.frag X.b X.inn) hC) q ht hnf t1 t2 fun c' ctv h' tk hx hge hlt hrec htb tk1 => ?_
  have fs : s.heap.get? h'.objs.size = none := Heap.get?_none_of_le (Nat.le_of_lt (Nat.lt_of_le_of_lt hge hlt))
  have pT : P Tb = none := y.offP _ (List.mem_cons_of_mem _ (List.mem_append_right _ (List.mem_append_right _ List.mem_cons_self)))
  generalize hob : kla_obj "<lambda>" (env.qual ++ "<lambda>") params body scope clos ((W.mg "__name__").getD .none) c' ctv = obj at tk1 ⊢
  have hfd : ∃ fd, obj = fnObj0 fd := ⟨_, hob.symm⟩
  obtain ⟨fd, rfl⟩ := hfd
  have g : GrM (ads [(Tb, MO.obj (tabObj ps))]) P s P { s with heap := h'.push (fnObj0 fd), toks := tk } :=
    ⟨Le.refl _, fun b o e => Heap.get?_push_of_some _ (hx b o (fun z => by rw [z, pT] at e; cases e) (X.inn _ _ e)), fun b o nb e => Heap.get?_push_of_some _ (hx b o (by simpa [ads] using nb) e), fun b o e => by
      by_cases z : b = Tb
      · rw [z]; exact ⟨_, Heap.get?_push_of_some _ htb⟩
      · exact ⟨o, Heap.get?_push_of_some _ (hx b o z e)⟩, fun b o e => .inl e, GG.refl _, rfl, rfl⟩
  have dv : Dv P { s with heap := h'.push (fnObj0 fd), toks := tk } [(Tb, .obj (tabObj (ps ++ #[rawInt lpos.line, rawInt lpos.col, .ref c'])))] := ⟨fun p hp => by rw [List.mem_singleton.mp hp]; exact ⟨_, Heap.get?_push_of_some _ htb, .obj _⟩, by simp [ads], fun p hp => by rw [List.mem_singleton.mp hp]; exact pT⟩
  have X1 := X.grM g tk1 dv rfl
  obtain ⟨m2, cv2, ad2, y2, _, ho2⟩ := X.grM_own g dv rfl
  have z0 := X.none₀ fs
  have X2 := X1.take (mo := .obj (fnObj0 fd)) (none_of_in X.inn fs) z0.2 ⟨m2, cv2, ad2, y2, ho2 _ fs⟩ (Heap.get?_push_size _ rfl) (.obj _)
  exact X2.name (.raw _) hb fun s'' X3 => next _ fd c' P s'' z0.1 X3
/-- def x(..): .. -/
theorem s_def {x : Str} {pos : Pos} {params : Arguments} {body : List Stmt} {scope : Scope} {clos : List (Str × Addr)} {rest' : List Stmt} {c Tb : Addr} {ps : Array Value} (X : At W k A env s₀ P₀ H Γ Δ ([(Tb, .obj (tabObj ps))] ++ Mx) P s) (hcode : env.code = .ref c) (hC : codeHdIn W.K c Tb = true) (ht : TriplesOk ps.toList) (hnf : codeAmong pos ps.toList = none)
    (hd0 : params.defaults = []) (hk0 : params.kw_defaults = []) (han : annTrees params none env = []) (hcl : closureFor scope env = pure clos) (hb : Bindable env x)
    (next : ∀ rd of c' oc vs t P' s', oc.data = .fields vs → vs[1]? = some (.str (qualnameIn env x x) t) → (∃ doc pm ctv, of = fnMade x (qualnameIn env x x) params body scope clos doc pm c' ctv) → At W k A env s₀ P₀ H ((x, .pack rd [(rd, of), (c', oc)]) :: rm x Γ) (rm x Δ) ([(Tb, .obj (tabObj (ps ++ #[rawInt pos.line, rawInt pos.col, .ref c'])))] ++ Mx) P' s' → wpAny W.M A (execs rest' env) Q E s') :
    wpAny W.M A (execs (.FunctionDef x params body [] none [] scope none x pos :: rest') env) Q E s := by
  refine wpAny_execs_cons (nestDef_K hd0 hk0 han (wp_tk X.tk ?_))
  obtain ⟨m, cv, ad, y, hn⟩ := X.mnew
  obtain ⟨ob, q, i⟩ := y.raw _ List.mem_cons_self
  obtain rfl := i.objI.symm
  have T := X.b.top s.heap X.inn
  obtain ⟨t1, t2⟩ := top_bi T q
  refine makeFunction_K (mg := W.mg) hcl X.gl T.g hcode (codeHd_of_K (Bs.frag X.b X.inn) hC) q ht hnf t1 t2 fun c' ctv doc h' tk hx hge hlt hrec htb tk1 => ?_
  obtain ⟨c2, oc, vs, t, ec, hoc, hdc, hq⟩ := hrec
  cases ec
  have fs : s.heap.get? h'.objs.size = none := Heap.get?_none_of_le (Nat.le_of_lt (Nat.lt_of_le_of_lt hge hlt))
  have fc : s.heap.get? c' = none := Heap.get?_none_of_le hge
  have pT : P Tb = none := y.offP _ (List.mem_cons_of_mem _ (List.mem_append_right _ (List.mem_append_right _ List.mem_cons_self)))
  have hTc : c' ≠ Tb := fun z => by rw [z, q] at fc; cases fc
  have hTs : h'.objs.size ≠ Tb := fun z => by rw [z, q] at fs; cases fs
  generalize hob : fnMade x (qualnameIn env x x) params body scope clos doc ((W.mg "__name__").getD .none) c' ctv = obj at tk1 ⊢
  have g : GrM (ads [(Tb, MO.obj (tabObj ps))]) P s P { s with heap := h'.push obj, toks := tk } :=
    ⟨Le.refl _, fun b o e => Heap.get?_push_of_some _ (hx b o (fun z => by rw [z, pT] at e; cases e) (X.inn _ _ e)), fun b o nb e => Heap.get?_push_of_some _ (hx b o (by simpa [ads] using nb) e), fun b o e => by
      by_cases z : b = Tb
      · rw [z]; exact ⟨_, Heap.get?_push_of_some _ htb⟩
      · exact ⟨o, Heap.get?_push_of_some _ (hx b o z e)⟩, fun b o e => .inl e, GG.refl _, rfl, rfl⟩
  have pc : P c' = none := none_of_in X.inn fc
  have ps' : addV P c' oc h'.objs.size = none := by rw [addV_ne (Nat.ne_of_gt hlt)]; exact none_of_in X.inn fs
  have hnew : (h'.push obj).get? h'.objs.size = some obj := Heap.get?_push_size _ (by rw [← hob]; rfl)
  have g2 := (g.add fc pc (Heap.get?_push_of_some _ hoc)).add fs ps' hnew
  have dv : Dv (addV (addV P c' oc) h'.objs.size obj) { s with heap := h'.push obj, toks := tk } [(Tb, .obj (tabObj (ps ++ #[rawInt pos.line, rawInt pos.col, .ref c'])))] := ⟨fun p hp => by rw [List.mem_singleton.mp hp]; exact ⟨_, Heap.get?_push_of_some _ htb, .obj _⟩, by simp [ads], fun p hp => by rw [List.mem_singleton.mp hp]; show addV _ _ _ Tb = none; rw [addV_ne (Ne.symm hTs), addV_ne (Ne.symm hTc)]; exact pT⟩
  have X1 := X.grM g2 tk1 dv rfl
  have iv : Is (addV (addV P c' oc) h'.objs.size obj) (.ref h'.objs.size) (.pack h'.objs.size [(h'.objs.size, obj), (c', oc)]) := .pack fun p hp => by
    simp only [List.mem_cons, List.not_mem_nil, or_false] at hp
    rcases hp with rfl | rfl
    · exact addV_at
    · show addV _ _ _ c' = _
      rw [addV_ne (Nat.ne_of_lt hlt)]; exact addV_at
  subst hob
  exact X1.name iv hb fun s'' X3 => next _ _ c' oc vs t _ s'' hdc hq ⟨doc, _, ctv, rfl⟩ X3
/-- x.read = y, x a function that nobody has looked at -/
theorem s_fnattr {x y : Str} {px pa py pos : Pos} {rest' : List Stmt} {st rd : Addr} {fd : FuncData} {ly : List (Addr × Obj)} (X : At W k A env s₀ P₀ H ((x, .raw st) :: Γ) Δ ([(st, .obj (fnObj0 fd))] ++ Mx) P s) (h0 : s₀.heap.get? st = none) (hy : (y, D.pack rd ly) ∈ Γ)
    (next : ∀ dd hs tk n P' s', At W k A env s₀ P₀ H ((x, .pack st ((st, fnObj dd fd) :: (dd, dictOf [⟨hs, .str "read" tk, .ref rd⟩] n) :: ly)) :: Γ) Δ Mx P' s' → wpAny W.M A (execs rest' env) Q E s')
    (hd : (x == ("__debug__" : Str)) = false := by decide) (hn : (x == ("__classdict__" : Str)) = false := by decide) (hd2 : (y == ("__debug__" : Str)) = false := by decide) (hn2 : (y == ("__classdict__" : Str)) = false := by decide)
    (hs : swapsWith (.Name y py) (some (.Attribute (.Name x px) "read" pa)) pos.line env = pure false := by rfl) :
    wpAny W.M A (execs (.Assign [.Attribute (.Name x px) "read" pa] (.Name y py) pos :: rest') env) Q E s := by
  obtain ⟨v, nv1, iv⟩ := X.cx.vars _ (List.mem_cons_of_mem _ hy)
  obtain ⟨u, nu1, iu⟩ := X.cx.vars _ List.mem_cons_self
  refine wpAny_execs_cons (plainObj_wpAny_Assign_Attribute (name_read X.fn X.st.sv nv1 (name_read X.fn X.st.sv nu1 ?_ hd hn) hd2 hn2) hs)
  obtain rfl := iu.rawI
  obtain ⟨rfl, hl⟩ := iv.packI
  obtain ⟨m, cv, ad, yy, hnn⟩ := X.mnew
  obtain ⟨ob, q, i⟩ := yy.raw _ List.mem_cons_self
  obtain rfl := i.objI.symm
  have pS : P st = none := yy.offP _ (List.mem_cons_of_mem _ (List.mem_append_right _ (List.mem_append_right _ List.mem_cons_self)))
  refine fn_setAttr q fun hs t h' n hk f0 h1 h2 => ?_
  have hne : s.heap.objs.size ≠ st := fun z => by rw [z, q] at f0; cases f0
  have g : GrM (ads [(st, MO.obj (fnObj0 fd))]) P s P { s with heap := h', toks := s.toks + 2 } :=
    ⟨Le.refl _, fun b o e => hk b o (fun z => by rw [z, pS] at e; cases e) (X.inn _ _ e), fun b o nb e => hk b o (by simpa [ads] using nb) e, fun b o e => by
      by_cases z : b = st
      · rw [z]; exact ⟨_, h1⟩
      · exact ⟨o, hk b o z e⟩, fun b o e => .inl e, GG.refl _, rfl, rfl⟩
  have g2 := g.add f0 (none_of_in X.inn f0) h2
  have dv : Dv (addV P s.heap.objs.size (dictOf [⟨hs, .str "read" t, .ref rd⟩] n)) { s with heap := h', toks := s.toks + 2 } [(st, .obj (fnObj s.heap.objs.size fd))] := ⟨fun p hp => by rw [List.mem_singleton.mp hp]; exact ⟨_, h1, .obj _⟩, by simp [ads], fun p hp => by rw [List.mem_singleton.mp hp]; show addV _ _ _ st = none; rw [addV_ne (Ne.symm hne)]; exact pS⟩
  have X1 := X.grM g2 (Nat.le_add_left _ _) dv rfl
  have hst : addV P s.heap.objs.size (dictOf [⟨hs, .str "read" t, .ref rd⟩] n) st = none := by rw [addV_ne (Ne.symm hne)]; exact pS
  have X2 := X1.freezeM h0
  refine next s.heap.objs.size hs t n _ _ (X2.redatum fun v' i' => ?_)
  obtain rfl := i'.rawI
  refine .pack fun p hp => ?_
  rcases List.mem_cons.mp hp with rfl | hp
  · exact addV_at
  rcases List.mem_cons.mp hp with rfl | hp
  · show addV _ _ _ s.heap.objs.size = _
    rw [addV_ne hne]; exact addV_at
  · exact addV_le hst _ _ (addV_le (none_of_in X.inn f0) _ _ (hl p hp))
end
noncomputable def addL : List (Addr × Obj) → Vw → Vw
  | [], P => P
  | p :: r, P => fun b => if b = p.1 then some p.2 else addL r P b
theorem addL_cons {p : Addr × Obj} {r : List (Addr × Obj)} {P : Vw} {b : Addr} : addL (p :: r) P b = if b = p.1 then some p.2 else addL r P b := rfl
theorem addL_le {l : List (Addr × Obj)} {P : Vw} (h : ∀ p ∈ l, P p.1 = none) : Le P (addL l P) := by
  induction l with
  | nil => exact Le.refl P
  | cons p r ih =>
    intro b o e
    have : b ≠ p.1 := fun z => by rw [z, h p List.mem_cons_self] at e; cases e
    rw [addL_cons, if_neg this]
    exact ih (fun q hq => h q (List.mem_cons_of_mem _ hq)) b o e
theorem addL_at {l : List (Addr × Obj)} {P : Vw} (nd : (l.map (·.1)).Nodup) : ∀ p ∈ l, addL l P p.1 = some p.2 := by
  induction l with
  | nil => intro p hp; cases hp
  | cons q r ih =>
    intro p hp
    rw [List.map_cons] at nd
    have nd := List.nodup_cons.mp nd
    rw [addL_cons]
    rcases List.mem_cons.mp hp with rfl | hp
    · rw [if_pos rfl]
    · rw [if_neg (fun z : p.1 = q.1 => nd.1 (z ▸ List.mem_map_of_mem hp))]; exact ih nd.2 p hp
theorem addL_inv {l : List (Addr × Obj)} {P : Vw} {b : Addr} {o : Obj} (e : addL l P b = some o) : (∃ p ∈ l, p.1 = b ∧ p.2 = o) ∨ P b = some o := by
  induction l with
  | nil => exact .inr e
  | cons p r ih =>
    rw [addL_cons] at e
    by_cases h : b = p.1
    · rw [if_pos h] at e
      exact .inl ⟨p, List.mem_cons_self, h.symm, Option.some.inj e⟩
    · rw [if_neg h] at e
      rcases ih e with ⟨q, hq, h⟩ | h
      · exact .inl ⟨q, List.mem_cons_of_mem _ hq, h⟩
      · exact .inr h
noncomputable def FinZ (W : Wd) (k : Nat) (A : Around) (env : Env) (s₀ : Shared) (P₀ H : Vw) (Mx : List (Addr × MO)) (Out : OutT) (fl : Flow) (s' : Shared) : Prop :=
  ∃ P' Γ' Δ' Mx' N rest d Fz, At W k A env s₀ P₀ H Γ' Δ' ((Mx' ++ N) ++ rest) P' s' ∧ Out d Mx' N ∧ ads Mx' = ads Mx ∧ (∀ p ∈ N, s₀.heap.get? p.1 = none) ∧ (Fz.map (·.1)).Nodup ∧ (∀ p ∈ Fz, s₀.heap.get? p.1 = none ∧ s'.heap.get? p.1 = some p.2 ∧ P' p.1 = none ∧ p.1 ∉ ads (Mx' ++ N)) ∧ Is (addL Fz P') (match fl with | .ret v => v | _ => .none) d
theorem klx_fnZ {W : Wd} {k : Nat} {f : Addr} {fd : FuncData} {body : List Stmt} {names : List Str} {ds : List D} {Mx : List (Addr × MO)} {Out : OutT} (F : ∀ P, W.B P → FnIn W P f fd body names) (hl : ds.length = names.length)
    (hb : ∀ A s₀ P₀ P s, Le P₀ P → At W k A (callEnvC fd s₀.heap.objs.size f) s₀ P₀ (offX (ads Mx) s₀.heap) (names.zip ds) [] Mx P s →
      wpAny W.M A (execs body (callEnvC fd s₀.heap.objs.size f)) (FinZ W k A (callEnvC fd s₀.heap.objs.size f) s₀ P₀ (offX (ads Mx) s₀.heap) Mx Out) (fun _ _ => False) s) : KlX W (k + 1) (.ref f) ds Mx Out := by
  intro A S P s R vs st i dv hQ
  have F := F P st.b
  obtain ⟨o, ho, hd⟩ := F.has
  have T := st.b.top s.heap st.p
  refine codeAny_call_function (Nat.lt_of_le_of_lt (Nat.le_add_right _ _) st.a.2.1) (st.p _ _ ho) hd F.co F.gen F.body (codeRec_of (Bs.frag st.b st.p) F.code) ?_
  rw [F.bind vs (i.length.trans hl), F.clo]
  refine wpAny_pure (wp_tk st.tk (wpAny_newFunctionEnv_cells F.fn (fun x hx => ?_) fun env he s' x tk => ?_))
  · have hx1 := (List.of_mem_zip (a := x.1) (b := x.2) hx).1
    rcases F.kind x.1 hx1 with h | ⟨h, hc⟩
    · exact .inl h
    · refine .inr ⟨h, ?_⟩
      have := cellsFrom_names fd.scope.names (s.heap.objs.size + 1) []
      rw [List.map_nil, List.append_nil] at this
      obtain ⟨p, hp, hpe⟩ := List.mem_map.mp (this.mem_iff.mpr hc)
      have hcn := this.nodup_iff.mpr F.cnd
      rw [← hpe, lookup_of_mem hcn hp]; rfl
  · subst he
    refine ⟨T.nolimit.keeps x.toInCall.keep, codeAny_func (wpAny_mono (hb _ s P P s' (Le.refl _) (at_enter F.pre st i hl dv tk x)) (fun fl s'' hf => ?_) fun _ _ h => h.elim)⟩
    obtain ⟨P', Γ', Δ', Mx', N, rest, d, Fz, Y, hO, ha, hN, hnd, hF, hi⟩ := hf
    have g := Y.leaveH rfl
    obtain ⟨m, cv, ad, y, _⟩ := Y.mnew
    have le := addL_le (P := P') fun p hp => (hF p hp).2.2.1
    refine hQ _ (addL Fz P') s'' d Mx' N hO ha ⟨g.le.trans le, fun b o e => ?_, g.old, g.ext, fun b o e => ?_, g.gens, g.drawn, g.os⟩ Y.tk ⟨fun p hp => ?_, ?_, fun p hp => ?_⟩ hN hi
    · rcases addL_inv e with ⟨p, hp, rfl, rfl⟩ | e
      · exact (hF p hp).2.1
      · exact g.inn _ _ e
    · rcases addL_inv e with ⟨p, hp, rfl, rfl⟩ | e
      · exact .inr (hF p hp).1
      · exact g.new _ _ e
    · obtain ⟨o, q, i⟩ := y.raw p (List.mem_append_left _ hp)
      exact ⟨o, q, i.mono le⟩
    · have h1 := (List.nodup_append.mp (List.nodup_cons.mp y.nd).2).2.1
      have h2 := (List.nodup_append.mp h1).2.1
      rw [List.map_append] at h2
      exact (List.nodup_append.mp h2).1
    · cases e : addL Fz P' p.1 with
      | none => rfl
      | some o =>
        rcases addL_inv e with ⟨q, hq, h1, _⟩ | e
        · exact ((hF q hq).2.2.2 (h1 ▸ List.mem_map_of_mem hp)).elim
        · rw [y.offP p.1 (List.mem_cons_of_mem _ (List.mem_append_right _ (List.mem_append_right _ (List.mem_map_of_mem (List.mem_append_left _ hp)))))] at e; cases e
end
section
set_option maxHeartbeats 4000000
/-! dicts with str keys and int values -/
section
variable {W : Wd} {k : Nat} {env : Env} {Γ : List (Str × D)} {Δ : List (Str × List D)}
end
section
variable {W : Wd} {k : Nat} {A : Around} {env : Env} {s₀ : Shared} {P₀ H : Vw} {Γ : List (Str × D)} {Δ : List (Str × List D)} {Mx : List (Addr × MO)} {P : Vw} {s : Shared} {E : Value → Shared → Prop} {Q : Flow → Shared → Prop}
end
end
section
set_option maxHeartbeats 4000000
/-! entering the law: nothing is known of the tokens yet -/
theorem stLC1 {M : Model} {A : Around} {E : Value → Shared → Prop} {s₀ s : Shared} {m cm : Str → Option Value} {env : Env} {n : Str} {v : Value} {Q : Unit → Shared → Prop} (x : InCallC s₀ env.locals m env.cells cm s) (hk : env.scope.kind = .function) (hl : env.kindOf n = some .local)
    (h : ∀ s', 1 ≤ s'.toks → InCallC s₀ env.locals (fun y => if y = n then some v else m y) env.cells cm s' → Q () s') : wpAny M A (storeName env n v) Q E s := by
  refine wpAny_storeName_local hl x.toInCall.ns (fun h' hn' hs' => h _ (Nat.le_add_left _ _) ⟨⟨?_, hn', fun b o e => ?_, x.toInCall.fresh⟩, fun k c hc => ?_, x.apart, x.above⟩) (by rw [hk]; rfl)
  · obtain ⟨h₁, tk, rfl⟩ := x.toInCall.same
    exact ⟨h', _, rfl⟩
  · exact hs'.extBut b o (Nat.ne_of_lt (Nat.lt_of_lt_of_le (Heap.lt_size e) x.toInCall.fresh)) (x.toInCall.keep b o e)
  · exact (x.cell k c hc).sameBut hs' (Nat.ne_of_gt (x.above k c (mem_of_lookup hc)))
theorem newEnv1 {M : Model} {A : Around} {E : Value → Shared → Prop} {s : Shared} {scope : Scope} {globals : Addr} {x : Str} {v : Value} {qual : Str} {func : Option Addr} {code : Value} {builtins : Addr} {Q : Env → Shared → Prop}
    (hk : scope.kind = .function) (hl : scope.names.lookup x = some .local)
    (hQ : ∀ env, env = newEnv scope s.heap.objs.size globals (cellsFrom (s.heap.objs.size + 1) scope.names []) qual func code none builtins →
      ∀ s', 1 ≤ s'.toks → InCallC s env.locals (bindL env.kindOf [(x, v)] fun _ => none) env.cells (bindC env.kindOf [(x, v)] fun _ => none) s' → Q env s') :
    wpAny M A (newFunctionEnv scope globals [] [(x, v)] qual func code none builtins) Q E s := by
  simp only [newFunctionEnv, Option.isSome_none, Bool.false_eq_true, if_false]
  refine wpAny_bind (wpAny_alloc ?_)
  refine wpAny_bind (wpAny_layCells _ (fun name kind cells => by cases hkc : kind == NameKind.cell <;> simp [hkc]) _ _ _ _ ?_)
  have ok := cellsFrom_ok scope.names (s.heap.push { cls := .type "frame", data := .dict #[] }) (s.heap.objs.size + 1) [] ⟨fun _ _ hm => (nomatch hm), List.Pairwise.nil⟩ (by rw [Heap.size_push]; exact Nat.le_refl _)
  rw [Heap.size_push] at ok
  rw [show ({ s with heap := s.heap.push { cls := .type "frame", data := .dict #[] } } : Shared).heap.objs.size = s.heap.objs.size + 1 from Heap.size_push ..]
  have x0 : ∀ env, env = newEnv scope s.heap.objs.size globals (cellsFrom (s.heap.objs.size + 1) scope.names []) qual func code none builtins → InCallC s env.locals (fun _ => none) env.cells (fun _ => none) { s with heap := pushCells (s.heap.push { cls := .type "frame", data := .dict #[] }) scope.names } := fun env he => by
    subst he
    exact ⟨⟨⟨_, _, rfl⟩, (Heap.Ns.new s.heap (.type "frame")).keeps (pushCells_keeps _ _), fun b o e => pushCells_keeps _ _ b o (Heap.get?_push_of_some _ e), Nat.le_refl _⟩,
      fun n c hc => (ok.empty n c (mem_of_lookup hc)).1, ok.apart, fun n c hm => (ok.empty n c hm).2⟩
  have x1 := x0 _ rfl
  refine wpAny_bind ?_
  rw [List.forIn_cons]
  refine wpAny_bind (wpAny_bind (stLC1 x1 hk hl fun s' tk x' => ?_))
  refine wpAny_pure ?_
  dsimp only
  rw [List.forIn_nil]
  refine wpAny_pure (wpAny_pure (hQ _ rfl s' tk ?_))
  unfold bindL bindC bindL bindC
  have hl' : (newEnv scope s.heap.objs.size globals (cellsFrom (s.heap.objs.size + 1) scope.names []) qual func code none builtins).kindOf x = some .local := hl
  rw [if_pos hl', if_pos hl']; exact x'
/-- the call of a law, in a state of whose tokens nothing is known -/
noncomputable def Kl0 (W : Wd) (k : Nat) (f : Value) (ds : List D) (Mx : List (Addr × MO)) (Out : OutT) : Prop :=
  ∀ (A : Around) (P : Vw) (s : Shared) (R : Result → Shared → Prop) (vs : List Value), AOk k A → W.B P → In P s.heap → W.raws = [] → IsAll P vs ds → Dv P s Mx →
    (∀ v P' s' d Mx' N, Out d Mx' N → ads Mx' = ads Mx → GrM (ads Mx) P s P' s' → Dv P' s' (Mx' ++ N) → Is P' v d → R (.ok (.ret v)) s') → codeAny W.M A (.call f ⟨vs, []⟩) R s
theorem kl0_fn {W : Wd} {k : Nat} {f : Addr} {fd : FuncData} {body : List Stmt} {x : Str} {d0 : D} {Mx : List (Addr × MO)} {Out : OutT} (F : ∀ P, W.B P → FnIn W P f fd body [x]) (hl : fd.scope.names.lookup x = some .local)
    (hb : ∀ A L s₀ P₀ P s, Le P₀ P → At W k A (callEnvC fd L f) s₀ P₀ (offX (ads Mx) s₀.heap) [(x, d0)] [] Mx P s →
      wpAny W.M A (execs body (callEnvC fd L f)) (FinX W k A (callEnvC fd L f) s₀ P₀ (offX (ads Mx) s₀.heap) Mx Out) (fun _ _ => False) s) : Kl0 W (k + 1) (.ref f) [d0] Mx Out := by
  intro A P s R vs a b p hraw i dv hQ
  have F := F P b
  obtain ⟨o, ho, hd⟩ := F.has
  have T := b.top s.heap p
  obtain ⟨v, rfl, i0⟩ := i.oneI
  refine codeAny_call_function (Nat.lt_of_le_of_lt (Nat.le_add_right _ _) a.2.1) (p _ _ ho) hd F.co F.gen F.body (codeRec_of (Bs.frag b p) F.code) ?_
  rw [F.bind [v] rfl, F.clo]
  refine wpAny_pure (newEnv1 F.fn hl fun env he s' tk x => ?_)
  subst he
  have x' : InCallC { s with toks := 1 } (callEnvC fd s.heap.objs.size f).locals (bindL (callEnvC fd s.heap.objs.size f).kindOf ([_].zip [v]) fun _ => none) (callEnvC fd s.heap.objs.size f).cells (bindC (callEnvC fd s.heap.objs.size f).kindOf ([_].zip [v]) fun _ => none) s' :=
    ⟨⟨let ⟨h', t, e⟩ := x.toInCall.same; ⟨h', t, e⟩, x.toInCall.ns, x.toInCall.keep, x.toInCall.fresh⟩, x.cell, x.apart, x.above⟩
  have st : St W (k + 1) A (fun b => s.heap.get? b) P { s with toks := 1 } := ⟨a, b, fun _ _ e => e, p, Nat.le_refl _, fun q hq => by rw [hraw] at hq; cases hq⟩
  have dv' : Dv P { s with toks := 1 } Mx := ⟨dv.has, dv.nd, dv.off⟩
  refine ⟨T.nolimit.keeps x.toInCall.keep, codeAny_func (wpAny_mono (hb _ s.heap.objs.size { s with toks := 1 } P P s' (Le.refl _) (at_enter F.pre st (.cons i0 .nil) rfl dv' tk x')) (fun fl s'' hf => ?_) fun _ _ h => h.elim)⟩
  obtain ⟨P', Γ', Δ', Mx', N, rest, d, Y, hO, ha, hN, hi⟩ := hf
  have g := Y.leaveH rfl
  obtain ⟨m, cv, ad, y, _⟩ := Y.mnew
  refine hQ _ P' s'' d Mx' N hO ha ⟨g.le, g.inn, g.old, g.ext, g.new, g.gens, g.drawn, g.os⟩ ⟨fun p hp => y.raw p (List.mem_append_left _ hp), ?_, fun p hp => y.offP p.1 ?_⟩ hi
  · have h1 := (List.nodup_append.mp (List.nodup_cons.mp y.nd).2).2.1
    have h2 := (List.nodup_append.mp h1).2.1
    rw [List.map_append] at h2
    exact (List.nodup_append.mp h2).1
  · exact List.mem_cons_of_mem _ (List.mem_append_right _ (List.mem_append_right _ (List.mem_map_of_mem (List.mem_append_left _ hp))))
noncomputable def LawOut (Tb : Addr) : OutT := fun d Mx' N => d = .bool true ∧ ∃ ps, Mx' = [(Tb, .obj (tabObj ps))]
theorem wints_items {xs : List WData} : ∀ (h : WShape.hasItems [] xs .int = true), ∃ ns : List Int, xs = ns.map .int := by
  induction xs with
  | nil => exact fun _ => ⟨[], rfl⟩
  | cons x r ih =>
    intro h
    have h' : WShape.has [] x .int = true ∧ WShape.hasItems [] r .int = true := Bool.and_eq_true_iff.mp (by rw [WShape.hasItems] at h; exact h)
    obtain ⟨i, rfl⟩ := hasW_int h'.1
    obtain ⟨ns, rfl⟩ := ih h'.2
    exact ⟨i :: ns, rfl⟩
theorem well_ints {Pm : Params} {h : Heap} {P : Vw} : ∀ {ns : List Int} {vs : List Value}, WellAll Pm h vs (ns.map .int) → IsAll P vs (ns.map .int)
  | [], _, w => by cases w; exact .nil
  | n :: r, _, w => by cases w with | cons a b => cases a; exact .cons (.int _ _) (well_ints b)
theorem enter_law {l : OpenLaw} {q : Program} {loose : List Str} {XP : (Str → Option Value) → Heap → Prop} {Kf : Params → Frag} {as : List Addr} {e : ∀ P, as = (Kf P).map (·.1)} {f Tb c : Addr} {d : DefRec} {kwd : List (Str × Expr)} {k : Nat}
    (hm : l.most = some 63) (hk : k ≤ 600) (hf : ∀ Pm, nsIn (Kf Pm) mainGlobals d.name = some (some (.ref f))) (hc : ∀ Pm, codeHdIn (Kf Pm) c Tb = true) (hno : ∀ Pm, noTabs (Kf Pm) = true)
    (hlaw : ∀ (W : Wd) (Pm : Params), W.K = Kf Pm → W.prog = l.prog → W.raws = [] → ∀ ns : List Int, ns.length ≤ 63 → Kl0 W k (.ref f) [.list (ns.map .int)] [(Tb, .obj (tabObj #[]))] (LawOut Tb)) :
    WalkO q loose XP (kmHook Kf as e [Tb]).says l.row.toRowW d kwd fun f vs => PySem.call f vs := by
  intro w s₀ s₁ mg mb G Y fa o pm cd doc dV kV ho hd hcd hD hmg hg args vals as' hpre hlay hrd hwl hlo
  have KX := km_in_of Y
  have hT := km_tabs_of Y Tb List.mem_cons_self
  have hfa : fa = f := by
    have := mg_of KX G.T.g (hf w.params)
    rw [hmg] at this; cases this; rfl
  subst hfa
  have hsh := (pre_splitW hpre).1
  have hcond := (pre_splitW hpre).2
  obtain ⟨d0, r0, rfl, hd0, hr0⟩ := hasAllW_cons hsh
  cases hasAllW_nil hr0
  obtain ⟨xs, rfl, hx⟩ := hasW_list hd0
  obtain ⟨ns, rfl⟩ := wints_items hx
  have hlen : ns.length ≤ 63 := by
    have h1 : l.pre.holds [] { args := [.list (ns.map .int)] } = true := hcond
    unfold OpenLaw.pre at h1
    rw [hm] at h1
    have h2 := (holds_andW h1).1
    by_cases hz : ns.length ≤ 63
    · exact hz
    · exfalso
      have : (63 : Int) < ns.length := Int.ofNat_lt.mpr (Nat.lt_of_not_le hz)
      simp [WTm.holds, WTm.value, PySem.W.less?, PySem.W.Num.less?, this] at h2
  have hCd := codeHd_of_K KX (hc w.params)
  have hTabs : TabsAt [(c, Tb)] s₁.heap := fun q hq => by
    rw [List.mem_singleton.mp hq]; exact ⟨hCd, hT⟩
  have T := ghost_top hTabs G.T
  have gk : ∀ b o, (ghostOf s₁.heap [(c, Tb)]).get? b = some o → s₁.heap.get? b = some o := fun b o e => of_hideAll _ e
  obtain ⟨W, hW1, hW2, hW3, hW4, hW5⟩ : ∃ W : Wd, W.K = Kf w.params ∧ W.prog = l.prog ∧ W.w = w ∧ W.raws = [] ∧ W.B (fun b => (ghostOf s₁.heap [(c, Tb)]).get? b) :=
    ⟨⟨l.prog, w, Kf w.params, _, _, _, _, _, []⟩, rfl, rfl, rfl, rfl, ⟨ghost_K hTabs KX (hno w.params), fun h hp => T.keeps hp⟩⟩
  have hM : W.M = model l.row.toRowW.prog w := by unfold Wd.M; rw [hW2, hW3]; rfl
  cases hwl with | cons wl1 wl2 =>
  cases wl2
  cases wl1 with | list hw1 hw2 =>
  rename_i a vs
  have hP : (ghostOf s₁.heap [(c, Tb)]).get? a = some (listOf vs.toArray 0) := ghost_get hTabs hw1 (fun z => by cases z)
  rw [← hM]
  refine wpAny_call (hlaw W w.params hW1 hW2 hW4 ns hlen callerA (fun b => (ghostOf s₁.heap [(c, Tb)]).get? b) s₁ _ [.ref a] ⟨rfl, ?_, ?_⟩ hW5 gk hW4 (.cons (.list hP (well_ints hw2)) .nil) ⟨?_, ?_, ?_⟩ ?_)
  · show 1 + 300 + k < 1000; omega
  · show 4 + 8 * k + 64 < 9900; omega
  · intro p hp
    rw [List.mem_singleton.mp hp]
    exact ⟨_, hT, .obj _⟩
  · exact List.nodup_cons.mpr ⟨List.not_mem_nil, List.nodup_nil⟩
  · intro p hp
    rw [List.mem_singleton.mp hp]
    exact hideAll_none _ (List.mem_cons_self)
  · rintro v P' s' d Mx' N ⟨rfl, ps, rfl⟩ _ g dv' i
    obtain rfl := i.boolI
    obtain ⟨o', ho', io⟩ := dv'.has (Tb, .obj (tabObj ps)) (List.mem_append_left _ List.mem_cons_self)
    obtain rfl := io.objI.symm
    refine ⟨.inl ⟨_, .bool true, [], rfl, fun cls => rfl, .bool _, ?_, fun _ => ⟨List.nodup_nil, fun a ha => nomatch ha⟩⟩, ⟨fun b o hb => ?_, fun b o hb => g.ext b o hb⟩, g.os, g.gens.2 fun y hy => ?_⟩
    · show (WShape.has [] (.bool true) .bool && WTm.holds [] (.eq .res (.lit (.bool true))) _) = true
      simp [WShape.has, WShape.arms, WTm.holds, WTm.value, PySem.W.same]
    · by_cases hbT : b = Tb
      · subst hbT
        obtain ⟨oc, vsc, _, _, _, _, _, _, _, q1, q2, q3, q4, _⟩ := hCd
        rw [hT] at hb; cases hb
        refine .inr (.inl ⟨⟨c, oc, vsc, q1, q2, q3, q4⟩, rfl, #[], ps, rfl, ?_⟩)
        rw [ho']; simp [tabObj]
      · exact .inl (g.old b o (fun q => hbT (List.mem_singleton.mp q)) hb)
    · rw [hg] at hy; simp at hy
end
section
set_option maxHeartbeats 4000000
theorem cl_joinStr {W : Wd} {k : Nat} {x y : Str} (hok : JoinOk x (signs y) = true) : Cl W k (.builtin "str.join") [.str x, .str y] (.str (Txt.join x (signs y))) := cl_2s fun A S P s E Q t u st hQ => SC.joinStr st.a.1 hok fun h' kk t' hk => hQ _ P _ (Gr.keep (tk := kk) st.p hk) (.str _ _)
theorem signs_eq (y : Str) : signs y = y.cps.toList.map fun c => (⟨#[c]⟩ : Str) := by
  simp [signs]
section
variable {W : Wd} {k : Nat} {env : Env} {Γ : List (Str × D)} {Δ : List (Str × List D)}
/-- C(e, ..), a class upon data -/
theorem ev_callC {x : Str} {C : Addr} {p pos : Pos} {e : Expr} {d1 d : D} (n : NmG W env x (.ref C)) (hk : keepIn W.K (.ref C) = true) (h : Ev W k env Γ Δ e d1) (hc : Cl W k (.ref C) [d1] d)
    (hpe : plainE e = true := by rfl) (hd : (x == ("__debug__" : Str)) = false := by decide) : Ev W k env Γ Δ (.Call (.Name x p) [e] [] pos) d := fun A S P s E Q st hC hQ => by
  refine wp_tk st.tk (wpAny_Call_Name_kw (name_gl st.b st.p hC n ?_ hd))
  have he : starEach [e] env = (false, eval e env) :: starEach [] env := starEach_cons hpe
  refine callWith_K (h₀ := s.heap) (Bs.frag st.b st.p) hk ?_ he rfl
  rw [he]
  refine spliced_cons (h A S P s E _ st hC fun v P₁ s₁ g tk i => spliced_nil ?_)
  refine ⟨Bs.frag (st.b.up g.le) g.inn, ?_⟩
  exact hc A S P₁ s₁ E _ [v] (st.next g tk) (.cons i .nil) fun v2 P₂ s₂ g2 i2 tk2 => hQ v2 P₂ s₂ (g.trans g2) tk2 i2
end
end
section
/-! loop rules by state functions of one index -/
noncomputable abbrev ForSQ (W : Wd) (k : Nat) (A : Around) (env : Env) (s₀ : Shared) (P' H' : Vw) (Q : Flow → Shared → Prop) (B : List (Str × D) → List (Str × List D) → List (Addr × MO) → Prop) {α : Type} (G : α → List (Str × D)) (D : α → List (Str × List D)) (M : α → List (Addr × MO)) (I : α → Prop) : Flow → Shared → Prop := fun f s'' => match f with
  | .ret v => Q (.ret v) s''
  | .brk => ∃ Γ'' Δ'' Mx'' P'', B Γ'' Δ'' Mx'' ∧ At W k A env s₀ P' H' Γ'' Δ'' Mx'' P'' s''
  | _ => ∃ a P'', I a ∧ At W k A env s₀ P' H' (G a) (D a) (M a) P'' s''
noncomputable abbrev ForMSQ (W : Wd) (k : Nat) (A : Around) (env : Env) (s₀ : Shared) (P₀ H : Vw) (Q : Flow → Shared → Prop) {α : Type} (N : α → Nat) (G : α → List (Str × D)) (D : α → List (Str × List D)) (M : α → List (Addr × MO)) (I : α → Prop) (n : Nat) : Flow → Shared → Prop := fun f s3 => match f with
  | .ret v => Q (.ret v) s3
  | .brk => False
  | _ => ∃ a P3, N a < n ∧ I a ∧ At W k A env s₀ P₀ H (G a) (D a) (M a) P3 s3
noncomputable def Sx3 {α : Type} (G : α → List (Str × D)) (Dl : α → List (Str × List D)) (M : α → List (Addr × MO)) (I : α → Prop) (Γ : List (Str × D)) (Δ : List (Str × List D)) (Mx : List (Addr × MO)) : Prop := ∃ a, I a ∧ Γ = G a ∧ Δ = Dl a ∧ Mx = M a
section
variable {W : Wd} {k : Nat} {A : Around} {env : Env} {s₀ : Shared} {P₀ H : Vw} {Γ : List (Str × D)} {Δ : List (Str × List D)} {Mx : List (Addr × MO)} {P : Vw} {s : Shared} {E : Value → Shared → Prop} {Q : Flow → Shared → Prop} {α : Type}
theorem At.delta {Δ' : List (Str × List D)} (X : At W k A env s₀ P₀ H Γ Δ Mx P s) (e : Δ = Δ') : At W k A env s₀ P₀ H Γ Δ' Mx P s := e ▸ X
theorem At.mem {Mx' : List (Addr × MO)} (X : At W k A env s₀ P₀ H Γ Δ Mx P s) (e : Mx = Mx') : At W k A env s₀ P₀ H Γ Δ Mx' P s := e ▸ X
theorem s_forS {x : Str} {px pos : Pos} {iter : Expr} {body rest : List Stmt} {its : List D} (X : At W k A env s₀ P₀ H Γ Δ Mx P s) (hI : EvI (W.at Mx) k env Γ Δ true iter its) (hb : Bindable env x)
    (G : Nat → α → List (Str × D)) (Dl : Nat → α → List (Str × List D)) (M : Nat → α → List (Addr × MO)) (I : Nat → α → Prop) (B : List (Str × D) → List (Str × List D) → List (Addr × MO) → Prop) (a : α) (ha : I 0 a) (eG : Γ = G 0 a) (eD : Δ = Dl 0 a) (eM : Mx = M 0 a)
    (hJx : ∀ i a, (∀ p ∈ G i a, p.1 ≠ x) ∧ (∀ p ∈ Dl i a, p.1 ≠ x))
    (turn : ∀ i d H' a P' s' (E' : Value → Shared → Prop), its[i]? = some d → I i a → At W k A env s₀ P' H' ((x, d) :: G i a) (Dl i a) (M i a) P' s' →
      (∀ Γ'' Δ'' Mx'' P'' s'', At W k A env s₀ P' H' Γ'' Δ'' Mx'' P'' s'' → At W k A env s₀ P₀ H Γ'' Δ'' Mx'' P'' s'') →
      wpAny W.M A (execs body env) (ForSQ W k A env s₀ P' H' Q B (G (i + 1)) (Dl (i + 1)) (M (i + 1)) (I (i + 1))) E' s')
    (done : ∀ a P' s', I its.length a → At W k A env s₀ P₀ H (G its.length a) (Dl its.length a) (M its.length a) P' s' → wpAny W.M A (execs rest env) Q E s')
    (broke : ∀ Γ' Δ' Mx' P' s', B Γ' Δ' Mx' → At W k A env s₀ P₀ H Γ' Δ' Mx' P' s' → wpAny W.M A (execs rest env) Q E s')
    (hs : ∀ v, foldedSetIterable iter env v = pure v := by intro _; rfl) : wpAny W.M A (execs (.For (.Name x px) iter body [] pos :: rest) env) Q E s := by
  refine s_for X hI hb (fun i => Sx3 (G i) (Dl i) (M i) (I i)) B ⟨a, ha, eG, eD, eM⟩ ?_ ?_ ?_ hs
  · rintro i Γ' Δ' Mx' ⟨a, _, rfl, rfl, rfl⟩
    exact hJx i a
  · rintro i d H' Γ' Δ' Mx' P' s' E' hd ⟨a, ia, rfl, rfl, rfl⟩ X back
    refine wpAny_mono (turn i d H' a P' s' E' hd ia X back) (fun f s'' h => ?_) fun _ _ h => h
    cases f with
    | next => exact h.elim fun a h => h.elim fun P'' h => ⟨_, _, _, P'', ⟨a, h.1, rfl, rfl, rfl⟩, h.2⟩
    | cont => exact h.elim fun a h => h.elim fun P'' h => ⟨_, _, _, P'', ⟨a, h.1, rfl, rfl, rfl⟩, h.2⟩
    | _ => exact h
  · rintro Γ' Δ' Mx' P' s' (⟨a, ia, rfl, rfl, rfl⟩ | h) X
    · exact done a P' s' ia X
    · exact broke _ _ _ _ _ h X
theorem s_forMS {x z : Str} {px pz pos : Pos} {body rest' : List Stmt} {ci : Addr} {lci : List (Addr × Obj)} {a0 b0 c0 : Value} (X : At W k A env s₀ P₀ H Γ Δ ((ci, .obj (ciObj a0 b0 c0)) :: Mx) P s) (hz : (z, D.pack ci lci) ∈ Γ) (hb : Bindable env x)
    (N : α → Nat) (G : α → List (Str × D)) (Dl : α → List (Str × List D)) (M : α → List (Addr × MO)) (I : α → Prop) (a : α) (ha : I a) (eG : Γ = G a) (eD : Δ = Dl a) (eM : (ci, .obj (ciObj a0 b0 c0)) :: Mx = M a)
    (turn : ∀ a P' s', I a → At W k A env s₀ P₀ H (G a) (Dl a) (M a) P' s' → ∃ r M1 M2 R, M a = M1 ++ R ∧ ads M2 = ads M1 ∧ NxM (W.at []) k A P' (.ref ci) r M1 M2 ∧
      (match r with
      | none => ∀ P'' s'', Le P' P'' → At W k A env s₀ P₀ H (G a) (Dl a) (M2 ++ R) P'' s'' → wpAny W.M A (execs rest' env) Q E s''
      | some d => ∀ P'' s'' (E' : Value → Shared → Prop), Le P' P'' → At W k A env s₀ P₀ H ((x, d) :: rm x (G a)) (rm x (Dl a)) (M2 ++ R) P'' s'' → wpAny W.M A (execs body env) (ForMSQ W k A env s₀ P₀ H Q N G Dl M I (N a)) E' s''))
    (hd : (z == ("__debug__" : Str)) = false := by decide) (hn : (z == ("__classdict__" : Str)) = false := by decide) (hs : ∀ v, foldedSetIterable (.Name z pz) env v = pure v := by intro _; rfl) :
    wpAny W.M A (execs (.For (.Name x px) (.Name z pz) body [] pos :: rest') env) Q E s := by
  refine s_forM X hz hb (N a) (fun n _ Γ Δ Mx => ∃ a, I a ∧ N a = n ∧ Γ = G a ∧ Δ = Dl a ∧ Mx = M a) ⟨a, ha, rfl, eG, eD, eM⟩ ?_ hd hn hs
  rintro n P' Γ' Δ' Mx' s' ⟨a, ia, rfl, rfl, rfl, rfl⟩ X
  obtain ⟨r, M1, M2, R, h1, h2, h3, h4⟩ := turn a P' s' ia X
  refine ⟨r, M1, M2, R, h1, h2, h3, ?_⟩
  cases r with
  | none => exact h4
  | some d =>
    intro P'' s'' E' l Y
    refine wpAny_mono (h4 P'' s'' E' l Y) (fun f s3 h => ?_) fun _ _ h => h
    cases f with
    | next => exact h.elim fun a h => h.elim fun P3 h => ⟨_, _, _, _, P3, h.1, ⟨a, h.2.1, rfl, rfl, rfl, rfl⟩, h.2.2⟩
    | cont => exact h.elim fun a h => h.elim fun P3 h => ⟨_, _, _, _, P3, h.1, ⟨a, h.2.1, rfl, rfl, rfl, rfl⟩, h.2.2⟩
    | _ => exact h
end
end
section
/-! a loop whose state depends on the turn's number alone -/
noncomputable abbrev ForIQ (W : Wd) (k : Nat) (A : Around) (env : Env) (s₀ : Shared) (P₀ H : Vw) (Q : Flow → Shared → Prop) (Γ : List (Str × D)) (Δ : List (Str × List D)) (Mx : List (Addr × MO)) : Flow → Shared → Prop := fun f s'' => match f with
  | .ret v => Q (.ret v) s''
  | .brk => False
  | _ => ∃ P'', At W k A env s₀ P₀ H Γ Δ Mx P'' s''
section
variable {W : Wd} {k : Nat} {A : Around} {env : Env} {s₀ : Shared} {P₀ H : Vw} {Γ : List (Str × D)} {Δ : List (Str × List D)} {Mx : List (Addr × MO)} {P : Vw} {s : Shared} {E : Value → Shared → Prop} {Q : Flow → Shared → Prop}
theorem s_forI {x : Str} {px pos : Pos} {iter : Expr} {body rest : List Stmt} {its : List D} (X : At W k A env s₀ P₀ H Γ Δ Mx P s) (hI : EvI (W.at Mx) k env Γ Δ true iter its) (hb : Bindable env x)
    (G : Nat → List (Str × D)) (Dl : Nat → List (Str × List D)) (eG : Γ = G 0) (eD : Δ = Dl 0)
    (hJx : ∀ i, (∀ p ∈ G i, p.1 ≠ x) ∧ (∀ p ∈ Dl i, p.1 ≠ x))
    (turn : ∀ i d H' P' s' (E' : Value → Shared → Prop), its[i]? = some d → At W k A env s₀ P' H' ((x, d) :: G i) (Dl i) Mx P' s' →
      wpAny W.M A (execs body env) (ForIQ W k A env s₀ P' H' Q (G (i + 1)) (Dl (i + 1)) Mx) E' s')
    (done : ∀ P' s', At W k A env s₀ P₀ H (G its.length) (Dl its.length) Mx P' s' → wpAny W.M A (execs rest env) Q E s')
    (hs : ∀ v, foldedSetIterable iter env v = pure v := by intro _; rfl) : wpAny W.M A (execs (.For (.Name x px) iter body [] pos :: rest) env) Q E s := by
  refine s_forS (α := Unit) X hI hb (fun i _ => G i) (fun i _ => Dl i) (fun _ _ => Mx) (fun _ _ => True) (fun _ _ _ => False) () trivial eG eD rfl (fun i _ => hJx i) (fun i d H' a P' s' E' hd _ X back => wpAny_mono (turn i d H' P' s' E' hd X) (fun f s'' h => ?_) fun _ _ h => h) (fun _ P s _ X => done P s X) (fun _ _ _ _ _ h _ => h.elim) hs
  cases f with
  | next => exact h.elim fun P Y => ⟨(), P, trivial, Y⟩
  | cont => exact h.elim fun P Y => ⟨(), P, trivial, Y⟩
  | brk => exact h.elim
  | ret _ => exact h
/-- if test: (no else), the test false -/
theorem s_if0 {test : Expr} {body rest : List Stmt} {pos : Pos} {b : Bool} (X : At W k A env s₀ P₀ H Γ Δ Mx P s) (ht : Ts (W.at Mx) k env Γ Δ test b) (hb : b = false)
    (next : ∀ P' s', At W k A env s₀ P₀ H Γ Δ Mx P' s' → wpAny W.M A (execs rest env) Q E s') : wpAny W.M A (execs (.If test body [] pos :: rest) env) Q E s := by
  subst hb
  exact s_if X ht fun P s X => s_nil (next P s X)
/-- a name of the function's own -/
theorem bl {x : Str} (h : env.kindOf x = some .local) : Bindable env x := .inl h
theorem bc {x : Str} (h : env.kindOf x = some .cell) (c : (env.cells.lookup x).isSome = true) : Bindable env x := .inr ⟨h, c⟩
end
end
section
set_option maxHeartbeats 1000000
/-! rules that law 02 asks -/
theorem IsAll.snocI {P : Vw} {vs : List Value} {ds : List D} {d : D} (h : IsAll P vs (ds ++ [d])) : ∃ ws v, vs = ws ++ [v] ∧ IsAll P ws ds ∧ Is P v d := by
  induction ds generalizing vs with
  | nil => obtain ⟨v, rfl, i⟩ := h.oneI; exact ⟨[], v, rfl, .nil, i⟩
  | cons e es ih =>
    obtain ⟨u, r, rfl, i, j⟩ := h.consI
    obtain ⟨ws, v, rfl, a, b⟩ := ih j
    exact ⟨u :: ws, v, rfl, .cons i a, b⟩
section
variable {W : Wd} {k : Nat} {A : Around} {env : Env} {s₀ : Shared} {P₀ H : Vw} {Γ : List (Str × D)} {Δ : List (Str × List D)} {Mx : List (Addr × MO)} {P : Vw} {s : Shared} {E : Value → Shared → Prop} {Q : Flow → Shared → Prop}
/-- x = y.pop(), y a list that turns -/
theorem s_popN {x y : Str} {px py ap pos p : Pos} {rest : List Stmt} {ds : List D} {d : D} (X : At W k A env s₀ P₀ H Γ ((y, ds ++ [d]) :: Δ) Mx P s) (hb : Bindable env x) (hsz : ds.length + 1 ≤ sizeLine)
    (next : ∀ P' s', At W k A env s₀ P₀ H ((x, d) :: rm x Γ) (rm x ((y, ds) :: Δ)) Mx P' s' → wpAny W.M A (execs rest env) Q E s')
    (hd : (y == ("__debug__" : Str)) = false := by decide) (hn : (y == ("__classdict__" : Str)) = false := by decide)
    (hbase : attributeBase (.Name y py) "pop" env (eval (.Name y py) env) = eval (.Name y py) env := by rfl) (hline : (ap.endLine == pos.line) = true := by decide)
    (hs : swapsWith (.Call (.Attribute (.Name y py) "pop" ap) [] [] pos) (some (.Name x px)) p.line env = pure false := by rfl) :
    wpAny W.M A (execs (.Assign [.Name x px] (.Call (.Attribute (.Name y py) "pop" ap) [] [] pos) p :: rest) env) Q E s := by
  refine wpAny_execs_cons (wpAny_Assign_Name ?_ hs)
  obtain ⟨m, cv, ad, yy, hnn⟩ := X.mnew
  obtain ⟨vs, n, e1, q, i⟩ := yy.muts _ List.mem_cons_self
  obtain ⟨ws, v, rfl, iw, iv⟩ := i.snocI
  refine wpAny_Call_method hbase (few_ok rfl (by simp)) hline F.plainAttrs_list F.slot_list_pop F.type_list_pop (name_read X.fn X.st.sv (yy.nameOk e1) ⟨⟨_, q, rfl⟩, fun a ha => by cases ha; exact ⟨_, q, rfl⟩, ?_⟩ hd hn)
  have hl : (ws ++ [v]).toArray.size = ws.length + 1 := by simp
  refine PySem.P.pop_list (n := n) q (y := v) (by rw [hl]; simp) ?_ (by rw [hl, iw.length]; exact hsz)
  have hu := Heap.get?_update_self (Obj.mapSeq fun xs => xs.eraseIdxIfInBounds ((ws ++ [v]).toArray.size - 1)) q (by simp [PySem.W.listOf, Obj.mapSeq, Obj.isFreed])
  have hobj : ∃ n', Obj.mapSeq (fun xs => xs.eraseIdxIfInBounds ((ws ++ [v]).toArray.size - 1)) (listOf (ws ++ [v]).toArray n) = listOf ws.toArray n' := by
    refine ⟨if ((ws ++ [v]).toArray.eraseIdxIfInBounds ((ws ++ [v]).toArray.size - 1)).size == (ws ++ [v]).toArray.size then n else n + 1, ?_⟩
    have e : (ws ++ [v]).toArray.eraseIdxIfInBounds ((ws ++ [v]).toArray.size - 1) = ws.toArray := by rw [hl]; simp [Array.eraseIdxIfInBounds, List.eraseIdx_append_of_length_le]
    simp only [PySem.W.listOf, Obj.mapSeq]
    exact congrArg (fun ys => ({ cls := .type "list", data := .seq ys (if ((ws ++ [v]).toArray.eraseIdxIfInBounds ((ws ++ [v]).toArray.size - 1)).size == (ws ++ [v]).toArray.size then n else n + 1) } : Obj)) e
  obtain ⟨n', hobj⟩ := hobj
  rw [hobj] at hu
  exact (At.turn (tk' := s.toks) X yy hnn X.tk (fun b o nb e => (Heap.SameBut.update ..).extBut b o nb e) hu iw).name iv hb fun s'' X' => next P s'' X'
/-- while test: body -/
theorem s_whileS {α : Type} {test : Expr} {body rest : List Stmt} {pos : Pos} (X : At W k A env s₀ P₀ H Γ Δ Mx P s)
    (N : α → Nat) (G : α → List (Str × D)) (Dl : α → List (Str × List D)) (M : α → List (Addr × MO)) (I : α → Prop) (tst : α → Bool) (a : α) (ha : I a) (eG : Γ = G a) (eD : Δ = Dl a) (eM : Mx = M a)
    (ht : ∀ a, I a → Ts (W.at (M a)) k env (G a) (Dl a) test (tst a))
    (turn : ∀ a P' s' (E' : Value → Shared → Prop), I a → tst a = true → At W k A env s₀ P₀ H (G a) (Dl a) (M a) P' s' → wpAny W.M A (execs body env) (ForMSQ W k A env s₀ P₀ H Q N G Dl M I (N a)) E' s')
    (done : ∀ a P' s', I a → tst a = false → At W k A env s₀ P₀ H (G a) (Dl a) (M a) P' s' → wpAny W.M A (execs rest env) Q E s') :
    wpAny W.M A (execs (.While test body [] pos :: rest) env) Q E s := by
  refine wpAny_execs_cons (wpAny_While ?_)
  refine codeAny_whileLoop (fun n s' => ∃ a P, N a = n ∧ I a ∧ At W k A env s₀ P₀ H (G a) (Dl a) (M a) P s') ?_ (N a) ⟨a, P, rfl, ha, eM ▸ eD ▸ eG ▸ X⟩
  rintro n s' ⟨a, P, rfl, ia, X⟩
  refine ht a ia A _ P s' _ _ X.st X.cx fun P' s'' g tk => ?_
  have X := X.gr g tk
  cases htb : tst a with
  | false =>
    rw [if_neg Bool.false_ne_true]
    exact wpAny_execs_nil (done a P' s'' ia htb X)
  | true =>
    rw [if_pos rfl]
    refine wpAny_mono (turn a P' s'' _ ia htb X) (fun f s3 h => ?_) fun _ _ h => h
    cases f with
    | next => exact h.elim fun b h => h.elim fun P3 h => ⟨N b, h.1, b, P3, rfl, h.2.1, h.2.2⟩
    | cont => exact h.elim fun b h => h.elim fun P3 h => ⟨N b, h.1, b, P3, rfl, h.2.1, h.2.2⟩
    | brk => exact h.elim
    | ret v => exact h
end
section
variable {W : Wd} {k : Nat} {env : Env} {Γ : List (Str × D)} {Δ : List (Str × List D)}
/-- i in [..], ints -/
theorem op_in_ints {i : Int} {ns : List Int} : Op2 W k (compareOp .In) (.int i) (.list (ns.map .int)) (.bool (ns.any (· == i))) := fun A S P s E Q u v st hu hv hQ => by
  obtain ⟨t, rfl⟩ := hu.intI
  obtain ⟨a, vs, n, rfl, q, r⟩ := hv.listI
  have hl : s.heap.IsList a vs.toArray := ⟨_, st.p _ _ q, rfl, n, rfl⟩
  have r' := r
  refine PySem.SeqAt.in_listAt (fun y => match y with | .int j _ => j == i | _ => false) hl (fun y hy => ?_) ?_
  · obtain ⟨j, hj⟩ := List.getElem?_of_mem (by simpa using hy : y ∈ vs)
    obtain ⟨d, hd, iy⟩ := r.getV hj
    rw [List.getElem?_map] at hd
    obtain ⟨m, _, rfl⟩ := Option.map_eq_some_iff.mp hd
    obtain ⟨u, rfl⟩ := iy.intI
    exact PySem.SeqAt.EqAt.int_int m u i t
  · have e : vs.toArray.any (fun y => match y with | .int j _ => j == i | _ => false) = ns.any (· == i) := by
      rw [List.any_toArray]
      clear q hl hQ r' hv
      induction ns generalizing vs with
      | nil => rw [r.nilI]; rfl
      | cons n ns ih =>
        obtain ⟨v, w, rfl, iv, r2⟩ := r.consI
        obtain ⟨u, rfl⟩ := iv.intI
        rw [List.any_cons, List.any_cons, ih _ r2]
    rw [e]; exact hQ _ P _ (Gr.refl st.p) (.bool _)
end
end
section
set_option maxHeartbeats 1000000
/-! expressions in which owned objects turn, one after the other -/
theorem St.nextM {W : Wd} {k : Nat} {A : Around} {S P P' : Vw} {s s' : Shared} {X : List Addr} (x : St W k A S P s) (g : GrM X P s P' s') (hX : ∀ b ∈ X, S b = none) (tk : 1 ≤ s'.toks) : St W k A S P' s' :=
  ⟨x.a, x.b.up g.le, fun b o e => g.old b o (fun hm => by rw [hX b hm] at e; exact nomatch e) (x.sv b o e), g.inn, tk, fun p hp => (x.rw p hp).imp fun o hh => ⟨hh.1, hh.2.mono g.le⟩⟩
noncomputable def EvsM (W : Wd) (k : Nat) (env : Env) (Γ : List (Str × D)) (Δ : List (Str × List D)) (es : List Expr) (ds : List D) (Mx Mx' : List (Addr × MO)) : Prop :=
  ∀ (A : Around) (S P : Vw) (s : Shared) (E : Value → Shared → Prop) (Q : List Value → Shared → Prop) (pos : Pos), St W k A S P s → Cx S P env Γ Δ → Dv P s Mx → (∀ p ∈ Mx, S p.1 = none) →
    (∀ vs P' s', GrM (ads Mx) P s P' s' → 1 ≤ s'.toks → Dv P' s' Mx' → IsAll P' vs ds → Q vs s') → wpAny W.M A (spliced (backTo pos (starEach es env))) Q E s
theorem offS {S : Vw} {Mx : List (Addr × MO)} (h : ∀ p ∈ Mx, S p.1 = none) : ∀ b ∈ ads Mx, S b = none := fun b hb => by
  obtain ⟨p, hp, rfl⟩ := List.mem_map.mp hb; exact h p hp
theorem offS' {S : Vw} {Mx M1 : List (Addr × MO)} (h : ∀ p ∈ Mx, S p.1 = none) (e : ads M1 = ads Mx) : ∀ p ∈ M1, S p.1 = none := fun p hp => offS h p.1 (e ▸ List.mem_map_of_mem hp)
section
variable {W : Wd} {k : Nat} {env : Env} {Γ : List (Str × D)} {Δ : List (Str × List D)} {Mx M1 M2 : List (Addr × MO)}
/-- an expression that turns nothing -/
theorem evm_of {e : Expr} {d : D} (h : Ev W k env Γ Δ e d) : EvM W k env Γ Δ e d Mx Mx := fun A S P s E Q st hC dv hoff hQ =>
  h A S P s E _ st hC fun v P' s' g tk i => hQ v P' s' (g.m _) tk (dv.gr g) i
theorem evsm_nil : EvsM W k env Γ Δ [] [] Mx Mx := fun A S P s E Q pos st hC dv hoff hQ => spliced_nil (hQ [] P s ((Gr.refl st.p).m _) st.tk dv .nil)
theorem evsm_cons {e : Expr} {es : List Expr} {d : D} {ds : List D} (h1 : EvM W k env Γ Δ e d Mx M1) (h2 : EvsM W k env Γ Δ es ds M1 M2) (ha : ads M1 = ads Mx) (hp : plainE e = true := by rfl) : EvsM W k env Γ Δ (e :: es) (d :: ds) Mx M2 := fun A S P s E Q pos st hC dv hoff hQ => by
  rw [starEach_cons hp]
  refine spliced_cons (h1 A S P s E _ st hC dv hoff fun v P₁ s₁ g₁ tk₁ dv₁ i₁ => h2 A S P₁ s₁ E _ pos (st.nextM g₁ (offS hoff) tk₁) (hC.up (Le.refl _) g₁.le) dv₁ (offS' hoff ha) fun vs P₂ s₂ g₂ tk₂ dv₂ i₂ => ?_)
  rw [ha] at g₂
  exact hQ (v :: vs) P₂ s₂ (g₁.trans g₂) tk₂ dv₂ (.cons (i₁.mono g₂.le) i₂)
theorem evmn_list {es : List Expr} {pos : Pos} {ds : List D} (h : EvsM W k env Γ Δ es ds Mx M1) (hsz : Nat.ble ds.length 64 = true := by rfl) : EvMN W k env Γ Δ (.List es pos) ds Mx M1 := fun A S P s E Q st hC dv hoff hQ =>
  List_ (h A S P s E _ pos st hC dv hoff fun vs P₁ s₁ g₁ tk₁ dv₁ i₁ => by
    refine wpAny_newObj_type ?_ (by show vs.toArray.size ≤ sizeLine; rw [List.size_toArray, i₁.length]; exact Nat.le_trans (Nat.le_of_ble_eq_true hsz) (by decide))
    have g := Gr.pushed (P := P₁) (s := s₁) (o := listOf vs.toArray 0) (tk := s₁.toks) g₁.inn
    have z : s.heap.get? s₁.heap.objs.size = none := by
      cases q : s.heap.get? s₁.heap.objs.size with
      | none => rfl
      | some o => obtain ⟨o', q'⟩ := g₁.ext _ _ q; exact absurd (Heap.lt_size q') (Nat.lt_irrefl _)
    exact hQ _ vs 0 P₁ _ (g₁.trans (g.m _)) tk₁ (dv₁.gr g) z (none_size g₁.inn) (Heap.get?_push_size _ rfl) i₁)
theorem evm_tuple {es : List Expr} {n : Nat} {pos : Pos} {ds : List D} (h : EvsM W k env Γ Δ es ds Mx M1) (hsz : Nat.ble ds.length 64 = true := by rfl) : EvM W k env Γ Δ (.Tuple es n pos) (.tup ds) Mx M1 := fun A S P s E Q st hC dv hoff hQ =>
  Tuple_ (h A S P s E _ pos st hC dv hoff fun vs P₁ s₁ g₁ tk₁ dv₁ i₁ => by
    refine wpAny_newObj_type ?_ (by show vs.toArray.size ≤ sizeLine; rw [List.size_toArray, i₁.length]; exact Nat.le_trans (Nat.le_of_ble_eq_true hsz) (by decide))
    obtain ⟨g, q⟩ := Gr.alloc (P := P₁) (s := s₁) (o := { cls := .type "tuple", data := .seq vs.toArray 0 }) (tk := s₁.toks) g₁.inn
    exact hQ _ _ _ (g₁.trans (g.m _)) tk₁ (dv₁.gr g) (.tup q (i₁.mono g.le)))
end
end
section
set_option maxHeartbeats 1000000
section
variable {W : Wd} {k : Nat} {A : Around} {env : Env} {s₀ : Shared} {P₀ H : Vw} {Γ : List (Str × D)} {Δ : List (Str × List D)} {Mx Mx' rest : List (Addr × MO)} {P : Vw} {s : Shared} {E : Value → Shared → Prop} {Q : Flow → Shared → Prop}
theorem AtX.grM {P' : Vw} {s' : Shared} {m cv : Str → Option Value} {ad : Str → Addr} (X : At W k A env s₀ P₀ H Γ Δ (Mx ++ rest) P s) (y : AtX env Γ Δ (Mx ++ rest) H P m cv ad s.heap) (g : GrM (ads Mx) P s P' s') (dv : Dv P' s' Mx') (ha : ads Mx' = ads Mx) : AtX env Γ Δ (Mx' ++ rest) H P' m cv ad s'.heap := by
  obtain ⟨n1, n2, n3, n4⟩ := X.nd y
  have ho : ownOf env Δ ad (Mx' ++ rest) = ownOf env Δ ad (Mx ++ rest) := by unfold ownOf; rw [List.map_append, List.map_append, show Mx'.map (·.1) = Mx.map (·.1) from ha]
  refine ⟨y.ns.at' fun o e => g.old _ _ n1 e, fun p hp => ?_, fun p hp => ?_, fun p hp => ?_, fun p hp => ?_, by rw [ho]; exact y.nd, y.cnd, fun b hb => ?_, fun b hb => ?_⟩
  · obtain ⟨o, q, d⟩ := y.cells p hp; exact ⟨o, g.old _ _ (n2 p hp) q, d⟩
  · obtain ⟨v, e, i⟩ := y.vars p hp; exact ⟨v, e, i.mono g.le⟩
  · obtain ⟨vs, n, e, q, i⟩ := y.muts p hp; exact ⟨vs, n, e, g.old _ _ (n3 p hp) q, i.mono g.le⟩
  · rcases List.mem_append.mp hp with hp | hp
    · exact dv.has p hp
    · obtain ⟨o, q, i⟩ := y.raw p (List.mem_append_right _ hp); exact ⟨o, g.old _ _ (n4 p hp) q, i.mono g.le⟩
  · rw [ho] at hb; exact (grm_none g ⟨y.offP b hb, y.exist b hb⟩).1
  · rw [ho] at hb; exact y.offH b hb
/-- x.append(e), e turning owned objects -/
theorem s_appendM {x : Str} {xp ap pos p : Pos} {e : Expr} {rest' : List Stmt} {ds : List D} {d : D} (X : At W k A env s₀ P₀ H Γ ((x, ds) :: Δ) (Mx ++ rest) P s) (hv : EvM (W.at []) k env Γ ((x, ds) :: Δ) e d Mx Mx') (ha : ads Mx' = ads Mx) (hsz : ds.length ≤ sizeLine)
    (next : ∀ P' s', At W k A env s₀ P₀ H Γ ((x, ds ++ [d]) :: Δ) (Mx' ++ rest) P' s' → wpAny W.M A (execs rest' env) Q E s')
    (hd : (x == ("__debug__" : Str)) = false := by decide) (hn : (x == ("__classdict__" : Str)) = false := by decide)
    (hp : plainE e = true := by rfl) (hbase : attributeBase (.Name x xp) "append" env (eval (.Name x xp) env) = eval (.Name x xp) env := by rfl) (hline : (ap.endLine == pos.line) = true := by decide)
    (hi : interactive env = false := by rfl) :
    wpAny W.M A (execs (.Expr (.Call (.Attribute (.Name x xp) "append" ap) [e] [] pos) p :: rest') env) Q E s := by
  refine wpAny_execs_cons (wpAny_Expr ?_ hi rfl)
  obtain ⟨m, cv, ad, y, hnn⟩ := X.mnew
  obtain ⟨vs, n, e1, q, i⟩ := y.muts _ List.mem_cons_self
  have hpl : [e].all plainE = true := by simp [hp]
  refine wpAny_Call_method hbase (few_ok hpl (by simp)) hline F.plainAttrs_list F.slot_list_append F.type_list_append (name_read X.fn X.st.sv (y.nameOk e1) ⟨⟨_, q, rfl⟩, fun a ha => by cases ha; exact ⟨_, q, rfl⟩, ?_⟩ hd hn)
  refine callWith_builtin (plain_any hpl) ?_
  rw [starEach_cons hp]
  refine evalArgs_plain (spliced_cons (hv A _ P s E _ X.stM X.cxM X.dvM (fun p hp => offX_none (List.mem_map_of_mem hp)) fun v P' s' g tk dv iv => spliced_nil ?_))
  have y' := AtX.grM X y g dv ha
  obtain ⟨_, _, n3, _⟩ := X.nd y
  refine append_at (hsz := by rw [List.size_toArray, i.length]; exact hsz) (g.old _ _ (n3 _ List.mem_cons_self) q) fun h' hs' he' => ?_
  exact next P' _ ((X.grM g tk dv ha).turn (n' := n + 1) y' hnn tk (fun b o n e => hs'.extBut b o n e) (he'.trans (by simp [PySem.W.listOf])) ((i.mono g.le).append (.cons iv .nil)))
/-- return e, e turning owned objects -/
theorem s_retM {p : Pos} {e : Expr} {rest' : List Stmt} {d : D} (X : At W k A env s₀ P₀ H Γ Δ (Mx ++ rest) P s) (hv : EvM (W.at []) k env Γ Δ e d Mx Mx') (ha : ads Mx' = ads Mx)
    (next : ∀ v P' s', At W k A env s₀ P₀ H Γ Δ (Mx' ++ rest) P' s' → Is P' v d → Q (.ret v) s') : wpAny W.M A (execs (.Return (some e) p :: rest') env) Q E s :=
  wpAny_execs_cons (wpAny_Return_some (hv A _ P s E _ X.stM X.cxM X.dvM (fun p hp => offX_none (List.mem_map_of_mem hp)) fun v P' s' g tk dv i => next v P' s' (X.grM g tk dv ha) i))
end
section
variable {W : Wd} {k : Nat} {env : Env} {Γ : List (Str × D)} {Δ : List (Str × List D)} {Mx M1 M2 : List (Addr × MO)}
/-- l + [..], the right one turning -/
theorem evmn_addD {l r : Expr} {pos : Pos} {ds es : List D} (h1 : Ev W k env Γ Δ l (.list ds)) (h2 : EvMN W k env Γ Δ r es Mx M1) (hsz : ds.length + es.length ≤ sizeLine) : EvMN W k env Γ Δ (.BinOp l .Add r pos) (ds ++ es) Mx M1 := fun A S P s E Q st hC dv hoff hQ =>
  wpAny_BinOp (h1 A S P s E _ st hC fun v P₁ s₁ g₁ tk₁ i₁ => h2 A S P₁ s₁ E _ (st.next g₁ tk₁) (hC.up (Le.refl _) g₁.le) (dv.gr g₁) hoff fun b ws m P₂ s₂ g₂ tk₂ dv₂ z0 z1 q₂ i₂ => by
    obtain ⟨a, vs, n, rfl, q₁, i₁⟩ := i₁.listI
    have g12 := (g₁.m (ads Mx)).trans g₂
    refine _root_.PySem.P.add_list (items := vs.toArray) (items2 := ws.toArray) (g₂.inn _ _ (g₂.le _ _ q₁)) q₂ ?_ (by rw [List.size_toArray, List.size_toArray, i₁.length, i₂.length]; exact hsz)
    rw [List.append_toArray]
    have g := Gr.pushed (P := P₂) (s := s₂) (o := listOf (vs ++ ws).toArray 0) (tk := s₂.toks) g₂.inn
    have z : s.heap.get? s₂.heap.objs.size = none := by
      cases q : s.heap.get? s₂.heap.objs.size with
      | none => rfl
      | some o => obtain ⟨o', q'⟩ := g12.ext _ _ q; exact absurd (Heap.lt_size q') (Nat.lt_irrefl _)
    exact hQ _ (vs ++ ws) 0 P₂ _ (g12.trans (g.m _)) tk₂ (dv₂.gr g) z (none_size g₂.inn) (Heap.get?_push_size _ rfl) ((i₁.mono g₂.le).append i₂))
theorem evalArgs_evM {A : Around} {S P : Vw} {s : Shared} {E : Value → Shared → Prop} {Q : Args → Shared → Prop} {f : Value} {e : Expr} {r : List Expr} {ds : List D} {pos : Pos} (hp : (e :: r).all plainE = true) (st : St W k A S P s) (hC : Cx S P env Γ Δ) (dv : Dv P s Mx) (hoff : ∀ p ∈ Mx, S p.1 = none) (h : EvsM W k env Γ Δ (e :: r) ds Mx M1)
    (hQ : ∀ vs P' s', GrM (ads Mx) P s P' s' → 1 ≤ s'.toks → Dv P' s' M1 → IsAll P' vs ds → Q ⟨vs, []⟩ s') : wpAny W.M A (evalArgs f true (backTo pos (starEach (e :: r) env)) []) Q E s := by
  have h' := Bool.and_eq_true_iff.mp (by simpa using hp : (plainE e && r.all plainE) = true)
  have z := h A S P s E (fun vs s' => Q ⟨vs, []⟩ s') pos st hC dv hoff hQ
  rw [starEach_cons h'.1] at z ⊢
  exact evalArgs_plain z
/-- a method of str upon what is made while owned objects turn -/
theorem evm_smeth {o : Expr} {name : Str} {apos pos : Pos} {e : Expr} {r : List Expr} {id : String} {x : Str} {ds : List D} {d : D} (h0 : Ev W k env Γ Δ o (.str x)) (h1 : EvsM W k env Γ Δ (e :: r) ds Mx M1)
    (slot : Slot "str" name id) (hty : typeOf (.builtin id) = pure (.type "method_descriptor")) (hc : Cl W k (.builtin id) (.str x :: ds) d)
    (hp : (e :: r).all plainE = true := by rfl) (hl : (e :: r).length < 29 := by decide) (hbase : attributeBase o name env (eval o env) = eval o env := by rfl) (hline : (apos.endLine == pos.line) = true := by decide) :
    EvM W k env Γ Δ (.Call (.Attribute o name apos) (e :: r) [] pos) d Mx M1 := fun A S P s E Q st hC dv hoff hQ => by
  refine wpAny_Call_method hbase (few_ok hp hl) hline F.plainAttrs_str slot hty (h0 A S P s E _ st hC fun v P₁ s₁ g₁ tk₁ i₁ => ⟨typeIs_of i₁, noRef_of i₁, ?_⟩)
  refine callWith_builtin (plain_any hp) (evalArgs_evM hp (st.next g₁ tk₁) (hC.up (Le.refl _) g₁.le) (dv.gr g₁) hoff h1 fun vs P₂ s₂ g₂ tk₂ dv₂ i₂ => ?_)
  have g12 := (g₁.m (ads Mx)).trans g₂
  exact wp_tk tk₂ (hc A S P₂ s₂ E _ (v :: vs) (st.nextM g12 (offS hoff) tk₂) (.cons (i₁.mono g₂.le) i₂) fun u P₃ s₃ g₃ i₃ tk₃ => hQ u P₃ s₃ (g12.trans (g₃.m _)) tk₃ (dv₂.gr g₃) i₃)
end
end
section
set_option maxHeartbeats 1000000
/-! a function made anew from a code object that the table holds already -/
section
variable {W : Wd} {k : Nat} {A : Around} {env : Env} {s₀ : Shared} {P₀ H : Vw} {Γ : List (Str × D)} {Δ : List (Str × List D)} {Mx : List (Addr × MO)} {P : Vw} {s : Shared} {E : Value → Shared → Prop} {Q : Flow → Shared → Prop}
theorem s_lambdaH {x : Str} {p pos lpos : Pos} {params : Arguments} {body : Expr} {scope : Scope} {clos : List (Str × Addr)} {rest' : List Stmt} {c Tb : Addr} {ps : Array Value} {cc : Value} (X : At W k A env s₀ P₀ H Γ Δ ((Tb, .obj (tabObj ps)) :: Mx) P s) (hcode : env.code = .ref c) (hC : codeHdIn W.K c Tb = true) (ht : TriplesOk ps.toList) (hf : codeAmong lpos ps.toList = some cc)
    (hdef : defaultsOf params env = ([], [])) (hcl : closureFor scope env = pure clos) (hb : Bindable env x)
    (next : ∀ st fd P' s', s₀.heap.get? st = none → At W k A env s₀ P₀ H ((x, .raw st) :: rm x Γ) (rm x Δ) ((st, .obj (fnObj0 fd)) :: (Tb, .obj (tabObj ps)) :: Mx) P' s' → wpAny W.M A (execs rest' env) Q E s')
    (hs : swapsWith (.Lambda params body scope lpos) (some (.Name x p)) pos.line env = pure false := by rfl) :
    wpAny W.M A (execs (.Assign [.Name x p] (.Lambda params body scope lpos) pos :: rest') env) Q E s := by
  refine wpAny_execs_cons (wpAny_Assign_Name (kla_eval hdef (wp_tk X.tk ?_)) hs)
  obtain ⟨m, cv, ad, y, hn⟩ := X.mnew
  obtain ⟨ob, q, i⟩ := y.raw _ List.mem_cons_self
  obtain rfl := i.objI.symm
  have T := X.b.top s.heap X.inn
  obtain ⟨t1, t2⟩ := top_bi T q
  refine kla_makeFunctionHit (mg := W.mg) hcl X.gl T.g hcode (codeHd_of_K (Bs.frag X.b X.inn) hC) q ht hf t2 fun ctv h' tk hk hge tk1 => ?_
  have fs : s.heap.get? h'.objs.size = none := Heap.get?_none_of_le hge
  generalize hob : ({ cls := .type "function", data := .func (kla_fn "<lambda>" (env.qual ++ "<lambda>") params body scope clos ((W.mg "__name__").getD .none) cc ctv) } : Obj) = obj at tk1 ⊢
  have hfd : ∃ fd, obj = fnObj0 fd := ⟨_, hob.symm⟩
  obtain ⟨fd, rfl⟩ := hfd
  have g : Gr P s P { s with heap := h'.push (fnObj0 fd), toks := tk } := Gr.keep X.inn fun b o e => Heap.get?_push_of_some _ (hk b o e)
  have X1 := X.gr g tk1
  obtain ⟨m2, cv2, ad2, y2, _, ho2⟩ := X.gr_own g
  have z0 := X.none₀ fs
  have X2 := X1.take (mo := .obj (fnObj0 fd)) (none_of_in X.inn fs) z0.2 ⟨m2, cv2, ad2, y2, ho2 _ fs⟩ (Heap.get?_push_size _ rfl) (.obj _)
  exact X2.name (.raw _) hb fun s'' X3 => next _ fd P s'' z0.1 X3
theorem s_defH {x : Str} {pos : Pos} {params : Arguments} {body : List Stmt} {scope : Scope} {clos : List (Str × Addr)} {rest' : List Stmt} {c Tb c' : Addr} {ps : Array Value} {oc : Obj} (X : At W k A env s₀ P₀ H Γ Δ ((Tb, .obj (tabObj ps)) :: Mx) P s) (hcode : env.code = .ref c) (hC : codeHdIn W.K c Tb = true) (ht : TriplesOk ps.toList) (hf : codeAmong pos ps.toList = some (.ref c')) (hc' : P c' = some oc)
    (hd0 : params.defaults = []) (hk0 : params.kw_defaults = []) (han : annTrees params none env = []) (hcl : closureFor scope env = pure clos) (hb : Bindable env x)
    (next : ∀ rd of P' s', (∃ doc pm ctv, of = fnMade x (qualnameIn env x x) params body scope clos doc pm c' ctv) → At W k A env s₀ P₀ H ((x, .pack rd [(rd, of), (c', oc)]) :: rm x Γ) (rm x Δ) ((Tb, .obj (tabObj ps)) :: Mx) P' s' → wpAny W.M A (execs rest' env) Q E s') :
    wpAny W.M A (execs (.FunctionDef x params body [] none [] scope none x pos :: rest') env) Q E s := by
  refine wpAny_execs_cons (nestDef_K hd0 hk0 han (wp_tk X.tk ?_))
  obtain ⟨m, cv, ad, y, hn⟩ := X.mnew
  obtain ⟨ob, q, i⟩ := y.raw _ List.mem_cons_self
  obtain rfl := i.objI.symm
  have T := X.b.top s.heap X.inn
  obtain ⟨t1, t2⟩ := top_bi T q
  refine makeFunction_hit (mg := W.mg) hcl X.gl T.g hcode (codeHd_of_K (Bs.frag X.b X.inn) hC) q ht hf t2 fun ctv doc h' tk hk hge tk1 => ?_
  have fs : s.heap.get? h'.objs.size = none := Heap.get?_none_of_le hge
  generalize hob : fnMade x (qualnameIn env x x) params body scope clos doc ((W.mg "__name__").getD .none) c' ctv = obj at tk1 ⊢
  have hnew : (h'.push obj).get? h'.objs.size = some obj := Heap.get?_push_size _ (by rw [← hob]; rfl)
  have g : Gr P s (addV P h'.objs.size obj) { s with heap := h'.push obj, toks := tk } := Gr.add (Gr.keep X.inn fun b o e => Heap.get?_push_of_some _ (hk b o e)) fs (none_of_in X.inn fs) hnew
  have X1 := X.gr g tk1
  have hne : c' ≠ h'.objs.size := fun z => by rw [← z, X.inn _ _ hc'] at fs; exact nomatch fs
  have iv : Is (addV P h'.objs.size obj) (.ref h'.objs.size) (.pack h'.objs.size [(h'.objs.size, obj), (c', oc)]) := .pack fun p hp => by
    simp only [List.mem_cons, List.not_mem_nil, or_false] at hp
    rcases hp with rfl | rfl
    · exact addV_at
    · show addV _ _ _ c' = _
      rw [addV_ne hne]; exact hc'
  subst hob
  exact X1.name iv hb fun s'' X3 => next _ _ _ s'' ⟨doc, _, ctv, rfl⟩ X3
/-- a ghost's objects stand -/
theorem At.alsoP {z : Str} {d : D} {l : List (Addr × Obj)} (X : At W k A env s₀ P₀ H Γ Δ Mx P s) (h : (z, D.also d l) ∈ Γ) : ∀ p ∈ l, P p.1 = some p.2 := by
  obtain ⟨v, _, i⟩ := X.cx.vars _ h
  exact i.alsoI.2
end
section
variable {W : Wd} {k : Nat} {env : Env} {Γ : List (Str × D)} {Δ : List (Str × List D)}
theorem Ev.plain {e : Expr} {d : D} {l : List (Addr × Obj)} (h : Ev W k env Γ Δ e (.also d l)) : Ev W k env Γ Δ e d := fun A S P s E Q st hC hQ => h A S P s E Q st hC fun v P' s' g tk i => hQ v P' s' g tk i.alsoI.1
theorem Ev.weakT {e : Expr} {x : Str} {b : Nat} (h : Ev W k env Γ Δ e (.strT x b)) : Ev W k env Γ Δ e (.str x) := fun A S P s E Q st hC hQ => h A S P s E Q st hC fun v P' s' g tk i => hQ v P' s' g tk i.weak
end
/-! both ways of an if meeting -/
noncomputable abbrev JoinIQ (W : Wd) (k : Nat) (A : Around) (env : Env) (s₀ : Shared) (P₀ H : Vw) (Q : Flow → Shared → Prop) (Γ : List (Str × D)) (Δ : List (Str × List D)) (Mx : List (Addr × MO)) : Flow → Shared → Prop := fun f s'' => match f with
  | .next => ∃ P'', At W k A env s₀ P₀ H Γ Δ Mx P'' s''
  | f => Q f s''
/-! a loop whose state, the owned objects too, depends on the turn's number alone -/
section
variable {W : Wd} {k : Nat} {A : Around} {env : Env} {s₀ : Shared} {P₀ H : Vw} {Γ : List (Str × D)} {Δ : List (Str × List D)} {Mx : List (Addr × MO)} {P : Vw} {s : Shared} {E : Value → Shared → Prop} {Q : Flow → Shared → Prop}
theorem s_forJ {x : Str} {px pos : Pos} {iter : Expr} {body rest : List Stmt} {its : List D} (X : At W k A env s₀ P₀ H Γ Δ Mx P s) (hI : EvI (W.at Mx) k env Γ Δ true iter its) (hb : Bindable env x)
    (G : Nat → List (Str × D)) (Dl : Nat → List (Str × List D)) (M : Nat → List (Addr × MO)) (eG : Γ = G 0) (eD : Δ = Dl 0) (eM : Mx = M 0)
    (hJx : ∀ i, (∀ p ∈ G i, p.1 ≠ x) ∧ (∀ p ∈ Dl i, p.1 ≠ x))
    (turn : ∀ i d H' P' s' (E' : Value → Shared → Prop), its[i]? = some d → At W k A env s₀ P' H' ((x, d) :: G i) (Dl i) (M i) P' s' →
      wpAny W.M A (execs body env) (ForIQ W k A env s₀ P' H' Q (G (i + 1)) (Dl (i + 1)) (M (i + 1))) E' s')
    (done : ∀ P' s', At W k A env s₀ P₀ H (G its.length) (Dl its.length) (M its.length) P' s' → wpAny W.M A (execs rest env) Q E s')
    (hs : ∀ v, foldedSetIterable iter env v = pure v := by intro _; rfl) : wpAny W.M A (execs (.For (.Name x px) iter body [] pos :: rest) env) Q E s := by
  refine s_forS (α := Unit) X hI hb (fun i _ => G i) (fun i _ => Dl i) (fun i _ => M i) (fun _ _ => True) (fun _ _ _ => False) () trivial eG eD eM (fun i _ => hJx i) (fun i d H' a P' s' E' hd _ X back => wpAny_mono (turn i d H' P' s' E' hd X) (fun f s'' h => ?_) fun _ _ h => h) (fun _ P s _ X => done P s X) (fun _ _ _ _ _ h _ => h.elim) hs
  cases f with
  | next => exact h.elim fun P Y => ⟨(), P, trivial, Y⟩
  | cont => exact h.elim fun P Y => ⟨(), P, trivial, Y⟩
  | brk => exact h.elim
  | ret _ => exact h
theorem s_ifM {test : Expr} {body rest : List Stmt} {pos : Pos} {b : Bool} (X : At W k A env s₀ P₀ H Γ Δ Mx P s) (ht : Ts (W.at Mx) k env Γ Δ test b) {Γ' : List (Str × D)} {Δ' : List (Str × List D)} {Mx' : List (Addr × MO)}
    (hy : b = true → ∀ P' s', At W k A env s₀ P₀ H Γ Δ Mx P' s' → wpAny W.M A (execs body env) (JoinIQ W k A env s₀ P₀ H Q Γ' Δ' Mx') E s')
    (hn : b = false → ∀ P' s', At W k A env s₀ P₀ H Γ Δ Mx P' s' → At W k A env s₀ P₀ H Γ' Δ' Mx' P' s')
    (next : ∀ P' s', At W k A env s₀ P₀ H Γ' Δ' Mx' P' s' → wpAny W.M A (execs rest env) Q E s') :
    wpAny W.M A (execs (.If test body [] pos :: rest) env) Q E s := by
  refine s_if X ht fun P s X => ?_
  cases b with
  | false => exact s_nil (next P s (hn rfl P s X))
  | true => exact wpAny_mono (hy rfl P s X) (fun f s' h => by
      cases f with
      | next => exact h.elim fun P Y => next P s' Y
      | _ => exact h) fun _ _ h => h
end
end
section
open PySem PySem.W PySem.Calls PyProof.Rows PySem.Spec PySem.SeqAt PyProof.V
set_option maxHeartbeats 1000000
section
variable {W : Wd} {k : Nat} {A : Around} {env : Env} {s₀ : Shared} {P₀ H : Vw} {Γ : List (Str × D)} {Δ Δ' : List (Str × List D)} {Mx : List (Addr × MO)} {P : Vw} {s : Shared}
/-- the lists that turn, in another order -/
theorem At.permD (X : At W k A env s₀ P₀ H Γ Δ Mx P s) (h : Δ'.Perm Δ) : At W k A env s₀ P₀ H Γ Δ' Mx P s := by
  obtain ⟨m, cv, ad, y, hn⟩ := X.mnew
  have hp : (ownOf env Δ' ad Mx).Perm (ownOf env Δ ad Mx) := List.Perm.cons _ (List.Perm.append (List.Perm.refl _) (List.Perm.append (h.map _) (List.Perm.refl _)))
  exact { X with mnew := ⟨m, cv, ad, { y with muts := fun p q => y.muts p (h.subset q), nd := hp.nodup_iff.mpr y.nd, offP := fun b hb => y.offP b (hp.subset hb), offH := fun b hb => y.offH b (hp.subset hb) }, fun p q => hn p (h.subset q)⟩ }
end
section
variable {W : Wd} {k : Nat} {env : Env} {Γ : List (Str × D)} {Δ : List (Str × List D)}
theorem readsAll_strs {P : Vw} {h : Heap} {vs : List Value} {xs : List Str} (r : IsAll P vs (xs.map .str)) : ∃ as, ReadsAll h vs (xs.map .str) as := by
  induction xs generalizing vs with
  | nil => rw [r.nilI]; exact ⟨_, .nil⟩
  | cons x xs ih =>
    obtain ⟨v, w, rfl, i, r'⟩ := r.consI
    obtain ⟨t, rfl⟩ := i.strI
    obtain ⟨as, ra⟩ := ih r'
    exact ⟨_, .cons (.str x t) ra⟩
/-- l != [..], l a list that turns -/
theorem ts_neL {l r : Expr} {pos : Pos} {xs ys : List Str} (h1 : EvL W k env Γ Δ l (xs.map .str)) (h2 : Ev W k env Γ Δ r (.list (ys.map .str))) (hx : strsOk xs = true) (hy : strsOk ys = true) (hm : behindInMarks .NotEq r = false := by with_unfolding_all rfl) : Ts W k env Γ Δ (.Compare l [.NotEq] [r] pos) (!decide (xs = ys)) := .mk fun A S P s E Q st hC hQ =>
  wpAny_isTrue_Compare1 (h1 A S P s E _ st hC fun a vs n P₁ s₁ g₁ tk₁ q₁ i₁ => h2 A S P₁ s₁ E _ (st.next g₁ tk₁) (hC.up (Le.refl _) g₁.le) fun y P₂ s₂ g₂ tk₂ i₂ => by
    obtain ⟨as, ra⟩ := readsAll_strs (h := s₂.heap) i₁
    obtain ⟨bs, rb⟩ := reads_strs g₂.inn i₂
    refine ne_dataH_same (.list (g₂.old _ _ q₁) rfl rfl (by simpa using ra)) rb (shaped_strs xs hx) (shaped_strs ys hy) (units_ok st.a) (by simp only [noMix]; exact noMix_strs xs ys) ?_
    simp only [PySem.Spec.same, same_strs]
    exact wpAny_truthy_bool (hQ P₂ s₂ (g₁.trans g₂))) hm
end
end
section
set_option maxHeartbeats 1000000
/-! a loop upon a str's signs that keeps account of the tokens -/
noncomputable abbrev ForTQ (W : Wd) (k : Nat) (A : Around) (env : Env) (s₀ : Shared) (P₀ H : Vw) (Q : Flow → Shared → Prop) (J : Nat → List (Str × D) → List (Str × List D) → List (Addr × MO) → Prop) : Flow → Shared → Prop := fun f s'' => match f with
  | .ret v => Q (.ret v) s''
  | .brk => False
  | _ => ∃ T Γ Δ Mx P'', J T Γ Δ Mx ∧ T ≤ s''.toks ∧ At W k A env s₀ P₀ H Γ Δ Mx P'' s''
section
variable {W : Wd} {k : Nat} {A : Around} {env : Env} {s₀ : Shared} {P₀ H : Vw} {Γ : List (Str × D)} {Δ : List (Str × List D)} {Mx : List (Addr × MO)} {P : Vw} {s : Shared} {E : Value → Shared → Prop} {Q : Flow → Shared → Prop}
theorem s_forT {x z : Str} {px pos : Pos} {iter : Expr} {body rest : List Stmt} (X : At W k A env s₀ P₀ H Γ Δ Mx P s) (hI : Ev (W.at Mx) k env Γ Δ iter (.str z)) (hz : z.cps.all (· < 128) = true) (hb : Bindable env x) (T : Nat) (hT : T ≤ s.toks)
    (J : Nat → Nat → List (Str × D) → List (Str × List D) → List (Addr × MO) → Prop) (hJ : J 0 T Γ Δ Mx)
    (hJx : ∀ i T Γ' Δ' Mx', J i T Γ' Δ' Mx' → (∀ p ∈ Γ', p.1 ≠ x) ∧ (∀ p ∈ Δ', p.1 ≠ x))
    (turn : ∀ i c T tk H' Γ' Δ' Mx' P' s' (E' : Value → Shared → Prop), z.cps[i]? = some c → J i T Γ' Δ' Mx' → T ≤ s'.toks → tk ≤ s'.toks → At W k A env s₀ P' H' ((x, .strT ⟨#[c]⟩ tk) :: Γ') Δ' Mx' P' s' →
      wpAny W.M A (execs body env) (ForTQ W k A env s₀ P' H' Q (J (i + 1))) E' s')
    (done : ∀ T Γ' Δ' Mx' P' s', J z.cps.size T Γ' Δ' Mx' → T ≤ s'.toks → At W k A env s₀ P₀ H Γ' Δ' Mx' P' s' → wpAny W.M A (execs rest env) Q E s')
    (hs : ∀ v, foldedSetIterable iter env v = pure v := by intro _; rfl) : wpAny W.M A (execs (.For (.Name x px) iter body [] pos :: rest) env) Q E s := by
  refine wpAny_execs_cons (wpAny_For (wpAny_with_toks hT (hI A _ P s _ _ X.st X.cx fun v P₁ s₀₁ g₁ tk₁ i₁ hT₁ => ?_)) hs)
  obtain ⟨t, rfl⟩ := i₁.strI
  refine wpAny_pyIter_ascii hz ?_
  have hIs : s.heap.get? s₀₁.heap.objs.size = none := none_of_old g₁.old (Heap.get?_none_of_le (Nat.le_refl _))
  have hI0 : P₁ s₀₁.heap.objs.size = none := none_size g₁.inn
  have hst₁ : (({ s₀₁ with heap := s₀₁.heap.push { cls := .type "str_ascii_iterator", data := .fields #[.str z t, .int 0 0] } } : Shared).heap).IsStrIter s₀₁.heap.objs.size "str_ascii_iterator" z t 0 := ⟨_, Heap.get?_push_size _ rfl, rfl, rfl⟩
  have g₂ : Gr P s P₁ ({ s₀₁ with heap := s₀₁.heap.push { cls := .type "str_ascii_iterator", data := .fields #[.str z t, .int 0 0] } } : Shared) := g₁.trans (Gr.pushed (tk := s₀₁.toks) g₁.inn)
  have hT₂ : T ≤ ({ s₀₁ with heap := s₀₁.heap.push { cls := .type "str_ascii_iterator", data := .fields #[.str z t, .int 0 0] } } : Shared).toks := hT₁
  have tk₂ : 1 ≤ ({ s₀₁ with heap := s₀₁.heap.push { cls := .type "str_ascii_iterator", data := .fields #[.str z t, .int 0 0] } } : Shared).toks := tk₁
  generalize s₀₁.heap.objs.size = I at hIs hI0 hst₁ ⊢
  generalize ({ s₀₁ with heap := s₀₁.heap.push { cls := .type "str_ascii_iterator", data := .fields #[.str z t, .int 0 0] } } : Shared) = s₁ at g₂ hT₂ tk₂ hst₁ ⊢
  clear hT₁ g₁ tk₁ i₁
  have hSO : ∀ {i : Nat} {h : Heap}, h.IsStrIter I "str_ascii_iterator" z t i → ∃ o, h.get? I = some o := fun q => by obtain ⟨o, q, _⟩ := q; exact ⟨o, q⟩
  obtain ⟨oI, hoI⟩ := hSO hst₁
  have zI := X.none₀ hIs
  have X₁ := X.gr g₂ tk₂
  have own₁ : ∃ m cv ad, AtX env Γ Δ Mx H P₁ m cv ad s₁.heap ∧ I ∉ ownOf env Δ ad Mx := by
    obtain ⟨m, cv, ad, y, _, ho⟩ := X.gr_own g₂
    exact ⟨m, cv, ad, y, ho I hIs⟩
  have P0I : P₀ I = none := by
    cases q : P₀ I with
    | none => rfl
    | some o => rw [X₁.le _ _ q] at hI0; cases hI0
  have HleI : ∀ h, Le H (HI H I h) := fun h b o e => by
    have n : b ≠ I := fun z => by rw [z, zI.2] at e; cases e
    rw [HI_ne n]; exact e
  have fpK : ∀ i (h h' : Heap), h.IsStrIter I "str_ascii_iterator" z t i → (∀ o, h.get? I = some o → h'.get? I = some o) → h'.IsStrIter I "str_ascii_iterator" z t i := fun i h h' q hi => by
    obtain ⟨o, q, r⟩ := q; exact ⟨o, hi o q, r⟩
  refine codeAny_forLoop (fun j s' => ∃ i T Γ' Δ' Mx' P', i ≤ z.cps.size ∧ j = z.cps.size + 1 - i ∧ J i T Γ' Δ' Mx' ∧ T ≤ s'.toks ∧ Le P₁ P' ∧ P' I = none ∧ s'.heap.IsStrIter I "str_ascii_iterator" z t i ∧ At W k A env s₀ P₀ (HI H I s'.heap) Γ' Δ' Mx' P' s') ?_ (z.cps.size + 1)
    ⟨0, T, Γ, Δ, Mx, P₁, Nat.zero_le _, rfl, hJ, hT₂, Le.refl _, hI0, hst₁, X₁.iter (h' := s₁.heap) (fun _ _ => rfl) own₁ hI0 zI.1 (fun _ _ _ e => e) tk₂⟩
  rintro j s' ⟨i, T, Γ', Δ', Mx', P', hi, rfl, hJ', hT', le', hPI, hst', X'⟩
  obtain ⟨oI', hoI'⟩ := hSO hst'
  have own' := X'.notOwn (I := I) (o := oI') (by rw [HI_at]; exact hoI')
  by_cases hlt : i < z.cps.size
  · have hc : z.cps[i]? = some z.cps[i] := by simp [hlt]
    refine wpAny_pyNext_ascii_item hst' hc fun h₂ hst₂ hsb => ?_
    have X₂ : At W k A env s₀ P₀ (HI H I h₂) Γ' Δ' Mx' P' { s' with heap := h₂, toks := s'.toks + 1 } := X'.iter (fun b n => HI_ne n) own' hPI zI.1 (fun b o n e => hsb.extBut b o n e) (Nat.le_add_left _ _)
    obtain ⟨hx1, hx2⟩ := hJx i T Γ' Δ' Mx' hJ'
    obtain ⟨m, cv, ad, y, hn⟩ := X₂.mnew
    obtain ⟨oI₂, hoI₂⟩ := hSO hst₂
    refine wpAny_assign_Name (wpAny_with_toks (n := s'.toks + 1) (Nat.le_refl _) (At.store X₂ y hn hb hx1 hx2 fun s₃ g1 _ g3 tk₃ => ?_))
    have X₃ := (g1 (.strT ⟨#[z.cps[i]]⟩ (s'.toks + 1)) (.strT (Nat.ne_of_gt X'.tk) (Nat.lt_succ_self _))).1
    have hst₃ := fpK _ _ s₃.heap hst₂ (fun o e => X₃.hin _ _ (by rw [HI_at]; exact e))
    refine wpAny_mono (turn i z.cps[i] T (s'.toks + 1) (HI H I h₂) Γ' Δ' Mx' P' s₃ _ hc hJ' (Nat.le_trans hT' (Nat.le_of_succ_le tk₃)) tk₃ X₃.rebase) (fun f s₄ q => ?_) fun _ _ z => z
    have go : ∀ T Γ'' Δ'' Mx'' P'', J (i + 1) T Γ'' Δ'' Mx'' → T ≤ s₄.toks → At W k A env s₀ P' (HI H I h₂) Γ'' Δ'' Mx'' P'' s₄ → ∃ m, m < z.cps.size + 1 - i ∧ ∃ i T Γ' Δ' Mx' P', i ≤ z.cps.size ∧ m = z.cps.size + 1 - i ∧ J i T Γ' Δ' Mx' ∧ T ≤ s₄.toks ∧ Le P₁ P' ∧ P' I = none ∧ s₄.heap.IsStrIter I "str_ascii_iterator" z t i ∧ At W k A env s₀ P₀ (HI H I s₄.heap) Γ' Δ' Mx' P' s₄ := by
      intro T Γ'' Δ'' Mx'' P'' hJ4 hT4 Y
      have X₄ := X₃.back Y
      have st4 := fpK _ _ s₄.heap hst₂ (fun o e => Y.hin _ _ (by rw [HI_at]; exact e))
      have hI4 : P'' I = none := by
        cases q : P'' I with
        | none => rfl
        | some o =>
          rcases X₄.newH I o q with z | z
          · rw [P0I] at z; cases z
          · rw [HI_at, hoI₂] at z; cases z
      have own4 := X₄.notOwn (I := I) (o := oI₂) (by rw [HI_at]; exact hoI₂)
      exact ⟨z.cps.size + 1 - (i + 1), ar_step hlt, i + 1, T, Γ'', Δ'', Mx'', P'', hlt, rfl, hJ4, hT4, le'.trans Y.le, hI4, st4, X₄.iter (h' := s₄.heap) (fun b n => HI_ne n) own4 hI4 zI.1 (fun _ _ _ e => e) X₄.tk⟩
    cases f with
    | next => obtain ⟨T, Γ'', Δ'', Mx'', P'', hJ4, hT4, Y⟩ := q; exact go _ _ _ _ _ hJ4 hT4 Y
    | cont => obtain ⟨T, Γ'', Δ'', Mx'', P'', hJ4, hT4, Y⟩ := q; exact go _ _ _ _ _ hJ4 hT4 Y
    | brk => exact q.elim
    | ret v => exact q
  · obtain rfl : i = z.cps.size := Nat.le_antisymm hi (Nat.not_lt.mp hlt)
    refine wp_tk X'.tk (wpAny_pyNext_ascii_end X.a.1 hst' (by simp) fun h₂ hk₂ tkd => ?_)
    have X₂ : At W k A env s₀ P₀ (HI H I h₂) Γ' Δ' Mx' P' { s' with heap := h₂, toks := s'.toks } := X'.iter (fun b n => HI_ne n) own' hPI zI.1 (fun b o n e => hk₂ b o n e) tkd
    exact wpAny_execs_nil (done T Γ' Δ' Mx' P' _ hJ' hT' (X₂.lessH (HleI h₂)))
theorem wpAny_of_one {a : Stmt} (h : wpAny W.M A (execs [a] env) Q E s) : wpAny W.M A (exec a env) Q E s := fun Γ p hΓ => by
  have h := h Γ p hΓ
  rw [execs_cons, Sem.wp_bind'] at h
  refine Sem.wp_mono W.M Γ _ (fun f p' s' h' => ?_) (fun _ _ _ h' => h') _ _ h
  cases f <;> exact h'
/-- one statement, with what it does to the tokens' number -/
theorem s_tok {a : Stmt} {rest : List Stmt} {n : Nat} (hn : n ≤ s.toks) (h : wpAny W.M A (execs [a] env) (fun f s' => match f with | .next => n ≤ s'.toks → wpAny W.M A (execs rest env) Q E s' | f => Q f s') E s) : wpAny W.M A (execs (a :: rest) env) Q E s := by
  refine wpAny_execs_cons (wpAny_with_toks hn (wpAny_mono (wpAny_of_one h) (fun f s' q => ?_) fun _ _ x _ => x))
  cases f with
  | next => exact q
  | _ => exact fun _ => q
theorem evi_toks {M : Model} {T : Nat} {q : Value → Shared → Prop} {t : Sem Value} (hT : T ≤ s.toks) (h : wpAny M A t (fun x s₁ => wpAny M A (pyIter x) (fun it s₂ => T ≤ s₂.toks → q it s₂) E s₁) E s) : wpAny M A t (fun x s₁ => wpAny M A (pyIter x) q E s₁) E s :=
  wpAny_mono (wpAny_toks_of hT h) (fun x s₁ z => wpAny_mono (wpAny_toks_of z.1 z.2) (fun it s₂ y => y.2 y.1) fun _ _ y => y.2) fun _ _ y => y.2
theorem s_forTI {x : Str} {px pos : Pos} {iter : Expr} {body rest : List Stmt} {its : List D} (X : At W k A env s₀ P₀ H Γ Δ Mx P s) (hI : EvI (W.at Mx) k env Γ Δ true iter its) (hb : Bindable env x) (T : Nat) (hT : T ≤ s.toks)
    (J : Nat → Nat → List (Str × D) → List (Str × List D) → List (Addr × MO) → Prop) (hJ : J 0 T Γ Δ Mx)
    (hJx : ∀ i T Γ' Δ' Mx', J i T Γ' Δ' Mx' → (∀ p ∈ Γ', p.1 ≠ x) ∧ (∀ p ∈ Δ', p.1 ≠ x))
    (turn : ∀ i d T H' Γ' Δ' Mx' P' s' (E' : Value → Shared → Prop), its[i]? = some d → J i T Γ' Δ' Mx' → T ≤ s'.toks → At W k A env s₀ P' H' ((x, d) :: Γ') Δ' Mx' P' s' →
      wpAny W.M A (execs body env) (ForTQ W k A env s₀ P' H' Q (J (i + 1))) E' s')
    (done : ∀ T Γ' Δ' Mx' P' s', J its.length T Γ' Δ' Mx' → T ≤ s'.toks → At W k A env s₀ P₀ H Γ' Δ' Mx' P' s' → wpAny W.M A (execs rest env) Q E s')
    (hs : ∀ v, foldedSetIterable iter env v = pure v := by intro _; rfl) : wpAny W.M A (execs (.For (.Name x px) iter body [] pos :: rest) env) Q E s := by
  refine wpAny_execs_cons (wpAny_For (evi_toks hT (hI A _ P s E _ X.st X.cx fun I fp Pv Sx P₁ s₁ g₁ tk₁ hW hP hst₁ hIs hI0 hIx hfp hT₁ => ?_)) hs)
  have W' := hW A X.a.1
  obtain ⟨oI, hoI⟩ := hIx _ _ hst₁
  have zI := X.none₀ hIs
  have X₁ := X.gr g₁ tk₁
  have own₁ : ∃ m cv ad, AtX env Γ Δ Mx H P₁ m cv ad s₁.heap ∧ I ∉ ownOf env Δ ad Mx := by
    obtain ⟨m, cv, ad, y, _, ho⟩ := X.gr_own g₁
    exact ⟨m, cv, ad, y, ho I hIs⟩
  have P0I : P₀ I = none := by
    cases q : P₀ I with
    | none => rfl
    | some o => rw [X₁.le _ _ q] at hI0; cases hI0
  have HleI : ∀ h, Le H (HI H I h) := fun h b o e => by
    have n : b ≠ I := fun z => by rw [z, zI.2] at e; cases e
    rw [HI_ne n]; exact e
  -- the footprint stands, whatever the frame does
  have fpK : ∀ i (h h' : Heap) (P' : Vw), Sx i h → Le P₁ P' → In P' h' → (∀ o, h.get? I = some o → h'.get? I = some o) → In P' h → Sx i h' := fun i h h' P' q le inn hi inn0 => W'.frame i h h' q fun b hb o e => by
    by_cases z : b = I
    · subst z; exact hi o e
    · obtain ⟨o', _, hp⟩ := hfp b hb z
      have e1 := inn0 _ _ (le _ _ (hp rfl))
      rw [e] at e1; cases e1
      exact inn _ _ (le _ _ (hp rfl))
  refine codeAny_forLoop (fun j s' => ∃ i T Γ' Δ' Mx' P', i ≤ its.length ∧ j = its.length + 1 - i ∧ J i T Γ' Δ' Mx' ∧ T ≤ s'.toks ∧ Le P₁ P' ∧ P' I = none ∧ Sx i s'.heap ∧ At W k A env s₀ P₀ (HI H I s'.heap) Γ' Δ' Mx' P' s') ?_ (its.length + 1)
    ⟨0, T, Γ, Δ, Mx, P₁, Nat.zero_le _, rfl, hJ, hT₁, Le.refl _, hI0, hst₁, X₁.iter (h' := s₁.heap) (fun _ _ => rfl) own₁ hI0 zI.1 (fun _ _ _ e => e) tk₁⟩
  rintro j s' ⟨i, T, Γ', Δ', Mx', P', hi, rfl, hJ', hT', le', hPI, hst', X'⟩
  obtain ⟨oI', hoI'⟩ := hIx _ _ hst'
  have own' := X'.notOwn (I := I) (o := oI') (by rw [HI_at]; exact hoI')
  by_cases hlt : i < its.length
  · refine wp_tk X'.tk (wpAny_with_toks hT' (W'.item i s' _ _ hlt hst' fun v h₂ tk₂ hPv hst₂ hk₂ hT2 tkv => ?_))
    obtain ⟨d, hd, hid⟩ := hP i v hPv
    have X₂ : At W k A env s₀ P₀ (HI H I h₂) Γ' Δ' Mx' P' { s' with heap := h₂, toks := tk₂ } := X'.iter (fun b n => HI_ne n) own' hPI zI.1 (fun b o n e => hk₂ b o (by simpa using n) e) tkv
    obtain ⟨hx1, hx2⟩ := hJx i T Γ' Δ' Mx' hJ'
    obtain ⟨m, cv, ad, y, hn⟩ := X₂.mnew
    obtain ⟨oI₂, hoI₂⟩ := hIx _ _ hst₂
    refine wpAny_assign_Name (wpAny_with_toks (n := T) hT2 (At.store X₂ y hn hb hx1 hx2 fun s₃ g1 _ g3 hT3 => ?_))
    have X₃ := (g1 d (hid.mono le')).1
    have hst₃ : Sx (i + 1) s₃.heap := fpK _ _ _ P' hst₂ le' X₃.inn (fun o e => X₃.hin _ _ (by rw [HI_at]; exact e)) X₂.inn
    refine wpAny_mono (turn i d T (HI H I h₂) Γ' Δ' Mx' P' s₃ _ hd hJ' hT3 X₃.rebase) (fun f s₄ q => ?_) fun _ _ z => z
    have fin : ∀ T Γ'' Δ'' Mx'' P'', At W k A env s₀ P₀ (HI H I h₂) Γ'' Δ'' Mx'' P'' s₄ → Le P₁ P'' → Sx (i + 1) s₄.heap → J (i + 1) T Γ'' Δ'' Mx'' → T ≤ s₄.toks → ∃ m, m < its.length + 1 - i ∧ ∃ i T Γ' Δ' Mx' P', i ≤ its.length ∧ m = its.length + 1 - i ∧ J i T Γ' Δ' Mx' ∧ T ≤ s₄.toks ∧ Le P₁ P' ∧ P' I = none ∧ Sx i s₄.heap ∧ At W k A env s₀ P₀ (HI H I s₄.heap) Γ' Δ' Mx' P' s₄ := by
      intro T Γ'' Δ'' Mx'' P'' X₄ le4 st4 hJ4 hT4
      have hI4 : P'' I = none := by
        cases q : P'' I with
        | none => rfl
        | some o =>
          rcases X₄.newH I o q with z | z
          · rw [P0I] at z; cases z
          · rw [HI_at, hoI₂] at z; cases z
      have own4 := X₄.notOwn (I := I) (o := oI₂) (by rw [HI_at]; exact hoI₂)
      exact ⟨its.length + 1 - (i + 1), ar_step hlt, i + 1, T, Γ'', Δ'', Mx'', P'', hlt, rfl, hJ4, hT4, le4, hI4, st4, X₄.iter (h' := s₄.heap) (fun b n => HI_ne n) own4 hI4 zI.1 (fun _ _ _ e => e) X₄.tk⟩
    have go : ∀ T Γ'' Δ'' Mx'' P'', J (i + 1) T Γ'' Δ'' Mx'' → T ≤ s₄.toks → At W k A env s₀ P' (HI H I h₂) Γ'' Δ'' Mx'' P'' s₄ → ∃ m, m < its.length + 1 - i ∧ ∃ i T Γ' Δ' Mx' P', i ≤ its.length ∧ m = its.length + 1 - i ∧ J i T Γ' Δ' Mx' ∧ T ≤ s₄.toks ∧ Le P₁ P' ∧ P' I = none ∧ Sx i s₄.heap ∧ At W k A env s₀ P₀ (HI H I s₄.heap) Γ' Δ' Mx' P' s₄ := by
      intro T Γ'' Δ'' Mx'' P'' hJ4 hT4 Y
      exact fin T Γ'' Δ'' Mx'' P'' (X₃.back Y) (le'.trans Y.le) (fpK _ _ _ P' hst₃ le' (Y.inn.le Y.le) (fun o e => by
        have e3 := X₃.hin I oI₂ (by rw [HI_at]; exact hoI₂)
        have e4 := Y.hin I oI₂ (by rw [HI_at]; exact hoI₂)
        rw [e3] at e; cases e; exact e4) X₃.inn) hJ4 hT4
    cases f with
    | next => obtain ⟨T, Γ'', Δ'', Mx'', P'', hJ4, hT4, Y⟩ := q; exact go _ _ _ _ _ hJ4 hT4 Y
    | cont => obtain ⟨T, Γ'', Δ'', Mx'', P'', hJ4, hT4, Y⟩ := q; exact go _ _ _ _ _ hJ4 hT4 Y
    | brk => exact q.elim
    | ret v => exact q
  · obtain rfl : i = its.length := Nat.le_antisymm hi (Nat.not_lt.mp hlt)
    refine wp_tk X'.tk (wpAny_with_toks hT' (W'.done s' _ _ hst' fun h₂ tk₂ hk₂ hTd tkd => ?_))
    have X₂ : At W k A env s₀ P₀ (HI H I h₂) Γ' Δ' Mx' P' { s' with heap := h₂, toks := tk₂ } := X'.iter (fun b n => HI_ne n) own' hPI zI.1 (fun b o n e => hk₂ b o (by simpa using n) e) tkd
    exact wpAny_execs_nil (done T Γ' Δ' Mx' P' _ hJ' hTd (X₂.lessH (HleI h₂)))
end
end
section
set_option maxHeartbeats 1000000
theorem map_erase {α β : Type} {f : α → β} (l : List α) (j : Nat) : (l.eraseIdx j).map f = (l.map f).eraseIdx j := by
  induction l generalizing j with
  | nil => rfl
  | cons a r ih => cases j with
    | zero => rfl
    | succ j => exact congrArg (f a :: ·) (ih j)
open PySem.Builtin PySem.Builtin.Str in
/-- str.replace that finds what it replaces: a new str -/
theorem replT {prog : Program} {w : World} {A : Around} {E : Value → Shared → Prop} {s : Shared} {x y z : Str} {t u v : Tok} {Q : Value → Shared → Prop} (hu : u ≠ 0) (hv : v ≠ 0) (huv : u ≠ v) (hyz : (y == z) = false) (hx : x.length ≤ 1048576) (hz : z.length ≤ 14) (hocc : ((occurrences x y 0 x.length (x.length + 1)).isEmpty || (y.length == 0 && z.length == 0)) = false)
    (hq : Q (.str (Txt.replace x y z) s.toks) { s with toks := s.toks + 1 }) : wpAny (model prog w) A (call (.builtin "str.replace") [.str x t, .str y u, .str z v]) Q E s := by
  have hb : x.length + (x.length + 1) * z.length ≤ 16777216 := by
    have h1 : (x.length + 1) * z.length ≤ (x.length + 1) * 14 := Nat.mul_le_mul_left _ hz
    omega
  have hl : tooLong (x.length + (occurrences x y 0 x.length (x.length + 1)).length * z.length) = false := by
    have h1 := StrLaws.occ_length_le x y 0 x.length (x.length + 1)
    have h2 : (occurrences x y 0 x.length (x.length + 1)).length * z.length ≤ (x.length + 1) * z.length := Nat.mul_le_mul_right _ h1
    unfold tooLong sizeLine
    exact decide_eq_false (by omega)
  refine call_gives F.slot_str_replace (typeIs_str _ _ _) F.entry_str_replace (F.args_str_replace_3 _ _ _)
    (gives_str_replace x y z t u v fun _ => ⟨by simp [hu, hv], by simp [huv], hyz, hl⟩) ?_
  unfold Txt.replace at hq
  rw [hocc] at hq ⊢
  simp only [Bool.false_eq_true, if_false] at hq ⊢
  exact ⟨fits_replaced y hb, hq⟩
section
variable {W : Wd} {k : Nat} {A : Around} {env : Env} {s₀ : Shared} {P₀ H : Vw} {Γ : List (Str × D)} {Δ : List (Str × List D)} {Mx : List (Addr × MO)} {P : Vw} {s : Shared} {E : Value → Shared → Prop} {Q : Flow → Shared → Prop}
/-- x = o.replace(e, '..'), e's token known -/
theorem s_replT {x : Str} {px apos pos p p2 : Pos} {o e : Expr} {k2 : Nat} {rest : List Stmt} {a y z : Str} {b : Nat} (X : At W k A env s₀ P₀ H Γ Δ Mx P s) (h0 : Ev (W.at Mx) k env Γ Δ o (.str a)) (h1 : Ev (W.at Mx) k env Γ Δ e (.strT y b)) (hB : b ≤ s.toks) (hyz : (y == z) = false) (ha : a.length ≤ 1048576) (hocc : ((Builtin.Str.occurrences a y 0 a.length (a.length + 1)).isEmpty || (y.length == 0 && z.length == 0)) = false) (hb : Bindable env x)
    (next : ∀ b' P' s', b' ≤ s'.toks → At W k A env s₀ P₀ H ((x, .strT (Txt.replace a y z) b') :: rm x Γ) (rm x Δ) Mx P' s' → wpAny W.M A (execs rest env) Q E s')
    (hz : z.length ≤ 14 := by decide) (hp : plainE e = true := by rfl)
    (hbase : attributeBase o "replace" env (eval o env) = eval o env := by rfl) (hline : (apos.endLine == pos.line) = true := by decide)
    (hs : swapsWith (.Call (.Attribute o "replace" apos) [e, .Constant (.str z) k2 p2] [] pos) (some (.Name x px)) p.line env = pure false := by rfl) :
    wpAny W.M A (execs (.Assign [.Name x px] (.Call (.Attribute o "replace" apos) [e, .Constant (.str z) k2 p2] [] pos) p :: rest) env) Q E s := by
  refine wpAny_execs_cons (wpAny_Assign_Name ?_ hs)
  have hpl : [e, .Constant (.str z) k2 p2].all plainE = true := by simp [hp]; rfl
  refine wpAny_Call_method hbase (few_ok hpl (by simp)) hline F.plainAttrs_str F.slot_str_replace F.type_str_replace (wpAny_with_toks hB (h0 A _ P s _ _ X.st X.cx fun v P₁ s₁ g₁ tk₁ i₁ hB₁ => ⟨typeIs_of i₁, noRef_of i₁, ?_⟩))
  refine callWith_builtin (plain_any hpl) ?_
  rw [starEach_cons hp, starEach_cons rfl]
  have X₁ := X.gr g₁ tk₁
  refine evalArgs_plain (spliced_cons (wpAny_with_toks hB₁ (h1 A _ P₁ s₁ _ _ X₁.st X₁.cx fun u P₂ s₂ g₂ tk₂ i₂ hB₂ => ?_)))
  refine spliced_cons (Constant_str (k := k2) (pos := p2) (spliced_nil ?_))
  obtain ⟨t, rfl⟩ := i₁.strI
  obtain ⟨u, rfl, hu0, hub⟩ := i₂.strTI
  have X₂ := X₁.gr g₂ tk₂
  refine replT hu0 (Nat.ne_of_gt tk₂) (Nat.ne_of_lt (Nat.lt_of_lt_of_le hub hB₂)) hyz ha hz hocc ?_
  have X₃ := X₂.gr (Gr.toks (tk := s₂.toks + 1 + 1) X₂.inn) (Nat.le_add_left _ _)
  exact wpAny_with_toks (n := s₂.toks + 1 + 1) (Nat.le_refl _) (X₃.name (d := .strT (Txt.replace a y z) (s₂.toks + 1 + 1)) (.strT (Nat.succ_ne_zero _) (Nat.lt_succ_self _)) hb fun s'' X₄ hT => next _ _ s'' hT X₄)
/-- x.remove(e), of a list of strs that turns -/
theorem s_removeN {x : Str} {xp ap pos p : Pos} {e : Expr} {rest : List Stmt} {xs : List Str} {y : Str} {j : Nat} (X : At W k A env s₀ P₀ H Γ ((x, xs.map .str) :: Δ) Mx P s) (hv : Ev (W.at Mx) k env Γ ((x, xs.map .str) :: Δ) e (.str y)) (hj : xs[j]? = some y) (hno : ∀ m z, m < j → xs[m]? = some z → (z == y) = false) (hsz : xs.length ≤ sizeLine)
    (next : ∀ P' s', At W k A env s₀ P₀ H Γ ((x, (xs.eraseIdx j).map .str) :: Δ) Mx P' s' → wpAny W.M A (execs rest env) Q E s')
    (hd : (x == ("__debug__" : Str)) = false := by decide) (hn : (x == ("__classdict__" : Str)) = false := by decide)
    (hp : plainE e = true := by rfl) (hbase : attributeBase (.Name x xp) "remove" env (eval (.Name x xp) env) = eval (.Name x xp) env := by rfl) (hline : (ap.endLine == pos.line) = true := by decide)
    (hi : interactive env = false := by rfl) :
    wpAny W.M A (execs (.Expr (.Call (.Attribute (.Name x xp) "remove" ap) [e] [] pos) p :: rest) env) Q E s := by
  refine wpAny_execs_cons (wpAny_Expr ?_ hi rfl)
  obtain ⟨m, cv, ad, yy, hnn⟩ := X.mnew
  obtain ⟨vs, n, e1, q, i⟩ := yy.muts _ List.mem_cons_self
  have hpl : [e].all plainE = true := by simp [hp]
  refine wpAny_Call_method hbase (few_ok hpl (by simp)) hline F.plainAttrs_list F.slot_list_remove F.type_list_remove (name_read X.fn X.st.sv (yy.nameOk e1) ⟨⟨_, q, rfl⟩, fun a ha => by cases ha; exact ⟨_, q, rfl⟩, ?_⟩ hd hn)
  refine callWith_builtin (plain_any hpl) ?_
  rw [starEach_cons hp]
  refine evalArgs_plain (spliced_cons (hv A _ P s E _ X.st X.cx fun v P' s' g tk iv => spliced_nil ?_))
  have y' := yy.gr g
  obtain ⟨t, rfl⟩ := iv.strI
  have q2 := g.old _ _ q
  have hlen : vs.length = xs.length := i.length.trans (List.length_map ..)
  have item : ∀ {m : Nat} {v : Value}, vs[m]? = some v → ∃ z t, v = .str z t ∧ xs[m]? = some z := fun hm => by
    obtain ⟨d, hd, iy⟩ := i.getV hm
    rw [List.getElem?_map] at hd
    obtain ⟨z, hz, rfl⟩ := Option.map_eq_some_iff.mp hd
    obtain ⟨t, rfl⟩ := iy.strI
    exact ⟨z, t, rfl, hz⟩
  have hjl : j < vs.length := hlen ▸ (List.getElem?_eq_some_iff.mp hj).1
  have hbe : ∀ a b : Str, (a.cps.toList == b.cps.toList) = (a == b) := fun a b => PySem.SeqAt.str_beq a b
  refine call_meets (s := s') F.slot_list_remove ⟨_, q2, rfl⟩ F.entry_list_remove (F.args_list_remove_2 _ _) (PySem.MeetsSeq.list_remove (ad x) vs.toArray n (.str y t) (fun v => match v with | .str z _ => z.cps.toList == y.cps.toList | _ => false) (fun v hv => ?_) j (by simpa using hjl) ?_ (fun m hm hmj => ?_) (by simpa [hlen] using hsz)) ⟨q2, ?_⟩
  · obtain ⟨m, hm⟩ := List.getElem?_of_mem (by simpa using hv : v ∈ vs)
    obtain ⟨z, t', rfl, _⟩ := item hm
    exact PySem.SeqRoads2.EqGives.str z y t' t
  · obtain ⟨z, t', e, hz⟩ := item (m := j) (List.getElem?_eq_getElem hjl)
    rw [hj] at hz
    have : vs.toArray[j] = vs[j] := by simp
    simp only [this, e, hbe, Option.some.inj hz, beq_self_eq_true]
  · have hml : m < vs.length := by simpa using hm
    obtain ⟨z, t', e, hz⟩ := item (m := m) (List.getElem?_eq_getElem hml)
    have : vs.toArray[m] = vs[m] := by simp
    simp only [this, e, hbe]; exact hno m z hmj hz
  have hu := Heap.get?_update_self (Obj.mapSeq fun xs => xs.eraseIdxIfInBounds j) q2 (by simp [PySem.W.listOf, Obj.mapSeq, Obj.isFreed])
  have hobj : ∃ n', Obj.mapSeq (fun xs => xs.eraseIdxIfInBounds j) (listOf vs.toArray n) = listOf (vs.eraseIdx j).toArray n' := by
    refine ⟨if (vs.toArray.eraseIdxIfInBounds j).size == vs.toArray.size then n else n + 1, ?_⟩
    have e : vs.toArray.eraseIdxIfInBounds j = (vs.eraseIdx j).toArray := by simp [Array.eraseIdxIfInBounds, hjl]
    simp only [PySem.W.listOf, Obj.mapSeq]
    exact congrArg (fun ys => ({ cls := .type "list", data := .seq ys (if (vs.toArray.eraseIdxIfInBounds j).size == vs.toArray.size then n else n + 1) } : Obj)) e
  obtain ⟨n', hobj⟩ := hobj
  rw [hobj] at hu
  exact next P' _ ((X.gr g tk).turn (n' := n') y' hnn tk (fun b o nb e => (Heap.SameBut.update ..).extBut b o nb e) hu (by rw [map_erase]; exact isAll_erase j (i.mono g.le)))
end
end
section
open PySem PySem.W PySem.Calls PyProof.Rows PySem.Spec PySem.SeqAt PyProof.V
set_option maxHeartbeats 1000000
section
variable {W : Wd} {k : Nat} {A : Around} {env : Env} {s₀ : Shared} {P₀ H : Vw} {Γ : List (Str × D)} {Δ : List (Str × List D)} {Mx rest : List (Addr × MO)} {P : Vw} {s : Shared} {E : Value → Shared → Prop} {Q : Flow → Shared → Prop}
/-- x, y = e, where e turns owned objects and may leave new ones -/
theorem s_pairX {x y : Str} {px py tp pos : Pos} {kk : Nat} {e : Expr} {rest' : List Stmt} {Out : OutT} (X : At W k A env s₀ P₀ H Γ Δ (Mx ++ rest) P s) (hv : EvX (W.at []) k env Γ Δ e Mx Out) (hO : ∀ d Mx' N, Out d Mx' N → ∃ d1 d2, d = .tup [d1, d2]) (hx : Bindable env x) (hy : Bindable env y)
    (next : ∀ d1 d2 Mx' N P' s', Out (.tup [d1, d2]) Mx' N → ads Mx' = ads Mx → At W k A env s₀ P₀ H ((y, d2) :: rm y ((x, d1) :: rm x Γ)) (rm y (rm x Δ)) (N ++ (Mx' ++ rest)) P' s' → wpAny W.M A (execs rest' env) Q E s')
    (hs : swapsWithSole [.Tuple [.Name x px, .Name y py] kk tp] e pos.line env = pure false := by rfl)
    (hw : swappedStores [.Tuple [.Name x px, .Name y py] kk tp] e env = pure none := by rfl) : wpAny W.M A (execs (.Assign [.Tuple [.Name x px, .Name y py] kk tp] e pos :: rest') env) Q E s := by
  refine wpAny_execs_cons (Assign_Tuple (hv A _ P s E _ X.stM X.cxM X.dvM (fun p hp => offX_none (List.mem_map_of_mem hp)) fun v P' s' d Mx' N o ha g tk dv fr i => ?_) hs hw)
  have dv1 := dv.app
  have X1 := X.grM g tk dv1.1 ha
  obtain ⟨m, cv, ad, yy, hn, ho⟩ := X.grM_own g dv1.1 ha
  have X2 := X1.takeN (N := N) ⟨m, cv, ad, yy, fun q hq => ho _ (fr q hq)⟩ dv1.2.1.nd dv1.2.1.off (fun q hq => (X.none₀ (fr q hq)).2) dv1.2.1.has
  obtain ⟨d1, d2, rfl⟩ := hO d Mx' N o
  obtain ⟨t, v1, v2, n, rfl, q, i1, i2⟩ := tup2 i
  refine wpAny_assign_Tuple X.a.1 ⟨_, g.inn _ _ q, rfl, n, rfl⟩ rfl rfl fun h' hk => ?_
  have X3 := X2.same (ext_keep hk) tk
  exact assignInOrder_cons (assign_Name (X3.name i1 hx fun s3 X4 => assignInOrder_cons (assign_Name (X4.name i2 hy fun s4 X5 => assignInOrder_nil (next d1 d2 Mx' N P' s4 o ha X5)))))
/-- x.extend(e) -/
theorem s_extendN {x : Str} {xp ap pos p : Pos} {e : Expr} {rest' : List Stmt} {ds es : List D} (X : At W k A env s₀ P₀ H Γ ((x, ds) :: Δ) Mx P s) (hv : EvL (W.at Mx) k env Γ ((x, ds) :: Δ) e es) (hsz : ds.length + es.length ≤ 10000)
    (next : ∀ P' s', At W k A env s₀ P₀ H Γ ((x, ds ++ es) :: Δ) Mx P' s' → wpAny W.M A (execs rest' env) Q E s')
    (hd : (x == ("__debug__" : Str)) = false := by decide) (hn : (x == ("__classdict__" : Str)) = false := by decide)
    (hp : plainE e = true := by rfl) (hbase : attributeBase (.Name x xp) "extend" env (eval (.Name x xp) env) = eval (.Name x xp) env := by rfl) (hline : (ap.endLine == pos.line) = true := by decide)
    (hi : interactive env = false := by rfl) :
    wpAny W.M A (execs (.Expr (.Call (.Attribute (.Name x xp) "extend" ap) [e] [] pos) p :: rest') env) Q E s := by
  refine wpAny_execs_cons (wpAny_Expr ?_ hi rfl)
  obtain ⟨m, cv, ad, yy, hnn⟩ := X.mnew
  obtain ⟨vs, n, e1, q, i⟩ := yy.muts _ List.mem_cons_self
  have hpl : [e].all plainE = true := by simp [hp]
  refine wpAny_Call_method hbase (few_ok hpl (by simp)) hline F.plainAttrs_list F.slot_list_extend F.type_list_extend (name_read X.fn X.st.sv (yy.nameOk e1) ⟨⟨_, q, rfl⟩, fun a ha => by cases ha; exact ⟨_, q, rfl⟩, ?_⟩ hd hn)
  refine callWith_builtin (plain_any hpl) ?_
  rw [starEach_cons hp]
  refine evalArgs_plain (spliced_cons (hv A _ P s E _ X.st X.cx fun b ws n2 P' s' g tk q2 i2 => spliced_nil ?_))
  have y' := yy.gr g
  have q1 := g.old _ _ q
  have h1 : vs.toArray.size = ds.length := by rw [List.size_toArray, i.length]
  have h2 : ws.toArray.size = es.length := by rw [List.size_toArray, i2.length]
  refine call_meets (s := s') F.slot_list_extend ⟨_, q1, rfl⟩ F.entry_list_extend (F.args_list_extend_2 _ _) (PySem.AutoSeq1.list_extend_list_list_0 (ad x) vs.toArray n b ws.toArray n2 ?_ (by rw [h1, PySem.sizeLine_eq]; omega) (by rw [h1, h2, PySem.sizeLine_eq]; omega)) ⟨q1, q2, ?_⟩
  · intro hh
    have h3 := (Bool.and_eq_true_iff.mp hh).2
    rw [h1, h2, Builtin.List.listTooLong, decide_eq_true_iff, PySem.sizeLine_eq] at h3
    omega
  have hu := Heap.get?_update_self (Obj.mapSeq fun xs => xs ++ ws.toArray) q1 (by simp [PySem.W.listOf, Obj.mapSeq, Obj.isFreed])
  have hobj : ∃ n', Obj.mapSeq (fun xs => xs ++ ws.toArray) (listOf vs.toArray n) = listOf (vs ++ ws).toArray n' := by
    refine ⟨if (vs.toArray ++ ws.toArray).size == vs.toArray.size then n else n + 1, ?_⟩
    have e : vs.toArray ++ ws.toArray = (vs ++ ws).toArray := by simp
    simp only [PySem.W.listOf, Obj.mapSeq]
    exact congrArg (fun ys => ({ cls := .type "list", data := .seq ys (if (vs.toArray ++ ws.toArray).size == vs.toArray.size then n else n + 1) } : Obj)) e
  obtain ⟨n', hobj⟩ := hobj
  rw [hobj] at hu
  exact next P' _ ((X.gr g tk).turn (n' := n') y' hnn tk (fun b o nb e => (Heap.SameBut.update ..).extBut b o nb e) hu ((i.mono g.le).append i2))
end
section
variable {W : Wd} {k : Nat} {env : Env} {Γ : List (Str × D)} {Δ : List (Str × List D)} {Mx M1 : List (Addr × MO)}
/-- l op1 r1 op2 r2, the first being so -/
theorem ev_cmp2 {l r1 r2 : Expr} {o1 o2 : CmpOp} {pos : Pos} {a b c d : D} (h1 : Ev W k env Γ Δ l a) (h2 : Ev W k env Γ Δ r1 b) (h3 : Ev W k env Γ Δ r2 c) (p1 : Op2 W k (compareOp o1) a b (.bool true)) (p2 : Op2 W k (compareOp o2) b c d) (hm : lastMarks [o1, o2] [r1, r2] = false := by with_unfolding_all rfl) : Ev W k env Γ Δ (.Compare l [o1, o2] [r1, r2] pos) d := .mk fun A S P s E Q st hC hQ =>
  Compare_chain (h1 A S P s E _ st hC fun x P₁ s₁ g₁ tk₁ i₁ => chain_link (h2 A S P₁ s₁ E _ (st.next g₁ tk₁) (hC.up (Le.refl _) g₁.le) fun y P₂ s₂ g₂ tk₂ i₂ => by
    have st2 := (st.next g₁ tk₁).next g₂ tk₂
    refine wp_tk tk₂ (p1 A S P₂ s₂ E _ x y st2 (i₁.mono g₂.le) i₂ fun v P₃ s₃ g₃ i₃ tk₃ => ?_)
    rw [i₃.boolI]
    refine wpAny_truthy_bool ?_
    rw [if_pos rfl]
    refine chain_last (h3 A S P₃ s₃ E _ (st2.next g₃ tk₃) (hC.up (Le.refl _) ((g₁.trans g₂).trans g₃).le) fun z P₄ s₄ g₄ tk₄ i₄ => ?_)
    exact p2 A S P₄ s₄ E Q y z ((st2.next g₃ tk₃).next g₄ tk₄) ((i₂.mono g₃.le).mono g₄.le) i₄ fun v P₅ s₅ g₅ i₅ => hQ v P₅ s₅ ((((g₁.trans g₂).trans g₃).trans g₄).trans g₅) i₅)) hm
/-- l op r, l turning owned objects -/
theorem evm_cmp {l r : Expr} {op : CmpOp} {pos : Pos} {a b d : D} (h1 : EvM W k env Γ Δ l a Mx M1) (h2 : Ev W k env Γ Δ r b) (h : Op2 W k (compareOp op) a b d) (hm : behindInMarks op r = false := by with_unfolding_all rfl) : EvM W k env Γ Δ (.Compare l [op] [r] pos) d Mx M1 := fun A S P s E Q st hC dv hoff hQ =>
  wpAny_Compare1 (h1 A S P s E _ st hC dv hoff fun x P₁ s₁ g₁ tk₁ dv₁ i₁ => by
    have st1 := st.nextM g₁ (offS hoff) tk₁
    refine h2 A S P₁ s₁ E _ st1 (hC.up (Le.refl _) g₁.le) fun y P₂ s₂ g₂ tk₂ i₂ => ?_
    exact wp_tk tk₂ (h A S P₂ s₂ E _ x y (st1.next g₂ tk₂) (i₁.mono g₂.le) i₂ fun v P₃ s₃ g₃ i₃ tk₃ => hQ v P₃ s₃ (g₁.trans ((g₂.trans g₃).m _)) tk₃ (dv₁.gr (g₂.trans g₃)) i₃)) hm
/-- e1 and e2, e1 being so -/
theorem evm_and {e1 e2 : Expr} {pos : Pos} {d : D} (h1 : Ev W k env Γ Δ e1 (.bool true)) (h2 : EvM W k env Γ Δ e2 d Mx M1) : EvM W k env Γ Δ (.BoolOp .And [e1, e2] pos) d Mx M1 := fun A S P s E Q st hC dv hoff hQ =>
  BoolOp_and (h1 A S P s E _ st hC fun v P₁ s₁ g₁ tk₁ i₁ => by
    rw [i₁.boolI]
    refine wpAny_truthy_bool ?_
    rw [if_pos rfl]
    exact BoolOp_one (h2 A S P₁ s₁ E Q (st.next g₁ tk₁) (hC.up (Le.refl _) g₁.le) (dv.gr g₁) hoff fun v P₂ s₂ g₂ tk₂ dv₂ i₂ => hQ v P₂ s₂ ((g₁.m _).trans g₂) tk₂ dv₂ i₂))
/-- a pair of a str and strs is itself -/
theorem op_eq_strTup {x : Str} {xs : List Str} (hx : PyData.strOk x = true) (hxs : strsOk xs = true) : Op2 W k (compareOp .Eq) (.tup [.str x, .list (xs.map .str)]) (.tup [.str x, .list (xs.map .str)]) (.bool true) := fun A S P s E Q u v st hu hv hQ => by
  have rd : ∀ {v : Value}, Is P v (.tup [.str x, .list (xs.map .str)]) → ∃ as, Reads s.heap v (.tuple [.str x, .list (xs.map .str)]) as := fun i => by
    obtain ⟨t, vs, n, rfl, q, r⟩ := i.tupI
    obtain ⟨v1, v2, rfl, i1, i2⟩ := r.twoI
    obtain ⟨t1, rfl⟩ := i1.strI
    obtain ⟨as, ra⟩ := reads_strs st.p i2
    exact ⟨_, .tuple (st.p _ _ q) rfl rfl (.cons (.str x t1) (.cons ra .nil))⟩
  obtain ⟨as, ra⟩ := rd hu
  obtain ⟨bs, rb⟩ := rd hv
  have hsh : shaped (.tuple [.str x, .list (xs.map .str)]) = true := by
    have h1 := canLayAll0_strs xs hxs
    have h2 := depthAll_strs xs
    show (PyData.canLay0 _ && decide (PyData.depth _ ≤ 64)) = true
    rw [Bool.and_eq_true]
    refine ⟨by simp [PyData.canLay0, PyData.canLayAll0, hx, h1], decide_eq_true ?_⟩
    simp only [PyData.depth, PyData.depthAll]
    omega
  refine eq_dataH_same ra rb hsh hsh (units_ok st.a) (by simp [noMix, noMixAll, noMix_strs]) ?_
  rw [show PySem.Spec.same (.tuple [.str x, .list (xs.map .str)]) (.tuple [.str x, .list (xs.map .str)]) = true by simp [PySem.Spec.same, PySem.Spec.sameAll, same_strs]]
  exact hQ _ P _ (Gr.refl st.p) (.bool _)
end
end
section
open PySem PySem.W PyProof.Rows
set_option maxHeartbeats 8000000
noncomputable def qv : Program := { PySem.Challenge.pw_ul0022_02 with main := { PySem.Challenge.pw_ul0022_02.main with body := PySem.Challenge.pw_ul0022_02.main.body.drop 19 } }
noncomputable def lsv : List Str := ["_wall", "Whitespace", "ELLIPSIS_MARKER", "_ellipsis_match", "_strip_exception_details", "_iter_escaped_chars", "_strip_quoted_realnames", "_check_parenthesis", "_netrclex", "_law_stream", "_law_spelled", "_law_there", "_law_hung", "_law_back"]
theorem said02 : (PySem.Challenge.rw_ul0022_02).wellSaid = true := by
  unfold OpenLaw.wellSaid OpenRow.wellSaid OpenRow.partSaid looksOpen
  repeat' (with_reducible refine look_both ?_ ?_)
  all_goals kernel_rfl
local macro_rules | `(tactic| o_law) => `(tactic| refine holds_law said02 fun _ => ?_)
set_option hygiene false in
local macro_rules | `(tactic| o_head $H) => `(tactic| (
    refine holds_open (q := qv) (loose := lsv) (Xt := fun s => xlAt qv [] s && recOk [] s) (XP := XL qv []) (Yf := Hook.obs $H) (Ya := Hook.val $H) (YP := Hook.says $H) (N := 2600) ?hl (Hook.of $H) (Hook.keeps $H) (fun s e => xl_of s (Bool.and_eq_true_iff.mp e).1) XL.keeps (by rfl) (by rfl) (by rfl) (fun s e => recFacts_of (Bool.and_eq_true_iff.mp e).2) (by rfl) (by first | assumption | decide +kernel) (by decide +kernel) ⟨rfl, rfl, rfl, rfl, rfl, by decide +kernel⟩ ?hw ?hc
    case hl => exact LeftO.of_split "special-get-raises" (fun w => by kernel_rfl)))
open_top hd02 for PySem.Challenge.rw_ul0022_02
end
section
variable {W : Wd} {Pm : Params} (hW : W.K = hd02.heap_1 Pm)
include hW
noncomputable def sed (x : Str) : Str :=
  let e : Int := x.length
  let i := Txt.find x "\n"
  let e := if 0 ≤ i then i else e
  let i := find4 x ":" 0 e
  let e := if 0 ≤ i then i else e
  let i := rfind4 x "." 0 e
  let b := if 0 ≤ i then i + 1 else 0
  Txt.slice x (some b) (some e)
theorem cl56 {k : Nat} {x : Str} (hx : x.length ≤ sizeLine) : Cl W (k + 1) (.ref 101) [.str x] (.str (sed x)) := by
  refine cl_fn (names := ["msg"]) (fun P b => ⟨⟨_, b.k _ _ (by rw [hW]; rfl), rfl⟩, by rw [hW]; rfl, rfl, fun vs h => ?_, rfl, ?_, by decide, by decide, rfl, rfl, rfl, rfl, rfl⟩) rfl ?_
  · obtain ⟨v, rfl⟩ := len1 h; rfl
  · decide
  intro A L s₀ P₀ H P s X
  replace X : At W k A _ s₀ P₀ H [("msg", .str x)] [] [] P s := X
  refine s_pair' X (ev_tuple (evs_cons ev_int (evs_cons (ev_callB (nmB hW) (evs_cons nv evs_nil) (cl_len_str (Nat.lt_of_le_of_lt hx (by decide)))) evs_nil))) (.inl rfl) (.inl rfl) fun P s X => ?_
  refine s_set X (ev_smeth nv (evs_cons ev_str evs_nil) F.slot_str_find F.type_str_find cl_find) (.inl rfl) fun P s X => ?_
  refine s_ifset (d' := .int (if 0 ≤ Txt.find x "\n" then Txt.find x "\n" else x.length)) X (ts_cmp nv ev_int op_ge_int) (by trivial) (fun h => ?_) (fun h => ?_) (.inl rfl) fun P s X => ?_
  · rw [if_pos (of_decide_eq_true h)]; exact nv
  · rw [if_neg (of_decide_eq_false h)]
  generalize he1 : (if 0 ≤ Txt.find x "\n" then Txt.find x "\n" else (x.length : Int)) = e1 at X
  refine s_set X (ev_smeth nv (evs_cons ev_str (evs_cons ev_int (evs_cons nv evs_nil))) F.slot_str_find F.type_str_find cl_find4) (.inl rfl) fun P s X => ?_
  refine s_ifset (d' := .int (if 0 ≤ find4 x ":" 0 e1 then find4 x ":" 0 e1 else e1)) X (ts_cmp nv ev_int op_ge_int) (by trivial) (fun h => ?_) (fun h => ?_) (.inl rfl) fun P s X => ?_
  · rw [if_pos (of_decide_eq_true h)]; exact nv
  · rw [if_neg (of_decide_eq_false h)]
  generalize he2 : (if 0 ≤ find4 x ":" 0 e1 then find4 x ":" 0 e1 else e1) = e2 at X
  refine s_set X (ev_smeth nv (evs_cons ev_str (evs_cons ev_int (evs_cons nv evs_nil))) F.slot_str_rfind F.type_str_rfind cl_rfind4) (.inl rfl) fun P s X => ?_
  refine s_ifset (d' := .int (if 0 ≤ rfind4 x "." 0 e2 then rfind4 x "." 0 e2 + 1 else 0)) X (ts_cmp nv ev_int op_ge_int) (by trivial) (fun h => ?_) (fun h => ?_) (.inl rfl) fun P s X => ?_
  · rw [if_pos (of_decide_eq_true h)]; exact ev_bin nv ev_int op_add_int
  · rw [if_neg (of_decide_eq_false h)]
  refine s_ret X (ev_slice_str nv (evo_some nv) (evo_some nv) ?_) fun v P s X i => ⟨P, _, _, _, X, ?_⟩
  · exact hx
  · subst he1; subst he2; exact i
end
section
noncomputable def ellLoop (got : Str) (e : Int) : List Str → Int → Bool
  | [], _ => true
  | w :: r, sp => if find4 got w sp e < 0 then false else ellLoop got e r (find4 got w sp e + w.length)
noncomputable def ellTail (got : Str) (ws : List Str) (sp : Int) : Bool :=
  let w := ws.getLastD Str.empty
  if w.length = 0 then (if sp > got.length then false else ellLoop got got.length ws sp)
  else if Txt.endswith got w then (if sp > (got.length : Int) - w.length then false else ellLoop got ((got.length : Int) - w.length) ws.dropLast sp) else false
noncomputable def ellm (want got : Str) : Bool :=
  if !inS "..." want then want == got
  else
    let ws := cut want "..."
    let w := ws.headD Str.empty
    if w.length = 0 then ellTail got ws 0
    else if Txt.startswith got w then ellTail got ws.tail w.length else false
noncomputable def ellOk (want got : Str) : Bool := (!inS "..." want || (cutOk want "..." && decide (2 ≤ (cut want "...").length) && decide ((cut want "...").length ≤ 64) && (cut want "...").all fun w => decide (w.length ≤ 16384))) && decide (got.length ≤ 16384)
theorem getLastD_mem {a d : Str} : ∀ {r : List Str}, (a :: r).getLastD d ∈ a :: r
  | [] => List.mem_cons_self
  | b :: r => List.mem_cons_of_mem _ (getLastD_mem (a := b) (d := b) (r := r))
theorem at_last {ws : List Str} (h : 0 < ws.length) : at? (ws.map D.str) (-1) = some (.str (ws.getLastD Str.empty)) := by
  unfold at?
  rw [if_neg (by decide), if_pos (by simp; omega)]
  have : ((-1 : Int) + ((ws.map D.str).length : Int)).toNat = ws.length - 1 := by rw [List.length_map]; exact az_m1 _
  rw [this, List.getElem?_map]
  cases ws with
  | nil => simp at h
  | cons a r => simp [List.getLastD_eq_getLast?, List.getLast?_eq_getElem?]
theorem erase_last {ws : List Str} : (ws.map D.str).eraseIdx (ws.length - 1) = ws.dropLast.map D.str := by
  rw [List.map_dropLast, List.dropLast_eq_take, List.eraseIdx_eq_take_drop_succ, List.length_map]
  rw [List.drop_eq_nil_of_le (by rw [List.length_map]; omega), List.append_nil]
theorem drop_cons {α : Type} {l : List α} {i : Nat} {a : α} (h : l[i]? = some a) : l.drop i = a :: l.drop (i + 1) := by
  obtain ⟨hi, e⟩ := List.getElem?_eq_some_iff.mp h
  rw [List.drop_eq_getElem_cons hi, e]
theorem two_le {α : Type} : ∀ {l : List α}, 2 ≤ l.length → ∃ a b r, l = a :: b :: r
  | a :: b :: r, _ => ⟨a, b, r, rfl⟩
  | [a], h => absurd h (by simp)
  | [], h => absurd h (by simp)
variable {W : Wd} {Pm : Params} (hW : W.K = hd02.heap_1 Pm)
include hW
theorem cl49 {k : Nat} {want got : Str} (hok : ellOk want got = true) : Cl W (k + 1) (.ref 94) [.str want, .str got] (.bool (ellm want got)) := by
  refine cl_fn (names := ["want", "got"]) (fun P b => ⟨⟨_, b.k _ _ (by rw [hW]; rfl), rfl⟩, by rw [hW]; rfl, rfl, fun vs h => ?_, rfl, ?_, by decide, by decide, rfl, rfl, rfl, rfl, rfl⟩) rfl ?_
  · obtain ⟨v, u, rfl⟩ := len2 h; rfl
  · decide
  intro A L s₀ P₀ H P s X
  replace X : At W k A _ s₀ P₀ H [("want", .str want), ("got", .str got)] [] [] P s := X
  unfold ellOk at hok
  rw [Bool.and_eq_true, decide_eq_true_eq] at hok
  obtain ⟨hok, hgot⟩ := hok
  have hgot' : got.length < 2 ^ 62 := Nat.lt_of_le_of_lt hgot (by decide)
  refine s_if X (ts_cmp (ev_gstr (nmG hW)) nv op_notin_str) fun P s X => ?_
  generalize hres : ellm want got = res
  unfold ellm at hres
  cases hin : inS "..." want with
  | false =>
    rw [hin] at hres
    refine s_ret X (ev_cmp nv nv op_eq_str) fun v P s X i => ⟨P, _, _, _, X, ?_⟩
    subst hres; exact i
  | true =>
  refine s_nil ?_
  rw [hin] at hok hres
  simp only [Bool.not_true, Bool.false_or, Bool.and_eq_true, decide_eq_true_eq, List.all_eq_true] at hok
  obtain ⟨⟨⟨hcut, h2⟩, h64⟩, hlen⟩ := hok
  simp only [Bool.not_true, Bool.false_eq_true, if_false] at hres
  refine s_setN X (evn_split nv (ev_gstr (nmG hW)) hcut) (.inl rfl) fun P s X => ?_
  generalize cut want "..." = ws at *
  obtain ⟨w0, w1, r, rfl⟩ := two_le h2
  have hw : ∀ w ∈ w0 :: w1 :: r, w.length < 2 ^ 62 := fun w hm => Nat.lt_of_le_of_lt (hlen w hm) (by decide)
  have hl : ((w0 :: w1 :: r).map D.str).length = r.length + 2 := by simp
  have h64' : r.length + 2 ≤ 64 := by simpa using h64
  refine s_assert' X (ts_cmp (ev_callBL (nmB hW) nm (cl_len_list (by rw [hl]; omega))) ev_int op_ge_int) (by rw [hl]; exact decide_eq_true (by omega)) fun P s X => ?_
  refine s_pair' X (ev_tuple (evs_cons ev_int (evs_cons (ev_callB (nmB hW) (evs_cons nv evs_nil) (cl_len_str hgot')) evs_nil))) (.inl rfl) (.inl rfl) fun P s X => ?_
  refine s_set X (ev_item_list nm ev_int (by rfl)) (.inl rfl) fun P s X => ?_
  have hw0 := hw w0 List.mem_cons_self
  change (if w0.length = 0 then ellTail got (w0 :: w1 :: r) 0 else if Txt.startswith got w0 = true then ellTail got (w1 :: r) w0.length else false) = res at hres
  refine s_ifJ X (ts_str nv hw0) (fun Γ' Δ' Mx' => ∃ ws sp, Eq3 Γ' Δ' Mx' [("startpos", .int sp), ("endpos", .int got.length), ("got", .str got)] [("ws", ws.map .str)] [] ∧ res = ellTail got ws sp ∧ 0 < ws.length ∧ ws.length ≤ 64 ∧ ∀ w ∈ ws, w.length ≤ 16384)
    (fun P s X => ?_) (fun Γ' Δ' Mx' P s hJ X => ?_)
  · cases hb : ((w0.length : Int) != 0) with
    | false =>
      have h0 : w0.length = 0 := by simpa using hb
      rw [if_pos h0] at hres
      refine s_nil (.inl ⟨rfl, _, _, _, P, ⟨w0 :: w1 :: r, 0, ⟨rfl, rfl, rfl⟩, hres.symm, by simp, h64, hlen⟩, X.forget (by trivial)⟩)
    | true =>
      have h0 : w0.length ≠ 0 := by simpa using hb
      rw [if_neg h0] at hres
      refine s_if X (ts_bool (ev_smeth nv (evs_cons nv evs_nil) F.slot_str_startswith F.type_str_startswith cl_startswith)) fun P s X => ?_
      cases hs : Txt.startswith got w0 with
      | false =>
        rw [hs, if_neg Bool.false_ne_true] at hres
        refine s_ret X ev_bool fun v P s X i => .inr ⟨nofun, P, _, _, _, X, ?_⟩
        subst hres; exact i
      | true =>
        rw [hs, if_pos rfl] at hres
        refine s_set X (ev_callB (nmB hW) (evs_cons nv evs_nil) (cl_len_str hw0)) (.inl rfl) fun P s X => ?_
        refine s_del X ev_int (j := 0) (by rw [seqIndex_nn (by decide)]; rfl; simp; omega) (by decide) (by rw [hl]; exact Nat.le_trans h64' (by decide)) fun P s X => ?_
        refine s_nil (s_nil (.inl ⟨rfl, _, _, _, P, ⟨w1 :: r, w0.length, ⟨rfl, rfl, rfl⟩, hres.symm, by simp, by simp at h64 ⊢; omega, fun w hm => hlen w (List.mem_cons_of_mem _ hm)⟩, X.forget (by trivial)⟩))
  obtain ⟨ws, sp, ⟨rfl, rfl, rfl⟩, rfl, hne, h64, hlen⟩ := hJ
  have hgl : ws.getLastD Str.empty ∈ ws := by
    cases ws with
    | nil => simp at hne
    | cons a r => exact getLastD_mem
  refine s_set X (ev_item_list nm (ev_un ev_int op_neg) (at_last hne)) (.inl rfl) fun P s X => ?_
  unfold ellTail
  generalize ws.getLastD Str.empty = w at *
  have hwl := hlen w hgl
  have hwl' : w.length < 2 ^ 62 := Nat.lt_of_le_of_lt hwl (by decide)
  dsimp only
  generalize hres2 : (if w.length = 0 then if sp > (got.length : Int) then false else ellLoop got got.length ws sp
    else if Txt.endswith got w = true then if sp > (got.length : Int) - w.length then false else ellLoop got ((got.length : Int) - w.length) ws.dropLast sp else false) = res at *
  refine s_ifJ X (ts_str nv hwl') (fun Γ' Δ' Mx' => ∃ ws e, Eq3 Γ' Δ' Mx' [("startpos", .int sp), ("endpos", .int e), ("got", .str got)] [("ws", ws.map .str)] [] ∧ res = (if sp > e then false else ellLoop got e ws sp) ∧ ws.length ≤ 64 ∧ ∀ w ∈ ws, w.length ≤ 16384)
    (fun P s X => ?_) (fun Γ' Δ' Mx' P s hJ X => ?_)
  · cases hb : ((w.length : Int) != 0) with
    | false =>
      have h0 : w.length = 0 := by simpa using hb
      rw [if_pos h0] at hres2
      refine s_nil (.inl ⟨rfl, _, _, _, P, ⟨ws, got.length, ⟨rfl, rfl, rfl⟩, hres2.symm, h64, hlen⟩, X.forget (by trivial)⟩)
    | true =>
      have h0 : w.length ≠ 0 := by simpa using hb
      rw [if_neg h0] at hres2
      refine s_if X (ts_bool (ev_smeth nv (evs_cons nv evs_nil) F.slot_str_endswith F.type_str_endswith cl_endswith)) fun P s X => ?_
      cases hs : Txt.endswith got w with
      | false =>
        rw [hs, if_neg Bool.false_ne_true] at hres2
        refine s_ret X ev_bool fun v P s X i => .inr ⟨nofun, P, _, _, _, X, ?_⟩
        subst hres2; exact i
      | true =>
        rw [hs, if_pos rfl] at hres2
        refine s_aug X (by trivial) (ev_callB (nmB hW) (evs_cons nv evs_nil) (cl_len_str hwl')) op_isub_int (.inl rfl) fun P s X => ?_
        have hlm : (ws.map D.str).length = ws.length := List.length_map ..
        refine s_del X (ev_un ev_int op_neg) (j := ws.length - 1) (by rw [hlm, seqIndex_neg (by decide) (by omega)]; exact congrArg some (az_m1 _)) (by decide) (by rw [hlm]; exact Nat.le_trans h64 (by decide)) fun P s X => ?_
        refine s_nil (s_nil (.inl ⟨rfl, _, _, _, P, ⟨ws.dropLast, (got.length : Int) - w.length, ⟨rfl, ?_, rfl⟩, hres2.symm, by simp; omega, fun w hm => hlen w (List.dropLast_subset _ hm)⟩, X.forget (by trivial)⟩))
        rw [erase_last]; rfl
  clear hres2 hlen h64
  obtain ⟨ws, e, ⟨rfl, rfl, rfl⟩, rfl, h64, hlen⟩ := hJ
  refine s_if X (ts_cmp nv nv op_gt_int) fun P s X => ?_
  cases hgt : decide (e < sp) with
  | true =>
    have : sp > e := by simpa using hgt
    refine s_ret X ev_bool fun v P s X i => ⟨P, _, _, _, X, ?_⟩
    rw [if_pos this]; exact i
  | false =>
  have : ¬ sp > e := by simpa using hgt
  refine s_nil ?_
  rw [if_neg this]
  obtain ⟨P, X⟩ := X.freeze
  replace X := X.forget (Γ' := [("ws", .list (ws.map .str)), ("startpos", .int sp), ("endpos", .int e), ("got", .str got)]) (by trivial)
  generalize hres : ellLoop got e ws sp = res
  refine s_for X (evi_listP nv) (.inl rfl) (fun i Γ' Δ' Mx' => ∃ sp, Eq3 Γ' Δ' Mx' [("ws", .list (ws.map .str)), ("startpos", .int sp), ("endpos", .int e), ("got", .str got)] [] [] ∧ res = ellLoop got e (ws.drop i) sp) (fun _ _ _ => False) ?_ ?_ ?_ ?_
  · exact ⟨sp, ⟨rfl, rfl, rfl⟩, hres.symm⟩
  · rintro i Γ' Δ' Mx' ⟨sp, ⟨rfl, rfl, rfl⟩, _⟩
    exact ⟨by trivial, by trivial⟩
  · rintro i d H' Γ' Δ' Mx' P' s' E' hd ⟨sp, ⟨rfl, rfl, rfl⟩, hr⟩ X back
    obtain ⟨w, hw, rfl⟩ : ∃ w, ws[i]? = some w ∧ d = .str w := by
      rw [List.getElem?_map] at hd
      obtain ⟨w, hw, e⟩ := Option.map_eq_some_iff.mp hd
      exact ⟨w, hw, e.symm⟩
    have hwl : w.length < 2 ^ 62 := Nat.lt_of_le_of_lt (hlen w (List.mem_of_getElem? hw)) (by decide)
    rw [drop_cons hw, ellLoop] at hr
    refine s_set X (ev_smeth nv (evs_cons nv (evs_cons nv (evs_cons nv evs_nil))) F.slot_str_find F.type_str_find cl_find4) (.inl rfl) fun P s X => ?_
    refine s_if X (ts_cmp nv ev_int op_lt_int) fun P s X => ?_
    cases hlt : decide (find4 got w sp e < 0) with
    | true =>
      rw [if_pos (of_decide_eq_true hlt)] at hr
      refine s_ret X ev_bool fun v P s X i => ⟨P, _, _, _, back _ _ _ _ _ X, ?_⟩
      subst hr; exact i
    | false =>
      rw [if_neg (of_decide_eq_false hlt)] at hr
      refine s_nil (s_aug X (by trivial) (ev_callB (nmB hW) (evs_cons nv evs_nil) (cl_len_str hwl)) op_iadd_int (.inl rfl) fun P s X => s_nil ?_)
      exact ⟨_, _, _, P, ⟨_, ⟨rfl, rfl, rfl⟩, hr⟩, X.forget (by trivial)⟩
  · rintro Γ' Δ' Mx' P' s' (⟨sp, ⟨rfl, rfl, rfl⟩, hr⟩ | h) X
    · refine s_ret X ev_bool fun v P s X i => ⟨P, _, _, _, X, ?_⟩
      rw [List.length_map, List.drop_length, ellLoop] at hr
      subst hr; exact i
    · exact h.elim
end
section
/-! Whitespace -/
structure Wst where
  count : List Int
  b : Nat
  n : Nat
  nt : Nat
noncomputable def wsGrow (l : List Int) (b : Nat) : List Int := if l.length ≤ b then l ++ List.replicate (b - l.length + 1) 0 else l
noncomputable def wsT (st : Wst) : Wst := { count := (wsGrow st.count st.b).set st.b ((wsGrow st.count st.b).getD st.b 0 + 1), b := 0, n := st.n + 1, nt := st.nt + 1 }
theorem wsGrow_len (l : List Int) (b : Nat) : b < (wsGrow l b).length ∧ (wsGrow l b).length ≤ max l.length (b + 1) := by
  unfold wsGrow
  split
  · rename_i h
    have e : (l ++ List.replicate (b - l.length + 1) (0 : Int)).length = b + 1 := by rw [List.length_append, List.length_replicate, ← Nat.add_assoc, Nat.add_sub_of_le h]
    rw [e]
    exact ⟨Nat.lt_succ_self b, Nat.le_max_right _ _⟩
  · rename_i h
    exact ⟨Nat.lt_of_not_le h, Nat.le_max_left _ _⟩
noncomputable def wsLoop : List Nat → Wst → Wst
  | [], st => st
  | c :: r, st => if (⟨#[c]⟩ : Str) == " " then wsLoop r { st with n := st.n + 1, b := st.b + 1 } else if (⟨#[c]⟩ : Str) == "\t" then wsLoop r (wsT st) else st
noncomputable def wsOf (x : Str) : Wst := wsLoop x.cps.toList ⟨[], 0, 0, 0⟩
noncomputable def wsFields (x : Str) (st : Wst) : List (Str × D) := [("raw", .str x), ("n", .int st.n), ("nt", .int st.nt), ("norm", .tup [.tup (st.count.map .int), .int st.b]), ("is_simple", .bool (decide ((st.count.length : Int) ≤ 1)))]
noncomputable def wsBnd (st : Wst) (i : Nat) : Prop := st.count.length ≤ i ∧ st.b ≤ i
theorem ints_set {l : List Int} {i : Nat} {a : Int} : (l.map D.int).set i (.int a) = (l.set i a).map D.int := by rw [List.map_set]
theorem chars_get {x : Str} {i : Nat} {d : D} (h : (chars x)[i]? = some d) : ∃ c, x.cps.toList[i]? = some c ∧ d = .str ⟨#[c]⟩ := by
  unfold chars at h
  rw [List.getElem?_map] at h
  obtain ⟨c, hc, e⟩ := Option.map_eq_some_iff.mp h
  exact ⟨c, hc, e.symm⟩
theorem drop_consN {l : List Nat} {i : Nat} {a : Nat} (h : l[i]? = some a) : l.drop i = a :: l.drop (i + 1) := by
  obtain ⟨hi, e⟩ := List.getElem?_eq_some_iff.mp h
  rw [List.drop_eq_getElem_cons hi, e]
theorem at_nat {ds : List D} {n : Nat} {d : D} (h : ds[n]? = some d) : at? ds (n : Int) = some d := by
  unfold at?
  rw [if_pos (Int.natCast_nonneg n)]
  simpa using h
variable {W : Wd} {Pm : Params} (hW : W.K = hd02.heap_1 Pm)
include hW
theorem kl115 {k : Nat} {x : Str} {o dx : Addr} (hx : x.cps.size ≤ 16000) : KlM W (k + 1) (.ref 38) [.inst o 83 dx, .str x] .none [(dx, .dict [])] [(dx, .dict (wsFields x (wsOf x)))] := by
  refine klm_fn (names := ["self", "ws"]) (fun P b => ⟨⟨_, b.k _ _ (by rw [hW]; rfl), rfl⟩, by rw [hW]; rfl, rfl, fun vs h => ?_, rfl, ?_, by decide, by decide, rfl, rfl, rfl, rfl, rfl⟩) rfl rfl ?_
  · obtain ⟨v, u, rfl⟩ := len2 h; rfl
  · decide
  intro A L s₀ P₀ P s _ X
  replace X : At W k A _ s₀ P₀ _ [("self", .inst o 83 dx), ("ws", .str x)] [] [(dx, .dict [])] P s := X
  refine s_setattr X nv nv (setK hW) fun P s X => ?_
  refine s_pair' X (ev_tuple (evs_cons (at_attrC hW (nmG hW)) (evs_cons (at_attrC hW (nmG hW)) evs_nil))) (.inl rfl) (.inl rfl) fun P s X => ?_
  refine s_setN X (evn_list evs_nil) (.inl rfl) fun P s X => ?_
  refine s_three X ev_int (.inl rfl) (.inl rfl) (.inl rfl) fun P s X => ?_
  replace X := X.forget (Γ' := [("n", .int 0), ("nt", .int 0), ("b", .int 0), ("S", .str " "), ("T", .str "\t"), ("self", .inst o 83 dx)]) (by trivial)
  replace X : At W k A _ s₀ P₀ _ _ [("count", (([] : List Int)).map .int)] [(dx, .dict [("raw", .str x)])] P s := X
  refine s_for X (evi_str (ev_attrI nv (by trivial) (getK hW) rfl)) (.inl rfl)
    (fun i Γ' Δ' Mx' => ∃ (st : Wst) (n nt b : Int), (n = st.n ∧ nt = st.nt ∧ b = st.b) ∧ Eq3 Γ' Δ' Mx' [("n", .int n), ("nt", .int nt), ("b", .int b), ("S", .str " "), ("T", .str "\t"), ("self", .inst o 83 dx)] [("count", st.count.map .int)] [(dx, .dict [("raw", .str x)])] ∧ wsOf x = wsLoop (x.cps.toList.drop i) st ∧ wsBnd st i)
    (fun Γ' Δ' Mx' => Eq3 Γ' Δ' Mx' [("n", .int (wsOf x).n), ("nt", .int (wsOf x).nt), ("b", .int (wsOf x).b), ("S", .str " "), ("T", .str "\t"), ("self", .inst o 83 dx)] [("count", (wsOf x).count.map .int)] [(dx, .dict [("raw", .str x)])] ∧ (wsOf x).count.length ≤ x.cps.size) ?_ ?_ ?_ ?_
  · exact ⟨⟨[], 0, 0, 0⟩, 0, 0, 0, ⟨rfl, rfl, rfl⟩, ⟨rfl, rfl, rfl⟩, rfl, Nat.le_refl _, Nat.le_refl _⟩
  · rintro i Γ' Δ' Mx' ⟨st, n, nt, b, _, ⟨rfl, rfl, rfl⟩, _⟩
    exact ⟨by trivial, by trivial⟩
  · rintro i d H' Γ' Δ' Mx' P' s' E' hd ⟨st, _, _, _, ⟨rfl, rfl, rfl⟩, ⟨rfl, rfl, rfl⟩, hst, hb⟩ X back
    obtain ⟨c, hc, rfl⟩ := chars_get hd
    rw [drop_consN hc, wsLoop] at hst
    refine s_if X (ts_cmp nv nv op_eq_str) fun P s X => ?_
    cases h1 : ((⟨#[c]⟩ : Str) == " ") with
    | true =>
      rw [h1, if_pos rfl] at hst
      refine s_set X (ev_bin nv ev_int op_add_int) (.inl rfl) fun P s X => ?_
      refine s_set X (ev_bin nv ev_int op_add_int) (.inl rfl) fun P s X => ?_
      refine s_nil (s_nil ⟨_, _, _, P, ⟨{ st with n := st.n + 1, b := st.b + 1 }, st.n + 1, st.nt, st.b + 1, ⟨rfl, rfl, rfl⟩, ⟨rfl, rfl, rfl⟩, hst, ?_, ?_⟩, X.forget (Γ' := [("n", .int (st.n + 1)), ("nt", .int st.nt), ("b", .int (st.b + 1)), ("S", .str " "), ("T", .str "\t"), ("self", .inst o 83 dx)]) (by trivial)⟩)
      · exact Nat.le_succ_of_le hb.1
      · exact Nat.succ_le_succ hb.2
    | false =>
      rw [h1, if_neg Bool.false_ne_true] at hst
      refine s_if X (ts_cmp nv nv op_eq_str) fun P s X => ?_
      cases h2 : ((⟨#[c]⟩ : Str) == "\t") with
      | true =>
        rw [h2, if_pos rfl] at hst
        have hi : i < x.cps.size := by
          have := (List.getElem?_eq_some_iff.mp hc).1
          simpa using this
        have hcl : st.count.length ≤ 16000 := Nat.le_trans hb.1 (Nat.le_trans (Nat.le_of_lt hi) hx)
        have hbl : st.b ≤ 16000 := Nat.le_trans hb.2 (Nat.le_trans (Nat.le_of_lt hi) hx)
        have hml : (st.count.map D.int).length = st.count.length := List.length_map ..
        refine s_set X (ev_bin nv ev_int op_add_int) (.inl rfl) fun P s X => ?_
        refine s_set X (ev_bin nv ev_int op_add_int) (.inl rfl) fun P s X => ?_
        replace X := X.forget (Γ' := [("n", .int (st.n + 1)), ("nt", .int (st.nt + 1)), ("b", .int st.b), ("S", .str " "), ("T", .str "\t"), ("self", .inst o 83 dx)]) (by trivial)
        replace X : At W k A _ s₀ _ _ _ [("count", st.count.map .int)] [(dx, .dict [("raw", .str x)])] P s := X
        refine s_ifJ X (ts_cmp nv (ev_callBL (nmB hW) nm (cl_len_list (by rw [hml]; omega))) op_ge_int)
          (fun Γ' Δ' Mx' => Eq3 Γ' Δ' Mx' [("n", .int (st.n + 1)), ("nt", .int (st.nt + 1)), ("b", .int st.b), ("S", .str " "), ("T", .str "\t"), ("self", .inst o 83 dx)] [("count", (wsGrow st.count st.b).map .int)] [(dx, .dict [("raw", .str x)])])
          (fun P s X => ?_) (fun Γ' Δ' Mx' P s hJ X => ?_)
        · rw [hml]
          cases h3 : decide ((st.count.length : Int) ≤ st.b) with
          | true =>
            have h3' : st.count.length ≤ st.b := by simpa using h3
            refine s_setN X (evn_add nm (EvN.l (evn_mul1 (EvN.l (evn_list (evs_cons ev_int evs_nil))) (ev_bin (ev_bin nv (ev_callBL (nmB hW) nm (cl_len_list (by rw [hml]; omega))) op_sub_int) ev_int op_add_int) (by rw [hml]; omega) (by rw [hml]; omega))) (by rw [hml, List.length_replicate, PySem.sizeLine_eq]; omega)) (.inl rfl) fun P s X => ?_
            refine s_nil (.inl ⟨rfl, _, _, _, P, ⟨rfl, ?_, rfl⟩, X.forget (by trivial)⟩)
            show [(Str.ofString "count", _)] = _
            unfold wsGrow
            rw [if_pos h3', List.map_append, List.map_replicate, hml, az_sub1 h3']
          | false =>
            have h3' : ¬ st.count.length ≤ st.b := by simpa using h3
            refine s_nil (.inl ⟨rfl, _, _, _, P, ⟨rfl, ?_, rfl⟩, X⟩)
            unfold wsGrow
            rw [if_neg h3']
        obtain ⟨rfl, rfl, rfl⟩ := hJ
        have hg := wsGrow_len st.count st.b
        have hgl : ((wsGrow st.count st.b).map D.int).length = (wsGrow st.count st.b).length := List.length_map ..
        refine s_setitem X (ev_bin (ev_item_list nm nv (at_nat (d := .int ((wsGrow st.count st.b).getD st.b 0)) ?_) (by omega)) ev_int op_add_int) nv (Int.natCast_nonneg _) (by rw [hgl]; omega) (by omega) fun P s X => ?_
        · rw [List.getElem?_map, List.getElem?_eq_getElem hg.1, List.getD_eq_getElem?_getD, List.getElem?_eq_getElem hg.1]; rfl
        refine s_set X ev_int (.inl rfl) fun P s X => s_nil (s_nil (s_nil ?_))
        refine ⟨_, _, _, P, ⟨wsT st, st.n + 1, st.nt + 1, 0, ⟨rfl, rfl, rfl⟩, ⟨rfl, ?_, rfl⟩, hst, ?_, Nat.zero_le _⟩, X.forget (Γ' := [("n", .int (st.n + 1)), ("nt", .int (st.nt + 1)), ("b", .int 0), ("S", .str " "), ("T", .str "\t"), ("self", .inst o 83 dx)]) (by trivial)⟩
        · show [(Str.ofString "count", _)] = _
          rw [ints_set, show ((st.b : Nat) : Int).toNat = st.b from rfl]; rfl
        · show ((wsGrow st.count st.b).set _ _).length ≤ _
          rw [List.length_set]
          exact Nat.le_trans hg.2 (Nat.max_le.mpr ⟨Nat.le_succ_of_le hb.1, Nat.succ_le_succ hb.2⟩)
      | false =>
        rw [h2, if_neg Bool.false_ne_true] at hst
        refine s_break ⟨_, _, _, P, ⟨⟨?_, ?_, rfl⟩, ?_⟩, X.forget (Γ' := [("n", .int st.n), ("nt", .int st.nt), ("b", .int st.b), ("S", .str " "), ("T", .str "\t"), ("self", .inst o 83 dx)]) (by trivial)⟩
        · rw [hst]
        · rw [hst]
        · rw [hst]
          refine Nat.le_trans hb.1 ?_
          have := (List.getElem?_eq_some_iff.mp hc).1
          exact Nat.le_of_lt (by simpa using this)
  · intro Γ' Δ' Mx' P' s' hJ X
    obtain ⟨⟨rfl, rfl, rfl⟩, hl⟩ : Eq3 Γ' Δ' Mx' [("n", .int (wsOf x).n), ("nt", .int (wsOf x).nt), ("b", .int (wsOf x).b), ("S", .str " "), ("T", .str "\t"), ("self", .inst o 83 dx)] [("count", (wsOf x).count.map .int)] [(dx, .dict [("raw", .str x)])] ∧ (wsOf x).count.length ≤ x.cps.size := by
      rcases hJ with ⟨st, _, _, _, ⟨rfl, rfl, rfl⟩, ⟨rfl, rfl, rfl⟩, hst, hb⟩ | h
      · rw [show (chars x).length = x.cps.toList.length by simp [chars], List.drop_length, wsLoop] at hst
        rw [hst]
        refine ⟨⟨rfl, rfl, rfl⟩, ?_⟩
        have := hb.1
        simpa [chars] using this
      · exact h
    have hml : ((wsOf x).count.map D.int).length = (wsOf x).count.length := List.length_map ..
    refine s_setattr X nv nv (setK hW) fun P s X => ?_
    refine s_setattr X nv nv (setK hW) fun P s X => ?_
    refine s_setattr X (ev_tuple (evs_cons (ev_tupleOf (nmB hW) nm (by rw [hml, PySem.sizeLine_eq]; omega)) (evs_cons nv evs_nil))) nv (setK hW) fun P s X => ?_
    refine s_setattr X (ev_cmp (ev_callBL (nmB hW) nm (cl_len_list (by rw [hml]; omega))) ev_int op_le_int) nv (setK hW) fun P s X => s_nil ?_
    rw [hml] at X
    exact ⟨P, _, _, [], X, .none⟩
theorem cl160 {k : Nat} {x : Str} (hx : x.cps.size ≤ 16000) : Cl W (k + 2) (.ref 83) [.str x] (.obj 83 (wsFields x (wsOf x))) :=
  cl_make (by rw [hW]; rfl) (by rw [hW]; rfl) (by rw [hW]; rfl) fun o dx => kl115 hW hx
end
section
noncomputable def wsOk (st : Wst) : Bool := decide (st.count.length ≤ 64) && decide (st.b ≤ 64) && st.count.all fun c => decide (0 ≤ c) && decide (c ≤ 64)
noncomputable def lrs (st : Wst) : Int := if (st.b : Int) > (st.count.length : Int) - 1 then st.b else (st.count.length : Int) - 1
noncomputable def indIl (count : List Int) (ts : Nat) : Nat → Int
  | 0 => 0
  | j + 1 => indIl count ts j + Int.fdiv ((ts + j : Nat) : Int) (ts : Nat) * count.getD (ts + j) 0
noncomputable def ind (st : Wst) (ts : Nat) : Int := st.b + ts * (indIl st.count ts (st.count.length - ts) + st.nt)
noncomputable def lessLoop (a b : Wst) : Nat → Nat → Bool
  | 0, _ => true
  | j + 1, ts => if ind b ts ≤ ind a ts then false else lessLoop a b j (ts + 1)
noncomputable def wsMax (a b : Wst) : Int := if lrs b > lrs a then lrs b else lrs a
noncomputable def wsLess (a b : Wst) : Bool :=
  if b.n ≤ a.n then false
  else if decide (a.count.length ≤ 1) && decide (b.count.length ≤ 1) then decide (a.nt ≤ b.nt)
  else lessLoop a b (wsMax a b).toNat 2
variable {W : Wd} {Pm : Params} (hW : W.K = hd02.heap_1 Pm)
include hW
theorem cl122 {k : Nat} {x : Str} {st : Wst} (hok : wsOk st = true) : Cl W (k + 1) (.ref 45) [.obj 83 (wsFields x st)] (.int (lrs st)) := by
  refine cl_fn (names := ["self"]) (fun P b => ⟨⟨_, b.k _ _ (by rw [hW]; rfl), rfl⟩, by rw [hW]; rfl, rfl, fun vs h => ?_, rfl, ?_, by decide, by decide, rfl, rfl, rfl, rfl, rfl⟩) rfl ?_
  · obtain ⟨v, rfl⟩ := len1 h; rfl
  · decide
  intro A L s₀ P₀ H P s X
  replace X : At W k A _ s₀ P₀ H [("self", .obj 83 (wsFields x st))] [] [] P s := X
  simp only [wsOk, Bool.and_eq_true, decide_eq_true_eq] at hok
  obtain ⟨⟨h1, h2⟩, h3⟩ := hok
  have hml : (st.count.map D.int).length = st.count.length := List.length_map ..
  refine s_pair X (ev_attrO nv (getK hW) (by rfl)) (.inl rfl) (.inl rfl) fun P s X => ?_
  refine s_ret X (ev_callB (nmB hW) (evs_cons (ev_bin (ev_callB (nmB hW) (evs_cons nv evs_nil) (cl_len_tup (by rw [hml]; omega))) ev_int op_sub_int) (evs_cons nv evs_nil)) cl_max_two) fun v P s X i => ⟨P, _, _, _, X, ?_⟩
  rw [hml] at i
  exact i
theorem cl129 {k : Nat} {x : Str} {st : Wst} {ts : Nat} (hok : wsOk st = true) (ht0 : 1 ≤ ts) (ht : ts ≤ 1000) : Cl W (k + 1) (.ref 52) [.obj 83 (wsFields x st), .int ts] (.int (ind st ts)) := by
  refine cl_fn (names := ["self", "tabsize"]) (fun P b => ⟨⟨_, b.k _ _ (by rw [hW]; rfl), rfl⟩, by rw [hW]; rfl, rfl, fun vs h => ?_, rfl, ?_, by decide, by decide, rfl, rfl, rfl, rfl, rfl⟩) rfl ?_
  · obtain ⟨v, u, rfl⟩ := len2 h; rfl
  · decide
  intro A L s₀ P₀ H P s X
  replace X : At W k A _ s₀ P₀ H [("self", .obj 83 (wsFields x st)), ("tabsize", .int ts)] [] [] P s := X
  simp only [wsOk, Bool.and_eq_true, decide_eq_true_eq] at hok
  obtain ⟨⟨h1, h2⟩, h3⟩ := hok
  have hml : (st.count.map D.int).length = st.count.length := List.length_map ..
  refine s_pair X (ev_attrO nv (getK hW) (by rfl)) (.inl rfl) (.inl rfl) fun P s X => ?_
  refine s_set X ev_int (.inl rfl) fun P s X => ?_
  replace X := X.forget (Γ' := [("il", .int 0), ("count", .tup (st.count.map .int)), ("trailing", .int st.b), ("self", .obj 83 (wsFields x st)), ("tabsize", .int ts)]) (by trivial)
  refine s_for X (evi_range2 (n := st.count.length - ts) (nmB hW) nv (ev_callB (nmB hW) (evs_cons nv evs_nil) (cl_len_tup (by rw [hml]; omega))) (by omega) (by rw [hml]; omega) (by rw [hml]; exact az_sub _ _)) (.inl rfl)
    (fun i Γ' Δ' Mx' => ∃ il : Int, il = indIl st.count ts i ∧ Eq3 Γ' Δ' Mx' [("il", .int il), ("count", .tup (st.count.map .int)), ("trailing", .int st.b), ("self", .obj 83 (wsFields x st)), ("tabsize", .int ts)] [] []) (fun _ _ _ => False) ?_ ?_ ?_ ?_
  · exact ⟨0, rfl, rfl, rfl, rfl⟩
  · rintro i Γ' Δ' Mx' ⟨il, _, rfl, rfl, rfl⟩
    exact ⟨by trivial, by trivial⟩
  · rintro i d H' Γ' Δ' Mx' P' s' E' hd ⟨il, hil, rfl, rfl, rfl⟩ X back
    obtain ⟨hi, rfl⟩ := rngs_get hd
    have hlt : ts + i < st.count.length := by omega
    have hc := List.all_eq_true.mp h3 _ (List.getElem_mem hlt)
    simp only [Bool.and_eq_true, decide_eq_true_eq] at hc
    have hg : st.count.getD (ts + i) 0 = st.count[ts + i] := by simp [List.getD_eq_getElem?_getD, List.getElem?_eq_getElem hlt]
    refine s_set X (ev_bin nv (ev_bin (ev_bin nv nv (op_div_int (by omega) (by omega))) (ev_item_tup (d := .int (st.count.getD (ts + i) 0)) (j := ts + i) nv nv (by rw [hml, seqIndex_nn (by omega) (by omega)]; congr 1) (by rw [List.getElem?_map, List.getElem?_eq_getElem hlt, hg]; rfl) (by omega)) (op_mul_int (IntMulOk.of_right (intBits_le_64 (by rw [hg]; omega) (by rw [hg]; omega))))) op_add_int) (.inl rfl) fun P s X => s_nil ?_
    exact ⟨_, _, _, P, ⟨il + Int.fdiv (ts + i) ts * st.count.getD (ts + i) 0, by rw [indIl, ← hil]; push_cast; rfl, rfl, rfl, rfl⟩, X.forget (by trivial)⟩
  · rintro Γ' Δ' Mx' P' s' (⟨il, hil, rfl, rfl, rfl⟩ | h) X
    · rw [rngs_len] at hil
      subst hil
      refine s_ret X (ev_bin nv (ev_bin nv (ev_bin nv (ev_attrO nv (getK hW) (by rfl)) op_add_int) (op_mul_int (IntMulOk.of_left (intBits_le_64 (by omega) (by omega))))) op_add_int) fun v P s X i => ⟨P, _, _, _, X, ?_⟩
      exact i
    · exact h.elim
theorem cl150 {k : Nat} {x y : Str} {a b : Wst} (ha : wsOk a = true) (hb : wsOk b = true) : Cl W (k + 2) (.ref 73) [.obj 83 (wsFields x a), .obj 83 (wsFields y b)] (.bool (wsLess a b)) := by
  refine cl_fn (names := ["self", "other"]) (fun P b => ⟨⟨_, b.k _ _ (by rw [hW]; rfl), rfl⟩, by rw [hW]; rfl, rfl, fun vs h => ?_, rfl, ?_, by decide, by decide, rfl, rfl, rfl, rfl, rfl⟩) rfl ?_
  · obtain ⟨v, u, rfl⟩ := len2 h; rfl
  · decide
  intro A L s₀ P₀ H P s X
  replace X : At W (k + 1) A _ s₀ P₀ H [("self", .obj 83 (wsFields x a)), ("other", .obj 83 (wsFields y b))] [] [] P s := X
  generalize hres : wsLess a b = res
  unfold wsLess at hres
  refine s_if X (ts_cmp (ev_attrO nv (getK hW) (by rfl)) (ev_attrO nv (getK hW) (by rfl)) op_ge_int) fun P s X => ?_
  cases h1 : decide ((b.n : Int) ≤ a.n) with
  | true =>
    have h1' : b.n ≤ a.n := by simpa using h1
    rw [if_pos h1'] at hres
    refine s_ret X ev_bool fun v P s X i => ⟨P, _, _, _, X, ?_⟩
    subst hres; exact i
  | false =>
  have h1' : ¬ b.n ≤ a.n := by simpa using h1
  rw [if_neg h1'] at hres
  refine s_nil ?_
  refine s_if X (ts_and2 (ts_bool (ev_attrO nv (getK hW) (by rfl))) fun _ => ts_bool (ev_attrO nv (getK hW) (by rfl))) fun P s X => ?_
  rw [show decide ((a.count.length : Int) ≤ 1) = decide (a.count.length ≤ 1) from az_dle, show decide ((b.count.length : Int) ≤ 1) = decide (b.count.length ≤ 1) from az_dle]
  cases h2 : (decide (a.count.length ≤ 1) && decide (b.count.length ≤ 1)) with
  | true =>
    rw [h2, if_pos rfl] at hres
    refine s_ret X (ev_cmp (ev_attrO nv (getK hW) (by rfl)) (ev_attrO nv (getK hW) (by rfl)) op_le_int) fun v P s X i => ⟨P, _, _, _, X, ?_⟩
    subst hres
    rw [show decide ((a.nt : Int) ≤ b.nt) = decide (a.nt ≤ b.nt) from az_dle] at i
    exact i
  | false =>
  rw [h2, if_neg Bool.false_ne_true] at hres
  refine s_nil ?_
  have ha' := ha
  have hb' := hb
  simp only [wsOk, Bool.and_eq_true, decide_eq_true_eq] at ha' hb'
  refine s_set X (ev_bin (ev_callB (nmB hW) (evs_cons (ev_methO (d := .int (lrs a)) nv (methK hW) (fnK hW) (by rfl) evs_nil (cl122 (W := W.at []) hW ha)) (evs_cons (ev_methO (d := .int (lrs b)) nv (methK hW) (fnK hW) (by rfl) evs_nil (cl122 (W := W.at []) hW hb)) evs_nil)) cl_max_two) ev_int op_add_int) (.inl rfl) fun P s X => ?_
  have hm : -1 ≤ wsMax a b ∧ wsMax a b ≤ 64 := by
    unfold wsMax lrs
    constructor <;> (repeat' split) <;> omega
  change At W (k + 1) A _ s₀ P₀ H ((_, D.int (wsMax a b + 1)) :: _) _ _ P s at X
  replace X := X.forget (Γ' := [("n", .int (wsMax a b + 1)), ("self", .obj 83 (wsFields x a)), ("other", .obj 83 (wsFields y b))]) (by trivial)
  refine s_for X (evi_range2 (n := (wsMax a b).toNat) (nmB hW) ev_int (ev_bin nv ev_int op_add_int) (by decide) (by omega) (az_w _)) (.inl rfl)
    (fun i Γ' Δ' Mx' => Eq3 Γ' Δ' Mx' [("n", .int (wsMax a b + 1)), ("self", .obj 83 (wsFields x a)), ("other", .obj 83 (wsFields y b))] [] [] ∧ i ≤ 64 ∧ res = lessLoop a b ((wsMax a b).toNat - i) (2 + i)) (fun _ _ _ => False) ?_ ?_ ?_ ?_
  · exact ⟨⟨rfl, rfl, rfl⟩, Nat.zero_le _, by rw [hres.symm]; rfl⟩
  · rintro i Γ' Δ' Mx' ⟨⟨rfl, rfl, rfl⟩, _⟩
    exact ⟨by trivial, by trivial⟩
  · rintro i d H' Γ' Δ' Mx' P' s' E' hd ⟨⟨rfl, rfl, rfl⟩, hi64, hr⟩ X back
    obtain ⟨hi, rfl⟩ := rngs_get hd
    rw [show (2 : Int) + (i : Int) = ((2 + i : Nat) : Int) from rfl] at X
    rw [show (wsMax a b).toNat - i = ((wsMax a b).toNat - (i + 1)) + 1 from (Nat.sub_one_add_one (Nat.sub_ne_zero_of_lt hi)).symm, lessLoop] at hr
    refine s_if X (ts_cmp (ev_methO (d := .int (ind a (2 + i))) nv (methK hW) (fnK hW) (by rfl) (evs_cons nv evs_nil) (cl129 (W := W.at []) (ts := 2 + i) hW ha (by omega) (by omega))) (ev_methO (d := .int (ind b (2 + i))) nv (methK hW) (fnK hW) (by rfl) (evs_cons nv evs_nil) (cl129 (W := W.at []) (ts := 2 + i) hW hb (by omega) (by omega))) op_ge_int) fun P s X => ?_
    cases h3 : decide (ind b (2 + i) ≤ ind a (2 + i)) with
    | true =>
      rw [if_pos (of_decide_eq_true h3)] at hr
      refine s_ret X ev_bool fun v P s X i => ⟨P, _, _, _, back _ _ _ _ _ X, ?_⟩
      subst hr; exact i
    | false =>
      rw [if_neg (of_decide_eq_false h3)] at hr
      refine s_nil (s_nil ⟨_, _, _, P, ⟨⟨rfl, rfl, rfl⟩, by omega, hr⟩, X.forget (by trivial)⟩)
  · rintro Γ' Δ' Mx' P' s' (⟨⟨rfl, rfl, rfl⟩, _, hr⟩ | h) X
    · refine s_ret X ev_bool fun v P s X i => ⟨P, _, _, _, X, ?_⟩
      rw [rngs_len, Nat.sub_self, lessLoop] at hr
      subst hr; exact i
    · exact h.elim
end
section
/-! _law_spelled -/
noncomputable def spA (row : Str) : Str := Txt.replace row "\"" "\\\""
noncomputable def spB1 (row : Str) : Str := Txt.replace row " " "\\ "
noncomputable def spB2 (row : Str) : Str := Txt.replace (spB1 row) "\t" "\\\t"
noncomputable def spC (row : Str) : Str := Txt.join "" (row.cps.toList.map fun c => ("\\" : Str) ++ ⟨#[c]⟩)
noncomputable def spelled (row : Str) (way : Int) : Str :=
  if way == 0 then (("\"" : Str) ++ spA row) ++ "\""
  else if way == 1 then Txt.replace (spB2 row) "\n" "\\\n"
  else (("\"" : Str) ++ spC row) ++ "\""
noncomputable def spOk (row : Str) : Bool := decide (row.length ≤ 1000) && decide ((spA row).length ≤ 10000) && decide ((spB1 row).length ≤ 10000) && decide ((spB2 row).length ≤ 10000) && JoinOk "" (row.cps.toList.map fun c => ("\\" : Str) ++ ⟨#[c]⟩) && decide ((spC row).length ≤ 10000)
theorem base_const {c : Const} {k : Nat} {p : Pos} {a : Str} {env : Env} {w : Sem Value} : attributeBase (.Constant c k p) a env w = w := rfl
variable {W : Wd} {Pm : Params} (hW : W.K = hd02.heap_1 Pm)
include hW
theorem cl176 {k : Nat} {row : Str} {way : Int} (hok : spOk row = true) : Cl W (k + 1) (.ref 176) [.str row, .int way] (.str (spelled row way)) := by
  refine cl_fn (names := ["row", "way"]) (fun P b => ⟨⟨_, b.k _ _ (by rw [hW]; rfl), rfl⟩, by rw [hW]; rfl, rfl, fun vs h => ?_, rfl, ?_, by decide, by decide, rfl, rfl, rfl, rfl, rfl⟩) rfl ?_
  · obtain ⟨v, u, rfl⟩ := len2 h; rfl
  · decide
  intro A L s₀ P₀ H P s X
  replace X : At W k A _ s₀ P₀ H [("row", .str row), ("way", .int way)] [] [] P s := X
  simp only [spOk, Bool.and_eq_true, decide_eq_true_eq] at hok
  obtain ⟨⟨⟨⟨⟨h1, h2⟩, h3⟩, h4⟩, h5⟩, h6⟩ := hok
  have l1 : (("\"" : Str)).length = 1 := by decide
  have l2 : (("\\" : Str)).length = 1 := by decide
  have la : ∀ a b : Str, (a ++ b).length = a.length + b.length := fun a b => by show (a.cps ++ b.cps).size = _; rw [Array.size_append]; rfl
  have hrl : row.cps.toList.length = row.length := by show _ = row.cps.size; simp
  generalize hres : spelled row way = res
  unfold spelled at hres
  refine s_if X (ts_cmp nv ev_int op_eq_int) fun P s X => ?_
  cases hw0 : way == 0 with
  | true =>
    rw [hw0, if_pos rfl] at hres
    refine s_ret X (ev_bin (ev_bin ev_str (ev_replaceC nv (by decide) (by omega)) (op_add_str (by rw [l1]; show 1 + (spA row).length ≤ _; rw [PySem.sizeLine_eq]; omega))) ev_str (op_add_str (by rw [la, l1]; show 1 + (spA row).length + 1 ≤ _; rw [PySem.sizeLine_eq]; omega))) fun v P s X i => ⟨P, _, _, _, X, ?_⟩
    subst hres; exact i
  | false =>
  rw [hw0, if_neg Bool.false_ne_true] at hres
  refine s_nil (s_if X (ts_cmp nv ev_int op_eq_int) fun P s X => ?_)
  cases hw1 : way == 1 with
  | true =>
    rw [hw1, if_pos rfl] at hres
    refine s_ret X (ev_replaceC (ev_replaceC (ev_replaceC nv (by decide) (by omega)) (by decide) (by show (spB1 row).length ≤ _; omega)) (by decide) (by show (spB2 row).length ≤ _; omega)) fun v P s X i => ⟨P, _, _, _, X, ?_⟩
    subst hres; exact i
  | false =>
  rw [hw1, if_neg Bool.false_ne_true] at hres
  refine s_nil (s_ret (d := .str ((("\"" : Str) ++ spC row) ++ "\"")) X ?_ fun v P s X i => ⟨P, _, _, _, X, by subst hres; exact i⟩)
  refine ev_bin (a := .str (("\"" : Str) ++ spC row)) (b := .str "\"") ?_ ev_str (op_add_str (by rw [la, l1, PySem.sizeLine_eq]; omega))
  refine ev_bin (a := .str "\"") (b := .str (spC row)) ev_str ?_ (op_add_str (by rw [l1, PySem.sizeLine_eq]; omega))
  have hj : Cl (W.at []) k (.builtin "str.join") [.str "", .list ((row.cps.toList.map fun c => ("\\" : Str) ++ ⟨#[c]⟩).map .str)] (.str (spC row)) := by unfold spC; exact cl_join h5
  refine (fun h => ev_smeth (name := Str.ofString "join") (id := "str.join") (x := "") (ds := [.list ((row.cps.toList.map fun c => ("\\" : Str) ++ ⟨#[c]⟩).map .str)]) ev_str h F.slot_str_join F.type_str_join hj (hbase := base_const)) ?_
  refine evs_cons (EvN.ev ?_) evs_nil
  refine evn_for [] [] (evi_str nv) (by rw [List.length_map, List.length_map]; simp [chars]) (fun C i d d' h1 h2 => ?_) (hsz := by rw [show (chars row).length = row.length by simp [chars]; exact hrl]; exact Nat.ble_eq.mpr (by omega))
  obtain ⟨c, hc, rfl⟩ := chars_get h1
  rw [List.map_map, List.getElem?_map, hc] at h2
  cases h2
  exact ev_bin ev_str nv (op_add_str (by rw [l2]; show 1 + 1 ≤ _; decide))
end
section
variable {W : Wd} {Pm : Params} (hW : W.K = hd02.heap_1 Pm)
include hW
theorem eval_enum {k : Nat} {A : Around} {env : Env} {s₀ : Shared} {P₀ H : Vw} {Γ : List (Str × D)} {P : Vw} {s : Shared} {E Q : Value → Shared → Prop} {p p1 p2 : Pos} {x : Str} {z : Str} (X : At W k A env s₀ P₀ H Γ [] [] P s) (hz : (z, D.str x) ∈ Γ)
    (h : ∀ s' t oi, iterO x t 0 oi → At W k A env s₀ P₀ H Γ [] [(s.heap.objs.size + 1, .obj (enumO s.heap.objs.size 0 .none)), (s.heap.objs.size, .obj oi)] P s' → Q (.ref (s.heap.objs.size + 1)) s') (hd : (z == ("__debug__" : Str)) = false := by decide) (hn : (z == ("__classdict__" : Str)) = false := by decide) (kind : env.kindOf "enumerate" = some .globalImplicit := by rfl) : wpAny W.M A (eval (.Call (.Name (Str.ofString "enumerate") p) [.Name z p1] [] p2) env) Q E s := by
  refine wpAny_Call_Name_kw (name_bi X.st.b X.st.p X.cx (nmB hW (kind := kind)) ?_ (by decide))
  have hp' : [Expr.Name z p1].all plainE = true := by rfl
  refine PySem.callWith_type (plain_any hp') ?_
  obtain ⟨v, nm, i⟩ := X.cx.vars _ hz
  rw [starEach_cons rfl]
  refine evalArgs_plain (spliced_cons (name_read X.fn X.st.sv nm (spliced_nil ?_) hd hn))
  obtain ⟨t, rfl⟩ := Is.strI i
  refine call_enumerate_str fun h' he hit hsz hk => ?_
  have f1 : s.heap.get? s.heap.objs.size = none := Heap.get?_none_of_le (Nat.le_refl _)
  have f2 : s.heap.get? (s.heap.objs.size + 1) = none := Heap.get?_none_of_le (Nat.le_succ _)
  obtain ⟨oi, q1, q2, q3⟩ := hit
  exact h _ t oi ⟨q2, q3⟩ (At.own2 X hk he q1 f2 f1 (Nat.succ_ne_self _))
theorem gen28 : ∃ fd body, (∀ P, W.B P → FnPre W P 108 fd body ["addr"]) ∧ fd.scope.isGenerator = true ∧ (∀ L, (callEnvC fd L 108).cells = []) ∧
    ∀ x : Str, x.cps.all (· < 128) = true → GenSegs W fd body 108 "addr" x ((escItems x).map itemD) := by
  refine ⟨_, _, fun P b => ⟨⟨_, b.k _ _ (by rw [hW]; rfl), rfl⟩, by rw [hW]; rfl, rfl, fun vs h => ?_, rfl, ?_, by decide, by decide, rfl, rfl, rfl, rfl⟩, rfl, fun L => rfl, ?_⟩
  · obtain ⟨v, rfl⟩ := len1 h; rfl
  · decide
  intro x hx8 A L Pb s₁ hA X
  rw [List.length_map]
  let k : Nat := 0
  have hA : AOk (k + 2) A := hA
  replace X : At W (k + 2) A (callEnvC _ L 108) s₁ Pb (offX [L] s₁.heap) [("addr", .str x)] [] [] Pb s₁ := X
  generalize k = k at *
  refine seg_func (seg_execs_cons (seg_stmt (wpAny_Assign_Name (wpAny_Constant_int ?_))))
  have hBp : W.B Pb := X.b
  have a1 : ∀ b e, AOk (k + 1) (A.over (.func b e) []) := fun b e => aok_func hA
  have X1 := X.same (h' := s₁.heap) (tk' := s₁.toks + 1) (fun _ _ e => e) (Nat.le_succ_of_le X.tk)
  refine At.nameZ (X1.around (a1 _ _)) (.int 0 s₁.toks) rfl fun s₂ X2 z2 => ?_
  refine seg_execs_cons (seg_stmt (wpAny_Assign_Name (wpAny_of_eq (a := .bool false) (by rfl) ?_)))
  refine At.nameZ X2 (.bool false) rfl fun s₃ X3 z3 => ?_
  refine seg_execs_cons (seg_For ?_)
  refine eval_enum (hW := hW) X3 (z := Str.ofString "addr") (List.mem_cons_of_mem _ (List.mem_cons_of_mem _ List.mem_cons_self)) fun s₄ t oi hoi X4 => ?_
  have hz : s₃.heap.objs.size = s₁.heap.objs.size := z3.trans z2
  rw [hz] at X4 ⊢
  have hoff : offX [L] s₁.heap = offX [L, s₁.heap.objs.size + 1, s₁.heap.objs.size] s₁.heap := by
    funext b
    unfold offX
    by_cases h1 : b = L
    · simp [h1]
    · by_cases h2 : b = s₁.heap.objs.size + 1
      · subst h2; simp [Heap.get?_none_of_le (Nat.le_succ _)]
      · by_cases h3 : b = s₁.heap.objs.size
        · subst h3; simp [Heap.get?_none_of_le (Nat.le_refl _)]
        · simp [h1, h2, h3]
  rw [hoff] at X4
  obtain ⟨m0, cv0, ad0, y0, _⟩ := X4.mnew
  obtain ⟨oe, qe, ie⟩ := y0.raw _ List.mem_cons_self
  cases ie
  refine wpAny_pyIter_enum (it := s₁.heap.objs.size) (i := 0) (old := .none) qe fun p => ?_
  replace X4 := X4.around hA
  refine seg_ind x.cps.size (fun i n s₀ s => ∃ pre P last esc old oi, escItems x = pre ++ escLoop (x.cps.toList.drop i) i esc last ∧ n = (escLoop (x.cps.toList.drop i) i esc last).length ∧ iterO x t i oi ∧
    At W (k + 2) A (callEnvC _ L 108) s₀ Pb (offX [L, s₁.heap.objs.size + 1, s₁.heap.objs.size] s₀.heap) [("escape", .bool esc), ("pos", .int last), ("addr", .str x)] [] [(s₁.heap.objs.size + 1, .obj (enumO s₁.heap.objs.size i old)), (s₁.heap.objs.size, .obj oi)] P s) ?_ ?_ ⟨[], _, 0, false, .none, oi, rfl, rfl, hoi, X4⟩
  · rintro i n s₀ s hi ih ⟨pre, P, last, esc, old, oi, hpre, rfl, hoi, X⟩
    refine seg_forLoop ?_
    apply enum_item (X.around (aok_loop hA)) hoi hi
    intro c T v P' s' oi' old' hc hv iv hoi' hlet
    subst hv
    refine hlet _ fun P2 s2 X2 iv2 => ?_
    obtain ⟨T', v1, v2, nn, eT, q, i1, i2⟩ := tup2 iv2
    cases eT
    refine wpAny_assign_Tuple X2.a.1 ⟨_, X2.inn _ _ q, rfl, nn, rfl⟩ rfl rfl fun h3 hk3 => ?_
    have X3 := X2.same (ext_keep hk3) X2.tk
    refine assignInOrder_cons (assign_Name (X3.name i1 (.inl rfl) fun s4 X4 => assignInOrder_cons (assign_Name (X4.name i2 (.inl rfl) fun s5 X5 => assignInOrder_nil ?_))))
    replace X5 : At W (k + 1) _ (callEnvC _ L 108) s₀ Pb _ [("ch", .str ⟨#[c]⟩), ("pos", .int i), ("escape", .bool esc), ("addr", .str x)] [] _ P2 s5 := X5
    have hl : x.cps.toList[i]? = some c := by simpa using hc
    have hd : x.cps.toList.drop i = c :: x.cps.toList.drop (i + 1) := by
      obtain ⟨h1, h2⟩ := List.getElem?_eq_some_iff.mp hl
      rw [← h2]; exact List.drop_eq_getElem_cons h1
    refine seg_execs_cons (seg_If ?_)
    refine ts_bool (W := W.at [(s₁.heap.objs.size + 1, .obj (enumO s₁.heap.objs.size (i + 1 : Nat) old')), (s₁.heap.objs.size, .obj oi')]) (nv (d := .bool esc)) (by rfl) _ _ P2 s5 _ _ X5.st X5.cx fun P6 s6 g6 tk6 => ?_
    have X6 := X5.gr g6 tk6
    cases esc with
    | true =>
      have he : escLoop (x.cps.toList.drop i) i true last = (i, ("\\" : Str) ++ ⟨#[c]⟩) :: escLoop (x.cps.toList.drop (i + 1)) (i + 1) false i := by rw [hd]; rfl
      rw [he] at hpre ⊢
      refine seg_execs_cons (seg_Expr_Yield rfl rfl rfl ?_)
      refine ev_tuple (W := W.at [(s₁.heap.objs.size + 1, .obj (enumO s₁.heap.objs.size (i + 1 : Nat) old')), (s₁.heap.objs.size, .obj oi')]) (evs_cons (nv (d := .int i)) (evs_cons (ev_bin ev_str (nv (d := .str ⟨#[c]⟩)) (op_add_str (Nat.le_of_ble_eq_true rfl))) evs_nil)) (by rfl) _ _ P6 s6 _ _ X6.st X6.cx fun v P7 s7 g7 tk7 iv7 kap hkap => ?_
      have X7 := X6.gr g7 tk7
      have own7 := (At.leaveH X7 rfl).q
      refine ⟨P7, itemD (i, ("\\" : Str) ++ (⟨#[c]⟩ : Str)), ?_, own7, tk7, iv7, ?_, ?_, fun s8 inn8 tk8 same8 => hkap .none s8 ?_⟩
      · rw [hpre, List.map_append, List.map_cons]
        have := rev_at (pre := pre.map itemD) (rem := (escLoop (x.cps.toList.drop (i + 1)) (i + 1) false i).map itemD) (d := itemD (i, ("\\" : Str) ++ ⟨#[c]⟩))
        rw [List.length_map] at this
        exact this
      · obtain ⟨m7, cv7, ad7, y7, _⟩ := X7.mnew
        exact y7.offP
      · obtain ⟨m7, cv7, ad7, y7, _⟩ := X7.mnew
        exact y7.exist
      · have off7 : ∀ b ∈ [L, s₁.heap.objs.size + 1, s₁.heap.objs.size], Pb b = none := by
          obtain ⟨m7, cv7, ad7, y7, _⟩ := X7.mnew
          intro b hb
          cases qq : Pb b with
          | none => rfl
          | some o => have := y7.offP b hb; rw [X7.le _ _ qq] at this; cases this
        have X8 := At.wake X7 rfl (by simp [flatD]) (by simp [objM]) X7.a hBp inn8 tk8 same8 off7
        refine seg_execs_cons (seg_stmt (wpAny_Assign_Name (wpAny_of_eq (a := .bool false) (by rfl) ?_)))
        refine At.nameZ X8 (.bool false) rfl fun s9 X9 _ => ?_
        refine seg_execs_nil (seg_again rfl (ih _ s8 s9 ⟨pre ++ [(i, ("\\" : Str) ++ (⟨#[c]⟩ : Str))], _, i, false, old', oi', ?_, rfl, hoi', (X9.less "ch").around hA⟩))
        rw [hpre, List.append_assoc]; rfl
    | false =>
      refine seg_execs_cons (seg_If ?_)
      refine ts_cmp (W := W.at [(s₁.heap.objs.size + 1, .obj (enumO s₁.heap.objs.size (i + 1 : Nat) old')), (s₁.heap.objs.size, .obj oi')]) (nv (d := .str ⟨#[c]⟩)) ev_str (op_eq_str (a := ⟨#[c]⟩) (b := "\\")) (by with_unfolding_all rfl) _ _ P6 s6 _ _ X6.st X6.cx fun PB sB gB tkB => ?_
      have XB := X6.gr gB tkB
      cases hq : ((⟨#[c]⟩ : Str) == Str.ofString "\\") with
      | true =>
        have he : escLoop (x.cps.toList.drop i) i false last = escLoop (x.cps.toList.drop (i + 1)) (i + 1) true i := by rw [hd]; show (if false = true then _ else _) = _; simp [hq]
        rw [he] at hpre ⊢
        refine seg_execs_cons (seg_stmt (wpAny_Assign_Name (wpAny_of_eq (a := .bool true) (by rfl) ?_)))
        refine At.nameZ XB (.bool true) rfl fun s9 X9 _ => ?_
        exact seg_execs_nil (seg_execs_nil (seg_again rfl (ih _ _ s9 ⟨pre, _, i, true, old', oi', hpre, rfl, hoi', (X9.less "ch").around hA⟩)))
      | false =>
        have he : escLoop (x.cps.toList.drop i) i false last = (i, ⟨#[c]⟩) :: escLoop (x.cps.toList.drop (i + 1)) (i + 1) false i := by rw [hd]; show (if false = true then _ else _) = _; simp [hq]
        rw [he] at hpre ⊢
        refine seg_execs_cons (seg_Expr_Yield rfl rfl rfl ?_)
        refine ev_tuple (W := W.at [(s₁.heap.objs.size + 1, .obj (enumO s₁.heap.objs.size (i + 1 : Nat) old')), (s₁.heap.objs.size, .obj oi')]) (evs_cons (nv (d := .int i)) (evs_cons (nv (d := .str ⟨#[c]⟩)) evs_nil)) (by rfl) _ _ PB sB _ _ XB.st XB.cx fun v P7 s7 g7 tk7 iv7 kap hkap => ?_
        have X7 := XB.gr g7 tk7
        have own7 := (At.leaveH X7 rfl).q
        refine ⟨P7, itemD (i, (⟨#[c]⟩ : Str)), ?_, own7, tk7, iv7, ?_, ?_, fun s8 inn8 tk8 same8 => hkap .none s8 ?_⟩
        · rw [hpre, List.map_append, List.map_cons]
          have := rev_at (pre := pre.map itemD) (rem := (escLoop (x.cps.toList.drop (i + 1)) (i + 1) false i).map itemD) (d := itemD (i, ⟨#[c]⟩))
          rw [List.length_map] at this
          exact this
        · obtain ⟨m7, cv7, ad7, y7, _⟩ := X7.mnew
          exact y7.offP
        · obtain ⟨m7, cv7, ad7, y7, _⟩ := X7.mnew
          exact y7.exist
        · have off7 : ∀ b ∈ [L, s₁.heap.objs.size + 1, s₁.heap.objs.size], Pb b = none := by
            obtain ⟨m7, cv7, ad7, y7, _⟩ := X7.mnew
            intro b hb
            cases qq : Pb b with
            | none => rfl
            | some o => have := y7.offP b hb; rw [X7.le _ _ qq] at this; cases this
          have X8 := At.wake X7 rfl (by simp [flatD]) (by simp [objM]) X7.a hBp inn8 tk8 same8 off7
          refine seg_execs_nil (seg_again rfl (ih _ s8 s8 ⟨pre ++ [(i, (⟨#[c]⟩ : Str))], _, i, false, old', oi', ?_, rfl, hoi', (X8.vsub (by simp)).around hA⟩))
          rw [hpre, List.append_assoc]; rfl
  · rintro n s₀ s ⟨pre, P, last, esc, old, oi, hpre, rfl, hoi, X⟩
    obtain ⟨m, cv, ad, y, _⟩ := X.mnew
    obtain ⟨o1, q1, i1⟩ := y.raw _ List.mem_cons_self
    obtain ⟨o2, q2, i2⟩ := y.raw _ (List.mem_cons_of_mem _ List.mem_cons_self)
    obtain rfl := i1.objI.symm; obtain rfl := i2.objI.symm
    have hty : strIterType x = "str_ascii_iterator" := by unfold strIterType; rw [hx8]; rfl
    refine seg_forLoop (enum_over (by exact hA.1) q1 ⟨_, q2, hty ▸ hoi.1, hoi.2⟩ (by simp) fun h' hx' hit' => ?_)
    obtain ⟨o3, q3⟩ := hit'
    have X1 := (At.turnR (tk' := s.toks) (o' := .obj o3) (X.permM (List.Perm.swap ..)) X.tk (fun b o n e => hx' b o n e) q3 (.obj _)).permM (List.Perm.swap ..)
    have hdn : x.cps.toList.drop x.cps.size = [] := List.drop_eq_nil_of_le (by simp)
    rw [hdn] at hpre ⊢
    refine seg_leaf (.ok .next) ?_
    refine seg_execs_cons (seg_If ?_)
    refine ts_bool (W := W.at [(s₁.heap.objs.size + 1, .obj (enumO s₁.heap.objs.size x.cps.size old)), (s₁.heap.objs.size, .obj o3)]) (nv (d := .bool esc)) (by rfl) _ _ P _ _ _ (X1.around (a1 _ _)).st X1.cx fun P6 s6 g6 tk6 => ?_
    have X6 := X1.gr g6 tk6
    have offB : ∀ b ∈ [L, s₁.heap.objs.size + 1, s₁.heap.objs.size], Pb b = none := fun b hb => by
      cases qq : Pb b with
      | none => rfl
      | some o => have := y.offP b hb; rw [X.le _ _ qq] at this; cases this
    cases esc with
    | false =>
      refine seg_execs_nil (seg_execs_nil ?_)
      obtain ⟨m7, cv7, ad7, y7, _⟩ := X6.mnew
      exact seg_end (.ok (.ret .none)) ⟨rfl, rfl, P6, (At.leaveH X6 rfl).q, tk6, y7.offP⟩
    | true =>
      refine seg_execs_cons (seg_Expr_Yield rfl rfl rfl ?_)
      refine ev_tuple (W := W.at [(s₁.heap.objs.size + 1, .obj (enumO s₁.heap.objs.size x.cps.size old)), (s₁.heap.objs.size, .obj o3)]) (evs_cons (nv (d := .int last)) (evs_cons (ev_str (x := "\\")) evs_nil)) (by rfl) _ _ P6 s6 _ _ (X6.around (a1 _ _)).st X6.cx fun v P7 s7 g7 tk7 iv7 kap hkap => ?_
      have X7 := X6.gr g7 tk7
      obtain ⟨m7, cv7, ad7, y7, _⟩ := X7.mnew
      refine ⟨P7, itemD (last, "\\"), ?_, (At.leaveH X7 rfl).q, tk7, iv7, y7.offP, y7.exist, fun s8 inn8 tk8 same8 => hkap .none s8 ?_⟩
      · rw [hpre, List.map_append]
        exact rev_at (pre := pre.map itemD) (rem := []) (d := itemD (last, "\\"))
      · refine seg_execs_nil (seg_execs_nil ?_)
        exact seg_end (.ok (.ret .none)) ⟨rfl, rfl, Pb, ⟨Le.refl _, inn8, fun _ _ _ e => e, fun _ _ e => .inl e, GG.refl _, rfl, rfl⟩, tk8, offB⟩
end
section
/-! _strip_quoted_realnames, _check_parenthesis -/
noncomputable def sqLoop (addr : Str) : List (Nat × Str) → Option Nat → Nat → List Str → Nat × List Str
  | [], _, st, res => (st, res)
  | (pos, ch) :: r, op, st, res =>
    if ch == "\"" then
      match op with
      | none => sqLoop addr r (some pos) st res
      | some o => sqLoop addr r none (pos + 1) (if (st : Int) != o then res ++ [Txt.slice addr (some st) (some o)] else res)
    else sqLoop addr r op st res
theorem sqLoop_cons (addr : Str) (pos : Nat) (ch : Str) (r : List (Nat × Str)) (op : Option Nat) (st : Nat) (res : List Str) : sqLoop addr ((pos, ch) :: r) op st res = if ch == "\"" then (match op with | none => sqLoop addr r (some pos) st res | some o => sqLoop addr r none (pos + 1) (if (st : Int) != o then res ++ [Txt.slice addr (some st) (some o)] else res)) else sqLoop addr r op st res := by cases op <;> rfl
noncomputable def sqRes (addr : Str) : List Str :=
  let p := sqLoop addr (escItems addr) none 0 []
  if (p.1 : Int) < addr.length then p.2 ++ [Txt.slice addr (some p.1) none] else p.2
noncomputable def strq (addr : Str) : Str := if !inS "\"" addr then addr else Txt.join "" (sqRes addr)
noncomputable def sqOk (addr : Str) : Bool := addr.cps.all (· < 128) && decide (addr.length ≤ 16000) && JoinOk "" (sqRes addr)
noncomputable def ckLoop : List (Nat × Str) → Int → Option Int
  | [], o => some o
  | (_, ch) :: r, o => if ch == "(" then ckLoop r (o + 1) else if ch == ")" then (if o - 1 < 0 then none else ckLoop r (o - 1)) else ckLoop r o
noncomputable def ckpar (addr : Str) : Bool := match ckLoop (escItems (strq addr)) 0 with | none => false | some o => o == 0
noncomputable def ckOk (addr : Str) : Bool := sqOk addr && (strq addr).cps.all (· < 128)
noncomputable def opD : Option Nat → D
  | none => .none
  | some n => .int n
theorem escLoop_len : ∀ (l : List Nat) (i : Nat) (e : Bool) (n : Nat), (escLoop l i e n).length ≤ l.length + 1
  | [], i, e, n => by cases e <;> simp [escLoop]
  | c :: r, i, e, n => by
    unfold escLoop
    split
    · have := escLoop_len r (i + 1) false i; simp; omega
    · split
      · have := escLoop_len r (i + 1) true i; simp; omega
      · have := escLoop_len r (i + 1) false i; simp; omega
theorem itemD_is {x : Str} : ∀ d ∈ (escItems x).map itemD, ∃ d1 d2, d = D.tup [d1, d2] := fun d hd => by
  obtain ⟨p, _, rfl⟩ := List.mem_map.mp hd
  exact ⟨_, _, rfl⟩
theorem itemD_get {x : Str} {i : Nat} {d1 d2 : D} (h : ((escItems x).map itemD)[i]? = some (.tup [d1, d2])) : ∃ pos ch, (escItems x)[i]? = some (pos, ch) ∧ d1 = .int (pos : Nat) ∧ d2 = .str ch := by
  rw [List.getElem?_map] at h
  obtain ⟨p, hp, e⟩ := Option.map_eq_some_iff.mp h
  cases e
  exact ⟨p.1, p.2, hp, rfl, rfl⟩
theorem drop_consP {α : Type} {l : List α} {i : Nat} {a : α} (h : l[i]? = some a) : l.drop i = a :: l.drop (i + 1) := by
  obtain ⟨hi, e⟩ := List.getElem?_eq_some_iff.mp h
  rw [List.drop_eq_getElem_cons hi, e]
variable {W : Wd} {Pm : Params} (hW : W.K = hd02.heap_1 Pm)
include hW
theorem cl35 {k : Nat} {addr : Str} (hok : sqOk addr = true) : Cl W (k + 4) (.ref 115) [.str addr] (.str (strq addr)) := by
  refine cl_fn (names := ["addr"]) (fun P b => ⟨⟨_, b.k _ _ (by rw [hW]; rfl), rfl⟩, by rw [hW]; rfl, rfl, fun vs h => ?_, rfl, ?_, by decide, by decide, rfl, rfl, rfl, rfl, rfl⟩) rfl ?_
  · obtain ⟨v, rfl⟩ := len1 h; rfl
  · decide
  intro A L s₀ P₀ H P s X
  replace X : At W (k + 3) A _ s₀ P₀ H [("addr", .str addr)] [] [] P s := X
  simp only [sqOk, Bool.and_eq_true, decide_eq_true_eq] at hok
  obtain ⟨⟨h8, hlen⟩, hj⟩ := hok
  generalize hres : strq addr = res
  unfold strq at hres
  refine s_if X (ts_cmp ev_str nv op_notin_str) fun P s X => ?_
  cases hin : inS "\"" addr with
  | false =>
    rw [hin] at hres
    refine s_ret X nv fun v P s X i => ⟨P, _, _, _, X, ?_⟩
    subst hres; exact i
  | true =>
  rw [hin] at hres
  simp only [Bool.not_true, Bool.false_eq_true, if_false] at hres
  refine s_nil ?_
  refine s_set X ev_int (.inl rfl) fun P s X => ?_
  refine s_set (d := opD none) X ev_none (.inl rfl) fun P s X => ?_
  refine s_setN X (evn_list evs_nil) (.inl rfl) fun P s X => ?_
  replace X := X.forget (Γ' := [("open_pos", opD none), ("start", .int 0), ("addr", .str addr)]) (by trivial)
  obtain ⟨fd, body, FF, hgen, hcl, hS⟩ := gen28 (W := W.at []) hW
  generalize hlp : sqLoop addr (escItems addr) none 0 [] = lp
  refine s_forG X (evg_call (nmG hW) (fnK hW) FF hgen hcl (hS addr h8) nv) (.inl rfl) (.inl rfl)
    (fun i Γ' Δ' Mx' => ∃ op st r, Eq3 Γ' Δ' Mx' [("open_pos", opD op), ("start", .int (st : Nat)), ("addr", .str addr)] [("result", r.map .str)] [] ∧ lp = sqLoop addr ((escItems addr).drop i) op st r ∧ r.length ≤ i) (fun _ _ _ => False) ?_ itemD_is ?_ ?_
  · exact ⟨none, 0, [], ⟨rfl, rfl, rfl⟩, hlp.symm, Nat.le_refl _⟩
  · rintro i d1 d2 s₁ H' Γ' Δ' Mx' P' s' E' hd ⟨op, st, r, ⟨rfl, rfl, rfl⟩, hst, hr⟩ X back
    obtain ⟨pos, ch, hd', rfl, rfl⟩ := itemD_get hd
    have hi : i < (escItems addr).length := (List.getElem?_eq_some_iff.mp hd').1
    have hi2 : i ≤ 16000 := by
      have := escLoop_len addr.cps.toList 0 false 0
      have h3 : addr.cps.toList.length = addr.length := by show _ = addr.cps.size; simp
      unfold escItems at hi
      omega
    rw [drop_consP hd', sqLoop_cons] at hst
    replace X : At W (k + 3) A _ s₁ _ _ [("ch", .str ch), ("pos", .int pos), ("open_pos", opD op), ("start", .int st), ("addr", .str addr)] [("result", r.map .str)] [] P' s' := X
    refine s_if X (ts_cmp nv ev_str op_eq_str) fun P s X => ?_
    cases hq : (ch == "\"") with
    | false =>
      rw [hq, if_neg Bool.false_ne_true] at hst
      refine s_nil (s_nil ⟨_, _, _, P, ⟨op, st, r, ⟨rfl, rfl, rfl⟩, hst, Nat.le_succ_of_le hr⟩, X.forget (by trivial)⟩)
    | true =>
      rw [hq, if_pos rfl] at hst
      cases op with
      | none =>
        refine s_if X (ts_cmp (nv (d := opD none)) ev_none op_is_none_none) fun P s X => ?_
        refine s_set (d := opD (some pos)) X (nv (d := .int pos)) (.inl rfl) fun P s X => s_nil (s_nil (s_nil ?_))
        exact ⟨_, _, _, P, ⟨some pos, st, r, ⟨rfl, rfl, rfl⟩, hst, Nat.le_succ_of_le hr⟩, X.forget (by trivial)⟩
      | some o =>
        refine s_if X (ts_cmp (nv (d := opD (some o))) ev_none (op_is_int_none (i := o))) fun P s X => ?_
        have hrl : (r.map D.str).length = r.length := List.length_map ..
        refine s_ifJ X (ts_cmp nv (nv (d := opD (some o))) (op_ne_int (b := o))) (fun Γ' Δ' Mx' => Eq3 Γ' Δ' Mx' [("ch", .str ch), ("pos", .int pos), ("open_pos", opD (some o)), ("start", .int st), ("addr", .str addr)] [("result", (if (st : Int) != o then r ++ [Txt.slice addr (some st) (some o)] else r).map .str)] [])
          (fun P s X => ?_) (fun Γ' Δ' Mx' P s hJ X => ?_)
        · cases hne : ((st : Int) != o) with
          | false => exact s_nil (.inl ⟨rfl, _, _, _, P, ⟨rfl, rfl, rfl⟩, X⟩)
          | true =>
            refine s_append X (ev_slice_str nv (evo_some nv) (evo_some (i := (o : Int)) (nv (d := opD (some o)))) (by rw [PySem.sizeLine_eq]; omega)) (by rw [hrl, PySem.sizeLine_eq]; omega) fun P s X => ?_
            refine s_nil (.inl ⟨rfl, _, _, _, P, ⟨rfl, ?_, rfl⟩, X⟩)
            rw [if_pos rfl, List.map_append]; rfl
        obtain ⟨rfl, rfl, rfl⟩ := hJ
        refine s_set (d := .int (pos + 1 : Nat)) X (ev_bin nv ev_int op_add_int) (.inl rfl) fun P s X => ?_
        refine s_set (d := opD none) X ev_none (.inl rfl) fun P s X => s_nil (s_nil (s_nil ?_))
        refine ⟨_, _, _, P, ⟨none, pos + 1, _, ⟨rfl, rfl, rfl⟩, hst, ?_⟩, X.forget (by trivial)⟩
        split
        · simp; omega
        · omega
  · rintro Γ' Δ' Mx' P s (⟨op, st, r, ⟨rfl, rfl, rfl⟩, hst, hr⟩ | h) X
    · rw [List.length_map, List.drop_length, sqLoop] at hst
      have hrl : (r.map D.str).length = r.length := List.length_map ..
      have hr2 : r.length ≤ 16001 := by
        have := escLoop_len addr.cps.toList 0 false 0
        have h3 : addr.cps.toList.length = addr.length := by show _ = addr.cps.size; simp
        rw [List.length_map] at hr
        unfold escItems at hr
        omega
      have hsq : sqRes addr = if (st : Int) < addr.length then r ++ [Txt.slice addr (some st) none] else r := by
        unfold sqRes; rw [hlp, hst]
      refine s_ifJ X (ts_cmp nv (ev_callB (nmB hW) (evs_cons nv evs_nil) (cl_len_str (by omega))) op_lt_int) (fun Γ' Δ' Mx' => Eq3 Γ' Δ' Mx' [("open_pos", opD op), ("start", .int st), ("addr", .str addr)] [("result", (sqRes addr).map .str)] [])
        (fun P s X => ?_) (fun Γ' Δ' Mx' P s hJ X => ?_)
      · cases hlt : decide ((st : Int) < addr.length) with
        | false =>
          have : ¬ (st : Int) < addr.length := by simpa using hlt
          rw [if_neg this] at hsq
          exact s_nil (.inl ⟨rfl, _, _, _, P, ⟨rfl, by rw [hsq], rfl⟩, X⟩)
        | true =>
          have : (st : Int) < addr.length := by simpa using hlt
          rw [if_pos this] at hsq
          refine s_append X (ev_slice_str nv (evo_some nv) evo_none (by rw [PySem.sizeLine_eq]; omega)) (by rw [hrl, PySem.sizeLine_eq]; omega) fun P s X => ?_
          refine s_nil (.inl ⟨rfl, _, _, _, P, ⟨rfl, ?_, rfl⟩, X⟩)
          rw [hsq, List.map_append]; rfl
      obtain ⟨rfl, rfl, rfl⟩ := hJ
      obtain ⟨P, X⟩ := X.freeze
      refine s_ret X (ev_smeth (name := Str.ofString "join") (id := "str.join") (x := "") ev_str (evs_cons (nv (d := .list ((sqRes addr).map .str))) evs_nil) F.slot_str_join F.type_str_join (cl_join hj) (hbase := base_const)) fun v P s X i => ⟨P, _, _, _, X, ?_⟩
      subst hres; exact i
    · exact h.elim
theorem cl42 {k : Nat} {addr : Str} (hok : ckOk addr = true) : Cl W (k + 5) (.ref 122) [.str addr] (.bool (ckpar addr)) := by
  refine cl_fn (names := ["addr"]) (fun P b => ⟨⟨_, b.k _ _ (by rw [hW]; rfl), rfl⟩, by rw [hW]; rfl, rfl, fun vs h => ?_, rfl, ?_, by decide, by decide, rfl, rfl, rfl, rfl, rfl⟩) rfl ?_
  · obtain ⟨v, rfl⟩ := len1 h; rfl
  · decide
  intro A L s₀ P₀ H P s X
  replace X : At W (k + 4) A _ s₀ P₀ H [("addr", .str addr)] [] [] P s := X
  simp only [ckOk, Bool.and_eq_true] at hok
  generalize hres : ckpar addr = res
  unfold ckpar at hres
  refine s_set X (ev_callF (nmG hW) (fnK hW) (evs_cons nv evs_nil) (cl35 (W := W.at []) hW hok.1)) (.inl rfl) fun P s X => ?_
  have h8 := hok.2
  generalize strq addr = x at *
  refine s_set X ev_int (.inl rfl) fun P s X => ?_
  replace X := X.forget (Γ' := [("opens", .int 0), ("addr", .str x)]) (by trivial)
  obtain ⟨fd, body, FF, hgen, hcl, hS⟩ := gen28 (W := W.at []) hW
  generalize hlp : ckLoop (escItems x) 0 = lp at *
  refine s_forG X (evg_call (nmG hW) (fnK hW) FF hgen hcl (hS x h8) nv) (.inl rfl) (.inl rfl)
    (fun i Γ' Δ' Mx' => ∃ o : Int, Eq3 Γ' Δ' Mx' [("opens", .int o), ("addr", .str x)] [] [] ∧ lp = ckLoop ((escItems x).drop i) o) (fun _ _ _ => False) ?_ itemD_is ?_ ?_
  · exact ⟨0, ⟨rfl, rfl, rfl⟩, hlp.symm⟩
  · rintro i d1 d2 s₁ H' Γ' Δ' Mx' P' s' E' hd ⟨o, ⟨rfl, rfl, rfl⟩, hst⟩ X back
    obtain ⟨pos, ch, hd', rfl, rfl⟩ := itemD_get hd
    rw [drop_consP hd', ckLoop] at hst
    replace X : At W (k + 4) A _ s₁ _ _ [("ch", .str ch), ("pos", .int pos), ("opens", .int o), ("addr", .str x)] [] [] P' s' := X
    refine s_if X (ts_cmp nv ev_str op_eq_str) fun P s X => ?_
    cases hq : (ch == "(") with
    | true =>
      rw [hq, if_pos rfl] at hst
      refine s_aug X (by trivial) ev_int op_iadd_int (.inl rfl) fun P s X => s_nil (s_nil ?_)
      exact ⟨_, _, _, P, ⟨o + 1, ⟨rfl, rfl, rfl⟩, hst⟩, X.forget (by trivial)⟩
    | false =>
      rw [hq, if_neg Bool.false_ne_true] at hst
      refine s_if X (ts_cmp nv ev_str op_eq_str) fun P s X => ?_
      cases hq : (ch == ")") with
      | false =>
        rw [hq, if_neg Bool.false_ne_true] at hst
        exact s_nil (s_nil (s_nil ⟨_, _, _, P, ⟨o, ⟨rfl, rfl, rfl⟩, hst⟩, X.forget (by trivial)⟩))
      | true =>
        rw [hq, if_pos rfl] at hst
        refine s_aug X (by trivial) ev_int op_isub_int (.inl rfl) fun P s X => ?_
        refine s_if X (ts_cmp nv ev_int op_lt_int) fun P s X => ?_
        cases hlt : decide (o - 1 < 0) with
        | true =>
          have : o - 1 < 0 := by simpa using hlt
          rw [if_pos this] at hst
          refine s_ret X ev_bool fun v P s X i => ⟨P, _, _, _, back _ _ _ _ _ X, ?_⟩
          rw [hst] at hres
          subst hres; exact i
        | false =>
          have : ¬ o - 1 < 0 := by simpa using hlt
          rw [if_neg this] at hst
          exact s_nil (s_nil (s_nil (s_nil ⟨_, _, _, P, ⟨o - 1, ⟨rfl, rfl, rfl⟩, hst⟩, X.forget (by trivial)⟩)))
  · rintro Γ' Δ' Mx' P s (⟨o, ⟨rfl, rfl, rfl⟩, hst⟩ | h) X
    · rw [List.length_map, List.drop_length, ckLoop] at hst
      refine s_ret X (ev_cmp nv ev_int op_eq_int) fun v P s X i => ⟨P, _, _, _, X, ?_⟩
      rw [hst] at hres
      subst hres; exact i
    · exact h.elim
end
section
/-! the lexer -/
noncomputable def lnc (c : Nat) (ln : Int) : Int := if (⟨#[c]⟩ : Str) == "\n" then ln + 1 else ln
noncomputable def wsc (c : Nat) : Bool := inS ⟨#[c]⟩ "\n\t\r "
noncomputable def lexQ : List Nat → Str → Int → Nat → Str × List Nat × Int × Nat
  | [], tok, ln, n => (tok, [], ln, n + 1)
  | c :: r, tok, ln, n =>
    if (⟨#[c]⟩ : Str) == "\"" then (tok, r, lnc c ln, n + 1)
    else if (⟨#[c]⟩ : Str) == "\\" then
      match r with
      | [] => (tok ++ ("" : Str), [], lnc c ln, n + 3)
      | c2 :: r2 => lexQ r2 (tok ++ (⟨#[c2]⟩ : Str)) (lnc c2 (lnc c ln)) (n + 2)
    else lexQ r (tok ++ (⟨#[c]⟩ : Str)) (lnc c ln) (n + 1)
noncomputable def lexB : List Nat → Str → Int → Nat → Str × List Nat × Int × Nat
  | [], tok, ln, n => (tok, [], ln, n + 1)
  | c :: r, tok, ln, n =>
    if wsc c then (tok, r, lnc c ln, n + 1)
    else if (⟨#[c]⟩ : Str) == "\\" then
      match r with
      | [] => (tok ++ ("" : Str), [], lnc c ln, n + 3)
      | c2 :: r2 => lexB r2 (tok ++ (⟨#[c2]⟩ : Str)) (lnc c2 (lnc c ln)) (n + 2)
    else lexB r (tok ++ (⟨#[c]⟩ : Str)) (lnc c ln) (n + 1)
noncomputable def lexT : List Nat → Int → Nat → Str × List Nat × Int × Nat
  | [], ln, n => ("", [], ln, n + 1)
  | c :: r, ln, n =>
    if wsc c then lexT r (lnc c ln) (n + 1)
    else if (⟨#[c]⟩ : Str) == "\"" then lexQ r "" (lnc c ln) (n + 1)
    else if (⟨#[c]⟩ : Str) == "\\" then
      match r with
      | [] => (("" : Str) ++ ("" : Str), [], lnc c ln, n + 3)
      | c2 :: r2 => lexB r2 (("" : Str) ++ (⟨#[c2]⟩ : Str)) (lnc c2 (lnc c ln)) (n + 2)
    else lexB r (("" : Str) ++ (⟨#[c]⟩ : Str)) (lnc c ln) (n + 1)
noncomputable def lexF (st : Addr) (l : List (Addr × Obj)) (line : Int) (pb : Addr) : List (Str × D) := [("lineno", .int line), ("instream", .pack st l), ("whitespace", .str "\n\t\r "), ("pushback", .raw pb)]
noncomputable abbrev lexM (dx pb al st : Addr) (l : List (Addr × Obj)) (line : Int) (pbs : List D) (n : Nat) : List (Addr × MO) := [(dx, .dict (lexF st l line pb)), (pb, .list pbs), (al, .list [.int n])]
noncomputable def lnS (ch : Str) (ln : Int) : Int := if ch == "\n" then ln + 1 else ln
variable {W : Wd} {Pm : Params} (hW : W.K = hd02.heap_1 Pm)
include hW
theorem kl77 {k n : Nat} {x dx pb al st : Addr} {l : List (Addr × Obj)} {text : Str} {line : Int} (hS : StreamOk (W.at []) st al text l) : KlM W (k + 2) (.ref 143) [.inst x 160 dx] (.str (sl1 text n)) [(dx, .dict (lexF st l line pb)), (al, .list [.int n])] [(dx, .dict (lexF st l (lnS (sl1 text n) line) pb)), (al, .list [.int (n + 1 : Nat)])] := by
  refine klm_fn (names := ["self"]) (fun P b => ⟨⟨_, b.k _ _ (by rw [hW]; rfl), rfl⟩, by rw [hW]; rfl, rfl, fun vs h => ?_, rfl, ?_, by decide, by decide, rfl, rfl, rfl, rfl, rfl⟩) rfl rfl ?_
  · obtain ⟨v, rfl⟩ := len1 h; rfl
  · decide
  intro A L s₀ P₀ P s _ X
  replace X : At W (k + 1) A _ s₀ P₀ _ [("self", .inst x 160 dx)] [] ([(dx, .dict (lexF st l line pb)), (al, .list [.int n])] ++ []) P s := X
  refine s_setM X (evm_stream nv (getK hW) rfl hS ev_int) rfl (.inl rfl) fun P s X => ?_
  replace X : At W (k + 1) A _ s₀ P₀ _ [("ch", .str (sl1 text n)), ("self", .inst x 160 dx)] [] [(dx, .dict (lexF st l line pb)), (al, .list [.int (n + 1 : Nat)])] P s := X
  refine s_if X (ts_cmp nv ev_str op_eq_str) fun P s X => ?_
  unfold lnS
  cases hq : (sl1 text n == "\n") with
  | false =>
    refine s_nil (s_ret X nv fun v P s X i => ⟨P, _, _, [], X, i⟩)
  | true =>
    refine s_augattr X nv (getK hW) (setK hW) (by rfl) ev_int op_iadd_int (fun P s X => ?_)
    refine s_nil (s_ret X nv fun v P s X i => ⟨P, _, _, [], X, i⟩)
theorem kl70 {k : Nat} {x dx st : Addr} {l : List (Addr × Obj)} : KlX W (k + 1) (.ref 136) [.inst x 160 dx, .pack st l] [(dx, .dict [])] (fun d Mx' N => d = .none ∧ ∃ fs, Mx' = [(dx, .dict fs)] ∧ ∃ pb, fs = lexF st l 1 pb ∧ N = [(pb, .list [])]) := by
  refine klx_fn (names := ["self", "fp"]) (fun P b => ⟨⟨_, b.k _ _ (by rw [hW]; rfl), rfl⟩, by rw [hW]; rfl, rfl, fun vs h => ?_, rfl, ?_, by decide, by decide, rfl, rfl, rfl, rfl, rfl⟩) rfl ?_
  · obtain ⟨v, u, rfl⟩ := len2 h; rfl
  · decide
  intro A L s₀ P₀ P s _ X
  replace X : At W k A _ s₀ P₀ _ [("self", .inst x 160 dx), ("fp", .pack st l)] [] [(dx, .dict [])] P s := X
  refine s_setattr X ev_int nv (setK hW) fun P s X => ?_
  refine s_setattr X nv nv (setK hW) fun P s X => ?_
  refine s_setattr X ev_str nv (setK hW) fun P s X => ?_
  refine s_setattrN X (evn_list evs_nil) nv (setK hW) fun pb P s hpb X => s_nil ?_
  exact ⟨P, _, _, [(dx, .dict (lexF st l 1 pb))], [(pb, .list [])], [], .none, X, ⟨rfl, _, rfl, pb, rfl, rfl⟩, rfl, fun p hp => by rw [List.mem_singleton.mp hp]; exact hpb, .none⟩
theorem cl94 {k : Nat} {st : Addr} {l : List (Addr × Obj)} : ClX W (k + 2) (.ref 160) [.pack st l] [] (fun d Mx' N => ∃ x dx fs N0, d = .inst x 160 dx ∧ Mx' = [] ∧ N = (dx, .dict fs) :: N0 ∧ ∃ pb, fs = lexF st l 1 pb ∧ N0 = [(pb, .list [])]) :=
  clx_make (by rw [hW]; rfl) (by rw [hW]; rfl) (by rw [hW]; rfl) fun x dx => kl70 hW
theorem kl91 {k : Nat} {x dx pb al st : Addr} {l : List (Addr × Obj)} {line : Int} {pbs : List D} {d : D} {n : Nat} (hsz : pbs.length ≤ 16384) : KlM W (k + 1) (.ref 157) [.inst x 160 dx, d] .none (lexM dx pb al st l line pbs n) (lexM dx pb al st l line (pbs ++ [d]) n) := by
  refine klm_fn (names := ["self", "token"]) (fun P b => ⟨⟨_, b.k _ _ (by rw [hW]; rfl), rfl⟩, by rw [hW]; rfl, rfl, fun vs h => ?_, rfl, ?_, by decide, by decide, rfl, rfl, rfl, rfl, rfl⟩) rfl rfl ?_
  · obtain ⟨v, u, rfl⟩ := len2 h; rfl
  · decide
  intro A L s₀ P₀ P s _ X
  replace X : At W k A _ s₀ P₀ _ [("self", .inst x 160 dx), ("token", d)] [] (lexM dx pb al st l line pbs n) P s := X
  replace X := X.permM (Mx' := [(pb, .list pbs), (dx, .dict (lexF st l line pb)), (al, .list [.int n])]) (List.Perm.swap ..)
  refine s_appendR X (ev_attrI nv (by trivial) (getK hW) (by rfl)) nv (Nat.le_trans hsz (by decide)) fun P s X => s_nil ?_
  exact ⟨P, _, _, [], X.permM (List.Perm.swap ..), .none⟩
theorem kl84p {k : Nat} {x dx pb al st : Addr} {l : List (Addr × Obj)} {line : Int} {pbs : List D} {d : D} {n : Nat} (hsz : pbs.length ≤ 16384) : KlM W (k + 1) (.ref 150) [.inst x 160 dx] d (lexM dx pb al st l line (d :: pbs) n) (lexM dx pb al st l line pbs n) := by
  refine klm_fn (names := ["self"]) (fun P b => ⟨⟨_, b.k _ _ (by rw [hW]; rfl), rfl⟩, by rw [hW]; rfl, rfl, fun vs h => ?_, rfl, ?_, by decide, by decide, rfl, rfl, rfl, rfl, rfl⟩) rfl rfl ?_
  · obtain ⟨v, rfl⟩ := len1 h; rfl
  · decide
  intro A L s₀ P₀ P s _ X
  replace X : At W k A _ s₀ P₀ _ [("self", .inst x 160 dx)] [] (lexM dx pb al st l line (d :: pbs) n) P s := X
  refine s_if X (ts_rawlist (ev_attrI nv (by trivial) (getK hW) (by rfl)) (by trivial) (by simp; omega)) fun P s X => ?_
  replace X := X.permM (Mx' := [(pb, .list (d :: pbs)), (dx, .dict (lexF st l line pb)), (al, .list [.int n])]) (List.Perm.swap ..)
  refine s_retPop (j := 0) (d := d) X (ev_attrI nv (by trivial) (getK hW) (by rfl)) ev_int (by rw [seqIndex_nn (by decide) (by simp)]; rfl) rfl (by rw [List.length_cons, PySem.sizeLine_eq]; omega) (next := fun v P s X i => ?_)
  exact ⟨P, _, _, [], X.permM (List.Perm.swap ..), i⟩
end
section
theorem GrM.upd {X : List Addr} {P P' : Vw} {s s' : Shared} {a : Addr} {h' : Heap} {o : Obj} (g : GrM X P s P' s') (ha : a ∈ X) (hp : P' a = none) (hk : Heap.ExtBut a s'.heap h') (he : h'.get? a = some o) : GrM X P s P' { s' with heap := h' } :=
  ⟨g.le, fun b o e => hk b o (fun z => by rw [z, hp] at e; cases e) (g.inn _ _ e), fun b o hb e => hk b o (fun z => hb (z ▸ ha)) (g.old b o hb e), fun b o e => by
    obtain ⟨o', q⟩ := g.ext b o e
    by_cases hb : b = a
    · rw [hb]; exact ⟨_, he⟩
    · exact ⟨o', hk b o' hb q⟩, g.new, g.gens, g.drawn, g.os⟩
variable {W : Wd} {Pm : Params} (hW : W.K = hd02.heap_1 Pm)
include hW
theorem nx_go {k n : Nat} {A : Around} {P : Vw} {ci m x dx pb al st : Addr} {t : Tok} {l : List (Addr × Obj)} {text : Str} {line : Int} {r : Option D} {oc : Obj} (hS : StreamOk (W.at []) st al text l) (hm : P m = some (methodObj (.ref 143) (.ref x))) (hx : P x = some (instObj 160 dx))
    (h1 : sl1 text n = "" → r = none ∧ oc = ciObj .none .none (.bool true)) (h2 : sl1 text n ≠ "" → r = some (.str (sl1 text n)) ∧ oc = ciObj (.ref m) (.str "" t) (.bool false)) :
    NxM (W.at []) (k + 3) A P (.ref ci) r [(ci, .obj (ciObj (.ref m) (.str "" t) (.bool false))), (dx, .dict (lexF st l line pb)), (al, .list [.int n])] [(ci, .obj oc), (dx, .dict (lexF st l (lnS (sl1 text n) line) pb)), (al, .list [.int (n + 1 : Nat)])] := by
  intro s E Q S st' dv hQ
  obtain ⟨o1, q1, i1⟩ := dv.has _ List.mem_cons_self
  obtain rfl := i1.objI.symm
  have hK : (W.at []).K = hd02.heap_1 Pm := hW
  have hf : s.heap.get? 143 = _ := Bs.frag st'.b st'.p 143 _ (by rw [hK]; rfl)
  refine pyNext_ci st'.a.1 q1 (st'.p _ _ hm) hf rfl ?_
  have dv2 := dv.perm (N := [(dx, .dict (lexF st l line pb)), (al, .list [.int n])] ++ [(ci, .obj (ciObj (.ref m) (.str "" t) (.bool false)))]) List.perm_append_comm
  have hci : P ci = none := dv.off _ List.mem_cons_self
  refine (KlM.frame (kl77 (W := W.at []) (k := k) hK hS) rfl [(ci, .obj (ciObj (.ref m) (.str "" t) (.bool false)))]) A.in1 S P s _ [.ref x] { st' with a := aok_in1 st'.a } (.cons (.inst hx) .nil) dv2 fun v P' s' g tk dv' i => ?_
  have dv3 : Dv P' s' [(ci, .obj (ciObj (.ref m) (.str "" t) (.bool false))), (dx, .dict (lexF st l (lnS (sl1 text n) line) pb)), (al, .list [.int (n + 1 : Nat)])] := dv'.perm (N := [(ci, .obj (ciObj (.ref m) (.str "" t) (.bool false)))] ++ [(dx, .dict (lexF st l (lnS (sl1 text n) line) pb)), (al, .list [.int (n + 1 : Nat)])]) List.perm_append_comm
  obtain ⟨o2, q2, i2⟩ := dv3.has _ List.mem_cons_self
  obtain rfl := i2.objI.symm
  have hci' : P' ci = none := dv3.off _ List.mem_cons_self
  have g' : GrM (ads [(ci, .obj (ciObj (.ref m) (.str "" t) (.bool false))), (dx, .dict (lexF st l line pb)), (al, .list [.int n])]) P s P' s' := g.wide fun b hb => by simp [ads] at hb ⊢; rcases hb with h | h | h <;> simp [h]
  obtain ⟨t', rfl⟩ := i.strI
  refine ⟨_, t', rfl, q2, g.inn _ _ (g.le _ _ hm), g.inn _ _ (g.le _ _ (st'.b.k 143 _ (by rw [hK]; rfl))), fun e h' hk he => ?_, fun e => ?_⟩
  · have e' : sl1 text n = "" := (eq_of_beq e).symm
    obtain ⟨rfl, rfl⟩ := h1 e'
    refine hQ none P' _ (g'.upd (by simp [ads]) hci' hk he) tk ⟨fun p hp => ?_, dv3.nd, fun p hp => ?_⟩ trivial
    rcases List.mem_cons.mp hp with rfl | hp
    · exact ⟨_, he, .obj _⟩
    · obtain ⟨o, q, i⟩ := dv3.has p (List.mem_cons_of_mem _ hp)
      refine ⟨o, hk _ _ (fun z => ?_) q, i⟩
      have nd : ci ∉ ads [(dx, MO.dict (lexF st l (lnS (sl1 text n) line) pb)), (al, .list [.int (n + 1 : Nat)])] := (List.nodup_cons.mp dv3.nd).1
      have hp2 : p.1 ∈ ads [(dx, MO.dict (lexF st l (lnS (sl1 text n) line) pb)), (al, .list [.int (n + 1 : Nat)])] := List.mem_map_of_mem hp
      rw [show p.1 = ci from z] at hp2
      exact nd hp2
    · rcases List.mem_cons.mp hp with rfl | hp
      · exact hci'
      · exact dv3.off p (List.mem_cons_of_mem _ hp)
  · have e' : sl1 text n ≠ "" := fun z => by rw [z] at e; cases e
    obtain ⟨rfl, rfl⟩ := h2 e'
    exact hQ _ P' s' g' tk dv3 (.str _ _)
theorem nx_item {k n c : Nat} {rs : List Nat} {A : Around} {P : Vw} {ci m x dx pb al st : Addr} {t : Tok} {l : List (Addr × Obj)} {text : Str} {line : Int} (hS : StreamOk (W.at []) st al text l) (hm : P m = some (methodObj (.ref 143) (.ref x))) (hx : P x = some (instObj 160 dx)) (h : text.cps.toList.drop n = c :: rs) :
    NxM (W.at []) (k + 3) A P (.ref ci) (some (.str ⟨#[c]⟩)) [(ci, .obj (ciObj (.ref m) (.str "" t) (.bool false))), (dx, .dict (lexF st l line pb)), (al, .list [.int n])] [(ci, .obj (ciObj (.ref m) (.str "" t) (.bool false))), (dx, .dict (lexF st l (lnc c line) pb)), (al, .list [.int (n + 1 : Nat)])] := by
  have e := sl1_cons h
  have := nx_go (k := k) (A := A) (ci := ci) (t := t) (line := line) (pb := pb) (n := n) (r := some (.str ⟨#[c]⟩)) (oc := ciObj (.ref m) (.str "" t) (.bool false)) hW hS hm hx (fun z => by rw [e] at z; cases z) (fun _ => by rw [e]; exact ⟨rfl, rfl⟩)
  rw [e] at this
  exact this
theorem nx_end {k n : Nat} {A : Around} {P : Vw} {ci m x dx pb al st : Addr} {t : Tok} {l : List (Addr × Obj)} {text : Str} {line : Int} (hS : StreamOk (W.at []) st al text l) (hm : P m = some (methodObj (.ref 143) (.ref x))) (hx : P x = some (instObj 160 dx)) (h : text.cps.toList.drop n = []) :
    NxM (W.at []) (k + 3) A P (.ref ci) none [(ci, .obj (ciObj (.ref m) (.str "" t) (.bool false))), (dx, .dict (lexF st l line pb)), (al, .list [.int n])] [(ci, .obj (ciObj .none .none (.bool true))), (dx, .dict (lexF st l line pb)), (al, .list [.int (n + 1 : Nat)])] := by
  have e := sl1_nil h
  have := nx_go (k := k) (A := A) (ci := ci) (t := t) (line := line) (pb := pb) (n := n) (r := none) (oc := ciObj .none .none (.bool true)) hW hS hm hx (fun _ => ⟨rfl, rfl⟩) (fun z => (z e).elim)
  rw [e] at this
  exact this
omit hW in
theorem nx_ended {k : Nat} {A : Around} {P : Vw} {ci : Addr} : NxM (W.at []) k A P (.ref ci) none [(ci, .obj (ciObj .none .none (.bool true)))] [(ci, .obj (ciObj .none .none (.bool true)))] := by
  intro s E Q S st' dv hQ
  obtain ⟨o1, q1, i1⟩ := dv.has _ List.mem_cons_self
  obtain rfl := i1.objI.symm
  refine pyNext_ciE st'.a.1 q1 fun h' hk => ?_
  have g : Gr P s P { s with heap := h' } := Gr.keep (tk := s.toks) st'.p hk
  exact hQ none P _ (g.m _) st'.tk (dv.gr g) trivial
end
section
set_option maxHeartbeats 4000000
theorem gt_perm {α : Type} {a b c d : α} : ([b, d, c] ++ [a]).Perm [a, b, c, d] := List.perm_append_comm.trans (List.Perm.cons _ (List.Perm.cons _ (List.Perm.swap ..)))
theorem rd_perm {α : Type} {a b c d : α} : ([b, c] ++ [a, d]).Perm [a, b, c, d] := (List.perm_append_comm (l₁ := [b, c]) (l₂ := [a, d])).trans (List.Perm.cons _ ((List.Perm.swap ..).trans (List.Perm.cons _ (List.Perm.swap ..))))
theorem rd_perm' {α : Type} {a b c d : α} : [a, b, c, d].Perm ([b, c] ++ [a, d]) := rd_perm.symm
theorem drop_tail {l : List Nat} {n c : Nat} {r : List Nat} (h : l.drop n = c :: r) : l.drop (n + 1) = r := by
  rw [← List.drop_drop, h]; rfl
theorem drop_nil1 {l : List Nat} {n : Nat} (h : l.drop n = []) : l.drop (n + 1) = [] := by
  rw [← List.drop_drop, h]; rfl
noncomputable abbrev ciM (ended : Bool) (m : Addr) (t : Tok) : MO := .obj (if ended then ciObj .none .none (.bool true) else ciObj (.ref m) (.str "" t) (.bool false))
noncomputable abbrev gtM (ended : Bool) (ci m dx pb al st : Addr) (t : Tok) (l : List (Addr × Obj)) (ln : Int) (n : Nat) : List (Addr × MO) := [(ci, ciM ended m t), (dx, .dict (lexF st l ln pb)), (al, .list [.int n]), (pb, .list [])]
noncomputable abbrev gtG (tk : Str) (ci m x dx : Addr) : List (Str × D) := [("token", .str tk), ("fiter", .pack ci [(m, methodObj (.ref 143) (.ref x))]), ("self", .inst x 160 dx)]
theorem len_add (a b : Str) : (a ++ b).length = a.length + b.length := by show (a.cps ++ b.cps).size = _; rw [Array.size_append]; rfl
noncomputable def nxc (c : Nat) (r : List Nat) (ln : Int) (n : Nat) : Str × List Nat × Int × Nat := if (⟨#[c]⟩ : Str) == "\\" then (match r with | [] => ("", [], ln, n + 1) | c2 :: r2 => ((⟨#[c2]⟩ : Str), r2, lnc c2 ln, n + 1)) else ((⟨#[c]⟩ : Str), r, ln, n)
theorem lexQ_cons (c : Nat) (r : List Nat) (tok : Str) (ln : Int) (n : Nat) : lexQ (c :: r) tok ln n = if (⟨#[c]⟩ : Str) == "\"" then (tok, r, lnc c ln, n + 1) else lexQ (nxc c r (lnc c ln) (n + 1)).2.1 (tok ++ (nxc c r (lnc c ln) (n + 1)).1) (nxc c r (lnc c ln) (n + 1)).2.2.1 (nxc c r (lnc c ln) (n + 1)).2.2.2 := by
  unfold nxc
  cases h : ((⟨#[c]⟩ : Str) == "\\") <;> cases r <;> simp only [lexQ, h, if_true, Bool.false_eq_true, if_false]
theorem lexB_cons (c : Nat) (r : List Nat) (tok : Str) (ln : Int) (n : Nat) : lexB (c :: r) tok ln n = if wsc c then (tok, r, lnc c ln, n + 1) else lexB (nxc c r (lnc c ln) (n + 1)).2.1 (tok ++ (nxc c r (lnc c ln) (n + 1)).1) (nxc c r (lnc c ln) (n + 1)).2.2.1 (nxc c r (lnc c ln) (n + 1)).2.2.2 := by
  unfold nxc
  cases h : ((⟨#[c]⟩ : Str) == "\\") <;> cases r <;> simp only [lexB, h, if_true, Bool.false_eq_true, if_false]
theorem lexT_cons (c : Nat) (r : List Nat) (ln : Int) (n : Nat) : lexT (c :: r) ln n = if wsc c then lexT r (lnc c ln) (n + 1) else if (⟨#[c]⟩ : Str) == "\"" then lexQ r "" (lnc c ln) (n + 1) else lexB (nxc c r (lnc c ln) (n + 1)).2.1 (("" : Str) ++ (nxc c r (lnc c ln) (n + 1)).1) (nxc c r (lnc c ln) (n + 1)).2.2.1 (nxc c r (lnc c ln) (n + 1)).2.2.2 := by
  unfold nxc
  cases h : ((⟨#[c]⟩ : Str) == "\\") <;> cases r <;> simp only [lexT, lexB, h, if_true, Bool.false_eq_true, if_false]
theorem nxc_len (c : Nat) (r : List Nat) (ln : Int) (n : Nat) : (nxc c r ln n).1.length ≤ 1 ∧ (nxc c r ln n).2.1.length ≤ r.length := by
  unfold nxc
  split
  · cases r with
    | nil => exact ⟨Nat.zero_le _, Nat.le_refl _⟩
    | cons a r => exact ⟨Nat.le_refl 1, Nat.le_succ _⟩
  · exact ⟨Nat.le_refl 1, Nat.le_refl _⟩
noncomputable def I84 (text : Str) (R : Str × List Nat × Int × Nat) (a : Bool × Str × List Nat × Int × Nat) : Prop := (a.1 = true → a.2 = R) ∧ (a.1 = false → a.2.1 = "" ∧ text.cps.toList.drop a.2.2.2.2 = a.2.2.1 ∧ a.2.2.1.length ≤ 30000 ∧ lexT a.2.2.1 a.2.2.2.1 a.2.2.2.2 = R)
noncomputable def I84L (f : List Nat → Str → Int → Nat → Str × List Nat × Int × Nat) (text : Str) (R : Str × List Nat × Int × Nat) (a : Str × List Nat × Int × Nat) : Prop := text.cps.toList.drop a.2.2.2 = a.2.1 ∧ a.1.length + a.2.1.length ≤ 30000 ∧ f a.2.1 a.1 a.2.2.1 a.2.2.2 = R
theorem I84L.step {f : List Nat → Str → Int → Nat → Str × List Nat × Int × Nat} {text : Str} {R : Str × List Nat × Int × Nat} {tk : Str} {c : Nat} {r : List Nat} {ln : Int} {n : Nat} (hl : tk.length + (c :: r).length ≤ 30000) (hq : f (nxc c r (lnc c ln) (n + 1)).2.1 (tk ++ (nxc c r (lnc c ln) (n + 1)).1) (nxc c r (lnc c ln) (n + 1)).2.2.1 (nxc c r (lnc c ln) (n + 1)).2.2.2 = R)
    (hd : text.cps.toList.drop (nxc c r (lnc c ln) (n + 1)).2.2.2 = (nxc c r (lnc c ln) (n + 1)).2.1) : I84L f text R (tk ++ (nxc c r (lnc c ln) (n + 1)).1, (nxc c r (lnc c ln) (n + 1)).2.1, (nxc c r (lnc c ln) (n + 1)).2.2.1, (nxc c r (lnc c ln) (n + 1)).2.2.2) := by
  have h := nxc_len c r (lnc c ln) (n + 1)
  refine ⟨hd, ?_, hq⟩
  show (tk ++ (nxc c r (lnc c ln) (n + 1)).1).length + (nxc c r (lnc c ln) (n + 1)).2.1.length ≤ 30000
  rw [len_add]
  rw [List.length_cons] at hl
  omega
theorem lnS_one (c : Nat) (ln : Int) : lnS ⟨#[c]⟩ ln = lnc c ln := rfl
theorem sz84 {tk : Str} {c : Nat} {r : List Nat} {ln : Int} {n : Nat} (hl : tk.length + (c :: r).length ≤ 30000) : tk.length + (nxc c r ln n).1.length ≤ sizeLine := by
  rw [PySem.sizeLine_eq]
  exact Nat.le_trans (Nat.add_le_add_left (Nat.le_trans (nxc_len c r ln n).1 (Nat.succ_le_succ (Nat.zero_le _))) _) (Nat.le_trans hl (by decide))
variable {W : Wd} {Pm : Params} (hW : W.K = hd02.heap_1 Pm)
include hW
/-- an escape: the mark is read over, the next sign takes its place -/
theorem esc84 {k n c : Nat} {A : Around} {env : Env} {s₀ : Shared} {P₀ H : Vw} {ci m x dx pb al st : Addr} {t : Tok} {tk : Str} {l : List (Addr × Obj)} {text : Str} {ln : Int} {r : List Nat} {P : Vw} {s : Shared} {Q : Flow → Shared → Prop} {E : Value → Shared → Prop} {rest : List Stmt} {p1 p2 p3 p4 p5 p6 p7 p8 p9 : Pos}
    (hS : StreamOk (W.at []) st al text l) (hd : text.cps.toList.drop (n + 1) = r)
    (X : At W (k + 3) A env s₀ P₀ H (("ch", .str ⟨#[c]⟩) :: gtG tk ci m x dx) [] (gtM false ci m dx pb al st t l ln (n + 1)) P s)
    (next : text.cps.toList.drop (nxc c r ln (n + 1)).2.2.2 = (nxc c r ln (n + 1)).2.1 → ∀ P s, At W (k + 3) A env s₀ P₀ H (("ch", .str (nxc c r ln (n + 1)).1) :: gtG tk ci m x dx) [] (gtM false ci m dx pb al st t l (nxc c r ln (n + 1)).2.2.1 (nxc c r ln (n + 1)).2.2.2) P s → wpAny W.M A (execs rest env) Q E s)
    (hb : Bindable env "ch") {pl : Sem Bool} (he : callForm (.Name "self" p5) "_read_char" p6 p7 [] pl env) :
    wpAny W.M A (execs (.If (.Compare (.Name "ch" p1) [.Eq] [.Constant (.str "\\") 0 p2] p3) [.Assign [.Name "ch" p4] (.Call (.Attribute (.Name "self" p5) "_read_char" p6) [] [] p7) p8] [] p9 :: rest) env) Q E s := by
  have hK : (W.at []).K = hd02.heap_1 Pm := hW
  have mK77 : MethK (W.at []).K 160 "_read_char" 143 := methK hK
  have fK77 : FnK (W.at []).K 143 := fnK hK
  refine s_if X (ts_cmp nv ev_str op_eq_str) fun P s X => ?_
  unfold nxc at next
  cases h2 : ((⟨#[c]⟩ : Str) == "\\") with
  | false =>
    rw [h2, if_neg Bool.false_ne_true] at next
    exact s_nil (next hd P s X)
  | true =>
    rw [h2, if_pos rfl] at next
    refine s_setM (Mx := [(dx, .dict (lexF st l ln pb)), (al, .list [.int (n + 1 : Nat)])]) (rest := [(ci, ciM false m t), (pb, .list [])]) (X.permM rd_perm) (evm_meth nv mK77 fK77 List.mem_cons_self rfl evs_nil (kl77 (k := k + 1) hK hS).cl (he := he)) rfl hb fun P s X => s_nil ?_
    replace X : At W (k + 3) A _ s₀ P₀ _ (("ch", .str (sl1 text (n + 1))) :: gtG tk ci m x dx) [] (gtM false ci m dx pb al st t l (lnS (sl1 text (n + 1)) ln) (n + 1 + 1)) P s := X.permM rd_perm'
    cases r with
    | nil =>
      rw [sl1_nil hd] at X
      exact next (drop_nil1 hd) P s X
    | cons c2 r2 =>
      rw [sl1_cons hd, lnS_one] at X
      exact next (drop_tail hd) P s X
theorem kl84 {k n : Nat} {x dx pb al st : Addr} {l : List (Addr × Obj)} {text : Str} {line : Int} (hS : StreamOk (W.at []) st al text l) (hlen : text.length ≤ 30000) :
    KlM W (k + 4) (.ref 150) [.inst x 160 dx] (.str (lexT (text.cps.toList.drop n) line n).1) (lexM dx pb al st l line [] n) (lexM dx pb al st l (lexT (text.cps.toList.drop n) line n).2.2.1 [] (lexT (text.cps.toList.drop n) line n).2.2.2) := by
  refine klm_fn (names := ["self"]) (fun P b => ⟨⟨_, b.k _ _ (by rw [hW]; rfl), rfl⟩, by rw [hW]; rfl, rfl, fun vs h => ?_, rfl, ?_, by decide, by decide, rfl, rfl, rfl, rfl, rfl⟩) rfl rfl ?_
  · obtain ⟨v, rfl⟩ := len1 h; rfl
  · decide
  intro A L s₀ P₀ P s _ X
  replace X : At W (k + 3) A _ s₀ P₀ _ [("self", .inst x 160 dx)] [] (lexM dx pb al st l line [] n) P s := X
  have hrl : (text.cps.toList.drop n).length ≤ 30000 := by
    have h3 : text.cps.toList.length = text.length := by show _ = text.cps.size; simp
    rw [List.length_drop, h3]; exact Nat.le_trans (Nat.sub_le _ _) hlen
  generalize hres : lexT (text.cps.toList.drop n) line n = R
  have fin : ∀ {env : Env} {ended : Bool} {ci m : Addr} {t : Tok} {Γ : List (Str × D)} {v : Value} {P : Vw} {s : Shared} {a : Str × List Nat × Int × Nat}, a = R → At W (k + 3) A env s₀ P₀ (offX (ads (lexM dx pb al st l line [] n)) s₀.heap) Γ [] (gtM ended ci m dx pb al st t l a.2.2.1 a.2.2.2) P s → Is P v (.str a.1) → FinM W (k + 3) A env s₀ P₀ (offX (ads (lexM dx pb al st l line [] n)) s₀.heap) (lexM dx pb al st l R.2.2.1 [] R.2.2.2) (.str R.1) (.ret v) s := fun {env ended ci m t Γ v P s a} e X i => by
    subst e
    exact ⟨P, Γ, [], [(ci, ciM ended m t)], X.permM gt_perm, i⟩
  refine s_if X (ts_rawlist (ev_attrI nv (by trivial) (getK hW) (by rfl)) (by trivial) (by decide)) fun P s X => s_nil ?_
  refine s_set X ev_str (.inl rfl) fun P s X => ?_
  refine s_iter X (nmB hW) nv (bindK hW) rfl (.inl rfl) fun ci m t P s hm X => ?_
  replace X := X.forget (Γ' := gtG "" ci m x dx) (by trivial)
  replace X : At W (k + 3) A _ s₀ P₀ _ (gtG "" ci m x dx) [] (gtM false ci m dx pb al st t l line n) P s := X.permM (List.Perm.cons _ (List.Perm.cons _ (List.Perm.swap ..)))
  refine s_forMS X (z := "fiter") (ci := ci) (lci := [(m, methodObj (.ref 143) (.ref x))]) (by trivial) (.inl rfl)
    (fun a : Bool × Str × List Nat × Int × Nat => bif a.1 then 0 else a.2.2.1.length + 1) (fun a => gtG a.2.1 ci m x dx) (fun _ => []) (fun a => gtM a.1 ci m dx pb al st t l a.2.2.2.1 a.2.2.2.2) (I84 text R) (false, "", text.cps.toList.drop n, line, n) ⟨(fun h => nomatch h), fun _ => ⟨rfl, rfl, hrl, hres⟩⟩ rfl rfl rfl ?_
  clear X hm
  rintro ⟨ended, tk, rest, ln, n⟩ P s hq X
  have hm := X.packP (z := "fiter") (a := ci) (l := [(m, methodObj (.ref 143) (.ref x))]) (by trivial) _ List.mem_cons_self
  have hx := X.instP (z := "self") (x := x) (C := 160) (dx := dx) (by trivial)
  cases ended with
  | true =>
    refine ⟨none, [(ci, ciM true m t)], [(ci, ciM true m t)], [(dx, .dict (lexF st l ln pb)), (al, .list [.int n]), (pb, .list [])], rfl, rfl, nx_ended, ?_⟩
    exact fun P s _ X => s_ret X nv fun v P s X i => fin (hq.1 rfl) X i
  | false =>
    replace hq := hq.2 rfl
    cases rest with
    | nil =>
      refine ⟨none, [(ci, ciM false m t), (dx, .dict (lexF st l ln pb)), (al, .list [.int n])], [(ci, ciM true m t), (dx, .dict (lexF st l ln pb)), (al, .list [.int (n + 1 : Nat)])], [(pb, .list [])], rfl, rfl, nx_end (k := k) hW hS hm hx hq.2.1, ?_⟩
      exact fun P s _ X => s_ret X nv fun v P s X i => fin (a := ("", [], ln, n + 1)) hq.2.2.2 X (hq.1 ▸ i)
    | cons c r =>
      refine ⟨some (.str ⟨#[c]⟩), [(ci, ciM false m t), (dx, .dict (lexF st l ln pb)), (al, .list [.int n])], [(ci, ciM false m t), (dx, .dict (lexF st l (lnc c ln) pb)), (al, .list [.int (n + 1 : Nat)])], [(pb, .list [])], rfl, rfl, nx_item (k := k) hW hS hm hx hq.2.1, ?_⟩
      intro P s E' _ X
      obtain ⟨h0, hd, hl, hq⟩ := hq
      change tk = "" at h0
      subst h0
      replace hd : text.cps.toList.drop (n + 1) = r := drop_tail hd
      replace hl : r.length < 30000 := hl
      replace hq : lexT (c :: r) ln n = R := hq
      rw [lexT_cons] at hq
      replace X : At W (k + 3) A _ s₀ P₀ _ (("ch", .str ⟨#[c]⟩) :: gtG "" ci m x dx) [] (gtM false ci m dx pb al st t l (lnc c ln) (n + 1)) P s := X
      refine s_if X (ts_cmp nv (ev_attrI nv (by trivial) (getK hW) (by rfl)) op_in_str) fun P s X => ?_
      unfold wsc at hq
      cases h1 : inS ⟨#[c]⟩ "\n\t\r " with
      | true =>
        rw [h1, if_pos rfl] at hq
        exact s_continue ⟨(false, "", r, lnc c ln, n + 1), P, Nat.lt_succ_self _, ⟨(fun h => nomatch h), fun _ => ⟨rfl, hd, Nat.le_of_lt hl, hq⟩⟩, X.forget (by trivial)⟩
      | false =>
        rw [h1, if_neg Bool.false_ne_true] at hq
        refine s_nil (s_if X (ts_cmp nv ev_str op_eq_str) fun P s X => ?_)
        cases h2 : ((⟨#[c]⟩ : Str) == "\"") with
        | true =>
          rw [h2, if_pos rfl] at hq
          replace X := X.forget (Γ' := gtG "" ci m x dx) (by trivial)
          refine s_forMS X (z := "fiter") (ci := ci) (lci := [(m, methodObj (.ref 143) (.ref x))]) (by trivial) (.inl rfl)
            (fun a : Str × List Nat × Int × Nat => a.2.1.length + 1) (fun a => gtG a.1 ci m x dx) (fun _ => []) (fun a => gtM false ci m dx pb al st t l a.2.2.1 a.2.2.2) (I84L lexQ text R) ("", r, lnc c ln, n + 1) ⟨hd, by show 0 + r.length ≤ _; rw [Nat.zero_add]; exact Nat.le_of_lt hl, hq⟩ rfl rfl rfl ?_
          clear X hm hx hd hl hq h1 h2
          rintro ⟨tk, rest, ln, n⟩ P s ⟨hd, hl, hq⟩ X
          have hm := X.packP (z := "fiter") (a := ci) (l := [(m, methodObj (.ref 143) (.ref x))]) (by trivial) _ List.mem_cons_self
          have hx := X.instP (z := "self") (x := x) (C := 160) (dx := dx) (by trivial)
          cases rest with
          | nil =>
            refine ⟨none, [(ci, ciM false m t), (dx, .dict (lexF st l ln pb)), (al, .list [.int n])], [(ci, ciM true m t), (dx, .dict (lexF st l ln pb)), (al, .list [.int (n + 1 : Nat)])], [(pb, .list [])], rfl, rfl, nx_end (k := k) hW hS hm hx hd, ?_⟩
            exact fun P s _ X => s_nil (s_nil ⟨(true, tk, [], ln, n + 1), P, Nat.succ_pos _, ⟨fun _ => hq, (fun h => nomatch h)⟩, X⟩)
          | cons c r =>
            refine ⟨some (.str ⟨#[c]⟩), [(ci, ciM false m t), (dx, .dict (lexF st l ln pb)), (al, .list [.int n])], [(ci, ciM false m t), (dx, .dict (lexF st l (lnc c ln) pb)), (al, .list [.int (n + 1 : Nat)])], [(pb, .list [])], rfl, rfl, nx_item (k := k) hW hS hm hx hd, ?_⟩
            intro P s E' _ X
            replace X : At W (k + 3) A _ s₀ P₀ _ (("ch", .str ⟨#[c]⟩) :: gtG tk ci m x dx) [] (gtM false ci m dx pb al st t l (lnc c ln) (n + 1)) P s := X
            replace hq := (lexQ_cons c r tk ln n).symm.trans hq
            refine s_if X (ts_cmp nv ev_str op_eq_str) fun P s X => ?_
            cases h1 : ((⟨#[c]⟩ : Str) == "\"") with
            | true =>
              rw [h1, if_pos rfl] at hq
              exact s_ret X nv fun v P s X i => fin hq X i
            | false =>
              rw [h1, if_neg Bool.false_ne_true] at hq
              refine esc84 hW hS (drop_tail hd) X (fun hd P s X => s_nil ?_) (.inl rfl) (he := by rfl)
              refine s_aug X (by trivial) nv (op_iadd_str (sz84 hl)) (.inl rfl) fun P s X => s_nil ?_
              exact ⟨(tk ++ (nxc c r (lnc c ln) (n + 1)).1, (nxc c r (lnc c ln) (n + 1)).2.1, (nxc c r (lnc c ln) (n + 1)).2.2.1, (nxc c r (lnc c ln) (n + 1)).2.2.2), P, Nat.succ_lt_succ (Nat.lt_succ_of_le (nxc_len c r (lnc c ln) (n + 1)).2), I84L.step hl hq hd, X.forget (by trivial)⟩
        | false =>
          rw [h2, if_neg Bool.false_ne_true] at hq
          refine esc84 hW hS hd X (fun hd P s X => ?_) (.inl rfl) (he := by rfl)
          have hl2 := nxc_len c r (lnc c ln) (n + 1)
          refine s_aug X (by trivial) nv (op_iadd_str (by rw [PySem.sizeLine_eq]; exact Nat.le_trans (Nat.add_le_add_left hl2.1 _) (by decide))) (.inl rfl) fun P s X => ?_
          replace X := X.forget (Γ' := gtG (("" : Str) ++ (nxc c r (lnc c ln) (n + 1)).1) ci m x dx) (by trivial)
          refine s_forMS X (z := "fiter") (ci := ci) (lci := [(m, methodObj (.ref 143) (.ref x))]) (by trivial) (.inl rfl)
            (fun a : Str × List Nat × Int × Nat => a.2.1.length + 1) (fun a => gtG a.1 ci m x dx) (fun _ => []) (fun a => gtM false ci m dx pb al st t l a.2.2.1 a.2.2.2) (I84L lexB text R) (_, _, _, _) (I84L.step (by show 0 + (r.length + 1) ≤ _; rw [Nat.zero_add]; exact hl) hq hd) rfl rfl rfl ?_
          clear X hm hx hd hl hq h1 h2 hl2
          rintro ⟨tk, rest, ln, n⟩ P s ⟨hd, hl, hq⟩ X
          have hm := X.packP (z := "fiter") (a := ci) (l := [(m, methodObj (.ref 143) (.ref x))]) (by trivial) _ List.mem_cons_self
          have hx := X.instP (z := "self") (x := x) (C := 160) (dx := dx) (by trivial)
          cases rest with
          | nil =>
            refine ⟨none, [(ci, ciM false m t), (dx, .dict (lexF st l ln pb)), (al, .list [.int n])], [(ci, ciM true m t), (dx, .dict (lexF st l ln pb)), (al, .list [.int (n + 1 : Nat)])], [(pb, .list [])], rfl, rfl, nx_end (k := k) hW hS hm hx hd, ?_⟩
            exact fun P s _ X => s_nil (s_nil ⟨(true, tk, [], ln, n + 1), P, Nat.succ_pos _, ⟨fun _ => hq, (fun h => nomatch h)⟩, X⟩)
          | cons c r =>
            refine ⟨some (.str ⟨#[c]⟩), [(ci, ciM false m t), (dx, .dict (lexF st l ln pb)), (al, .list [.int n])], [(ci, ciM false m t), (dx, .dict (lexF st l (lnc c ln) pb)), (al, .list [.int (n + 1 : Nat)])], [(pb, .list [])], rfl, rfl, nx_item (k := k) hW hS hm hx hd, ?_⟩
            intro P s E' _ X
            replace X : At W (k + 3) A _ s₀ P₀ _ (("ch", .str ⟨#[c]⟩) :: gtG tk ci m x dx) [] (gtM false ci m dx pb al st t l (lnc c ln) (n + 1)) P s := X
            replace hq := (lexB_cons c r tk ln n).symm.trans hq
            refine s_if X (ts_cmp nv (ev_attrI nv (by trivial) (getK hW) (by rfl)) op_in_str) fun P s X => ?_
            unfold wsc at hq
            cases h1 : inS ⟨#[c]⟩ "\n\t\r " with
            | true =>
              rw [h1, if_pos rfl] at hq
              exact s_ret X nv fun v P s X i => fin hq X i
            | false =>
              rw [h1, if_neg Bool.false_ne_true] at hq
              refine esc84 hW hS (drop_tail hd) X (fun hd P s X => s_nil ?_) (.inl rfl) (he := by rfl)
              refine s_aug X (by trivial) nv (op_iadd_str (sz84 hl)) (.inl rfl) fun P s X => s_nil ?_
              exact ⟨(tk ++ (nxc c r (lnc c ln) (n + 1)).1, (nxc c r (lnc c ln) (n + 1)).2.1, (nxc c r (lnc c ln) (n + 1)).2.2.1, (nxc c r (lnc c ln) (n + 1)).2.2.2), P, Nat.succ_lt_succ (Nat.lt_succ_of_le (nxc_len c r (lnc c ln) (n + 1)).2), I84L.step hl hq hd, X.forget (by trivial)⟩
end
section
set_option maxHeartbeats 4000000
/-! _law_stream -/
noncomputable def streamTab (c1 c2 : Addr) : Array Value := #[rawInt 193, rawInt 13, .ref c1, rawInt 195, rawInt 4, .ref c2]
noncomputable def StreamOut (W : Wd) (Tb : Addr) (text : Str) : OutT := fun d Mx' N => ∃ st l al c1 c2 oc vs t, d = .pack st l ∧ StreamOk W st al text l ∧ (c2, oc) ∈ l ∧ oc.data = .fields vs ∧ vs[1]? = some (.str (Str.ofString "_law_stream.<locals>.read") t) ∧ Mx' = [(Tb, .obj (tabObj (streamTab c1 c2)))] ∧ N = [(al, .list [.int (0 : Nat)])]
variable {W : Wd} {Pm : Params} (hW : W.K = hd02.heap_1 Pm)
include hW
theorem kl171 {k : Nat} {text : Str} (hlen : text.length ≤ 30000) : KlX W (k + 1) (.ref 171) [.str text] [(166, .obj (tabObj #[]))] (StreamOut (W.at []) 166 text) := by
  refine klx_fnZ (names := ["text"]) (fun P b => ⟨⟨_, b.k _ _ (by rw [hW]; rfl), rfl⟩, by rw [hW]; rfl, rfl, fun vs h => ?_, rfl, ?_, by decide, by decide, rfl, rfl, rfl, rfl, rfl⟩) rfl ?_
  · obtain ⟨v, rfl⟩ := len1 h; rfl
  · decide
  intro A s₀ P₀ P s _ X
  replace X : At W k A _ s₀ P₀ _ [("text", .str text)] [] [(166, .obj (tabObj #[]))] P s := X
  refine s_setN X (evn_list (evs_cons ev_int evs_nil)) (bc rfl rfl) fun P s X => ?_
  refine s_lambda (ps := #[]) (Mx := []) X rfl (by rw [hW]; rfl) trivial rfl rfl rfl (bl rfl) fun st fd c1 P s h0 X => ?_
  replace X : At W k A _ s₀ P₀ _ _ _ ([(166, .obj (tabObj (#[] ++ #[rawInt 193, rawInt 13, .ref c1])))] ++ [(st, .obj (fnObj0 fd))]) P s := X.permM List.perm_append_comm
  refine s_def X rfl (by rw [hW]; rfl) trivial rfl rfl rfl rfl rfl (bl rfl) fun rd of c2 oc vs t P s hv1 hv2 hof X => ?_
  obtain ⟨doc, pm, ctv, hof⟩ := hof
  replace X := X.forget (Γ' := [("stream", .raw st), ("read", .pack rd [(rd, of), (c2, oc)]), ("text", .str text)]) (by trivial)
  replace X := X.permM List.perm_append_comm
  refine s_fnattr X h0 (by trivial) fun dd hs tk n P s X => ?_
  refine s_ret X nv fun v P s X i => ?_
  obtain ⟨oc2, vt, hc2, hd2, it⟩ := X.cellv (x := "text") (by trivial) rfl rfl
  obtain ⟨al, oc1, X2, hal0, hc1, hd1⟩ := X.unlist rfl rfl
  have o1 := X2.cellOff (x := "at") rfl
  have o2 := X2.cellOff (x := "text") rfl
  obtain ⟨tt, rfl⟩ := Is.strI it
  obtain ⟨rfl, hl⟩ := i.packI
  have X3 : At W k A _ s₀ P₀ _ _ _ (([(166, .obj (tabObj (streamTab c1 c2)))] ++ [(al, .list [.int (0 : Nat)])]) ++ []) P s := X2.permM (List.Perm.swap ..)
  have e1 : s.heap.get? (s₀.heap.objs.size + 2) = some oc1 := hc1
  have e2 : s.heap.get? (s₀.heap.objs.size + 1) = some oc2 := hc2
  have z1 : s₀.heap.get? (s₀.heap.objs.size + 2) = none := Heap.get?_none_of_le (by omega)
  have z2 : s₀.heap.get? (s₀.heap.objs.size + 1) = none := Heap.get?_none_of_le (by omega)
  have o1' : P (s₀.heap.objs.size + 2) = none ∧ s₀.heap.objs.size + 2 ∉ ads [(al, MO.list [.int (0 : Nat)]), (166, .obj (tabObj (streamTab c1 c2)))] := o1
  have o2' : P (s₀.heap.objs.size + 1) = none ∧ s₀.heap.objs.size + 1 ∉ ads [(al, MO.list [.int (0 : Nat)]), (166, .obj (tabObj (streamTab c1 c2)))] := o2
  have sw : ∀ b, b ∉ ads [(al, MO.list [.int (0 : Nat)]), (166, .obj (tabObj (streamTab c1 c2)))] → b ∉ ads ([(166, MO.obj (tabObj (streamTab c1 c2)))] ++ [(al, .list [.int (0 : Nat)])]) := fun b hb hm => hb (((List.Perm.swap ..).map _).subset hm)
  let lz : List (Addr × Obj) := [(s₀.heap.objs.size + 2, oc1), (s₀.heap.objs.size + 1, oc2)]
  let ll : List (Addr × Obj) := (st, fnObj dd fd) :: (dd, dictOf [⟨hs, .str "read" tk, .ref rd⟩] n) :: (rd, of) :: (c2, oc) :: lz
  have hP : ∀ p ∈ lz, P p.1 = none := fun p hp => by
    simp only [lz, List.mem_cons, List.not_mem_nil, or_false] at hp
    rcases hp with rfl | rfl
    · exact o1'.1
    · exact o2'.1
  have hnd : (lz.map (·.1)).Nodup := by
    show [s₀.heap.objs.size + 2, s₀.heap.objs.size + 1].Nodup
    simp
  refine ⟨P, _, _, _, _, [], .pack st ll, lz, X3, ⟨st, ll, al, c1, c2, oc, vs, t, rfl, ⟨dd, fd, hs, tk, n, rd, of, _, by simp [ll], by simp [ll], by simp [ll], by rw [hof], ?_⟩, by simp [ll], hv1, hv2, rfl, rfl⟩, rfl, fun p hp => by rw [List.mem_singleton.mp hp]; exact hal0, hnd, fun p hp => ?_, .pack fun p hp => ?_⟩
  · exact rd_ok (W := W.at []) (c1 := s₀.heap.objs.size + 2) (c2 := s₀.heap.objs.size + 1) (cc := c2) (o := of) (tt := tt) (oc1 := oc1) (oc2 := oc2) (occ := oc) (vs := vs) (tq := t) (by rw [PySem.sizeLine_eq]; omega) rfl (by simp [ll]) (by rw [hof]) (by simp [ll, lz]) hd1 (by simp [ll, lz]) hd2 (by simp [ll]) hv1 hv2 rfl rfl rfl rfl rfl rfl rfl (fun v => rfl)
  · simp only [lz, List.mem_cons, List.not_mem_nil, or_false] at hp
    rcases hp with rfl | rfl
    · exact ⟨z1, e1, o1'.1, sw _ o1'.2⟩
    · exact ⟨z2, e2, o2'.1, sw _ o2'.2⟩
  · have hp' : p ∈ [(st, fnObj dd fd), (dd, dictOf [⟨hs, .str "read" tk, .ref rd⟩] n), (rd, of), (c2, oc)] ++ lz := hp
    rcases List.mem_append.mp hp' with h | h
    · exact addL_le hP _ _ (hl p h)
    · exact addL_at hnd p h
theorem kl171H {k : Nat} {text : Str} {c1 c2 : Addr} {oc : Obj} {vs : Array Value} {t : Tok} (hv1 : oc.data = .fields vs) (hv2 : vs[1]? = some (.str (Str.ofString "_law_stream.<locals>.read") t)) (hlen : text.length ≤ 30000) : KlX W (k + 1) (.ref 171) [.also (.str text) [(c2, oc)]] [(166, .obj (tabObj (streamTab c1 c2)))] (StreamOut (W.at []) 166 text) := by
  refine klx_fnZ (names := ["text"]) (fun P b => ⟨⟨_, b.k _ _ (by rw [hW]; rfl), rfl⟩, by rw [hW]; rfl, rfl, fun vs h => ?_, rfl, ?_, by decide, by decide, rfl, rfl, rfl, rfl, rfl⟩) rfl ?_
  · obtain ⟨v, rfl⟩ := len1 h; rfl
  · decide
  intro A s₀ P₀ P s _ X
  replace X : At W k A _ s₀ P₀ _ [("text", .also (.str text) [(c2, oc)])] [] [(166, .obj (tabObj (streamTab c1 c2)))] P s := X
  refine s_setN X (evn_list (evs_cons ev_int evs_nil)) (bc rfl rfl) fun P s X => ?_
  refine s_lambdaH (cc := .ref c1) X rfl (by rw [hW]; rfl) (by trivial) rfl rfl rfl (bl rfl) fun st fd P s h0 X => ?_
  replace X : At W k A _ s₀ P₀ _ _ _ ((166, .obj (tabObj (streamTab c1 c2))) :: [(st, .obj (fnObj0 fd))]) P s := X.permM (List.Perm.swap ..)
  have hc2 := X.alsoP (z := "text") (by trivial) _ List.mem_cons_self
  refine s_defH X rfl (by rw [hW]; rfl) (by trivial) rfl hc2 rfl rfl rfl rfl (bl rfl) fun rd of P s hof X => ?_
  obtain ⟨doc, pm, ctv, hof⟩ := hof
  replace X := X.forget (Γ' := [("stream", .raw st), ("read", .pack rd [(rd, of), (c2, oc)]), ("text", .also (.str text) [(c2, oc)])]) (by trivial)
  replace X : At W k A _ s₀ P₀ _ _ _ ([(166, .obj (tabObj (streamTab c1 c2)))] ++ [(st, .obj (fnObj0 fd))]) P s := X
  replace X := X.permM List.perm_append_comm
  refine s_fnattr X h0 (by trivial) fun dd hs tk n P s X => ?_
  refine s_ret X nv fun v P s X i => ?_
  obtain ⟨oc2, vt, hc2, hd2, it⟩ := X.cellv (x := "text") (by trivial) rfl rfl
  obtain ⟨al, oc1, X2, hal0, hc1, hd1⟩ := X.unlist rfl rfl
  have o1 := X2.cellOff (x := "at") rfl
  have o2 := X2.cellOff (x := "text") rfl
  obtain ⟨tt, rfl⟩ := Is.strI it.alsoI.1
  obtain ⟨rfl, hl⟩ := i.packI
  have X3 : At W k A _ s₀ P₀ _ _ _ (([(166, .obj (tabObj (streamTab c1 c2)))] ++ [(al, .list [.int (0 : Nat)])]) ++ []) P s := X2.permM (List.Perm.swap ..)
  have e1 : s.heap.get? (s₀.heap.objs.size + 2) = some oc1 := hc1
  have e2 : s.heap.get? (s₀.heap.objs.size + 1) = some oc2 := hc2
  have z1 : s₀.heap.get? (s₀.heap.objs.size + 2) = none := Heap.get?_none_of_le (by omega)
  have z2 : s₀.heap.get? (s₀.heap.objs.size + 1) = none := Heap.get?_none_of_le (by omega)
  have o1' : P (s₀.heap.objs.size + 2) = none ∧ s₀.heap.objs.size + 2 ∉ ads [(al, MO.list [.int (0 : Nat)]), (166, .obj (tabObj (streamTab c1 c2)))] := o1
  have o2' : P (s₀.heap.objs.size + 1) = none ∧ s₀.heap.objs.size + 1 ∉ ads [(al, MO.list [.int (0 : Nat)]), (166, .obj (tabObj (streamTab c1 c2)))] := o2
  have sw : ∀ b, b ∉ ads [(al, MO.list [.int (0 : Nat)]), (166, .obj (tabObj (streamTab c1 c2)))] → b ∉ ads ([(166, MO.obj (tabObj (streamTab c1 c2)))] ++ [(al, .list [.int (0 : Nat)])]) := fun b hb hm => hb (((List.Perm.swap ..).map _).subset hm)
  let lz : List (Addr × Obj) := [(s₀.heap.objs.size + 2, oc1), (s₀.heap.objs.size + 1, oc2)]
  let ll : List (Addr × Obj) := (st, fnObj dd fd) :: (dd, dictOf [⟨hs, .str "read" tk, .ref rd⟩] n) :: (rd, of) :: (c2, oc) :: lz
  have hP : ∀ p ∈ lz, P p.1 = none := fun p hp => by
    simp only [lz, List.mem_cons, List.not_mem_nil, or_false] at hp
    rcases hp with rfl | rfl
    · exact o1'.1
    · exact o2'.1
  have hnd : (lz.map (·.1)).Nodup := by
    show [s₀.heap.objs.size + 2, s₀.heap.objs.size + 1].Nodup
    simp
  refine ⟨P, _, _, _, _, [], .pack st ll, lz, X3, ⟨st, ll, al, c1, c2, oc, vs, t, rfl, ⟨dd, fd, hs, tk, n, rd, of, _, by simp [ll], by simp [ll], by simp [ll], by rw [hof], ?_⟩, by simp [ll], hv1, hv2, rfl, rfl⟩, rfl, fun p hp => by rw [List.mem_singleton.mp hp]; exact hal0, hnd, fun p hp => ?_, .pack fun p hp => ?_⟩
  · exact rd_ok (W := W.at []) (c1 := s₀.heap.objs.size + 2) (c2 := s₀.heap.objs.size + 1) (cc := c2) (o := of) (tt := tt) (oc1 := oc1) (oc2 := oc2) (occ := oc) (vs := vs) (tq := t) (by rw [PySem.sizeLine_eq]; omega) rfl (by simp [ll]) (by rw [hof]) (by simp [ll, lz]) hd1 (by simp [ll, lz]) hd2 (by simp [ll]) hv1 hv2 rfl rfl rfl rfl rfl rfl rfl (fun v => rfl)
  · simp only [lz, List.mem_cons, List.not_mem_nil, or_false] at hp
    rcases hp with rfl | rfl
    · exact ⟨z1, e1, o1'.1, sw _ o1'.2⟩
    · exact ⟨z2, e2, o2'.1, sw _ o2'.2⟩
  · have hp' : p ∈ [(st, fnObj dd fd), (dd, dictOf [⟨hs, .str "read" tk, .ref rd⟩] n), (rd, of), (c2, oc)] ++ lz := hp
    rcases List.mem_append.mp hp' with h | h
    · exact addL_le hP _ _ (hl p h)
    · exact addL_at hnd p h
end
section
set_option maxHeartbeats 4000000
/-! what law computes -/
noncomputable def leadPart (place : Nat) (t : Int) : Str := (["\t", " \t", Txt.mul " " (2 + (place : Int))] : List Str).getD t.toNat ""
noncomputable def leadParts (sts : List Int) : List Str := (List.range sts.length).map fun i => leadPart i (sts.getD i 0)
noncomputable def leadOf (sts : List Int) : Str := Txt.join "" (leadParts sts)
noncomputable def leadOk (sts : List Int) : Bool := decide (sts.length ≤ 40) && sts.all (fun t => decide (0 ≤ t) && decide (t < 3)) && JoinOk "" (leadParts sts)
noncomputable def sepOf (r : Nat) : Str := ([":\n", "\n:"] : List Str).getD (r % 2) ""
noncomputable def textPart (drawn : List Str) (kinds : List Int) (r : Nat) : Str := spelled (drawn.getD r "") (kinds.getD r 0) ++ Txt.slice " \t\r\n" (some r) (some ((r : Int) + 1))
noncomputable def textParts (drawn : List Str) (kinds : List Int) : List Str := (List.range 5).map (textPart drawn kinds)
noncomputable def textOf (drawn : List Str) (kinds : List Int) : Str := Txt.join "" (textParts drawn kinds)
noncomputable def textOk (drawn : List Str) (kinds : List Int) : Bool := ((List.range 5).all fun r => spOk (drawn.getD r "") && decide ((spelled (drawn.getD r "") (kinds.getD r 0)).length ≤ 10000)) && JoinOk "" (textParts drawn kinds) && decide ((textOf drawn kinds).length ≤ 30000)
noncomputable def lexR (text : Str) (s : Int × Nat) : Str × List Nat × Int × Nat := lexT (text.cps.toList.drop s.2) s.1 s.2
noncomputable def lexSt (text : Str) : Nat → Int × Nat
  | 0 => (1, 0)
  | i + 1 => ((lexR text (lexSt text i)).2.2.1, (lexR text (lexSt text i)).2.2.2)
noncomputable def lexTok (text : Str) (i : Nat) : Str := (lexR text (lexSt text i)).1
structure LexOk (text : Str) (drawn : List Str) : Prop where
  toks : ∀ i, i < 5 → lexTok text i = drawn.getD i ""
  end_ : lexTok text 5 = ""
  ln5 : (lexSt text 5).1 = 7
  ln6 : (lexSt text 6).1 = 7
noncomputable def dotIx (row : Str) (r : Nat) : Int := Txt.find row (Txt.item ":\n" ((r % 2 : Nat) : Int))
noncomputable def dotOf (row : Str) (r : Nat) : Str := Txt.slice row (some ((wsOf row).n : Int)) (some (dotIx row r))
noncomputable def dotOk (row : Str) (r : Nat) : Bool := decide (row.cps.size ≤ 1000) && wsOk (wsOf row) && !(Builtin.Str.occurrences row (Txt.item ":\n" ((r % 2 : Nat) : Int)) 0 row.length 1).isEmpty && decide ((dotOf row r).length ≤ 1000)
noncomputable def hiddens : List Str := ["", "\\)", "\\\"\"a(\"", "\"", "\"\\\")\"", "\\\\"]
noncomputable def mulOk (x : Str) (n : Int) : Bool := decide (-1000 ≤ n) && decide (n ≤ 1000) && decide (x.length ≤ 1000) && decide (x.length * n.toNat ≤ 10000)
theorem mulOk_ok {x : Str} {n : Int} (h : mulOk x n = true) : MulOk x n := by
  simp only [mulOk, Bool.and_eq_true, decide_eq_true_eq] at h
  obtain ⟨⟨⟨h1, h2⟩, h3⟩, h4⟩ := h
  refine ⟨?_, fun h4 _ h5 => ?_, fun h4 _ => ?_⟩
  · simp; omega
  · have h6 : (1000 : Int) ≤ (2 ^ 63 - 1 : Int) / n := by
      rw [Int.le_ediv_iff_mul_le (by omega)]; omega
    omega
  · simp only [PySem.Builtin.Str.tooLong, decide_eq_false_iff_not, PySem.sizeLine_eq]
    omega

/-! law 02: the tree of a word -/
noncomputable def drs (ns : List Int) : List Int := (ns.take 4).map (fun x => Int.fmod x 1000000) ++ ([21, 8, 241, 113] : List Int).drop (ns.take 4).length
noncomputable def wordL (dr : List Int) : List Str := (dr.take 3).map fun x => Txt.item "abcde" (Int.fmod x 5)
noncomputable def ell3 (c told : Str) : Bool := ellm (("..." ++ c) ++ "...") told
noncomputable def thPush (told : Str) (n : Nat) : List Str := ((signs "abcde").take n).filter fun c => !ell3 c told
noncomputable def thW (told : Str) (i : Nat) : Str := (((Txt.slice told none (some ((i : Int) + 1))) ++ "...") ++ Txt.item told i) ++ "..."
noncomputable def thStep (told : Str) (s : List Str × List Str) (i : Nat) : List Str × List Str := match s with
  | (o, h :: t) => (o ++ [h], t ++ (if ellm (thW told i) told then [] else [Txt.item told i]))
  | s => s
noncomputable def thSt (told : Str) : Nat → List Str × List Str
  | 0 => ([], thPush told 5)
  | i + 1 => thStep told (thSt told i) i
noncomputable def thOrder (told : Str) : List Str := (thSt told 3).1 ++ (thSt told 3).2
noncomputable def thTies (told : Str) : List Str := (List.range 4).map fun i => (thOrder told).getD i "" ++ Txt.item (told ++ (thOrder told).getD 4 "") (i : Int)
noncomputable def thText (word : Str) : Str := Txt.join "\n" (signs word)
noncomputable def thOk (word : Str) : Bool := decide (word.length = 3) && JoinOk "\n" (signs word) && decide ((thText word).length ≤ 30000) && JoinOk "" (signs word) && decide (Txt.join "" (signs word) = word)
  && ((List.range 3).all fun i => decide (lexTok (thText word) i = (signs word).getD i ""))
  && ((signs "abcde").all fun c => ellOk (("..." ++ c) ++ "...") word)
  && ((List.range 3).all fun i => ellOk (thW word i) word && decide (1 ≤ (thSt word i).2.length) && decide ((thSt word i).2.length ≤ 10) && decide ((Txt.slice word none (some ((i : Int) + 1))).length ≤ 100))
  && decide ((thSt word 3).2.length = 2) && decide ((thOrder word).length = 5) && (thOrder word).all fun c => decide (c.length = 1)
/-! the tree hung up -/
noncomputable def hgOth (tie way : Str) : Str := Txt.replace tie (Txt.item way (-1)) ""
noncomputable def hgPush (ties : List Str) (way : Str) : List Str := ((ties.map fun t => hgOth t way).filter fun o => decide (o.length = 1) && !inS o way).map fun o => way ++ o
noncomputable def hgStep (ties : List Str) (s : List Str × List Str) : List Str × List Str := match s.2.reverse with
  | [] => s
  | w :: r => (s.1 ++ [w], r.reverse ++ hgPush ties w)
noncomputable def hgSt (ties : List Str) (top : Str) : Nat → List Str × List Str
  | 0 => ([], [top])
  | n + 1 => hgStep ties (hgSt ties top n)
noncomputable def hgOf (ties : List Str) (top : Str) : List Str := (hgSt ties top 5).1
noncomputable def hgOk (ties : List Str) (top : Str) : Bool := ((List.range 5).all fun n => decide (1 ≤ (hgSt ties top n).2.length) && decide ((hgSt ties top n).2.length ≤ 20) && strsOk (hgSt ties top n).2
    && (hgSt ties top n).2.all fun w => decide (1 ≤ w.length) && decide (w.length ≤ 100) && ties.all fun t => decide ((hgOth t w).length ≤ 100))
  && decide ((hgSt ties top 5).2 = []) && (ties.all fun t => decide (t.length ≤ 100)) && decide (ties.length ≤ 20) && decide ((hgOf ties top).length = 5)
/-! the word read back -/
noncomputable def bkLeaf (left : List Str) (nm : Str) : Bool := decide ((left.filter fun t => inS nm t).length = 1)
noncomputable def bkFst (left : List Str) (n : Nat) : List Str := ((signs "abcde").take n).filter fun c => bkLeaf left c
structure Bk where
  word : Str
  order : List Str
  left : List Str
  queue : List Str
noncomputable def bkTie (left : List Str) (nm : Str) : Str := (left.filter fun t => inS nm t).headD ""
noncomputable def bkIx (left : List Str) (tie : Str) : Nat := left.findIdx (· == tie)
noncomputable def bkStep (b : Bk) : Bk := match b.queue with
  | [] => b
  | nm :: q => let tie := bkTie b.left nm
    let left := b.left.eraseIdx (bkIx b.left tie)
    let other := Txt.replace tie nm ""
    ⟨b.word ++ other, b.order ++ [nm], left, q ++ (if bkLeaf left other then [other] else [])⟩
noncomputable def bkSt (ties : List Str) : Nat → Bk
  | 0 => ⟨"", [], ties, bkFst ties 5⟩
  | n + 1 => bkStep (bkSt ties n)
noncomputable def bkWord (ties : List Str) : Str := (bkSt ties 3).word
noncomputable def bkOrder (ties : List Str) : List Str := (bkSt ties 3).order ++ (bkSt ties 3).queue
noncomputable def bkOk1 (b : Bk) : Bool := decide (1 ≤ b.queue.length) && decide (b.queue.length ≤ 10) && decide (b.left.length ≤ 20) && decide (b.word.length ≤ 100) && decide (b.order.length ≤ 20) && (match b.queue with
  | [] => false
  | nm :: _ => !(nm == "") && decide (1 ≤ (b.left.filter fun t => inS nm t).length) && decide ((bkTie b.left nm).length ≤ 100) && decide ((Txt.replace (bkTie b.left nm) nm "").length ≤ 100)
    && !((Builtin.Str.occurrences (bkTie b.left nm) nm 0 (bkTie b.left nm).length ((bkTie b.left nm).length + 1)).isEmpty || (nm.length == 0 && ("" : Str).length == 0)))
noncomputable def bkOk (ties : List Str) : Bool := decide (ties.length ≤ 20) && bkOk1 (bkSt ties 0) && bkOk1 (bkSt ties 1) && bkOk1 (bkSt ties 2) && decide ((bkSt ties 3).queue.length = 2) && decide ((bkSt ties 3).order.length ≤ 20)
end
section
set_option maxHeartbeats 4000000
noncomputable def boolsD (r : List Bool) : D := .list (r.map .bool)
/-! law -/
theorem pick_ints {ns : List Int} : pick (ns.map D.int) none (some 4) = (ns.take 4).map .int := by
  have h1 : kms_lo none (ns.map D.int).length = 0 := rfl
  have h2 : kms_hi (some 4) (ns.map D.int).length = min 4 (ns.map D.int).length := by
    simp [kms_hi]
  unfold pick
  rw [h1, h2, List.drop_zero, Nat.sub_zero, ← List.map_take, List.length_map]
  congr 1
  rw [List.take_eq_take_iff]; exact az_min _
theorem pick_drop {ns : List Int} {n : Nat} (h : n ≤ ns.length) : pick (ns.map D.int) (some (n : Int)) none = (ns.drop n).map .int := by
  have h1 : kms_lo (some (n : Int)) (ns.map D.int).length = n := by
    simp [kms_lo]; rw [if_neg (by omega)]; omega
  have h2 : kms_hi none (ns.map D.int).length = ns.length := by
    simp [kms_hi]
  unfold pick
  rw [h1, h2, List.map_drop]
  rw [List.take_of_length_le (by simp)]
theorem at_ints {l : List Int} {i : Int} (h0 : 0 ≤ i) (h1 : i < l.length) : at? (l.map D.int) i = some (.int (l.getD i.toNat 0)) := by
  unfold at?
  rw [if_pos h0, List.getElem?_map, List.getD_eq_getElem?_getD, List.getElem?_eq_getElem (by omega)]; rfl
theorem at_strs {l : List Str} {i : Int} (h0 : 0 ≤ i) (h1 : i < l.length) : at? (l.map D.str) i = some (.str (l.getD i.toNat "")) := by
  unfold at?
  rw [if_pos h0, List.getElem?_map, List.getD_eq_getElem?_getD, List.getElem?_eq_getElem (by omega)]; rfl
theorem at_strsN {l : List Str} {i : Nat} (h1 : i < l.length) : at? (l.map D.str) (i : Int) = some (.str (l.getD i "")) := at_strs (by omega) (by omega)
theorem at_intsN {l : List Int} {i : Nat} (h1 : i < l.length) : at? (l.map D.int) (i : Int) = some (.int (l.getD i 0)) := at_ints (by omega) (by omega)
theorem bI {i : Nat} (h : i ≤ 100000) : -2 ^ 62 ≤ ((i : Nat) : Int) ∧ ((i : Nat) : Int) < 2 ^ 62 := az_ints h
theorem Ts.eq {W : Wd} {k : Nat} {env : Env} {Γ : List (Str × D)} {Δ : List (Str × List D)} {e : Expr} {b b' : Bool} (h : Ts W k env Γ Δ e b) (q : b = b') : Ts W k env Γ Δ e b' := q ▸ h
theorem Ev.eq {W : Wd} {k : Nat} {env : Env} {Γ : List (Str × D)} {Δ : List (Str × List D)} {e : Expr} {d d' : D} (h : Ev W k env Γ Δ e d) (q : d = d') : Ev W k env Γ Δ e d' := q ▸ h
theorem rmod2 (r : Nat) : Int.fmod ((r : Nat) : Int) 2 = ((r % 2 : Nat) : Int) := by
  rw [Int.fmod_eq_emod_of_nonneg _ (by decide)]; omega
theorem getD_at {l : List Str} {i : Nat} (h : i < l.length) : l[i]? = some (l.getD i "") := by
  rw [List.getD_eq_getElem?_getD, List.getElem?_eq_getElem h]; rfl
theorem getD_range {α : Type} {f : Nat → α} {n i : Nat} {d : α} (h : i < n) : ((List.range n).map f).getD i d = f i := by
  rw [List.getD_eq_getElem?_getD, List.getElem?_map, List.getElem?_range h]; rfl
theorem at_rng {α : Type} {f : Nat → α} {n i : Nat} {d' : D} {g : α → D} (h : i < n) (e : (((List.range n).map f).map g)[i]? = some d') : d' = g (f i) := by
  rw [List.map_map, List.getElem?_map, List.getElem?_range h] at e
  cases e; rfl
theorem lexSt6 (tx : Str) : lexSt tx 6 = ((lexR tx (lexSt tx 5)).2.2.1, (lexR tx (lexSt tx 5)).2.2.2) := by
  rw [show (6 : Nat) = 5 + 1 from rfl, lexSt]
theorem lexTok5 (tx : Str) : lexTok tx 5 = (lexR tx (lexSt tx 5)).1 := rfl
noncomputable abbrev LawEnd (W : Wd) (k : Nat) (A : Around) (env : Env) (s₀ : Shared) (P₀ H : Vw) : Flow → Shared → Prop := FinX W k A env s₀ P₀ H [(166, .obj (tabObj #[]))] (LawOut 166)
theorem ltL {α : Type} {l : List α} {n i : Nat} (e : l.length = n) (h : i < n) : i < l.length := e ▸ h
theorem bI5 {i : Nat} (h : i < 5) : -2 ^ 62 ≤ ((i : Nat) : Int) ∧ ((i : Nat) : Int) < 2 ^ 62 := bI (by omega)
theorem sz2 {a b : Nat} (h1 : a ≤ 4000) (h2 : b ≤ 4000) : a + b ≤ sizeLine := by rw [PySem.sizeLine_eq]; omega
theorem sz3 {x y : Str} {b : Nat} (h1 : x.length ≤ 4000) (h2 : y.length ≤ 4000) (h3 : b ≤ 4000) : (x ++ y).length + b ≤ sizeLine := by rw [len_add, PySem.sizeLine_eq]; omega
theorem sz4 {x y z : Str} {b : Nat} (h1 : x.length ≤ 4000) (h2 : y.length ≤ 4000) (h3 : z.length ≤ 4000) (h4 : b ≤ 4000) : (x ++ y ++ z).length + b ≤ sizeLine := by rw [len_add, len_add, PySem.sizeLine_eq]; omega
theorem l1 {a : Nat} (h : a ≤ 100) : a ≤ 4000 := Nat.le_trans h (by omega)
theorem dots3' : ("..." : Str).length ≤ 4000 := by show 3 ≤ 4000; omega
theorem one4 {x : Str} (h : x.length = 1) : x.length ≤ 4000 := by omega
theorem szl {n : Nat} (h : Nat.ble n 16777216 = true) : n ≤ sizeLine := by rw [PySem.sizeLine_eq]; exact Nat.le_of_ble_eq_true h
theorem le4 : ∀ n : Nat, n ≤ 4 → fitsSsize (n : Int) = true ∧ (-5 : Int) ≤ (n : Int) ∧ (n : Int) < 5 := by decide
theorem lt62 {a : Nat} (h : a ≤ 1000) : a < 2 ^ 62 := by omega
section
variable {W : Wd} {k : Nat} {env : Env} {Γ : List (Str × D)} {Δ : List (Str × List D)}
theorem ev_itS {value slice : Expr} {pos : Pos} {l : List Str} {n i : Nat} (h1 : Ev W k env Γ Δ value (.list (l.map .str))) (h2 : Ev W k env Γ Δ slice (.int (i : Int))) (e : l.length = n) (h : i < n) (hn : n ≤ 64 := by decide)
    (hs : ∀ (a : Addr) (u : Tok), subscripted slice false (.ref a) (.int (i : Int) u) = operate [.ref a, .int (i : Int) u] (getItem (.ref a) (.int (i : Int) u)) := by intro _ _; with_unfolding_all rfl) : Ev W k env Γ Δ (.Subscript value slice pos) (.str (l.getD i "")) :=
  ev_item_list (Ev.list h1) h2 (at_strsN (ltL e h)) (bI (by omega)) hs
theorem ev_itZ {value slice : Expr} {pos : Pos} {l : List Int} {n i : Nat} (h1 : Ev W k env Γ Δ value (.list (l.map .int))) (h2 : Ev W k env Γ Δ slice (.int (i : Int))) (e : l.length = n) (h : i < n) (hn : n ≤ 64 := by decide)
    (hs : ∀ (a : Addr) (u : Tok), subscripted slice false (.ref a) (.int (i : Int) u) = operate [.ref a, .int (i : Int) u] (getItem (.ref a) (.int (i : Int) u)) := by intro _ _; with_unfolding_all rfl) : Ev W k env Γ Δ (.Subscript value slice pos) (.int (l.getD i 0)) :=
  ev_item_list (Ev.list h1) h2 (at_intsN (ltL e h)) (bI (by omega)) hs
theorem ev_itB {value slice : Expr} {pos : Pos} {r : List Bool} {n i : Nat} (h1 : Ev W k env Γ Δ value (boolsD r)) (h2 : Ev W k env Γ Δ slice (.int (i : Int))) (e : r.length = n) (h : i < n) (hn : n ≤ 64 := by decide)
    (hs : ∀ (a : Addr) (u : Tok), subscripted slice false (.ref a) (.int (i : Int) u) = operate [.ref a, .int (i : Int) u] (getItem (.ref a) (.int (i : Int) u)) := by intro _ _; with_unfolding_all rfl) : Ev W k env Γ Δ (.Subscript value slice pos) (.bool (r.getD i false)) :=
  ev_item_list (Ev.list (ds := r.map D.bool) h1) h2 (at_nat (by rw [List.getElem?_map, List.getElem?_eq_getElem (ltL e h), List.getD_eq_getElem?_getD, List.getElem?_eq_getElem (ltL e h)]; rfl)) (bI (by omega)) hs
end
end
section
set_option maxHeartbeats 4000000
theorem thOk_out {w : Str} (h : thOk w = true) : w.length = 3 ∧ JoinOk "\n" (signs w) = true ∧ (thText w).length ≤ 30000 ∧ JoinOk "" (signs w) = true ∧ Txt.join "" (signs w) = w ∧ (∀ i, i < 3 → lexTok (thText w) i = (signs w).getD i "") ∧ (∀ c ∈ signs "abcde", ellOk (("..." ++ c) ++ "...") w = true) ∧ (∀ i, i < 3 → ellOk (thW w i) w = true ∧ 1 ≤ (thSt w i).2.length ∧ (thSt w i).2.length ≤ 10 ∧ (Txt.slice w none (some ((i : Int) + 1))).length ≤ 100) ∧ (thSt w 3).2.length = 2 ∧ (thOrder w).length = 5 ∧ ∀ c ∈ thOrder w, c.length = 1 := by
  simp only [thOk, Bool.and_eq_true, decide_eq_true_eq, List.all_eq_true] at h
  obtain ⟨⟨⟨⟨⟨⟨⟨⟨⟨⟨h1, h2⟩, h3⟩, h4⟩, h5⟩, h6⟩, h7⟩, h8⟩, h9⟩, h10⟩, h11⟩ := h
  exact ⟨h1, h2, h3, h4, h5, fun i hi => h6 i (List.mem_range.mpr hi), h7, fun i hi => ⟨(h8 i (List.mem_range.mpr hi)).1.1.1, (h8 i (List.mem_range.mpr hi)).1.1.2, (h8 i (List.mem_range.mpr hi)).1.2, (h8 i (List.mem_range.mpr hi)).2⟩, h9, h10, h11⟩
theorem thPush_succ {told c : Str} {i : Nat} (h : (signs "abcde")[i]? = some c) : thPush told (i + 1) = thPush told i ++ (if ell3 c told = false then [c] else []) := by
  unfold thPush
  rw [List.take_add_one, h, List.filter_append]
  cases hb : ell3 c told <;> simp [hb]
theorem thPush_len (told : Str) (n : Nat) : (thPush told n).length ≤ n := Nat.le_trans (List.length_filter_le ..) (List.length_take_le ..)
theorem pos_le {i : Nat} {d : D} (h : (chars "abcde")[i]? = some d) : i ≤ 16384 := Nat.le_of_lt (Nat.lt_of_lt_of_le (List.getElem?_eq_some_iff.mp h).1 (by decide))
theorem signs_get {x : Str} {i : Nat} {d : D} (h : (chars x)[i]? = some d) : ∃ c, (signs x)[i]? = some c ∧ d = .str c ∧ c.length = 1 := by
  obtain ⟨c, hc, rfl⟩ := chars_get h
  refine ⟨⟨#[c]⟩, ?_, rfl, rfl⟩
  unfold signs; rw [List.getElem?_map, hc]; rfl
theorem thSt_len (w : Str) (i : Nat) : (thSt w i).1.length ≤ i := by
  induction i with
  | zero => exact Nat.le_refl _
  | succ i ih =>
    show (thStep w (thSt w i) i).1.length ≤ i + 1
    unfold thStep
    split
    · rename_i o h t e
      rw [e] at ih
      rw [List.length_append]; exact Nat.succ_le_succ ih
    · exact Nat.le_succ_of_le ih
theorem thSt_succ {w hh : Str} {tl : List Str} {i : Nat} (h : (thSt w i).2 = hh :: tl) : thSt w (i + 1) = ((thSt w i).1 ++ [hh], tl ++ (if ellm (thW w i) w then [] else [Txt.item w i])) := by
  have e : thSt w i = ((thSt w i).1, hh :: tl) := by rw [← h]
  show thStep w (thSt w i) i = _
  rw [e]; rfl
theorem some_cons {l : List Str} (h : 1 ≤ l.length) : ∃ a r, l = a :: r := by
  cases l with
  | nil => exact absurd h (by decide)
  | cons a r => exact ⟨a, r, rfl⟩
theorem ix3 {w : Str} {i : Nat} (h : w.length = 3) (hi : i < 3) : fitsSsize (i : Int) = true ∧ -(w.length : Int) ≤ (i : Int) ∧ (i : Int) < w.length := by
  rw [h]; revert i; decide
theorem ix4 {w : Str} {i : Nat} (h : w.length = 4) (hi : i < 4) : fitsSsize (i : Int) = true ∧ -(w.length : Int) ≤ (i : Int) ∧ (i : Int) < w.length := by
  rw [h]; revert i; decide
theorem tup_also {P : Vw} {v : Value} {d e : D} {l : List (Addr × Obj)} (i : Is P v (.tup [d, e])) (h : ∀ p ∈ l, P p.1 = some p.2) : Is P v (.tup [.also d l, e]) := by
  obtain ⟨t, vs, n, rfl, q, r⟩ := i.tupI
  obtain ⟨v1, v2, rfl, i1, i2⟩ := r.twoI
  exact .tup q (.cons (.also i1 h) (.cons i2 .nil))
theorem At.streamP {W : Wd} {k : Nat} {A : Around} {env : Env} {s₀ : Shared} {P₀ H : Vw} {Γ : List (Str × D)} {Δ : List (Str × List D)} {P : Vw} {s : Shared} {dx pb al st : Addr} {l : List (Addr × Obj)} {ln : Int} {pbs : List D} {n : Nat} {R : List (Addr × MO)} (X : At W k A env s₀ P₀ H Γ Δ (lexM dx pb al st l ln pbs n ++ R) P s) : ∀ p ∈ l, P p.1 = some p.2 := by
  obtain ⟨m, cv, ad, y, _⟩ := X.mnew
  obtain ⟨ob, q, im⟩ := y.raw _ List.mem_cons_self
  obtain ⟨es, n, rfl, hf⟩ := im.dictI
  obtain ⟨u, _, iu⟩ := hf.get (name := "instream") (d := .pack st l) rfl
  exact iu.packI.2
noncomputable def thTab (c1 c2 : Addr) : Addr × MO := (166, .obj (tabObj (streamTab c1 c2)))
noncomputable abbrev thM (dx pb al st : Addr) (l : List (Addr × Obj)) (ln : Int) (q : List Str) (n : Nat) (c1 c2 : Addr) : List (Addr × MO) := lexM dx pb al st l ln (q.map .str) n ++ [thTab c1 c2]
/-- what _law_there gives: the ties, with the code object of the reader, and the order -/
noncomputable def ThereOut (w : Str) : OutT := fun d Mx' N => ∃ c1 c2 oc vs t, d = .tup [.also (.list ((thTies w).map .str)) [(c2, oc)], .list ((thOrder w).map .str)] ∧ oc.data = .fields vs ∧ vs[1]? = some (.str (Str.ofString "_law_stream.<locals>.read") t) ∧ Mx' = [thTab c1 c2] ∧ N = []
variable {W : Wd} {Pm : Params} (hW : W.K = hd02.heap_1 Pm)
include hW
theorem kl181 {k : Nat} {w : Str} (hok : thOk w = true) : KlX W (k + 13) (.ref 181) [.str w] [(166, .obj (tabObj #[]))] (ThereOut w) := by
  refine klx_fn (names := ["word"]) (fun P b => ⟨⟨_, b.k _ _ (by rw [hW]; rfl), rfl⟩, by rw [hW]; rfl, rfl, fun vs h => ?_, rfl, ?_, by decide, by decide, rfl, rfl, rfl, rfl, rfl⟩) rfl ?_
  · obtain ⟨v, rfl⟩ := len1 h; rfl
  · decide
  intro A L s₀ P₀ P s _ X
  obtain ⟨o1, o2, o3, o4, o5, o6, o7, o8, o9, o10, o11⟩ := thOk_out hok
  have hw : w.length ≤ 4000 := by rw [o1]; decide
  replace X : At W (k + 12) A _ s₀ P₀ _ [("word", .str w)] [] ([(166, .obj (tabObj #[]))] ++ []) P s := X
  refine s_setX X (evx_callC (C := 160) (O1 := StreamOut (W.at []) 166 (thText w)) (O2 := fun d1 d2 M' N => ∃ st l, d1 = .pack st l ∧ ∃ x dx fs N0, d2 = .inst x 160 dx ∧ M' = [] ∧ N = (dx, .dict fs) :: N0 ∧ ∃ pb, fs = lexF st l 1 pb ∧ N0 = [(pb, .list [])]) (nmG hW) (by rw [hW]; rfl) (evx_callF (nmG hW) (fnK hW) (evs_cons (ev_smeth (name := Str.ofString "join") (id := "str.join") (x := "\n") (ds := [.str w]) ev_str (evs_cons nv evs_nil) F.slot_str_join F.type_str_join (cl_joinStr o2) (hbase := base_const)) evs_nil) (kl171 (W := W.at []) hW o3).cl) (fun d Mx' N hO => ?_)) (bc rfl rfl) fun d Mx' N P s hO ha X => ?_
  · obtain ⟨st, l, al, c1, c2, oc, vs, t, rfl, _⟩ := hO
    intro A S P s E Q vs hst i dv hQ
    exact (cl94 (W := W.at []) hW (k := k + 10)) A S P s E Q vs hst i dv fun v P' s' d Mx' N ho => hQ v P' s' d Mx' N ⟨st, l, rfl, ho⟩
  obtain ⟨d1, N1, N2, ⟨st, l, al, c1, c2, oc, vs, t, rfl, hS, hoc, hv1, hv2, rfl, rfl⟩, ⟨_, _, e, x, dx, fs, N0, rfl, _, rfl, pb, rfl, rfl⟩, rfl⟩ := hO
  obtain ⟨rfl, rfl⟩ := D.pack.inj e
  replace X := X.forget (Γ' := [("line", .inst x 160 dx), ("word", .str w)]) (by trivial)
  have mG : MethK (W.at []).K 160 "get_token" 150 := methK hW
  have mP : MethK (W.at []).K 160 "push_token" 157 := methK hW
  have fG : FnK (W.at []).K 150 := fnK hW
  have fP : FnK (W.at []).K 157 := fnK hW
  have o1' : w.cps.toList.length = 3 := Array.length_toList.trans o1
  have hs3 : (signs w).length = 3 := (List.length_map ..).trans o1'
  have hlc : (chars w).length = 3 := (List.length_map ..).trans o1'
  replace X : At W (k + 12) A _ s₀ P₀ _ _ [] (lexM dx pb al _ _ (lexSt (thText w) 0).1 [] (lexSt (thText w) 0).2 ++ [thTab c1 c2]) P s := X
  refine s_setM X (evm_smeth (x := "") (d := .str (Txt.join "" (signs w))) ev_str (evsm_cons (EvMN.m (ds := (signs w).map .str) (evmn_for (fun i => lexM dx pb al st l (lexSt (thText w) i).1 [] (lexSt (thText w) i).2) [("line", .inst x 160 dx)] [] rfl (fun _ => rfl) (evi_str nv) (by rw [List.length_map, hs3, hlc]) (fun C i d d' h1 h2 => ?_) (hsz := by rw [hlc]; rfl)) rfl) evsm_nil rfl) F.slot_str_join F.type_str_join (cl_join o4) (hbase := base_const)) rfl (bc rfl rfl) fun P s X => ?_
  · rw [List.getElem?_map] at h2
    obtain ⟨c, hc, rfl⟩ := Option.map_eq_some_iff.mp h2
    have hi : i < 3 := hs3 ▸ (List.getElem?_eq_some_iff.mp hc).1
    rw [getD_at (ltL hs3 hi), ← o6 i hi] at hc
    obtain rfl := Option.some.inj hc
    exact evm_meth nv mG fG List.mem_cons_self rfl evs_nil (kl84 (W := W.at []) hW hS o3).cl
  rw [o5, hlc] at X
  generalize lexSt (thText w) 3 = p3 at X
  replace X : At W (k + 12) A _ s₀ P₀ _ _ [] (thM dx pb al st l p3.1 (thPush w 0) p3.2 c1 c2) P s := X
  replace X := X.forget (Γ' := [("told", .str w), ("line", .inst x 160 dx), ("word", .str w)]) (by trivial)
  refine s_forJ X (evi_str (x := "abcde") ev_str) (bl rfl) (fun _ => [("told", .str w), ("line", .inst x 160 dx), ("word", .str w)]) (fun _ => []) (fun i => thM dx pb al st l p3.1 (thPush w i) p3.2 c1 c2) rfl rfl rfl (fun _ => ⟨by trivial, by trivial⟩) (fun i d H' P s E' hd X => ?_) fun P s X => ?_
  · obtain ⟨c, hc, rfl, hc1⟩ := signs_get hd
    have hel := o7 c (List.mem_of_getElem? hc)
    refine s_ifM X (ts_cmp (ev_callF (nmG hW) (fnK hW) (evs_cons (ev_bin (ev_bin ev_str nv (op_add_str (sz2 dots3' (one4 hc1)))) ev_str (op_add_str (sz3 dots3' (one4 hc1) dots3'))) (evs_cons nv evs_nil)) (cl49 (W := W.at (thM dx pb al st l p3.1 (thPush w i) p3.2 c1 c2)) hW hel)) ev_bool op_is_bool) (Γ' := [("told", .str w), ("line", .inst x 160 dx), ("word", .str w)]) (Δ' := []) (Mx' := thM dx pb al st l p3.1 (thPush w (i + 1)) p3.2 c1 c2) (fun hb P s X => ?_) (fun hb P s X => ?_) fun P s X => s_nil ⟨P, X⟩
    · replace hb : (ell3 c w == false) = true := hb
      refine s_exprM X (evm_meth nv mP fP List.mem_cons_self rfl (evs_cons nv evs_nil) (kl91 (W := W.at []) hW (by rw [List.length_map]; exact Nat.le_trans (thPush_len w i) (pos_le hd))).cl) rfl fun P s X => s_nil ⟨P, ?_⟩
      exact (X.forget fun p h => .tail _ h).mem (by rw [thPush_succ hc, if_pos (by simpa using hb)]; show _ = lexM dx pb al st l p3.1 ((thPush w i ++ [c]).map .str) p3.2 ++ _; rw [List.map_append]; rfl)
    · replace hb : (ell3 c w == false) = false := hb
      exact (X.forget fun p h => .tail _ h).mem (by rw [thPush_succ hc, if_neg (by simpa using hb), List.append_nil])
  replace X : At W (k + 12) A _ s₀ P₀ _ _ [] (thM dx pb al st l p3.1 (thSt w 0).2 p3.2 c1 c2) P s := X
  refine s_setN (ds := (thSt w 0).1.map .str) X (evn_list evs_nil) (bc rfl rfl) fun P s X => ?_
  refine s_forJ X (evi_range1 (n := 3) (nmB hW) ev_int (by decide)) (bl rfl) (fun _ => [("told", .str w), ("line", .inst x 160 dx), ("word", .str w)]) (fun i => [("order", (thSt w i).1.map .str)]) (fun i => thM dx pb al st l p3.1 (thSt w i).2 p3.2 c1 c2) rfl rfl rfl (fun _ => ⟨by trivial, by trivial⟩) (fun i d H' P s E' hd X => ?_) fun P s X => ?_
  · obtain ⟨hi, rfl⟩ := rngs_get hd
    rw [Int.zero_add] at X
    obtain ⟨e1, e2, e3, e4⟩ := o8 i hi
    obtain ⟨hh, tl, hq⟩ := some_cons e2
    have hx := ix3 o1 hi
    rw [hq] at X e3
    have htl : tl.length ≤ 16384 := Nat.le_trans (Nat.le_of_succ_le e3) (by decide)
    refine s_appendM (Mx := lexM dx pb al st l p3.1 (.str hh :: tl.map .str) p3.2) (rest := [thTab c1 c2]) X (evm_meth nv mG fG List.mem_cons_self rfl evs_nil (kl84p (W := W.at []) hW (by rw [List.length_map]; exact htl)).cl) rfl (by rw [List.length_map]; exact Nat.le_trans (thSt_len w i) (Nat.le_trans (Nat.le_of_lt hi) (szl (by decide)))) fun P s X => ?_
    replace X : At W (k + 12) A _ s₀ _ _ _ _ (thM dx pb al st l p3.1 tl p3.2 c1 c2) P s := X
    refine s_ifM X (ts_cmp (ev_callF (nmG hW) (fnK hW) (evs_cons (ev_bin (ev_bin (ev_bin (ev_slice_str nv evo_none (evo_some (ev_bin nv ev_int op_add_int)) (Nat.le_trans hw (szl (by decide)))) ev_str (op_add_str (sz2 (l1 e4) dots3'))) (ev_item_str nv nv hx.1 hx.2.1 hx.2.2) (op_add_str (sz3 (l1 e4) dots3' (one4 rfl)))) ev_str (op_add_str (sz4 (l1 e4) dots3' (one4 rfl) dots3'))) (evs_cons nv evs_nil)) (cl49 (W := W.at (thM dx pb al st l p3.1 tl p3.2 c1 c2)) hW e1)) ev_bool op_is_bool) (Γ' := [("told", .str w), ("line", .inst x 160 dx), ("word", .str w)]) (Δ' := [("order", (thSt w (i + 1)).1.map .str)]) (Mx' := thM dx pb al st l p3.1 (thSt w (i + 1)).2 p3.2 c1 c2) (fun hb P s X => ?_) (fun hb P s X => ?_) fun P s X => s_nil ⟨P, X⟩
    · replace hb : (ellm (thW w i) w == false) = true := hb
      refine s_exprM X (evm_meth nv mP fP List.mem_cons_self rfl (evs_cons (ev_item_str nv nv hx.1 hx.2.1 hx.2.2) evs_nil) (kl91 (W := W.at []) hW (by rw [List.length_map]; exact htl)).cl) rfl fun P s X => s_nil ⟨P, ?_⟩
      exact ((X.forget fun p h => .tail _ h).delta (by rw [thSt_succ hq, List.map_append]; rfl)).mem (by rw [thSt_succ hq, if_neg (by simpa using hb)]; show _ = lexM dx pb al st l p3.1 ((tl ++ [Txt.item w i]).map .str) p3.2 ++ _; rw [List.map_append]; rfl)
    · replace hb : (ellm (thW w i) w == false) = false := hb
      exact ((X.forget fun p h => .tail _ h).delta (by rw [thSt_succ hq, List.map_append]; rfl)).mem (by rw [thSt_succ hq, if_pos (by simpa using hb), List.append_nil])
  rw [rngs_len] at X
  obtain ⟨a, b, hab⟩ := len2 o9
  have ho5 : thOrder w = (thSt w 3).1 ++ [a, b] := by rw [thOrder, hab]
  rw [hab] at X
  obtain ⟨P, X⟩ := X.freeze
  refine s_setM (Mx := lexM dx pb al st l p3.1 [.str a, .str b] p3.2) (Mx' := lexM dx pb al st l p3.1 [] p3.2) (rest := [thTab c1 c2]) X (EvMN.m (ds := (thOrder w).map .str) (by
    rw [ho5, List.map_append]
    exact evmn_addD nv (evmn_list (evsm_cons (evm_meth nv mG fG List.mem_cons_self rfl evs_nil (kl84p (W := W.at []) hW (pbs := [.str b]) (by show 1 ≤ 16384; decide)).cl) (evsm_cons (evm_meth nv mG fG List.mem_cons_self rfl evs_nil (kl84p (W := W.at []) hW (by decide)).cl) evsm_nil rfl) rfl)) (by rw [List.length_map]; exact Nat.le_trans (Nat.add_le_add_right (thSt_len w 3) 2) (szl rfl))) rfl) rfl (bc rfl rfl) fun P s X => ?_
  replace X := X.forget (Γ' := [("order", .list ((thOrder w).map .str)), ("told", .str w)]) (by trivial)
  have hg1 : ∀ j, j < 5 → ((thOrder w).getD j "").length = 1 := fun j hj => o11 _ (by rw [List.getD_eq_getElem?_getD, List.getElem?_eq_getElem (ltL o10 hj)]; exact List.getElem_mem _)
  have hl4 : (w ++ (thOrder w).getD 4 "").length = 4 := by rw [len_add, o1, hg1 4 (by decide)]
  refine s_ret (d := .tup [.list ((thTies w).map .str), .list ((thOrder w).map .str)]) X (ev_tuple (evs_cons (EvN.ev (evn_for [("order", .list ((thOrder w).map .str)), ("told", .str w)] [] (evi_range1 (n := 4) (nmB hW) ev_int (by decide)) (by rw [List.length_map, thTies, List.length_map, List.length_range, rngs_len]) (fun C i d d' h1 h2 => ?_) (hsz := by rw [rngs_len]; rfl))) (evs_cons nv evs_nil))) fun v P s X i => ⟨P, _, _, [thTab c1 c2], [], lexM dx pb al st l p3.1 [] p3.2, _, X.permM List.perm_append_comm, ⟨c1, c2, oc, vs, t, rfl, hv1, hv2, rfl, rfl⟩, rfl, (fun p hp => nomatch hp), tup_also i fun p hp => by rw [List.mem_singleton.mp hp]; exact X.streamP _ hoc⟩
  obtain ⟨hi, rfl⟩ := rngs_get h1
  rw [Int.zero_add]
  obtain rfl := at_rng hi h2
  have hx := ix4 hl4 hi
  exact ev_bin (ev_itS nv nv o10 (Nat.lt_succ_of_lt hi)) (ev_item_str (ev_bin nv (ev_itS (i := 4) nv ev_int o10 (by decide)) (op_add_str (sz2 hw (one4 (hg1 4 (by decide)))))) nv hx.1 hx.2.1 hx.2.2) (op_add_str (sz2 (one4 (hg1 i (Nat.lt_succ_of_lt hi))) (one4 rfl)))
end
section
set_option maxHeartbeats 4000000
theorem neg1 {n : Nat} (h : 1 ≤ n) : -(n : Int) ≤ -1 := Int.neg_le_neg (Int.ofNat_le.mpr h)
theorem neg2 {n : Nat} (h : 1 ≤ n) : (-1 : Int) < n := Int.lt_of_lt_of_le (by decide) (Int.natCast_nonneg n)
theorem len_is1 (x : Str) : decide (x.length = 1) = ((x.length : Int) == 1) := by
  rw [Bool.eq_iff_iff, decide_eq_true_iff, beq_iff_eq]; exact Int.ofNat_inj.symm
theorem item_ne (w : Str) (i : Int) : (Txt.item w i == "") = false := beq_eq_false_iff_ne.mpr fun e => by
  have h : (Txt.item w i).length = ("" : Str).length := congrArg Str.length e
  exact absurd (show (1 : Nat) = 0 from h) (by decide)
theorem hgPush_succ {ties : List Str} {t w : Str} {i : Nat} (h : ties[i]? = some t) : hgPush (ties.take (i + 1)) w = hgPush (ties.take i) w ++ (if (decide ((hgOth t w).length = 1) && !inS (hgOth t w) w) = true then [w ++ hgOth t w] else []) := by
  unfold hgPush
  rw [List.take_add_one, h, List.map_append, List.filter_append, List.map_append]
  show _ ++ List.map _ (List.filter _ [hgOth t w]) = _
  rw [List.filter_cons]
  split <;> rfl
theorem hgPush_len (ties : List Str) (w : Str) : (hgPush ties w).length ≤ ties.length := by
  unfold hgPush
  rw [List.length_map]
  exact Nat.le_trans (List.length_filter_le ..) (Nat.le_of_eq (List.length_map ..))
theorem snoc_of {l : List Str} (h : 1 ≤ l.length) : ∃ r a, l = r ++ [a] := by
  rcases List.eq_nil_or_concat l with e | ⟨r, a, e⟩
  · rw [e] at h; exact absurd h (by decide)
  · exact ⟨r, a, by rw [e, List.concat_eq_append]⟩
theorem hgSt_succ {ties : List Str} {top w : Str} {n : Nat} {ws : List Str} (h : (hgSt ties top n).2 = ws ++ [w]) : hgSt ties top (n + 1) = ((hgSt ties top n).1 ++ [w], ws ++ hgPush ties w) := by
  show hgStep ties (hgSt ties top n) = _
  unfold hgStep
  have e : (ws ++ [w]).reverse = w :: ws.reverse := by rw [List.reverse_append]; rfl
  rw [h, e]
  show (_, ws.reverse.reverse ++ _) = _
  rw [List.reverse_reverse]
theorem hgSt_len (ties : List Str) (top : Str) (n : Nat) : (hgSt ties top n).1.length ≤ n := by
  induction n with
  | zero => exact Nat.le_refl _
  | succ n ih =>
    show (hgStep ties (hgSt ties top n)).1.length ≤ n + 1
    unfold hgStep
    split
    · exact Nat.le_succ_of_le ih
    · rw [List.length_append]; exact Nat.succ_le_succ ih
theorem hgOk_out {ties : List Str} {top : Str} (h : hgOk ties top = true) : (∀ n, n < 5 → 1 ≤ (hgSt ties top n).2.length ∧ (hgSt ties top n).2.length ≤ 20 ∧ strsOk (hgSt ties top n).2 = true ∧ ∀ w ∈ (hgSt ties top n).2, (1 ≤ w.length ∧ w.length ≤ 100) ∧ ∀ t ∈ ties, (hgOth t w).length ≤ 100) ∧ (hgSt ties top 5).2 = [] ∧ (∀ t ∈ ties, t.length ≤ 100) ∧ ties.length ≤ 20 ∧ (hgOf ties top).length = 5 := by
  simp only [hgOk, Bool.and_eq_true, decide_eq_true_eq, List.all_eq_true] at h
  obtain ⟨⟨⟨⟨h1, h2⟩, h3⟩, h4⟩, h5⟩ := h
  exact ⟨fun n hn => by
    obtain ⟨⟨⟨a, b⟩, c⟩, d⟩ := h1 n (List.mem_range.mpr hn)
    exact ⟨a, b, c, d⟩, h2, h3, h4, h5⟩
variable {W : Wd} {Pm : Params} (hW : W.K = hd02.heap_1 Pm)
include hW
theorem cl188 {k : Nat} {ties : List Str} {top : Str} (hok : hgOk ties top = true) : Cl W (k + 1) (.ref 188) [.list (ties.map .str), .str top] (.list ((hgOf ties top).map .str)) := by
  refine cl_fn (names := ["ties", "top"]) (fun P b => ⟨⟨_, b.k _ _ (by rw [hW]; rfl), rfl⟩, by rw [hW]; rfl, rfl, fun vs h => ?_, rfl, ?_, by decide, by decide, rfl, rfl, rfl, rfl, rfl⟩) rfl ?_
  · obtain ⟨v, u, rfl⟩ := len2 h; rfl
  · decide
  intro A L s₀ P₀ H P s X
  obtain ⟨h1, h2, h3, h4, h5⟩ := hgOk_out hok
  replace X : At W k A _ s₀ P₀ H [("ties", .list (ties.map .str)), ("top", .str top)] [] [] P s := X
  refine s_setN X (evn_list evs_nil) (bl rfl) fun P s X => ?_
  refine s_setN X (evn_list (evs_cons nv evs_nil)) (bl rfl) fun P s X => ?_
  replace X := X.forget (Γ' := [("ties", .list (ties.map .str))]) (by trivial)
  refine s_whileS (α := Nat) X (fun n => 5 - n) (fun _ => [("ties", .list (ties.map .str))]) (fun n => [("ways", (hgSt ties top n).2.map .str), ("hung", (hgSt ties top n).1.map .str)]) (fun _ => []) (fun n => n ≤ 5) (fun n => !decide ((hgSt ties top n).2 = [])) 0 (by decide) rfl rfl rfl (fun n hn => ?_) (fun n P s E' hn ht X => ?_) fun n P s hn ht X => ?_
  · refine ts_neL (ys := []) nm (ev_list evs_nil) ?_ rfl
    rcases Nat.lt_or_eq_of_le hn with h | rfl
    · exact (h1 n h).2.2.1
    · rw [h2]; rfl
  · have hne : (hgSt ties top n).2 ≠ [] := by simpa using ht
    have hn5 : n < 5 := Nat.lt_of_le_of_ne hn fun e => hne (e ▸ h2)
    obtain ⟨g1, g2, g3, g4⟩ := h1 n hn5
    obtain ⟨ws, w, hq⟩ := snoc_of g1
    obtain ⟨⟨w1, w2⟩, w3⟩ := g4 w (by rw [hq]; exact List.mem_append_right _ List.mem_cons_self)
    have hss := hgSt_succ hq
    have hwl : ws.length ≤ 20 := by rw [hq, List.length_append] at g2; exact Nat.le_trans (Nat.le_add_right _ _) g2
    rw [hq, List.map_append] at X
    refine s_popN (ds := ws.map .str) (d := .str w) X (bl rfl) (by rw [List.length_map]; exact Nat.le_trans (Nat.succ_le_succ hwl) (szl (by decide))) fun P s X => ?_
    replace X : At W k A _ s₀ P₀ H [("way", .str w), ("ties", .list (ties.map .str))] [("hung", (hgSt ties top n).1.map .str), ("ways", ws.map .str)] [] P s := X.permD (List.Perm.swap ..)
    refine s_append X nv (by rw [List.length_map]; exact Nat.le_trans (hgSt_len ties top n) (Nat.le_trans hn (szl (by decide)))) fun P s X => ?_
    replace X : At W k A _ s₀ P₀ H [("way", .str w), ("ties", .list (ties.map .str))] [("ways", (ws ++ hgPush (ties.take 0) w).map .str), ("hung", (hgSt ties top (n + 1)).1.map .str)] [] P s := (X.permD (List.Perm.swap ..)).delta (by rw [hss, show hgPush (ties.take 0) w = [] from rfl, List.append_nil]; show _ = ([_, ("hung", ((hgSt ties top n).1 ++ [w]).map D.str)] : List (Str × List D)); rw [List.map_append]; rfl)
    refine s_forI X (evi_listP nv) (bl rfl) (fun _ => [("way", .str w), ("ties", .list (ties.map .str))]) (fun i => [("ways", (ws ++ hgPush (ties.take i) w).map .str), ("hung", (hgSt ties top (n + 1)).1.map .str)]) rfl rfl (fun _ => ⟨by trivial, by trivial⟩) (fun i d H' P s E' hd X => ?_) fun P s X => ?_
    · rw [List.getElem?_map] at hd
      obtain ⟨t, ht', rfl⟩ := Option.map_eq_some_iff.mp hd
      have hm := List.mem_of_getElem? ht'
      have hi : i ≤ 20 := Nat.le_trans (Nat.le_of_lt (List.getElem?_eq_some_iff.mp ht').1) h4
      have hsc := hgPush_succ (w := w) ht'
      refine s_set (d := .str (hgOth t w)) X (ev_replaceI nv nv (ev_un ev_int op_neg) rfl (neg1 w1) (neg2 w1) (item_ne w _) (Nat.le_trans (h3 t hm) (by decide))) (bl rfl) fun P s X => ?_
      refine s_ifM X (ts_and2 (ts_cmp (ev_callB (nmB hW) (evs_cons nv evs_nil) (cl_len_str (lt62 (Nat.le_trans (w3 t hm) (by decide))))) ev_int op_eq_int) (fun _ => ts_cmp nv nv op_notin_str)) (Γ' := [("way", .str w), ("ties", .list (ties.map .str))]) (Δ' := [("ways", (ws ++ hgPush (ties.take (i + 1)) w).map .str), ("hung", (hgSt ties top (n + 1)).1.map .str)]) (Mx' := []) (fun hb P s X => ?_) (fun hb P s X => ?_) fun P s X => s_nil ⟨P, X⟩
      · replace hb : (decide ((hgOth t w).length = 1) && !inS (hgOth t w) w) = true := (len_is1 _).symm ▸ hb
        refine s_append X (ev_bin nv nv (op_add_str (sz2 (l1 w2) (l1 (w3 t hm))))) (by rw [List.length_map, List.length_append]; exact Nat.le_trans (Nat.add_le_add hwl (Nat.le_trans (hgPush_len _ w) (List.length_take_le ..))) (Nat.le_trans (Nat.add_le_add_left hi 20) (szl (by decide)))) fun P s X => s_nil ⟨P, ?_⟩
        exact (X.forget (by trivial)).delta (by rw [hsc, if_pos hb, ← List.append_assoc, List.map_append (l₂ := [_])]; rfl)
      · replace hb : ¬ (decide ((hgOth t w).length = 1) && !inS (hgOth t w) w) = true := by rw [len_is1, show (_ : Bool) = false from hb]; exact Bool.false_ne_true
        exact (X.forget (by trivial)).delta (by rw [hsc, if_neg hb, List.append_nil]; rfl)
    · rw [List.length_map, List.take_length] at X
      exact s_nil ⟨n + 1, P, Nat.sub_lt_sub_left hn5 (Nat.lt_succ_self n), hn5, (X.forget fun p h => .tail _ h).delta (by show _ = ([("ways", (hgSt ties top (n + 1)).2.map D.str), ("hung", (hgSt ties top (n + 1)).1.map D.str)] : List (Str × List D)); rw [hss])⟩
  · have he : (hgSt ties top n).2 = [] := by simpa using ht
    have hn5 : n = 5 := by
      rcases Nat.lt_or_eq_of_le hn with h | h
      · have := (h1 n h).1; rw [he] at this; exact absurd this (by decide)
      · exact h
    subst hn5
    obtain ⟨P, X⟩ := (X.permD (List.Perm.swap ..)).freeze
    replace X : At W k A _ s₀ P₀ H [("hung", .list ((hgOf ties top).map .str)), ("ties", .list (ties.map .str))] [("ways", (hgSt ties top 5).2.map .str)] [] P s := X
    exact s_ret X nv fun v P s X i => ⟨P, _, _, _, X, i⟩
end
section
set_option maxHeartbeats 4000000
noncomputable def strQ (q : Str → Bool) : D → Bool
  | .str t => q t
  | _ => false
theorem filter_strs (q : Str → Bool) (xs : List Str) : ((xs.map D.str).filter (strQ q)).map id = (xs.filter q).map .str := by
  rw [List.map_id, List.filter_map]; rfl
section
variable {W : Wd} {k : Nat} {env : Env} {Γ : List (Str × D)} {Δ : List (Str × List D)}
/-- [x for x in xs if ..], strs -/
theorem evn_filterS {x : Str} {px pos ey : Pos} {test iter : Expr} {scope : Scope} {cl : List (Str × Addr)} {xs : List Str} {b : Bool} (Γ' : List (Str × D)) (q : Str → Bool) (hl : xs.length ≤ 20)
    (hI : EvI W k env Γ Δ b iter (xs.map .str))
    (ht : ∀ (C : Addr) (t : Str), t ∈ xs → Ts W k (compEnvC scope cl C env) ((x, .str t) :: Γ') [] test (q t))
    (hΓ : ∀ p ∈ Γ', p ∈ Γ := by trivial)
    (hclos : closureFor scope env = pure cl := by rfl) (hthru : Thru env scope cl (Γ'.map (·.1) ++ ([] : List (Str × List D)).map (·.1)) := by repeat (first | exact True.intro | refine And.intro ⟨by first | exact .inl rfl | exact .inr rfl, by first | exact .inl rfl | exact .inr rfl, rfl⟩ ?_))
    (hcell : ∀ y ∈ scope.names, y.2 ≠ .cell := by decide) (hkind : scope.kind = .function := by rfl)
    (hnames : ∀ y ∈ scope.names, y.2 = .local → scope.names.lookup y.1 = some .local := by decide) (hx : scope.names.lookup x = some .local := by rfl)
    (hs : ∀ v, foldedSetIterable iter env v = pure v := by intro _; rfl) (hd' : (x == ("__debug__" : Str)) = false := by decide) (hn' : (x == ("__classdict__" : Str)) = false := by decide) :
    EvN W k env Γ Δ (.ListComp (.Name x ey) [⟨.Name x px, iter, [test], 0⟩] scope pos) ((xs.filter q).map .str) := by
  rw [← filter_strs]
  refine evn_forif Γ' [] (strQ q) id hI (fun C d hd => ?_) (fun C d hd he => nv List.mem_cons_self hd' hn') hΓ sub_nil hclos hthru hcell hkind hnames hx (by rw [List.length_map]; exact Nat.ble_eq_true_of_le (Nat.le_trans hl (by decide))) hs
  obtain ⟨t, hm, rfl⟩ := List.mem_map.mp hd
  exact ht C t hm
end
theorem bkOk1_out {b : Bk} (h : bkOk1 b = true) : ∃ nm q, b.queue = nm :: q ∧ q.length ≤ 10 ∧ b.left.length ≤ 20 ∧ b.word.length ≤ 100 ∧ b.order.length ≤ 20 ∧ (nm == "") = false ∧ 1 ≤ (b.left.filter fun t => inS nm t).length ∧ (bkTie b.left nm).length ≤ 100 ∧ (Txt.replace (bkTie b.left nm) nm "").length ≤ 100 ∧ ((Builtin.Str.occurrences (bkTie b.left nm) nm 0 (bkTie b.left nm).length ((bkTie b.left nm).length + 1)).isEmpty || (nm.length == 0 && ("" : Str).length == 0)) = false := by
  obtain ⟨w, o, l, qu⟩ := b
  cases qu with
  | nil => simp [bkOk1] at h
  | cons nm q =>
    simp only [bkOk1, Bool.and_eq_true, decide_eq_true_eq, Bool.not_eq_true'] at h
    obtain ⟨⟨⟨⟨⟨_, h2⟩, h3⟩, h4⟩, h5⟩, ⟨⟨⟨h6, h7⟩, h8⟩, h9⟩, h10⟩ := h
    exact ⟨nm, q, rfl, Nat.le_of_succ_le h2, h3, h4, h5, h6, h7, h8, h9, h10⟩
theorem bkOk_out {ties : List Str} (h : bkOk ties = true) : ties.length ≤ 20 ∧ (∀ i, i < 3 → bkOk1 (bkSt ties i) = true) ∧ (bkSt ties 3).queue.length = 2 ∧ (bkSt ties 3).order.length ≤ 20 := by
  simp only [bkOk, Bool.and_eq_true, decide_eq_true_eq] at h
  obtain ⟨⟨⟨⟨⟨h0, h1⟩, h2⟩, h3⟩, h4⟩, h5⟩ := h
  refine ⟨h0, fun i hi => ?_, h4, h5⟩
  match i, hi with
  | 0, _ => exact h1
  | 1, _ => exact h2
  | 2, _ => exact h3
theorem bkFst_succ {left : List Str} {c : Str} {i : Nat} (h : (signs "abcde")[i]? = some c) : bkFst left (i + 1) = bkFst left i ++ (if bkLeaf left c = true then [c] else []) := by
  unfold bkFst
  rw [List.take_add_one, h, List.filter_append]
  cases hb : bkLeaf left c <;> simp [hb]
theorem bkFst_len (left : List Str) (n : Nat) : (bkFst left n).length ≤ n := Nat.le_trans (List.length_filter_le ..) (List.length_take_le ..)
theorem bkSt_succ {ties : List Str} {n : Nat} {nm : Str} {q : List Str} (h : (bkSt ties n).queue = nm :: q) : bkSt ties (n + 1) = ⟨(bkSt ties n).word ++ Txt.replace (bkTie (bkSt ties n).left nm) nm "", (bkSt ties n).order ++ [nm], (bkSt ties n).left.eraseIdx (bkIx (bkSt ties n).left (bkTie (bkSt ties n).left nm)), q ++ (if bkLeaf ((bkSt ties n).left.eraseIdx (bkIx (bkSt ties n).left (bkTie (bkSt ties n).left nm))) (Txt.replace (bkTie (bkSt ties n).left nm) nm "") then [Txt.replace (bkTie (bkSt ties n).left nm) nm ""] else [])⟩ := by
  show bkStep (bkSt ties n) = _
  unfold bkStep
  rw [h]
theorem leaf_is {left : List Str} {c : Str} : ((((left.filter fun t => inS c t).map D.str).length : Int) == 1) = bkLeaf left c := by
  unfold bkLeaf
  rw [List.length_map, Bool.eq_iff_iff, decide_eq_true_iff, beq_iff_eq]; exact Int.ofNat_inj
theorem EvM.weakT {W : Wd} {k : Nat} {env : Env} {Γ : List (Str × D)} {Δ : List (Str × List D)} {Mx M1 : List (Addr × MO)} {e : Expr} {x : Str} {b : Nat} (h : EvM W k env Γ Δ e (.strT x b) Mx M1) : EvM W k env Γ Δ e (.str x) Mx M1 := fun A S P s E Q st hC dv hoff hQ => h A S P s E Q st hC dv hoff fun v P' s' g tk dv i => hQ v P' s' g tk dv i.weak
theorem bkTie_at {left : List Str} {nm : Str} (h : 1 ≤ (left.filter fun t => inS nm t).length) : at? ((left.filter fun t => inS nm t).map D.str) 0 = some (.str (bkTie left nm)) := by
  unfold bkTie
  obtain ⟨a, r, e⟩ := some_cons h
  rw [e]; rfl
theorem bkTie_mem {left : List Str} {nm : Str} (h : 1 ≤ (left.filter fun t => inS nm t).length) : bkTie left nm ∈ left := by
  unfold bkTie
  obtain ⟨a, r, e⟩ := some_cons h
  rw [e]
  exact (List.mem_filter.mp (show a ∈ left.filter fun t => inS nm t by rw [e]; exact List.mem_cons_self)).1
theorem bkIx_at {left : List Str} {tie : Str} (h : tie ∈ left) : left[bkIx left tie]? = some tie ∧ ∀ m z, m < bkIx left tie → left[m]? = some z → (z == tie) = false := by
  unfold bkIx
  have hl : left.findIdx (· == tie) < left.length := List.findIdx_lt_length_of_exists ⟨tie, h, beq_self_eq_true _⟩
  refine ⟨?_, fun m z hm hz => ?_⟩
  · rw [List.getElem?_eq_getElem hl]
    exact congrArg some (eq_of_beq (List.findIdx_getElem (w := hl)))
  · have hml : m < left.length := Nat.lt_trans hm hl
    rw [List.getElem?_eq_getElem hml] at hz
    have := List.not_of_lt_findIdx hm
    rw [Option.some.inj hz] at this
    simpa using this
noncomputable abbrev tkD (q : List (Str × Nat)) : List D := q.map fun p => .strT p.1 p.2
theorem tkD_app (q r : List (Str × Nat)) : tkD (q ++ r) = tkD q ++ tkD r := List.map_append
variable {W : Wd} {Pm : Params} (hW : W.K = hd02.heap_1 Pm)
include hW
theorem kl193 {k n : Nat} {x dx pb al st : Addr} {l : List (Addr × Obj)} {ln : Int} {ties : List Str} (hok : bkOk ties = true) :
    KlM W (k + 3) (.ref 193) [.inst x 160 dx, .list (ties.map .str)] (.tup [.str (bkWord ties), .list ((bkOrder ties).map .str)]) (lexM dx pb al st l ln [] n) (lexM dx pb al st l ln [] n) := by
  refine klm_fn (names := ["line", "ties"]) (fun P b => ⟨⟨_, b.k _ _ (by rw [hW]; rfl), rfl⟩, by rw [hW]; rfl, rfl, fun vs h => ?_, rfl, ?_, by decide, by decide, rfl, rfl, rfl, rfl, rfl⟩) rfl rfl ?_
  · obtain ⟨v, u, rfl⟩ := len2 h; rfl
  · decide
  intro A L s₀ P₀ P s _ X
  obtain ⟨h1, h2, h3, h4⟩ := bkOk_out hok
  have mG : MethK (W.at []).K 160 "get_token" 150 := methK hW
  have mP : MethK (W.at []).K 160 "push_token" 157 := methK hW
  have fG : FnK (W.at []).K 150 := fnK hW
  have fP : FnK (W.at []).K 157 := fnK hW
  replace X : At W (k + 2) A _ s₀ P₀ _ [("line", .inst x 160 dx), ("ties", .list (ties.map .str))] [] (lexM dx pb al st l ln [] n) P s := X
  refine s_setN X (evn_listOf (nmB hW) (Ev.list nv) (by rw [List.length_map]; exact Nat.le_trans h1 (szl (by decide)))) (bl rfl) fun P s X => ?_
  replace X : At W (k + 2) A _ s₀ P₀ _ _ _ (lexM dx pb al st l ln (tkD []) n) P s := X.forget (Γ' := [("line", .inst x 160 dx)]) (by trivial)
  refine s_forT X (ev_str (x := "abcde")) (by decide +kernel) (bc rfl rfl) 0 (Nat.zero_le _) (fun i T Γ' Δ' Mx' => ∃ q : List (Str × Nat), q.map (·.1) = bkFst ties i ∧ (∀ p ∈ q, p.2 ≤ T) ∧ Eq3 Γ' Δ' Mx' [("line", .inst x 160 dx)] [("left", ties.map .str)] (lexM dx pb al st l ln (tkD q) n)) ⟨[], rfl, (fun p hp => nomatch hp), rfl, rfl, rfl⟩ ?_ ?_ ?_
  · rintro i T Γ' Δ' Mx' ⟨q, _, _, rfl, rfl, rfl⟩
    exact ⟨by trivial, by trivial⟩
  · rintro i c T tk H' Γ' Δ' Mx' P' s' E' hc ⟨q, hq, hqT, rfl, rfl, rfl⟩ hT htk X
    refine wpAny_with_toks (n := s'.toks) (Nat.le_refl _) ?_
    obtain ⟨cc, hcc, e, _⟩ := signs_get (x := "abcde") (i := i) (d := .str ⟨#[c]⟩) (by unfold chars; rw [List.getElem?_map, Array.getElem?_toList, hc]; rfl)
    obtain rfl := D.str.inj e
    have hqs := bkFst_succ (left := ties) hcc
    refine s_ifM (Q := fun f s'' => s'.toks ≤ s''.toks → ForTQ W (k + 2) A _ s₀ P' H' _ _ f s'') X (ts_cmp (ev_callBL (nmB hW) (EvN.l (evn_filterS [("name", .strT ⟨#[c]⟩ tk)] (fun t => inS ⟨#[c]⟩ t) h1 (evi_list nm) (fun C t _ => ts_cmp (Ev.weakT nv) nv op_in_str))) (cl_len_list (by rw [List.length_map]; exact lt62 (Nat.le_trans (List.length_filter_le ..) (Nat.le_trans h1 (by decide)))))) ev_int op_eq_int) (Γ' := [("line", .inst x 160 dx)]) (Δ' := [("left", ties.map .str)]) (Mx' := lexM dx pb al st l ln (tkD (q ++ (if bkLeaf ties ⟨#[c]⟩ = true then [(⟨#[c]⟩, tk)] else []))) n) (fun hb P s X => ?_) (fun hb P s X => ?_) fun P s X => s_nil fun hT2 => ⟨s'.toks, _, _, _, P, ⟨q ++ (if bkLeaf ties ⟨#[c]⟩ = true then [(⟨#[c]⟩, tk)] else []), ?_, ?_, rfl, rfl, rfl⟩, hT2, X⟩
    · rw [leaf_is] at hb
      rw [if_pos hb]
      refine s_exprM (Mx := lexM dx pb al st l ln (tkD q) n) (rest := []) X (evm_meth nv mP fP List.mem_cons_self rfl (evs_cons nv evs_nil) (kl91 (W := W.at []) hW (by rw [List.length_map, ← List.length_map (f := (·.1)), hq]; exact Nat.le_trans (bkFst_len ties i) (pos_le (d := .str ⟨#[c]⟩) (by unfold chars; rw [List.getElem?_map, Array.getElem?_toList, hc]; rfl)))).cl) rfl fun P s X => s_nil ⟨P, ?_⟩
      exact (X.forget fun p h => .tail _ h).mem (by rw [tkD_app]; rfl)
    · rw [leaf_is] at hb
      rw [if_neg (by rw [hb]; exact Bool.false_ne_true), List.append_nil]
      exact X.forget fun p h => .tail _ h
    · rw [List.map_append, hq, hqs]
      cases bkLeaf ties ⟨#[c]⟩ <;> rfl
    · intro p hp
      rcases List.mem_append.mp hp with hp | hp
      · exact Nat.le_trans (hqT p hp) hT
      · split at hp
        · rw [List.mem_singleton.mp hp]; exact htk
        · exact nomatch hp
  · rintro T Γ' Δ' Mx' P s ⟨q, hq, hqT, rfl, rfl, rfl⟩ hT X
    refine s_tok hT (s_set X ev_str (bl rfl) fun P s X => s_nil fun hT => ?_)
    refine s_tok hT (s_setN X (evn_list evs_nil) (bl rfl) fun P s X => s_nil fun hT => ?_)
    refine s_forTI X (evi_range1 (n := 3) (nmB hW) ev_int (by decide)) (bl rfl) T hT (fun i T Γ' Δ' Mx' => ∃ q : List (Str × Nat), q.map (·.1) = (bkSt ties i).queue ∧ (∀ p ∈ q, p.2 ≤ T) ∧ Eq3 Γ' Δ' Mx' [("word", .str (bkSt ties i).word), ("line", .inst x 160 dx)] [("order", (bkSt ties i).order.map .str), ("left", (bkSt ties i).left.map .str)] (lexM dx pb al st l ln (tkD q) n)) ⟨q, hq, hqT, rfl, rfl, rfl⟩ ?_ ?_ ?_
    · rintro i T Γ' Δ' Mx' ⟨q, _, _, rfl, rfl, rfl⟩
      exact ⟨by trivial, by trivial⟩
    · clear hq hqT hT X
      rintro i d T H' Γ' Δ' Mx' P' s' E' hd ⟨q, hq, hqT, rfl, rfl, rfl⟩ hT X
      obtain ⟨hi, rfl⟩ := rngs_get hd
      obtain ⟨na, qs, hq0, e1, e2, e3, e4, e5, e6, e7, e8, e9⟩ := bkOk1_out (h2 i hi)
      have hss := bkSt_succ hq0
      generalize bkSt ties i = B at *
      obtain ⟨b, q2, rfl, hq2⟩ : ∃ b q2, q = (na, b) :: q2 ∧ q2.map (·.1) = qs := by
        rw [hq0] at hq
        cases q with
        | nil => exact nomatch hq
        | cons p q2 =>
          obtain ⟨z1, z2⟩ := List.cons.inj hq
          exact ⟨p.2, q2, by rw [← z1], z2⟩
      have hlt := bkIx_at (bkTie_mem e6)
      have hql : q2.length ≤ 10 := by rw [← hq2, List.length_map] at e1; exact e1
      refine s_tok hT (s_setM (Mx := lexM dx pb al st l ln (.strT na b :: tkD q2) n) (Mx' := lexM dx pb al st l ln (tkD q2) n) (rest := []) X (evm_meth nv mG fG List.mem_cons_self rfl evs_nil (kl84p (W := W.at []) hW (by rw [List.length_map]; exact Nat.le_trans hql (by decide))).cl) rfl (bc rfl rfl) fun P s X => s_nil fun hT => ?_)
      replace X : At W (k + 2) A _ s₀ P' H' [("name", .strT na b), ("word", .str B.word), ("line", .inst x 160 dx)] [("order", B.order.map .str), ("left", B.left.map .str)] (lexM dx pb al st l ln (tkD q2) n) P s := X.forget (by trivial)
      refine s_tok hT (s_set (d := .str (bkTie B.left na)) X (ev_item_list (EvN.l (evn_filterS [("name", .strT na b)] (fun t => inS na t) e2 (evi_list nm) (fun C t _ => ts_cmp (Ev.weakT nv) nv op_in_str))) ev_int (bkTie_at e6) (by decide)) (bl rfl) fun P s X => s_nil fun hT => ?_)
      replace X : At W (k + 2) A _ s₀ P' H' [("tie", .str (bkTie B.left na)), ("name", .strT na b), ("word", .str B.word), ("line", .inst x 160 dx)] [("left", B.left.map .str), ("order", B.order.map .str)] (lexM dx pb al st l ln (tkD q2) n) P s := (X.permD (List.Perm.swap ..)).forget (by trivial)
      refine s_tok hT (s_removeN X nv hlt.1 hlt.2 (Nat.le_trans e2 (szl (by decide))) fun P s X => s_nil fun hT => ?_)
      generalize hlf : B.left.eraseIdx (bkIx B.left (bkTie B.left na)) = lf at X hss
      have hlf2 : lf.length ≤ 20 := by rw [← hlf]; exact Nat.le_trans (List.length_eraseIdx_le ..) e2
      refine s_tok hT (s_replT X nv nv (Nat.le_trans (hqT _ List.mem_cons_self) hT) e5 (Nat.le_trans e7 (by decide)) e9 (bc rfl rfl) fun b' P s hb' X => s_nil fun hT => ?_)
      generalize hot : Txt.replace (bkTie B.left na) na "" = ot at X hss e8
      replace X : At W (k + 2) A _ s₀ P' H' [("other", .strT ot b'), ("name", .strT na b), ("word", .str B.word), ("line", .inst x 160 dx)] [("order", B.order.map .str), ("left", lf.map .str)] (lexM dx pb al st l ln (tkD q2) n) P s := (X.permD (List.Perm.swap ..)).forget (by trivial)
      refine wpAny_with_toks (n := s.toks) (Nat.le_refl _) ?_
      refine s_set (d := .str (B.word ++ ot)) X (ev_bin nv (Ev.weakT nv) (op_add_str (sz2 (l1 e3) (l1 e8)))) (bl rfl) fun P s2 X => ?_
      replace X : At W (k + 2) A _ s₀ P' H' [("word", .str (B.word ++ ot)), ("other", .strT ot b'), ("name", .strT na b), ("line", .inst x 160 dx)] [("order", B.order.map .str), ("left", lf.map .str)] (lexM dx pb al st l ln (tkD q2) n) P s2 := X.forget (by trivial)
      refine s_append X (Ev.weakT nv) (by rw [List.length_map]; exact Nat.le_trans e4 (szl (by decide))) fun P s2 X => ?_
      refine s_ifM (Q := fun f s'' => s.toks ≤ s''.toks → ForTQ W (k + 2) A _ s₀ P' H' _ _ f s'') X (ts_cmp (ev_callBL (nmB hW) (EvN.l (evn_filterS [("other", .strT ot b')] (fun t => inS ot t) hlf2 (evi_list nm) (fun C t _ => ts_cmp (Ev.weakT nv) nv op_in_str))) (cl_len_list (by rw [List.length_map]; exact lt62 (Nat.le_trans (List.length_filter_le ..) (Nat.le_trans hlf2 (by decide)))))) ev_int op_eq_int) (Γ' := [("word", .str (B.word ++ ot)), ("line", .inst x 160 dx)]) (Δ' := [("order", (B.order ++ [na]).map .str), ("left", lf.map .str)]) (Mx' := lexM dx pb al st l ln (tkD (q2 ++ (if bkLeaf lf ot = true then [(ot, b')] else []))) n) (fun hb P s2 X => ?_) (fun hb P s2 X => ?_) fun P s2 X => s_nil fun hT2 => ⟨s.toks, _, _, _, P, ⟨q2 ++ (if bkLeaf lf ot = true then [(ot, b')] else []), ?_, ?_, by rw [hss], by rw [hss], rfl⟩, hT2, X⟩
      · rw [leaf_is] at hb
        rw [if_pos hb]
        refine s_exprM (Mx := lexM dx pb al st l ln (tkD q2) n) (rest := []) X (evm_meth nv mP fP List.mem_cons_self rfl (evs_cons nv evs_nil) (kl91 (W := W.at []) hW (by rw [List.length_map]; exact Nat.le_trans hql (by decide))).cl) rfl fun P s X => s_nil ⟨P, ?_⟩
        exact ((X.forget (by trivial)).delta (by rw [List.map_append]; rfl)).mem (by rw [tkD_app]; rfl)
      · rw [leaf_is] at hb
        rw [if_neg (by rw [hb]; exact Bool.false_ne_true), List.append_nil]
        exact (X.forget (by trivial)).delta (by rw [List.map_append]; rfl)
      · rw [List.map_append, hq2, hss]
        cases bkLeaf lf ot <;> rfl
      · intro p hp
        rcases List.mem_append.mp hp with hp | hp
        · exact Nat.le_trans (hqT p (List.mem_cons_of_mem _ hp)) hT
        · split at hp
          · rw [List.mem_singleton.mp hp]; exact hb'
          · exact nomatch hp
    · clear hq hqT hT X
      rintro T Γ' Δ' Mx' P s ⟨q, hq, hqT, rfl, rfl, rfl⟩ hT X
      rw [rngs_len] at hq X
      obtain ⟨p1, p2, rfl⟩ := len2 (vs := q) (by rw [← h3, ← hq, List.length_map])
      have hbo : bkOrder ties = (bkSt ties 3).order ++ [p1.1, p2.1] := by rw [bkOrder, ← hq]; rfl
      obtain ⟨P, X⟩ := X.freeze
      replace X : At W (k + 2) A _ s₀ P₀ _ [("order", .list ((bkSt ties 3).order.map .str)), ("word", .str (bkWord ties)), ("line", .inst x 160 dx)] _ _ P s := X
      refine s_retM (Mx := lexM dx pb al st l ln [.strT p1.1 p1.2, .strT p2.1 p2.2] n) (Mx' := lexM dx pb al st l ln [] n) (rest := []) (d := .tup [.str (bkWord ties), .list ((bkOrder ties).map .str)]) X (evm_tuple (evsm_cons (evm_of nv) (evsm_cons (EvMN.m (Mx' := lexM dx pb al st l ln [] n) (ds := (bkOrder ties).map .str) (by
        rw [hbo, List.map_append]
        exact evmn_addD nv (evmn_list (evsm_cons (evm_meth nv mG fG List.mem_cons_self rfl evs_nil (kl84p (W := W.at []) hW (pbs := [.strT p2.1 p2.2]) (by show 1 ≤ 16384; decide)).cl).weakT (evsm_cons (evm_meth nv mG fG List.mem_cons_self rfl evs_nil (kl84p (W := W.at []) hW (by show 0 ≤ 16384; decide)).cl).weakT evsm_nil rfl) rfl)) (by rw [List.length_map]; exact Nat.le_trans (Nat.add_le_add_right h4 2) (szl rfl))) rfl) evsm_nil rfl) rfl)) rfl fun v P s X i => ?_
      exact ⟨P, _, _, [], X, i⟩
end
section
set_option maxHeartbeats 4000000
/-! law 02: what its own lines compute -/
noncomputable def wordOf (dr : List Int) : Str := Txt.join "" (wordL dr)
noncomputable def lastQ (w : Str) (i : Nat) : Bool := !inS (Txt.item w (i : Int)) (Txt.slice w (some ((i : Int) + 1)) none)
noncomputable def lastOf (w : Str) : List Str := ((List.range 3).filter (lastQ w)).map fun (i : Nat) => Txt.item w (i : Int)
noncomputable def freeOf (w : Str) : List Str := (signs "abcde").filter fun c => !inS c w
noncomputable def topOf (dr : List Int) : Str := Txt.item "abcde" (Int.fmod (dr.getD 3 0) 5)
noncomputable def huOf (dr : List Int) : List Str := hgOf (thTies (wordOf dr)) (topOf dr)
noncomputable def chIx (c : Nat) : Int := Txt.find "abcde" ⟨#[c]⟩
noncomputable def chOk (c : Nat) : Bool := !(Builtin.Str.occurrences "abcde" ⟨#[c]⟩ 0 5 1).isEmpty && decide (0 ≤ chIx c) && decide (chIx c < 5)
noncomputable def digit (d : Int) (n : Nat) : Int := Int.fmod (Int.fdiv (Int.fdiv d 5) (3 ^ n)) 3
noncomputable def tailOf (row : Str) : Str := Txt.slice row (some 1) none
noncomputable def stepsOf (d3 : Int) (way : Str) : List Int := (tailOf way).cps.toList.map fun c => digit d3 (chIx c).toNat
noncomputable def drawnRow (d3 : Int) (way : Str) (r : Nat) : Str := ((leadOf (stepsOf d3 way) ++ Txt.join "." (signs way)) ++ sepOf r) ++ ".\""
noncomputable def rowOk (d3 : Int) (way : Str) (r : Nat) : Bool := decide (way.length ≤ 100) && (tailOf way).cps.toList.all chOk && leadOk (stepsOf d3 way) && JoinOk "." (signs way) && decide ((leadOf (stepsOf d3 way)).length ≤ 1000) && decide ((Txt.join "." (signs way)).length ≤ 1000) && decide ((drawnRow d3 way r).length ≤ 1000)
noncomputable def drawnOf (d3 : Int) (hu : List Str) : List Str := (List.range 5).map fun r => drawnRow d3 (hu.getD r "") r
noncomputable def kindsOf (d2 : Int) : List Int := (List.range 5).map fun r => digit d2 r
noncomputable def nmAt (drawn : List Str) (i : Nat) : Str := sed (drawn.getD i "")
noncomputable def hidOf (d0 : Int) : Str := hiddens.getD (Int.fmod (Int.fdiv d0 5) 6).toNat ""
noncomputable def spotsOf (d1 : Int) (hid : Str) : List Int := [Int.fmod (Int.fdiv d1 5) 4] ++ List.replicate (if hid != "\"" then 1 else 0) 0
noncomputable def partOf (drawn hu : List Str) (hid : Str) (spots : List Int) (r : Nat) : Str := (nmAt drawn r ++ Txt.mul hid (if spots.any (· == (r : Int)) then 1 else 0)) ++ Txt.mul ")" (((hu.getD r "").length : Int) - ((hu.getD (r + 1) "").length : Int) + 1)
noncomputable def partsOf (drawn hu : List Str) (hid : Str) (spots : List Int) : List Str := (List.range 4).map (partOf drawn hu hid spots)
noncomputable def partOk (drawn hu : List Str) (hid : Str) (spots : List Int) (r : Nat) : Bool := decide ((nmAt drawn r).length ≤ 100) && mulOk hid (if spots.any (· == (r : Int)) then 1 else 0) && decide ((Txt.mul hid (if spots.any (· == (r : Int)) then 1 else 0)).length ≤ 100) && mulOk ")" (((hu.getD r "").length : Int) - ((hu.getD (r + 1) "").length : Int) + 1) && decide ((Txt.mul ")" (((hu.getD r "").length : Int) - ((hu.getD (r + 1) "").length : Int) + 1)).length ≤ 100) && decide ((hu.getD r "").length ≤ 100) && decide ((hu.getD (r + 1) "").length ≤ 100)
/-- whether row one's lead is less than row two's -/
noncomputable def lessAt (drawn : List Str) (one two : Nat) : Bool := wsLess (wsOf (drawn.getD one "")) (wsOf (drawn.getD two ""))
noncomputable def aboveL (drawn : List Str) (row : Nat) : List Str := ((List.range row).filter fun one => lessAt drawn one row).map (nmAt drawn)
noncomputable def byLead (drawn : List Str) (row : Nat) : Str := Txt.join "" ((aboveL drawn row).drop ((aboveL drawn row).length - 1)) ++ nmAt drawn row
noncomputable def dotAt (drawn : List Str) (row : Nat) : Str := dotOf (drawn.getD row "") row
noncomputable def byDot (drawn : List Str) (row : Nat) : Str := sed (Txt.slice (dotAt drawn row) none (some (-2))) ++ nmAt drawn row
noncomputable def brAt (parts : List Str) (one row : Nat) : Str := Txt.join "(" ((parts.drop one).take (row - one))
noncomputable def takenOf (parts : List Str) (row : Nat) : List Nat := (List.range row).filter fun one => ckpar (brAt parts one row)
noncomputable def byBr (drawn parts : List Str) (row : Nat) : List Str := (takenOf parts row).map fun one => nmAt drawn one ++ nmAt drawn row
noncomputable def rowsTo {α : Type} (f : Nat → List α) (n : Nat) : List α := (List.range n).flatMap fun r => f (r + 1)
noncomputable def byLeads (drawn : List Str) (n : Nat) : List Str := (List.range n).map fun r => byLead drawn (r + 1)
noncomputable def byDots (drawn : List Str) (n : Nat) : List Str := (List.range n).map fun r => byDot drawn (r + 1)
noncomputable def byBrs (drawn parts : List Str) (n : Nat) : List Str := rowsTo (byBr drawn parts) n
noncomputable def againOf (w : Str) : List Str := signs (w ++ w) ++ ([""] : List Str)
structure LexOk2 (text : Str) (drawn : List Str) : Prop where
  toks : ∀ i, i < 5 → lexTok text i = drawn.getD i ""
  end_ : lexTok text 5 = ""
  ln6 : (lexSt text 6).1 = 7
/-- what a row below the first asks -/
noncomputable def lowOk (drawn parts : List Str) (row : Nat) : Bool := JoinOk "" ((aboveL drawn row).drop ((aboveL drawn row).length - 1)) && decide ((Txt.join "" ((aboveL drawn row).drop ((aboveL drawn row).length - 1))).length ≤ 100)
  && decide ((Txt.slice (dotAt drawn row) none (some (-2))).length ≤ 1000) && decide ((sed (Txt.slice (dotAt drawn row) none (some (-2)))).length ≤ 100)
  && (List.range row).all fun one => JoinOk "(" ((parts.drop one).take (row - one)) && ckOk (brAt parts one row)
structure LawOk (dr : List Int) : Prop where
  len : dr.length = 4
  word : JoinOk "" (wordL dr) = true
  there : thOk (wordOf dr) = true
  order : thOrder (wordOf dr) = freeOf (wordOf dr) ++ lastOf (wordOf dr)
  hung : hgOk (thTies (wordOf dr)) (topOf dr) = true
  row : ∀ r, r < 5 → rowOk (dr.getD 3 0) ((huOf dr).getD r "") r = true
  text : textOk (drawnOf (dr.getD 3 0) (huOf dr)) (kindsOf (dr.getD 2 0)) = true
  lex : LexOk2 (textOf (drawnOf (dr.getD 3 0) (huOf dr)) (kindsOf (dr.getD 2 0))) (drawnOf (dr.getD 3 0) (huOf dr))
  sok : strsOk (drawnOf (dr.getD 3 0) (huOf dr)) = true
  sokO : strsOk (thOrder (wordOf dr)) = true
  sokA : strsOk (againOf (wordOf dr)) = true
  dot : ∀ r, r < 5 → dotOk ((drawnOf (dr.getD 3 0) (huOf dr)).getD r "") r = true
  nm : ∀ r, r < 5 → (nmAt (drawnOf (dr.getD 3 0) (huOf dr)) r).length ≤ 100
  part : ∀ r, r < 4 → partOk (drawnOf (dr.getD 3 0) (huOf dr)) (huOf dr) (hidOf (dr.getD 0 0)) (spotsOf (dr.getD 1 0) (hidOf (dr.getD 0 0))) r = true
  low : ∀ r, r < 4 → lowOk (drawnOf (dr.getD 3 0) (huOf dr)) (partsOf (drawnOf (dr.getD 3 0) (huOf dr)) (huOf dr) (hidOf (dr.getD 0 0)) (spotsOf (dr.getD 1 0) (hidOf (dr.getD 0 0)))) (r + 1) = true
  br : byBrs (drawnOf (dr.getD 3 0) (huOf dr)) (partsOf (drawnOf (dr.getD 3 0) (huOf dr)) (huOf dr) (hidOf (dr.getD 0 0)) (spotsOf (dr.getD 1 0) (hidOf (dr.getD 0 0)))) 4 = byLeads (drawnOf (dr.getD 3 0) (huOf dr)) 4
  dots : byDots (drawnOf (dr.getD 3 0) (huOf dr)) 4 = byLeads (drawnOf (dr.getD 3 0) (huOf dr)) 4
  sokB : strsOk (byLeads (drawnOf (dr.getD 3 0) (huOf dr)) 4) = true
  back : bkOk (byLeads (drawnOf (dr.getD 3 0) (huOf dr)) 4) = true
  backW : bkWord (byLeads (drawnOf (dr.getD 3 0) (huOf dr)) 4) = wordOf dr
  backO : bkOrder (byLeads (drawnOf (dr.getD 3 0) (huOf dr)) 4) = thOrder (wordOf dr)
end
section
set_option maxHeartbeats 4000000
noncomputable def stmtsOf (fd : FuncData) : List Stmt := match fd.body with | .stmts b => b | _ => []
noncomputable def forB : List Stmt → List Stmt
  | .For _ _ b _ _ :: _ => b
  | _ => []
noncomputable def lawF (Pm : Params) : Option FuncData := match (hd02.heap_1 Pm).lookup 198 with
  | some o => match o.data with | .func fd => some fd | _ => none
  | none => none
theorem fmod_in {a n : Int} (h : 0 < n) : 0 ≤ Int.fmod a n ∧ Int.fmod a n < n := ⟨Int.fmod_nonneg_of_pos _ h, Int.fmod_lt_of_pos _ h⟩
theorem fit5 {a : Int} (h : 0 ≤ a ∧ a < 5) : fitsSsize a = true ∧ -(("abcde" : Str).length : Int) ≤ a ∧ a < ("abcde" : Str).length := by
  obtain ⟨n, rfl⟩ := Int.eq_ofNat_of_zero_le h.1
  have hn : n ≤ 4 := Nat.le_of_lt_succ (Int.ofNat_lt.mp h.2)
  exact le4 n hn
theorem pick_take {ds : List D} {n : Nat} : pick ds none (some (n : Int)) = ds.take n := by
  have h1 : kms_lo none ds.length = 0 := rfl
  have h2 : kms_hi (some (n : Int)) ds.length = min n ds.length := by
    simp [kms_hi]
    intro h; omega
  unfold pick
  rw [h1, h2, List.drop_zero, Nat.sub_zero, List.take_eq_take_iff]
  simp
theorem pick3 {dr : List Int} : pick (dr.map D.int) none (some 3) = (dr.take 3).map .int := by
  rw [show (3 : Int) = ((3 : Nat) : Int) from rfl, pick_take, List.map_take]
theorem len_take4 {ns : List Int} : (ns.take 4).length ≤ 4 := by rw [List.length_take]; exact Nat.min_le_left ..
theorem ble_of {n m : Nat} (h : n ≤ m) : Nat.ble n m = true := Nat.ble_eq_true_of_le h
theorem lenI (l : List Int) : (l.length : Int) = ((l.map D.int).length : Int) := by rw [List.length_map]
theorem chars_eq (x : Str) : chars x = (signs x).map .str := by
  unfold chars signs; rw [List.map_map]; rfl
noncomputable def intQ (q : Int → Bool) : D → Bool
  | .int i => q i
  | _ => false
noncomputable def itW (w : Str) : D → D
  | .int i => .str (Txt.item w i)
  | d => d
theorem last_eq (w : Str) : ((rngs 0 3).filter (intQ fun i => lastQ w i.toNat)).map (itW w) = (lastOf w).map .str := by
  unfold rngs lastOf
  rw [List.filter_map, List.map_map, List.map_map]
  have e : ((intQ fun i => lastQ w i.toNat) ∘ fun (i : Nat) => D.int (0 + (i : Int))) = lastQ w := by
    funext i
    show lastQ w ((0 + (i : Int)).toNat) = _
    rw [Int.zero_add, Int.toNat_natCast]
  rw [e]
  refine List.map_congr_left fun i _ => ?_
  show D.str (Txt.item w (0 + (i : Int))) = _
  rw [Int.zero_add]; rfl
variable {W : Wd} {Pm : Params} (hW : W.K = hd02.heap_1 Pm)
include hW
theorem segA {k : Nat} {A : Around} {L : Addr} {s₀ : Shared} {P₀ H P : Vw} {s : Shared} {fd : FuncData} {Q : Flow → Shared → Prop} {E : Value → Shared → Prop} {dr : List Int} (hf : lawF Pm = some fd) (hl4 : dr.length = 4) (hwd : JoinOk "" (wordL dr) = true) (hth : thOk (wordOf dr) = true) (hor : thOrder (wordOf dr) = freeOf (wordOf dr) ++ lastOf (wordOf dr)) (hso : strsOk (thOrder (wordOf dr)) = true)
    (X : At W (k + 13) A (callEnvC fd L 198) s₀ P₀ H [("draws", .list (dr.map .int))] [] [(166, .obj (tabObj #[]))] P s)
    (next : ∀ c1 c2 oc vs t P s, oc.data = .fields vs → vs[1]? = some (.str (Str.ofString "_law_stream.<locals>.read") t) → At W (k + 13) A (callEnvC fd L 198) s₀ P₀ H [("order", .list ((thOrder (wordOf dr)).map .str)), ("ties", .also (.list ((thTies (wordOf dr)).map .str)) [(c2, oc)]), ("word", .str (wordOf dr)), ("draws", .list (dr.map .int))] [] [thTab c1 c2] P s → wpAny W.M A (execs ((stmtsOf fd).drop 5) (callEnvC fd L 198)) Q E s) :
    wpAny W.M A (execs ((stmtsOf fd).drop 1) (callEnvC fd L 198)) Q E s := by
  obtain rfl : _ = fd := Option.some.inj hf
  obtain ⟨o1, o2, o3, o4, o5, o6, o7, o8, o9, o10, o11⟩ := thOk_out hth
  refine s_set (d := .str (wordOf dr)) X (ev_smeth (name := Str.ofString "join") (id := "str.join") (x := "") (ds := [.list ((wordL dr).map .str)]) ev_str (evs_cons (EvN.ev (evn_for (its := (dr.take 3).map .int) [] [] (evi_list (EvN.l (by rw [← pick3]; exact evn_slice_list (Ev.list nv) evo_none (evo_some ev_int) (by rw [List.length_map, hl4]; exact szl rfl)))) (by rw [wordL, List.length_map, List.length_map, List.length_map]) (fun C i d d' h1 h2 => ?_) (hsz := ble_of (by rw [List.length_map, List.length_take]; exact Nat.le_trans (Nat.min_le_left ..) (by decide))))) evs_nil) F.slot_str_join F.type_str_join (cl_join hwd) (hbase := base_const)) (bc rfl rfl) fun P s X => ?_
  · rw [List.getElem?_map] at h1
    obtain ⟨x, hx, rfl⟩ := Option.map_eq_some_iff.mp h1
    rw [wordL, List.map_map, List.getElem?_map, hx] at h2
    obtain rfl := Option.some.inj h2
    have h5 := fit5 (fmod_in (a := x) (n := 5) (by decide))
    exact ev_item_str ev_str (ev_bin nv ev_int (op_mod_int (by decide))) h5.1 h5.2.1 h5.2.2
  generalize hw : wordOf dr = w at *
  replace X : At W (k + 13) A _ s₀ P₀ H [("word", .str w), ("draws", .list (dr.map .int))] [] ([(166, .obj (tabObj #[]))] ++ []) P s := X.forget (by trivial)
  refine s_pairX X (evx_callF (nmG hW) (fnK hW) (evs_cons nv evs_nil) (kl181 (W := W.at []) (k := k) hW hth).cl) (fun d Mx' N ⟨c1, c2, oc, vs, t, e, _⟩ => ⟨_, _, e⟩) (bl rfl) (bl rfl) fun d1 d2 Mx' N P s hO _ X => ?_
  obtain ⟨c1, c2, oc, vs, t, e, hv1, hv2, rfl, rfl⟩ := hO
  obtain ⟨e1, e2⟩ := List.cons.inj (D.tup.inj e)
  obtain rfl := e1
  obtain ⟨rfl, _⟩ := List.cons.inj e2
  replace X : At W (k + 13) A _ s₀ P₀ H _ [] [thTab c1 c2] P s := X.forget (Γ' := [("order", .list ((thOrder w).map .str)), ("ties", .also (.list ((thTies w).map .str)) [(c2, oc)]), ("word", .str w), ("draws", .list (dr.map .int))]) (by trivial)
  have hwl : w.length ≤ sizeLine := by rw [o1]; exact szl rfl
  refine s_forifC false [("word", .str w)] [] (intQ fun i => lastQ w i.toNat) (itW w) X (evi_range1 (n := 3) (nmB hW) ev_int (by decide)) (fun C d hd => ?_) (fun C d hd he => ?_) (bl rfl) (by trivial) (by trivial) (fun P s X => ?_) (hsz := by rw [rngs_len]; rfl)
  · obtain ⟨i, hi⟩ := List.getElem?_of_mem hd
    obtain ⟨h3, rfl⟩ := rngs_get hi
    have hx := ix3 o1 h3
    rw [Int.zero_add]
    exact Ts.eq (ts_cmp (ev_item_str nv nv hx.1 hx.2.1 hx.2.2) (ev_slice_str nv (evo_some (ev_bin nv ev_int op_add_int)) evo_none hwl) op_notin_str) (by show _ = lastQ w (i : Int).toNat; rw [Int.toNat_natCast]; rfl)
  · obtain ⟨i, hi⟩ := List.getElem?_of_mem hd
    obtain ⟨h3, rfl⟩ := rngs_get hi
    have hx := ix3 o1 h3
    rw [Int.zero_add]
    exact ev_item_str nv nv hx.1 hx.2.1 hx.2.2
  rw [last_eq] at X
  replace X : At W (k + 13) A _ s₀ P₀ H [("last", .list ((lastOf w).map .str)), ("order", .list ((thOrder w).map .str)), ("ties", .also (.list ((thTies w).map .str)) [(c2, oc)]), ("word", .str w), ("draws", .list (dr.map .int))] [] [thTab c1 c2] P s := X
  refine s_if0 X (ts_cmp nv (EvN.ev (evn_add (EvN.l (evn_filterS (xs := signs "abcde") [("word", .str w)] (fun c => !inS c w) (by decide +kernel) (by rw [← chars_eq]; exact evi_str ev_str) (fun C t _ => ts_cmp nv nv op_notin_str))) (Ev.list nv) ?_)) (by rw [← List.map_append]; exact op_ne_strs hso (by rw [show (signs "abcde").filter (fun c => !inS c w) = freeOf w from rfl, ← hor]; exact hso))) (by rw [hor, freeOf]; simp) fun P s X => ?_
  · rw [List.length_map, List.length_map]
    have h1 := congrArg List.length hor
    rw [o10, List.length_append] at h1
    exact (show (freeOf w).length + (lastOf w).length ≤ sizeLine from h1 ▸ szl rfl)
  exact next c1 c2 oc vs t P s hv1 hv2 (X.forget (by trivial))
end
section
set_option maxHeartbeats 4000000
theorem leadOk_out {sts : List Int} (k : leadOk sts = true) : sts.length ≤ 40 ∧ (∀ t ∈ sts, 0 ≤ t ∧ t < 3) ∧ JoinOk "" (leadParts sts) = true := by
  simp only [leadOk, Bool.and_eq_true, decide_eq_true_eq, List.all_eq_true] at k
  exact ⟨k.1.1, k.1.2, k.2⟩
theorem chOk_out {c : Nat} (k : chOk c = true) : (Builtin.Str.occurrences "abcde" ⟨#[c]⟩ 0 5 1).isEmpty = false ∧ 0 ≤ chIx c ∧ chIx c < 5 := by
  simp only [chOk, Bool.and_eq_true, decide_eq_true_eq, Bool.not_eq_true'] at k
  exact ⟨k.1.1, k.1.2, k.2⟩
theorem rowOk_out {d3 : Int} {hu : Str} {r : Nat} (k : rowOk d3 hu r = true) : hu.length ≤ 100 ∧ (∀ c ∈ (tailOf hu).cps.toList, chOk c = true) ∧ leadOk (stepsOf d3 hu) = true ∧ JoinOk "." (signs hu) = true ∧ (leadOf (stepsOf d3 hu)).length ≤ 1000 ∧ (Txt.join "." (signs hu)).length ≤ 1000 ∧ (drawnRow d3 hu r).length ≤ 1000 := by
  simp only [rowOk, Bool.and_eq_true, decide_eq_true_eq, List.all_eq_true] at k
  exact ⟨k.1.1.1.1.1.1, k.1.1.1.1.1.2, k.1.1.1.1.2, k.1.1.1.2, k.1.1.2, k.1.2, k.2⟩
theorem sepLen {r : Nat} : (sepOf r).length = 2 := by
  unfold sepOf
  rcases Nat.mod_two_eq_zero_or_one r with h | h <;> rw [h] <;> rfl
theorem sep_at {r : Nat} : at? (([":\n", "\n:"] : List Str).map D.str) (Int.fmod ((r : Nat) : Int) 2) = some (.str (sepOf r)) := by
  rw [rmod2]; exact at_strsN (l := [":\n", "\n:"]) (Nat.mod_lt _ (by decide))
theorem lead_mul {sts : List Int} {i : Nat} (h : i < sts.length) (h40 : sts.length ≤ 40) : MulOk " " (2 + (i : Int)) := by
  refine mulOk_ok ?_
  simp only [mulOk, Bool.and_eq_true, decide_eq_true_eq, show (" " : Str).length = 1 from rfl]
  exact az_lead (Nat.lt_of_lt_of_le h h40)
theorem szA {a b : Nat} (h1 : a ≤ 1000) (h2 : b ≤ 1000) : a + b ≤ sizeLine := Nat.le_trans (Nat.add_le_add h1 h2) (szl (by decide))
theorem szB {x y : Str} {b : Nat} (h1 : x.length ≤ 1000) (h2 : y.length ≤ 1000) (h3 : b ≤ 1000) : (x ++ y).length + b ≤ sizeLine := by rw [len_add]; exact Nat.le_trans (Nat.add_le_add (Nat.add_le_add h1 h2) h3) (szl (by decide))
theorem szC {x y z : Str} {b : Nat} (h1 : x.length ≤ 1000) (h2 : y.length ≤ 1000) (h3 : z.length ≤ 1000) (h4 : b ≤ 1000) : ((x ++ y) ++ z).length + b ≤ sizeLine := by rw [len_add, len_add]; exact Nat.le_trans (Nat.add_le_add (Nat.add_le_add (Nat.add_le_add h1 h2) h3) h4) (szl (by decide))
theorem getD_memI {l : List Int} {i : Nat} (h : i < l.length) : l.getD i 0 ∈ l := by
  rw [List.getD_eq_getElem?_getD, List.getElem?_eq_getElem h]; exact List.getElem_mem h
theorem pow3 {n : Nat} (h : n < 5) : (3 : Int) ^ n ≠ 0 ∧ ((3 : Int) ^ n).natAbs < 1073741824 := by revert n; decide
theorem ch5 {c : Int} (h0 : 0 ≤ c) (h1 : c < 5) : c.toNat < 5 := by
  obtain ⟨n, rfl⟩ := Int.eq_ofNat_of_zero_le h0
  exact Int.ofNat_lt.mp h1
variable {W : Wd} {Pm : Params} (hW : W.K = hd02.heap_1 Pm)
include hW
theorem segB1 {k : Nat} {A : Around} {L : Addr} {s₀ : Shared} {P₀ H P : Vw} {s : Shared} {fd : FuncData} {Mx : List (Addr × MO)} {Q : Flow → Shared → Prop} {E : Value → Shared → Prop} {dr : List Int} {hu rows : List Str} {h : Str} {r : Nat} {d1 d2 d3 : D} (hf : lawF Pm = some fd) (hl4 : dr.length = 4) (hr : r < 5) (hur : (hu.map D.str)[r]? = some (.str h)) (hk : rowOk (dr.getD 3 0) h r = true) (hrl : rows.length ≤ 5)
    (X : At W (k + 13) A (callEnvC fd L 198) s₀ P₀ H [("row", .int r), ("hung", .list (hu.map .str)), ("order", d1), ("ties", d2), ("word", d3), ("draws", .list (dr.map .int))] [("drawn", rows.map .str)] Mx P s) :
    wpAny W.M A (execs (forB ((stmtsOf fd).drop 7)) (callEnvC fd L 198)) (ForIQ W (k + 13) A (callEnvC fd L 198) s₀ P₀ H Q [("hung", .list (hu.map .str)), ("order", d1), ("ties", d2), ("word", d3), ("draws", .list (dr.map .int))] [("drawn", (rows ++ [drawnRow (dr.getD 3 0) h r]).map .str)] Mx) E s := by
  obtain rfl : _ = fd := Option.some.inj hf
  replace hk := rowOk_out hk
  have hld := leadOk_out hk.2.2.1
  have hcl : (chars (tailOf h)).length = (stepsOf (dr.getD 3 0) h).length := (List.length_map ..).trans (List.length_map ..).symm
  refine s_set (d := .list ((stepsOf (dr.getD 3 0) h).map .int)) X (EvN.ev (evn_for [("draws", .list (dr.map .int))] [] (evi_str (ev_slice_str (ev_item_list (Ev.list nv) nv (at_nat hur) (bI5 hr)) (evo_some ev_int) evo_none (Nat.le_trans hk.1 (szl (by decide))))) ((List.length_map ..).trans hcl.symm) (fun C i d d' h1 h2 => ?_) (hsz := ble_of (Nat.le_trans (Nat.le_of_eq hcl) (Nat.le_trans hld.1 (by decide)))))) (bc rfl rfl) fun P s X => ?_
  · obtain ⟨c, hc, rfl⟩ := chars_get h1
    rw [stepsOf, List.map_map, List.getElem?_map, show (tailOf h).cps.toList[i]? = some c from hc] at h2
    obtain rfl := Option.some.inj h2
    have kc := chOk_out (hk.2.1 c (List.mem_of_getElem? hc))
    have hp := pow3 (ch5 kc.2.1 kc.2.2)
    exact ev_bin (ev_bin (ev_bin (ev_itZ (i := 3) nv ev_int hl4 (by decide)) ev_int (op_div_int (by decide) (by decide))) (ev_bin ev_int (ev_smeth (name := Str.ofString "index") (id := "str.index") (x := "abcde") ev_str (evs_cons nv evs_nil) F.slot_str_index F.type_str_index (cl_index kc.1) (hbase := base_const)) (op_pow_int kc.2.1 (Int.le_trans (Int.le_of_lt kc.2.2) (by decide)) (by decide))) (op_div_int hp.1 hp.2)) ev_int (op_mod_int (by decide))
  refine s_set (d := .str (leadOf (stepsOf (dr.getD 3 0) h))) X (ev_smeth (name := Str.ofString "join") (id := "str.join") (x := "") (ds := [.list ((leadParts (stepsOf (dr.getD 3 0) h)).map .str)]) ev_str (evs_cons (EvN.ev (evn_for [("steps", .list ((stepsOf (dr.getD 3 0) h).map .int))] [] (evi_range1 (n := (stepsOf (dr.getD 3 0) h).length) (nmB hW) (by rw [lenI]; exact ev_callBL (nmB hW) (Ev.list nv) (cl_len_list (by rw [List.length_map]; exact lt62 (Nat.le_trans hld.1 (by decide))))) (Nat.lt_of_le_of_lt hld.1 (by decide))) (by rw [List.length_map, leadParts, List.length_map, List.length_range, rngs_len]) (fun C i d d' h1 h2 => ?_) (hsz := by rw [rngs_len]; exact ble_of (Nat.le_trans hld.1 (by decide))))) evs_nil) F.slot_str_join F.type_str_join (cl_join hld.2.2) (hbase := base_const)) (bl rfl) fun P s X => ?_
  · obtain ⟨hi, rfl⟩ := rngs_get h1
    rw [Int.zero_add]
    rw [leadParts, List.map_map, List.getElem?_map, List.getElem?_range hi] at h2
    obtain rfl := Option.some.inj h2
    have hs := hld.2.1 ((stepsOf (dr.getD 3 0) h).getD i 0) (getD_memI hi)
    exact ev_item_list (EvN.l (evn_list (ds := (["\t", " \t", Txt.mul " " (2 + (i : Int))] : List Str).map .str) (evs_cons ev_str (evs_cons ev_str (evs_cons (ev_bin ev_str (ev_bin ev_int nv op_add_int) (op_mul_str (lead_mul hi hld.1))) evs_nil))))) (ev_item_list (Ev.list nv) nv (at_intsN hi) (bI (Nat.le_trans (Nat.le_of_lt hi) (Nat.le_trans hld.1 (by decide))))) (at_strs hs.1 hs.2) ⟨Int.le_trans (by decide) hs.1, Int.lt_trans hs.2 (by decide)⟩
  refine s_append X (d := .str (drawnRow (dr.getD 3 0) h r)) (ev_bin (ev_bin (ev_bin nv (ev_smeth (name := Str.ofString "join") (id := "str.join") (x := ".") (ds := [.str h]) ev_str (evs_cons (ev_item_list (Ev.list nv) nv (at_nat hur) (bI5 hr)) evs_nil) F.slot_str_join F.type_str_join (cl_joinStr hk.2.2.2.1) (hbase := base_const)) (op_add_str (szA hk.2.2.2.2.1 hk.2.2.2.2.2.1))) (ev_item_list (EvN.l (evn_list (ds := ([":\n", "\n:"] : List Str).map .str) (evs_cons ev_str (evs_cons ev_str evs_nil)))) (ev_bin nv ev_int (op_mod_int (by decide))) sep_at ⟨Int.le_trans (by decide) (fmod_in (by decide)).1, Int.lt_trans (fmod_in (n := 2) (by decide)).2 (by decide)⟩) (op_add_str (szB hk.2.2.2.2.1 hk.2.2.2.2.2.1 (sepLen ▸ (by decide))))) ev_str (op_add_str (szC hk.2.2.2.2.1 hk.2.2.2.2.2.1 (sepLen ▸ (by decide)) (by decide)))) (by rw [List.length_map]; exact Nat.le_trans hrl (szl (by decide))) fun P s X => s_nil ⟨P, ?_⟩
  exact (X.forget (by trivial)).delta (by rw [List.map_append]; rfl)
theorem segB {k : Nat} {A : Around} {L : Addr} {s₀ : Shared} {P₀ H P : Vw} {s : Shared} {fd : FuncData} {Mx : List (Addr × MO)} {Q : Flow → Shared → Prop} {E : Value → Shared → Prop} {dr : List Int} {ties : List Str} {g : List (Addr × Obj)} {d1 d3 : D} (hf : lawF Pm = some fd) (hl4 : dr.length = 4) (hhg : hgOk ties (topOf dr) = true) (hrow : ∀ r, r < 5 → rowOk (dr.getD 3 0) ((hgOf ties (topOf dr)).getD r "") r = true)
    (X : At W (k + 13) A (callEnvC fd L 198) s₀ P₀ H [("order", d1), ("ties", .also (.list (ties.map .str)) g), ("word", d3), ("draws", .list (dr.map .int))] [] Mx P s)
    (next : ∀ P s, At W (k + 13) A (callEnvC fd L 198) s₀ P₀ H [("drawn", .list ((drawnOf (dr.getD 3 0) (hgOf ties (topOf dr))).map .str)), ("hung", .list ((hgOf ties (topOf dr)).map .str)), ("order", d1), ("ties", .also (.list (ties.map .str)) g), ("word", d3), ("draws", .list (dr.map .int))] [] Mx P s → wpAny W.M A (execs ((stmtsOf fd).drop 8) (callEnvC fd L 198)) Q E s) :
    wpAny W.M A (execs ((stmtsOf fd).drop 5) (callEnvC fd L 198)) Q E s := by
  have hf' := hf
  obtain rfl : _ = fd := Option.some.inj hf
  have h5 := fit5 (fmod_in (a := dr.getD 3 0) (n := 5) (by decide))
  have hu5 := (hgOk_out hhg).2.2.2.2
  refine s_set (d := .list ((hgOf ties (topOf dr)).map .str)) X (ev_callF (nmG hW) (fnK hW) (evs_cons (Ev.plain nv) (evs_cons (ev_item_str ev_str (ev_bin (ev_itZ (i := 3) nv ev_int hl4 (by decide)) ev_int (op_mod_int (by decide))) h5.1 h5.2.1 h5.2.2) evs_nil)) (cl188 (W := W.at Mx) hW hhg)) (bc rfl rfl) fun P s X => ?_
  generalize hgOf ties (topOf dr) = hu at *
  replace X := X.forget (Γ' := [("hung", .list (hu.map .str)), ("order", d1), ("ties", .also (.list (ties.map .str)) g), ("word", d3), ("draws", .list (dr.map .int))]) (by trivial)
  refine s_setN X (evn_list evs_nil) (bc rfl rfl) fun P s X => ?_
  refine s_forI X (evi_range1 (n := 5) (nmB hW) ev_int (by decide)) (bc rfl rfl) (fun _ => [("hung", .list (hu.map .str)), ("order", d1), ("ties", .also (.list (ties.map .str)) g), ("word", d3), ("draws", .list (dr.map .int))]) (fun i => [("drawn", (((List.range i).map fun r => drawnRow (dr.getD 3 0) (hu.getD r "") r).map .str))]) rfl rfl (fun _ => ⟨by trivial, by trivial⟩) (fun r d H' P s E' hd X => ?_) fun P s X => ?_
  · obtain ⟨hr, rfl⟩ := rngs_get hd
    rw [Int.zero_add] at X
    rw [List.range_succ, List.map_append]
    exact segB1 hW hf' hl4 hr (by rw [List.getElem?_map, getD_at (ltL hu5 hr)]; rfl) (hrow r hr) (by rw [List.length_map, List.length_range]; exact Nat.le_of_lt hr) X
  · rw [rngs_len] at X
    obtain ⟨P, X⟩ := X.freeze
    exact next P s X
end
section
set_option maxHeartbeats 4000000
theorem textOk_out {dn : List Str} {ks : List Int} (h : textOk dn ks = true) : (∀ i, i < 5 → spOk (dn.getD i "") = true ∧ (spelled (dn.getD i "") (ks.getD i 0)).length ≤ 10000) ∧ JoinOk "" (textParts dn ks) = true ∧ (textOf dn ks).length ≤ 30000 := by
  simp only [textOk, Bool.and_eq_true, decide_eq_true_eq, List.all_eq_true] at h
  exact ⟨fun i hi => h.1.1 i (List.mem_range.mpr hi), h.1.2, h.2⟩
theorem slc_len {i : Nat} (h : i < 5) : (Txt.slice " \t\r\n" (some (i : Int)) (some ((i : Int) + 1))).length ≤ 10 := by
  revert i; decide +kernel
theorem kinds_get {d2 : Int} {i : Nat} (h : i < 5) : (kindsOf d2).getD i 0 = digit d2 i := getD_range h
theorem or3F {a b : List Str} {n m : Int} (h : n = m) : ((!decide (a = a)) || (!decide (b = b)) || (n != m)) = false := by
  rw [h]; simp
noncomputable def agSt (p5 p6 : Int × Nat) (i : Nat) : Int × Nat := if i < 7 then p5 else p6
theorem six {w : Str} (h : w.length = 3) : (signs (w ++ w)).length = 6 := by
  have e : (w ++ w).cps.toList.length = 6 := by
    show ((w.cps ++ w.cps).toList).length = 6
    rw [Array.length_toList, Array.size_append]
    have : w.cps.size = 3 := h
    rw [this]
  exact (List.length_map ..).trans e
variable {W : Wd} {Pm : Params} (hW : W.K = hd02.heap_1 Pm)
include hW
theorem segC1 {k : Nat} {A : Around} {L : Addr} {s₀ : Shared} {P₀ H P : Vw} {s : Shared} {fd : FuncData} {Mx : List (Addr × MO)} {Q : Flow → Shared → Prop} {E : Value → Shared → Prop} {dr : List Int} {dn : List Str} {d1 d2 d3 d4 : D} (hf : lawF Pm = some fd) (hl4 : dr.length = 4) (hd5 : dn.length = 5) (htx : textOk dn (kindsOf (dr.getD 2 0)) = true)
    (X : At W (k + 13) A (callEnvC fd L 198) s₀ P₀ H [("drawn", .list (dn.map .str)), ("hung", d1), ("order", d2), ("ties", d3), ("word", d4), ("draws", .list (dr.map .int))] [] Mx P s)
    (next : ∀ P s, At W (k + 13) A (callEnvC fd L 198) s₀ P₀ H [("text", .str (textOf dn (kindsOf (dr.getD 2 0)))), ("drawn", .list (dn.map .str)), ("hung", d1), ("order", d2), ("ties", d3), ("word", d4), ("draws", .list (dr.map .int))] [] Mx P s → wpAny W.M A (execs ((stmtsOf fd).drop 9) (callEnvC fd L 198)) Q E s) :
    wpAny W.M A (execs ((stmtsOf fd).drop 8) (callEnvC fd L 198)) Q E s := by
  obtain rfl : _ = fd := Option.some.inj hf
  replace htx := textOk_out htx
  refine s_set (d := .str (textOf dn (kindsOf (dr.getD 2 0)))) X (ev_smeth (name := Str.ofString "join") (id := "str.join") (x := "") (ds := [.list ((textParts dn (kindsOf (dr.getD 2 0))).map .str)]) ev_str (evs_cons (EvN.ev (evn_for [("drawn", .list (dn.map .str)), ("draws", .list (dr.map .int))] [] (evi_range1 (n := 5) (nmB hW) ev_int (by decide)) (by rw [List.length_map, textParts, List.length_map, List.length_range, rngs_len]) (fun C i d d' h1 h2 => ?_) (hsz := by rw [rngs_len]; rfl))) evs_nil) F.slot_str_join F.type_str_join (cl_join htx.2.1) (hbase := base_const)) (bl rfl) fun P s X => ?_
  · obtain ⟨hi, rfl⟩ := rngs_get h1
    rw [Int.zero_add]
    obtain rfl := at_rng hi h2
    have u := htx.1 i hi
    have hp := pow3 hi
    rw [textPart, kinds_get hi]
    rw [kinds_get hi] at u
    exact ev_bin (ev_callF (nmG hW) (fnK hW) (evs_cons (ev_itS nv nv hd5 hi) (evs_cons (ev_bin (ev_bin (ev_bin (ev_itZ (i := 2) nv ev_int hl4 (by decide)) ev_int (op_div_int (by decide) (by decide))) (ev_bin ev_int nv (op_pow_int (Int.natCast_nonneg i) (Int.le_trans (Int.le_of_lt (Int.ofNat_lt.mpr hi)) (by decide)) (by decide))) (op_div_int hp.1 hp.2)) ev_int (op_mod_int (by decide))) evs_nil)) (cl176 (W := W.at Mx) hW u.1)) (ev_slice_str ev_str (evo_some nv) (evo_some (ev_bin nv ev_int op_add_int)) (szl (by decide))) (op_add_str (Nat.le_trans (Nat.add_le_add u.2 (slc_len hi)) (szl (by decide))))
  exact next P s (X.forget (by trivial))
theorem segC2 {k : Nat} {A : Around} {L : Addr} {s₀ : Shared} {P₀ H P : Vw} {s : Shared} {fd : FuncData} {Q : Flow → Shared → Prop} {E : Value → Shared → Prop} {tx : Str} {c1 c2 : Addr} {oc : Obj} {vs : Array Value} {t : Tok} {d0 d1 d2 d3 d4 d5 : D} (hf : lawF Pm = some fd) (hv1 : oc.data = .fields vs) (hv2 : vs[1]? = some (.str (Str.ofString "_law_stream.<locals>.read") t)) (htx : tx.length ≤ 30000)
    (X : At W (k + 13) A (callEnvC fd L 198) s₀ P₀ H [("text", .str tx), ("drawn", d0), ("hung", d1), ("order", d2), ("ties", .also d3 [(c2, oc)]), ("word", d4), ("draws", d5)] [] [thTab c1 c2] P s)
    (next : ∀ x dx pb al st l ps P s, StreamOk (W.at []) st al tx l → At W (k + 13) A (callEnvC fd L 198) s₀ P₀ H [("lexer", .inst x 160 dx), ("drawn", d0), ("hung", d1), ("order", d2), ("word", d4), ("draws", d5)] [] (lexM dx pb al st l (lexSt tx 0).1 [] (lexSt tx 0).2 ++ [(166, .obj (tabObj ps))]) P s → wpAny W.M A (execs ((stmtsOf fd).drop 10) (callEnvC fd L 198)) Q E s) :
    wpAny W.M A (execs ((stmtsOf fd).drop 9) (callEnvC fd L 198)) Q E s := by
  obtain rfl : _ = fd := Option.some.inj hf
  have hg := X.alsoP (z := "ties") (by trivial)
  replace X := X.redatum (d' := .also (.str tx) [(c2, oc)]) fun v i => .also i hg
  refine s_setX (Mx := [thTab c1 c2]) (rest := []) X (evx_callC (C := 160) (O1 := StreamOut (W.at []) 166 tx) (O2 := fun d1 d2 M' N => ∃ st l, d1 = .pack st l ∧ ∃ x dx fs N0, d2 = .inst x 160 dx ∧ M' = [] ∧ N = (dx, .dict fs) :: N0 ∧ ∃ pb, fs = lexF st l 1 pb ∧ N0 = [(pb, .list [])]) (nmG hW) (by rw [hW]; rfl) (evx_callF (nmG hW) (fnK hW) (evs_cons nv evs_nil) (kl171H (W := W.at []) hW hv1 hv2 htx).cl) (fun d Mx' N hO => ?_)) (bc rfl rfl) fun d Mx' N P s hO ha X => ?_
  · obtain ⟨st, l, al, _, _, _, _, _, rfl, _⟩ := hO
    intro A S P s E Q vs hst i dv hQ
    exact (cl94 (W := W.at []) hW (k := k + 11)) A S P s E Q vs hst i dv fun v P' s' d Mx' N ho => hQ v P' s' d Mx' N ⟨st, l, rfl, ho⟩
  obtain ⟨d1, N1, N2, ⟨st, l, al, _, _, _, _, _, rfl, hS, _, _, _, rfl, rfl⟩, ⟨_, _, e, x, dx, fs, N0, rfl, _, rfl, pb, rfl, rfl⟩, rfl⟩ := hO
  obtain ⟨rfl, rfl⟩ := D.pack.inj e
  exact next x dx pb al _ _ _ P s hS (X.forget (by trivial))
end
section
set_option maxHeartbeats 4000000
theorem ag_cons {l : List Str} {i : Nat} (h : i < l.length) : l.drop i = l.getD i "" :: l.drop (i + 1) := by
  rw [List.drop_eq_getElem_cons h, List.getD_eq_getElem?_getD, List.getElem?_eq_getElem h]; rfl
noncomputable def agQ (w : Str) (i : Nat) : List D := ((signs (w ++ w)).drop i).map .str
variable {W : Wd} {Pm : Params} (hW : W.K = hd02.heap_1 Pm)
include hW
theorem segC3 {k : Nat} {A : Around} {L : Addr} {s₀ : Shared} {P₀ H P : Vw} {s : Shared} {fd : FuncData} {Q : Flow → Shared → Prop} {E : Value → Shared → Prop} {tx w : Str} {dn : List Str} {d1 d2 d3 : D} {x dx pb al st : Addr} {l : List (Addr × Obj)} {ps : Array Value} (hf : lawF Pm = some fd) (htx : tx.length ≤ 30000) (hd5 : dn.length = 5) (hlx : LexOk2 tx dn) (hw3 : w.length = 3) (hso : strsOk dn = true) (hsa : strsOk (againOf w) = true) (hS : StreamOk (W.at []) st al tx l)
    (X : At W (k + 13) A (callEnvC fd L 198) s₀ P₀ H [("lexer", .inst x 160 dx), ("drawn", .list (dn.map .str)), ("hung", d1), ("order", d2), ("word", .str w), ("draws", d3)] [] (lexM dx pb al st l (lexSt tx 0).1 [] (lexSt tx 0).2 ++ [(166, .obj (tabObj ps))]) P s)
    (next : ∀ ln n P s, At W (k + 13) A (callEnvC fd L 198) s₀ P₀ H [("rows", .list (dn.map .str)), ("lexer", .inst x 160 dx), ("hung", d1), ("order", d2), ("word", .str w), ("draws", d3)] [] (lexM dx pb al st l ln [] n ++ [(166, .obj (tabObj ps))]) P s → wpAny W.M A (execs ((stmtsOf fd).drop 14) (callEnvC fd L 198)) Q E s) :
    wpAny W.M A (execs ((stmtsOf fd).drop 10) (callEnvC fd L 198)) Q E s := by
  obtain rfl : _ = fd := Option.some.inj hf
  have hmS : (dn.map D.str).length = 5 := (List.length_map ..).trans hd5
  have h6 := six hw3
  have hc6 : (chars (w ++ w)).length = 6 := by rw [chars_eq, List.length_map]; exact h6
  have hww : w.length + w.length ≤ sizeLine := by rw [hw3]; exact szl rfl
  have mG : MethK (W.at []).K 160 "get_token" 150 := methK hW
  have mP : MethK (W.at []).K 160 "push_token" 157 := methK hW
  have fG : FnK (W.at []).K 150 := fnK hW
  have fP : FnK (W.at []).K 157 := fnK hW
  refine s_forCM (ds := dn.map .str) (fun i => lexM dx pb al st l (lexSt tx i).1 [] (lexSt tx i).2) [("lexer", .inst x 160 dx)] [] X (fun _ => rfl) (evi_listP nv) rfl (fun C i d d' h1 h2 => ?_) (bl rfl) (by trivial) (by trivial) (fun P s X => ?_) (hsz := by rw [hmS]; rfl)
  · rw [List.getElem?_map] at h2
    obtain ⟨u, hu, rfl⟩ := Option.map_eq_some_iff.mp h2
    have hi : i < 5 := hd5 ▸ (List.getElem?_eq_some_iff.mp hu).1
    rw [getD_at (ltL hd5 hi), ← hlx.toks i hi] at hu
    obtain rfl := Option.some.inj hu
    exact evm_meth nv mG fG List.mem_cons_self rfl evs_nil (kl84 (W := W.at []) hW hS htx).cl
  rw [hmS] at X
  have he := hlx.end_
  have hl6 := hlx.ln6
  rw [lexTok5] at he
  rw [lexSt6] at hl6
  generalize lexSt tx 5 = p5 at X he hl6
  replace X : At W (k + 13) A _ s₀ P₀ H [("rows", .list (dn.map .str)), ("lexer", .inst x 160 dx), ("drawn", .list (dn.map .str)), ("hung", d1), ("order", d2), ("word", .str w), ("draws", d3)] [] (lexM dx pb al st l p5.1 (((signs (w ++ w)).take 0).map .str) p5.2 ++ [(166, .obj (tabObj ps))]) P s := X
  refine s_forJ X (evi_str (ev_bin nv nv (op_add_str hww))) (bl rfl) (fun _ => [("rows", .list (dn.map .str)), ("lexer", .inst x 160 dx), ("drawn", .list (dn.map .str)), ("hung", d1), ("order", d2), ("word", .str w), ("draws", d3)]) (fun _ => []) (fun i => lexM dx pb al st l p5.1 (((signs (w ++ w)).take i).map .str) p5.2 ++ [(166, .obj (tabObj ps))]) rfl rfl rfl (fun _ => ⟨by trivial, by trivial⟩) (fun i d H' P s E' hd X => ?_) fun P s X => ?_
  · obtain ⟨c, hc, rfl, _⟩ := signs_get hd
    have hi : i < 6 := h6 ▸ (List.getElem?_eq_some_iff.mp hc).1
    refine s_exprM X (evm_meth nv mP fP List.mem_cons_self rfl (evs_cons nv evs_nil) (kl91 (W := W.at []) hW (by rw [List.length_map]; exact Nat.le_trans (List.length_take_le ..) (Nat.le_trans (Nat.le_of_lt hi) (by decide)))).cl) rfl fun P s X => s_nil ⟨P, ?_⟩
    exact (X.forget fun p h => .tail _ h).mem (by rw [List.take_add_one, hc, List.map_append]; rfl)
  rw [hc6, List.take_of_length_le (Nat.le_of_eq h6)] at X
  replace X : At W (k + 13) A _ s₀ P₀ H _ [] ((fun i => lexM dx pb al st l (agSt p5 ((lexR tx p5).2.2.1, (lexR tx p5).2.2.2) i).1 (agQ w i) (agSt p5 ((lexR tx p5).2.2.1, (lexR tx p5).2.2.2) i).2) 0 ++ [(166, .obj (tabObj ps))]) P s := X
  refine s_forCM (ds := (againOf w).map .str) (fun i => lexM dx pb al st l (agSt p5 ((lexR tx p5).2.2.1, (lexR tx p5).2.2.2) i).1 (agQ w i) (agSt p5 ((lexR tx p5).2.2.1, (lexR tx p5).2.2.2) i).2) [("lexer", .inst x 160 dx)] [] X (fun _ => rfl) (evi_range1 (n := 7) (nmB hW) ev_int (by decide)) (by rw [List.length_map, againOf, List.length_append, h6, rngs_len]; rfl) (fun C i d d' h1 h2 => ?_) (bl rfl) (by trivial) (by trivial) (fun P s X => ?_) (hsz := by rw [rngs_len]; rfl)
  · obtain ⟨hi, rfl⟩ := rngs_get h1
    rw [List.getElem?_map] at h2
    obtain ⟨u, hu, rfl⟩ := Option.map_eq_some_iff.mp h2
    unfold againOf at hu
    rcases Nat.lt_or_eq_of_le (Nat.le_of_lt_succ hi) with h | rfl
    · rw [List.getElem?_append_left (h6 ▸ h), getD_at (h6 ▸ h)] at hu
      obtain rfl := Option.some.inj hu
      have e1 : agSt p5 ((lexR tx p5).2.2.1, (lexR tx p5).2.2.2) i = p5 := if_pos hi
      have e2 : agSt p5 ((lexR tx p5).2.2.1, (lexR tx p5).2.2.2) (i + 1) = p5 := if_pos (Nat.succ_lt_succ h)
      have e3 : agQ w i = .str ((signs (w ++ w)).getD i "") :: agQ w (i + 1) := by unfold agQ; rw [ag_cons (h6 ▸ h)]; rfl
      rw [e1, e2, e3]
      exact evm_meth nv mG fG List.mem_cons_self rfl evs_nil (kl84p (W := W.at []) hW (by unfold agQ; rw [List.length_map, List.length_drop, h6]; exact Nat.le_trans (Nat.sub_le ..) (by decide))).cl
    · rw [List.getElem?_append_right (Nat.le_of_eq h6), h6] at hu
      obtain rfl : ("" : Str) = u := Option.some.inj hu
      have e3 : agQ w 6 = [] := by unfold agQ; rw [List.drop_of_length_le (Nat.le_of_eq h6)]; rfl
      have e4 : agQ w (6 + 1) = [] := by unfold agQ; rw [List.drop_of_length_le (Nat.le_succ_of_le (Nat.le_of_eq h6))]; rfl
      rw [e3, e4]
      show EvM _ _ _ _ _ _ (.str "") (lexM dx pb al st l (p5).1 [] (p5).2) (lexM dx pb al st l (lexR tx p5).2.2.1 [] (lexR tx p5).2.2.2)
      rw [← he]
      exact evm_meth nv mG fG List.mem_cons_self rfl evs_nil (kl84 (W := W.at []) hW hS htx).cl
  rw [rngs_len] at X
  replace X : At W (k + 13) A _ s₀ P₀ H _ [] (lexM dx pb al st l (lexR tx p5).2.2.1 [] (lexR tx p5).2.2.2 ++ [(166, .obj (tabObj ps))]) P s := X.mem (by unfold agQ; rw [List.drop_of_length_le (Nat.le_succ_of_le (Nat.le_of_eq h6))]; rfl)
  refine s_if0 X (ts_or3 (ts_cmp nv nv (op_ne_strs hso hso)) (fun _ => ts_cmp nv (EvN.ev (evn_add (EvN.l (evn_listStr (nmB hW) (ev_bin nv nv (op_add_str hww)) (by show (w ++ w).length ≤ _; rw [len_add]; exact hww))) (EvN.l (evn_list (ds := ([""] : List Str).map .str) (evs_cons ev_str evs_nil))) (by rw [hc6]; exact szl rfl))) (by rw [chars_eq, ← List.map_append]; exact op_ne_strs hsa hsa)) (fun _ _ => ts_cmp (ev_attrI nv List.mem_cons_self (getK (W := W.at (lexM dx pb al st l (lexR tx p5).2.2.1 [] (lexR tx p5).2.2.2 ++ [(166, .obj (tabObj ps))])) hW) rfl) ev_int op_ne_int)) (or3F hl6) fun P s X => ?_
  exact next _ _ P s (X.forget (by trivial))
end
section
set_option maxHeartbeats 4000000
theorem dotOk_out4 {row : Str} {r : Nat} (h : dotOk row r = true) : row.cps.size ≤ 1000 ∧ wsOk (wsOf row) = true ∧ (Builtin.Str.occurrences row (Txt.item ":\n" ((r % 2 : Nat) : Int)) 0 row.length 1).isEmpty = false ∧ (dotOf row r).length ≤ 1000 := by
  simp only [dotOk, Bool.and_eq_true, decide_eq_true_eq, Bool.not_eq_true'] at h
  exact ⟨h.1.1.1, h.1.1.2, h.1.2, h.2⟩
noncomputable abbrev leadD (p : Str × Wst) : D := .obj 83 (wsFields p.1 p.2)
noncomputable def leadsOf (drawn : List Str) : List (Str × Wst) := drawn.map fun r => (r, wsOf r)
noncomputable def namesOf (dn : List Str) : List Str := (List.range 5).map (nmAt dn)
theorem lead_pair {dn : List Str} {i : Nat} {d d' : D} (h1 : (dn.map D.str)[i]? = some d) (h2 : ((leadsOf dn).map leadD)[i]? = some d') (hd5 : dn.length = 5) (hdo : ∀ r, r < 5 → dotOk (dn.getD r "") r = true) : ∃ row, d = .str row ∧ d' = leadD (row, wsOf row) ∧ row.cps.size ≤ 1000 := by
  rw [List.getElem?_map] at h1
  obtain ⟨row, hr, rfl⟩ := Option.map_eq_some_iff.mp h1
  rw [leadsOf, List.map_map, List.getElem?_map, hr] at h2
  refine ⟨row, rfl, (Option.some.inj h2).symm, ?_⟩
  have hk := (dotOk_out4 (hdo i (hd5 ▸ (List.getElem?_eq_some_iff.mp hr).1))).1
  rw [List.getD_eq_getElem?_getD, hr] at hk
  exact hk
theorem lead_atD {dn : List Str} {i : Nat} (h : i < dn.length) : at? ((leadsOf dn).map leadD) (i : Int) = some (leadD (dn.getD i "", wsOf (dn.getD i ""))) := by
  refine at_nat ?_
  rw [leadsOf, List.map_map, List.getElem?_map, getD_at h]; rfl
theorem spots_eq {d1 : Int} {hid : Str} : (.int (Int.fmod (Int.fdiv d1 5) 4)) :: List.replicate (if hid != "\"" then (1 : Int) else 0).toNat (D.int 0) = (spotsOf d1 hid).map .int := by
  unfold spotsOf
  cases hid != "\"" <;> rfl
theorem partOk_out {dn hu : List Str} {hid : Str} {sp : List Int} {r : Nat} (h : partOk dn hu hid sp r = true) : (nmAt dn r).length ≤ 100 ∧ MulOk hid (if sp.any (· == (r : Int)) then 1 else 0) ∧ (Txt.mul hid (if sp.any (· == (r : Int)) then 1 else 0)).length ≤ 100 ∧ MulOk ")" (((hu.getD r "").length : Int) - ((hu.getD (r + 1) "").length : Int) + 1) ∧ (Txt.mul ")" (((hu.getD r "").length : Int) - ((hu.getD (r + 1) "").length : Int) + 1)).length ≤ 100 ∧ (hu.getD r "").length ≤ 100 ∧ (hu.getD (r + 1) "").length ≤ 100 := by
  simp only [partOk, Bool.and_eq_true, decide_eq_true_eq] at h
  obtain ⟨⟨⟨⟨⟨⟨h1, h2⟩, h3⟩, h4⟩, h5⟩, h6⟩, h7⟩ := h
  exact ⟨h1, mulOk_ok h2, h3, mulOk_ok h4, h5, h6, h7⟩
theorem fit6 {a : Int} (h : 0 ≤ a ∧ a < 6) : -2 ^ 62 ≤ a ∧ a < 2 ^ 62 := az_q4 h
variable {W : Wd} {Pm : Params} (hW : W.K = hd02.heap_1 Pm)
include hW
theorem segD1 {k : Nat} {A : Around} {L : Addr} {s₀ : Shared} {P₀ H P : Vw} {s : Shared} {fd : FuncData} {Mx : List (Addr × MO)} {Q : Flow → Shared → Prop} {E : Value → Shared → Prop} {dr : List Int} {dn hu : List Str} {d1 d2 d3 : D} (hf : lawF Pm = some fd) (hl4 : dr.length = 4) (hd5 : dn.length = 5) (hu5 : hu.length = 5) (hdo : ∀ r, r < 5 → dotOk (dn.getD r "") r = true)
    (hpt : ∀ r, r < 4 → partOk dn hu (hidOf (dr.getD 0 0)) (spotsOf (dr.getD 1 0) (hidOf (dr.getD 0 0))) r = true)
    (X : At W (k + 13) A (callEnvC fd L 198) s₀ P₀ H [("rows", .list (dn.map .str)), ("lexer", d1), ("hung", .list (hu.map .str)), ("order", d2), ("word", d3), ("draws", .list (dr.map .int))] [] Mx P s)
    (next : ∀ P s, At W (k + 13) A (callEnvC fd L 198) s₀ P₀ H [("parts", .list ((partsOf dn hu (hidOf (dr.getD 0 0)) (spotsOf (dr.getD 1 0) (hidOf (dr.getD 0 0)))).map .str)), ("leads", .list ((leadsOf dn).map leadD)), ("names", .list ((namesOf dn).map .str)), ("rows", .list (dn.map .str)), ("lexer", d1), ("order", d2), ("word", d3)] [] Mx P s → wpAny W.M A (execs ((stmtsOf fd).drop 19) (callEnvC fd L 198)) Q E s) :
    wpAny W.M A (execs ((stmtsOf fd).drop 14) (callEnvC fd L 198)) Q E s := by
  obtain rfl : _ = fd := Option.some.inj hf
  have hWx : (W.at Mx).K = hd02.heap_1 Pm := hW
  have hdl : (dn.map D.str).length = 5 := (List.length_map ..).trans hd5
  have hn5 : (namesOf dn).length = 5 := by rw [namesOf, List.length_map, List.length_range]
  refine s_set (d := .list ((namesOf dn).map .str)) X (EvN.ev (evn_for [] [] (evi_listP nv) (by rw [List.length_map, hn5, hdl]) (fun C i d d' h1 h2 => ?_) (hsz := by rw [hdl]; rfl))) (bc rfl rfl) fun P s X => ?_
  · have hi : i < 5 := hdl ▸ (List.getElem?_eq_some_iff.mp h1).1
    rw [List.getElem?_map, getD_at (ltL hd5 hi)] at h1
    obtain rfl := Option.some.inj h1
    obtain rfl := at_rng hi h2
    exact ev_callF (nmG hW) (fnK hW) (evs_cons nv evs_nil) (cl56 (W := W.at Mx) hW (Nat.le_trans (dotOk_out4 (hdo i hi)).1 (szl (by decide))))
  refine s_set (d := .list ((leadsOf dn).map leadD)) X (EvN.ev (evn_for [] [] (evi_listP nv) (by rw [List.length_map, leadsOf, List.length_map, List.length_map]) (fun C i d d' h1 h2 => ?_) (hsz := by rw [hdl]; rfl))) (bc rfl rfl) fun P s X => ?_
  · obtain ⟨row, rfl, rfl, hk⟩ := lead_pair h1 h2 hd5 hdo
    exact ev_callC (nmG hW) (by rw [hWx]; rfl) nv (cl160 (W := W.at Mx) hW (Nat.le_trans hk (by decide)))
  refine s_set (d := .str (hidOf (dr.getD 0 0))) X (ev_item_list (EvN.l (evn_list (ds := hiddens.map .str) (evs_cons ev_str (evs_cons ev_str (evs_cons ev_str (evs_cons ev_str (evs_cons ev_str (evs_cons ev_str evs_nil)))))))) (ev_bin (ev_bin (ev_itZ (i := 0) nv ev_int hl4 (by decide)) ev_int (op_div_int (by decide) (by decide))) ev_int (op_mod_int (by decide))) (at_strs (fmod_in (by decide)).1 (fmod_in (n := 6) (by decide)).2) (fit6 (fmod_in (by decide)))) (bc rfl rfl) fun P s X => ?_
  generalize hidOf (dr.getD 0 0) = hid at *
  refine s_set (d := .list ((spotsOf (dr.getD 1 0) hid).map .int)) X (Ev.eq (EvN.ev (evn_add (EvN.l (evn_list (evs_cons (ev_bin (ev_bin (ev_itZ (i := 1) nv ev_int hl4 (by decide)) ev_int (op_div_int (by decide) (by decide))) ev_int (op_mod_int (by decide))) evs_nil))) (EvN.l (evn_mul1 (EvN.l (evn_list (evs_cons ev_int evs_nil))) (ev_callT (nmB hW) (evs_cons (ev_cmp nv ev_str op_ne_str) evs_nil) cl_int_bool) ?_ ?_)) ?_)) (congrArg D.list spots_eq)) (bc rfl rfl) fun P s X => ?_
  · split <;> decide
  · split <;> decide
  · rw [List.length_replicate]; split <;> exact szl rfl
  refine s_set (d := .list ((partsOf dn hu hid (spotsOf (dr.getD 1 0) hid)).map .str)) X (EvN.ev (evn_for [("names", .list ((namesOf dn).map .str)), ("hidden", .str hid), ("spots", .list ((spotsOf (dr.getD 1 0) hid).map .int)), ("hung", .list (hu.map .str))] [] (evi_range1 (n := 4) (nmB hW) ev_int (by decide)) (by rw [List.length_map, partsOf, List.length_map, List.length_range, rngs_len]) (fun C i d d' h1 h2 => ?_) (hsz := by rw [rngs_len]; rfl))) (bc rfl rfl) fun P s X => ?_
  · obtain ⟨hi, rfl⟩ := rngs_get h1
    rw [Int.zero_add]
    obtain rfl := at_rng hi h2
    have hk := partOk_out (hpt i hi)
    have hi5 := Nat.lt_succ_of_lt hi
    rw [partOf, ← show (namesOf dn).getD i "" = nmAt dn i from getD_range hi5]
    rw [← show (namesOf dn).getD i "" = nmAt dn i from getD_range hi5] at hk
    exact ev_bin (ev_bin (ev_itS nv nv hn5 hi5) (ev_bin nv (ev_callT (nmB hW) (evs_cons (ev_cmp nv nv op_in_ints) evs_nil) cl_int_bool) (op_mul_str hk.2.1)) (op_add_str (sz2 (l1 hk.1) (l1 hk.2.2.1)))) (ev_bin ev_str (ev_bin (ev_bin (ev_callB (nmB hW) (evs_cons (ev_itS nv nv hu5 hi5) evs_nil) (cl_len_str (lt62 (Nat.le_trans hk.2.2.2.2.2.1 (by decide))))) (ev_callB (nmB hW) (evs_cons (ev_itS (i := i + 1) nv (ev_bin nv ev_int op_add_int) hu5 (Nat.succ_lt_succ hi)) evs_nil) (cl_len_str (lt62 (Nat.le_trans hk.2.2.2.2.2.2 (by decide))))) op_sub_int) ev_int op_add_int) (op_mul_str hk.2.2.2.1)) (op_add_str (sz3 (l1 hk.1) (l1 hk.2.2.1) (l1 hk.2.2.2.2.1)))
  exact next P s (X.forget (by trivial))
end
section
set_option maxHeartbeats 4000000
theorem pick_last {ds : List D} : pick ds (some (-1)) none = ds.drop (ds.length - 1) := by
  have h1 : kms_lo (some (-1)) ds.length = ds.length - 1 := rfl
  have h2 : kms_hi none ds.length = ds.length := rfl
  unfold pick
  rw [h1, h2, List.take_of_length_le (by rw [List.length_drop]; exact Nat.le_refl _)]
theorem pick_mid {l : List Str} {a b : Nat} (h1 : a ≤ b) (h2 : b ≤ l.length) : pick (l.map D.str) (some (a : Int)) (some (b : Int)) = ((l.drop a).take (b - a)).map .str := by
  have e1 : kms_lo (some (a : Int)) (l.map D.str).length = a := by
    simp [kms_lo]; rw [if_neg (by omega)]; omega
  have e2 : kms_hi (some (b : Int)) (l.map D.str).length = b := by
    simp [kms_hi]; rw [if_neg (by omega)]; omega
  unfold pick
  rw [e1, e2, List.map_take, List.map_drop]
noncomputable def lessL (dn : List Str) (row : Nat) : List Bool := (List.range row).map fun one => lessAt dn one row
noncomputable def nmD (dn : List Str) : D → D
  | .int i => .str (nmAt dn i.toNat)
  | d => d
theorem above_eq (dn : List Str) (row : Nat) : ((rngs 0 row).filter (intQ fun i => lessAt dn i.toNat row)).map (nmD dn) = (aboveL dn row).map .str := by
  unfold rngs aboveL
  rw [List.filter_map, List.map_map, List.map_map]
  have e : ((intQ fun i => lessAt dn i.toNat row) ∘ fun (i : Nat) => D.int (0 + (i : Int))) = fun one => lessAt dn one row := by
    funext i
    show lessAt dn (0 + (i : Int)).toNat row = _
    rw [Int.zero_add, Int.toNat_natCast]
  rw [e]
  refine List.map_congr_left fun i _ => ?_
  show D.str (nmAt dn (0 + (i : Int)).toNat) = _
  rw [Int.zero_add, Int.toNat_natCast]; rfl
theorem pick_above (dn : List Str) (row : Nat) : D.list (pick (((rngs 0 row).filter (intQ fun i => lessAt dn i.toNat row)).map (nmD dn)) (some (-1)) none) = .list (((aboveL dn row).drop ((aboveL dn row).length - 1)).map .str) := by
  rw [above_eq, pick_last, List.length_map, List.map_drop]
theorem fil_len {n : Nat} {p : D → Bool} {f : D → D} (h : n < 5) : (((rngs 0 n).filter p).map f).length ≤ sizeLine := by
  rw [List.length_map]
  exact Nat.le_trans (List.length_filter_le ..) (by rw [rngs_len]; exact Nat.le_trans (Nat.le_of_lt h) (szl rfl))
theorem mem_rngs {n : Nat} {d : D} (h : d ∈ rngs 0 n) : ∃ i : Nat, i < n ∧ d = .int (i : Int) := by
  obtain ⟨i, hi⟩ := List.getElem?_of_mem h
  obtain ⟨h3, rfl⟩ := rngs_get hi
  exact ⟨i, h3, by rw [Int.zero_add]⟩
theorem lessL_at {dn : List Str} {row i : Nat} (h : i < row) : (lessL dn row).getD i false = lessAt dn i row := by
  rw [List.getD_eq_getElem?_getD, lessL, List.getElem?_map, List.getElem?_range h]; rfl
theorem perm321 {α : Type} {a b c : α} : [c, b, a].Perm [a, b, c] := List.reverse_perm [a, b, c]
theorem perm312 {α : Type} {a b c : α} : [c, a, b].Perm [a, b, c] := List.perm_append_comm (l₁ := [c]) (l₂ := [a, b])
theorem beq_true_ (b : Bool) : (b == true) = b := by cases b <;> rfl
noncomputable def idD : D → D
  | .int i => .int i.toNat
  | d => d
theorem taken_eq (pt : List Str) (row : Nat) : ((rngs 0 row).filter (intQ fun i => ckpar (brAt pt i.toNat row))).map idD = (takenOf pt row).map fun (n : Nat) => D.int n := by
  unfold rngs takenOf
  rw [List.filter_map, List.map_map]
  have e : ((intQ fun i => ckpar (brAt pt i.toNat row)) ∘ fun (i : Nat) => D.int (0 + (i : Int))) = fun one => ckpar (brAt pt one row) := by
    funext i
    show ckpar (brAt pt (0 + (i : Int)).toNat row) = _
    rw [Int.zero_add, Int.toNat_natCast]
  rw [e]
  refine List.map_congr_left fun i _ => ?_
  show D.int ((0 + (i : Int)).toNat) = _
  rw [Int.zero_add, Int.toNat_natCast]
theorem lowOk_out {dn pt : List Str} {row : Nat} (h : lowOk dn pt row = true) : JoinOk "" ((aboveL dn row).drop ((aboveL dn row).length - 1)) = true ∧ (Txt.join "" ((aboveL dn row).drop ((aboveL dn row).length - 1))).length ≤ 100 ∧ (Txt.slice (dotAt dn row) none (some (-2))).length ≤ 1000 ∧ (sed (Txt.slice (dotAt dn row) none (some (-2)))).length ≤ 100 ∧ ∀ one, one < row → JoinOk "(" ((pt.drop one).take (row - one)) = true ∧ ckOk (brAt pt one row) = true := by
  simp only [lowOk, Bool.and_eq_true, decide_eq_true_eq, List.all_eq_true] at h
  obtain ⟨⟨⟨⟨h1, h2⟩, h3⟩, h4⟩, h5⟩ := h
  exact ⟨h1, h2, h3, h4, fun one ho => h5 one (List.mem_range.mpr ho)⟩
theorem nil_of {ds : List D} : D.list ((ds.filter fun _ => false).map id) = .list [] := by
  rw [List.filter_eq_nil_iff.mpr (fun _ _ => Bool.false_ne_true)]; rfl
theorem m2fits {r : Nat} : fitsSsize (Int.fmod ((r : Nat) : Int) 2) = true := by
  rw [rmod2]; rcases Nat.mod_two_eq_zero_or_one r with h | h <;> rw [h] <;> rfl
theorem is_bool_no {b : Bool} : ((!(b == true)) && (!(b == false))) = false := by cases b <;> rfl
variable {W : Wd} {Pm : Params} (hW : W.K = hd02.heap_1 Pm)
include hW
theorem segR1 {k : Nat} {A : Around} {L : Addr} {s₀ : Shared} {P₀ H P : Vw} {s : Shared} {fd : FuncData} {Mx : List (Addr × MO)} {Q : Flow → Shared → Prop} {E : Value → Shared → Prop} {dn pt ll dd bb : List Str} {row : Nat} {d1 d2 d3 : D} (hf : lawF Pm = some fd) (hr : row < 5) (hd5 : dn.length = 5) (hdo : ∀ r, r < 5 → dotOk (dn.getD r "") r = true) (hnm : ∀ r, r < 5 → (nmAt dn r).length ≤ 100) (hlo : lowOk dn pt row = true) (hll : ll.length ≤ 5)
    (X : At W (k + 13) A (callEnvC fd L 198) s₀ P₀ H [("row", .int row), ("parts", .list (pt.map .str)), ("leads", .list ((leadsOf dn).map leadD)), ("names", .list ((namesOf dn).map .str)), ("rows", .list (dn.map .str)), ("lexer", d1), ("order", d2), ("word", d3)] [("by_brackets", bb.map .str), ("by_dots", dd.map .str), ("by_leads", ll.map .str)] Mx P s)
    (next : ∀ P s, At W (k + 13) A (callEnvC fd L 198) s₀ P₀ H [("row", .int row), ("parts", .list (pt.map .str)), ("leads", .list ((leadsOf dn).map leadD)), ("names", .list ((namesOf dn).map .str)), ("rows", .list (dn.map .str)), ("lexer", d1), ("order", d2), ("word", d3)] [("by_leads", (ll ++ [byLead dn row]).map .str), ("by_dots", dd.map .str), ("by_brackets", bb.map .str)] Mx P s → wpAny W.M A (execs ((forB ((stmtsOf fd).drop 22)).drop 3) (callEnvC fd L 198)) Q E s) :
    wpAny W.M A (execs (forB ((stmtsOf fd).drop 22)) (callEnvC fd L 198)) Q E s := by
  obtain rfl : _ = fd := Option.some.inj hf
  have hWx : (W.at Mx).K = hd02.heap_1 Pm := hW
  have hlo := lowOk_out hlo
  have hn5 : (namesOf dn).length = 5 := by rw [namesOf, List.length_map, List.length_range]
  have hnr : (namesOf dn).getD row "" = nmAt dn row := getD_range hr
  have hr62 : -2 ^ 62 ≤ (row : Int) ∧ (row : Int) < 2 ^ 62 := bI5 hr
  have hws := fun i (h : i < 5) => (dotOk_out4 (hdo i h)).2.1
  have hlt := fun i (h : i < row) => Nat.lt_trans h hr
  refine s_set (d := .list ((lessL dn row).map .bool)) X (EvN.ev (evn_for [("leads", .list ((leadsOf dn).map leadD)), ("row", .int row)] [] (evi_range1 (n := row) (nmB hW) nv (Nat.lt_trans hr (by decide))) (by rw [List.length_map, lessL, List.length_map, List.length_range, rngs_len]) (fun C i d d' h1 h2 => ?_) (hsz := by rw [rngs_len]; exact ble_of (Nat.le_trans (Nat.le_of_lt hr) (by decide))))) (bc rfl rfl) fun P s X => ?_
  · obtain ⟨hi, rfl⟩ := rngs_get h1
    rw [Int.zero_add]
    obtain rfl := at_rng hi h2
    exact ev_methO (C := 83) (fs := wsFields _ _) (ev_item_list (Ev.list nv) nv (lead_atD (ltL hd5 (hlt i hi))) (bI5 (hlt i hi))) (methK hWx) (fnK hWx) (by rfl) (evs_cons (ev_item_list (Ev.list nv) nv (lead_atD (ltL hd5 hr)) hr62) evs_nil) (cl150 (W := W.at Mx) hW (hws i (hlt i hi)) (hws row hr))
  have hl5 : (lessL dn row).length = row := by rw [lessL, List.length_map, List.length_range]
  refine s_if0 X (ts_cmp (Ev.eq (EvN.ev (evn_forif [] [] (fun _ => false) id (evi_listP nv) (fun C d hd => ?_) (fun C d hd he => nomatch he) (hsz := by rw [List.length_map, hl5]; exact ble_of (Nat.le_trans (Nat.le_of_lt hr) (by decide))))) nil_of) (ev_list evs_nil) op_ne_nil) rfl fun P s X => ?_
  · obtain ⟨b, _, rfl⟩ := List.mem_map.mp hd
    exact Ts.eq (ts_and2 (ts_cmp nv ev_bool op_isnot_bool) fun _ => ts_cmp nv ev_bool op_isnot_bool) is_bool_no
  replace X : At W (k + 13) A _ s₀ P₀ H _ [("by_leads", ll.map .str), ("by_dots", dd.map .str), ("by_brackets", bb.map .str)] Mx P s := X.permD ?_
  · refine s_append X (ev_bin (ev_smeth (name := Str.ofString "join") (id := "str.join") (x := "") (ds := [.list (((aboveL dn row).drop ((aboveL dn row).length - 1)).map .str)]) ev_str (evs_cons (Ev.eq (EvN.ev (evn_slice_list (EvN.l (evn_forif [("less", .list ((lessL dn row).map .bool)), ("names", .list ((namesOf dn).map .str))] [] (intQ fun i => lessAt dn i.toNat row) (nmD dn) (evi_range1 (n := row) (nmB hW) nv (Nat.lt_trans hr (by decide))) (fun C d hd => ?_) (fun C d hd he => ?_) (hsz := by rw [rngs_len]; exact ble_of (Nat.le_trans (Nat.le_of_lt hr) (by decide))))) (evo_some (ev_un ev_int op_neg)) evo_none (fil_len hr))) (pick_above dn row)) evs_nil) F.slot_str_join F.type_str_join (cl_join hlo.1) (hbase := base_const)) (ev_itS nv nv hn5 hr) (op_add_str ?_)) (Nat.le_trans (by rw [List.length_map]; exact hll) (szl rfl)) fun P s X => ?_
    · obtain ⟨i, hi, rfl⟩ := mem_rngs hd
      exact Ts.eq (ts_bool (ev_itB (r := lessL dn row) (show Ev _ _ _ _ _ _ (.list ((lessL dn row).map .bool)) from nv) nv hl5 hi (Nat.le_trans (Nat.le_of_lt hr) (by decide)))) (by show _ = lessAt dn (i : Int).toNat row; rw [Int.toNat_natCast]; exact lessL_at hi)
    · obtain ⟨i, hi, rfl⟩ := mem_rngs hd
      refine Ev.eq (ev_itS nv nv hn5 (hlt i hi)) ?_
      show D.str ((namesOf dn).getD i "") = .str (nmAt dn (i : Int).toNat)
      rw [Int.toNat_natCast]; exact congrArg D.str (getD_range (hlt i hi))
    · rw [hnr]
      exact Nat.le_trans (Nat.add_le_add hlo.2.1 (hnm row hr)) (szl (by decide))
    rw [hnr] at X
    refine next P s ?_
    rw [List.map_append]
    exact X.forget (by trivial)
  · exact perm321
theorem segR2 {k : Nat} {A : Around} {L : Addr} {s₀ : Shared} {P₀ H P : Vw} {s : Shared} {fd : FuncData} {Mx : List (Addr × MO)} {Q : Flow → Shared → Prop} {E : Value → Shared → Prop} {dn pt ll dd bb : List Str} {row : Nat} {d1 d2 d3 : D} (hf : lawF Pm = some fd) (hr : row < 5) (hd5 : dn.length = 5) (hdo : ∀ r, r < 5 → dotOk (dn.getD r "") r = true) (hnm : ∀ r, r < 5 → (nmAt dn r).length ≤ 100) (hlo : lowOk dn pt row = true) (hdd : dd.length ≤ 5)
    (X : At W (k + 13) A (callEnvC fd L 198) s₀ P₀ H [("row", .int row), ("parts", .list (pt.map .str)), ("leads", .list ((leadsOf dn).map leadD)), ("names", .list ((namesOf dn).map .str)), ("rows", .list (dn.map .str)), ("lexer", d1), ("order", d2), ("word", d3)] [("by_leads", ll.map .str), ("by_dots", dd.map .str), ("by_brackets", bb.map .str)] Mx P s)
    (next : ∀ P s, At W (k + 13) A (callEnvC fd L 198) s₀ P₀ H [("row", .int row), ("parts", .list (pt.map .str)), ("leads", .list ((leadsOf dn).map leadD)), ("names", .list ((namesOf dn).map .str)), ("rows", .list (dn.map .str)), ("lexer", d1), ("order", d2), ("word", d3)] [("by_dots", (dd ++ [byDot dn row]).map .str), ("by_leads", ll.map .str), ("by_brackets", bb.map .str)] Mx P s → wpAny W.M A (execs ((forB ((stmtsOf fd).drop 22)).drop 5) (callEnvC fd L 198)) Q E s) :
    wpAny W.M A (execs ((forB ((stmtsOf fd).drop 22)).drop 3) (callEnvC fd L 198)) Q E s := by
  obtain rfl : _ = fd := Option.some.inj hf
  have hWx : (W.at Mx).K = hd02.heap_1 Pm := hW
  have hlo := lowOk_out hlo
  have hn5 : (namesOf dn).length = 5 := by rw [namesOf, List.length_map, List.length_range]
  have hnr : (namesOf dn).getD row "" = nmAt dn row := getD_range hr
  have hr62 : -2 ^ 62 ≤ (row : Int) ∧ (row : Int) < 2 ^ 62 := bI5 hr
  have hk := dotOk_out4 (hdo row hr)
  refine s_set (d := .str (dotOf (dn.getD row "") row)) X (ev_slice_str (ev_itS nv nv hd5 hr) (evo_some (ev_attrO (ev_item_list (Ev.list nv) nv (lead_atD (ltL hd5 hr)) hr62) (getK hWx) rfl)) (evo_some (ev_smeth (ev_itS nv nv hd5 hr) (evs_cons (ev_item_str ev_str (ev_bin nv ev_int (op_mod_int (by decide))) m2fits (Int.le_trans (by decide) (fmod_in (by decide)).1) (fmod_in (n := 2) (by decide)).2) evs_nil) F.slot_str_index F.type_str_index (by rw [rmod2]; exact cl_index hk.2.2.1))) (Nat.le_trans hk.1 (szl (by decide)))) (bl rfl) fun P s X => ?_
  replace X : At W (k + 13) A _ s₀ P₀ H _ [("by_dots", dd.map .str), ("by_leads", ll.map .str), ("by_brackets", bb.map .str)] Mx P s := X.permD (.swap ..)
  refine s_append X (ev_bin (ev_callF (nmG hW) (fnK hW) (evs_cons (ev_slice_str nv evo_none (evo_some (ev_un ev_int op_neg)) (Nat.le_trans hk.2.2.2 (szl (by decide)))) evs_nil) (cl56 (W := W.at Mx) hW (Nat.le_trans hlo.2.2.1 (szl (by decide))))) (ev_itS nv nv hn5 hr) (op_add_str ?_)) (Nat.le_trans (by rw [List.length_map]; exact hdd) (szl rfl)) fun P s X => ?_
  · rw [hnr]
    exact Nat.le_trans (Nat.add_le_add hlo.2.2.2.1 (hnm row hr)) (szl (by decide))
  rw [hnr] at X
  refine next P s ?_
  rw [List.map_append]
  exact X.forget (by trivial)
theorem segR3 {k : Nat} {A : Around} {L : Addr} {s₀ : Shared} {P₀ H P : Vw} {s : Shared} {fd : FuncData} {Mx : List (Addr × MO)} {Q : Flow → Shared → Prop} {E : Value → Shared → Prop} {dn pt ll dd bb : List Str} {row : Nat} {d1 d2 d3 : D} (hf : lawF Pm = some fd) (hr : row < 5) (hp4 : pt.length = 4) (hdn5 : dn.length = 5) (hnm : ∀ r, r < 5 → (nmAt dn r).length ≤ 100) (hlo : lowOk dn pt row = true) (hbb : bb.length ≤ 1000)
    (X : At W (k + 13) A (callEnvC fd L 198) s₀ P₀ H [("row", .int row), ("parts", .list (pt.map .str)), ("leads", .list ((leadsOf dn).map leadD)), ("names", .list ((namesOf dn).map .str)), ("rows", .list (dn.map .str)), ("lexer", d1), ("order", d2), ("word", d3)] [("by_dots", dd.map .str), ("by_leads", ll.map .str), ("by_brackets", bb.map .str)] Mx P s)
    (next : ∀ P s, At W (k + 13) A (callEnvC fd L 198) s₀ P₀ H [("row", .int row), ("parts", .list (pt.map .str)), ("leads", .list ((leadsOf dn).map leadD)), ("names", .list ((namesOf dn).map .str)), ("rows", .list (dn.map .str)), ("lexer", d1), ("order", d2), ("word", d3)] [("by_brackets", (bb ++ byBr dn pt row).map .str), ("by_dots", dd.map .str), ("by_leads", ll.map .str)] Mx P s → wpAny W.M A (execs ((forB ((stmtsOf fd).drop 22)).drop 7) (callEnvC fd L 198)) Q E s) :
    wpAny W.M A (execs ((forB ((stmtsOf fd).drop 22)).drop 5) (callEnvC fd L 198)) Q E s := by
  obtain rfl : _ = fd := Option.some.inj hf
  have hWx : (W.at Mx).K = hd02.heap_1 Pm := hW
  have hlo := lowOk_out hlo
  have hn5 : (namesOf dn).length = 5 := by rw [namesOf, List.length_map, List.length_range]
  have hnr : (namesOf dn).getD row "" = nmAt dn row := getD_range hr
  have hrn : Nat.ble (rngs 0 row).length 16384 = true := by rw [rngs_len]; exact ble_of (Nat.le_trans (Nat.le_of_lt hr) (by decide))
  refine s_forifC false [("row", .int row), ("parts", .list (pt.map .str))] [] (intQ fun i => ckpar (brAt pt i.toNat row)) idD X (evi_range1 (n := row) (nmB hW) nv (Nat.lt_trans hr (by decide))) (fun C d hd => ?_) (fun C d hd he => ?_) (bl rfl) (by trivial) (by trivial) (fun P s X => ?_) (hsz := hrn)
  · obtain ⟨i, hi, rfl⟩ := mem_rngs hd
    have h1 := hlo.2.2.2.2 i hi
    refine Ts.eq (ts_cmp (ev_callF (nmG hW) (fnK hW) (evs_cons (ev_smeth (name := Str.ofString "join") (id := "str.join") (x := "(") (ds := [.list (((pt.drop i).take (row - i)).map .str)]) ev_str (evs_cons (Ev.eq (EvN.ev (evn_slice_list (Ev.list nv) (evo_some nv) (evo_some nv) (by rw [List.length_map, hp4]; exact szl rfl))) (congrArg D.list (pick_mid (Nat.le_of_lt hi) (by rw [hp4]; exact Nat.le_of_lt_succ hr)))) evs_nil) F.slot_str_join F.type_str_join (cl_join h1.1) (hbase := base_const)) evs_nil) (cl42 (W := W.at Mx) hW h1.2)) ev_bool op_is_bool) ?_
    show (ckpar (brAt pt i row) == true) = ckpar (brAt pt (i : Int).toNat row)
    rw [Int.toNat_natCast]; exact beq_true_ _
  · obtain ⟨i, hi, rfl⟩ := mem_rngs hd
    exact Ev.eq nv (by show D.int (i : Int) = .int ((i : Int).toNat : Int); rw [Int.toNat_natCast])
  rw [taken_eq] at X
  replace X : At W (k + 13) A _ s₀ P₀ H [("taken", .list ((takenOf pt row).map fun (n : Nat) => D.int n)), ("row", .int row), ("parts", .list (pt.map .str)), ("leads", .list ((leadsOf dn).map leadD)), ("names", .list ((namesOf dn).map .str)), ("rows", .list (dn.map .str)), ("lexer", d1), ("order", d2), ("word", d3)] [("by_brackets", bb.map .str), ("by_dots", dd.map .str), ("by_leads", ll.map .str)] Mx P s := X.permD perm312
  have htl : (takenOf pt row).length ≤ row := by rw [takenOf]; exact Nat.le_trans (List.length_filter_le ..) (by rw [List.length_range]; exact Nat.le_refl _)
  refine s_extendN X (es := (byBr dn pt row).map .str) (EvN.l (evn_for [("row", .int row), ("names", .list ((namesOf dn).map .str))] [] (evi_listP (ds := (takenOf pt row).map fun (n : Nat) => D.int n) nv) (by rw [byBr, List.length_map, List.length_map, List.length_map]) (fun C i d d' h1 h2 => ?_) (hsz := by rw [List.length_map]; exact ble_of (Nat.le_trans htl (Nat.le_trans (Nat.le_of_lt hr) (by decide)))))) (by rw [List.length_map, byBr, List.length_map, List.length_map]; omega) fun P s X => ?_
  · rw [List.getElem?_map] at h1
    obtain ⟨one, ho, rfl⟩ := Option.map_eq_some_iff.mp h1
    rw [byBr, List.map_map, List.getElem?_map, ho] at h2
    obtain rfl := Option.some.inj h2
    have hlt : one < row := List.mem_range.mp (List.mem_filter.mp (List.mem_of_getElem? ho)).1
    have e1 : (namesOf dn).getD one "" = nmAt dn one := getD_range (Nat.lt_trans hlt hr)
    show Ev _ _ _ _ _ _ (.str (nmAt dn one ++ nmAt dn row))
    rw [← e1, ← hnr]
    refine ev_bin (ev_itS nv nv hn5 (Nat.lt_trans hlt hr)) (ev_itS nv nv hn5 hr) (op_add_str ?_)
    rw [e1, hnr]
    exact Nat.le_trans (Nat.add_le_add (hnm one (Nat.lt_trans hlt hr)) (hnm row hr)) (szl (by decide))
  refine next P s ?_
  rw [List.map_append]
  exact X.forget (by trivial)
end
section
set_option maxHeartbeats 4000000
theorem brs_succ {dn pt : List Str} {i : Nat} : byBrs dn pt (i + 1) = byBrs dn pt i ++ byBr dn pt (i + 1) := by
  unfold byBrs rowsTo
  rw [List.range_succ, List.flatMap_append, List.flatMap_singleton]
theorem dots_succ {dn : List Str} {i : Nat} : byDots dn (i + 1) = byDots dn i ++ [byDot dn (i + 1)] := by
  unfold byDots
  rw [List.range_succ, List.map_append]; rfl
theorem leads_succ {dn : List Str} {i : Nat} : byLeads dn (i + 1) = byLeads dn i ++ [byLead dn (i + 1)] := by
  unfold byLeads
  rw [List.range_succ, List.map_append]; rfl
theorem dots_len {dn : List Str} {i : Nat} : (byDots dn i).length = i := by rw [byDots, List.length_map, List.length_range]
theorem leads_len {dn : List Str} {i : Nat} : (byLeads dn i).length = i := by rw [byLeads, List.length_map, List.length_range]
theorem br_len {dn pt : List Str} {i : Nat} : (byBr dn pt i).length ≤ i := by
  rw [byBr, List.length_map, takenOf]
  exact Nat.le_trans (List.length_filter_le ..) (Nat.le_of_eq List.length_range)
theorem brs_len {dn pt : List Str} : ∀ i : Nat, (byBrs dn pt i).length ≤ i * i
  | 0 => Nat.le_refl _
  | i + 1 => by
    rw [brs_succ, List.length_append]
    have h1 := brs_len (dn := dn) (pt := pt) i
    have h2 := br_len (dn := dn) (pt := pt) (i := i + 1)
    have h3 : (i + 1) * (i + 1) = i * i + i + (i + 1) := by rw [Nat.mul_add, Nat.add_mul, Nat.add_mul]; omega
    omega
theorem brs_len5 {dn pt : List Str} {i : Nat} (h : i < 4) : (byBrs dn pt i).length ≤ 1000 := Nat.le_trans (brs_len i) (Nat.le_trans (Nat.mul_le_mul (Nat.le_of_lt h) (Nat.le_of_lt h)) (by decide))
theorem op_eq_strs {W : Wd} {k : Nat} {xs : List Str} (h1 : strsOk xs = true) : Op2 W k (compareOp .Eq) (.list (xs.map .str)) (.list (xs.map .str)) (.bool true) := fun A S P s E Q u v st hu hv hQ => by
  obtain ⟨as, ra⟩ := reads_strs st.p hu
  obtain ⟨bs, rb⟩ := reads_strs st.p hv
  refine eq_dataH_same ra rb (shaped_strs xs h1) (shaped_strs xs h1) (units_ok st.a) (by unfold PySem.SeqAt.noMix; exact noMix_strs xs xs) ?_
  rw [show PySem.Spec.same (.list (xs.map .str)) (.list (xs.map .str)) = true by simp [PySem.Spec.same, same_strs]]
  exact hQ _ P _ (Gr.refl st.p) (.bool _)
variable {W : Wd} {Pm : Params} (hW : W.K = hd02.heap_1 Pm)
include hW
theorem segD2 {k n : Nat} {A : Around} {L : Addr} {s₀ : Shared} {P₀ H P : Vw} {s : Shared} {fd : FuncData} {dn pt od : List Str} {w : Str} {x dx pb al st : Addr} {l : List (Addr × Obj)} {ln : Int} {ps : Array Value} (hf : lawF Pm = some fd) (hp4 : pt.length = 4) (hd5 : dn.length = 5) (hdo : ∀ r, r < 5 → dotOk (dn.getD r "") r = true) (hnm : ∀ r, r < 5 → (nmAt dn r).length ≤ 100) (hlo : ∀ r, r < 4 → lowOk dn pt (r + 1) = true)
    (hbr : byBrs dn pt 4 = byLeads dn 4) (hdots : byDots dn 4 = byLeads dn 4) (hsb : strsOk (byLeads dn 4) = true) (hbk : bkOk (byLeads dn 4) = true) (hw : PyData.strOk w = true) (hso : strsOk od = true) (hbw : bkWord (byLeads dn 4) = w) (hbo : bkOrder (byLeads dn 4) = od)
    (X : At W (k + 13) A (callEnvC fd L 198) s₀ P₀ H [("parts", .list (pt.map .str)), ("leads", .list ((leadsOf dn).map leadD)), ("names", .list ((namesOf dn).map .str)), ("rows", .list (dn.map .str)), ("lexer", .inst x 160 dx), ("order", .list (od.map .str)), ("word", .str w)] [] (lexM dx pb al st l ln [] n ++ [(166, .obj (tabObj ps))]) P s) :
    wpAny W.M A (execs ((stmtsOf fd).drop 19) (callEnvC fd L 198)) (LawEnd W (k + 13) A (callEnvC fd L 198) s₀ P₀ H) (fun _ _ => False) s := by
  have hf' := hf
  obtain rfl : _ = fd := Option.some.inj hf
  refine s_setN X (evn_list evs_nil) (bl rfl) fun P s X => ?_
  refine s_setN X (evn_list evs_nil) (bl rfl) fun P s X => ?_
  refine s_setN X (evn_list evs_nil) (bl rfl) fun P s X => ?_
  refine s_forI X (evi_range2 (n := 4) (nmB hW) ev_int ev_int (by decide) (by decide) rfl) (bc rfl rfl) (fun _ => [("parts", .list (pt.map .str)), ("leads", .list ((leadsOf dn).map leadD)), ("names", .list ((namesOf dn).map .str)), ("rows", .list (dn.map .str)), ("lexer", .inst x 160 dx), ("order", .list (od.map .str)), ("word", .str w)]) (fun i => [("by_brackets", (byBrs dn pt i).map .str), ("by_dots", (byDots dn i).map .str), ("by_leads", (byLeads dn i).map .str)]) rfl rfl (fun _ => ⟨by trivial, by trivial⟩) (fun i d H' P s E' hd X => ?_) fun P s X => ?_
  · obtain ⟨hi, rfl⟩ := rngs_get hd
    rw [show (1 : Int) + (i : Int) = ((i + 1 : Nat) : Int) from Int.add_comm ..] at X
    rw [brs_succ, dots_succ, leads_succ]
    have hi5 : i + 1 < 5 := Nat.succ_lt_succ hi
    exact segR1 hW hf' hi5 hd5 hdo hnm (hlo i hi) (by rw [leads_len]; exact Nat.le_of_lt (Nat.lt_succ_of_lt hi)) X fun P s X => segR2 hW hf' hi5 hd5 hdo hnm (hlo i hi) (by rw [dots_len]; exact Nat.le_of_lt (Nat.lt_succ_of_lt hi)) X fun P s X => segR3 hW hf' hi5 hp4 hd5 hnm (hlo i hi) (brs_len5 hi) X fun P s X => s_nil ⟨P, X.forget fun p h => .tail _ h⟩
  · rw [rngs_len, hbr, hdots] at X
    generalize byLeads dn 4 = bls at *
    obtain ⟨P, X⟩ := X.freeze
    obtain ⟨P, X⟩ := X.freeze
    obtain ⟨P, X⟩ := X.freeze
    subst hbw hbo
    exact s_retM X (evm_and (ev_cmp2 nv nv nv (op_eq_strs hsb) (op_eq_strs hsb)) (evm_cmp (evm_callF (nmG hW) (fnK hW) (evs_cons nv (evs_cons nv evs_nil)) (kl193 (W := W.at []) hW hbk).cl) (ev_tuple (evs_cons nv (evs_cons nv evs_nil))) (op_eq_strTup hw hso))) rfl fun v P s X i => ⟨P, _, _, [(166, .obj (tabObj ps))], [], lexM dx pb al st l ln [] n, _, X.permM List.perm_append_comm, ⟨rfl, ps, rfl⟩, rfl, (fun p hp => nomatch hp), i⟩
end
section
set_option maxHeartbeats 4000000
theorem drawnOf_len {d : Int} {hu : List Str} : (drawnOf d hu).length = 5 := by rw [drawnOf, List.length_map, List.length_range]
theorem partsOf_len {dn hu : List Str} {hid : Str} {sp : List Int} : (partsOf dn hu hid sp).length = 4 := by rw [partsOf, List.length_map, List.length_range]
variable {W : Wd} {Pm : Params} (hW : W.K = hd02.heap_1 Pm)
include hW
theorem kl198 {k : Nat} {ns : List Int} (hlen : ns.length ≤ 63) (Fx : LawOk (drs ns)) (hsw : PyData.strOk (wordOf (drs ns)) = true) : Kl0 W (k + 14) (.ref 198) [.list (ns.map .int)] [(166, .obj (tabObj #[]))] (LawOut 166) := by
  refine kl0_fn (x := "script") (fun P b => ⟨⟨_, b.k _ _ (by rw [hW]; rfl), rfl⟩, by rw [hW]; rfl, rfl, fun vs h => ?_, rfl, ?_, by decide, by decide, rfl, rfl, rfl, rfl, rfl⟩) rfl ?_
  · obtain ⟨v, rfl⟩ := len1 h; rfl
  · decide
  intro A L s₀ P₀ P s _ X
  have hsz : (ns.map D.int).length ≤ 63 := (List.length_map ..).symm ▸ hlen
  have h4 : (ns.take 4).length ≤ 4 := len_take4
  replace X : At W (k + 13) A _ s₀ P₀ _ [("script", .list (ns.map .int))] [] [(166, .obj (tabObj #[]))] P s := X
  refine s_set (d := .list ((drs ns).map .int)) X (EvN.ev ?_) (bc rfl rfl) fun P s X => ?_
  · rw [drs, List.map_append]
    refine evn_add (EvN.l ?_) (EvN.l ?_) ?_
    · refine evn_for (its := (ns.take 4).map .int) [] [] (evi_list (EvN.l (by rw [← pick_ints]; exact evn_slice_list (Ev.list nv) evo_none (evo_some ev_int) (Nat.le_trans hsz (szl (by decide)))))) (by rw [List.length_map, List.length_map, List.length_map]) (fun C i d d' h1 h2 => ?_) (hsz := ble_of (by rw [List.length_map]; exact Nat.le_trans h4 (by decide)))
      rw [List.map_map, List.getElem?_map] at h2
      rw [List.getElem?_map] at h1
      obtain ⟨x, hx, rfl⟩ := Option.map_eq_some_iff.mp h1
      rw [hx] at h2
      obtain rfl := Option.some.inj h2
      exact ev_bin nv ev_int (op_mod_int (by decide))
    · rw [← pick_drop h4]
      refine evn_slice_list (EvN.l (evn_list (ds := ([21, 8, 241, 113] : List Int).map .int) (evs_cons ev_int (evs_cons ev_int (evs_cons ev_int (evs_cons ev_int evs_nil)))))) (evo_some ?_) evo_none (by decide)
      rw [lenI]
      exact ev_callBL (nmB hW) (EvN.l (by rw [← pick_ints]; exact evn_slice_list (Ev.list nv) evo_none (evo_some ev_int) (Nat.le_trans hsz (szl (by decide))))) (cl_len_list (by rw [List.length_map]; exact lt62 (Nat.le_trans h4 (by decide))))
    · rw [List.length_map, List.length_map, List.length_map, List.length_drop]
      exact Nat.le_trans (Nat.add_le_add h4 (Nat.sub_le ..)) (szl (by decide))
  generalize drs ns = dr at *
  have hhu : (huOf dr).length = 5 := (hgOk_out Fx.hung).2.2.2.2
  have hw3 : (wordOf dr).length = 3 := (thOk_out Fx.there).1
  have htx := (textOk_out Fx.text).2.2
  exact segA hW rfl Fx.len Fx.word Fx.there Fx.order Fx.sokO (X.forget (Γ' := [("draws", .list (dr.map .int))]) (by trivial)) fun c1 c2 oc vs t P s hv1 hv2 X =>
    segB hW rfl Fx.len Fx.hung Fx.row X fun P s X =>
    segC1 hW rfl Fx.len drawnOf_len Fx.text X fun P s X =>
    segC2 hW rfl hv1 hv2 htx X fun x dx pb al st l ps P s hS X =>
    segC3 hW rfl htx drawnOf_len Fx.lex hw3 Fx.sok Fx.sokA hS X fun ln n P s X =>
    segD1 hW rfl Fx.len drawnOf_len hhu Fx.dot Fx.part X fun P s X =>
    segD2 hW rfl partsOf_len drawnOf_len Fx.dot Fx.nm Fx.low Fx.br Fx.dots Fx.sokB Fx.back hsw Fx.sokO Fx.backW Fx.backO X
end
section
set_option maxHeartbeats 4000000
/-! text, sign by sign -/
theorem sx {a b : Str} (h : a.cps.toList = b.cps.toList) : a = b := by
  cases a; cases b; simp only [Str.mk.injEq]; exact Array.toList_inj.mp h
theorem cpsA (a b : Str) : (a ++ b).cps.toList = a.cps.toList ++ b.cps.toList := by
  rw [Str.cps_append, Array.toList_append]
theorem beq1 (a c : Nat) : ((⟨#[a]⟩ : Str) == ⟨#[c]⟩) = decide (a = c) := one_beq
theorem q34 (c : Nat) : ((⟨#[c]⟩ : Str) == "\"") = decide (c = 34) := beq1 c 34
theorem q92 (c : Nat) : ((⟨#[c]⟩ : Str) == "\\") = decide (c = 92) := beq1 c 92
theorem q10 (c : Nat) : ((⟨#[c]⟩ : Str) == "\n") = decide (c = 10) := beq1 c 10
theorem wsc_eq (c : Nat) : wsc c = decide (c ∈ [10, 9, 13, 32]) := StrLaws.found_one "\n\t\r " c
theorem lnc_eq (c : Nat) (ln : Int) : lnc c ln = if c = 10 then ln + 1 else ln := by
  unfold lnc; rw [q10]; simp
noncomputable def subs (c : Nat) (z : List Nat) (l : List Nat) : List Nat := l.flatMap fun d => if d = c then z else [d]
theorem subs_append (c : Nat) (z a b : List Nat) : subs c z (a ++ b) = subs c z a ++ subs c z b := List.flatMap_append
theorem subs_free (c : Nat) (z : List Nat) : ∀ l : List Nat, c ∉ l → subs c z l = l
  | [], _ => rfl
  | k :: r, h => by
    have h1 : ¬ k = c := fun e => h (e ▸ List.mem_cons_self ..)
    have ih := subs_free c z r fun m => h (List.mem_cons_of_mem _ m)
    unfold subs at ih ⊢
    rw [List.flatMap_cons, if_neg h1, ih]; rfl
theorem subs_join (c : Nat) (z : Str) : ∀ parts : List Str, (∀ p ∈ parts, c ∉ p.cps.toList) → subs c z.cps.toList (Str.join ⟨#[c]⟩ parts).cps.toList = (Str.join z parts).cps.toList
  | [], _ => rfl
  | [p], h => subs_free c _ _ (h p (List.mem_singleton.mpr rfl))
  | p :: q :: r, h => by
    have ih := subs_join c z (q :: r) fun a ha => h a (List.mem_cons_of_mem _ ha)
    show subs c _ (p ++ ⟨#[c]⟩ ++ Str.join ⟨#[c]⟩ (q :: r)).cps.toList = (p ++ z ++ Str.join z (q :: r)).cps.toList
    simp only [Str.cps_append, Array.toList_append]
    rw [subs_append, subs_append, ih, subs_free c _ _ (h p (List.mem_cons_self ..))]
    congr 2
    simp [subs]
theorem repl (x z : Str) (c : Nat) : (Txt.replace x ⟨#[c]⟩ z).cps.toList = subs c z.cps.toList x.cps.toList := by
  rw [StrLaws.replace_one, ← subs_join c z _ (StrLaws.split_free x c), StrLaws.join_split]
theorem joinE : ∀ l : List Str, (Txt.join "" l).cps.toList = l.flatMap fun x => x.cps.toList := by
  intro l
  have e : Txt.join "" l = Str.join ⟨#[]⟩ l := StrLaws.glued_eq_join _ _
  rw [e]; clear e
  induction l with
  | nil => rfl
  | cons a r ih =>
    rw [List.flatMap_cons, ← ih, join_nil_cons, cpsA]
noncomputable def lnL (l : List Nat) (ln : Int) : Int := l.foldl (fun a c => lnc c a) ln
theorem lnL_count (l : List Nat) (ln : Int) : lnL l ln = ln + (l.count 10 : Nat) := by
  induction l generalizing ln with
  | nil => simp [lnL]
  | cons c r ih =>
    have : lnL (c :: r) ln = lnL r (lnc c ln) := rfl
    rw [this, ih, lnc_eq, List.count_cons]
    by_cases h : c = 10
    · simp [h]; omega
    · simp [h]
theorem lexT_k (c : Nat) (r : List Nat) (ln : Int) (n : Nat) : lexT (c :: r) ln n = if wsc c then lexT r (lnc c ln) (n + 1) else if (⟨#[c]⟩ : Str) == "\"" then lexQ r "" (lnc c ln) (n + 1) else if (⟨#[c]⟩ : Str) == "\\" then (match r with | [] => (("" : Str) ++ ("" : Str), [], lnc c ln, n + 3) | c2 :: r2 => lexB r2 (("" : Str) ++ (⟨#[c2]⟩ : Str)) (lnc c2 (lnc c ln)) (n + 2)) else lexB r (("" : Str) ++ (⟨#[c]⟩ : Str)) (lnc c ln) (n + 1) := by cases r <;> rfl
theorem lexQ_k (c : Nat) (r : List Nat) (tok : Str) (ln : Int) (n : Nat) : lexQ (c :: r) tok ln n = if (⟨#[c]⟩ : Str) == "\"" then (tok, r, lnc c ln, n + 1) else if (⟨#[c]⟩ : Str) == "\\" then (match r with | [] => (tok ++ ("" : Str), [], lnc c ln, n + 3) | c2 :: r2 => lexQ r2 (tok ++ (⟨#[c2]⟩ : Str)) (lnc c2 (lnc c ln)) (n + 2)) else lexQ r (tok ++ (⟨#[c]⟩ : Str)) (lnc c ln) (n + 1) := by cases r <;> rfl
theorem lexB_k (c : Nat) (r : List Nat) (tok : Str) (ln : Int) (n : Nat) : lexB (c :: r) tok ln n = if wsc c then (tok, r, lnc c ln, n + 1) else if (⟨#[c]⟩ : Str) == "\\" then (match r with | [] => (tok ++ ("" : Str), [], lnc c ln, n + 3) | c2 :: r2 => lexB r2 (tok ++ (⟨#[c2]⟩ : Str)) (lnc c2 (lnc c ln)) (n + 2)) else lexB r (tok ++ (⟨#[c]⟩ : Str)) (lnc c ln) (n + 1) := by cases r <;> rfl
theorem lexQ_c (c : Nat) (r : List Nat) (tok : Str) (ln : Int) (n : Nat) : lexQ (c :: r) tok ln n = if c = 34 then (tok, r, lnc c ln, n + 1) else if c = 92 then (match r with | [] => (tok ++ ("" : Str), [], lnc c ln, n + 3) | c2 :: r2 => lexQ r2 (tok ++ (⟨#[c2]⟩ : Str)) (lnc c2 (lnc c ln)) (n + 2)) else lexQ r (tok ++ (⟨#[c]⟩ : Str)) (lnc c ln) (n + 1) := by
  rw [lexQ_k, q34, q92]; simp only [decide_eq_true_eq] <;> rfl
theorem lexB_c (c : Nat) (r : List Nat) (tok : Str) (ln : Int) (n : Nat) : lexB (c :: r) tok ln n = if c ∈ [10, 9, 13, 32] then (tok, r, lnc c ln, n + 1) else if c = 92 then (match r with | [] => (tok ++ ("" : Str), [], lnc c ln, n + 3) | c2 :: r2 => lexB r2 (tok ++ (⟨#[c2]⟩ : Str)) (lnc c2 (lnc c ln)) (n + 2)) else lexB r (tok ++ (⟨#[c]⟩ : Str)) (lnc c ln) (n + 1) := by
  rw [lexB_k, wsc_eq, q92]; simp only [decide_eq_true_eq] <;> rfl
theorem lexT_c (c : Nat) (r : List Nat) (ln : Int) (n : Nat) : lexT (c :: r) ln n = if c ∈ [10, 9, 13, 32] then lexT r (lnc c ln) (n + 1) else if c = 34 then lexQ r "" (lnc c ln) (n + 1) else if c = 92 then (match r with | [] => (("" : Str) ++ ("" : Str), [], lnc c ln, n + 3) | c2 :: r2 => lexB r2 (("" : Str) ++ (⟨#[c2]⟩ : Str)) (lnc c2 (lnc c ln)) (n + 2)) else lexB r (("" : Str) ++ (⟨#[c]⟩ : Str)) (lnc c ln) (n + 1) := by
  rw [lexT_k, wsc_eq, q34, q92]; simp only [decide_eq_true_eq] <;> rfl
theorem tokA (tok : Str) (c : Nat) (l : List Nat) : (tok ++ (⟨#[c]⟩ : Str)) ++ (⟨l.toArray⟩ : Str) = tok ++ (⟨(c :: l).toArray⟩ : Str) := sx (by simp [cpsA])
theorem tokE (tok : Str) : tok ++ (⟨([] : List Nat).toArray⟩ : Str) = tok := sx (by simp [cpsA])
/-- marks ahead of quotation marks -/
theorem lexQ_0 {rest : List Nat} : ∀ {l : List Nat} {tok : Str} {ln : Int} {n : Nat}, 92 ∉ l → ∃ n', lexQ (subs 34 [92, 34] l ++ 34 :: rest) tok ln n = (tok ++ (⟨l.toArray⟩ : Str), rest, lnL l ln, n')
  | [], tok, ln, n, _ => by
    refine ⟨n + 1, ?_⟩
    show lexQ (34 :: rest) tok ln n = _
    rw [lexQ_c, if_pos rfl, tokE]; rfl
  | c :: l, tok, ln, n, h => by
    have h1 : ¬ c = 92 := fun e => h (e ▸ List.mem_cons_self ..)
    have h2 : 92 ∉ l := fun m => h (List.mem_cons_of_mem _ m)
    by_cases hc : c = 34
    · subst hc
      obtain ⟨n', e⟩ := lexQ_0 (rest := rest) (l := l) (tok := tok ++ (⟨#[34]⟩ : Str)) (ln := lnc 34 (lnc 92 ln)) (n := n + 2) h2
      refine ⟨n', ?_⟩
      have : subs 34 [92, 34] (34 :: l) = 92 :: 34 :: subs 34 [92, 34] l := rfl
      rw [this, List.cons_append, List.cons_append, lexQ_c, if_neg (by decide), if_pos rfl]
      dsimp only
      rw [e, tokA]
      rfl
    · obtain ⟨n', e⟩ := lexQ_0 (rest := rest) (l := l) (tok := tok ++ (⟨#[c]⟩ : Str)) (ln := lnc c ln) (n := n + 1) h2
      refine ⟨n', ?_⟩
      have : subs 34 [92, 34] (c :: l) = c :: subs 34 [92, 34] l := by
        unfold subs; rw [List.flatMap_cons, if_neg hc]; rfl
      rw [this, List.cons_append, lexQ_c, if_neg hc, if_neg h1, e, tokA]
      rfl
/-- marks ahead of all -/
theorem lexQ_2 {rest : List Nat} : ∀ {l : List Nat} {tok : Str} {ln : Int} {n : Nat}, ∃ n', lexQ ((l.flatMap fun d => [92, d]) ++ 34 :: rest) tok ln n = (tok ++ (⟨l.toArray⟩ : Str), rest, lnL l ln, n')
  | [], tok, ln, n => by
    refine ⟨n + 1, ?_⟩
    show lexQ (34 :: rest) tok ln n = _
    rw [lexQ_c, if_pos rfl, tokE]; rfl
  | c :: l, tok, ln, n => by
    obtain ⟨n', e⟩ := lexQ_2 (rest := rest) (l := l) (tok := tok ++ (⟨#[c]⟩ : Str)) (ln := lnc c (lnc 92 ln)) (n := n + 2)
    refine ⟨n', ?_⟩
    rw [List.flatMap_cons]
    show lexQ (92 :: c :: ((l.flatMap fun d => [92, d]) ++ 34 :: rest)) tok ln n = _
    rw [lexQ_c, if_neg (by decide), if_pos rfl]
    dsimp only
    rw [e, tokA]
    rfl
theorem no_ws {c : Nat} (h : ¬ (c = 32 ∨ c = 9 ∨ c = 10)) (h3 : ¬ c = 13) : c ∉ [10, 9, 13, 32] := by
  rw [List.mem_cons, List.mem_cons, List.mem_cons, List.mem_singleton]
  exact fun q => q.elim (fun e => h (.inr (.inr e))) fun q => q.elim (fun e => h (.inr (.inl e))) fun q => q.elim h3 fun e => h (.inl e)
noncomputable def escW (l : List Nat) : List Nat := l.flatMap fun d => if d = 32 ∨ d = 9 ∨ d = 10 then [92, d] else [d]
theorem escW_cons (c : Nat) (l : List Nat) : escW (c :: l) = (if c = 32 ∨ c = 9 ∨ c = 10 then [92, c] else [c]) ++ escW l := rfl
/-- bare: up to a blank, or to the end -/
theorem lexB_1 {tl : List Nat} {f : Str → Int → List Nat × Int} (ht : ∀ tok ln n, ∃ n', lexB tl tok ln n = (tok, (f tok ln).1, (f tok ln).2, n')) (hf : ∀ tok tok' ln, f tok ln = f tok' ln) : ∀ {l : List Nat} {tok : Str} {ln : Int} {n : Nat}, 92 ∉ l → 13 ∉ l → ∃ n', lexB (escW l ++ tl) tok ln n = (tok ++ (⟨l.toArray⟩ : Str), (f "" (lnL l ln)).1, (f "" (lnL l ln)).2, n')
  | [], tok, ln, n, _, _ => by
    obtain ⟨n', e⟩ := ht tok ln n
    exact ⟨n', by show lexB tl tok ln n = _; rw [e, tokE, hf tok ""]; rfl⟩
  | c :: l, tok, ln, n, h, h' => by
    have h1 : ¬ c = 92 := fun e => h (e ▸ List.mem_cons_self ..)
    have h3 : ¬ c = 13 := fun e => h' (e ▸ List.mem_cons_self ..)
    have h2 : 92 ∉ l := fun m => h (List.mem_cons_of_mem _ m)
    have h4 : 13 ∉ l := fun m => h' (List.mem_cons_of_mem _ m)
    rw [escW_cons]
    by_cases hc : c = 32 ∨ c = 9 ∨ c = 10
    · obtain ⟨n', e⟩ := lexB_1 ht hf (l := l) (tok := tok ++ (⟨#[c]⟩ : Str)) (ln := lnc c (lnc 92 ln)) (n := n + 2) h2 h4
      refine ⟨n', ?_⟩
      rw [if_pos hc]
      show lexB (92 :: c :: (escW l ++ tl)) tok ln n = _
      rw [lexB_c, if_neg (by decide), if_pos rfl]
      dsimp only
      rw [e, tokA]
      rfl
    · obtain ⟨n', e⟩ := lexB_1 ht hf (l := l) (tok := tok ++ (⟨#[c]⟩ : Str)) (ln := lnc c ln) (n := n + 1) h2 h4
      refine ⟨n', ?_⟩
      rw [if_neg hc]
      show lexB (c :: (escW l ++ tl)) tok ln n = _
      rw [lexB_c, if_neg (no_ws hc h3), if_neg h1, e, tokA]
      rfl
end
section
set_option maxHeartbeats 4000000
noncomputable def spL (l : List Nat) (way : Int) : List Nat := if way = 0 then 34 :: (subs 34 [92, 34] l ++ [34]) else if way = 1 then escW l else 34 :: ((l.flatMap fun d => [92, d]) ++ [34])
theorem esc3 : ∀ l : List Nat, subs 10 [92, 10] (subs 9 [92, 9] (subs 32 [92, 32] l)) = escW l
  | [] => rfl
  | c :: l => by
    have ih := esc3 l
    have e : c :: l = [c] ++ l := rfl
    rw [e, subs_append, subs_append, subs_append, ih]
    show _ = (if c = 32 ∨ c = 9 ∨ c = 10 then [92, c] else [c]) ++ escW l
    congr 1
    by_cases h1 : c = 32
    · subst h1; rfl
    · by_cases h2 : c = 9
      · subst h2; rfl
      · by_cases h3 : c = 10
        · subst h3; rfl
        · simp [subs, h1, h2, h3]
theorem spelled_cps (row : Str) (way : Int) : (spelled row way).cps.toList = spL row.cps.toList way := by
  unfold spelled spL
  by_cases h0 : way = 0
  · subst h0
    rw [if_pos (show ((0 : Int) == 0) = true from rfl), if_pos rfl, cpsA, cpsA]
    have : (spA row).cps.toList = subs 34 [92, 34] row.cps.toList := repl row "\\\"" 34
    rw [this]; rfl
  · rw [if_neg (by simpa using h0), if_neg h0]
    by_cases h1 : way = 1
    · subst h1
      rw [if_pos (show ((1 : Int) == 1) = true from rfl), if_pos rfl]
      have e1 : (spB1 row).cps.toList = subs 32 [92, 32] row.cps.toList := repl row "\\ " 32
      have e2 : (spB2 row).cps.toList = subs 9 [92, 9] (spB1 row).cps.toList := repl (spB1 row) "\\\t" 9
      have e3 : (Txt.replace (spB2 row) "\n" "\\\n").cps.toList = subs 10 [92, 10] (spB2 row).cps.toList := repl (spB2 row) "\\\n" 10
      rw [e3, e2, e1, esc3]
    · rw [if_neg (by simpa using h1), if_neg h1, cpsA, cpsA]
      have : (spC row).cps.toList = row.cps.toList.flatMap fun d => [92, d] := by
        unfold spC
        rw [joinE, List.flatMap_map]
        rfl
      rw [this]; rfl
structure RowL (l : List Nat) : Prop where
  b : 92 ∉ l
  r : 13 ∉ l
  h : ∃ c t, l = c :: t ∧ c ≠ 34
theorem tok_bare {l tl : List Nat} {f : Str → Int → List Nat × Int} (ht : ∀ tok ln n, ∃ n', lexB tl tok ln n = (tok, (f tok ln).1, (f tok ln).2, n')) (hf : ∀ tok tok' ln, f tok ln = f tok' ln) (h : RowL l) (ln : Int) (n : Nat) :
    ∃ n', lexT (escW l ++ tl) ln n = ((⟨l.toArray⟩ : Str), (f "" (lnL l ln)).1, (f "" (lnL l ln)).2, n') := by
  obtain ⟨c, t, rfl, hc⟩ := h.h
  have h1 : ¬ c = 92 := fun e => h.b (e ▸ List.mem_cons_self ..)
  have h2 : ¬ c = 13 := fun e => h.r (e ▸ List.mem_cons_self ..)
  have h3 : 92 ∉ t := fun m => h.b (List.mem_cons_of_mem _ m)
  have h4 : 13 ∉ t := fun m => h.r (List.mem_cons_of_mem _ m)
  have tz : ∀ t : List Nat, (("" : Str) ++ (⟨#[c]⟩ : Str)) ++ (⟨t.toArray⟩ : Str) = (⟨(c :: t).toArray⟩ : Str) := fun t => sx (by simp [cpsA]; rfl)
  rw [escW_cons]
  by_cases hw : c = 32 ∨ c = 9 ∨ c = 10
  · obtain ⟨n', e⟩ := lexB_1 ht hf (l := t) (tok := ("" : Str) ++ (⟨#[c]⟩ : Str)) (ln := lnc c (lnc 92 ln)) (n := n + 2) h3 h4
    refine ⟨n', ?_⟩
    rw [if_pos hw]
    show lexT (92 :: c :: (escW t ++ tl)) ln n = _
    rw [lexT_c, if_neg (by decide), if_neg (by decide), if_pos rfl]
    dsimp only
    rw [e, tz]
    rfl
  · obtain ⟨n', e⟩ := lexB_1 ht hf (l := t) (tok := ("" : Str) ++ (⟨#[c]⟩ : Str)) (ln := lnc c ln) (n := n + 1) h3 h4
    refine ⟨n', ?_⟩
    rw [if_neg hw]
    show lexT (c :: (escW t ++ tl)) ln n = _
    rw [lexT_c, if_neg (no_ws hw h2), if_neg hc, if_neg h1, e, tz]
    rfl
theorem tok_quoted {body rest : List Nat} {l : List Nat} (h : ∀ tok ln n, ∃ n', lexQ (body ++ 34 :: rest) tok ln n = (tok ++ (⟨l.toArray⟩ : Str), rest, lnL l ln, n')) (ln : Int) (n : Nat) : ∃ n', lexT (34 :: (body ++ [34]) ++ rest) ln n = ((⟨l.toArray⟩ : Str), rest, lnL l ln, n') := by
  obtain ⟨n', e⟩ := h "" (lnc 34 ln) (n + 1)
  refine ⟨n', ?_⟩
  rw [show 34 :: (body ++ [34]) ++ rest = 34 :: (body ++ 34 :: rest) by simp, lexT_c, if_neg (by decide), if_pos rfl, e]
  exact congrArg (fun x => (x, rest, lnL l ln, n')) (sx (by simp [cpsA]; rfl))
theorem tok_mid {l R : List Nat} {c : Nat} (way : Int) (h : RowL l) (hc : c ∈ [10, 9, 13, 32]) (ln : Int) (n : Nat) : ∃ pend ln1 n', lexT (spL l way ++ c :: R) ln n = ((⟨l.toArray⟩ : Str), pend ++ R, ln1, n') ∧ (pend = [] ∨ pend = [c]) ∧ lnL pend ln1 = lnc c (lnL l ln) := by
  unfold spL
  split
  · obtain ⟨n', e⟩ := tok_quoted (rest := c :: R) (fun tok ln n => lexQ_0 (rest := c :: R) (l := l) h.b) ln n
    exact ⟨[c], _, n', e, .inr rfl, rfl⟩
  · split
    · obtain ⟨n', e⟩ := tok_bare (tl := c :: R) (f := fun _ ln => (R, lnc c ln)) (fun tok ln n => ⟨n + 1, by rw [lexB_c, if_pos hc]⟩) (fun _ _ _ => rfl) h ln n
      exact ⟨[], _, n', e, .inl rfl, rfl⟩
    · obtain ⟨n', e⟩ := tok_quoted (rest := c :: R) (fun tok ln n => lexQ_2 (rest := c :: R) (l := l)) ln n
      exact ⟨[c], _, n', e, .inr rfl, rfl⟩
theorem tok_end {l : List Nat} (way : Int) (h : RowL l) (ln : Int) (n : Nat) : ∃ n', lexT (spL l way) ln n = ((⟨l.toArray⟩ : Str), [], lnL l ln, n') := by
  unfold spL
  split
  · have := tok_quoted (rest := []) (fun tok ln n => lexQ_0 (rest := []) (l := l) h.b) ln n
    rwa [List.append_nil] at this
  · split
    · have := tok_bare (tl := []) (f := fun _ ln => ([], ln)) (fun tok ln n => ⟨n + 1, rfl⟩) (fun _ _ _ => rfl) h ln n
      rwa [List.append_nil] at this
    · have := tok_quoted (rest := []) (fun tok ln n => lexQ_2 (rest := []) (l := l)) ln n
      rwa [List.append_nil] at this
/-! what is left is what lies behind the place -/
theorem dropS {L r : List Nat} {c n : Nat} (h : L.drop n = c :: r) : L.drop (n + 1) = r := drop_tail h
theorem dropN {L : List Nat} {n : Nat} (h : L.drop n = []) (k : Nat) : L.drop (n + k) = [] := by
  rw [← List.drop_drop, h, List.drop_nil]
theorem lexQ_drop (L : List Nat) : ∀ (l : List Nat) (tok : Str) (ln : Int) (n : Nat), L.drop n = l → L.drop (lexQ l tok ln n).2.2.2 = (lexQ l tok ln n).2.1
  | [], tok, ln, n, h => dropN h 1
  | [c], tok, ln, n, h => by
    have h1 := dropS h
    rw [lexQ_c]
    split
    · exact h1
    · split
      · exact dropN h1 2
      · exact lexQ_drop L [] _ _ _ h1
  | c :: c2 :: r, tok, ln, n, h => by
    have h1 := dropS h
    have h2 := dropS h1
    rw [lexQ_c]
    split
    · exact h1
    · split
      · exact lexQ_drop L r _ _ _ h2
      · exact lexQ_drop L (c2 :: r) _ _ _ h1
theorem lexB_drop (L : List Nat) : ∀ (l : List Nat) (tok : Str) (ln : Int) (n : Nat), L.drop n = l → L.drop (lexB l tok ln n).2.2.2 = (lexB l tok ln n).2.1
  | [], tok, ln, n, h => dropN h 1
  | [c], tok, ln, n, h => by
    have h1 := dropS h
    rw [lexB_c]
    split
    · exact h1
    · split
      · exact dropN h1 2
      · exact lexB_drop L [] _ _ _ h1
  | c :: c2 :: r, tok, ln, n, h => by
    have h1 := dropS h
    have h2 := dropS h1
    rw [lexB_c]
    split
    · exact h1
    · split
      · exact lexB_drop L r _ _ _ h2
      · exact lexB_drop L (c2 :: r) _ _ _ h1
theorem lexT_drop (L : List Nat) : ∀ (l : List Nat) (ln : Int) (n : Nat), L.drop n = l → L.drop (lexT l ln n).2.2.2 = (lexT l ln n).2.1
  | [], ln, n, h => dropN h 1
  | [c], ln, n, h => by
    have h1 := dropS h
    rw [lexT_c]
    split
    · exact lexT_drop L [] _ _ h1
    · split
      · exact lexQ_drop L [] _ _ _ h1
      · split
        · exact dropN h1 2
        · exact lexB_drop L [] _ _ _ h1
  | c :: c2 :: r, ln, n, h => by
    have h1 := dropS h
    have h2 := dropS h1
    rw [lexT_c]
    split
    · exact lexT_drop L (c2 :: r) _ _ h1
    · split
      · exact lexQ_drop L (c2 :: r) _ _ _ h1
      · split
        · exact lexB_drop L r _ _ _ h2
        · exact lexB_drop L (c2 :: r) _ _ _ h1
/-- ahead of the i-th token: R is to be read, behind at most one blank; the line is ln behind that -/
noncomputable def LexI (text : Str) (i : Nat) (R : List Nat) (ln : Int) : Prop := ∃ pend : List Nat, (pend = [] ∨ ∃ c, pend = [c] ∧ c ∈ [10, 9, 13, 32]) ∧ text.cps.toList.drop (lexSt text i).2 = pend ++ R ∧ lnL pend (lexSt text i).1 = ln
theorem LexI.start (text : Str) : LexI text 0 text.cps.toList 1 := ⟨[], .inl rfl, rfl, rfl⟩
theorem LexI.go {text : Str} {i : Nat} {R : List Nat} {ln : Int} (h : LexI text i R ln) : ∃ n0, lexR text (lexSt text i) = lexT R ln n0 := by
  obtain ⟨pend, hp, hd, hl⟩ := h
  unfold lexR
  rw [hd]
  rcases hp with rfl | ⟨c, rfl, hc⟩
  · rw [← hl]; exact ⟨_, rfl⟩
  · rw [← hl]
    show ∃ n0, lexT (c :: R) _ _ = _
    rw [lexT_c, if_pos hc]
    exact ⟨_, rfl⟩
theorem LexI.dropE {text : Str} {i : Nat} : text.cps.toList.drop (lexSt text (i + 1)).2 = (lexR text (lexSt text i)).2.1 := by
  rw [lexSt]; exact lexT_drop _ _ _ _ rfl
theorem LexI.mid {text : Str} {i : Nat} {l R : List Nat} {c : Nat} {way ln : Int} (h : LexI text i (spL l way ++ c :: R) ln) (hr : RowL l) (hc : c ∈ [10, 9, 13, 32]) : lexTok text i = (⟨l.toArray⟩ : Str) ∧ LexI text (i + 1) R (lnc c (lnL l ln)) := by
  obtain ⟨n0, e⟩ := h.go
  obtain ⟨pend, ln1, n', e2, hp, hl⟩ := tok_mid (R := R) way hr hc ln n0
  rw [e2] at e
  have hd := LexI.dropE (text := text) (i := i)
  rw [e] at hd
  refine ⟨by unfold lexTok; rw [e], pend, ?_, hd, ?_⟩
  · rcases hp with rfl | rfl
    · exact .inl rfl
    · exact .inr ⟨c, rfl, hc⟩
  · rw [lexSt, e]; exact hl
theorem LexI.last {text : Str} {i : Nat} {l : List Nat} {way ln : Int} (h : LexI text i (spL l way) ln) (hr : RowL l) : lexTok text i = (⟨l.toArray⟩ : Str) ∧ lexTok text (i + 1) = "" ∧ (lexSt text (i + 1)).1 = lnL l ln ∧ (lexSt text (i + 2)).1 = lnL l ln := by
  obtain ⟨n0, e⟩ := h.go
  obtain ⟨n', e2⟩ := tok_end way hr ln n0
  rw [e2] at e
  have hd := LexI.dropE (text := text) (i := i)
  rw [e] at hd
  have hs : (lexSt text (i + 1)).1 = lnL l ln := by rw [lexSt, e]
  have hR : lexR text (lexSt text (i + 1)) = (("" : Str), [], (lexSt text (i + 1)).1, (lexSt text (i + 1)).2 + 1) := by
    unfold lexR
    rw [hd]; rfl
  refine ⟨by unfold lexTok; rw [e], by unfold lexTok; rw [hR], hs, ?_⟩
  rw [show i + 2 = (i + 1) + 1 from rfl, lexSt, hR]; exact hs
end
section
set_option maxHeartbeats 4000000
theorem slen (x : Str) : x.length = x.cps.toList.length := by simp [Str.length]
theorem joinOk_of {sep : Str} {texts : List Str} (M : Nat) (h : ∀ t ∈ texts, t.length ≤ M) (hs : sep.length ≤ 2) (hn : texts.length * (M + 2) ≤ 16777216) : JoinOk sep texts = true := by
  have key : ∀ (l : List Str) (a : Nat), (∀ t ∈ l, t.length ≤ M) → l.foldl (fun (x : Nat) (t : Str) => x + t.length + sep.length) a ≤ a + l.length * (M + 2) := by
    intro l
    induction l with
    | nil => intro a _; simp
    | cons t r ih =>
      intro a h
      have h1 := h t List.mem_cons_self
      have h2 := ih (a + t.length + sep.length) fun t ht => h t (List.mem_cons_of_mem _ ht)
      rw [List.foldl_cons, List.length_cons, Nat.succ_mul]
      omega
  have e := key texts 0 h
  unfold JoinOk
  rw [List.foldl_toArray]
  simp only [PySem.Builtin.Str.tooLong, Bool.not_eq_true', decide_eq_false_iff_not, PySem.sizeLine_eq]
  omega
theorem flat_len {α β : Type} {f : α → List β} {k : Nat} (h : ∀ a, (f a).length ≤ k) : ∀ l : List α, (l.flatMap f).length ≤ k * l.length
  | [] => by simp
  | a :: r => by
    have := flat_len h r
    have := h a
    rw [List.flatMap_cons, List.length_append, List.length_cons, Nat.mul_succ]; omega
theorem flat_lenM {α β : Type} {f : α → List β} {k : Nat} : ∀ (l : List α), (∀ a ∈ l, (f a).length ≤ k) → (l.flatMap f).length ≤ k * l.length
  | [], _ => by simp
  | a :: r, h => by
    have := flat_lenM r fun b hb => h b (List.mem_cons_of_mem _ hb)
    have := h a List.mem_cons_self
    rw [List.flatMap_cons, List.length_append, List.length_cons, Nat.mul_succ]; omega
theorem subs_len (c d : Nat) (l : List Nat) : (subs c [92, d] l).length ≤ 2 * l.length := flat_len (fun a => by split <;> simp) l
theorem spOk_of {row : Str} (h : row.length ≤ 1000) : spOk row = true := by
  have h0 : row.cps.toList.length ≤ 1000 := by rw [← slen]; exact h
  have e0 : (spA row).cps.toList = subs 34 [92, 34] row.cps.toList := repl row "\\\"" 34
  have e1 : (spB1 row).cps.toList = subs 32 [92, 32] row.cps.toList := repl row "\\ " 32
  have e2 : (spB2 row).cps.toList = subs 9 [92, 9] (spB1 row).cps.toList := repl (spB1 row) "\\\t" 9
  have l0 : (spA row).length ≤ 10000 := by
    rw [slen, e0]; have := subs_len 34 34 row.cps.toList; omega
  have l1 : (spB1 row).cps.toList.length ≤ 2000 := by
    rw [e1]; have := subs_len 32 32 row.cps.toList; omega
  have l2 : (spB2 row).length ≤ 10000 := by
    rw [slen, e2]; have := subs_len 9 9 (spB1 row).cps.toList; omega
  have l3 : (spC row).length ≤ 10000 := by
    rw [slen, spC, joinE, List.flatMap_map]
    have := flat_len (f := fun a : Nat => (("\\" : Str) ++ (⟨#[a]⟩ : Str)).cps.toList) (k := 2) (fun a => Nat.le_of_eq rfl) row.cps.toList
    omega
  have j : JoinOk "" (row.cps.toList.map fun c => ("\\" : Str) ++ ⟨#[c]⟩) = true := by
    refine joinOk_of 2 (fun t ht => ?_) (by decide) ?_
    · obtain ⟨c, _, rfl⟩ := List.mem_map.mp ht
      exact Nat.le_of_eq rfl
    · rw [List.length_map]; omega
  unfold spOk
  simp only [Bool.and_eq_true, decide_eq_true_eq]
  exact ⟨⟨⟨⟨⟨h, l0⟩, by rw [slen]; omega⟩, l2⟩, j⟩, l3⟩
theorem spL_len {l : List Nat} {way : Int} : (spL l way).length ≤ 2 * l.length + 2 := by
  unfold spL
  split
  · have := subs_len 34 34 l; simp; omega
  · split
    · have := flat_len (f := fun d => if d = 32 ∨ d = 9 ∨ d = 10 then [92, d] else [d]) (k := 2) (fun a => by split <;> simp) l
      unfold escW; omega
    · have := flat_len (f := fun d : Nat => [92, d]) (k := 2) (fun a => by simp) l
      rw [List.length_cons, List.length_append]; simp at this ⊢; omega
noncomputable def sepL (r : Nat) : List Nat := ([[32], [9], [13], [10], []] : List (List Nat)).getD r []
theorem sep_cps : ∀ r : Nat, r < 5 → (Txt.slice " \t\r\n" (some (r : Int)) (some ((r : Int) + 1))).cps.toList = sepL r := by decide +kernel
theorem sepL_len : ∀ r : Nat, r < 5 → (sepL r).length ≤ 1 := by decide
theorem part_cps {drawn : List Str} {kinds : List Int} {r : Nat} (h : r < 5) : (textPart drawn kinds r).cps.toList = spL (drawn.getD r "").cps.toList (kinds.getD r 0) ++ sepL r := by
  rw [textPart, cpsA, spelled_cps, sep_cps r h]
theorem text_cps {drawn : List Str} {kinds : List Int} : (textOf drawn kinds).cps.toList = spL (drawn.getD 0 "").cps.toList (kinds.getD 0 0) ++ 32 :: (spL (drawn.getD 1 "").cps.toList (kinds.getD 1 0) ++ 9 :: (spL (drawn.getD 2 "").cps.toList (kinds.getD 2 0) ++ 13 :: (spL (drawn.getD 3 "").cps.toList (kinds.getD 3 0) ++ 10 :: spL (drawn.getD 4 "").cps.toList (kinds.getD 4 0)))) := by
  rw [textOf, joinE]
  have e : textParts drawn kinds = [textPart drawn kinds 0, textPart drawn kinds 1, textPart drawn kinds 2, textPart drawn kinds 3, textPart drawn kinds 4] := rfl
  rw [e]
  simp only [List.flatMap_cons, List.flatMap_nil, List.append_nil]
  rw [part_cps (by decide), part_cps (by decide), part_cps (by decide), part_cps (by decide), part_cps (by decide)]
  simp [sepL]
structure RowG (row : Str) : Prop where
  l : RowL row.cps.toList
  c : row.cps.toList.count 10 = 1
theorem lnG {row : Str} (h : RowG row) (ln : Int) : lnL row.cps.toList ln = ln + 1 := by rw [lnL_count, h.c]; rfl
theorem back (x : Str) : (⟨x.cps.toList.toArray⟩ : Str) = x := sx (by simp)
theorem lexOk_of {drawn : List Str} {kinds : List Int} (h : ∀ r, r < 5 → RowG (drawn.getD r "")) : LexOk (textOf drawn kinds) drawn := by
  have g0 := h 0 (by decide)
  have g1 := h 1 (by decide)
  have g2 := h 2 (by decide)
  have g3 := h 3 (by decide)
  have g4 := h 4 (by decide)
  have i0 := LexI.start (textOf drawn kinds)
  rw [text_cps] at i0
  obtain ⟨t0, i1⟩ := i0.mid g0.l (by decide)
  obtain ⟨t1, i2⟩ := i1.mid g1.l (by decide)
  obtain ⟨t2, i3⟩ := i2.mid g2.l (by decide)
  obtain ⟨t3, i4⟩ := i3.mid g3.l (by decide)
  obtain ⟨t4, t5, l5, l6⟩ := i4.last g4.l
  rw [lnG g0, lnG g1, lnG g2, lnG g3, lnG g4] at l5 l6
  rw [back] at t0 t1 t2 t3 t4
  simp only [lnc_eq] at l5 l6
  rw [show 4 + 1 = 5 from rfl] at l5 t5
  rw [show 4 + 2 = 6 from rfl] at l6
  have z5 := l5.trans (show _ = (7 : Int) by decide)
  have z6 := l6.trans (show _ = (7 : Int) by decide)
  refine ⟨fun i hi => ?_, t5, z5, z6⟩
  exact az_of5 (p := fun i => lexTok (textOf drawn kinds) i = drawn.getD i "") t0 t1 t2 t3 t4 hi
theorem textOk_of {drawn : List Str} {kinds : List Int} (h : ∀ r, r < 5 → (drawn.getD r "").length ≤ 1000) : textOk drawn kinds = true := by
  have hsp : ∀ r, r < 5 → (spelled (drawn.getD r "") (kinds.getD r 0)).length ≤ 2002 := fun r hr => by
    rw [slen, spelled_cps]
    have := spL_len (l := (drawn.getD r "").cps.toList) (way := kinds.getD r 0)
    have := h r hr
    rw [slen] at this
    omega
  have hpt : ∀ t ∈ textParts drawn kinds, t.length ≤ 2003 := fun t ht => by
    obtain ⟨r, hr, rfl⟩ := List.mem_map.mp ht
    have hr := List.mem_range.mp hr
    have h1 := hsp r hr
    rw [slen, spelled_cps] at h1
    rw [slen, part_cps hr, List.length_append]
    have h2 := sepL_len r hr
    omega
  have hl : (textParts drawn kinds).length = 5 := by simp [textParts]
  unfold textOk
  simp only [Bool.and_eq_true, decide_eq_true_eq, List.all_eq_true]
  refine ⟨⟨fun r hr => ?_, joinOk_of 2003 hpt (Nat.zero_le 2) (by omega)⟩, ?_⟩
  · have hr := List.mem_range.mp hr
    exact ⟨spOk_of (h r hr), Nat.le_trans (hsp r hr) (by omega)⟩
  · rw [slen, textOf, joinE]
    have := flat_lenM (f := fun x : Str => x.cps.toList) (k := 2003) (textParts drawn kinds) fun t ht => by rw [← slen]; exact hpt t ht
    rw [hl] at this
    omega
end
section
set_option maxHeartbeats 4000000
/-! finding one sign -/
open PySem.Builtin PySem.Builtin.Str PySem.StrLaws in
theorem at1 {x : Str} {c hi i : Nat} (hh : hi ≤ x.length) : StrLaws.At x ⟨#[c]⟩ hi i ↔ i < hi ∧ x.cps.toList[i]? = some c := by
  have e : (⟨#[c]⟩ : Str).length = 1 := rfl
  constructor
  · intro h
    have h1 : i + 1 ≤ hi := h.1
    exact ⟨h1, (subAt_one x c i).mp ⟨by rw [e]; omega, h.2⟩⟩
  · intro h
    exact ⟨by rw [e]; omega, ((subAt_one x c i).mpr h.2).2⟩
open PySem.Builtin PySem.Builtin.Str PySem.StrLaws in
theorem occ_hit {x : Str} {c hi : Nat} {p q : List Nat} (hx : x.cps.toList = p ++ c :: q) (hp : c ∉ p) (h1 : p.length < hi) (h2 : hi ≤ x.length) : ∃ r, occurrences x ⟨#[c]⟩ 0 hi 1 = p.length :: r := by
  have hat : StrLaws.At x ⟨#[c]⟩ hi p.length := (at1 h2).mpr ⟨h1, by rw [hx]; simp⟩
  have hno : ∀ i, i < p.length → ¬ StrLaws.At x ⟨#[c]⟩ hi i := fun i hi' h => by
    have := ((at1 h2).mp h).2
    rw [hx, List.getElem?_append_left hi'] at this
    exact hp (List.mem_of_getElem? this)
  rw [occ_eq]
  rcases occ_first x ⟨#[c]⟩ hi 1 (Nat.le_refl 1) (List.range' 0 (hi + 1 - 0)) 0 (fun _ _ => Nat.zero_le _) with ⟨_, h⟩ | ⟨pre, a, post, hl, h0, ha, hb⟩
  · exact absurd hat (h _ (by simp [List.mem_range']; omega))
  · have : a = p.length := by
      rcases Nat.lt_trichotomy a p.length with q | q | q
      · exact absurd ha (hno a q)
      · exact q
      · exfalso
        have hm : p.length ∈ pre ++ a :: post := by rw [← hl]; simp [List.mem_range']; omega
        have hs : (pre ++ a :: post).Pairwise (· < ·) := by rw [← hl]; exact List.pairwise_lt_range'
        rcases List.mem_append.mp hm with hm | hm
        · exact hb _ hm hat
        · rcases List.mem_cons.mp hm with rfl | hm
          · omega
          · have := (List.pairwise_cons.mp (List.pairwise_append.mp hs).2.1).1 _ hm
            omega
    subst this
    cases hz : (forIn (List.range' 0 (hi + 1 - 0)) ((#[] : Array Nat), 0) (occBody x ⟨#[c]⟩ hi 1)).run.fst.toList with
    | nil =>
      rw [← Array.getElem?_toList, hz] at h0; cases h0
    | cons b r =>
      rw [← Array.getElem?_toList, hz] at h0; cases h0
      exact ⟨r, rfl⟩
open PySem.Builtin PySem.Builtin.Str PySem.StrLaws in
theorem occ_miss {x : Str} {c hi : Nat} (hp : c ∉ x.cps.toList.take hi) (h2 : hi ≤ x.length) : occurrences x ⟨#[c]⟩ 0 hi 1 = [] := by
  rw [occ_eq]
  rcases occ_first x ⟨#[c]⟩ hi 1 (Nat.le_refl 1) (List.range' 0 (hi + 1 - 0)) 0 (fun _ _ => Nat.zero_le _) with ⟨h, _⟩ | ⟨pre, a, post, hl, h0, ha, hb⟩
  · rw [h]
  · exfalso
    have := (at1 h2).mp ha
    refine hp (List.mem_of_getElem? (i := a) ?_)
    rw [List.getElem?_take_of_lt this.1]; exact this.2
theorem find_hit {x : Str} {c : Nat} {p q : List Nat} (hx : x.cps.toList = p ++ c :: q) (hp : c ∉ p) : Txt.find x ⟨#[c]⟩ = (p.length : Int) ∧ (Builtin.Str.occurrences x ⟨#[c]⟩ 0 x.length 1).isEmpty = false := by
  obtain ⟨r, e⟩ := occ_hit (hi := x.length) hx hp (by rw [slen, hx]; simp) (Nat.le_refl _)
  unfold Txt.find
  rw [e]
  exact ⟨rfl, rfl⟩
theorem find_miss {x : Str} {c : Nat} (hp : c ∉ x.cps.toList) : Txt.find x ⟨#[c]⟩ = -1 := by
  unfold Txt.find
  rw [occ_miss (fun h => hp (List.mem_of_mem_take h)) (Nat.le_refl _)]
theorem from0 (n : Nat) : fromIndex n 0 = 0 := by unfold fromIndex; simp
theorem fromN {n e : Nat} (h : e ≤ n) : min (fromIndex n (e : Int)) n = e := by unfold fromIndex; rw [if_neg (by omega)]; exact az_from h
theorem find4_hit {x : Str} {c e : Nat} {p q : List Nat} (hx : x.cps.toList = p ++ c :: q) (hp : c ∉ p) (h1 : p.length < e) (h2 : e ≤ x.length) : find4 x ⟨#[c]⟩ 0 (e : Int) = (p.length : Int) := by
  unfold find4
  rw [from0, fromN h2]
  obtain ⟨r, e'⟩ := occ_hit (hi := e) hx hp h1 h2
  rw [e']
theorem find4_miss {x : Str} {c e : Nat} (hp : c ∉ x.cps.toList.take e) (h2 : e ≤ x.length) : find4 x ⟨#[c]⟩ 0 (e : Int) = -1 := by
  unfold find4
  rw [from0, fromN h2, occ_miss hp h2]
open PySem.Builtin PySem.Builtin.Str PySem.StrLaws in
theorem last_hi (x y : Str) (hi : Nat) : (lastOccurrence x y 0 hi = none ∧ ∀ i, ¬ StrLaws.At x y hi i) ∨ ∃ i, lastOccurrence x y 0 hi = some i ∧ StrLaws.At x y hi i ∧ ∀ k, i < k → ¬ StrLaws.At x y hi k := by
  rw [StrLaws.last_eq]
  have key := last_run x y hi (List.range' 0 (hi + 1 - 0)) [] none (fun _ h => nomatch h) (fun _ h => nomatch h) (by simpa using List.pairwise_lt_range' (s := 0) (n := hi + 1 - 0))
  have mem : ∀ i, StrLaws.At x y hi i → i ∈ [] ++ List.range' 0 (hi + 1 - 0) := fun i hi => by have := hi.1; simp [List.mem_range'] <;> omega
  cases hr : (forIn (List.range' 0 (hi + 1 - 0)) none (lastBody x y hi)).run with
  | none => rw [hr] at key; exact .inl ⟨rfl, fun i hi => key i (mem i hi) hi⟩
  | some a => rw [hr] at key; exact .inr ⟨a, rfl, key.1, fun k hk hA => key.2 k (mem k hA) hk hA⟩
open PySem.StrLaws in
theorem rfind4_hit {x : Str} {c : Nat} {p q : List Nat} {e : Nat} (hx : x.cps.toList.take e = p ++ c :: q) (hq : c ∉ q) (h2 : e ≤ x.length) : rfind4 x ⟨#[c]⟩ 0 (e : Int) = (p.length : Int) := by
  have hlen : (x.cps.toList.take e).length = e := by rw [List.length_take, ← slen]; omega
  have hp1 : p.length < e := by rw [← hlen, hx]; simp
  have hg : ∀ i, i < e → x.cps.toList[i]? = (p ++ c :: q)[i]? := fun i hi => by rw [← hx, List.getElem?_take_of_lt hi]
  have hat : StrLaws.At x ⟨#[c]⟩ e p.length := (at1 h2).mpr ⟨hp1, by rw [hg _ hp1]; simp⟩
  unfold rfind4
  rw [from0, fromN h2]
  rcases last_hi x ⟨#[c]⟩ e with ⟨_, h⟩ | ⟨i, h, ha, hb⟩
  · exact absurd hat (h _)
  · rw [h]
    have : i = p.length := by
      rcases Nat.lt_trichotomy i p.length with z | z | z
      · exact absurd hat (hb _ z)
      · exact z
      · exfalso
        obtain ⟨h3, h4⟩ := (at1 h2).mp ha
        rw [hg i h3, List.getElem?_append_right (by omega)] at h4
        obtain ⟨m, hm⟩ : ∃ m, i - p.length = m + 1 := ⟨i - p.length - 1, (Nat.sub_one_add_one (Nat.sub_ne_zero_of_lt z)).symm⟩
        rw [hm, List.getElem?_cons_succ] at h4
        exact hq (List.mem_of_getElem? h4)
    rw [this]
open PySem.StrLaws in
theorem rfind4_miss {x : Str} {c e : Nat} (hp : c ∉ x.cps.toList.take e) (h2 : e ≤ x.length) : rfind4 x ⟨#[c]⟩ 0 (e : Int) = -1 := by
  unfold rfind4
  rw [from0, fromN h2]
  rcases last_hi x ⟨#[c]⟩ e with ⟨h, _⟩ | ⟨i, h, ha, hb⟩
  · rw [h]
  · exfalso
    obtain ⟨h3, h4⟩ := (at1 h2).mp ha
    exact hp (List.mem_of_getElem? (i := i) (by rw [List.getElem?_take_of_lt h3]; exact h4))
theorem slice_ab (x : Str) {a b : Nat} (hab : a ≤ b) (hb : b ≤ x.length) : (Txt.slice x (some (a : Int)) (some (b : Int))).cps.toList = (x.cps.toList.drop a).take (b - a) := by
  have : Txt.slice x (some (a : Int)) (some (b : Int)) = ⟨((x.cps.toList.drop a).take (b - a)).toArray⟩ := StrLaws.sliceText_nat x hab hb
  rw [this]
/-- the bare name: behind the last dot of what stands ahead of a colon or a line's end -/
theorem sed_core {x : Str} {p t d s : List Nat} (hx : x.cps.toList = p ++ t) (h10 : 10 ∉ p) (h58 : 58 ∉ p) (ht : t = [] ∨ (∃ r, t = 58 :: 10 :: r) ∨ ∃ r, t = 10 :: r) (hp : p = d ++ s) (hd : d = [] ∨ ∃ d', d = d' ++ [46]) (hs : 46 ∉ s) : (sed x).cps.toList = s := by
  have hlen : x.length = p.length + t.length := by rw [slen, hx, List.length_append]
  have htake : x.cps.toList.take p.length = p := by rw [hx, List.take_left]
  have hr : rfind4 x "." 0 (p.length : Int) = (d.length : Int) - 1 := by
    rcases hd with rfl | ⟨d', rfl⟩
    · have := rfind4_miss (x := x) (c := 46) (e := p.length) (by rw [htake, hp]; exact hs) (by omega)
      exact this
    · have := rfind4_hit (x := x) (c := 46) (e := p.length) (p := d') (q := s) (by rw [htake, hp]; simp) hs (by omega)
      rw [List.length_append]
      show rfind4 x ⟨#[46]⟩ 0 _ = _
      rw [this]; simp
  have hb : (if (0 : Int) ≤ (d.length : Int) - 1 then (d.length : Int) - 1 + 1 else 0) = (d.length : Int) := by
    split <;> omega
  have hfin : (Txt.slice x (some (d.length : Int)) (some (p.length : Int))).cps.toList = s := by
    rw [slice_ab x (by rw [hp, List.length_append]; omega) (by omega), hx, hp, List.append_assoc, List.drop_left, List.length_append]
    rw [Nat.add_sub_cancel_left, List.take_left]
  unfold sed
  rcases ht with rfl | ⟨r, rfl⟩ | ⟨r, rfl⟩
  · have e1 : Txt.find x "\n" = -1 := find_miss (c := 10) (by rw [hx, List.append_nil]; exact h10)
    have hl2 : x.length = p.length := by rw [hlen]; simp
    have e2 : find4 x ":" 0 (p.length : Int) = -1 := find4_miss (c := 58) (by rw [htake]; exact h58) (by omega)
    simp only [e1, hl2, e2, hr, hb, show ¬ ((0 : Int) ≤ -1) by decide, if_false]
    exact hfin
  · have e1 : Txt.find x "\n" = ((p.length + 1 : Nat) : Int) := by
      have := (find_hit (x := x) (c := 10) (p := p ++ [58]) (q := r) (by rw [hx]; simp) (by simp [h10])).1
      rw [List.length_append] at this
      exact this
    have e2 : find4 x ":" 0 ((p.length + 1 : Nat) : Int) = (p.length : Int) := find4_hit (c := 58) (p := p) (q := 10 :: r) hx h58 (by omega) (by rw [hlen]; simp)
    have z1 : (0 : Int) ≤ ((p.length + 1 : Nat) : Int) := by omega
    have z2 : (0 : Int) ≤ (p.length : Int) := by omega
    simp only [e1, if_pos z1, e2, if_pos z2, hr, hb]
    exact hfin
  · have e1 : Txt.find x "\n" = (p.length : Int) := (find_hit (x := x) (c := 10) (p := p) (q := r) hx h10).1
    have e2 : find4 x ":" 0 (p.length : Int) = -1 := find4_miss (c := 58) (by rw [htake]; exact h58) (by omega)
    have z2 : (0 : Int) ≤ (p.length : Int) := by omega
    simp only [e1, if_pos z2, e2, hr, hb, show ¬ ((0 : Int) ≤ -1) by decide, if_false]
    exact hfin
end
section
set_option maxHeartbeats 4000000
/-! a row of the page -/
noncomputable def jl : List Nat → List Nat
  | [] => []
  | [c] => [c]
  | c :: d :: r => c :: 46 :: jl (d :: r)
theorem join_dotL : ∀ l : List Nat, (Str.join "." (l.map fun n => (⟨#[n]⟩ : Str))).cps.toList = jl l
  | [] => rfl
  | [c] => rfl
  | c :: d :: r => by
    have ih := join_dotL (d :: r)
    show (((⟨#[c]⟩ : Str) ++ "." ++ Str.join "." ((d :: r).map fun n => (⟨#[n]⟩ : Str)))).cps.toList = _
    rw [cpsA, ih]; rfl
noncomputable def dotW (w : Str) : Str := Txt.join "." (signs w)
theorem dotW_cps (w : Str) : (dotW w).cps.toList = jl w.cps.toList := by
  have : dotW w = Str.join "." (signs w) := StrLaws.glued_eq_join _ _
  rw [this]; exact join_dotL _
theorem jl_snoc (c : Nat) : ∀ w : List Nat, w ≠ [] → jl (w ++ [c]) = jl w ++ [46, c]
  | [], h => absurd rfl h
  | [a], _ => rfl
  | a :: b :: r, _ => by
    have ih := jl_snoc c (b :: r) (by simp)
    show a :: 46 :: jl ((b :: r) ++ [c]) = _
    rw [ih]; rfl
theorem jl_mem : ∀ (w : List Nat) (x : Nat), x ∈ jl w → x ∈ w ∨ x = 46
  | [], x, h => nomatch h
  | [c], x, h => .inl h
  | c :: d :: r, x, h => by
    rcases List.mem_cons.mp h with h | h
    · exact .inl (h ▸ List.mem_cons_self)
    · rcases List.mem_cons.mp h with h | h
      · exact .inr h
      · exact (jl_mem (d :: r) x h).imp (List.mem_cons_of_mem _) id
theorem jl_len : ∀ w : List Nat, (jl w).length ≤ 2 * w.length
  | [] => Nat.le_refl _
  | [c] => by simp [jl]
  | c :: d :: r => by
    have := jl_len (d :: r)
    simp only [jl, List.length_cons] at this ⊢; omega
noncomputable def sep2 (r : Nat) : List Nat := if r % 2 = 0 then [58, 10] else [10, 58]
noncomputable def Let (w : List Nat) : Prop := ∀ c ∈ w, 97 ≤ c ∧ c ≤ 101
noncomputable def Wsp (l : List Nat) : Prop := ∀ c ∈ l, c = 9 ∨ c = 32
structure RowT (row : Str) (lead w : List Nat) (r : Nat) : Prop where
  e : row.cps.toList = lead ++ (jl w ++ (sep2 r ++ [46, 34]))
  lw : Wsp lead
  let_ : Let w
  ne : w ≠ []
  ll : lead.length ≤ 100
  wl : w.length ≤ 20
  one : w.length = 1 → lead = []
theorem jl_no {w : List Nat} (h : Let w) {x : Nat} (h1 : x < 97) (h2 : x ≠ 46) : x ∉ jl w := fun hm => by
  rcases jl_mem w x hm with q | q
  · have := (h x q).1; omega
  · exact h2 q
theorem ws_no {l : List Nat} (h : Wsp l) {x : Nat} (h1 : x ≠ 9) (h2 : x ≠ 32) : x ∉ l := fun hm => (h x hm).elim h1 h2
section
variable {row : Str} {lead w : List Nat} {r : Nat}
theorem sep2_cases (r : Nat) : (r % 2 = 0 ∧ sep2 r = [58, 10]) ∨ (r % 2 = 1 ∧ sep2 r = [10, 58]) := by
  unfold sep2
  rcases Nat.mod_two_eq_zero_or_one r with h | h
  · exact .inl ⟨h, if_pos h⟩
  · exact .inr ⟨h, if_neg (by omega)⟩
theorem RowT.len (h : RowT row lead w r) : row.length ≤ 200 := by
  have h1 := jl_len w
  have h2 := h.ll
  have h3 := h.wl
  have h4 : (sep2 r).length = 2 := by rcases sep2_cases r with ⟨_, e⟩ | ⟨_, e⟩ <;> rw [e] <;> rfl
  rw [slen, h.e]
  simp only [List.length_append, List.length_cons, List.length_nil]
  omega
theorem RowT.g (h : RowT row lead w r) : RowG row := by
  have hs : 92 ∉ sep2 r ++ [46, 34] ∧ 13 ∉ sep2 r ++ [46, 34] ∧ (sep2 r ++ [46, 34]).count 10 = 1 := by
    rcases sep2_cases r with ⟨_, e⟩ | ⟨_, e⟩ <;> rw [e] <;> decide
  refine ⟨⟨?_, ?_, ?_⟩, ?_⟩
  · rw [h.e, List.mem_append, List.mem_append]
    exact fun q => q.elim (ws_no h.lw (by decide) (by decide)) fun q => q.elim (jl_no h.let_ (by decide) (by decide)) hs.1
  · rw [h.e, List.mem_append, List.mem_append]
    exact fun q => q.elim (ws_no h.lw (by decide) (by decide)) fun q => q.elim (jl_no h.let_ (by decide) (by decide)) hs.2.1
  · rw [h.e]
    cases lead with
    | cons c t =>
      refine ⟨c, _, rfl, ?_⟩
      rcases h.lw c List.mem_cons_self with rfl | rfl <;> decide
    | nil =>
      cases w with
      | nil => exact absurd rfl h.ne
      | cons c t =>
        have := (h.let_ c List.mem_cons_self).1
        have h34 : c ≠ 34 := by omega
        cases t with
        | nil => exact ⟨c, _, rfl, h34⟩
        | cons d t => exact ⟨c, _, rfl, h34⟩
  · rw [h.e, List.count_append, List.count_append, hs.2.2, List.count_eq_zero_of_not_mem (ws_no h.lw (by decide) (by decide)), List.count_eq_zero_of_not_mem (jl_no h.let_ (by decide) (by decide))]
theorem RowT.ok (h : RowT row lead w r) : PyData.strOk row = true := by
  unfold PyData.strOk
  rw [← Array.all_toList, h.e, List.all_eq_true]
  intro c hc
  rw [decide_eq_true_eq]
  rcases List.mem_append.mp hc with q | q
  · rcases h.lw c q with rfl | rfl <;> decide
  · rcases List.mem_append.mp q with q | q
    · rcases jl_mem w c q with q | q
      · have := (h.let_ c q).2; omega
      · omega
    · have : c ≤ 58 := by
        rcases sep2_cases r with ⟨_, e⟩ | ⟨_, e⟩ <;> rw [e] at q <;> simp at q <;> omega
      omega
theorem b32 (c : Nat) : ((⟨#[c]⟩ : Str) == " ") = decide (c = 32) := beq1 c 32
theorem b9 (c : Nat) : ((⟨#[c]⟩ : Str) == "\t") = decide (c = 9) := beq1 c 9
theorem wsLoop_stop {c : Nat} {t : List Nat} (h1 : c ≠ 32) (h2 : c ≠ 9) : ∀ (l : List Nat) (st : Wst), wsLoop (l ++ c :: t) st = wsLoop l st
  | [], st => by
    show wsLoop (c :: t) st = st
    rw [wsLoop, b32, b9, decide_eq_false h1, decide_eq_false h2]; rfl
  | d :: l, st => by
    show wsLoop (d :: (l ++ c :: t)) st = _
    rw [wsLoop, wsLoop, wsLoop_stop h1 h2 l, wsLoop_stop h1 h2 l]
theorem wsLoop_n : ∀ (l : List Nat) (st : Wst), Wsp l → (wsLoop l st).n = st.n + l.length
  | [], st, _ => rfl
  | d :: l, st, h => by
    have h' : Wsp l := fun c hc => h c (List.mem_cons_of_mem _ hc)
    rw [wsLoop, b32, b9]
    rcases h d List.mem_cons_self with rfl | rfl
    · show (wsLoop l (wsT st)).n = _
      rw [wsLoop_n l _ h', List.length_cons]
      show st.n + 1 + _ = _
      omega
    · show (wsLoop l _).n = _
      rw [wsLoop_n l _ h', List.length_cons]
      show st.n + 1 + _ = _
      omega
theorem jl_head (h : Let w) (ne : w ≠ []) : ∃ c t, jl w = c :: t ∧ 97 ≤ c := by
  cases w with
  | nil => exact absurd rfl ne
  | cons c t =>
    have := (h c List.mem_cons_self).1
    cases t with
    | nil => exact ⟨c, _, rfl, this⟩
    | cons d t => exact ⟨c, _, rfl, this⟩
theorem RowT.ws (h : RowT row lead w r) : wsOf row = wsOf ⟨lead.toArray⟩ ∧ (wsOf row).n = lead.length := by
  obtain ⟨c, t, e, hc⟩ := jl_head h.let_ h.ne
  have e1 : wsOf row = wsLoop lead ⟨[], 0, 0, 0⟩ := by
    unfold wsOf
    rw [h.e, e]
    exact wsLoop_stop (by omega) (by omega) lead _
  have e2 : wsOf ⟨lead.toArray⟩ = wsLoop lead ⟨[], 0, 0, 0⟩ := rfl
  refine ⟨e1.trans e2.symm, ?_⟩
  rw [e1, wsLoop_n lead _ h.lw]
  exact Nat.zero_add _
theorem item_sep (r : Nat) : Txt.item ":\n" ((r % 2 : Nat) : Int) = if r % 2 = 0 then (⟨#[58]⟩ : Str) else ⟨#[10]⟩ := by
  rcases Nat.mod_two_eq_zero_or_one r with h | h <;> rw [h] <;> rfl
theorem RowT.dotix (h : RowT row lead w r) : dotIx row r = ((lead.length + (jl w).length : Nat) : Int) ∧ (Builtin.Str.occurrences row (Txt.item ":\n" ((r % 2 : Nat) : Int)) 0 row.length 1).isEmpty = false := by
  unfold dotIx
  rw [item_sep]
  rcases sep2_cases r with ⟨h0, e⟩ | ⟨h0, e⟩
  · rw [if_pos h0]
    have := find_hit (x := row) (c := 58) (p := lead ++ jl w) (q := 10 :: [46, 34]) (by rw [h.e, e]; simp) (by rw [List.mem_append]; exact fun q => q.elim (ws_no h.lw (by decide) (by decide)) (jl_no h.let_ (by decide) (by decide)))
    rw [List.length_append] at this
    exact this
  · rw [if_neg (by omega)]
    have := find_hit (x := row) (c := 10) (p := lead ++ jl w) (q := 58 :: [46, 34]) (by rw [h.e, e]; simp) (by rw [List.mem_append]; exact fun q => q.elim (ws_no h.lw (by decide) (by decide)) (jl_no h.let_ (by decide) (by decide)))
    rw [List.length_append] at this
    exact this
theorem RowT.dot (h : RowT row lead w r) : dotOf row r = ⟨(jl w).toArray⟩ := by
  refine sx ?_
  unfold dotOf
  rw [h.dotix.1, h.ws.2, slice_ab row (by omega) (by rw [slen, h.e]; simp only [List.length_append]; omega), h.e, List.drop_left]
  rw [Nat.add_sub_cancel_left, List.take_left]
theorem snocR_of {w : List Nat} (h : w ≠ []) : ∃ w' c, w = w' ++ [c] := ⟨w.dropLast, w.getLast h, (List.dropLast_concat_getLast h).symm⟩
theorem sed_parts {w : List Nat} (hl : Let w) {lead w' : List Nat} {c : Nat} (e : w = w' ++ [c]) (h1 : w' = [] → lead = []) : ∃ d, lead ++ jl w = d ++ [c] ∧ (d = [] ∨ ∃ d', d = d' ++ [46]) := by
  subst e
  cases w' with
  | nil => rw [h1 rfl]; exact ⟨[], rfl, .inl rfl⟩
  | cons a t =>
    refine ⟨lead ++ jl (a :: t) ++ [46], ?_, .inr ⟨_, rfl⟩⟩
    rw [jl_snoc c _ (by simp)]; simp
theorem RowT.sedR (h : RowT row lead w r) {w' : List Nat} {c : Nat} (e : w = w' ++ [c]) : sed row = ⟨#[c]⟩ := by
  obtain ⟨d, hd, hd'⟩ := sed_parts h.let_ e (lead := lead) (fun q => h.one (by rw [e, q]; rfl))
  have hc := h.let_ c (by rw [e]; simp)
  refine sx (sed_core (p := lead ++ jl w) (t := sep2 r ++ [46, 34]) (by rw [h.e, List.append_assoc]) ?_ ?_ ?_ hd hd' (by simp; omega))
  · rw [List.mem_append]; exact fun q => q.elim (ws_no h.lw (by decide) (by decide)) (jl_no h.let_ (by decide) (by decide))
  · rw [List.mem_append]; exact fun q => q.elim (ws_no h.lw (by decide) (by decide)) (jl_no h.let_ (by decide) (by decide))
  · rcases sep2_cases r with ⟨_, e⟩ | ⟨_, e⟩
    · exact .inr (.inl ⟨_, by rw [e]; rfl⟩)
    · exact .inr (.inr ⟨_, by rw [e]; rfl⟩)
end
theorem slice_neg2 {x : Str} {p : List Nat} {a b : Nat} (h : x.cps.toList = p ++ [a, b]) : (Txt.slice x none (some (-2))).cps.toList = p := by
  have hl : x.length = p.length + 2 := by rw [slen, h]; simp
  have e : Txt.slice x none (some (-2)) = Txt.slice x (some ((0 : Nat) : Int)) (some ((p.length : Nat) : Int)) := by
    show StrLaws.sliceText x none (some (-2)) = StrLaws.sliceText x (some ((0 : Nat) : Int)) (some ((p.length : Nat) : Int))
    have q : Builtin.Str.strSliceIndices none (some (-2)) 1 x.length = Builtin.Str.strSliceIndices (some ((0 : Nat) : Int)) (some ((p.length : Nat) : Int)) 1 x.length := by
      rw [StrLaws.sliceIdx_none_lo, hl]
      unfold Builtin.Str.strSliceIndices
      have h1 : ¬ ((p.length : Int) < 0) := by omega
      have h2 : (-2 : Int) + ((p.length + 2 : Nat) : Int) = (p.length : Int) := by omega
      simp [h1, h2]
      rw [show (-2 : Int) + ((p.length : Int) + 2) = p.length by omega]
    unfold StrLaws.sliceText
    rw [q]
  rw [e, slice_ab x (Nat.zero_le _) (by omega), h, List.drop_zero, Nat.sub_zero, List.take_left]
theorem sedP {dot : Str} {w' : List Nat} {b c : Nat} (h : dot.cps.toList = jl (w' ++ [b] ++ [c])) (hl : Let (w' ++ [b] ++ [c])) : sed (Txt.slice dot none (some (-2))) = ⟨#[b]⟩ := by
  rw [jl_snoc c _ (by simp)] at h
  have hs := slice_neg2 h
  have hl' : Let (w' ++ [b]) := fun x hx => hl x (List.mem_append_left _ hx)
  have hb := hl' b (by simp)
  obtain ⟨d, hd, hd'⟩ := sed_parts (lead := []) hl' rfl (fun _ => rfl)
  rw [List.nil_append] at hd
  refine sx (sed_core (p := jl (w' ++ [b])) (t := []) (by rw [hs, List.append_nil]) (jl_no hl' (by decide) (by decide)) (jl_no hl' (by decide) (by decide)) (.inl rfl) hd hd' (by simp; omega))
end
section
set_option maxHeartbeats 4000000
/-! leads -/
noncomputable def trits : Nat → List (List Int)
  | 0 => [[]]
  | n + 1 => (trits n).flatMap fun l => [0 :: l, 1 :: l, 2 :: l]
noncomputable def Tri (l : List Int) : Prop := ∀ t ∈ l, t = 0 ∨ t = 1 ∨ t = 2
theorem mem_trits : ∀ {l : List Int}, Tri l → l ∈ trits l.length
  | [], _ => List.mem_singleton.mpr rfl
  | t :: l, h => by
    have ih := mem_trits (l := l) fun x hx => h x (List.mem_cons_of_mem _ hx)
    refine List.mem_flatMap.mpr ⟨l, ih, ?_⟩
    rcases h t List.mem_cons_self with rfl | rfl | rfl <;> simp
noncomputable def wsL (sts : List Int) : Wst := wsOf (leadOf sts)
noncomputable def lessT (a b : List Int) : Bool := wsLess (wsL a) (wsL b)
noncomputable def wspB (l : List Nat) : Bool := l.all fun c => c == 9 || c == 32
noncomputable def leadFact (sts : List Int) : Bool := leadOk sts && wspB (leadOf sts).cps.toList && Nat.ble (leadOf sts).cps.toList.length 100 && wsOk (wsL sts)
noncomputable def allT (p : List Int → Bool) : Bool := (trits 0).all p && (trits 1).all p && (trits 2).all p && (trits 3).all p && (trits 4).all p
theorem allT_at {p : List Int → Bool} (h : allT p = true) {l : List Int} (ht : Tri l) (hl : l.length ≤ 4) : p l = true := by
  simp only [allT, Bool.and_eq_true, List.all_eq_true] at h
  obtain ⟨⟨⟨⟨h0, h1⟩, h2⟩, h3⟩, h4⟩ := h
  have hm := mem_trits ht
  rcases az_le5 hl with e | e | e | e | e <;> rw [e] at hm
  · exact h0 l hm
  · exact h1 l hm
  · exact h2 l hm
  · exact h3 l hm
  · exact h4 l hm
theorem leadU : allT leadFact = true := by decide +kernel
theorem tabI : allT (fun l => (List.range l.length).all fun m => lessT (l.take m) l) = true := by decide +kernel
theorem tabII : allT (fun l => (List.range l.length).all fun m => ([0, 1, 2] : List Int).all fun t => !lessT l (l.take m ++ [t])) = true := by decide +kernel
end
section
set_option maxHeartbeats 4000000
/-! words of law 02 -/
noncomputable def sL (l : List Nat) : Str := ⟨l.toArray⟩
noncomputable def s1 (c : Nat) : Str := ⟨#[c]⟩
theorem sL_cps (l : List Nat) : (sL l).cps.toList = l := rfl
theorem sL_len (l : List Nat) : (sL l).length = l.length := by rw [slen, sL_cps]
noncomputable def letB (w : List Nat) : Bool := w.all fun c => Nat.ble 97 c && Nat.ble c 101
theorem letB_let {w : List Nat} (h : letB w = true) : Let w := fun c hc => by
  have := List.all_eq_true.mp h c hc
  simp only [Bool.and_eq_true, Nat.ble_eq] at this
  exact this
theorem letB_ok {w : List Nat} (h : letB w = true) : PyData.strOk (sL w) = true := by
  unfold PyData.strOk
  rw [← Array.all_toList, sL_cps, List.all_eq_true]
  intro c hc
  have := (letB_let h c hc).2
  rw [decide_eq_true_eq]; omega
noncomputable def wL (i j k : Nat) : List Nat := [97 + i, 97 + j, 97 + k]
noncomputable def letsL : List Nat := [97, 98, 99, 100, 101]
noncomputable def ordL (w : List Nat) : List Nat := (letsL.filter fun c => !decide (c ∈ w)) ++ ((List.range 3).filter fun i => !decide (w.getD i 0 ∈ w.drop (i + 1))).map fun i => w.getD i 0
noncomputable def tiesL (w : List Nat) : List (List Nat) := [[(ordL w).getD 0 0, w.getD 0 0], [(ordL w).getD 1 0, w.getD 1 0], [(ordL w).getD 2 0, w.getD 2 0], [(ordL w).getD 3 0, (ordL w).getD 4 0]]
noncomputable def word3 (i j k : Nat) : Str := Txt.join "" [Txt.item "abcde" (i : Int), Txt.item "abcde" (j : Int), Txt.item "abcde" (k : Int)]
noncomputable def wordB (i j k : Nat) : Bool := decide (word3 i j k = sL (wL i j k)) && thOk (sL (wL i j k)) && decide (thOrder (sL (wL i j k)) = (ordL (wL i j k)).map s1) && decide (freeOf (sL (wL i j k)) ++ lastOf (sL (wL i j k)) = (ordL (wL i j k)).map s1)
  && decide (thTies (sL (wL i j k)) = (tiesL (wL i j k)).map sL) && letB (wL i j k) && letB (ordL (wL i j k))
noncomputable def row5 (i : Nat) : Bool := (List.range 5).all fun j => (List.range 5).all fun k => wordB i j k
theorem row50 : row5 0 = true := by decide +kernel
theorem row51 : row5 1 = true := by decide +kernel
theorem row52 : row5 2 = true := by decide +kernel
theorem row53 : row5 3 = true := by decide +kernel
theorem row54 : row5 4 = true := by decide +kernel
theorem wordAll {i j k : Nat} (hi : i < 5) (hj : j < 5) (hk : k < 5) : wordB i j k = true :=
  List.all_eq_true.mp (List.all_eq_true.mp (az_of5 (p := fun i => row5 i = true) row50 row51 row52 row53 row54 hi) j (List.mem_range.mpr hj)) k (List.mem_range.mpr hk)
theorem fmN {k : Nat} (hk : 0 < k) (x : Int) : ∃ n : Nat, n < k ∧ Int.fmod x (k : Int) = (n : Int) := by
  have hk' : (0 : Int) < (k : Int) := Int.ofNat_lt.mpr hk
  obtain ⟨n, hn⟩ := Int.eq_ofNat_of_zero_le (Int.fmod_nonneg_of_pos x hk')
  have h2 := Int.fmod_lt_of_pos x hk'
  rw [hn] at h2 ⊢
  exact ⟨n, Int.ofNat_lt.mp h2, rfl⟩
theorem fm5 (x : Int) : ∃ n : Nat, n < 5 ∧ Int.fmod x 5 = (n : Int) := fmN (k := 5) (by decide) x
theorem tops : ∀ t : Nat, t < 5 → Txt.item "abcde" (t : Int) = sL [97 + t] := by decide +kernel
theorem lenS {α : Type} {n : Nat} {l : List α} (h : l.length = n + 1) : ∃ a r, l = a :: r ∧ r.length = n := by
  cases l with
  | nil => cases h
  | cons a r => exact ⟨a, r, rfl, Nat.succ.inj h⟩
theorem dr4 {α : Type} {dr : List α} (h : dr.length = 4) : ∃ a b c d, dr = [a, b, c, d] := by
  obtain ⟨a, r1, rfl, h1⟩ := lenS h
  obtain ⟨b, r2, rfl, h2⟩ := lenS h1
  obtain ⟨c, r3, rfl, h3⟩ := lenS h2
  obtain ⟨d, r4, rfl, h4⟩ := lenS h3
  rw [List.eq_nil_of_length_eq_zero h4]
  exact ⟨a, b, c, d, rfl⟩
/-- the word and the top of a script -/
theorem word_of {dr : List Int} (h : dr.length = 4) : JoinOk "" (wordL dr) = true ∧ ∃ i j k t, i < 5 ∧ j < 5 ∧ k < 5 ∧ t < 5 ∧ wordOf dr = sL (wL i j k) ∧ topOf dr = sL [97 + t] ∧ wordB i j k = true := by
  obtain ⟨a, b, c, d, rfl⟩ := dr4 h
  obtain ⟨i, hi, ei⟩ := fm5 a
  obtain ⟨j, hj, ej⟩ := fm5 b
  obtain ⟨k, hk, ek⟩ := fm5 c
  obtain ⟨t, ht, et⟩ := fm5 d
  have hB := wordAll hi hj hk
  have eL : wordL [a, b, c, d] = [Txt.item "abcde" (i : Int), Txt.item "abcde" (j : Int), Txt.item "abcde" (k : Int)] := by
    rw [← ei, ← ej, ← ek]; rfl
  have eW : word3 i j k = sL (wL i j k) := by
    unfold wordB at hB
    simp only [Bool.and_eq_true, decide_eq_true_eq] at hB
    exact hB.1.1.1.1.1.1
  refine ⟨joinOk_of 1 (fun x hx => ?_) (Nat.zero_le 2) (by rw [eL]; show 3 * (1 + 2) ≤ 16777216; decide), i, j, k, t, hi, hj, hk, ht, ?_, ?_, hB⟩
  · rw [eL] at hx
    simp only [List.mem_cons, List.not_mem_nil, or_false] at hx
    rcases hx with rfl | rfl | rfl <;> exact Nat.le_refl 1
  · unfold wordOf; rw [eL]; exact eW
  · unfold topOf; show Txt.item "abcde" (Int.fmod d 5) = _; rw [et]; exact tops t ht
end
section
set_option maxHeartbeats 4000000
/-! the tree hung up, on lists -/
theorem item_last (w : List Nat) : Txt.item (sL w) (-1) = s1 (w.getLastD 0) := by
  cases w with
  | nil => rfl
  | cons a r =>
    unfold Txt.item Txt.charAt seqIndex?
    rw [sL_len]
    have h1 : (-1 : Int) + ((a :: r).length : Int) = (r.length : Int) := by simp; omega
    simp only [h1, show ((-1 : Int) < 0) from by decide, if_true]
    rw [if_pos (by simp; omega)]
    refine congrArg s1 ?_
    show ((sL (a :: r)).cps[((r.length : Int)).toNat]?).getD 0 = _
    rw [Int.toNat_natCast, ← Array.getElem?_toList, sL_cps, List.getLastD_eq_getLast?, List.getLast?_eq_getElem?]
    rfl
noncomputable def qOth (t w : List Nat) : List Nat := subs (w.getLastD 0) [] t
theorem oth_eq (t w : List Nat) : hgOth (sL t) (sL w) = sL (qOth t w) := by
  unfold hgOth
  rw [item_last]
  exact sx (repl (sL t) "" _)
theorem oth_len (t w : List Nat) : (qOth t w).length ≤ t.length := by
  have := flat_len (f := fun d => if d = w.getLastD 0 then [] else [d]) (k := 1) (fun a => by split <;> simp) t
  rw [Nat.one_mul] at this
  exact this
noncomputable def qKeep (w : List Nat) : List Nat → Bool
  | [c] => !decide (c ∈ w)
  | _ => false
theorem keep_eq (w : List Nat) : ∀ l : List Nat, (decide ((sL l).length = 1) && !inS (sL l) (sL w)) = qKeep w l
  | [] => rfl
  | [c] => by
    have h1 : inS (sL [c]) (sL w) = decide (c ∈ w) := StrLaws.found_one (sL w) c
    rw [h1]; rfl
  | _ :: _ :: _ => rfl
noncomputable def qPush (ties : List (List Nat)) (w : List Nat) : List (List Nat) := ((ties.map fun t => qOth t w).filter (qKeep w)).map fun o => w ++ o
theorem sL_add (a b : List Nat) : sL a ++ sL b = sL (a ++ b) := sx (cpsA _ _)
theorem push_eq (ties : List (List Nat)) (w : List Nat) : hgPush (ties.map sL) (sL w) = (qPush ties w).map sL := by
  unfold hgPush qPush
  have e1 : ((ties.map sL).map fun t => hgOth t (sL w)) = (ties.map fun t => qOth t w).map sL := by
    rw [List.map_map, List.map_map]; exact List.map_congr_left fun t _ => oth_eq t w
  have e2 : ((fun o : Str => decide (o.length = 1) && !inS o (sL w)) ∘ sL) = qKeep w := funext fun l => keep_eq w l
  rw [e1, List.filter_map, e2, List.map_map, List.map_map]
  exact List.map_congr_left fun o _ => sL_add w o
noncomputable def qStep (ties : List (List Nat)) (s : List (List Nat) × List (List Nat)) : List (List Nat) × List (List Nat) := match s.2.reverse with
  | [] => s
  | w :: r => (s.1 ++ [w], r.reverse ++ qPush ties w)
noncomputable def qSt (ties : List (List Nat)) (top : List Nat) : Nat → List (List Nat) × List (List Nat)
  | 0 => ([], [top])
  | n + 1 => qStep ties (qSt ties top n)
noncomputable def toS (s : List (List Nat) × List (List Nat)) : List Str × List Str := (s.1.map sL, s.2.map sL)
theorem hgStep_eq (ties : List (List Nat)) (s : List (List Nat) × List (List Nat)) : hgStep (ties.map sL) (toS s) = toS (qStep ties s) := by
  unfold hgStep qStep
  have e : (toS s).2.reverse = s.2.reverse.map sL := List.map_reverse.symm
  rw [e]
  cases s.2.reverse with
  | nil => rfl
  | cons w r =>
    show ((toS s).1 ++ [sL w], (r.map sL).reverse ++ hgPush (ties.map sL) (sL w)) = toS (s.1 ++ [w], r.reverse ++ qPush ties w)
    rw [push_eq, ← List.map_reverse]
    unfold toS
    dsimp only
    rw [List.map_append, List.map_append]; rfl
theorem hgSt_eq (ties : List (List Nat)) (top : List Nat) : ∀ n, hgSt (ties.map sL) (sL top) n = toS (qSt ties top n)
  | 0 => rfl
  | n + 1 => by rw [hgSt, hgSt_eq ties top n, hgStep_eq]; rfl
noncomputable def qOf (ties : List (List Nat)) (top : List Nat) : List (List Nat) := (qSt ties top 5).1
theorem hgOf_eq (ties : List (List Nat)) (top : List Nat) : hgOf (ties.map sL) (sL top) = (qOf ties top).map sL := by
  unfold hgOf; rw [hgSt_eq]; rfl
noncomputable def qOk (ties : List (List Nat)) (top : List Nat) : Bool := ((List.range 5).all fun n => Nat.ble 1 (qSt ties top n).2.length && Nat.ble (qSt ties top n).2.length 20 && (qSt ties top n).2.all fun w => letB w && Nat.ble 1 w.length && Nat.ble w.length 100)
  && (qSt ties top 5).2.isEmpty && (ties.all fun t => Nat.ble t.length 100) && Nat.ble ties.length 20 && Nat.beq (qOf ties top).length 5
theorem hgOk_of {ties : List (List Nat)} {top : List Nat} (h : qOk ties top = true) : hgOk (ties.map sL) (sL top) = true := by
  simp only [qOk, Bool.and_eq_true, List.all_eq_true, Nat.ble_eq, List.isEmpty_iff, Nat.beq_eq] at h
  obtain ⟨⟨⟨⟨h1, h2⟩, h3⟩, h4⟩, h5⟩ := h
  unfold hgOk
  simp only [Bool.and_eq_true, decide_eq_true_eq, List.all_eq_true]
  refine ⟨⟨⟨⟨fun n hn => ?_, ?_⟩, fun t ht => ?_⟩, by rw [List.length_map]; exact h4⟩, by rw [hgOf_eq, List.length_map]; exact h5⟩
  · obtain ⟨⟨a, b⟩, c⟩ := h1 n hn
    rw [hgSt_eq]
    have e : (toS (qSt ties top n)).2 = (qSt ties top n).2.map sL := rfl
    rw [e, List.length_map]
    refine ⟨⟨⟨a, b⟩, ?_⟩, fun w hw => ?_⟩
    · unfold strsOk
      rw [List.all_eq_true]
      intro t ht
      obtain ⟨w, hw, rfl⟩ := List.mem_map.mp ht
      exact letB_ok (c w hw).1.1
    · obtain ⟨v, hv, rfl⟩ := List.mem_map.mp hw
      rw [sL_len]
      refine ⟨⟨(c v hv).1.2, (c v hv).2⟩, fun t ht => ?_⟩
      obtain ⟨u, hu, rfl⟩ := List.mem_map.mp ht
      rw [oth_eq, sL_len]
      exact Nat.le_trans (oth_len u v) (h3 u hu)
  · rw [hgSt_eq]
    show (qSt ties top 5).2.map sL = []
    rw [h2]; rfl
  · obtain ⟨u, hu, rfl⟩ := List.mem_map.mp ht
    rw [sL_len]; exact h3 u hu
end
section
set_option maxHeartbeats 4000000
/-! the word read back, on lists -/
structure QB where
  word : List Nat
  order : List Nat
  left : List (List Nat)
  queue : List Nat
noncomputable def toB (b : QB) : Bk := ⟨sL b.word, b.order.map s1, b.left.map sL, b.queue.map s1⟩
noncomputable def qIn (c : Nat) (t : List Nat) : Bool := decide (c ∈ t)
theorem qIn_eq (c : Nat) : ((fun t : Str => inS (s1 c) t) ∘ sL) = qIn c := funext fun t => StrLaws.found_one (sL t) c
theorem qFil_eq (left : List (List Nat)) (c : Nat) : ((left.map sL).filter fun t => inS (s1 c) t) = (left.filter (qIn c)).map sL := by
  rw [List.filter_map, qIn_eq]
noncomputable def qLeaf (left : List (List Nat)) (c : Nat) : Bool := decide ((left.filter (qIn c)).length = 1)
theorem leaf_eq (left : List (List Nat)) (c : Nat) : bkLeaf (left.map sL) (s1 c) = qLeaf left c := by
  unfold bkLeaf qLeaf
  rw [qFil_eq, List.length_map]
theorem signs5 : signs "abcde" = letsL.map s1 := by rw [signs_eq]; rfl
theorem fst_eq (left : List (List Nat)) (n : Nat) : bkFst (left.map sL) n = ((letsL.take n).filter (qLeaf left)).map s1 := by
  unfold bkFst
  rw [signs5, ← List.map_take, List.filter_map]
  have : ((fun c => bkLeaf (left.map sL) c) ∘ s1) = qLeaf left := funext fun c => leaf_eq left c
  rw [this]
noncomputable def qTie (left : List (List Nat)) (c : Nat) : List Nat := (left.filter (qIn c)).headD []
theorem tie_eq (left : List (List Nat)) (c : Nat) : bkTie (left.map sL) (s1 c) = sL (qTie left c) := by
  unfold bkTie qTie
  rw [qFil_eq]
  cases left.filter (qIn c) <;> rfl
theorem sL_beq (a b : List Nat) : (sL a == sL b) = (a == b) := by
  rw [Bool.eq_iff_iff, beq_iff_eq, beq_iff_eq]
  exact ⟨fun h => congrArg (fun x : Str => x.cps.toList) h, fun h => congrArg sL h⟩
theorem ix_eq (left : List (List Nat)) (t : List Nat) : bkIx (left.map sL) (sL t) = left.findIdx (· == t) := by
  unfold bkIx
  rw [List.findIdx_map]
  congr 1
  exact funext fun a => sL_beq a t
theorem erase_map {α β : Type} (f : α → β) : ∀ (l : List α) (i : Nat), (l.map f).eraseIdx i = (l.eraseIdx i).map f
  | [], _ => rfl
  | _ :: _, 0 => rfl
  | a :: r, i + 1 => congrArg (f a :: ·) (erase_map f r i)
noncomputable def qStB (b : QB) : QB := match b.queue with
  | [] => b
  | c :: q => let t := qTie b.left c
    let left := b.left.eraseIdx (b.left.findIdx (· == t))
    let o := (subs c [] t).headD 0
    ⟨b.word ++ [o], b.order ++ [c], left, q ++ (if qLeaf left o then [o] else [])⟩
noncomputable def qB1 (b : QB) : Bool := Nat.ble 1 b.queue.length && Nat.ble b.queue.length 10 && Nat.ble b.left.length 20 && Nat.ble b.word.length 100 && Nat.ble b.order.length 20 && (match b.queue with
  | [] => false
  | c :: _ => Nat.ble 1 (b.left.filter (qIn c)).length && Nat.beq (qTie b.left c).length 2 && letB (qTie b.left c) && qIn c (qTie b.left c) && Nat.beq (subs c [] (qTie b.left c)).length 1)
theorem occT : (letsL.all fun x => letsL.all fun y => letsL.all fun c => !(c == x || c == y) || !(Builtin.Str.occurrences (sL [x, y]) (s1 c) 0 2 3).isEmpty) = true := by decide +kernel
theorem let_memT : ∀ c : Nat, c < 102 → 97 ≤ c → c ∈ letsL := by decide +kernel
theorem let_mem {c : Nat} (h : 97 ≤ c ∧ c ≤ 101) : c ∈ letsL := let_memT c (Nat.lt_succ_of_le h.2) h.1
theorem occ2 {c : Nat} {t : List Nat} (h2 : t.length = 2) (hl : letB t = true) (hc : c ∈ t) : (Builtin.Str.occurrences (sL t) (s1 c) 0 (sL t).length ((sL t).length + 1)).isEmpty = false := by
  have hL := letB_let hl
  match t, h2 with
  | [x, y], _ =>
    have h := List.all_eq_true.mp (List.all_eq_true.mp (List.all_eq_true.mp occT x (let_mem (hL x (by simp)))) y (let_mem (hL y (by simp)))) c (let_mem (hL c hc))
    have e : (c == x || c == y) = true := by simpa using hc
    rw [e] at h
    rw [sL_len]
    show (Builtin.Str.occurrences (sL [x, y]) (s1 c) 0 2 3).isEmpty = false
    simpa using h
theorem len1S {l : List Nat} (h : l.length = 1) : sL l = s1 (l.headD 0) := by
  match l, h with
  | [c], _ => rfl
theorem other_eq {t : List Nat} (c : Nat) : Txt.replace (sL t) (s1 c) "" = sL (subs c [] t) := sx (repl (sL t) "" c)
theorem and2 {a b : Bool} (x : a = true) (y : b = true) : (a && b) = true := by rw [x, y]; rfl
theorem mble {α β : Type} {f : α → β} {l : List α} {n : Nat} (h : Nat.ble l.length n = true) : (l.map f).length ≤ n := by rw [List.length_map]; exact Nat.le_of_ble_eq_true h
section
variable {left : List (List Nat)} {c : Nat}
theorem qT1 (h : Nat.beq (qTie left c).length 2 = true) : (bkTie (left.map sL) (s1 c)).length ≤ 100 := by
  rw [tie_eq, sL_len, Nat.eq_of_beq_eq_true h]; decide
theorem qT2 (h : Nat.beq (subs c [] (qTie left c)).length 1 = true) : (Txt.replace (bkTie (left.map sL) (s1 c)) (s1 c) "").length ≤ 100 := by
  rw [tie_eq, other_eq, sL_len, Nat.eq_of_beq_eq_true h]; decide
theorem qT3 (h : Nat.beq (qTie left c).length 2 = true) (hl : letB (qTie left c) = true) (hc : qIn c (qTie left c) = true) : (Builtin.Str.occurrences (bkTie (left.map sL) (s1 c)) (s1 c) 0 (bkTie (left.map sL) (s1 c)).length ((bkTie (left.map sL) (s1 c)).length + 1)).isEmpty = false := by
  rw [tie_eq]
  exact occ2 (Nat.eq_of_beq_eq_true h) hl (of_decide_eq_true hc)
theorem qT4 (h : Nat.ble 1 (left.filter (qIn c)).length = true) : 1 ≤ ((left.map sL).filter fun t => inS (s1 c) t).length := by
  rw [qFil_eq, List.length_map]; exact Nat.le_of_ble_eq_true h
theorem qT6 {a : Bool} (h : a = false) : (!(a || ((s1 c).length == 0 && ("" : Str).length == 0))) = true := by rw [h]; rfl
theorem qT5 {word order q : List Nat} (h : Nat.beq (subs c [] (qTie left c)).length 1 = true) : bkStep (toB ⟨word, order, left, c :: q⟩) = toB (qStB ⟨word, order, left, c :: q⟩) := by
  unfold bkStep qStB toB
  dsimp only
  rw [List.map_cons]
  dsimp only
  rw [tie_eq, other_eq, ix_eq, erase_map, len1S (Nat.eq_of_beq_eq_true h), leaf_eq]
  have e2 : sL word ++ s1 ((subs c [] (qTie left c)).headD 0) = sL (word ++ [(subs c [] (qTie left c)).headD 0]) := sL_add _ [_]
  rw [e2, List.map_append, List.map_append]
  congr 1
  split <;> rfl
end
theorem qB1_of {b : QB} : qB1 b = true → bkOk1 (toB b) = true ∧ bkStep (toB b) = toB (qStB b) := by
  obtain ⟨word, order, left, queue⟩ := b
  cases queue with
  | nil => exact fun h => absurd (Bool.and_eq_true_iff.mp h).2 Bool.false_ne_true
  | cons c q =>
    intro h
    obtain ⟨h, g⟩ := Bool.and_eq_true_iff.mp h
    obtain ⟨h, h5⟩ := Bool.and_eq_true_iff.mp h
    obtain ⟨h, h4⟩ := Bool.and_eq_true_iff.mp h
    obtain ⟨h, h3⟩ := Bool.and_eq_true_iff.mp h
    have h2 := (Bool.and_eq_true_iff.mp h).2
    obtain ⟨g, g5⟩ := Bool.and_eq_true_iff.mp g
    obtain ⟨g, g4⟩ := Bool.and_eq_true_iff.mp g
    obtain ⟨g, g3⟩ := Bool.and_eq_true_iff.mp g
    obtain ⟨g1, g2⟩ := Bool.and_eq_true_iff.mp g
    have o := qT3 g2 g3 g4
    exact ⟨and2 (and2 (and2 (and2 (and2 rfl (decide_eq_true (mble h2))) (decide_eq_true (mble h3))) (decide_eq_true (Nat.le_of_ble_eq_true h4))) (decide_eq_true (mble h5)))
      (and2 (and2 (and2 (and2 rfl (decide_eq_true (qT4 g1))) (decide_eq_true (qT1 g2))) (decide_eq_true (qT2 g5))) (qT6 o)), qT5 g5⟩
noncomputable def qbSt (ties : List (List Nat)) : Nat → QB
  | 0 => ⟨[], [], ties, (letsL.take 5).filter (qLeaf ties)⟩
  | n + 1 => qStB (qbSt ties n)
noncomputable def qBk (ties : List (List Nat)) (w ord : List Nat) : Bool := Nat.ble ties.length 20 && qB1 (qbSt ties 0) && qB1 (qbSt ties 1) && qB1 (qbSt ties 2) && Nat.beq (qbSt ties 3).queue.length 2 && Nat.ble (qbSt ties 3).order.length 20 && ((qbSt ties 3).word == w) && ((qbSt ties 3).order ++ (qbSt ties 3).queue == ord)
theorem back_of {ties : List (List Nat)} {w ord : List Nat} (h : qBk ties w ord = true) : bkOk (ties.map sL) = true ∧ bkWord (ties.map sL) = sL w ∧ bkOrder (ties.map sL) = ord.map s1 := by
  simp only [qBk, Bool.and_eq_true, Nat.ble_eq, Nat.beq_eq, beq_iff_eq] at h
  obtain ⟨⟨⟨⟨⟨⟨⟨h0, h1⟩, h2⟩, h3⟩, h4⟩, h5⟩, h6⟩, h7⟩ := h
  have e0 : bkSt (ties.map sL) 0 = toB (qbSt ties 0) := by
    show (⟨"", [], ties.map sL, bkFst (ties.map sL) 5⟩ : Bk) = _
    rw [fst_eq]; rfl
  have e1 : bkSt (ties.map sL) 1 = toB (qbSt ties 1) := by rw [bkSt, e0, (qB1_of h1).2]; rfl
  have e2 : bkSt (ties.map sL) 2 = toB (qbSt ties 2) := by rw [bkSt, e1, (qB1_of h2).2]; rfl
  have e3 : bkSt (ties.map sL) 3 = toB (qbSt ties 3) := by rw [bkSt, e2, (qB1_of h3).2]; rfl
  have l1 : (toB (qbSt ties 3)).queue.length = 2 := by unfold toB; rw [List.length_map]; exact h4
  have l2 : (toB (qbSt ties 3)).order.length ≤ 20 := by unfold toB; rw [List.length_map]; exact h5
  refine ⟨?_, ?_, ?_⟩
  · unfold bkOk
    rw [e0, e1, e2, e3, (qB1_of h1).1, (qB1_of h2).1, (qB1_of h3).1, List.length_map]
    simp only [Bool.and_eq_true, decide_eq_true_eq, and_true]
    exact ⟨⟨h0, l1⟩, l2⟩
  · unfold bkWord
    rw [e3, ← h6]; rfl
  · unfold bkOrder
    rw [e3, ← h7, List.map_append]; rfl
end
section
set_option maxHeartbeats 4000000
/-! the shapes of the trees -/
noncomputable def hAt (H : List (List Nat)) (i : Nat) : List Nat := H.getD i []
noncomputable def depL (H : List (List Nat)) : List Nat := (List.range 5).map fun i => (hAt H i).length - 1
noncomputable def parD (d : List Nat) (row : Nat) : Nat := ((List.range row).filter fun one => Nat.blt (d.getD one 0) (d.getD row 0)).getLastD 0
noncomputable def wayB (H : List (List Nat)) : Bool := Nat.beq H.length 5 && (List.range 5).all fun i => letB (hAt H i) && Nat.ble 1 (hAt H i).length && Nat.ble (hAt H i).length 5 && (Nat.beq i 0 || Nat.ble 2 (hAt H i).length)
noncomputable def sideB (a b : List Nat) : Bool := (List.range (a.length - 1)).any fun m => b.drop 1 == (a.drop 1).take m ++ [b.getLastD 0]
noncomputable def parB (H : List (List Nat)) : Bool := (List.range 4).all fun r => Nat.blt (parD (depL H) (r + 1)) (r + 1) && (hAt H (parD (depL H) (r + 1)) ++ [(hAt H (r + 1)).getLastD 0] == hAt H (r + 1)) && (List.range (r + 1)).all fun one => Nat.ble one (parD (depL H) (r + 1)) || sideB (hAt H one) (hAt H (r + 1))
noncomputable def tieE (H : List (List Nat)) : List (List Nat) := (List.range 4).map fun r => (hAt H (r + 1)).drop ((hAt H (r + 1)).length - 2)
noncomputable def shB (d : List Nat) : Bool := Nat.beq (d.getD 0 0) 0 && (List.range 4).all fun r => Nat.ble 1 (d.getD (r + 1) 0) && Nat.ble (d.getD (r + 1) 0) (d.getD r 0 + 1)
noncomputable def treeB (w : List Nat) (t : Nat) : Bool := qOk (tiesL w) [97 + t] && wayB (qOf (tiesL w) [97 + t]) && parB (qOf (tiesL w) [97 + t]) && shB (depL (qOf (tiesL w) [97 + t])) && qBk (tieE (qOf (tiesL w) [97 + t])) w (ordL w)
noncomputable def tree5 (i : Nat) : Bool := (List.range 5).all fun j => (List.range 5).all fun k => (List.range 5).all fun t => treeB (wL i j k) t
end
section
set_option maxHeartbeats 4000000
/-! _check_parenthesis, on lists -/
noncomputable def cd (x : Str) : Nat := match x.cps.toList with
  | [c] => c
  | _ => 0
theorem cd_beq {c : Nat} (hc : c ≠ 0) (x : Str) : (x == (⟨#[c]⟩ : Str)) = Nat.beq (cd x) c := by
  rw [Bool.eq_iff_iff, beq_iff_eq, Nat.beq_eq]
  constructor
  · rintro rfl; rfl
  · intro h
    unfold cd at h
    split at h
    · rename_i d hd
      subst h
      exact sx hd
    · exact absurd h.symm hc
noncomputable def escN : List Nat → Nat → Bool → Nat → List (Nat × Nat)
  | [], _, esc, last => if esc then [(last, 92)] else []
  | c :: r, i, esc, _ => if esc then (i, 0) :: escN r (i + 1) false i
    else if Nat.beq c 92 then escN r (i + 1) true i
    else (i, c) :: escN r (i + 1) false i
noncomputable def pc (p : Nat × Str) : Nat × Nat := (p.1, cd p.2)
theorem escN_eq : ∀ (l : List Nat) (i : Nat) (e : Bool) (n : Nat), (escLoop l i e n).map pc = escN l i e n
  | [], i, e, n => by cases e <;> rfl
  | c :: r, i, e, n => by
    unfold escLoop escN
    cases e with
    | true =>
      rw [if_pos rfl, if_pos rfl, List.map_cons, escN_eq r (i + 1) false i]; rfl
    | false =>
      rw [if_neg Bool.false_ne_true, if_neg Bool.false_ne_true]
      have e1 : ((⟨#[c]⟩ : Str) == "\\") = Nat.beq c 92 := cd_beq (c := 92) (by decide) _
      rw [e1]
      cases Nat.beq c 92 with
      | true => rw [if_pos rfl, if_pos rfl]; exact escN_eq r (i + 1) true i
      | false => rw [if_neg Bool.false_ne_true, if_neg Bool.false_ne_true, List.map_cons, escN_eq r (i + 1) false i]; rfl
/-- what stands outside the quotation marks -/
noncomputable def sqN (w : List Nat) : List (Nat × Nat) → Option Nat → Nat → List Nat → Nat × List Nat
  | [], _, st, acc => (st, acc)
  | (pos, c) :: r, op, st, acc =>
    if Nat.beq c 34 then
      match op with
      | none => sqN w r (some pos) st acc
      | some o => sqN w r none (pos + 1) (acc ++ (w.drop st).take (o - st))
    else sqN w r op st acc
noncomputable def okP (w : List Nat) : List (Nat × Nat) → Option Nat → Nat → Bool
  | [], _, _ => true
  | (pos, c) :: r, op, st =>
    if Nat.beq c 34 then
      match op with
      | none => okP w r (some pos) st
      | some o => Nat.ble st o && Nat.ble o w.length && okP w r none (pos + 1)
    else okP w r op st
noncomputable def flS (l : List Str) : List Nat := l.flatMap fun x => x.cps.toList
theorem sqN_cons (w : List Nat) (pos c : Nat) (r : List (Nat × Nat)) (op : Option Nat) (st : Nat) (acc : List Nat) : sqN w ((pos, c) :: r) op st acc = if Nat.beq c 34 then (match op with | none => sqN w r (some pos) st acc | some o => sqN w r none (pos + 1) (acc ++ (w.drop st).take (o - st))) else sqN w r op st acc := by cases op <;> rfl
theorem okP_cons (w : List Nat) (pos c : Nat) (r : List (Nat × Nat)) (op : Option Nat) (st : Nat) : okP w ((pos, c) :: r) op st = if Nat.beq c 34 then (match op with | none => okP w r (some pos) st | some o => Nat.ble st o && Nat.ble o w.length && okP w r none (pos + 1)) else okP w r op st := by cases op <;> rfl
noncomputable def SqR (p : Nat × List Str) (q : Nat × List Nat) : Prop := p.1 = q.1 ∧ flS p.2 = q.2
theorem sl_flS (w : List Nat) {st o : Nat} (h1 : st ≤ o) (h2 : o ≤ w.length) (res : List Str) : flS (if ((st : Int) != (o : Int)) then res ++ [Txt.slice (sL w) (some (st : Int)) (some (o : Int))] else res) = flS res ++ (w.drop st).take (o - st) := by
  have hs : (Txt.slice (sL w) (some (st : Int)) (some (o : Int))).cps.toList = (w.drop st).take (o - st) := slice_ab (sL w) h1 (by rw [sL_len]; exact h2)
  by_cases q : st = o
  · rw [q, Nat.sub_self, List.take_zero, List.append_nil, if_neg (by rw [bne_self_eq_false]; exact Bool.false_ne_true)]
  · have hz : ((st : Int) != (o : Int)) = true := bne_iff_ne.mpr fun z => q (Int.ofNat.inj z)
    rw [if_pos hz]
    unfold flS
    rw [List.flatMap_append, List.flatMap_cons, List.flatMap_nil, List.append_nil, hs]
theorem sqN_eq (w : List Nat) (its : List (Nat × Str)) : ∀ (op : Option Nat) (st : Nat) (res : List Str), okP w (its.map pc) op st = true → SqR (sqLoop (sL w) its op st res) (sqN w (its.map pc) op st (flS res)) := by
  induction its with
  | nil => exact fun op st res _ => ⟨rfl, rfl⟩
  | cons p r ih =>
    intro op st res h
    have e1 : (p.2 == "\"") = Nat.beq (cd p.2) 34 := cd_beq (c := 34) (by decide) p.2
    have eL : sqLoop (sL w) (p :: r) op st res = _ := sqLoop_cons (sL w) p.1 p.2 r op st res
    have eN : sqN w ((p :: r).map pc) op st (flS res) = _ := sqN_cons w p.1 (cd p.2) (r.map pc) op st (flS res)
    have eP : okP w ((p :: r).map pc) op st = _ := okP_cons w p.1 (cd p.2) (r.map pc) op st
    rw [eP] at h
    rw [eL, eN, e1]
    clear eL eN eP e1
    revert h
    cases Nat.beq (cd p.2) 34 with
    | false => exact ih op st res
    | true =>
      cases op with
      | none => exact ih (some p.1) st res
      | some o =>
        intro h
        obtain ⟨h, h3⟩ := Bool.and_eq_true_iff.mp h
        obtain ⟨h1, h2⟩ := Bool.and_eq_true_iff.mp h
        have := ih none (p.1 + 1) (if ((st : Int) != (o : Int)) then res ++ [Txt.slice (sL w) (some (st : Int)) (some (o : Int))] else res) h3
        rw [sl_flS w (Nat.le_of_ble_eq_true h1) (Nat.le_of_ble_eq_true h2)] at this
        exact this
noncomputable def sqC (w : List Nat) : List Nat := (sqN w (escN w 0 false 0) none 0 []).2 ++ w.drop (sqN w (escN w 0 false 0) none 0 []).1
noncomputable def strN (w : List Nat) : List Nat := if decide (34 ∈ w) then sqC w else w
noncomputable def okN (w : List Nat) : Bool := (w.all fun c => Nat.blt c 128) && Nat.ble w.length 200 && okP w (escN w 0 false 0) none 0 && Nat.ble (sqC w).length 1000 && (strN w).all fun c => Nat.blt c 128
theorem join0 {l : List Str} (h : (flS l).length ≤ 1000) : JoinOk "" l = true := by
  have key : ∀ (l : List Str) (a : Nat), l.foldl (fun (x : Nat) (t : Str) => x + t.length + 0) a = a + (flS l).length := by
    intro l
    induction l with
    | nil => exact fun a => rfl
    | cons t r ih =>
      intro a
      rw [List.foldl_cons, ih]
      have : flS (t :: r) = t.cps.toList ++ flS r := rfl
      rw [this, List.length_append, ← slen, Nat.add_zero, Nat.add_assoc]
  have e : l.foldl (fun (x : Nat) (t : Str) => x + t.length + ("" : Str).length) 0 = (flS l).length := (key l 0).trans (Nat.zero_add _)
  unfold JoinOk
  rw [List.foldl_toArray]
  simp only [PySem.Builtin.Str.tooLong, Bool.not_eq_true', decide_eq_false_iff_not, PySem.sizeLine_eq]
  rw [e]
  omega
noncomputable def ckN : List (Nat × Nat) → Nat → Option Nat
  | [], o => some o
  | (_, c) :: r, o => if Nat.beq c 40 then ckN r (o + 1) else if Nat.beq c 41 then (match o with | 0 => none | n + 1 => ckN r n) else ckN r o
noncomputable def parN (w : List Nat) : Bool := match ckN (escN (strN w) 0 false 0) 0 with
  | some 0 => true
  | _ => false
theorem ckN_eq : ∀ (its : List (Nat × Str)) (o : Nat), ckLoop its (o : Int) = (ckN (its.map pc) o).map fun n => ((n : Nat) : Int)
  | [], o => rfl
  | (p, ch) :: r, o => by
    rw [List.map_cons]
    have e1 : (ch == "(") = Nat.beq (cd ch) 40 := cd_beq (c := 40) (by decide) ch
    have e2 : (ch == ")") = Nat.beq (cd ch) 41 := cd_beq (c := 41) (by decide) ch
    unfold ckLoop
    rw [e1, e2]
    show _ = (ckN ((p, cd ch) :: r.map pc) o).map _
    unfold ckN
    cases Nat.beq (cd ch) 40 with
    | true => exact ckN_eq r (o + 1)
    | false =>
      cases Nat.beq (cd ch) 41 with
      | true =>
        cases o with
        | zero => rfl
        | succ n =>
          have h := ckN_eq r n
          have : ¬ (((n + 1 : Nat) : Int) - 1 < 0) := by omega
          have e : ((n + 1 : Nat) : Int) - 1 = (n : Int) := by omega
          simp only [if_neg Bool.false_ne_true, if_pos, if_neg this]
          rw [e]; exact h
      | false => exact ckN_eq r o
theorem inS_q (w : List Nat) : inS "\"" (sL w) = decide (34 ∈ w) := StrLaws.found_one (sL w) 34
theorem sl_from (w : List Nat) {n : Nat} (h : n ≤ w.length) : (Txt.slice (sL w) (some (n : Int)) none).cps.toList = w.drop n := by
  have : Txt.slice (sL w) (some (n : Int)) none = ⟨(((sL w).cps.toList.drop (n : Int).toNat).take (((sL w).cps.toList.length : Int) - n).toNat).toArray⟩ := StrLaws.sliceText_from (i := n) ⟨by omega, by rw [sL_cps]; omega⟩
  rw [this, sL_cps, Int.toNat_natCast]
  show (w.drop n).take _ = _
  exact List.take_of_length_le (by rw [List.length_drop]; omega)
theorem ascii_of {l : List Nat} (h : (l.all fun c => Nat.blt c 128) = true) : (sL l).cps.all (· < 128) = true := by
  rw [← Array.all_toList, sL_cps, List.all_eq_true]
  intro c hc
  have := List.all_eq_true.mp h c hc
  rw [Nat.blt_eq] at this
  exact decide_eq_true this
theorem res_eq {w : List Nat} (h : okP w (escN w 0 false 0) none 0 = true) : flS (sqRes (sL w)) = sqC w := by
  rw [← escN_eq] at h
  have K := sqN_eq w (escLoop w 0 false 0) none 0 [] h
  rw [escN_eq, show flS [] = [] from rfl] at K
  have eI : escItems (sL w) = escLoop w 0 false 0 := rfl
  unfold sqRes sqC
  rw [eI, ← K.1, ← K.2, sL_len]
  dsimp only
  split
  · rename_i hlt
    have e := sl_from w (n := (sqLoop (sL w) (escLoop w 0 false 0) none 0 []).1) (Nat.le_of_lt (Int.ofNat_lt.mp hlt))
    unfold flS
    rw [List.flatMap_append, List.flatMap_cons, List.flatMap_nil, List.append_nil, e]
  · rename_i hlt
    rw [List.drop_eq_nil_of_le (Nat.le_of_not_lt fun q => hlt (Int.ofNat_lt.mpr q)), List.append_nil]
theorem okN_of {w : List Nat} (h : okN w = true) : strq (sL w) = sL (strN w) ∧ ckOk (sL w) = true := by
  unfold okN at h
  obtain ⟨h, h4⟩ := Bool.and_eq_true_iff.mp h
  obtain ⟨h, h5⟩ := Bool.and_eq_true_iff.mp h
  obtain ⟨h, h3⟩ := Bool.and_eq_true_iff.mp h
  obtain ⟨h1, h2⟩ := Bool.and_eq_true_iff.mp h
  have key := res_eq h3
  have e1 : strq (sL w) = sL (strN w) := by
    unfold strq strN
    rw [inS_q]
    cases decide (34 ∈ w) with
    | true => exact sx ((joinE _).trans key)
    | false => rfl
  refine ⟨e1, ?_⟩
  unfold ckOk sqOk
  have j : JoinOk "" (sqRes (sL w)) = true := join0 (by rw [key]; exact Nat.le_of_ble_eq_true h5)
  have hlen : (sL w).length ≤ 16000 := Nat.le_trans (Nat.le_of_ble_eq_true h2) (by decide)
  rw [e1, ascii_of h1, ascii_of h4, j, decide_eq_true hlen]; rfl
theorem ckOk_of {w : List Nat} (h : okN w = true) : ckOk (sL w) = true := (okN_of h).2
theorem parN_eq {w : List Nat} (h : okN w = true) : ckpar (sL w) = parN w := by
  unfold ckpar parN
  rw [(okN_of h).1]
  have e : ckLoop (escItems (sL (strN w))) 0 = _ := ckN_eq (escLoop (strN w) 0 false 0) 0
  rw [e, escN_eq]
  cases ckN (escN (strN w) 0 false 0) 0 with
  | none => rfl
  | some n => cases n <;> rfl
end
section
set_option maxHeartbeats 4000000
/-! letters are alike to the brackets -/
noncomputable def ph (c : Nat) : Nat := if Nat.ble 97 c && Nat.ble c 101 then 97 else c
theorem ph_beq {c k : Nat} (hk : k < 97) : Nat.beq (ph c) k = Nat.beq c k := by
  unfold ph
  split
  · rename_i h
    rw [Bool.and_eq_true, Nat.ble_eq, Nat.ble_eq] at h
    rw [Bool.eq_iff_iff, Nat.beq_eq, Nat.beq_eq]; omega
  · rfl
theorem ph_blt {c : Nat} : Nat.blt (ph c) 128 = Nat.blt c 128 := by
  unfold ph
  split
  · rename_i h
    rw [Bool.and_eq_true, Nat.ble_eq, Nat.ble_eq] at h
    rw [Bool.eq_iff_iff, Nat.blt_eq, Nat.blt_eq]; omega
  · rfl
theorem ph_let {c : Nat} (h : 97 ≤ c ∧ c ≤ 101) : ph c = 97 := by
  unfold ph
  rw [Nat.ble_eq_true_of_le h.1, Nat.ble_eq_true_of_le h.2]; rfl
noncomputable def php (p : Nat × Nat) : Nat × Nat := (p.1, ph p.2)
theorem escN_ph : ∀ (l : List Nat) (i : Nat) (e : Bool) (n : Nat), escN (l.map ph) i e n = (escN l i e n).map php
  | [], i, e, n => by cases e <;> rfl
  | c :: r, i, e, n => by
    rw [List.map_cons]
    unfold escN
    rw [ph_beq (by decide)]
    cases e with
    | true => rw [if_pos rfl, if_pos rfl, escN_ph r]; rfl
    | false =>
      cases Nat.beq c 92 with
      | true => exact escN_ph r (i + 1) true i
      | false => exact congrArg ((i, ph c) :: ·) (escN_ph r (i + 1) false i)
theorem sqN_ph (w : List Nat) : ∀ (its : List (Nat × Nat)) (op : Option Nat) (st : Nat) (acc : List Nat), sqN (w.map ph) (its.map php) op st (acc.map ph) = ((sqN w its op st acc).1, (sqN w its op st acc).2.map ph)
  | [], op, st, acc => rfl
  | (p, c) :: r, op, st, acc => by
    rw [List.map_cons]
    show sqN (w.map ph) ((p, ph c) :: r.map php) op st (acc.map ph) = _
    unfold sqN
    rw [ph_beq (by decide)]
    cases Nat.beq c 34 with
    | false => exact sqN_ph w r op st acc
    | true =>
      cases op with
      | none => exact sqN_ph w r (some p) st acc
      | some o =>
        have h := sqN_ph w r none (p + 1) (acc ++ (w.drop st).take (o - st))
        rw [List.map_append, List.map_take, List.map_drop] at h
        exact h
theorem okP_ph (w : List Nat) : ∀ (its : List (Nat × Nat)) (op : Option Nat) (st : Nat), okP (w.map ph) (its.map php) op st = okP w its op st
  | [], op, st => rfl
  | (p, c) :: r, op, st => by
    rw [List.map_cons]
    show okP (w.map ph) ((p, ph c) :: r.map php) op st = _
    unfold okP
    rw [ph_beq (by decide)]
    cases Nat.beq c 34 with
    | false => exact okP_ph w r op st
    | true =>
      cases op with
      | none => exact okP_ph w r (some p) st
      | some o =>
        dsimp only
        rw [if_pos rfl, if_pos rfl, okP_ph w r none (p + 1), List.length_map]
theorem mem34_ph (w : List Nat) : decide (34 ∈ w.map ph) = decide (34 ∈ w) := by
  rw [decide_eq_decide, List.mem_map]
  constructor
  · rintro ⟨c, hc, e⟩
    have : Nat.beq c 34 = true := by rw [← ph_beq (by decide), e]; rfl
    rw [Nat.beq_eq] at this
    exact this ▸ hc
  · exact fun h => ⟨34, h, rfl⟩
theorem sqC_ph (w : List Nat) : sqC (w.map ph) = (sqC w).map ph := by
  unfold sqC
  have h := sqN_ph w (escN w 0 false 0) none 0 []
  rw [escN_ph, show ([] : List Nat) = [].map ph from rfl, h, List.map_append, List.map_drop]; rfl
theorem strN_ph (w : List Nat) : strN (w.map ph) = (strN w).map ph := by
  unfold strN
  rw [mem34_ph, sqC_ph]
  cases decide (34 ∈ w) <;> rfl
theorem okN_ph (w : List Nat) : okN (w.map ph) = okN w := by
  unfold okN
  have h : ((fun c => Nat.blt c 128) ∘ ph) = fun c => Nat.blt c 128 := funext fun c => ph_blt
  rw [strN_ph, sqC_ph, escN_ph, okP_ph, List.length_map, List.length_map, List.all_map, List.all_map, h]
theorem ckN_ph : ∀ (its : List (Nat × Nat)) (o : Nat), ckN (its.map php) o = ckN its o
  | [], o => rfl
  | (p, c) :: r, o => by
    rw [List.map_cons]
    show ckN ((p, ph c) :: r.map php) o = _
    unfold ckN
    rw [ph_beq (by decide), ph_beq (by decide)]
    cases Nat.beq c 40 with
    | true => exact ckN_ph r (o + 1)
    | false =>
      cases Nat.beq c 41 with
      | true =>
        cases o with
        | zero => rfl
        | succ n => exact ckN_ph r n
      | false => exact ckN_ph r o
theorem parN_ph (w : List Nat) : parN (w.map ph) = parN w := by
  unfold parN
  rw [strN_ph, escN_ph, ckN_ph]
noncomputable def joinN : List (List Nat) → List Nat
  | [] => []
  | [a] => a
  | a :: b :: r => a ++ 40 :: joinN (b :: r)
theorem joinN_map (f : Nat → Nat) (h : f 40 = 40) : ∀ l : List (List Nat), joinN (l.map (·.map f)) = (joinN l).map f
  | [] => rfl
  | [a] => rfl
  | a :: b :: r => by
    have ih := joinN_map f h (b :: r)
    show a.map f ++ 40 :: joinN ((b :: r).map (·.map f)) = (a ++ 40 :: joinN (b :: r)).map f
    rw [ih, List.map_append, List.map_cons, h]
theorem join_parL : ∀ l : List (List Nat), (Str.join "(" (l.map sL)).cps.toList = joinN l
  | [] => rfl
  | [a] => rfl
  | a :: b :: r => by
    have ih := join_parL (b :: r)
    show ((sL a ++ "(" ++ Str.join "(" ((b :: r).map sL))).cps.toList = _
    rw [cpsA, cpsA, ih]
    show (a ++ [40]) ++ joinN (b :: r) = a ++ 40 :: joinN (b :: r)
    rw [List.append_assoc]; rfl
theorem join_par (l : List (List Nat)) : Txt.join "(" (l.map sL) = sL (joinN l) := by
  have : Txt.join "(" (l.map sL) = Str.join "(" (l.map sL) := StrLaws.glued_eq_join _ _
  exact sx (this ▸ join_parL l)
/-! the brackets of each shape -/
noncomputable def hidsL : List (List Nat) := [[], [92, 41], [92, 34, 34, 97, 40, 34], [34], [34, 92, 34, 41, 34], [92, 92]]
noncomputable def partC (d hl : List Nat) (s r c : Nat) : List Nat := c :: ((if Nat.beq r s || (!(hl == [34]) && Nat.beq r 0) then hl else []) ++ List.replicate (d.getD r 0 + 1 - d.getD (r + 1) 0) 41)
noncomputable def brN (P : List (List Nat)) (one row : Nat) : List Nat := joinN ((P.drop one).take (row - one))
noncomputable def brB (d hl : List Nat) (s : Nat) : Bool := (List.range 4).all fun r => (List.range (r + 1)).all fun one => okN (brN ((List.range 4).map fun r => partC d hl s r 97) one (r + 1)) && (parN (brN ((List.range 4).map fun r => partC d hl s r 97) one (r + 1)) == Nat.beq one (parD d (r + 1)))
noncomputable def brD (d : List Nat) : Bool := hidsL.all fun hl => (List.range 4).all fun s => brB d hl s
noncomputable def brE (b : Nat) : Bool := (List.range (b + 2)).all fun c => (List.range (c + 2)).all fun e => brD [0, 1, b + 1, c + 1, e + 1]
theorem brT0 : brE 0 = true := by decide +kernel
theorem brT1 : brE 1 = true := by decide +kernel
theorem list5 {d : List Nat} (h : d.length = 5) : ∃ x0 x1 x2 x3 x4, d = [x0, x1, x2, x3, x4] := by
  obtain ⟨x0, r0, rfl, g0⟩ := lenS h
  obtain ⟨x1, x2, x3, x4, rfl⟩ := dr4 g0
  exact ⟨x0, x1, x2, x3, x4, rfl⟩
theorem predL {x y : Nat} (h : (Nat.ble 1 x && Nat.ble x (y + 1)) = true) : ∃ b, x = b + 1 ∧ b < y + 1 := by
  obtain ⟨h1, h2⟩ := Bool.and_eq_true_iff.mp h
  cases x with
  | zero => exact absurd h1 Bool.false_ne_true
  | succ b => exact ⟨b, rfl, Nat.le_of_ble_eq_true h2⟩
theorem dep5 {d : List Nat} (h5 : d.length = 5) : shB d = true → ∃ b c e, b < 2 ∧ c < b + 2 ∧ e < c + 2 ∧ d = [0, 1, b + 1, c + 1, e + 1] := by
  obtain ⟨x0, x1, x2, x3, x4, rfl⟩ := list5 h5
  intro h
  replace h : (Nat.beq x0 0 && ((Nat.ble 1 x1 && Nat.ble x1 (x0 + 1)) && ((Nat.ble 1 x2 && Nat.ble x2 (x1 + 1)) && ((Nat.ble 1 x3 && Nat.ble x3 (x2 + 1)) && ((Nat.ble 1 x4 && Nat.ble x4 (x3 + 1)) && true))))) = true := h
  have h0 := Nat.eq_of_beq_eq_true (Bool.and_eq_true_iff.mp h).1
  have h := (Bool.and_eq_true_iff.mp h).2
  obtain ⟨a, e1, l1⟩ := predL (Bool.and_eq_true_iff.mp h).1
  have h := (Bool.and_eq_true_iff.mp h).2
  obtain ⟨b, e2, l2⟩ := predL (Bool.and_eq_true_iff.mp h).1
  have h := (Bool.and_eq_true_iff.mp h).2
  obtain ⟨c, e3, l3⟩ := predL (Bool.and_eq_true_iff.mp h).1
  obtain ⟨e, e4, l4⟩ := predL (Bool.and_eq_true_iff.mp (Bool.and_eq_true_iff.mp h).2).1
  rw [h0] at l1
  have h1 : a = 0 := Nat.lt_one_iff.mp l1
  rw [h1] at e1
  rw [e1] at l2
  rw [e2] at l3
  rw [e3] at l4
  exact ⟨b, c, e, l2, l3, l4, by rw [h0, e1, e2, e3, e4]⟩
theorem brD_of {d : List Nat} (h5 : d.length = 5) (h : shB d = true) : brD d = true := by
  obtain ⟨b, c, e, hb, hc, he, rfl⟩ := dep5 h5 h
  have : brE b = true := by
    cases b with
    | zero => exact brT0
    | succ b => cases b with
      | zero => exact brT1
      | succ b => exact absurd hb (Nat.not_lt.mpr (Nat.le_add_left 2 b))
  exact List.all_eq_true.mp (List.all_eq_true.mp this c (List.mem_range.mpr hc)) e (List.mem_range.mpr he)
end
section
set_option maxHeartbeats 4000000
/-! the page of law 02, for all scripts -/
theorem tail_cps {w : Str} (h : 1 ≤ w.cps.toList.length) : (tailOf w).cps.toList = w.cps.toList.drop 1 := by
  have : tailOf w = ⟨((w.cps.toList.drop (1 : Int).toNat).take ((w.cps.toList.length : Int) - 1).toNat).toArray⟩ := StrLaws.sliceText_from (i := 1) ⟨by decide, by omega⟩
  rw [this]
  show (w.cps.toList.drop 1).take _ = _
  exact List.take_of_length_le (by rw [List.length_drop]; omega)
noncomputable def trF (d3 : Int) (c : Nat) : Int := digit d3 (chIx c).toNat
theorem tri3 : ∀ n : Nat, n < 3 → ((n : Nat) : Int) = 0 ∨ ((n : Nat) : Int) = 1 ∨ ((n : Nat) : Int) = 2 := by decide
theorem trF_tri (d3 : Int) (c : Nat) : trF d3 c = 0 ∨ trF d3 c = 1 ∨ trF d3 c = 2 := by
  obtain ⟨n, hn, e⟩ := fmN (k := 3) (by decide) (Int.fdiv (Int.fdiv d3 5) (3 ^ (chIx c).toNat))
  have e : trF d3 c = (n : Int) := e
  rw [e]; exact tri3 n hn
theorem tri_map {f : Nat → Int} (hf : ∀ c, f c = 0 ∨ f c = 1 ∨ f c = 2) (l : List Nat) : Tri (l.map f) := fun t ht => by
  obtain ⟨c, _, rfl⟩ := List.mem_map.mp ht
  exact hf c
noncomputable def stsOf (d3 : Int) (w : List Nat) : List Int := (w.drop 1).map (trF d3)
theorem chOkAll : letsL.all chOk = true := by decide +kernel
theorem chOk_of {c : Nat} (h : 97 ≤ c ∧ c ≤ 101) : chOk c = true := List.all_eq_true.mp chOkAll c (let_mem h)
structure WayOk (H : List (List Nat)) (i : Nat) : Prop where
  let_ : Let (hAt H i)
  lo : 1 ≤ (hAt H i).length
  hi : (hAt H i).length ≤ 5
  two : 1 ≤ i → 2 ≤ (hAt H i).length
theorem wayB_at {H : List (List Nat)} (h : wayB H = true) {i : Nat} (hi : i < 5) : WayOk H i := by
  unfold wayB at h
  have h := List.all_eq_true.mp (Bool.and_eq_true_iff.mp h).2 i (List.mem_range.mpr hi)
  simp only [Bool.and_eq_true, Bool.or_eq_true, Nat.beq_eq, Nat.ble_eq] at h
  obtain ⟨⟨⟨a, b⟩, c⟩, d⟩ := h
  exact ⟨letB_let a, b, c, fun q => d.elim (fun z => by omega) id⟩
theorem hu_at (H : List (List Nat)) (i : Nat) : (H.map sL).getD i "" = sL (hAt H i) := by
  rw [List.getD_eq_getElem?_getD, List.getElem?_map, hAt, List.getD_eq_getElem?_getD]
  cases H[i]? <;> rfl
theorem steps_eq (d3 : Int) {w : List Nat} (h : 1 ≤ w.length) : stepsOf d3 (sL w) = stsOf d3 w := by
  unfold stepsOf stsOf
  rw [tail_cps (by rw [sL_cps]; exact h), sL_cps]; rfl
theorem sts_lead (d3 : Int) {w : List Nat} (h : w.length ≤ 5) : leadFact (stsOf d3 w) = true :=
  allT_at leadU (tri_map (trF_tri d3) _) (by unfold stsOf; rw [List.length_map, List.length_drop]; omega)
theorem sepOf_cps (r : Nat) : (sepOf r).cps.toList = sep2 r := by
  unfold sepOf sep2
  rcases Nat.mod_two_eq_zero_or_one r with h | h <;> rw [h] <;> rfl
theorem drawn_rowT (d3 : Int) {H : List (List Nat)} {r : Nat} (h : WayOk H r) : RowT (drawnRow d3 (sL (hAt H r)) r) (leadOf (stsOf d3 (hAt H r))).cps.toList (hAt H r) r := by
  have hf := sts_lead d3 h.hi
  simp only [leadFact, Bool.and_eq_true, wspB, List.all_eq_true, Bool.or_eq_true, beq_iff_eq, Nat.ble_eq] at hf
  obtain ⟨⟨⟨f1, f2⟩, f3⟩, f4⟩ := hf
  have h1 := h.lo
  have h2 := h.hi
  refine ⟨?_, f2, h.let_, fun q => by rw [q] at h1; simp at h1, f3, by omega, fun q => ?_⟩
  · unfold drawnRow
    have ed := dotW_cps (sL (hAt H r))
    unfold dotW at ed
    rw [steps_eq d3 h1, cpsA, cpsA, cpsA, ed, sepOf_cps, sL_cps]
    simp only [List.append_assoc]
    rfl
  · have : (hAt H r).drop 1 = [] := List.drop_eq_nil_of_le (by omega)
    unfold stsOf
    rw [this]; rfl
theorem rowOk_of (d3 : Int) {H : List (List Nat)} {r : Nat} (h : WayOk H r) : rowOk d3 (sL (hAt H r)) r = true := by
  have hf := sts_lead d3 h.hi
  simp only [leadFact, Bool.and_eq_true, Nat.ble_eq] at hf
  obtain ⟨⟨⟨f1, f2⟩, f3⟩, f4⟩ := hf
  have h1 := h.lo
  have h2 := h.hi
  have hl : (sL (hAt H r)).length ≤ 5 := by rw [sL_len]; exact h2
  unfold rowOk
  simp only [Bool.and_eq_true, decide_eq_true_eq, List.all_eq_true]
  refine ⟨⟨⟨⟨⟨⟨by omega, fun c hc => ?_⟩, ?_⟩, ?_⟩, ?_⟩, ?_⟩, ?_⟩
  · rw [tail_cps (by rw [sL_cps]; exact h1), sL_cps] at hc
    exact chOk_of (h.let_ c (List.mem_of_mem_drop hc))
  · rw [steps_eq d3 h1]; exact f1
  · refine joinOk_of 1 (fun t ht => ?_) (Nat.le_succ 1) ?_
    · obtain ⟨c, _, rfl⟩ := List.mem_map.mp ht
      exact Nat.le_refl 1
    · rw [signs_length]; omega
  · rw [steps_eq d3 h1, slen]; omega
  · have ed := dotW_cps (sL (hAt H r))
    unfold dotW at ed
    have := jl_len (hAt H r)
    rw [slen, ed, sL_cps]; omega
  · exact Nat.le_trans (drawn_rowT d3 h).len (by omega)
theorem two_last {w : List Nat} (h : 2 ≤ w.length) : ∃ w' b c, w = w' ++ [b] ++ [c] ∧ w.drop (w.length - 2) = [b, c] := by
  obtain ⟨v, c, rfl⟩ := snocR_of (w := w) (by rintro rfl; simp at h)
  obtain ⟨w', b, rfl⟩ := snocR_of (w := v) (by rintro rfl; simp at h)
  refine ⟨w', b, c, rfl, ?_⟩
  have : (w' ++ [b] ++ [c]).length - 2 = w'.length := by simp
  rw [this, List.append_assoc, List.drop_left]; rfl
theorem filter_last {p : Nat → Bool} {j : Nat} (hj : p j = true) : ∀ {n : Nat}, j < n → (∀ i, i < n → j < i → p i = false) → ((List.range n).filter p).drop (((List.range n).filter p).length - 1) = [j]
  | 0, h, _ => absurd h (Nat.not_lt_zero _)
  | n + 1, h, hn => by
    rw [List.range_succ, List.filter_append]
    by_cases q : j = n
    · subst q
      have : [j].filter p = [j] := by rw [List.filter_cons, if_pos hj]; rfl
      rw [this, List.length_append, List.length_singleton, Nat.add_sub_cancel, List.drop_left]
    · have hlt : j < n := by omega
      have : [n].filter p = [] := by rw [List.filter_cons, hn n (Nat.lt_succ_self n) hlt]; rfl
      rw [this, List.append_nil]
      exact filter_last hj hlt fun i hi => hn i (Nat.lt_succ_of_lt hi)
theorem less_pre {f : Nat → Int} (hf : ∀ c, f c = 0 ∨ f c = 1 ∨ f c = 2) {a x : List Nat} (hx : x ≠ []) (hl : (a ++ x).length ≤ 4) : lessT (a.map f) ((a ++ x).map f) = true := by
  have hlen : ((a ++ x).map f).length = (a ++ x).length := List.length_map ..
  have h := allT_at tabI (tri_map hf (a ++ x)) (by rw [hlen]; exact hl)
  have := List.all_eq_true.mp h a.length (List.mem_range.mpr (by
    rw [hlen, List.length_append]
    have : 1 ≤ x.length := by cases x with
      | nil => exact absurd rfl hx
      | cons _ _ => simp
    omega))
  rwa [← List.map_take, List.take_left] at this
theorem less_side {f : Nat → Int} (hf : ∀ c, f c = 0 ∨ f c = 1 ∨ f c = 2) {a : List Nat} {m y : Nat} (hm : m < a.length) (hl : a.length ≤ 4) : lessT (a.map f) ((a.take m ++ [y]).map f) = false := by
  have h := allT_at tabII (tri_map hf a) (by rw [List.length_map]; exact hl)
  have h2 := List.all_eq_true.mp h m (List.mem_range.mpr (by rw [List.length_map]; exact hm))
  have h3 := List.all_eq_true.mp h2 (f y) (by rcases hf y with e | e | e <;> rw [e] <;> simp)
  rw [List.map_append, List.map_take]
  simpa using h3
end
section
set_option maxHeartbeats 4000000
/-! the page: names, leads, dots -/
noncomputable def pg (d3 : Int) (H : List (List Nat)) : List Str := drawnOf d3 (H.map sL)
section
variable {d3 : Int} {H : List (List Nat)}
theorem pg_at {r : Nat} (hr : r < 5) : (pg d3 H).getD r "" = drawnRow d3 (sL (hAt H r)) r := by
  rw [pg, drawnOf, getD_range hr, hu_at]
theorem pgT (h : wayB H = true) {r : Nat} (hr : r < 5) : RowT ((pg d3 H).getD r "") (leadOf (stsOf d3 (hAt H r))).cps.toList (hAt H r) r := by
  rw [pg_at hr]; exact drawn_rowT d3 (wayB_at h hr)
noncomputable def lastC (H : List (List Nat)) (r : Nat) : Nat := (hAt H r).getLastD 0
theorem pg_nm (h : wayB H = true) {r : Nat} (hr : r < 5) : nmAt (pg d3 H) r = s1 (lastC H r) := by
  obtain ⟨w', c, e⟩ := snocR_of (pgT (d3 := d3) h hr).ne
  have := (pgT (d3 := d3) h hr).sedR e
  unfold nmAt lastC
  rw [this, e, List.getLastD_concat]; rfl
theorem pg_less (h : wayB H = true) {one two : Nat} (h1 : one < 5) (h2 : two < 5) : lessAt (pg d3 H) one two = lessT (stsOf d3 (hAt H one)) (stsOf d3 (hAt H two)) := by
  unfold lessAt lessT
  rw [(pgT h h1).ws.1, (pgT h h2).ws.1, back, back]; rfl
theorem pg_dot (h : wayB H = true) {r : Nat} (hr : r < 5) : dotAt (pg d3 H) r = sL (jl (hAt H r)) := (pgT h hr).dot
theorem pg_dotOk (h : wayB H = true) {r : Nat} (hr : r < 5) : dotOk ((pg d3 H).getD r "") r = true := by
  have T := pgT (d3 := d3) h hr
  have hf := sts_lead d3 (wayB_at h hr).hi
  simp only [leadFact, Bool.and_eq_true] at hf
  have h2 := (wayB_at h hr).hi
  have hj := jl_len (hAt H r)
  unfold dotOk
  have e1 := T.dotix.2
  have e2 : wsOk (wsOf ((pg d3 H).getD r "")) = true := by
    rw [T.ws.1, back]; exact hf.2
  rw [e1, e2, T.dot]
  have hl : (⟨(jl (hAt H r)).toArray⟩ : Str).length ≤ 1000 := by
    rw [slen]; show (jl (hAt H r)).length ≤ 1000; omega
  have hc : ((pg d3 H).getD r "").cps.size ≤ 1000 := Nat.le_trans T.len (by omega)
  simp only [Bool.and_eq_true, decide_eq_true_eq, Bool.not_false, and_true]
  exact ⟨hc, hl⟩
structure ParOk (H : List (List Nat)) (r : Nat) : Prop where
  lt5 : parD (depL H) (r + 1) < 5
  lt : parD (depL H) (r + 1) < r + 1
  e : hAt H (parD (depL H) (r + 1)) ++ [lastC H (r + 1)] = hAt H (r + 1)
  side : ∀ one, one < r + 1 → parD (depL H) (r + 1) < one → sideB (hAt H one) (hAt H (r + 1)) = true
theorem parB_at (h : parB H = true) {r : Nat} (hr : r < 4) : ParOk H r := by
  unfold parB at h
  have h := List.all_eq_true.mp h r (List.mem_range.mpr hr)
  simp only [Bool.and_eq_true, List.all_eq_true, Nat.blt_eq, beq_iff_eq, Bool.or_eq_true, Nat.ble_eq] at h
  obtain ⟨⟨a, b⟩, c⟩ := h
  exact ⟨Nat.lt_trans a (Nat.succ_lt_succ hr), a, b, fun one h1 h2 => (c one (List.mem_range.mpr h1)).elim (fun q => absurd h2 (Nat.not_lt.mpr q)) id⟩
theorem above_last (hW : wayB H = true) (hP : parB H = true) {r : Nat} (hr : r < 4) : (aboveL (pg d3 H) (r + 1)).drop ((aboveL (pg d3 H) (r + 1)).length - 1) = [s1 (lastC H (parD (depL H) (r + 1)))] := by
  have K := parB_at hP hr
  have wr := wayB_at hW (i := r + 1) (Nat.succ_lt_succ hr)
  have hp := filter_last (p := fun one => lessAt (pg d3 H) one (r + 1)) (j := parD (depL H) (r + 1)) (n := r + 1) ?_ K.lt fun one h1 h2 => ?_
  · unfold aboveL
    rw [List.length_map, ← List.map_drop, hp, List.map_cons, List.map_nil, pg_nm hW K.lt5]
  · rw [pg_less hW K.lt5 (Nat.succ_lt_succ hr)]
    have w1 := wayB_at hW (i := parD (depL H) (r + 1)) K.lt5
    have e1 : (hAt H (r + 1)).drop 1 = (hAt H (parD (depL H) (r + 1))).drop 1 ++ [lastC H (r + 1)] := by
      rw [← K.e, List.drop_append_of_le_length w1.lo]
    have h2 := wr.hi
    unfold stsOf
    rw [e1]
    refine less_pre (trF_tri d3) (fun q => nomatch q) ?_
    rw [← e1, List.length_drop]; exact Nat.sub_le_sub_right h2 1
  · have h5 : one < 5 := Nat.lt_trans h1 (Nat.succ_lt_succ hr)
    rw [pg_less hW h5 (Nat.succ_lt_succ hr)]
    have w1 := (wayB_at hW (i := one) h5).hi
    obtain ⟨m, hm, e⟩ := List.any_eq_true.mp (K.side one h1 h2)
    have hm := List.mem_range.mp hm
    have e := beq_iff_eq.mp e
    unfold stsOf
    rw [e]
    exact less_side (trF_tri d3) (by rw [List.length_drop]; exact hm) (by rw [List.length_drop]; exact Nat.sub_le_sub_right w1 1)
theorem join1 (c : Nat) : Txt.join "" [s1 c] = s1 c := sx (by rw [joinE]; rfl)
theorem tie_of (hW : wayB H = true) (hP : parB H = true) {r : Nat} (hr : r < 4) : (hAt H (r + 1)).drop ((hAt H (r + 1)).length - 2) = [lastC H (parD (depL H) (r + 1)), lastC H (r + 1)] := by
  have K := parB_at hP hr
  obtain ⟨w', c, e⟩ := snocR_of (pgT (d3 := 0) hW (r := parD (depL H) (r + 1)) K.lt5).ne
  have e2 := K.e
  have el : lastC H (parD (depL H) (r + 1)) = c := by unfold lastC; rw [e, List.getLastD_concat]
  rw [el, ← e2, e]
  have : (w' ++ [c] ++ [lastC H (r + 1)]).length - 2 = w'.length := by simp
  rw [this, List.append_assoc, List.drop_left]; rfl
noncomputable def tieA (H : List (List Nat)) (r : Nat) : List Nat := [lastC H (parD (depL H) (r + 1)), lastC H (r + 1)]
theorem tieE_eq (hW : wayB H = true) (hP : parB H = true) : tieE H = (List.range 4).map (tieA H) := by
  unfold tieE
  exact List.map_congr_left fun r hr => tie_of hW hP (List.mem_range.mp hr)
theorem s1_add (a b : Nat) : s1 a ++ s1 b = sL [a, b] := sL_add [a] [b]
theorem byLead_eq (hW : wayB H = true) (hP : parB H = true) {r : Nat} (hr : r < 4) : byLead (pg d3 H) (r + 1) = sL (tieA H r) := by
  unfold byLead
  rw [above_last hW hP hr, join1, pg_nm hW (Nat.succ_lt_succ hr), s1_add]; rfl
theorem sedB (hW : wayB H = true) (hP : parB H = true) {r : Nat} (hr : r < 4) : sed (Txt.slice (dotAt (pg d3 H) (r + 1)) none (some (-2))) = s1 (lastC H (parD (depL H) (r + 1))) := by
  have wr := wayB_at hW (i := r + 1) (Nat.succ_lt_succ hr)
  obtain ⟨w', b, c, e, ed⟩ := two_last (wr.two (Nat.succ_le_succ (Nat.zero_le r)))
  have et := tie_of hW hP hr
  rw [et] at ed
  have eb : lastC H (parD (depL H) (r + 1)) = b := (List.cons.inj ed).1
  have hl := wr.let_
  rw [e] at hl
  rw [pg_dot hW (Nat.succ_lt_succ hr), eb]
  exact sedP (w' := w') (b := b) (c := c) (by rw [sL_cps, e]) hl
theorem byDot_eq (hW : wayB H = true) (hP : parB H = true) {r : Nat} (hr : r < 4) : byDot (pg d3 H) (r + 1) = sL (tieA H r) := by
  unfold byDot
  rw [sedB hW hP hr, pg_nm hW (Nat.succ_lt_succ hr), s1_add]; rfl
theorem leads_eq (hW : wayB H = true) (hP : parB H = true) : byLeads (pg d3 H) 4 = (tieE H).map sL ∧ byDots (pg d3 H) 4 = (tieE H).map sL := by
  rw [tieE_eq hW hP, List.map_map]
  exact ⟨List.map_congr_left fun r hr => byLead_eq hW hP (List.mem_range.mp hr), List.map_congr_left fun r hr => byDot_eq hW hP (List.mem_range.mp hr)⟩
end
end
section
set_option maxHeartbeats 4000000
/-! the brackets of a page -/
theorem hidsEq : hiddens = hidsL.map sL := by decide +kernel
noncomputable def mulT1 (a b : Nat) : Bool := mulOk ")" ((a : Int) - (b : Int) + 1) && decide (Txt.mul ")" ((a : Int) - (b : Int) + 1) = sL (List.replicate (a - 1 + 1 - (b - 1)) 41))
theorem mulT : ∀ a : Nat, a < 6 → ∀ b : Nat, b < 6 → (Nat.beq a 0 || Nat.beq b 0 || mulT1 a b) = true := by decide +kernel
noncomputable def hidB (hl : List Nat) : Bool := mulOk (sL hl) 0 && mulOk (sL hl) 1 && decide (Txt.mul (sL hl) 0 = sL []) && decide (Txt.mul (sL hl) 1 = sL hl) && Nat.ble hl.length 6 && (hl.map ph == hl)
theorem hidT : hidsL.all hidB = true := by decide +kernel
theorem spotT : ∀ hb : Bool, ∀ s : Nat, s < 4 → ∀ r : Nat, r < 4 → (([((s : Nat) : Int)] ++ List.replicate (if !hb then 1 else 0) (0 : Int)).any (· == ((r : Nat) : Int))) = (Nat.beq r s || (!hb && Nat.beq r 0)) := by decide +kernel
theorem hl_q (hl : List Nat) : ((sL hl) != "\"") = !(hl == [34]) := by
  have : ((sL hl) == "\"") = (hl == [34]) := sL_beq hl [34]
  rw [bne, this]
section
variable {d3 d1 : Int} {H : List (List Nat)} {hl : List Nat} {s : Nat}
theorem dep_at {r : Nat} (hr : r < 5) : (depL H).getD r 0 = (hAt H r).length - 1 := by rw [depL, getD_range hr]
theorem dep_len : (depL H).length = 5 := by simp [depL]
theorem len_pos {l : Nat} (h : 1 ≤ l) : Nat.beq l 0 = false := by
  cases l with
  | zero => cases h
  | succ n => rfl
theorem repl_le6 {a b : Nat} (h : a ≤ 5) : a - 1 + 1 - b ≤ 6 := Nat.le_trans (Nat.sub_le _ _) (Nat.succ_le_succ (Nat.le_trans (Nat.sub_le _ _) h))
theorem repl_le {a b : Nat} (h : a ≤ 5) : a - 1 + 1 - b ≤ 100 := Nat.le_trans (repl_le6 h) (by decide)
theorem part_eq (hW : wayB H = true) (hh : hl ∈ hidsL) (hs : s < 4) (hd : Int.fmod (Int.fdiv d1 5) 4 = (s : Int)) {r : Nat} (hr : r < 4) :
    partOf (pg d3 H) (H.map sL) (sL hl) (spotsOf d1 (sL hl)) r = sL (partC (depL H) hl s r (lastC H r)) ∧ partOk (pg d3 H) (H.map sL) (sL hl) (spotsOf d1 (sL hl)) r = true := by
  have w1 := wayB_at hW (i := r) (Nat.lt_succ_of_lt hr)
  have w2 := wayB_at hW (i := r + 1) (Nat.succ_lt_succ hr)
  have hb := List.all_eq_true.mp hidT hl hh
  simp only [hidB, Bool.and_eq_true, decide_eq_true_eq, Nat.ble_eq, beq_iff_eq] at hb
  obtain ⟨⟨⟨⟨⟨m0, m1⟩, e0⟩, e1⟩, ln⟩, _⟩ := hb
  have eS : (spotsOf d1 (sL hl)).any (· == (r : Int)) = (Nat.beq r s || (!(hl == [34]) && Nat.beq r 0)) := by
    unfold spotsOf
    rw [hd, hl_q]
    exact spotT (hl == [34]) s hs r hr
  have hM := mulT (hAt H r).length (Nat.lt_succ_of_le w1.hi) (hAt H (r + 1)).length (Nat.lt_succ_of_le w2.hi)
  rw [len_pos w1.lo, len_pos w2.lo, Bool.false_or, Bool.false_or] at hM
  unfold mulT1 at hM
  rw [Bool.and_eq_true, decide_eq_true_eq] at hM
  obtain ⟨k1, k2⟩ := hM
  have eH : mulOk (sL hl) (if (Nat.beq r s || (!(hl == [34]) && Nat.beq r 0)) then 1 else 0) = true ∧ Txt.mul (sL hl) (if (Nat.beq r s || (!(hl == [34]) && Nat.beq r 0)) then 1 else 0) = sL (if (Nat.beq r s || (!(hl == [34]) && Nat.beq r 0)) then hl else []) ∧ (if (Nat.beq r s || (!(hl == [34]) && Nat.beq r 0)) then hl else []).length ≤ 6 := by
    cases (Nat.beq r s || (!(hl == [34]) && Nat.beq r 0)) with
    | true => exact ⟨m1, e1, ln⟩
    | false => exact ⟨m0, e0, Nat.zero_le 6⟩
  have l1 := w1.hi
  have l2 := w2.hi
  constructor
  · unfold partOf partC
    rw [pg_nm hW (Nat.lt_succ_of_lt hr), eS, eH.2.1, hu_at, hu_at, sL_len, sL_len, k2, dep_at (Nat.lt_succ_of_lt hr), dep_at (Nat.succ_lt_succ hr)]
    exact sx (by rw [cpsA, cpsA]; simp only [sL_cps]; rfl)
  · unfold partOk
    rw [pg_nm hW (Nat.lt_succ_of_lt hr), eS, eH.1, eH.2.1, hu_at, hu_at, sL_len, sL_len, sL_len, k1, k2, sL_len, List.length_replicate]
    rw [decide_eq_true (show (s1 (lastC H r)).length ≤ 100 from Nat.le_trans (Nat.le_refl 1) (by decide)), decide_eq_true (Nat.le_trans eH.2.2 (by decide)), decide_eq_true (repl_le l1), decide_eq_true (Nat.le_trans l1 (by decide)), decide_eq_true (Nat.le_trans l2 (by decide))]
    rfl
noncomputable def partL (H : List (List Nat)) (hl : List Nat) (s : Nat) : List (List Nat) := (List.range 4).map fun r => partC (depL H) hl s r (lastC H r)
theorem parts_eq (hW : wayB H = true) (hh : hl ∈ hidsL) (hs : s < 4) (hd : Int.fmod (Int.fdiv d1 5) 4 = (s : Int)) : partsOf (pg d3 H) (H.map sL) (sL hl) (spotsOf d1 (sL hl)) = (partL H hl s).map sL := by
  unfold partsOf partL
  rw [List.map_map]
  exact List.map_congr_left fun r hr => (part_eq hW hh hs hd (List.mem_range.mp hr)).1
theorem last_let (hW : wayB H = true) {r : Nat} (hr : r < 5) : 97 ≤ lastC H r ∧ lastC H r ≤ 101 := by
  have w := wayB_at hW hr
  obtain ⟨w', c, e⟩ := snocR_of (w := hAt H r) (by intro q; have := w.lo; rw [q] at this; cases this)
  have : lastC H r = c := by unfold lastC; rw [e, List.getLastD_concat]
  rw [this]
  exact w.let_ c (by rw [e]; simp)
theorem part_ph (hW : wayB H = true) (hh : hl ∈ hidsL) {r : Nat} (hr : r < 4) : (partC (depL H) hl s r (lastC H r)).map ph = partC (depL H) hl s r 97 := by
  have hb := List.all_eq_true.mp hidT hl hh
  have e := beq_iff_eq.mp (Bool.and_eq_true_iff.mp hb).2
  unfold partC
  rw [List.map_cons, ph_let (last_let hW (Nat.lt_succ_of_lt hr)), List.map_append, List.map_replicate]
  cases (Nat.beq r s || (!(hl == [34]) && Nat.beq r 0)) with
  | true => rw [if_pos rfl, e]; rfl
  | false => rfl
theorem br_ph (hW : wayB H = true) (hh : hl ∈ hidsL) (one row : Nat) : (brN (partL H hl s) one row).map ph = brN ((List.range 4).map fun r => partC (depL H) hl s r 97) one row := by
  unfold brN
  rw [← joinN_map ph (by decide), List.map_take, List.map_drop]
  have : (partL H hl s).map (·.map ph) = (List.range 4).map fun r => partC (depL H) hl s r 97 := by
    unfold partL
    rw [List.map_map]
    exact List.map_congr_left fun r hr => part_ph hW hh (List.mem_range.mp hr)
  rw [this]
theorem br_at (hW : wayB H = true) (hS : shB (depL H) = true) (hh : hl ∈ hidsL) (hs : s < 4) {r one : Nat} (hr : r < 4) (h1 : one < r + 1) : okN (brN (partL H hl s) one (r + 1)) = true ∧ parN (brN (partL H hl s) one (r + 1)) = Nat.beq one (parD (depL H) (r + 1)) := by
  have h := List.all_eq_true.mp (List.all_eq_true.mp (brD_of dep_len hS) hl hh) s (List.mem_range.mpr hs)
  have h := List.all_eq_true.mp (List.all_eq_true.mp h r (List.mem_range.mpr hr)) one (List.mem_range.mpr h1)
  rw [Bool.and_eq_true, beq_iff_eq, ← br_ph hW hh, okN_ph, parN_ph] at h
  exact h
theorem pts_join (one row : Nat) : brAt ((partL H hl s).map sL) one row = sL (brN (partL H hl s) one row) := by
  unfold brAt brN
  rw [← List.map_drop, ← List.map_take, join_par]
theorem filter_one {j : Nat} : ∀ {n : Nat}, j < n → (List.range n).filter (fun i => Nat.beq i j) = [j]
  | 0, h => absurd h (Nat.not_lt_zero _)
  | n + 1, h => by
    rw [List.range_succ, List.filter_append]
    by_cases q : j = n
    · subst q
      have e1 : (List.range j).filter (fun i => Nat.beq i j) = [] := List.filter_eq_nil_iff.mpr fun i hi => by
        rw [Nat.beq_eq]; exact Nat.ne_of_lt (List.mem_range.mp hi)
      have e2 : [j].filter (fun i => Nat.beq i j) = [j] := by rw [List.filter_cons, if_pos (Nat.beq_refl j)]; rfl
      rw [e1, e2]; rfl
    · have e2 : [n].filter (fun i => Nat.beq i j) = [] := List.filter_eq_nil_iff.mpr fun i hi => by
        rw [List.mem_singleton.mp hi, Nat.beq_eq]; exact fun z => q z.symm
      rw [e2, List.append_nil]
      exact filter_one (Nat.lt_of_le_of_ne (Nat.le_of_lt_succ h) q)
theorem takenE (hW : wayB H = true) (hP : parB H = true) (hS : shB (depL H) = true) (hh : hl ∈ hidsL) (hs : s < 4) {r : Nat} (hr : r < 4) : takenOf ((partL H hl s).map sL) (r + 1) = [parD (depL H) (r + 1)] := by
  unfold takenOf
  rw [← filter_one (parB_at hP hr).lt]
  refine List.filter_congr fun one h1 => ?_
  have h := br_at hW hS hh hs hr (List.mem_range.mp h1)
  rw [pts_join, parN_eq h.1, h.2]
theorem byBr_eq (hW : wayB H = true) (hP : parB H = true) (hS : shB (depL H) = true) (hh : hl ∈ hidsL) (hs : s < 4) {r : Nat} (hr : r < 4) : byBr (pg d3 H) ((partL H hl s).map sL) (r + 1) = [sL (tieA H r)] := by
  unfold byBr
  rw [takenE hW hP hS hh hs hr, List.map_cons, List.map_nil, pg_nm hW (parB_at hP hr).lt5, pg_nm hW (Nat.succ_lt_succ hr), s1_add]; rfl
theorem brs_eq (hW : wayB H = true) (hP : parB H = true) (hS : shB (depL H) = true) (hh : hl ∈ hidsL) (hs : s < 4) : byBrs (pg d3 H) ((partL H hl s).map sL) 4 = (tieE H).map sL := by
  rw [tieE_eq hW hP]
  show byBr _ _ (0 + 1) ++ (byBr _ _ (1 + 1) ++ (byBr _ _ (2 + 1) ++ (byBr _ _ (3 + 1) ++ []))) = _
  rw [byBr_eq hW hP hS hh hs (by decide), byBr_eq hW hP hS hh hs (by decide), byBr_eq hW hP hS hh hs (by decide), byBr_eq hW hP hS hh hs (by decide)]
  rfl
theorem partL_len (hW : wayB H = true) (hh : hl ∈ hidsL) {t : Str} (ht : t ∈ (partL H hl s).map sL) : t.length ≤ 20 := by
  obtain ⟨p, hp, rfl⟩ := List.mem_map.mp ht
  obtain ⟨r, hr, rfl⟩ := List.mem_map.mp hp
  have hr := List.mem_range.mp hr
  have hb := List.all_eq_true.mp hidT hl hh
  have ln := Nat.le_of_ble_eq_true (Bool.and_eq_true_iff.mp (Bool.and_eq_true_iff.mp hb).1).2
  have w := (wayB_at hW (i := r) (Nat.lt_succ_of_lt hr)).hi
  rw [sL_len]
  unfold partC
  rw [List.length_cons, List.length_append, List.length_replicate, dep_at (Nat.lt_succ_of_lt hr)]
  have : (if (Nat.beq r s || (!(hl == [34]) && Nat.beq r 0)) = true then hl else []).length ≤ 6 := by
    split
    · exact ln
    · exact Nat.zero_le 6
  exact Nat.le_trans (Nat.succ_le_succ (Nat.add_le_add this (repl_le6 w))) (by decide)
theorem lowOk_of (hW : wayB H = true) (hP : parB H = true) (hS : shB (depL H) = true) (hh : hl ∈ hidsL) (hs : s < 4) {r : Nat} (hr : r < 4) : lowOk (pg d3 H) ((partL H hl s).map sL) (r + 1) = true := by
  have wr := wayB_at hW (i := r + 1) (Nat.succ_lt_succ hr)
  have hi := wr.hi
  obtain ⟨w', b, c, e, ed⟩ := two_last (wr.two (Nat.succ_le_succ (Nat.zero_le r)))
  have hsl : (Txt.slice (dotAt (pg d3 H) (r + 1)) none (some (-2))).length ≤ 1000 := by
    have hj : (dotAt (pg d3 H) (r + 1)).cps.toList = jl (w' ++ [b]) ++ [46, c] := by
      rw [pg_dot hW (Nat.succ_lt_succ hr), sL_cps, e, jl_snoc c _ (by simp)]
    rw [slen, slice_neg2 hj]
    rw [e, List.length_append] at hi
    exact Nat.le_trans (Nat.le_trans (jl_len (w' ++ [b])) (Nat.mul_le_mul_left 2 (Nat.le_trans (Nat.le_add_right _ _) hi))) (by decide)
  unfold lowOk
  rw [above_last hW hP hr, join1, sedB hW hP hr]
  simp only [Bool.and_eq_true, decide_eq_true_eq, List.all_eq_true]
  refine ⟨⟨⟨⟨joinOk_of 1 (fun t ht => ?_) (Nat.zero_le 2) (by show 1 * 3 ≤ 16777216; decide), Nat.le_trans (Nat.le_refl 1) (by decide)⟩, hsl⟩, Nat.le_trans (Nat.le_refl 1) (by decide)⟩, fun one h1 => ⟨joinOk_of 20 (fun t ht => partL_len hW hh (List.mem_of_mem_drop (List.mem_of_mem_take ht))) (Nat.le_succ 1) ?_, ?_⟩⟩
  · rw [List.mem_singleton.mp ht]; exact Nat.le_refl 1
  · have h4 : ((partL H hl s).map sL).length = 4 := by rw [List.length_map]; exact List.length_map ..
    have : ((((partL H hl s).map sL).drop one).take (r + 1 - one)).length ≤ 4 := Nat.le_trans (List.length_take_le' ..) (Nat.le_trans (by rw [List.length_drop]; exact Nat.sub_le _ _) (Nat.le_of_eq h4))
    exact Nat.le_trans (Nat.mul_le_mul_right _ this) (by decide)
  · have h := br_at hW hS hh hs hr (List.mem_range.mp h1)
    rw [pts_join]; exact ckOk_of h.1
end
end
section
set_option maxHeartbeats 4000000
theorem tree50 : tree5 0 = true := by decide +kernel
theorem tree51 : tree5 1 = true := by decide +kernel
theorem tree52 : tree5 2 = true := by decide +kernel
theorem tree53 : tree5 3 = true := by decide +kernel
theorem tree54 : tree5 4 = true := by decide +kernel
theorem treeAll {i j k t : Nat} (hi : i < 5) (hj : j < 5) (hk : k < 5) (ht : t < 5) : treeB (wL i j k) t = true :=
  List.all_eq_true.mp (List.all_eq_true.mp (List.all_eq_true.mp (az_of5 (p := fun i => tree5 i = true) tree50 tree51 tree52 tree53 tree54 hi) j (List.mem_range.mpr hj)) k (List.mem_range.mpr hk)) t (List.mem_range.mpr ht)
end
section
set_option maxHeartbeats 4000000
/-! the law's conditions, for all scripts -/
theorem letB_mem {ll : List (List Nat)} (h : ∀ w ∈ ll, letB w = true) : strsOk (ll.map sL) = true := by
  unfold strsOk
  rw [List.all_eq_true]
  intro t ht
  obtain ⟨w, hw, rfl⟩ := List.mem_map.mp ht
  exact letB_ok (h w hw)
theorem let_letB {w : List Nat} (h : Let w) : letB w = true := by
  unfold letB
  rw [List.all_eq_true]
  intro c hc
  rw [Nat.ble_eq_true_of_le (h c hc).1, Nat.ble_eq_true_of_le (h c hc).2]; rfl
theorem strs_s1 {w : List Nat} (h : letB w = true) : strsOk (w.map s1) = true := by
  have : w.map s1 = (w.map fun c => [c]).map sL := by rw [List.map_map]; rfl
  rw [this]
  refine letB_mem fun v hv => ?_
  obtain ⟨c, hc, rfl⟩ := List.mem_map.mp hv
  exact let_letB fun d hd => by rw [List.mem_singleton.mp hd]; exact letB_let h c hc
theorem again_ok {w : List Nat} (h : letB w = true) : strsOk (againOf (sL w)) = true := by
  have e : againOf (sL w) = (w ++ w).map s1 ++ ([""] : List Str) := by
    unfold againOf
    rw [sL_add, signs_eq, sL_cps]; rfl
  rw [e]
  unfold strsOk
  rw [List.all_append]
  have h2 : letB (w ++ w) = true := by unfold letB at h ⊢; rw [List.all_append, h]; rfl
  have := strs_s1 h2
  unfold strsOk at this
  rw [this]
  have e2 : PyData.strOk "" = true := letB_ok (w := []) rfl
  rw [List.all_cons, e2]; rfl
theorem spot4 (d1 : Int) : ∃ s : Nat, s < 4 ∧ Int.fmod (Int.fdiv d1 5) 4 = (s : Int) := fmN (k := 4) (by decide) _
theorem hid_of (d0 : Int) : ∃ hl, hl ∈ hidsL ∧ hidOf d0 = sL hl := by
  obtain ⟨n, hn, e⟩ := fmN (k := 6) (by decide) (Int.fdiv d0 5)
  have e : Int.fmod (Int.fdiv d0 5) 6 = (n : Int) := e
  have hn' : n < hidsL.length := hn
  refine ⟨hidsL[n], List.getElem_mem hn', ?_⟩
  unfold hidOf
  rw [e, Int.toNat_natCast, hidsEq, List.getD_eq_getElem?_getD, List.getElem?_map, List.getElem?_eq_getElem hn']; rfl
theorem tie_let {H : List (List Nat)} (hW : wayB H = true) (hP : parB H = true) : ∀ w ∈ tieE H, letB w = true := fun w hw => by
  rw [tieE_eq hW hP] at hw
  obtain ⟨r, hr, rfl⟩ := List.mem_map.mp hw
  have hr := List.mem_range.mp hr
  have hlt := (parB_at hP hr).lt
  refine let_letB fun c hc => ?_
  have hc : c = lastC H (parD (depL H) (r + 1)) ∨ c = lastC H (r + 1) := by simpa [tieA] using hc
  rcases hc with rfl | rfl
  · exact last_let hW (by omega)
  · exact last_let hW (by omega)
theorem law_core {dr : List Int} {w : List Nat} {t : Nat} (h : dr.length = 4) (hj : JoinOk "" (wordL dr) = true) (eW : wordOf dr = sL w) (eT : topOf dr = sL [97 + t]) (th : thOk (sL w) = true) (ho : thOrder (sL w) = (ordL w).map s1)
    (hf : freeOf (sL w) ++ lastOf (sL w) = (ordL w).map s1) (ht : thTies (sL w) = (tiesL w).map sL) (lw : letB w = true) (lo : letB (ordL w) = true) (hT : treeB w t = true) : LawOk dr := by
  unfold treeB at hT
  obtain ⟨hT, hB⟩ := Bool.and_eq_true_iff.mp hT
  obtain ⟨hT, hS⟩ := Bool.and_eq_true_iff.mp hT
  obtain ⟨hT, hP⟩ := Bool.and_eq_true_iff.mp hT
  obtain ⟨hQ, hW⟩ := Bool.and_eq_true_iff.mp hT
  have eH : huOf dr = (qOf (tiesL w) [97 + t]).map sL := by
    unfold huOf
    rw [eW, eT, ht, hgOf_eq]
  have hG : hgOk (thTies (wordOf dr)) (topOf dr) = true := by rw [eW, eT, ht]; exact hgOk_of hQ
  clear hQ
  revert eH hW hP hS hB
  generalize qOf (tiesL w) [97 + t] = H
  intro hB hS hP hW eH
  obtain ⟨s, hs, hd⟩ := spot4 (dr.getD 1 0)
  obtain ⟨hl, hh, eh⟩ := hid_of (dr.getD 0 0)
  have eD : drawnOf (dr.getD 3 0) (huOf dr) = pg (dr.getD 3 0) H := by rw [eH]; rfl
  have eP : partsOf (pg (dr.getD 3 0) H) (huOf dr) (hidOf (dr.getD 0 0)) (spotsOf (dr.getD 1 0) (hidOf (dr.getD 0 0))) = (partL H hl s).map sL := by
    rw [eH, eh]; exact parts_eq hW hh hs hd
  have L := leads_eq (d3 := dr.getD 3 0) hW hP
  have K := back_of hB
  have lx := lexOk_of (kinds := kindsOf (dr.getD 2 0)) fun r hr => (pgT (d3 := dr.getD 3 0) hW hr).g
  refine ⟨h, hj, ?_, ?_, hG, fun r hr => ?_, ?_, ?_, ?_, ?_, ?_, fun r hr => ?_, fun r hr => ?_, fun r hr => ?_, fun r hr => ?_, ?_, ?_, ?_, ?_, ?_, ?_⟩
  · rw [eW]; exact th
  · rw [eW, ho, hf]
  · rw [eH, hu_at]; exact rowOk_of _ (wayB_at hW hr)
  · rw [eD]; exact textOk_of fun r hr => Nat.le_trans (pgT hW hr).len (by decide)
  · rw [eD]; exact ⟨lx.toks, lx.end_, lx.ln6⟩
  · rw [eD]
    unfold strsOk
    rw [List.all_eq_true]
    intro x hx
    obtain ⟨i, hi, rfl⟩ := List.mem_iff_getElem.mp hx
    have hl5 : (pg (dr.getD 3 0) H).length = 5 := by simp [pg, drawnOf]
    have := (pgT (d3 := dr.getD 3 0) hW (r := i) (by rw [← hl5]; exact hi)).ok
    rw [List.getD_eq_getElem?_getD, List.getElem?_eq_getElem hi] at this
    exact this
  · rw [eW, ho]; exact strs_s1 lo
  · rw [eW]; exact again_ok lw
  · rw [eD]; exact pg_dotOk hW hr
  · rw [eD, pg_nm hW hr]; exact Nat.le_trans (Nat.le_refl 1) (by decide)
  · rw [eD, eH, eh]; exact (part_eq hW hh hs hd hr).2
  · rw [eD, eP]; exact lowOk_of hW hP hS hh hs hr
  · rw [eD, eP, brs_eq hW hP hS hh hs, L.1]
  · rw [eD, L.1, L.2]
  · rw [eD, L.1]; exact letB_mem (tie_let hW hP)
  · rw [eD, L.1]; exact K.1
  · rw [eD, L.1, eW]; exact K.2.1
  · rw [eD, L.1, eW, ho]; exact K.2.2
theorem lawOk_all {dr : List Int} (h : dr.length = 4) : LawOk dr ∧ PyData.strOk (wordOf dr) = true := by
  obtain ⟨hj, i, j, k, t, hi, hj5, hk, ht, eW, eT, hB⟩ := word_of h
  have hT := treeAll hi hj5 hk ht
  unfold wordB at hB
  obtain ⟨hB, b6⟩ := Bool.and_eq_true_iff.mp hB
  obtain ⟨hB, b5⟩ := Bool.and_eq_true_iff.mp hB
  obtain ⟨hB, b4⟩ := Bool.and_eq_true_iff.mp hB
  obtain ⟨hB, b3⟩ := Bool.and_eq_true_iff.mp hB
  obtain ⟨hB, b2⟩ := Bool.and_eq_true_iff.mp hB
  exact ⟨law_core h hj eW eT (Bool.and_eq_true_iff.mp hB).2 (of_decide_eq_true b2) (of_decide_eq_true b3) (of_decide_eq_true b4) b5 b6 hT, by rw [eW]; exact letB_ok b5⟩
theorem drs_len (ns : List Int) : (drs ns).length = 4 := by
  unfold drs
  rw [List.length_append, List.length_map, List.length_drop]
  exact Nat.add_sub_of_le (show (ns.take 4).length ≤ 4 from List.length_take_le 4 ns)
end
section
set_option maxHeartbeats 4000000
theorem end02 : PySem.Challenge.rw_ul0022_02.Holds :=
  hd02 (enter_law (l := PySem.Challenge.rw_ul0022_02) (f := 198) (Tb := 166) (c := 170) (k := 14) rfl (by decide) (fun _ => rfl) (fun _ => rfl) (fun _ => rfl)
    fun W Pm hK _ _ ns hn => kl198 (W := W) (k := 0) hK hn (lawOk_all (drs_len ns)).1 (lawOk_all (drs_len ns)).2)
end
end Mine
theorem PySem.Challenge.cw_ul0022_02_holds : PySem.Challenge.rw_ul0022_02.Holds :=
  Mine.end02
