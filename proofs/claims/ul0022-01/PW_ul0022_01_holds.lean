import PyProof.Rows.All
import Wide.All
import OpenK.AllK
import Wide.FinOn
import PySem.Challenge.RW_ul0022_01
open PySem PySem.W PySem.Calls PyProof.Rows PySem.Spec
set_option Elab.async false
set_option maxRecDepth 100000
set_option linter.unusedVariables false
namespace Mine
section
/-! ## small sums -/
theorem ar_step {i n : Nat} (h : i < n) : n + 1 - (i + 1) < n + 1 - i := Nat.sub_lt_sub_left (Nat.lt_succ_of_lt h) (Nat.lt_succ_self i)
theorem ar_units {u n c L : Nat} (hc : c ≤ 8) (h : u + 8 * (n + 1) + 64 < L) : u + c + 8 * n + 64 < L := Nat.lt_of_le_of_lt (Nat.add_le_add_right (by rw [Nat.add_assoc]; exact Nat.add_le_add_left (Nat.add_comm c _ ▸ Nat.add_le_add_left hc _) u) 64) h
theorem ar_depth {d n L : Nat} (h : d + (n + 1) < L) : d + 1 + n < L := by rw [Nat.add_right_comm]; exact h
theorem ar_sub1 {i n : Nat} (h : i < n) : n - i = n - (i + 1) + 1 := (Nat.sub_one_add_one (Nat.sub_ne_zero_of_lt h)).symm
theorem ar_sub2 {n k : Nat} : n - 1 - k = n - (k + 1) := (Nat.sub_sub n 1 k).trans (congrArg (n - ·) (Nat.add_comm 1 k))
theorem ar_le3 {a b c d : Nat} (h : a ≤ b) (h' : b < c) (h'' : c ≤ d) : a ≤ d := Nat.le_trans h (Nat.le_trans (Nat.le_of_lt h') h'')

/-! ## views of the heap -/
noncomputable abbrev Vw := Addr → Option Obj
noncomputable def Le (P Q : Vw) : Prop := ∀ b o, P b = some o → Q b = some o
noncomputable def In (P : Vw) (h : Heap) : Prop := ∀ b o, P b = some o → h.get? b = some o
theorem Le.refl (P : Vw) : Le P P := fun _ _ e => e
theorem Le.trans {P Q R : Vw} (x : Le P Q) (y : Le Q R) : Le P R := fun b o e => y b o (x b o e)
theorem In.le {P Q : Vw} {h : Heap} (x : In Q h) (y : Le P Q) : In P h := fun b o e => x b o (y b o e)

/-! ## data by value -/
inductive D
  | none
  | bool (b : Bool)
  | int (i : Int)
  | str (x : Str)
  | list (ds : List D)
  | tup (ds : List D)
  | obj (C : Addr) (fs : List (Str × D))
  | raw (a : Addr)
  | inst (x C dx : Addr)
  | pack (a : Addr) (l : List (Addr × Obj))

mutual
inductive Is (P : Vw) : Value → D → Prop
  | none : Is P .none .none
  | bool (b : Bool) : Is P (.bool b) (.bool b)
  | int (i : Int) (t : Tok) : Is P (.int i t) (.int i)
  | str (x : Str) (t : Tok) : Is P (.str x t) (.str x)
  | list {a : Addr} {vs : List Value} {n : Nat} {ds : List D} : P a = some (listOf vs.toArray n) → IsAll P vs ds → Is P (.ref a) (.list ds)
  | tup {a : Addr} {vs : List Value} {n : Nat} {ds : List D} : P a = some { cls := .type "tuple", data := .seq vs.toArray n } → IsAll P vs ds → Is P (.ref a) (.tup ds)
  | raw (a : Addr) : Is P (.ref a) (.raw a)
  | inst {x C dx : Addr} : P x = some (instObj C dx) → Is P (.ref x) (.inst x C dx)
  | pack {a : Addr} {l : List (Addr × Obj)} : (∀ p ∈ l, P p.1 = some p.2) → Is P (.ref a) (.pack a l)
  | obj {a dx C : Addr} {es : List DictEntry} {n : Nat} {fs : List (Str × D)} : P a = some (instObj C dx) → P dx = some (dictOf es n) → IsFs P es fs → Is P (.ref a) (.obj C fs)
inductive IsAll (P : Vw) : List Value → List D → Prop
  | nil : IsAll P [] []
  | cons {v : Value} {vs : List Value} {d : D} {ds : List D} : Is P v d → IsAll P vs ds → IsAll P (v :: vs) (d :: ds)
inductive IsFs (P : Vw) : List DictEntry → List (Str × D) → Prop
  | nil : IsFs P [] []
  | cons {hs : Int} {x : Str} {t : Tok} {v : Value} {es : List DictEntry} {d : D} {fs : List (Str × D)} : Is P v d → IsFs P es fs → IsFs P (⟨hs, .str x t, v⟩ :: es) ((x, d) :: fs)
end

theorem Is.mono {P P' : Vw} (k : Le P P') {v : Value} {d : D} (h : Is P v d) : Is P' v d :=
  Is.rec (motive_1 := fun v d _ => Is P' v d) (motive_2 := fun vs ds _ => IsAll P' vs ds) (motive_3 := fun es fs _ => IsFs P' es fs) .none .bool .int .str (fun h _ ih => .list (k _ _ h) ih) (fun h _ ih => .tup (k _ _ h) ih) .raw (fun h => .inst (k _ _ h)) (fun h => .pack fun p hp => k _ _ (h p hp)) (fun h g _ ih => .obj (k _ _ h) (k _ _ g) ih) .nil (fun _ _ ih1 ih2 => .cons ih1 ih2) .nil (fun _ _ ih1 ih2 => .cons ih1 ih2) h
theorem IsAll.mono {P P' : Vw} (k : Le P P') {vs : List Value} {ds : List D} (h : IsAll P vs ds) : IsAll P' vs ds :=
  IsAll.rec (motive_1 := fun v d _ => Is P' v d) (motive_2 := fun vs ds _ => IsAll P' vs ds) (motive_3 := fun es fs _ => IsFs P' es fs) .none .bool .int .str (fun h _ ih => .list (k _ _ h) ih) (fun h _ ih => .tup (k _ _ h) ih) .raw (fun h => .inst (k _ _ h)) (fun h => .pack fun p hp => k _ _ (h p hp)) (fun h g _ ih => .obj (k _ _ h) (k _ _ g) ih) .nil (fun _ _ ih1 ih2 => .cons ih1 ih2) .nil (fun _ _ ih1 ih2 => .cons ih1 ih2) h
theorem IsFs.mono {P P' : Vw} (k : Le P P') {es : List DictEntry} {fs : List (Str × D)} (h : IsFs P es fs) : IsFs P' es fs :=
  IsFs.rec (motive_1 := fun v d _ => Is P' v d) (motive_2 := fun vs ds _ => IsAll P' vs ds) (motive_3 := fun es fs _ => IsFs P' es fs) .none .bool .int .str (fun h _ ih => .list (k _ _ h) ih) (fun h _ ih => .tup (k _ _ h) ih) .raw (fun h => .inst (k _ _ h)) (fun h => .pack fun p hp => k _ _ (h p hp)) (fun h g _ ih => .obj (k _ _ h) (k _ _ g) ih) .nil (fun _ _ ih1 ih2 => .cons ih1 ih2) .nil (fun _ _ ih1 ih2 => .cons ih1 ih2) h
/-! what a value is, read off its data -/
noncomputable def Is.Inv (P : Vw) (v : Value) (d : D) : Prop := D.casesOn (motive_1 := fun _ => Prop) d (v = .none) (fun b => v = .bool b) (fun i => ∃ t, v = .int i t) (fun x => ∃ t, v = .str x t)
  (fun ds => ∃ a vs n, v = .ref a ∧ P a = some (listOf vs.toArray n) ∧ IsAll P vs ds) (fun ds => ∃ a vs n, v = .ref a ∧ P a = some { cls := .type "tuple", data := .seq vs.toArray n } ∧ IsAll P vs ds)
  (fun C fs => ∃ a dx es n, v = .ref a ∧ P a = some (instObj C dx) ∧ P dx = some (dictOf es n) ∧ IsFs P es fs) (fun a => v = .ref a) (fun x C dx => v = .ref x ∧ P x = some (instObj C dx)) (fun a l => v = .ref a ∧ ∀ p ∈ l, P p.1 = some p.2)
theorem Is.inv {P : Vw} {v : Value} {d : D} (h : Is P v d) : Is.Inv P v d :=
  Is.casesOn (motive_1 := fun v d _ => Is.Inv P v d) h rfl (fun _ => rfl) (fun _ t => ⟨t, rfl⟩) (fun _ t => ⟨t, rfl⟩) (fun q r => ⟨_, _, _, rfl, q, r⟩) (fun q r => ⟨_, _, _, rfl, q, r⟩) (fun _ => rfl) (fun q => ⟨rfl, q⟩) (fun q => ⟨rfl, q⟩) (fun q r f => ⟨_, _, _, _, rfl, q, r, f⟩)
section
variable {P : Vw} {v : Value}
theorem Is.noneI (h : Is P v .none) : v = .none := h.inv
theorem Is.strI {x : Str} (h : Is P v (.str x)) : ∃ t, v = .str x t := h.inv
theorem Is.intI {i : Int} (h : Is P v (.int i)) : ∃ t, v = .int i t := h.inv
theorem Is.boolI {b : Bool} (h : Is P v (.bool b)) : v = .bool b := h.inv
theorem Is.rawI {a : Addr} (h : Is P v (.raw a)) : v = .ref a := h.inv
theorem Is.listI {ds : List D} (h : Is P v (.list ds)) : ∃ a vs n, v = .ref a ∧ P a = some (listOf vs.toArray n) ∧ IsAll P vs ds := h.inv
theorem Is.tupI {ds : List D} (h : Is P v (.tup ds)) : ∃ a vs n, v = .ref a ∧ P a = some { cls := .type "tuple", data := .seq vs.toArray n } ∧ IsAll P vs ds := h.inv
theorem Is.instI {x C dx : Addr} (h : Is P v (.inst x C dx)) : v = .ref x ∧ P x = some (instObj C dx) := h.inv
theorem Is.packI {a : Addr} {l : List (Addr × Obj)} (h : Is P v (.pack a l)) : v = .ref a ∧ ∀ p ∈ l, P p.1 = some p.2 := h.inv
theorem Is.objI {C : Addr} {fs : List (Str × D)} (h : Is P v (.obj C fs)) : ∃ a dx es n, v = .ref a ∧ P a = some (instObj C dx) ∧ P dx = some (dictOf es n) ∧ IsFs P es fs := h.inv
end
noncomputable def IsAll.Inv (P : Vw) (vs : List Value) (ds : List D) : Prop := List.casesOn (motive := fun _ => Prop) ds (vs = []) (fun d ds => ∃ v r, vs = v :: r ∧ Is P v d ∧ IsAll P r ds)
theorem IsAll.inv {P : Vw} {vs : List Value} {ds : List D} (h : IsAll P vs ds) : IsAll.Inv P vs ds :=
  IsAll.casesOn (motive_2 := fun vs ds _ => IsAll.Inv P vs ds) h rfl (fun a r => ⟨_, _, rfl, a, r⟩)
section
variable {P : Vw} {vs : List Value}
theorem IsAll.consI {d : D} {ds : List D} (h : IsAll P vs (d :: ds)) : ∃ v r, vs = v :: r ∧ Is P v d ∧ IsAll P r ds := h.inv
theorem IsAll.nilI (h : IsAll P vs []) : vs = [] := h.inv
theorem IsAll.consE {C : List Value → Prop} {d : D} {ds : List D} (h : IsAll P vs (d :: ds)) (c : ∀ v r, Is P v d → IsAll P r ds → C (v :: r)) : C vs := by
  obtain ⟨v, r, rfl, a, b⟩ := h.consI
  exact c v r a b
theorem IsAll.nilE {C : List Value → Prop} (h : IsAll P vs []) (c : C []) : C vs := h.nilI ▸ c
theorem IsAll.oneE {C : List Value → Prop} {d : D} (h : IsAll P vs [d]) (c : ∀ v, Is P v d → C [v]) : C vs := h.consE fun v _ a b => b.nilE (C := fun r => C (v :: r)) (c v a)
theorem IsAll.twoE {C : List Value → Prop} {d e : D} (h : IsAll P vs [d, e]) (c : ∀ v u, Is P v d → Is P u e → C [v, u]) : C vs := h.consE fun v _ a b => b.oneE (C := fun r => C (v :: r)) fun u i => c v u a i
theorem IsAll.oneI {d : D} (h : IsAll P vs [d]) : ∃ v, vs = [v] ∧ Is P v d := h.oneE (C := fun vs => ∃ v, vs = [v] ∧ Is P v d) fun v a => ⟨v, rfl, a⟩
theorem IsAll.twoI {d e : D} (h : IsAll P vs [d, e]) : ∃ v u, vs = [v, u] ∧ Is P v d ∧ Is P u e := h.twoE (C := fun vs => ∃ v u, vs = [v, u] ∧ Is P v d ∧ Is P u e) fun v u a b => ⟨v, u, rfl, a, b⟩
theorem IsAll.nilV {ds : List D} (h : IsAll P [] ds) : ds = [] := by
  cases ds with
  | nil => rfl
  | cons d ds => obtain ⟨v, r, e, _⟩ := h.consI; exact nomatch e
theorem IsAll.consV {v : Value} {vs : List Value} {ds : List D} (h : IsAll P (v :: vs) ds) : ∃ d es, ds = d :: es ∧ Is P v d ∧ IsAll P vs es := by
  cases ds with
  | nil => exact nomatch h.nilI
  | cons d ds =>
    obtain ⟨v', r, e, a, b⟩ := h.consI
    obtain ⟨rfl, rfl⟩ := List.cons.inj e
    exact ⟨d, ds, rfl, a, b⟩
end
noncomputable def IsFs.Inv (P : Vw) (es : List DictEntry) (fs : List (Str × D)) : Prop := List.casesOn (motive := fun _ => Prop) fs (es = []) (fun p fs => ∃ hs t v es', es = ⟨hs, .str p.1 t, v⟩ :: es' ∧ Is P v p.2 ∧ IsFs P es' fs)
theorem IsFs.inv {P : Vw} {es : List DictEntry} {fs : List (Str × D)} (h : IsFs P es fs) : IsFs.Inv P es fs :=
  IsFs.casesOn (motive_3 := fun es fs _ => IsFs.Inv P es fs) h rfl (fun a r => ⟨_, _, _, _, rfl, a, r⟩)
theorem IsFs.nilI {P : Vw} {es : List DictEntry} (h : IsFs P es []) : es = [] := h.inv
theorem IsFs.consI {P : Vw} {es : List DictEntry} {x : Str} {d : D} {fs : List (Str × D)} (h : IsFs P es ((x, d) :: fs)) : ∃ hs t v es', es = ⟨hs, .str x t, v⟩ :: es' ∧ Is P v d ∧ IsFs P es' fs := h.inv
theorem len1 {α : Type} {vs : List α} (h : vs.length = 1) : ∃ v, vs = [v] := List.length_eq_one_iff.mp h
theorem len2 {α : Type} {vs : List α} (h : vs.length = 2) : ∃ v u, vs = [v, u] := by
  cases vs with
  | nil => exact nomatch h
  | cons a r => obtain ⟨b, rfl⟩ := len1 (Nat.succ.inj h); exact ⟨a, b, rfl⟩
theorem len3 {α : Type} {vs : List α} (h : vs.length = 3) : ∃ v u w, vs = [v, u, w] := by
  cases vs with
  | nil => exact nomatch h
  | cons a r => obtain ⟨b, c, rfl⟩ := len2 (Nat.succ.inj h); exact ⟨a, b, c, rfl⟩
section
variable {P : Vw} {v : Value} {d : D} {vs ws : List Value} {ds es : List D}
theorem IsAll.length (h : IsAll P vs ds) : vs.length = ds.length := by
  induction vs generalizing ds with
  | nil => rw [h.nilV]; rfl
  | cons v vs ih =>
    obtain ⟨d, es, rfl, _, r⟩ := h.consV
    exact congrArg Nat.succ (ih r)
theorem IsAll.append (h : IsAll P vs ds) (k : IsAll P ws es) : IsAll P (vs ++ ws) (ds ++ es) := by
  induction vs generalizing ds with
  | nil => rw [h.nilV]; exact k
  | cons v vs ih =>
    obtain ⟨d, es, rfl, a, r⟩ := h.consV
    exact .cons a (ih r)
theorem IsAll.get (h : IsAll P vs ds) {k : Nat} {d : D} (hk : ds[k]? = some d) : ∃ v, vs[k]? = some v ∧ Is P v d := by
  induction vs generalizing ds k with
  | nil => rw [h.nilV] at hk; exact nomatch hk
  | cons v vs ih =>
    obtain ⟨e, es, rfl, a, r⟩ := h.consV
    cases k with
    | zero => exact ⟨v, rfl, Option.some.inj hk ▸ a⟩
    | succ k => exact ih r hk
theorem IsAll.getV (h : IsAll P vs ds) {k : Nat} {v : Value} (hk : vs[k]? = some v) : ∃ d, ds[k]? = some d ∧ Is P v d := by
  induction vs generalizing ds k with
  | nil => exact nomatch hk
  | cons v' vs ih =>
    obtain ⟨e, es, rfl, a, r⟩ := h.consV
    cases k with
    | zero => exact ⟨e, rfl, Option.some.inj hk ▸ a⟩
    | succ k => exact ih r hk
theorem IsAll.take (h : IsAll P vs ds) (k : Nat) : IsAll P (vs.take k) (ds.take k) := by
  induction vs generalizing ds k with
  | nil => rw [h.nilV, List.take_nil, List.take_nil]; exact .nil
  | cons v vs ih =>
    obtain ⟨e, es, rfl, a, r⟩ := h.consV
    cases k with
    | zero => exact .nil
    | succ k => exact .cons a (ih r k)
theorem IsAll.drop (h : IsAll P vs ds) (k : Nat) : IsAll P (vs.drop k) (ds.drop k) := by
  induction vs generalizing ds k with
  | nil => rw [h.nilV, List.drop_nil, List.drop_nil]; exact .nil
  | cons v vs ih =>
    obtain ⟨e, es, rfl, a, r⟩ := h.consV
    cases k with
    | zero => exact .cons a r
    | succ k => exact ih r k
end

/-! ## objects that turn, by value -/
inductive MO
  | dict (fs : List (Str × D))
  | list (ds : List D)
  | obj (o : Obj)
inductive MIs (P : Vw) : Obj → MO → Prop
  | dict {es : List DictEntry} {n : Nat} {fs : List (Str × D)} : IsFs P es fs → MIs P (dictOf es n) (.dict fs)
  | list {vs : List Value} {n : Nat} {ds : List D} : IsAll P vs ds → MIs P (listOf vs.toArray n) (.list ds)
  | obj (o : Obj) : MIs P o (.obj o)
noncomputable def MIs.Inv (P : Vw) (o : Obj) (m : MO) : Prop := MO.casesOn (motive := fun _ => Prop) m (fun fs => ∃ es n, o = dictOf es n ∧ IsFs P es fs) (fun ds => ∃ vs n, o = listOf vs.toArray n ∧ IsAll P vs ds) (fun o' => o = o')
theorem MIs.inv {P : Vw} {o : Obj} {m : MO} (h : MIs P o m) : MIs.Inv P o m := MIs.casesOn (motive := fun o m _ => MIs.Inv P o m) h (fun h => ⟨_, _, rfl, h⟩) (fun h => ⟨_, _, rfl, h⟩) fun _ => rfl
theorem MIs.dictI {P : Vw} {o : Obj} {fs : List (Str × D)} (h : MIs P o (.dict fs)) : ∃ es n, o = dictOf es n ∧ IsFs P es fs := h.inv
theorem MIs.listI {P : Vw} {o : Obj} {ds : List D} (h : MIs P o (.list ds)) : ∃ vs n, o = listOf vs.toArray n ∧ IsAll P vs ds := h.inv
theorem MIs.objI {P : Vw} {o o' : Obj} (h : MIs P o (.obj o')) : o = o' := h.inv
theorem MIs.mono {P P' : Vw} (k : Le P P') {o : Obj} {m : MO} (h : MIs P o m) : MIs P' o m :=
  MIs.casesOn (motive := fun o m _ => MIs P' o m) h (fun h => .dict (h.mono k)) (fun h => .list (h.mono k)) fun o => .obj o

/-! ## what an evaluation may do: it only adds -/
noncomputable def GG (g g' : Array GenState) : Prop := (∀ (i : Nat) (x : GenState), g[i]? = some x → g'[i]? = some x) ∧ (AllBare g → AllBare g')
theorem GG.refl (g : Array GenState) : GG g g := ⟨fun _ _ e => e, id⟩
theorem GG.trans {a b c : Array GenState} (x : GG a b) (y : GG b c) : GG a c := ⟨fun i x' e => y.1 i x' (x.1 i x' e), fun h => y.2 (x.2 h)⟩

structure Gr (P : Vw) (s : Shared) (P' : Vw) (s' : Shared) : Prop where
  le : Le P P'
  inn : In P' s'.heap
  old : ∀ b o, s.heap.get? b = some o → s'.heap.get? b = some o
  new : ∀ b o, P' b = some o → P b = some o ∨ s.heap.get? b = none
  gens : GG s.gens s'.gens
  drawn : s'.drawn = s.drawn
  os : s'.os = s.os
theorem Gr.refl {P : Vw} {s : Shared} (h : In P s.heap) : Gr P s P s := ⟨Le.refl _, h, fun _ _ e => e, fun _ _ e => .inl e, GG.refl _, rfl, rfl⟩
theorem none_of_old {h h' : Heap} (k : ∀ b o, h.get? b = some o → h'.get? b = some o) {b : Addr} (e : h'.get? b = none) : h.get? b = none := by
  cases q : h.get? b with
  | none => rfl
  | some o => rw [k b o q] at e; cases e
theorem Gr.trans {P P' P'' : Vw} {s s' s'' : Shared} (x : Gr P s P' s') (y : Gr P' s' P'' s'') : Gr P s P'' s'' :=
  ⟨x.le.trans y.le, y.inn, fun b o e => y.old b o (x.old b o e), fun b o e => (y.new b o e).elim (x.new b o) fun q => .inr (none_of_old x.old q), x.gens.trans y.gens, y.drawn.trans x.drawn, y.os.trans x.os⟩
/-- tokens alone, or objects that nobody looks at -/
theorem Gr.keep {P : Vw} {s : Shared} {h' : Heap} {tk : Nat} (h : In P s.heap) (k : ∀ b o, s.heap.get? b = some o → h'.get? b = some o) : Gr P s P { s with heap := h', toks := tk } :=
  ⟨Le.refl _, fun b o e => k b o (h b o e), k, fun _ _ e => .inl e, GG.refl _, rfl, rfl⟩
theorem Gr.toks {P : Vw} {s : Shared} {tk : Nat} (h : In P s.heap) : Gr P s P { s with toks := tk } := Gr.keep h fun _ _ e => e
open Classical in
/-- the view that also holds all that is new -/
noncomputable def plus (P : Vw) (h h' : Heap) : Vw := fun b => match P b with
  | some o => some o
  | none => if h.get? b = none then h'.get? b else none
theorem Gr.more {P : Vw} {s : Shared} {h' : Heap} {tk : Nat} (h : In P s.heap) (k : ∀ b o, s.heap.get? b = some o → h'.get? b = some o) : Gr P s (plus P s.heap h') { s with heap := h', toks := tk } := by
  refine ⟨fun b o e => by simp [plus, e], fun b o e => ?_, k, fun b o e => ?_, GG.refl _, rfl, rfl⟩
  · unfold plus at e
    split at e
    · rename_i o' q; cases e; exact k _ _ (h _ _ q)
    · split at e
      · exact e
      · cases e
  · unfold plus at e
    split at e
    · rename_i o' q; cases e; exact .inl q
    · split at e
      · rename_i q; exact .inr q
      · cases e
theorem plus_new {P : Vw} {h h' : Heap} (hp : In P h) {b : Addr} {o : Obj} (e : h.get? b = none) (e' : h'.get? b = some o) : plus P h h' b = some o := by
  unfold plus
  split
  · rename_i o' q; rw [hp _ _ q] at e; cases e
  · rw [if_pos e]; exact e'
/-- union of two views that hold in one heap -/
noncomputable def uni (P Q : Vw) : Vw := fun b => (P b).or (Q b)
theorem uni_left {P Q : Vw} : Le P (uni P Q) := fun b o e => by simp [uni, e]
theorem uni_right {P Q : Vw} {h : Heap} (hp : In P h) (hq : In Q h) : Le Q (uni P Q) := fun b o e => by
  unfold uni
  cases q : P b with
  | none => simpa using e
  | some o' =>
    have z := hq _ _ e
    rw [hp _ _ q] at z
    simpa using z
theorem uni_in {P Q : Vw} {h : Heap} (hp : In P h) (hq : In Q h) : In (uni P Q) h := fun b o e => by
  unfold uni at e
  cases q : P b with
  | none => rw [q] at e; exact hq _ _ (by simpa using e)
  | some o' => rw [q] at e; cases e; exact hp _ _ q
/-! ## the base: the text's own objects -/
structure Bs (K : Frag) (pv : Program) (loose : List Str) (mean : ExcName → Option Value) (mg mb : Str → Option Value) (P : Vw) : Prop where
  k : ∀ a o, K.lookup a = some o → P a = some o
  top : ∀ h, In P h → Top pv loose mean mg mb h
theorem Bs.up {K : Frag} {pv : Program} {loose : List Str} {mean : ExcName → Option Value} {mg mb : Str → Option Value} {P P' : Vw} (x : Bs K pv loose mean mg mb P) (k : Le P P') : Bs K pv loose mean mg mb P' :=
  ⟨fun a o e => k _ _ (x.k a o e), fun h hp => x.top h (hp.le k)⟩

noncomputable def AOk (n : Nat) (A : Around) : Prop := A.handled = none ∧ A.depth + n < recursionLimit ∧ A.units + 8 * n + 64 < cLine
theorem AOk.le {n m : Nat} {A : Around} (x : AOk n A) (h : m ≤ n) : AOk m A := ⟨x.1, Nat.lt_of_le_of_lt (Nat.add_le_add_left h _) x.2.1, Nat.lt_of_le_of_lt (Nat.add_le_add_right (Nat.add_le_add_left (Nat.mul_le_mul_left 8 h) _) _) x.2.2⟩
theorem AOk.deeper {n : Nat} {A : Around} {env : Env} (x : AOk (n + 1) A) : AOk n (A.deeper env) := ⟨x.1, ar_depth x.2.1, ar_units (by decide) x.2.2⟩

/-! ## names -/
inductive NameOk (S : Vw) (env : Env) (x : Str) : Value → Prop
  | loc {o : Obj} {m : Str → Option Value} {v : Value} : env.kindOf x = some .local → S env.locals = some o → LCg.NsObj o m → m x = some v → NameOk S env x v
  | cel {c : Addr} {o : Obj} {v : Value} : env.kindOf x = some .cell ∨ env.kindOf x = some .free → env.cells.lookup x = some c → S c = some o → o.data = .cell (some v) → NameOk S env x v
theorem NameOk.up {S S' : Vw} {env : Env} {x : Str} {v : Value} (k : Le S S') (h : NameOk S env x v) : NameOk S' env x v :=
  NameOk.casesOn (motive := fun v _ => NameOk S' env x v) h (fun a b c d => .loc a (k _ _ b) c d) fun a b c d => .cel a b (k _ _ c) d

/-- what an expression sees: names that hold data, names that hold a list that turns -/
structure Cx (S P : Vw) (env : Env) (Γ : List (Str × D)) (Δ : List (Str × List D)) : Prop where
  fn : env.scope.kind = .function
  gl : env.globals = mainGlobals
  bi : env.builtins = builtinsNs
  vars : ∀ p ∈ Γ, ∃ v, NameOk S env p.1 v ∧ Is P v p.2
  muts : ∀ p ∈ Δ, ∃ a vs n, NameOk S env p.1 (.ref a) ∧ S a = some (listOf vs.toArray n) ∧ IsAll P vs p.2
theorem Cx.up {S S' P P' : Vw} {env : Env} {Γ : List (Str × D)} {Δ : List (Str × List D)} (x : Cx S P env Γ Δ) (k : Le S S') (l : Le P P') : Cx S' P' env Γ Δ :=
  ⟨x.fn, x.gl, x.bi, fun p hp => (x.vars p hp).imp fun v h => ⟨h.1.up k, h.2.mono l⟩, fun p hp => (x.muts p hp).imp fun a h => h.imp fun vs h => h.imp fun n h => ⟨h.1.up k, k _ _ h.2.1, h.2.2.mono l⟩⟩

section
variable (prog : Program) (w : World) (K : Frag) (pv : Program) (loose : List Str) (mean : ExcName → Option Value) (mg mb : Str → Option Value)
/-- the world: program, draws, the text's objects -/
structure Wd where
  prog : Program
  w : World
  K : Frag
  pv : Program
  loose : List Str
  mean : ExcName → Option Value
  mg : Str → Option Value
  mb : Str → Option Value
  raws : List (Addr × MO)
end
noncomputable abbrev Wd.at (W : Wd) (l : List (Addr × MO)) : Wd := { W with raws := l }
noncomputable abbrev Wd.M (W : Wd) : Model := model W.prog W.w
noncomputable abbrev Wd.B (W : Wd) (P : Vw) : Prop := Bs W.K W.pv W.loose W.mean W.mg W.mb P

/-- a state in which an expression may be read -/
structure St (W : Wd) (k : Nat) (A : Around) (S P : Vw) (s : Shared) : Prop where
  a : AOk k A
  b : W.B P
  sv : In S s.heap
  p : In P s.heap
  tk : 1 ≤ s.toks
  rw : ∀ p ∈ W.raws, ∃ o, S p.1 = some o ∧ MIs P o p.2
theorem Gr.s {S P P' : Vw} {s s' : Shared} (g : Gr P s P' s') (h : In S s.heap) : In S s'.heap := fun b o e => g.old b o (h b o e)
theorem St.next {W : Wd} {k : Nat} {A : Around} {S P P' : Vw} {s s' : Shared} (x : St W k A S P s) (g : Gr P s P' s') (tk : 1 ≤ s'.toks) : St W k A S P' s' := ⟨x.a, x.b.up g.le, g.s x.sv, g.inn, tk, fun p hp => (x.rw p hp).imp fun o hh => ⟨hh.1, hh.2.mono g.le⟩⟩

/-- e gives the datum d -/
noncomputable def Ev (W : Wd) (k : Nat) (env : Env) (Γ : List (Str × D)) (Δ : List (Str × List D)) (e : Expr) (d : D) : Prop :=
  ∀ (A : Around) (S P : Vw) (s : Shared) (E Q : Value → Shared → Prop), St W k A S P s → Cx S P env Γ Δ →
    (∀ v P' s', Gr P s P' s' → 1 ≤ s'.toks → Is P' v d → Q v s') → wpAny W.M A (eval e env) Q E s
/-- e gives a list (one that turns, perhaps) -/
noncomputable def EvL (W : Wd) (k : Nat) (env : Env) (Γ : List (Str × D)) (Δ : List (Str × List D)) (e : Expr) (ds : List D) : Prop :=
  ∀ (A : Around) (S P : Vw) (s : Shared) (E Q : Value → Shared → Prop), St W k A S P s → Cx S P env Γ Δ →
    (∀ a vs n P' s', Gr P s P' s' → 1 ≤ s'.toks → s'.heap.get? a = some (listOf vs.toArray n) → IsAll P' vs ds → Q (.ref a) s') → wpAny W.M A (eval e env) Q E s
/-- the test e comes out b -/
noncomputable def Ts (W : Wd) (k : Nat) (env : Env) (Γ : List (Str × D)) (Δ : List (Str × List D)) (e : Expr) (b : Bool) : Prop :=
  ∀ (A : Around) (S P : Vw) (s : Shared) (E : Value → Shared → Prop) (Q : Bool → Shared → Prop), St W k A S P s → Cx S P env Γ Δ →
    (∀ P' s', Gr P s P' s' → 1 ≤ s'.toks → Q b s') → wpAny W.M A (isTrue e env (eval e env)) Q E s
/-- the arguments es give the data ds -/
noncomputable def Evs (W : Wd) (k : Nat) (env : Env) (Γ : List (Str × D)) (Δ : List (Str × List D)) (es : List Expr) (ds : List D) : Prop :=
  ∀ (A : Around) (S P : Vw) (s : Shared) (E : Value → Shared → Prop) (Q : List Value → Shared → Prop) (pos : Pos), St W k A S P s → Cx S P env Γ Δ →
    (∀ vs P' s', Gr P s P' s' → 1 ≤ s'.toks → IsAll P' vs ds → Q vs s') → wpAny W.M A (spliced (backTo pos (starEach es env))) Q E s
/-- a step upon values -/
noncomputable def Op1 (W : Wd) (k : Nat) (f : Value → Sem Value) (a d : D) : Prop :=
  ∀ (A : Around) (S P : Vw) (s : Shared) (E Q : Value → Shared → Prop) (x : Value), St W k A S P s → Is P x a →
    (∀ v P' s', Gr P s P' s' → Is P' v d → Q v s') → wpAny W.M A (f x) Q E s
noncomputable def Op2 (W : Wd) (k : Nat) (f : Value → Value → Sem Value) (a b d : D) : Prop :=
  ∀ (A : Around) (S P : Vw) (s : Shared) (E Q : Value → Shared → Prop) (x y : Value), St W k A S P s → Is P x a → Is P y b →
    (∀ v P' s', Gr P s P' s' → Is P' v d → Q v s') → wpAny W.M A (f x y) Q E s
/-- a call upon values -/
noncomputable def Cl (W : Wd) (k : Nat) (f : Value) (ds : List D) (d : D) : Prop :=
  ∀ (A : Around) (S P : Vw) (s : Shared) (E Q : Value → Shared → Prop) (vs : List Value), St W k A S P s → IsAll P vs ds →
    (∀ v P' s', Gr P s P' s' → Is P' v d → Q v s') → wpAny W.M A (call f vs) Q E s
/-- a call upon one list -/
noncomputable def ClL (W : Wd) (k : Nat) (f : Value) (ds : List D) (d : D) : Prop :=
  ∀ (A : Around) (S P : Vw) (s : Shared) (E Q : Value → Shared → Prop) (a : Addr) (vs : List Value) (n : Nat), St W k A S P s → s.heap.get? a = some (listOf vs.toArray n) → IsAll P vs ds →
    (∀ v P' s', Gr P s P' s' → Is P' v d → Q v s') → wpAny W.M A (call f [.ref a]) Q E s

noncomputable def plainE : Expr → Bool
  | .Starred .. => false
  | _ => true
theorem starEach_cons {e : Expr} {r : List Expr} {env : Env} (h : plainE e = true) : starEach (e :: r) env = (false, eval e env) :: starEach r env := by
  cases e <;> first | rfl | cases h

section
variable {W : Wd} {k : Nat} {env : Env} {Γ : List (Str × D)} {Δ : List (Str × List D)}
theorem wp_tk {α : Type} {M : Model} {A : Around} {t : Sem α} {s : Shared} {Q : α → Shared → Prop} {E : Value → Shared → Prop} (h1 : 1 ≤ s.toks) (h : wpAny M A t (fun a s' => 1 ≤ s'.toks → Q a s') E s) : wpAny M A t Q E s :=
  wpAny_with_toks h1 (wpAny_mono h (fun _ _ x => x) fun _ _ x _ => x)
theorem Ev.mk {e : Expr} {d : D} (h : ∀ (A : Around) (S P : Vw) (s : Shared) (E Q : Value → Shared → Prop), St W k A S P s → Cx S P env Γ Δ →
    (∀ v P' s', Gr P s P' s' → Is P' v d → Q v s') → wpAny W.M A (eval e env) Q E s) : Ev W k env Γ Δ e d := fun A S P s E Q st hC hQ =>
  wp_tk st.tk (h A S P s E _ st hC fun v P' s' g i tk => hQ v P' s' g tk i)
theorem Ev.list {e : Expr} {ds : List D} (h : Ev W k env Γ Δ e (.list ds)) : EvL W k env Γ Δ e ds := fun A S P s E Q st hC hQ =>
  h A S P s E Q st hC fun v P' s' g tk i => by
    obtain ⟨a, vs, n, rfl, q, r⟩ := i.listI
    exact hQ _ _ _ P' s' g tk (g.inn _ _ q) r

theorem ev_int {i : Int} {t : Nat} {p : Pos} : Ev W k env Γ Δ (.Constant (.int i) t p) (.int i) := .mk fun A S P s E Q st hC hQ =>
  wpAny_Constant_int (hQ _ P _ (Gr.toks st.p) (.int _ _))
theorem ev_str {x : Str} {t : Nat} {p : Pos} : Ev W k env Γ Δ (.Constant (.str x) t p) (.str x) := .mk fun A S P s E Q st hC hQ =>
  Constant_str (hQ _ P _ (Gr.toks st.p) (.str _ _))
theorem ev_bool {b : Bool} {t : Nat} {p : Pos} : Ev W k env Γ Δ (.Constant (.bool b) t p) (.bool b) := .mk fun A S P s E Q st hC hQ =>
  fun _ _ _ => hQ _ P _ (Gr.refl st.p) (.bool _)
theorem ev_none {t : Nat} {p : Pos} : Ev W k env Γ Δ (.Constant .none t p) .none := .mk fun A S P s E Q st hC hQ =>
  fun _ _ _ => hQ _ P _ (Gr.refl st.p) .none

theorem name_read {M : Model} {A : Around} {E : Value → Shared → Prop} {Q : Value → Shared → Prop} {s : Shared} {S : Vw} {x : Str} {pos : Pos} {v : Value} (hk : env.scope.kind = .function) (hS : In S s.heap) (n : NameOk S env x v) (h : Q v s)
    (hd : (x == ("__debug__" : Str)) = false) (hn : (x == ("__classdict__" : Str)) = false) : wpAny M A (eval (.Name x pos) env) Q E s := by
  cases n with
  | loc a b c d => exact wpAny_Name (wpAny_loadName_local hk a (c.ns (hS _ _ b)) d h) hd
  | cel a b c d =>
    rcases a with a | a
    · exact wpAny_Name (wpAny_loadName_cell hk a b ⟨_, hS _ _ c, d⟩ h) hd
    · exact wpAny_Name (wpAny_loadName_free hk a b ⟨_, hS _ _ c, d⟩ h hn) hd
theorem ev_name {x : Str} {pos : Pos} {d : D} (h : (x, d) ∈ Γ) (hd : (x == ("__debug__" : Str)) = false := by decide) (hn : (x == ("__classdict__" : Str)) = false := by decide) : Ev W k env Γ Δ (.Name x pos) d := .mk fun A S P s E Q st hC hQ => by
  obtain ⟨v, n, i⟩ := hC.vars _ h
  exact name_read hC.fn st.sv n (hQ v P s (Gr.refl st.p) i) hd hn
theorem ev_mut {x : Str} {pos : Pos} {ds : List D} (h : (x, ds) ∈ Δ) (hd : (x == ("__debug__" : Str)) = false := by decide) (hn : (x == ("__classdict__" : Str)) = false := by decide) : EvL W k env Γ Δ (.Name x pos) ds := fun A S P s E Q st hC hQ => by
  obtain ⟨a, vs, n, nm, q, r⟩ := hC.muts _ h
  exact name_read hC.fn st.sv nm (hQ a vs n P s (Gr.refl st.p) st.tk (st.sv _ _ q) r) hd hn

theorem ev_bin {l r : Expr} {op : Operator} {pos : Pos} {a b d : D} (h1 : Ev W k env Γ Δ l a) (h2 : Ev W k env Γ Δ r b) (h : Op2 W k (binaryOp op) a b d) : Ev W k env Γ Δ (.BinOp l op r pos) d := .mk fun A S P s E Q st hC hQ =>
  wpAny_BinOp (h1 A S P s E _ st hC fun x P₁ s₁ g₁ tk₁ i₁ => h2 A S P₁ s₁ E _ (st.next g₁ tk₁) (hC.up (Le.refl _) g₁.le) fun y P₂ s₂ g₂ tk₂ i₂ =>
    h A S P₂ s₂ E Q x y ((st.next g₁ tk₁).next g₂ tk₂) (i₁.mono g₂.le) i₂ fun v P₃ s₃ g₃ i₃ => hQ v P₃ s₃ ((g₁.trans g₂).trans g₃) i₃)
theorem ev_un {e : Expr} {op : UnaryOp} {pos : Pos} {a d : D} (h1 : Ev W k env Γ Δ e a) (h : Op1 W k (unaryOp op) a d) : Ev W k env Γ Δ (.UnaryOp op e pos) d := .mk fun A S P s E Q st hC hQ =>
  UnaryOp_ (h1 A S P s E _ st hC fun x P₁ s₁ g₁ tk₁ i₁ => h A S P₁ s₁ E Q x (st.next g₁ tk₁) i₁ fun v P₃ s₃ g₃ i₃ => hQ v P₃ s₃ (g₁.trans g₃) i₃)
theorem ev_cmp {l r : Expr} {op : CmpOp} {pos : Pos} {a b d : D} (h1 : Ev W k env Γ Δ l a) (h2 : Ev W k env Γ Δ r b) (h : Op2 W k (compareOp op) a b d) (hm : behindInMarks op r = false := by with_unfolding_all rfl) : Ev W k env Γ Δ (.Compare l [op] [r] pos) d := .mk fun A S P s E Q st hC hQ =>
  wpAny_Compare1 (h1 A S P s E _ st hC fun x P₁ s₁ g₁ tk₁ i₁ => h2 A S P₁ s₁ E _ (st.next g₁ tk₁) (hC.up (Le.refl _) g₁.le) fun y P₂ s₂ g₂ tk₂ i₂ =>
    h A S P₂ s₂ E Q x y ((st.next g₁ tk₁).next g₂ tk₂) (i₁.mono g₂.le) i₂ fun v P₃ s₃ g₃ i₃ => hQ v P₃ s₃ ((g₁.trans g₂).trans g₃) i₃) hm
theorem Ts.mk {e : Expr} {b : Bool} (h : ∀ (A : Around) (S P : Vw) (s : Shared) (E : Value → Shared → Prop) (Q : Bool → Shared → Prop), St W k A S P s → Cx S P env Γ Δ →
    (∀ P' s', Gr P s P' s' → Q b s') → wpAny W.M A (isTrue e env (eval e env)) Q E s) : Ts W k env Γ Δ e b := fun A S P s E Q st hC hQ =>
  wp_tk st.tk (h A S P s E _ st hC fun P' s' g tk => hQ P' s' g tk)
theorem ts_cmp {l r : Expr} {op : CmpOp} {pos : Pos} {a b : D} {c : Bool} (h1 : Ev W k env Γ Δ l a) (h2 : Ev W k env Γ Δ r b) (h : Op2 W k (compareOp op) a b (.bool c)) (hm : behindInMarks op r = false := by with_unfolding_all rfl) : Ts W k env Γ Δ (.Compare l [op] [r] pos) c := .mk fun A S P s E Q st hC hQ =>
  wpAny_isTrue_Compare1 (h1 A S P s E _ st hC fun x P₁ s₁ g₁ tk₁ i₁ => h2 A S P₁ s₁ E _ (st.next g₁ tk₁) (hC.up (Le.refl _) g₁.le) fun y P₂ s₂ g₂ tk₂ i₂ =>
    h A S P₂ s₂ E _ x y ((st.next g₁ tk₁).next g₂ tk₂) (i₁.mono g₂.le) i₂ fun v P₃ s₃ g₃ i₃ => by
      rw [i₃.boolI]; exact wpAny_truthy_bool (hQ P₃ s₃ ((g₁.trans g₂).trans g₃))) hm
/-- a test that is any other expression: its value's truth -/
theorem ts_plain {e : Expr} {d : D} {b : Bool} (h1 : Ev W k env Γ Δ e d)
    (h : ∀ (A : Around) (S P : Vw) (s : Shared) (E : Value → Shared → Prop) (Q : Bool → Shared → Prop) (v : Value), St W k A S P s → Is P v d → (∀ P' s', Gr P s P' s' → Q b s') → wpAny W.M A (truthy v) Q E s)
    (hp : isTrue e env (eval e env) = (do let v ← eval e env; standAt e.pos; holding [v] (truthy v)) := by rfl) : Ts W k env Γ Δ e b := .mk fun A S P s E Q st hC hQ =>
  isTrue_plain (h1 A S P s E _ st hC fun v P₁ s₁ g₁ tk₁ i₁ => h A S P₁ s₁ E Q v (st.next g₁ tk₁) i₁ fun P₂ s₂ g₂ => hQ P₂ s₂ (g₁.trans g₂)) hp
theorem ts_bool {e : Expr} {b : Bool} (h1 : Ev W k env Γ Δ e (.bool b)) (hp : isTrue e env (eval e env) = (do let v ← eval e env; standAt e.pos; holding [v] (truthy v)) := by rfl) : Ts W k env Γ Δ e b :=
  ts_plain h1 (fun A S P s E Q v st i hQ => by rw [i.boolI]; exact wpAny_truthy_bool (hQ P s (Gr.refl st.p))) hp
theorem ts_str {e : Expr} {x : Str} (h1 : Ev W k env Γ Δ e (.str x)) (hx : x.length < 2 ^ 62) (hp : isTrue e env (eval e env) = (do let v ← eval e env; standAt e.pos; holding [v] (truthy v)) := by rfl) : Ts W k env Γ Δ e ((x.length : Int) != 0) :=
  ts_plain h1 (fun A S P s E Q v st i hQ => by obtain ⟨t, rfl⟩ := i.strI; exact SBL.truthy (Int.ofNat_lt.mpr (Nat.lt_of_lt_of_le hx (by decide))) (hQ P _ (Gr.toks st.p))) hp
theorem ts_not {e : Expr} {pos : Pos} {b : Bool} (h : Ts W k env Γ Δ e b) : Ts W k env Γ Δ (.UnaryOp .Not e pos) (!b) := .mk fun A S P s E Q st hC hQ =>
  isTrue_not (h A S P s E _ st hC fun P' s' g tk => hQ P' s' g)
/-- the truth of «a and b and ..», «a or b or ..», with what the earlier ones say -/
inductive TsAnd (W : Wd) (k : Nat) (env : Env) (Γ : List (Str × D)) (Δ : List (Str × List D)) : List Expr → Bool → Prop
  | nil : TsAnd W k env Γ Δ [] true
  | tt {e : Expr} {r : List Expr} {b : Bool} : Ts W k env Γ Δ e true → TsAnd W k env Γ Δ r b → TsAnd W k env Γ Δ (e :: r) b
  | ff {e : Expr} {r : List Expr} : Ts W k env Γ Δ e false → TsAnd W k env Γ Δ (e :: r) false
inductive TsOr (W : Wd) (k : Nat) (env : Env) (Γ : List (Str × D)) (Δ : List (Str × List D)) : List Expr → Bool → Prop
  | nil : TsOr W k env Γ Δ [] false
  | ff {e : Expr} {r : List Expr} {b : Bool} : Ts W k env Γ Δ e false → TsOr W k env Γ Δ r b → TsOr W k env Γ Δ (e :: r) b
  | tt {e : Expr} {r : List Expr} : Ts W k env Γ Δ e true → TsOr W k env Γ Δ (e :: r) true
theorem ts_and {es : List Expr} {pos : Pos} {b : Bool} (h : TsAnd W k env Γ Δ es b) : Ts W k env Γ Δ (.BoolOp .And es pos) b := .mk fun A S P s E Q st hC hQ => by
  suffices ∀ (whole : Sem Value), wpAny W.M A (isTrue (.BoolOp .And es pos) env whole) Q E s from this _
  induction h generalizing P s with
  | nil => exact fun whole => isTrue_and_nil (hQ P s (Gr.refl st.p))
  | tt h1 _ ih => exact fun whole => isTrue_and (h1 A S P s E _ st hC fun P₁ s₁ g₁ tk₁ => by
      rw [if_pos rfl]
      exact ih P₁ s₁ (st.next g₁ tk₁) (hC.up (Le.refl _) g₁.le) (fun P₂ s₂ g₂ => hQ P₂ s₂ (g₁.trans g₂)) _)
  | ff h1 => exact fun whole => isTrue_and (h1 A S P s E _ st hC fun P₁ s₁ g₁ tk₁ => by
      rw [if_neg Bool.false_ne_true]
      exact hQ P₁ s₁ g₁)
theorem ts_or {es : List Expr} {pos : Pos} {b : Bool} (h : TsOr W k env Γ Δ es b) : Ts W k env Γ Δ (.BoolOp .Or es pos) b := .mk fun A S P s E Q st hC hQ => by
  suffices ∀ (whole : Sem Value), wpAny W.M A (isTrue (.BoolOp .Or es pos) env whole) Q E s from this _
  induction h generalizing P s with
  | nil => exact fun whole => isTrue_or_nil (hQ P s (Gr.refl st.p))
  | ff h1 _ ih => exact fun whole => isTrue_or (h1 A S P s E _ st hC fun P₁ s₁ g₁ tk₁ => by
      rw [if_neg Bool.false_ne_true]
      exact ih P₁ s₁ (st.next g₁ tk₁) (hC.up (Le.refl _) g₁.le) (fun P₂ s₂ g₂ => hQ P₂ s₂ (g₁.trans g₂)) _)
  | tt h1 => exact fun whole => isTrue_or (h1 A S P s E _ st hC fun P₁ s₁ g₁ tk₁ => by
      rw [if_pos rfl]
      exact hQ P₁ s₁ g₁)

/-! ### arguments -/
theorem evs_nil : Evs W k env Γ Δ [] [] := fun A S P s E Q pos st hC hQ => spliced_nil (hQ [] P s (Gr.refl st.p) st.tk .nil)
theorem evs_cons {e : Expr} {es : List Expr} {d : D} {ds : List D} (h1 : Ev W k env Γ Δ e d) (h2 : Evs W k env Γ Δ es ds) (hp : plainE e = true := by rfl) : Evs W k env Γ Δ (e :: es) (d :: ds) := fun A S P s E Q pos st hC hQ => by
  rw [starEach_cons hp]
  exact spliced_cons (h1 A S P s E _ st hC fun v P₁ s₁ g₁ tk₁ i₁ => h2 A S P₁ s₁ E _ pos (st.next g₁ tk₁) (hC.up (Le.refl _) g₁.le) fun vs P₂ s₂ g₂ tk₂ i₂ =>
    hQ (v :: vs) P₂ s₂ (g₁.trans g₂) tk₂ (.cons (i₁.mono g₂.le) i₂))

/-- a name of the built-ins -/
structure NmB (W : Wd) (env : Env) (x : Str) (v : Value) : Prop where
  kind : env.kindOf x = some .globalImplicit
  no : nsIn W.K mainGlobals x = some none
  boot : bootBuiltins x = some v
  nn : x ≠ "__name__"
structure NmG (W : Wd) (env : Env) (x : Str) (v : Value) : Prop where
  kind : env.kindOf x = some .globalImplicit
  has : nsIn W.K mainGlobals x = some (some v)
theorem Bs.frag {P : Vw} {h : Heap} (x : W.B P) (p : In P h) : W.K.In h := fun a o e => p _ _ (x.k a o e)
theorem name_bi {M : Model} {A : Around} {S P : Vw} {s : Shared} {E Q : Value → Shared → Prop} {x : Str} {pos : Pos} {v : Value} (b : W.B P) (hp : In P s.heap) (hC : Cx S P env Γ Δ) (n : NmB W env x v) (h : Q v s) (hd : (x == ("__debug__" : Str)) = false) : wpAny M A (eval (.Name x pos) env) Q E s := by
  have T := b.top s.heap hp
  refine Name_function_global hC.fn n.kind (loadGlobal_builtin (env := env) (by rw [hC.gl]; exact T.g) (mg_none_of (Bs.frag b hp) T.g n.no) (by rw [hC.bi]; exact T.b) ((T.builtins x n.nn).trans n.boot) h) hd
theorem name_gl {M : Model} {A : Around} {S P : Vw} {s : Shared} {E Q : Value → Shared → Prop} {x : Str} {pos : Pos} {v : Value} (b : W.B P) (hp : In P s.heap) (hC : Cx S P env Γ Δ) (n : NmG W env x v) (h : Q v s) (hd : (x == ("__debug__" : Str)) = false) : wpAny M A (eval (.Name x pos) env) Q E s := by
  have T := b.top s.heap hp
  exact Name_function_global hC.fn n.kind (loadGlobal_global (env := env) (by rw [hC.gl]; exact T.g) (mg_of (Bs.frag b hp) T.g n.has) h) hd
/-- a global name that holds a str -/
theorem ev_gstr {x y : Str} {t : Tok} {pos : Pos} (n : NmG W env x (.str y t)) (hd : (x == ("__debug__" : Str)) = false := by decide) : Ev W k env Γ Δ (.Name x pos) (.str y) := .mk fun A S P s E Q st hC hQ =>
  name_gl st.b st.p hC n (hQ _ P s (Gr.refl st.p) (.str _ _)) hd

theorem plain_any : ∀ {args : List Expr} {pos : Pos}, (args.all plainE) = true → (backTo pos (starEach args env)).any (·.1) = false
  | [], _, _ => rfl
  | e :: r, pos, h => by
    have h' := Bool.and_eq_true_iff.mp (by simpa using h : (plainE e && r.all plainE) = true)
    rw [starEach_cons h'.1]
    show (false || (backTo pos (starEach r env)).any (·.1)) = false
    rw [plain_any h'.2]; rfl
theorem evalArgs_ev {A : Around} {S P : Vw} {s : Shared} {E : Value → Shared → Prop} {Q : Args → Shared → Prop} {f : Value} {e : Expr} {r : List Expr} {ds : List D} {pos : Pos} (hp : (e :: r).all plainE = true) (st : St W k A S P s) (hC : Cx S P env Γ Δ) (h : Evs W k env Γ Δ (e :: r) ds)
    (hQ : ∀ vs P' s', Gr P s P' s' → 1 ≤ s'.toks → IsAll P' vs ds → Q ⟨vs, []⟩ s') : wpAny W.M A (evalArgs f true (backTo pos (starEach (e :: r) env)) []) Q E s := by
  have h' := Bool.and_eq_true_iff.mp (by simpa using hp : (plainE e && r.all plainE) = true)
  have z := h A S P s E (fun vs s' => Q ⟨vs, []⟩ s') pos st hC hQ
  rw [starEach_cons h'.1] at z ⊢
  exact evalArgs_plain z
/-- a built-in function by its name, upon data -/
theorem ev_callB {x : Str} {f : String} {p pos : Pos} {e : Expr} {r : List Expr} {ds : List D} {d : D} (n : NmB W env x (.builtin f)) (h : Evs W k env Γ Δ (e :: r) ds) (hc : Cl W k (.builtin f) ds d)
    (hp : (e :: r).all plainE = true := by rfl) (hd : (x == ("__debug__" : Str)) = false := by decide) : Ev W k env Γ Δ (.Call (.Name x p) (e :: r) [] pos) d := .mk fun A S P s E Q st hC hQ => by
  refine wpAny_Call_Name_kw (name_bi st.b st.p hC n ?_ hd)
  refine callWith_builtin (plain_any hp) (evalArgs_ev hp st hC h fun vs P₁ s₁ g₁ tk₁ i₁ => ?_)
  exact hc A S P₁ s₁ E Q vs (st.next g₁ tk₁) i₁ fun v P₂ s₂ g₂ i₂ => hQ v P₂ s₂ (g₁.trans g₂) i₂
/-- a built-in function upon one list -/
theorem ev_callBL {x : Str} {f : String} {p pos : Pos} {e : Expr} {ds : List D} {d : D} (n : NmB W env x (.builtin f)) (h : EvL W k env Γ Δ e ds) (hc : ClL W k (.builtin f) ds d)
    (hp : plainE e = true := by rfl) (hd : (x == ("__debug__" : Str)) = false := by decide) : Ev W k env Γ Δ (.Call (.Name x p) [e] [] pos) d := .mk fun A S P s E Q st hC hQ => by
  refine wpAny_Call_Name_kw (name_bi st.b st.p hC n ?_ hd)
  have hp' : [e].all plainE = true := by simp [hp]
  refine callWith_builtin (plain_any hp') ?_
  rw [starEach_cons hp]
  refine evalArgs_plain (spliced_cons (h A S P s E _ st hC fun a vs n P₁ s₁ g₁ tk₁ q₁ i₁ => spliced_nil ?_))
  exact hc A S P₁ s₁ E Q a vs n (st.next g₁ tk₁) q₁ i₁ fun v P₂ s₂ g₂ i₂ => hQ v P₂ s₂ (g₁.trans g₂) i₂
end
end
section
/-! small sums, each proved once -/
theorem az_sub (a b : Nat) : ((a : Int) - b).toNat = a - b := Int.toNat_sub a b
theorem az_m1 (n : Nat) : ((-1 : Int) + n).toNat = n - 1 := by rw [Int.add_comm]; exact Int.toNat_sub n 1
theorem az_sub1 {a b : Nat} (h : b ≤ a) : ((a : Int) - b + 1).toNat = a - b + 1 := by rw [← Int.ofNat_sub h]; rfl
theorem az_w (w : Int) : (w + 1 + 1 - 2).toNat = w.toNat := by rw [Int.add_assoc]; exact congrArg Int.toNat (Int.add_sub_cancel w 2)
theorem az_5 (i : Nat) : 5 - (i + 1) = 4 - i := Nat.add_sub_add_right 4 1 i
theorem az_5' {i : Nat} (h : i < 5) : 5 - i = 4 - i + 1 := Nat.succ_sub (Nat.le_of_lt_succ h)
theorem az_54 {i : Nat} (h : i < 5) : ((5 : Int) - ((i : Int) + 1)).toNat = 4 - i := by revert i; decide
theorem az_lead {i : Nat} (h : i < 40) : ((-1000 ≤ 2 + (i : Int) ∧ 2 + (i : Int) ≤ 1000) ∧ 1 ≤ 1000) ∧ 1 * (2 + (i : Int)).toNat ≤ 10000 := by revert i; decide
theorem az_r {s i : Nat} (h : i ≤ s ∧ s < i + (5 - i)) (hi : i < 5) : i ≤ s ∧ s < 5 := ⟨h.1, Nat.add_sub_of_le (Nat.le_of_lt hi) ▸ h.2⟩
theorem az_ints {i : Nat} (h : i ≤ 100000) : -2 ^ 62 ≤ (i : Int) ∧ (i : Int) < 2 ^ 62 := ⟨Int.le_trans (by decide) (Int.natCast_nonneg i), Int.lt_of_le_of_lt (Int.ofNat_le.mpr h) (by decide)⟩
theorem az_dle {a b : Nat} : decide ((a : Int) ≤ b) = decide (a ≤ b) := decide_eq_decide.mpr Int.ofNat_le
theorem az_le5 {l : Nat} (h : l ≤ 4) : l = 0 ∨ l = 1 ∨ l = 2 ∨ l = 3 ∨ l = 4 := by revert l; decide
theorem az_min (n : Nat) : min (min 4 n) n = min 4 n := Nat.min_eq_left (Nat.min_le_right _ _)
theorem az_from {n e : Nat} (h : e ≤ n) : min (max 0 (e : Int)).toNat n = e := by rw [Int.max_eq_right (Int.natCast_nonneg e)]; exact Nat.min_eq_left h
theorem az_of4 {p : Nat → Prop} (h0 : p 0) (h1 : p 1) (h2 : p 2) (h3 : p 3) {i : Nat} (hi : i < 4) : p i := by
  cases i with
  | zero => exact h0
  | succ i => cases i with
    | zero => exact h1
    | succ i => cases i with
      | zero => exact h2
      | succ i => cases i with
        | zero => exact h3
        | succ i => exact absurd hi (Nat.not_lt.mpr (Nat.le_add_left 4 i))
theorem az_of5 {p : Nat → Prop} (h0 : p 0) (h1 : p 1) (h2 : p 2) (h3 : p 3) (h4 : p 4) {i : Nat} (hi : i < 5) : p i := by
  cases i with
  | zero => exact h0
  | succ i => exact az_of4 (p := fun i => p (i + 1)) h1 h2 h3 h4 (Nat.lt_of_succ_lt_succ hi)
theorem az_q1 {i : Nat} (h : i < 4) : 0 ≤ (i : Int) + 1 ∧ (i : Int) + 1 < 2 ^ 61 := by revert i; decide
theorem az_q2 {i : Nat} (h : i < 4) : ((5 : Int) - ((i : Int) + 1)).toNat = 4 - i := az_54 (Nat.lt_succ_of_lt h)
theorem az_q3 {i j : Nat} (h : j < 4 - i) : i + 1 + j < 5 := by rw [Nat.add_right_comm]; exact Nat.succ_lt_succ (Nat.add_lt_of_lt_sub' h)
theorem az_q4 {a : Int} (h : 0 ≤ a ∧ a < 6) : -2 ^ 62 ≤ a ∧ a < 2 ^ 62 := ⟨Int.le_trans (by decide) h.1, Int.lt_trans h.2 (by decide)⟩
end
section
section
variable {W : Wd} {k : Nat} {f : Value → Value → Sem Value} {g : Value} {d : D}
theorem op2_ii {a : Int} {b : Int} (h : ∀ (A : Around) (S P : Vw) (s : Shared) (E Q : Value → Shared → Prop) (t u : Tok), St W k A S P s → (∀ v P' s', Gr P s P' s' → Is P' v d → Q v s') → wpAny W.M A (f (.int a t) (.int b u)) Q E s) : Op2 W k f (.int a) (.int b) d := fun A S P s E Q x y st hx hy hQ => by
  obtain ⟨t, rfl⟩ := hx.intI; obtain ⟨u, rfl⟩ := hy.intI; exact h A S P s E Q t u st hQ
theorem op2_ss {a : Str} {b : Str} (h : ∀ (A : Around) (S P : Vw) (s : Shared) (E Q : Value → Shared → Prop) (t u : Tok), St W k A S P s → (∀ v P' s', Gr P s P' s' → Is P' v d → Q v s') → wpAny W.M A (f (.str a t) (.str b u)) Q E s) : Op2 W k f (.str a) (.str b) d := fun A S P s E Q x y st hx hy hQ => by
  obtain ⟨t, rfl⟩ := hx.strI; obtain ⟨u, rfl⟩ := hy.strI; exact h A S P s E Q t u st hQ
theorem op2_si {a : Str} {b : Int} (h : ∀ (A : Around) (S P : Vw) (s : Shared) (E Q : Value → Shared → Prop) (t u : Tok), St W k A S P s → (∀ v P' s', Gr P s P' s' → Is P' v d → Q v s') → wpAny W.M A (f (.str a t) (.int b u)) Q E s) : Op2 W k f (.str a) (.int b) d := fun A S P s E Q x y st hx hy hQ => by
  obtain ⟨t, rfl⟩ := hx.strI; obtain ⟨u, rfl⟩ := hy.intI; exact h A S P s E Q t u st hQ
theorem cl_1s {x : Str} (h : ∀ (A : Around) (S P : Vw) (s : Shared) (E Q : Value → Shared → Prop) (t : Tok), St W k A S P s → (∀ v P' s', Gr P s P' s' → Is P' v d → Q v s') → wpAny W.M A (call g [.str x t]) Q E s) : Cl W k g [.str x] d := fun A S P s E Q vs st i hQ => by
  obtain ⟨v, rfl, a⟩ := i.oneI; obtain ⟨t, rfl⟩ := a.strI; exact h A S P s E Q t st hQ
theorem cl_2s {x y : Str} (h : ∀ (A : Around) (S P : Vw) (s : Shared) (E Q : Value → Shared → Prop) (t u : Tok), St W k A S P s → (∀ v P' s', Gr P s P' s' → Is P' v d → Q v s') → wpAny W.M A (call g [.str x t, .str y u]) Q E s) : Cl W k g [.str x, .str y] d := fun A S P s E Q vs st i hQ => by
  obtain ⟨v, u, rfl, a, b⟩ := i.twoI; obtain ⟨t, rfl⟩ := a.strI; obtain ⟨t2, rfl⟩ := b.strI; exact h A S P s E Q t t2 st hQ
theorem cl_2s2i {x y : Str} {i j : Int} (h : ∀ (A : Around) (S P : Vw) (s : Shared) (E Q : Value → Shared → Prop) (t u v w : Tok), St W k A S P s → (∀ v P' s', Gr P s P' s' → Is P' v d → Q v s') → wpAny W.M A (call g [.str x t, .str y u, .int i v, .int j w]) Q E s) : Cl W k g [.str x, .str y, .int i, .int j] d := fun A S P s E Q vs st i hQ => by
  obtain ⟨v, _, rfl, a, i⟩ := i.consI; obtain ⟨u, _, rfl, b, i⟩ := i.consI; obtain ⟨y, z, rfl, c, e⟩ := i.twoI; obtain ⟨t, rfl⟩ := a.strI; obtain ⟨t2, rfl⟩ := b.strI; obtain ⟨t3, rfl⟩ := c.intI; obtain ⟨t4, rfl⟩ := e.intI; exact h A S P s E Q t t2 t3 t4 st hQ
end
section
variable {W : Wd} {k : Nat} {env : Env} {Γ : List (Str × D)} {Δ : List (Str × List D)}

theorem Gr.alloc {P : Vw} {s : Shared} {o : Obj} {tk : Nat} (h : In P s.heap) (hf : o.isFreed = false := by rfl) : Gr P s (plus P s.heap (s.heap.push o)) { s with heap := s.heap.push o, toks := tk } ∧ plus P s.heap (s.heap.push o) s.heap.objs.size = some o :=
  ⟨Gr.more h fun _ _ e => Heap.get?_push_of_some _ e, plus_new h (Heap.get?_none_of_le (Nat.le_refl _)) (Heap.get?_push_size _ hf)⟩
theorem Gr.pushed {P : Vw} {s : Shared} {o : Obj} {tk : Nat} (h : In P s.heap) : Gr P s P { s with heap := s.heap.push o, toks := tk } := Gr.keep h fun _ _ e => Heap.get?_push_of_some _ e

theorem none_size {P : Vw} {h : Heap} (p : In P h) : P h.objs.size = none := by
  cases q : P h.objs.size with
  | none => rfl
  | some o => exact absurd (Heap.lt_size (p _ _ q)) (Nat.lt_irrefl _)
/-! ### operators -/
theorem op_add_int {a b : Int} : Op2 W k (binaryOp .Add) (.int a) (.int b) (.int (a + b)) := op2_ii fun A S P s E Q t u st hQ => add_int (hQ _ P _ (Gr.toks st.p) (.int _ _))
theorem op_sub_int {a b : Int} : Op2 W k (binaryOp .Sub) (.int a) (.int b) (.int (a - b)) := op2_ii fun A S P s E Q t u st hQ => sub_int (hQ _ P _ (Gr.toks st.p) (.int _ _))
theorem op_mul_int {a b : Int} (h : IntMulOk a b) : Op2 W k (binaryOp .Mult) (.int a) (.int b) (.int (a * b)) := op2_ii fun A S P s E Q t u st hQ => mul_int (hQ _ P _ (Gr.toks st.p) (.int _ _)) h
theorem op_mod_int {a b : Int} (h : b ≠ 0) : Op2 W k (binaryOp .Mod) (.int a) (.int b) (.int (Int.fmod a b)) := op2_ii fun A S P s E Q t u st hQ => mod_int' h (hQ _ P _ (Gr.toks st.p) (.int _ _))
theorem op_div_int {a b : Int} (h : b ≠ 0) (hs : b.natAbs < 1073741824) : Op2 W k (binaryOp .FloorDiv) (.int a) (.int b) (.int (Int.fdiv a b)) := op2_ii fun A S P s E Q t u st hQ => floordiv_int h (hQ _ P _ (Gr.toks st.p) (.int _ _)) (Or.inl (PyProof.noPylong_small (by omega)))
theorem op_add_str {a b : Str} (h : a.length + b.length ≤ sizeLine) : Op2 W k (binaryOp .Add) (.str a) (.str b) (.str (a ++ b)) := op2_ss fun A S P s E Q t u st hQ => add_str (fun t' tk => hQ _ P _ (Gr.toks st.p) (.str _ _)) h
theorem op_mul_str {a : Str} {n : Int} (h : MulOk a n) : Op2 W k (binaryOp .Mult) (.str a) (.int n) (.str (Txt.mul a n)) := op2_si fun A S P s E Q t u st hQ => SB.mul h (fun t' tk => hQ _ P _ (Gr.toks st.p) (.str _ _))
theorem op_neg {a : Int} : Op1 W k (unaryOp .USub) (.int a) (.int (-a)) := fun A S P s E Q x st hx hQ => by
  obtain ⟨t, rfl⟩ := hx.intI; exact neg_int (hQ _ P _ (Gr.toks st.p) (.int _ _))
theorem op_eq_int {a b : Int} : Op2 W k (compareOp .Eq) (.int a) (.int b) (.bool (a == b)) := op2_ii fun A S P s E Q t u st hQ => eq_int (hQ _ P _ (Gr.refl st.p) (.bool _))
theorem op_ne_int {a b : Int} : Op2 W k (compareOp .NotEq) (.int a) (.int b) (.bool (a != b)) := op2_ii fun A S P s E Q t u st hQ => ne_int (hQ _ P _ (Gr.refl st.p) (.bool _))
theorem op_lt_int {a b : Int} : Op2 W k (compareOp .Lt) (.int a) (.int b) (.bool (decide (a < b))) := op2_ii fun A S P s E Q t u st hQ => lt_int (hQ _ P _ (Gr.refl st.p) (.bool _))
theorem op_gt_int {a b : Int} : Op2 W k (compareOp .Gt) (.int a) (.int b) (.bool (decide (b < a))) := op2_ii fun A S P s E Q t u st hQ => gt_int (hQ _ P _ (Gr.refl st.p) (.bool _))
theorem op_le_int {a b : Int} : Op2 W k (compareOp .LtE) (.int a) (.int b) (.bool (decide (a ≤ b))) := op2_ii fun A S P s E Q t u st hQ => le_int (hQ _ P _ (Gr.refl st.p) (.bool _))
theorem op_ge_int {a b : Int} : Op2 W k (compareOp .GtE) (.int a) (.int b) (.bool (decide (b ≤ a))) := op2_ii fun A S P s E Q t u st hQ => ge_int (hQ _ P _ (Gr.refl st.p) (.bool _))
theorem op_eq_str {a b : Str} : Op2 W k (compareOp .Eq) (.str a) (.str b) (.bool (a == b)) := op2_ss fun A S P s E Q t u st hQ => eq_str (hQ _ P _ (Gr.refl st.p) (.bool _))
theorem op_ne_str {a b : Str} : Op2 W k (compareOp .NotEq) (.str a) (.str b) (.bool (a != b)) := op2_ss fun A S P s E Q t u st hQ => ne_str (hQ _ P _ (Gr.refl st.p) (.bool _))
/-- «y in x» -/
noncomputable def inS (y x : Str) : Bool := !(Builtin.Str.occurrences x y 0 x.length 1).isEmpty
theorem op_in_str {a b : Str} : Op2 W k (compareOp .In) (.str a) (.str b) (.bool (inS a b)) := op2_ss fun A S P s E Q t u st hQ => in_str (hQ _ P _ (Gr.refl st.p) (.bool _))
theorem op_notin_str {a b : Str} : Op2 W k (compareOp .NotIn) (.str a) (.str b) (.bool (!inS a b)) := op2_ss fun A S P s E Q t u st hQ => notIn_str (hQ _ P _ (Gr.refl st.p) (.bool _))
theorem op_isnot_bool {a b : Bool} : Op2 W k (compareOp .IsNot) (.bool a) (.bool b) (.bool (!(a == b))) := fun A S P s E Q x y st hx hy hQ => by
  rw [hx.boolI, hy.boolI]
  refine wpAny_isNot_plain rfl ?_
  have : (Value.bool a == Value.bool b) = (a == b) := by cases a <;> cases b <;> rfl
  rw [this]; exact hQ _ P _ (Gr.refl st.p) (.bool _)
theorem op_is_none_none : Op2 W k (compareOp .Is) .none .none (.bool true) := fun A S P s E Q x y st hx hy hQ => by
  rw [hx.noneI, hy.noneI]; exact wpAny_is_plain rfl (hQ _ P _ (Gr.refl st.p) (.bool _))
theorem op_is_int_none {i : Int} : Op2 W k (compareOp .Is) (.int i) .none (.bool false) := fun A S P s E Q x y st hx hy hQ => by
  rw [hy.noneI]; obtain ⟨t, rfl⟩ := hx.intI; exact wpAny_is_plain rfl (hQ _ P _ (Gr.refl st.p) (.bool _))

/-! ### displays -/
/-- e gives a list that is new and that nobody else holds -/
noncomputable def EvN (W : Wd) (k : Nat) (env : Env) (Γ : List (Str × D)) (Δ : List (Str × List D)) (e : Expr) (ds : List D) : Prop :=
  ∀ (A : Around) (S P : Vw) (s : Shared) (E Q : Value → Shared → Prop), St W k A S P s → Cx S P env Γ Δ →
    (∀ a vs n P' s', Gr P s P' s' → 1 ≤ s'.toks → s.heap.get? a = none → P' a = none → s'.heap.get? a = some (listOf vs.toArray n) → IsAll P' vs ds → Q (.ref a) s') → wpAny W.M A (eval e env) Q E s
theorem EvN.mk {e : Expr} {ds : List D} (h : ∀ (A : Around) (S P : Vw) (s : Shared) (E Q : Value → Shared → Prop), St W k A S P s → Cx S P env Γ Δ →
    (∀ a vs n P' s', Gr P s P' s' → s.heap.get? a = none → P' a = none → s'.heap.get? a = some (listOf vs.toArray n) → IsAll P' vs ds → Q (.ref a) s') → wpAny W.M A (eval e env) Q E s) : EvN W k env Γ Δ e ds := fun A S P s E Q st hC hQ =>
  wp_tk st.tk (h A S P s E _ st hC fun a vs n P' s' g h1 h2 h3 i tk => hQ a vs n P' s' g tk h1 h2 h3 i)
open Classical in
noncomputable def addV (P : Vw) (a : Addr) (o : Obj) : Vw := fun b => if b = a then some o else P b
theorem addV_at {P : Vw} {a : Addr} {o : Obj} : addV P a o a = some o := if_pos rfl
theorem addV_ne {P : Vw} {a b : Addr} {o : Obj} (h : b ≠ a) : addV P a o b = P b := if_neg h
theorem addV_le {P : Vw} {a : Addr} {o : Obj} (h : P a = none) : Le P (addV P a o) := fun b o' e => by
  have : b ≠ a := fun q => by rw [q, h] at e; cases e
  rw [addV_ne this]; exact e
theorem Gr.add {P P' : Vw} {s s' : Shared} {a : Addr} {o : Obj} (g : Gr P s P' s') (h0 : s.heap.get? a = none) (h1 : P' a = none) (h2 : s'.heap.get? a = some o) : Gr P s (addV P' a o) s' :=
  ⟨g.le.trans (addV_le h1), fun b o' e => by
    by_cases hb : b = a
    · subst hb; rw [addV_at] at e; cases e; exact h2
    · rw [addV_ne hb] at e; exact g.inn _ _ e, g.old, fun b o' e => by
    by_cases hb : b = a
    · subst hb; exact .inr h0
    · rw [addV_ne hb] at e; exact g.new _ _ e, g.gens, g.drawn, g.os⟩
theorem EvN.ev {e : Expr} {ds : List D} (h : EvN W k env Γ Δ e ds) : Ev W k env Γ Δ e (.list ds) := fun A S P s E Q st hC hQ =>
  h A S P s E Q st hC fun a vs n P' s' g tk h0 h1 h2 i => hQ _ (addV P' a (listOf vs.toArray n)) s' (g.add h0 h1 h2) tk (.list addV_at (i.mono (addV_le h1)))
theorem evn_list {es : List Expr} {pos : Pos} {ds : List D} (h : Evs W k env Γ Δ es ds) (hsz : Nat.ble ds.length 64 = true := by rfl) : EvN W k env Γ Δ (.List es pos) ds := .mk fun A S P s E Q st hC hQ =>
  List_ (h A S P s E _ pos st hC fun vs P₁ s₁ g₁ tk₁ i₁ => by
    refine wpAny_newObj_type ?_ (by show vs.toArray.size ≤ sizeLine; rw [List.size_toArray, i₁.length]; exact Nat.le_trans (Nat.le_of_ble_eq_true hsz) (by decide))
    exact hQ _ vs 0 P₁ _ (g₁.trans (Gr.pushed (tk := s₁.toks) g₁.inn)) (none_of_old g₁.old (Heap.get?_none_of_le (Nat.le_refl _))) (none_size g₁.inn) (Heap.get?_push_size _ rfl) i₁)
theorem ev_list {es : List Expr} {pos : Pos} {ds : List D} (h : Evs W k env Γ Δ es ds) (hsz : Nat.ble ds.length 64 = true := by rfl) : Ev W k env Γ Δ (.List es pos) (.list ds) := (evn_list h hsz).ev
theorem ev_tuple {es : List Expr} {n : Nat} {pos : Pos} {ds : List D} (h : Evs W k env Γ Δ es ds) (hsz : Nat.ble ds.length 64 = true := by rfl) : Ev W k env Γ Δ (.Tuple es n pos) (.tup ds) := .mk fun A S P s E Q st hC hQ =>
  Tuple_ (h A S P s E _ pos st hC fun vs P₁ s₁ g₁ tk₁ i₁ => by
    refine wpAny_newObj_type ?_ (by show vs.toArray.size ≤ sizeLine; rw [List.size_toArray, i₁.length]; exact Nat.le_trans (Nat.le_of_ble_eq_true hsz) (by decide))
    obtain ⟨g, q⟩ := Gr.alloc (P := P₁) (s := s₁) (o := { cls := .type "tuple", data := .seq vs.toArray 0 }) (tk := s₁.toks) g₁.inn
    exact hQ _ _ _ (g₁.trans g) (.tup q (i₁.mono g.le)))

/-! ### calls of built-ins -/
theorem cl_len_str {x : Str} (h : x.length < 2 ^ 62) : Cl W k (.builtin "len") [.str x] (.int x.length) := cl_1s fun A S P s E Q t st hQ => len_str (by omega) (hQ _ P _ (Gr.toks st.p) (.int _ _))
theorem cl_len_list {ds : List D} (h : ds.length < 2 ^ 62) : ClL W k (.builtin "len") ds (.int ds.length) := fun A S P s E Q a vs n st q i hQ => by
  have hl : s.heap.IsList a vs.toArray := ⟨_, q, rfl, n, rfl⟩
  refine call_len_list hl (by rw [List.size_toArray, i.length]; omega) ?_
  rw [List.size_toArray, i.length]
  exact hQ _ P _ (Gr.toks st.p) (.int _ _)

/-! ### methods of str -/
theorem typeIs_of {P : Vw} {s : Shared} {v : Value} {x : Str} (i : Is P v (.str x)) : s.TypeIs v "str" := by obtain ⟨t, rfl⟩ := i.strI; rfl
theorem noRef_of {P : Vw} {s : Shared} {v : Value} {x : Str} (i : Is P v (.str x)) : ∀ a, v = .ref a → ∃ ob, s.heap.get? a = some ob ∧ ob.dict = none := by obtain ⟨t, rfl⟩ := i.strI; exact fun a e => nomatch e
theorem kwNone {pos : Pos} : (backToKw pos (keywordEach [] env)).all (fun x => x.1.isSome) = true := rfl
theorem few_ok {args : List Expr} {pos : Pos} (h : args.all plainE = true) (hl : args.length < 29) :
    ((backTo pos (starEach args env)).all (fun x => !x.1) && (backToKw pos (keywordEach [] env)).all (fun x => x.1.isSome) && decide (args.length + ([] : List Keyword).length + (if ([] : List Keyword).isEmpty then 0 else 1) < 30)) = true := by
  have h1 : (backTo pos (starEach args env)).all (fun x => !x.1) = true := by
    have := plain_any (env := env) (pos := pos) h
    rw [List.all_eq_true]
    intro x hx
    rw [List.any_eq_false] at this
    simpa using this x hx
  rw [h1, kwNone]
  simp only [Bool.and_self, Bool.true_and, decide_eq_true_eq, List.length_nil, List.isEmpty_nil, if_true]
  omega
/-- x.m(a, ..) of a str -/
theorem ev_smeth {o : Expr} {name : Str} {apos pos : Pos} {e : Expr} {r : List Expr} {id : String} {x : Str} {ds : List D} {d : D} (h0 : Ev W k env Γ Δ o (.str x)) (h1 : Evs W k env Γ Δ (e :: r) ds)
    (slot : Slot "str" name id) (hty : typeOf (.builtin id) = pure (.type "method_descriptor")) (hc : Cl W k (.builtin id) (.str x :: ds) d)
    (hp : (e :: r).all plainE = true := by rfl) (hl : (e :: r).length < 29 := by decide) (hbase : attributeBase o name env (eval o env) = eval o env := by rfl) (hline : (apos.endLine == pos.line) = true := by decide) :
    Ev W k env Γ Δ (.Call (.Attribute o name apos) (e :: r) [] pos) d := .mk fun A S P s E Q st hC hQ => by
  refine wpAny_Call_method hbase (few_ok hp hl) hline F.plainAttrs_str slot hty (h0 A S P s E _ st hC fun v P₁ s₁ g₁ tk₁ i₁ => ⟨typeIs_of i₁, noRef_of i₁, ?_⟩)
  refine callWith_builtin (plain_any hp) (evalArgs_ev hp (st.next g₁ tk₁) (hC.up (Le.refl _) g₁.le) h1 fun vs P₂ s₂ g₂ tk₂ i₂ => ?_)
  exact hc A S P₂ s₂ E Q (v :: vs) ((st.next g₁ tk₁).next g₂ tk₂) (.cons (i₁.mono g₂.le) i₂) fun u P₃ s₃ g₃ i₃ => hQ u P₃ s₃ ((g₁.trans g₂).trans g₃) i₃
theorem cl_find {x y : Str} : Cl W k (.builtin "str.find") [.str x, .str y] (.int (Txt.find x y)) := cl_2s fun A S P s E Q t u st hQ => SC.find (hQ _ P _ (Gr.toks st.p) (.int _ _))
theorem cl_startswith {x y : Str} : Cl W k (.builtin "str.startswith") [.str x, .str y] (.bool (Txt.startswith x y)) := cl_2s fun A S P s E Q t u st hQ => SC.startswith (hQ _ P _ (Gr.refl st.p) (.bool _))
theorem cl_endswith {x y : Str} : Cl W k (.builtin "str.endswith") [.str x, .str y] (.bool (Txt.endswith x y)) := cl_2s fun A S P s E Q t u st hQ => SC.endswith (hQ _ P _ (Gr.refl st.p) (.bool _))
theorem cl_index {x y : Str} (h : (Builtin.Str.occurrences x y 0 x.length 1).isEmpty = false) : Cl W k (.builtin "str.index") [.str x, .str y] (.int (Txt.find x y)) := cl_2s fun A S P s E Q t u st hQ => index_or st.a.1 (fun _ h' => by rw [h] at h'; cases h') (fun _ _ => hQ _ P _ (Gr.toks st.p) (.int _ _))

/-! ### items and slices -/
theorem letGo_str {base : Expr} {x : Str} {t : Tok} {r : Value} : letTemporaryGo base (.str x t) r = pure () := by cases base <;> rfl
theorem sub_slice {A : Around} {s : Shared} {E : Value → Shared → Prop} {prog : Program} {w : World} {value : Expr} {lower upper : Option Expr} {p pos : Pos} {T id : String} {Q : Value → Shared → Prop}
    (hl : typeLookup (.type T) "__getitem__" = pure (some (.builtin id)))
    (h : wpAny (model prog w) A (eval value env) (fun o s₁ => wpAny (model prog w) A (eval (.Slice lower upper none p) env) (fun i s₂ => s₂.TypeIs o T ∧ wpAny (model prog w) A (getItem o i) Q E s₂) E s₁) E s) :
    wpAny (model prog w) A (eval (.Subscript value (.Slice lower upper none p) pos) env) Q E s := by
  rw [eval_Subscript]
  refine wpAny_bind (wpAny_mono h (fun o s₁ h₁ => wpAny_bind (wpAny_holding (wpAny_mono h₁ (fun i s₂ h₂ => wpAny_bind (wpAny_standAt ?_)) fun _ _ x => x))) fun _ _ x => x)
  refine wpAny_bind ?_
  rw [getitemInPython_of_ne h₂.1.not_modules]
  refine wpAny_bind (wpAny_specialOf h₂.1 hl ?_)
  have fin : wpAny (model prog w) A (operate [i, o] (getItem o i)) (fun r s₃ => wpAny (model prog w) A (letTemporaryGo value o r >>= fun _ => pure r) Q E s₃) E s₂ :=
    wpAny_operating (wpAny_mono h₂.2 (fun r s₃ h₃ => wpAny_bind (wpAny_letTemporaryGo (wpAny_pure h₃))) fun _ _ x => x)
  first
    | exact wpAny_pure (wpAny_bind fin)
    | exact wpAny_bind (wpAny_pure (wpAny_bind fin))
    | exact wpAny_bind fin
theorem ev_item_str {value slice : Expr} {pos : Pos} {x : Str} {i : Int} (h1 : Ev W k env Γ Δ value (.str x)) (h2 : Ev W k env Γ Δ slice (.int i)) (hr : fitsSsize i = true) (hlo : -(x.length : Int) ≤ i) (hhi : i < x.length)
    (hs : ∀ (t u : Tok), subscripted slice false (.str x t) (.int i u) = operate [.str x t, .int i u] (getItem (.str x t) (.int i u)) := by intro _ _; with_unfolding_all rfl) : Ev W k env Γ Δ (.Subscript value slice pos) (.str (Txt.item x i)) := .mk fun A S P s E Q st hC hQ =>
  Subscript_ (h1 A S P s E _ st hC fun v P₁ s₁ g₁ tk₁ i₁ => h2 A S P₁ s₁ E _ (st.next g₁ tk₁) (hC.up (Le.refl _) g₁.le) fun u P₂ s₂ g₂ tk₂ i₂ => by
    obtain ⟨t1, rfl⟩ := i₁.strI; obtain ⟨t2, rfl⟩ := i₂.intI
    exact item_str hr hlo hhi (fun _ => hQ _ P₂ _ ((g₁.trans g₂).trans (Gr.toks g₂.inn)) (.str _ _)) (hs _ _) (fun _ => letGo_str))
/-- the index of an item from either end -/
noncomputable def at? (ds : List D) (i : Int) : Option D := if 0 ≤ i then ds[i.toNat]? else if -(ds.length : Int) ≤ i then ds[(i + ds.length).toNat]? else none
theorem ev_item_list {value slice : Expr} {pos : Pos} {ds : List D} {d : D} {i : Int} (h1 : EvL W k env Γ Δ value ds) (h2 : Ev W k env Γ Δ slice (.int i)) (hd : at? ds i = some d) (hb : -2 ^ 62 ≤ i ∧ i < 2 ^ 62 := by decide)
    (hs : ∀ (a : Addr) (u : Tok), subscripted slice false (.ref a) (.int i u) = operate [.ref a, .int i u] (getItem (.ref a) (.int i u)) := by intro _ _; with_unfolding_all rfl) : Ev W k env Γ Δ (.Subscript value slice pos) d := .mk fun A S P s E Q st hC hQ =>
  Subscript_ (h1 A S P s E _ st hC fun a vs n P₁ s₁ g₁ tk₁ q₁ i₁ => h2 A S P₁ s₁ E _ (st.next g₁ tk₁) (hC.up (Le.refl _) g₁.le) fun u P₂ s₂ g₂ tk₂ i₂ => by
    obtain ⟨t2, rfl⟩ := i₂.intI
    have hl : s₂.heap.IsList a vs.toArray := ⟨_, g₂.old _ _ q₁, rfl, n, rfl⟩
    have i₁' := i₁.mono g₂.le
    unfold at? at hd
    split at hd
    · rename_i h0
      obtain ⟨v, hv, hi⟩ := i₁'.get hd
      exact tail_any hl.typeIs F.slot_list_getitem.lookup (wpAny_getItem_list hl h0 (by omega) (by simpa using hv) (hQ _ P₂ _ (g₁.trans g₂) hi)) (hs _ _)
    · rename_i h0
      split at hd
      · rename_i h1'
        obtain ⟨v, hv, hi⟩ := i₁'.get hd
        refine tail_any hl.typeIs F.slot_list_getitem.lookup (wpAny_getItem_list_neg hl (by omega) ?_ (by omega) ?_ (hQ _ P₂ _ (g₁.trans g₂) hi)) (hs _ _)
        · rw [List.size_toArray, i₁'.length]; exact h1'
        · rw [List.size_toArray, i₁'.length]; simpa using hv
      · cases hd)
end
end
section
section
variable {W : Wd} {k : Nat} {env : Env} {Γ : List (Str × D)} {Δ : List (Str × List D)}

/-! ### slices -/
noncomputable def EvO (W : Wd) (k : Nat) (env : Env) (Γ : List (Str × D)) (Δ : List (Str × List D)) (o : Option Expr) (i : Option Int) : Prop :=
  ∀ (A : Around) (S P : Vw) (s : Shared) (E Q : Value → Shared → Prop), St W k A S P s → Cx S P env Γ Δ →
    (∀ (r : Option (Int × Tok)) P' s', Gr P s P' s' → 1 ≤ s'.toks → r.map (·.1) = i → Q (partValue r) s') → wpAny W.M A (evalPart o env) Q E s
theorem evo_none : EvO W k env Γ Δ none none := fun A S P s E Q st hC hQ => wpAny_pure (hQ none P s (Gr.refl st.p) st.tk rfl)
theorem evo_some {e : Expr} {i : Int} (h : Ev W k env Γ Δ e (.int i)) : EvO W k env Γ Δ (some e) (some i) := fun A S P s E Q st hC hQ =>
  h A S P s E Q st hC fun v P' s' g tk x => by obtain ⟨t, rfl⟩ := x.intI; exact hQ (some (i, t)) P' s' g tk rfl
theorem isPart_of (r : Option (Int × Tok)) : IsPart (partValue r) (r.map (·.1)) := by
  cases r with
  | none => exact .none
  | some p => exact .int _ _
theorem post_slice {s : Shared} {x : Str} {t : Tok} {l u : Option (Int × Tok)} {a b : Option Int} {Q : Value → Shared → Prop} (ha : l.map (·.1) = a) (hb : u.map (·.1) = b)
    (h : (Txt.slice x a b).length ≤ sizeLine ∧ ∀ t' k, Q (.str (Txt.slice x a b) t') { s with toks := k }) : (sliceMade x t l u none).post Q s := by
  subst ha hb
  unfold Txt.slice at h
  exact post_val_or_str h
theorem ev_slice_str {value : Expr} {lower upper : Option Expr} {p pos : Pos} {x : Str} {lo hi : Option Int} (h1 : Ev W k env Γ Δ value (.str x)) (h2 : EvO W k env Γ Δ lower lo) (h3 : EvO W k env Γ Δ upper hi) (hsz : x.length ≤ sizeLine) : Ev W k env Γ Δ (.Subscript value (.Slice lower upper none p) pos) (.str (Txt.slice x lo hi)) := .mk fun A S P s E Q st hC hQ =>
  sub_slice F.slot_str_getitem.lookup (h1 A S P s E _ st hC fun v P₁ s₁ g₁ tk₁ i₁ => wpAny_Slice (h2 A S P₁ s₁ E _ (st.next g₁ tk₁) (hC.up (Le.refl _) g₁.le) fun l P₂ s₂ g₂ tk₂ e₂ =>
    h3 A S P₂ s₂ E _ ((st.next g₁ tk₁).next g₂ tk₂) (hC.up (Le.refl _) (g₁.le.trans g₂.le)) fun u P₃ s₃ g₃ tk₃ e₃ => wpAny_pure (by
      obtain ⟨t, rfl⟩ := Is.strI i₁
      refine ⟨rfl, wpAny_getItem_str_slice (l := l) (u := u) (st := none) ⟨_, Heap.get?_push_size _ rfl, rfl, rfl⟩ rfl ?_⟩
      refine post_slice e₂ e₃ ⟨Nat.le_trans (Txt.slice_le x lo hi) hsz, fun t' n => ?_⟩
      exact hQ _ P₃ _ (((g₁.trans g₂).trans g₃).trans (Gr.pushed g₃.inn)) (.str _ _))))
noncomputable def pick {α : Type} (ds : List α) (lo hi : Option Int) : List α := (ds.drop (kms_lo lo ds.length)).take (kms_hi hi ds.length - kms_lo lo ds.length)
theorem evn_slice_list {value : Expr} {lower upper : Option Expr} {p pos : Pos} {ds : List D} {lo hi : Option Int} (h1 : EvL W k env Γ Δ value ds) (h2 : EvO W k env Γ Δ lower lo) (h3 : EvO W k env Γ Δ upper hi) (hsz : ds.length ≤ sizeLine) : EvN W k env Γ Δ (.Subscript value (.Slice lower upper none p) pos) (pick ds lo hi) := .mk fun A S P s E Q st hC hQ =>
  sub_slice F.slot_list_getitem.lookup (h1 A S P s E _ st hC fun a vs n P₁ s₁ g₁ tk₁ q₁ i₁ => wpAny_Slice (h2 A S P₁ s₁ E _ (st.next g₁ tk₁) (hC.up (Le.refl _) g₁.le) fun l P₂ s₂ g₂ tk₂ e₂ =>
    h3 A S P₂ s₂ E _ ((st.next g₁ tk₁).next g₂ tk₂) (hC.up (Le.refl _) (g₁.le.trans g₂.le)) fun u P₃ s₃ g₃ tk₃ e₃ => wpAny_pure (by
      have hl : s₃.heap.IsList a vs.toArray := ⟨_, g₃.old _ _ (g₂.old _ _ q₁), rfl, n, rfl⟩
      have hl' := hl.push { cls := .type "slice", data := .fields #[partValue l, partValue u, .none] }
      refine ⟨Heap.IsList.typeIs (s := { s₃ with heap := s₃.heap.push { cls := .type "slice", data := .fields #[partValue l, partValue u, .none] } }) hl', ?_⟩
      have i₁' := (i₁.mono g₂.le).mono g₃.le
      refine wpAny_getItem_list_slice hl' (Heap.IsSliceOf.new ..) (isPart_of l) (isPart_of u) .none (by simp) ?_ (by rw [List.size_toArray, i₁'.length]; exact hsz)
      rw [kms_pick_eq, e₂, e₃]
      have g4 : Gr P₃ s₃ P₃ { s₃ with heap := s₃.heap.push { cls := .type "slice", data := .fields #[partValue l, partValue u, .none] } } := Gr.pushed g₃.inn
      have g04 := ((g₁.trans g₂).trans g₃).trans g4
      refine hQ _ (kms_pick vs lo hi) 0 P₃ _ (g04.trans (Gr.pushed (tk := s₃.toks) g4.inn)) (none_of_old g04.old (Heap.get?_none_of_le (Nat.le_refl _))) (none_size g4.inn) (Heap.get?_push_size _ rfl) ?_
      unfold kms_pick pick
      rw [i₁'.length]
      exact (i₁'.drop _).take _)))

/-! ### what can be walked over -/
noncomputable def EvI (W : Wd) (k : Nat) (env : Env) (Γ : List (Str × D)) (Δ : List (Str × List D)) (pers : Bool) (e : Expr) (its : List D) : Prop :=
  ∀ (A : Around) (S P : Vw) (s : Shared) (E Q : Value → Shared → Prop), St W k A S P s → Cx S P env Γ Δ →
    (∀ I fp Pv Sx P' s', Gr P s P' s' → 1 ≤ s'.toks → (∀ A' : Around, A'.handled = none → Walks W.prog W.w A' I fp [I] its.length Pv Sx) → (∀ i v, Pv i v → ∃ d, its[i]? = some d ∧ Is P' v d) → Sx 0 s'.heap →
      s.heap.get? I = none → P' I = none → (∀ i h, Sx i h → ∃ o, h.get? I = some o) → (∀ b ∈ fp, b ≠ I → ∃ o, s'.heap.get? b = some o ∧ (pers = true → P' b = some o)) → Q (.ref I) s') →
    wpAny W.M A (eval e env) (fun x s₁ => wpAny W.M A (pyIter x) Q E s₁) E s
theorem gone {h h' : Heap} (k : ∀ b o, h.get? b = some o → h'.get? b = some o) : h.get? h'.objs.size = none := none_of_old k (Heap.get?_none_of_le (Nat.le_refl _))
theorem evi_list {e : Expr} {ds : List D} (h : EvL W k env Γ Δ e ds) : EvI W k env Γ Δ false e ds := fun A S P s E Q st hC hQ =>
  h A S P s E _ st hC fun a vs n P₁ s₁ g₁ tk₁ q₁ i₁ => by
    have hl : s₁.heap.IsList a vs.toArray := ⟨_, q₁, rfl, n, rfl⟩
    have hne : a ≠ s₁.heap.objs.size := Nat.ne_of_lt (Heap.lt_size q₁)
    have hlen : vs.toArray.size = ds.length := by rw [List.size_toArray, i₁.length]
    refine wpAny_pyIter_list hl (hQ s₁.heap.objs.size [s₁.heap.objs.size, a] _ _ P₁ _ (g₁.trans (Gr.pushed (tk := s₁.toks) g₁.inn)) tk₁ (fun A' hA => hlen ▸ Walks.list hA s₁.heap.objs.size a hne vs.toArray) ?_
      ⟨⟨_, Heap.get?_push_size _ rfl, rfl, rfl⟩, hl.push _⟩ (gone g₁.old) (none_size g₁.inn) (fun i h x => by obtain ⟨o, q, _⟩ := x.1; exact ⟨o, q⟩) ?_)
    · intro i v hv
      exact i₁.getV (by simpa using hv)
    · intro b hb hne'
      rcases List.mem_cons.mp hb with rfl | hb
      · exact absurd rfl hne'
      · rw [List.mem_singleton.mp hb]
        exact ⟨_, Heap.get?_push_of_some _ q₁, fun e => by cases e⟩
theorem evi_listP {e : Expr} {ds : List D} (h : Ev W k env Γ Δ e (.list ds)) : EvI W k env Γ Δ true e ds := fun A S P s E Q st hC hQ =>
  h A S P s E _ st hC fun v P₁ s₁ g₁ tk₁ i₁ => by
    obtain ⟨a, vs, n, rfl, q₀, i₁⟩ := i₁.listI
    have q₁ := g₁.inn _ _ q₀
    have hl : s₁.heap.IsList a vs.toArray := ⟨_, q₁, rfl, n, rfl⟩
    have hne : a ≠ s₁.heap.objs.size := Nat.ne_of_lt (Heap.lt_size q₁)
    have hlen : vs.toArray.size = ds.length := by rw [List.size_toArray, i₁.length]
    refine wpAny_pyIter_list hl (hQ s₁.heap.objs.size [s₁.heap.objs.size, a] _ _ P₁ _ (g₁.trans (Gr.pushed (tk := s₁.toks) g₁.inn)) tk₁ (fun A' hA => hlen ▸ Walks.list hA s₁.heap.objs.size a hne vs.toArray) ?_
      ⟨⟨_, Heap.get?_push_size _ rfl, rfl, rfl⟩, hl.push _⟩ (gone g₁.old) (none_size g₁.inn) (fun i h x => by obtain ⟨o, q, _⟩ := x.1; exact ⟨o, q⟩) ?_)
    · intro i v hv
      exact i₁.getV (by simpa using hv)
    · intro b hb hne'
      rcases List.mem_cons.mp hb with rfl | hb
      · exact absurd rfl hne'
      · rw [List.mem_singleton.mp hb]
        exact ⟨_, Heap.get?_push_of_some _ q₁, fun _ => q₀⟩
noncomputable def chars (x : Str) : List D := x.cps.toList.map fun c => D.str ⟨#[c]⟩
theorem evi_str {e : Expr} {x : Str} (h : Ev W k env Γ Δ e (.str x)) : EvI W k env Γ Δ true e (chars x) := fun A S P s E Q st hC hQ =>
  h A S P s E _ st hC fun v P₁ s₁ g₁ tk₁ i₁ => by
    obtain ⟨t, rfl⟩ := Is.strI i₁
    have hlen : x.cps.size = (chars x).length := by simp [chars]
    have hP : ∀ (P' : Vw) i v, SignAt x i v → ∃ d, (chars x)[i]? = some d ∧ Is P' v d := by
      rintro P' i v ⟨c, u, hc, rfl⟩
      exact ⟨.str ⟨#[c]⟩, by simp [chars, hc], .str _ _⟩
    cases ha : x.cps.all (· < 128)
    · exact wpAny_pyIter_wide ha (hQ s₁.heap.objs.size [s₁.heap.objs.size] _ _ P₁ _ (g₁.trans (Gr.pushed (tk := s₁.toks) g₁.inn)) tk₁ (fun A' hA => hlen ▸ Walks.strWide hA _ x t) (hP P₁) ⟨_, Heap.get?_push_size _ rfl, rfl, rfl⟩ (gone g₁.old) (none_size g₁.inn)
        (fun i h y => by obtain ⟨o, q, _⟩ := y; exact ⟨o, q⟩) fun b hb hne => absurd (List.mem_singleton.mp hb) hne)
    · exact wpAny_pyIter_ascii ha (hQ s₁.heap.objs.size [s₁.heap.objs.size] _ _ P₁ _ (g₁.trans (Gr.pushed (tk := s₁.toks) g₁.inn)) tk₁ (fun A' hA => hlen ▸ Walks.strAscii hA _ x t) (hP P₁) ⟨_, Heap.get?_push_size _ rfl, rfl, rfl⟩ (gone g₁.old) (none_size g₁.inn)
        (fun i h y => by obtain ⟨o, q, _⟩ := y; exact ⟨o, q⟩) fun b hb hne => absurd (List.mem_singleton.mp hb) hne)
/-- range(a, a + n) -/
noncomputable def rngs (a : Int) (n : Nat) : List D := (List.range n).map fun (i : Nat) => D.int (a + (i : Int))
theorem range_go {A : Around} {S P : Vw} {s : Shared} {E Q : Value → Shared → Prop} {r : Addr} {a b : Int} {t u v : Tok} {n : Nat} (st : St W k A S P s) (hr : IsRange s.heap r a b 1 t u v) (hsm : Builtin.Range.small a b 1 = true) (hn : Builtin.Range.rangeSize a b 1 = ((n : Nat) : Int))
    (hQ : ∀ I fp Pv Sx P' s', Gr P s P' s' → 1 ≤ s'.toks → (∀ A' : Around, A'.handled = none → Walks W.prog W.w A' I fp [I] (rngs a n).length Pv Sx) → (∀ i v, Pv i v → ∃ d, (rngs a n)[i]? = some d ∧ Is P' v d) → Sx 0 s'.heap →
      s.heap.get? I = none → P' I = none → (∀ i h, Sx i h → ∃ o, h.get? I = some o) → (∀ b ∈ fp, b ≠ I → ∃ o, s'.heap.get? b = some o ∧ (true = true → P' b = some o)) → Q (.ref I) s') : wpAny W.M A (pyIter (.ref r)) Q E s := by
  have hlen : (rngs a n).length = n := by simp [rngs]
  refine wpAny_pyIter_range hr hsm (hQ s.heap.objs.size [s.heap.objs.size] (fun i v => i < n ∧ ∃ t, v = .int (a + (i : Int)) t) (fun i h => IsRangeIter h s.heap.objs.size (a + (i : Nat) * 1) ((n : Int) - (i : Nat)) 1) P _ (Gr.pushed (tk := s.toks) st.p) st.tk (fun A' hA => ?_) ?_
    (by show IsRangeIter _ _ _ _ _; rw [hn]; simpa using Heap.get?_push_size _ rfl) (Heap.get?_none_of_le (Nat.le_refl _)) (none_size st.p) (fun i h x => ⟨_, x⟩) fun b hb hne => absurd (List.mem_singleton.mp hb) hne)
  · rw [hlen]
    have W' : Walks W.prog W.w A' s.heap.objs.size [s.heap.objs.size] [s.heap.objs.size] n (fun i v => i < n ∧ ∃ t, v = .int (a + i * 1) t) (fun i h => IsRangeIter h s.heap.objs.size (a + (i : Nat) * 1) ((n : Int) - (i : Nat)) 1) := (Walks.range hA _ a 1 n).bound
    simpa only [Int.mul_one] using W'
  · rintro i v ⟨hi, t, rfl⟩
    exact ⟨.int (a + (i : Int)), by simp [rngs, hi], .int _ _⟩
end
end
section
section
variable {W : Wd} {k : Nat} {env : Env} {Γ : List (Str × D)} {Δ : List (Str × List D)}

/-! ### comprehensions -/
structure Lp (P₂ : Vw) (s₂ : Shared) (I C T : Addr) (P' : Vw) (s' : Shared) : Prop where
  le : Le P₂ P'
  inn : In P' s'.heap
  old : ∀ b o, b ≠ I → s₂.heap.get? b = some o → s'.heap.get? b = some o
  new : ∀ b o, P' b = some o → P₂ b = some o ∨ s₂.heap.get? b = none
  hI : P' I = none ∧ ∃ o, s'.heap.get? I = some o
  hC : P' C = none ∧ ∃ o, s'.heap.get? C = some o
  hT : P' T = none ∧ ∃ o, s'.heap.get? T = some o
  gens : GG s₂.gens s'.gens
  drawn : s'.drawn = s₂.drawn
  os : s'.os = s₂.os
theorem gr_none {P P' : Vw} {s s' : Shared} (g : Gr P s P' s') {b : Addr} (h : P b = none ∧ ∃ o, s.heap.get? b = some o) : P' b = none ∧ ∃ o, s'.heap.get? b = some o := by
  obtain ⟨h1, o, ho⟩ := h
  refine ⟨?_, o, g.old _ _ ho⟩
  cases q : P' b with
  | none => rfl
  | some o' =>
    rcases g.new b o' q with z | z
    · rw [h1] at z; cases z
    · rw [ho] at z; cases z
theorem Lp.gr {P₂ P' P'' : Vw} {s₂ s' s'' : Shared} {I C T : Addr} (x : Lp P₂ s₂ I C T P' s') (g : Gr P' s' P'' s'') : Lp P₂ s₂ I C T P'' s'' where
  le := x.le.trans g.le
  inn := g.inn
  old := fun b o n e => g.old b o (x.old b o n e)
  new := fun b o e => (g.new b o e).elim (x.new b o) fun z => by
    cases q : s₂.heap.get? b with
    | none => exact .inr rfl
    | some o' =>
      exfalso
      by_cases hb : b = I
      · subst hb
        obtain ⟨_, oI, hI⟩ := x.hI
        rw [hI] at z; cases z
      · rw [x.old b o' hb q] at z; cases z
  hI := gr_none g x.hI
  hC := gr_none g x.hC
  hT := gr_none g x.hT
  gens := x.gens.trans g.gens
  drawn := g.drawn.trans x.drawn
  os := g.os.trans x.os
theorem Lp.set {P₂ P' : Vw} {s₂ s' : Shared} {I C T a : Addr} {h' : Heap} {tk : Nat} (x : Lp P₂ s₂ I C T P' s') (ha : P' a = none) (hn : a = I ∨ s₂.heap.get? a = none) (hk : ∀ b o, b ≠ a → s'.heap.get? b = some o → h'.get? b = some o) (he : ∃ o, h'.get? a = some o) : Lp P₂ s₂ I C T P' { s' with heap := h', toks := tk } where
  le := x.le
  inn := fun b o e => hk b o (fun q => by rw [q, ha] at e; cases e) (x.inn b o e)
  old := fun b o n e => hk b o (fun q => by
    rcases hn with z | z
    · exact n (q.trans z)
    · rw [q, z] at e; cases e) (x.old b o n e)
  new := x.new
  hI := ⟨x.hI.1, by
    obtain ⟨_, o, q⟩ := x.hI
    by_cases e : I = a
    · rw [e]; exact he
    · exact ⟨o, hk _ _ e q⟩⟩
  hC := ⟨x.hC.1, by
    obtain ⟨_, o, q⟩ := x.hC
    by_cases e : C = a
    · rw [e]; exact he
    · exact ⟨o, hk _ _ e q⟩⟩
  hT := ⟨x.hT.1, by
    obtain ⟨_, o, q⟩ := x.hT
    by_cases e : T = a
    · rw [e]; exact he
    · exact ⟨o, hk _ _ e q⟩⟩
  gens := x.gens
  drawn := x.drawn
  os := x.os

theorem forIn_false {α : Type} (l : List α) (f : α → Bool → Sem (ForInStep Bool)) (h : ∀ x, f x false = pure (.yield false)) : forIn l false f = pure false := by
  induction l with
  | nil => rfl
  | cons x l ih => rw [List.forIn_cons, h, pure_bind]; exact ih
theorem wp_tests {A : Around} {S P : Vw} {s : Shared} {E : Value → Shared → Prop} {Q : Bool → Shared → Prop} {ifs : List Expr} {b : Bool} (st : St W k A S P s) (hC : Cx S P env Γ Δ) (h : TsAnd W k env Γ Δ ifs b) (hQ : ∀ P' s', Gr P s P' s' → 1 ≤ s'.toks → Q b s') :
    wpAny W.M A (forIn ifs true fun c r => if r = true then do let ok ← isTrue c env (eval c env); pure (ForInStep.yield ok) else pure (ForInStep.yield r)) Q E s := by
  induction h generalizing P s with
  | nil => rw [List.forIn_nil]; exact wpAny_pure (hQ P s (Gr.refl st.p) st.tk)
  | tt h1 _ ih =>
    rw [List.forIn_cons, if_pos rfl]
    refine wpAny_bind (wpAny_bind (h1 A S P s E _ st hC fun P₁ s₁ g₁ tk₁ => wpAny_pure ?_))
    exact ih (st.next g₁ tk₁) (hC.up (Le.refl _) g₁.le) fun P₂ s₂ g₂ tk₂ => hQ P₂ s₂ (g₁.trans g₂) tk₂
  | ff h1 =>
    rw [List.forIn_cons, if_pos rfl]
    refine wpAny_bind (wpAny_bind (h1 A S P s E _ st hC fun P₁ s₁ g₁ tk₁ => wpAny_pure ?_))
    refine wpAny_of_eq (forIn_false _ _ fun x => ?_) (hQ P₁ s₁ g₁ tk₁)
    rw [if_neg Bool.false_ne_true]

noncomputable def CompItem (W : Wd) (k : Nat) (env : Env) (Γ : List (Str × D)) (Δ : List (Str × List D)) (ifs : List Expr) (elt : Expr) : Option D → Prop
  | some d => TsAnd W k env Γ Δ ifs true ∧ Ev W k env Γ Δ elt d
  | none => TsAnd W k env Γ Δ ifs false

/-- names that a comprehension reads through its cells -/
noncomputable def Thru (env : Env) (scope : Scope) (cl : List (Str × Addr)) : List Str → Prop
  | [] => True
  | y :: r => ((env.kindOf y = some .cell ∨ env.kindOf y = some .free) ∧ ((compEnvC scope cl 0 env).kindOf y = some .cell ∨ (compEnvC scope cl 0 env).kindOf y = some .free) ∧ cl.lookup y = env.cells.lookup y) ∧ Thru env scope cl r
theorem Thru.mem {scope : Scope} {cl : List (Str × Addr)} : ∀ {l : List Str}, Thru env scope cl l → ∀ y ∈ l, (env.kindOf y = some .cell ∨ env.kindOf y = some .free) ∧ ((compEnvC scope cl 0 env).kindOf y = some .cell ∨ (compEnvC scope cl 0 env).kindOf y = some .free) ∧ cl.lookup y = env.cells.lookup y
  | _ :: _, h, y, hm => by
    rcases List.mem_cons.mp hm with rfl | m
    · exact h.1
    · exact Thru.mem h.2 y m
theorem NameOk.thru {S S' : Vw} {scope : Scope} {cl : List (Str × Addr)} {C : Addr} {y : Str} {v : Value} (n : NameOk S env y v) (h : (env.kindOf y = some .cell ∨ env.kindOf y = some .free) ∧ ((compEnvC scope cl 0 env).kindOf y = some .cell ∨ (compEnvC scope cl 0 env).kindOf y = some .free) ∧ cl.lookup y = env.cells.lookup y)
    (hS : Le S S') : NameOk S' (compEnvC scope cl C env) y v := by
  cases n with
  | loc a b c d => rcases h.1 with e | e <;> rw [a] at e <;> cases e
  | cel a b c d => exact .cel h.2.1 (h.2.2.trans b) (hS _ _ c) d

theorem filterMap_take_succ {α β : Type} (f : α → Option β) (l : List α) (i : Nat) (a : α) (h : l[i]? = some a) : (l.take (i + 1)).filterMap f = (l.take i).filterMap f ++ (f a).toList := by
  rw [List.take_add_one, h, List.filterMap_append]
  cases q : f a <;> simp [q]

theorem Gr.but {P P' : Vw} {s s' : Shared} {C : Addr} {h' : Heap} (g : Gr P s P' s') (h0 : s.heap.get? C = none) (h1 : P' C = none) (hs : Heap.SameBut C s'.heap h') : Gr P s P' { s' with heap := h' } :=
  ⟨g.le, fun b o e => hs.extBut b o (fun q => by rw [q, h1] at e; cases e) (g.inn b o e), fun b o e => hs.extBut b o (fun q => by rw [q, h0] at e; cases e) (g.old b o e), g.new, g.gens, g.drawn, g.os⟩
theorem comp_core {elt iter : Expr} {x : Str} {px : Pos} {ifs : List Expr} {scope : Scope} {pos : Pos} {cl : List (Str × Addr)} {its : List D} {res : List (Option D)} {Γ' : List (Str × D)} {Δ' : List (Str × List D)} {b : Bool}
    {A : Around} {S P : Vw} {s : Shared} {E : Value → Shared → Prop} {RR : Value → Addr → Result → Shared → Prop} (st : St W k A S P s) (hC : Cx S P env Γ Δ)
    (hI : EvI W k env Γ Δ b iter its) (hlen : res.length = its.length)
    (helt : ∀ (C : Addr) (i : Nat) (d : D) (r : Option D), its[i]? = some d → res[i]? = some r → CompItem W k (compEnvC scope cl C env) ((x, d) :: Γ') Δ' ifs elt r)
    (hΓ : ∀ p ∈ Γ', p ∈ Γ) (hΔ : ∀ p ∈ Δ', p ∈ Δ) (hthru : Thru env scope cl (Γ'.map (·.1) ++ Δ'.map (·.1)))
    (hcell : ∀ y ∈ scope.names, y.2 ≠ .cell) (hkind : scope.kind = .function) (hx : scope.names.lookup x = some .local) (hsz : its.length ≤ sizeLine)
    (hRR : ∀ T C ys P' s', Gr P s P' s' → 1 ≤ s'.toks → s.heap.get? T = none → P' T = none → s'.heap.get? T = some (LCg.lst ys) → IsAll P' ys (res.filterMap id) → s.heap.get? C = none → P' C = none → C ≠ T → (∃ m, s'.heap.Ns C m) → RR (.ref T) C (.ok .next) s') :
    wpAny W.M A (eval iter env) (fun x₁ s₁ => wpAny W.M A (pyIter x₁) (fun it s₂ => wpAny W.M A (newList []) (fun acc s₃ => wpAny W.M A (newFunctionEnv scope env.globals cl [] env.qual none .none (some env)) (fun cenv s₄ =>
      codeAny W.M A (.compStart (.ListComp elt [⟨.Name x px, iter, ifs, 0⟩] scope pos) 0 it acc { cenv with scope := relabel scope env }) (RR acc cenv.locals) s₄) E s₃) E s₂) E s₁) E s := by
  refine hI A S P s E _ st hC fun I fp Pv Sx P₂ s₂ g₂ tk₂ hW hP hst₂ hIs hI0 hIx hfp => ?_
  have W' := hW A st.a.1
  have p₂ := g₂.inn
  obtain ⟨oI, hoI⟩ := hIx _ _ hst₂
  have hIlt : I < s₂.heap.objs.size := Heap.lt_size hoI
  refine wpAny_newObj_type (wpAny_newFunctionEnv hcell (by intro y hy; simp at hy) (fun h₁ hns₁ hsb₁ => ?_) hkind)
  dsimp only at hns₁ hsb₁ ⊢
  generalize hH2 : s₂.heap.push { cls := .type "list", dict := none, data := .seq ([] : List Value).toArray } = H2 at hns₁ hsb₁ ⊢
  have hCs : H2.objs.size = s₂.heap.objs.size + 1 := by rw [← hH2, Heap.size_push]
  have hDC : s₂.heap.objs.size ≠ H2.objs.size := by rw [hCs]; exact Nat.ne_of_lt (Nat.lt_succ_self _)
  have below : ∀ b, b < s₂.heap.objs.size → b ≠ H2.objs.size ∧ b ≠ s₂.heap.objs.size := fun b hb => ⟨by rw [hCs]; exact Nat.ne_of_lt (Nat.lt_succ_of_lt hb), Nat.ne_of_lt hb⟩
  have old : ∀ b o, s₂.heap.get? b = some o → h₁.get? b = some o := fun b o e => hsb₁.extBut b o (below b (Heap.lt_size e)).1 (Heap.get?_push_of_some _ (hH2 ▸ Heap.get?_push_of_some _ e))
  have hacc : h₁.get? s₂.heap.objs.size = some (LCg.lst []) := hsb₁.extBut _ _ hDC (Heap.get?_push_of_some _ (hH2 ▸ Heap.get?_push_size _ rfl))
  have fresh : ∀ a, s₂.heap.objs.size ≤ a → s₂.heap.get? a = none := fun a ha => Heap.get?_none_of_le ha
  have freshP : ∀ a, s₂.heap.objs.size ≤ a → P₂ a = none := fun a ha => by
    cases q : P₂ a with
    | none => rfl
    | some o => have := p₂ _ _ q; rw [fresh a ha] at this; cases this
  generalize hT : s₂.heap.objs.size = T at *
  generalize hCC : H2.objs.size = C at *
  have hIC : I ≠ C := (below I hIlt).1
  have hIT : I ≠ T := (below I hIlt).2
  have freshT : s₂.heap.get? T = none := fresh T (Nat.le_refl _)
  have freshC : s₂.heap.get? C = none := fresh C (by rw [hCs]; exact Nat.le_succ _)
  have hTf : T ∉ fp := fun hm => by
    obtain ⟨o, q, _⟩ := hfp T hm (Ne.symm hIT)
    rw [freshT] at q; cases q
  have hCf : C ∉ fp := fun hm => by
    obtain ⟨o, q, _⟩ := hfp C hm (Ne.symm hIC)
    rw [freshC] at q; cases q
  have hst₁ : Sx 0 h₁ := W'.frame _ _ _ hst₂ fun b _ o e => old b o e
  -- the state of the loop
  have L₀ : ∀ tk, Lp P₂ s₂ I C T P₂ { s₂ with heap := h₁, toks := tk } := fun tk =>
    { le := Le.refl _, inn := fun b o e => old b o (p₂ b o e), old := fun b o _ e => old b o e, new := fun b o e => .inl e, hI := ⟨hI0, oI, old _ _ hoI⟩,
      hC := ⟨freshP C (by rw [hCs]; exact Nat.le_succ _), by obtain ⟨o, _, _, q, _⟩ := hns₁; exact ⟨o, q⟩⟩, hT := ⟨freshP T (Nat.le_refl _), _, hacc⟩, gens := GG.refl _, drawn := rfl, os := rfl }
  have loop : ∀ s₃ : Shared, s₃ = { s₂ with heap := h₁, toks := s₂.toks + ([] : List (Str × Value)).length } →
      codeAny W.M A (.compLoop (.ListComp elt [⟨.Name x px, iter, ifs, 0⟩] scope pos) 0 (.ref I) (.ref T) (compEnvC scope cl C env)) (RR (.ref T) C) s₃ := by
    rintro s₃ rfl
    refine codeAny_compLoop_tests
      (fun j s' => ∃ i ys m' P', i ≤ its.length ∧ j = its.length + 1 - i ∧ Sx i s'.heap ∧ s'.heap.Ns C m' ∧ s'.heap.get? T = some (LCg.lst ys) ∧ IsAll P' ys ((res.take i).filterMap id) ∧ Lp P₂ s₂ I C T P' s' ∧ 1 ≤ s'.toks) ?_ (its.length + 1)
      ⟨0, [], _, P₂, Nat.zero_le _, rfl, hst₁, hns₁, hacc, .nil, L₀ _, Nat.le_trans tk₂ (Nat.le_add_right _ _)⟩
    rintro j s' ⟨i, ys, m', P', hi, rfl, hst', hn', hacc', hys, L', tk'⟩
    by_cases hlt : i < its.length
    · refine wp_tk tk' (W'.item i s' _ _ hlt hst' fun v h₂ tk₂' hPv hst₂' hk₂ tkv => ?_)
      obtain ⟨d, hd, hid⟩ := hP i v hPv
      obtain ⟨r, hr⟩ : ∃ r, res[i]? = some r := ⟨res[i]'(by rw [hlen]; exact hlt), by rw [List.getElem?_eq_getElem]⟩
      have L₂ : Lp P₂ s₂ I C T P' { s' with heap := h₂, toks := tk₂' } := L'.set L'.hI.1 (.inl rfl) (fun b o n e => hk₂ b o (by simpa using n) e) (hIx _ _ hst₂')
      refine wpAny_assign_Name (wpAny_storeName_local (lookup_relabel_local hx) (hn'.at' fun o e => hk₂ _ o (by simpa using Ne.symm hIC) e) (fun h₃ hn₃ hs₃ => ?_) (by simp [compEnvC, relabel, hkind]))
      have L₃ : Lp P₂ s₂ I C T P' { s' with heap := h₃, toks := tk₂' + 1 } := L₂.set L'.hC.1 (.inr freshC) (fun b o n e => hs₃.extBut b o n e) (by obtain ⟨o, _, _, q, _⟩ := hn₃; exact ⟨o, q⟩)
      have hst₃ : Sx (i + 1) h₃ := W'.frame _ _ _ hst₂' fun b hb o e => hs₃.extBut b o (fun q => hCf (by have q' : b = C := q; rw [← q']; exact hb)) e
      have hacc₃ : h₃.get? T = some (LCg.lst ys) := hs₃.extBut _ _ hDC (hk₂ _ _ (by simpa using Ne.symm hIT) hacc')
      obtain ⟨oC, hoC, nsC⟩ := LCg.ns_obj hn₃
      have upS : Le S (fun b => h₃.get? b) := fun b o e => L₃.old b o (fun q => by have := st.sv _ _ e; rw [q, hIs] at this; cases this) (g₂.old _ _ (st.sv _ _ e))
      have st₃ : St W k A (fun b => h₃.get? b) P' { s' with heap := h₃, toks := tk₂' + 1 } := ⟨st.a, (st.b.up g₂.le).up L₃.le, fun b o e => e, L₃.inn, Nat.le_trans tkv (Nat.le_succ _), fun p hp => (st.rw p hp).imp fun o hh => ⟨upS _ _ hh.1, (hh.2.mono g₂.le).mono L₃.le⟩⟩
      have C₃ : Cx (fun b => h₃.get? b) P' (compEnvC scope cl C env) ((x, d) :: Γ') Δ' := by
        refine ⟨by simp [compEnvC, relabel, hkind], hC.gl, hC.bi, fun p hp => ?_, fun p hp => ?_⟩
        · rcases List.mem_cons.mp hp with rfl | hp
          · exact ⟨v, .loc (lookup_relabel_local hx) hoC nsC (by simp), hid.mono L₃.le⟩
          · obtain ⟨u, n, q⟩ := hC.vars p (hΓ p hp)
            exact ⟨u, n.thru (hthru.mem p.1 (List.mem_append.mpr (.inl (List.mem_map_of_mem hp)))) upS, (q.mono g₂.le).mono L₃.le⟩
        · obtain ⟨a, vs, n, nm, q, r⟩ := hC.muts p (hΔ p hp)
          exact ⟨a, vs, n, nm.thru (hthru.mem p.1 (List.mem_append.mpr (.inr (List.mem_map_of_mem hp)))) upS, upS _ _ q, (r.mono g₂.le).mono L₃.le⟩
      have hit := helt C i d r hd hr
      have hfm := filterMap_take_succ id res i r hr
      cases r with
      | none =>
        refine wp_tests st₃ C₃ hit fun P₄ s₄ g₄ tk₄ => ?_
        rw [if_neg Bool.false_ne_true]
        have L₄ := L₃.gr g₄
        refine ⟨its.length + 1 - (i + 1), ar_step hlt, i + 1, ys, _, P₄, hlt, rfl, W'.frame _ _ _ hst₃ fun b _ o e => g₄.old b o e, hn₃.keeps g₄.old, g₄.old _ _ hacc₃, ?_, L₄, tk₄⟩
        rw [hfm]
        simpa using hys.mono g₄.le
      | some d' =>
        refine wp_tests st₃ C₃ hit.1 fun P₄ s₄ g₄ tk₄ => ?_
        rw [if_pos rfl]
        have st₄ : St W k A (fun b => h₃.get? b) P₄ s₄ := st₃.next g₄ tk₄
        refine hit.2 A (fun b => h₃.get? b) P₄ s₄ _ _ st₄ (C₃.up (Le.refl _) g₄.le) fun y P₅ s₅ g₅ tk₅ i₅ => ?_
        have g45 := g₄.trans g₅
        have L₅ := L₃.gr g45
        have hacc₅ : s₅.heap.get? T = some (LCg.lst ys) := g45.old _ _ hacc₃
        have hyl : ys.length ≤ i := by
          have e1 := hys.length
          have e2 := List.length_filterMap_le id (res.take i)
          rw [e1]
          exact Nat.le_trans e2 (by rw [List.length_take]; exact Nat.min_le_left _ _)
        refine append_at (hsz := by show ys.toArray.size ≤ sizeLine; exact ar_le3 hyl hlt hsz) hacc₅ fun h₆ hs₆ hD₆ => ?_
        have L₆ : Lp P₂ s₂ I C T P₅ { s₅ with heap := h₆, toks := s₅.toks } := L₅.set L₅.hT.1 (.inr freshT) (fun b o n e => hs₆.extBut b o n e) ⟨_, hD₆⟩
        refine ⟨its.length + 1 - (i + 1), ar_step hlt, i + 1, ys ++ [y], _, P₅, hlt, rfl, ?_, (hn₃.keeps g45.old).sameBut hs₆ (Ne.symm hDC), hD₆.trans (congrArg some (LCg.lst_snoc ys y)), ?_, L₆, tk₅⟩
        · exact W'.frame _ _ h₆ hst₃ fun b hb o e => hs₆.extBut b o (fun q => hTf (q ▸ hb)) (g45.old b o e)
        · rw [hfm]
          exact ((hys.mono g₄.le).mono g₅.le).append (by simpa using IsAll.cons i₅ .nil)
    · obtain rfl : i = its.length := Nat.le_antisymm hi (Nat.not_lt.mp hlt)
      refine wp_tk tk' (W'.done s' _ _ hst' fun h₂ tk₂' hk₂ tkd => ?_)
      have hT' : h₂.get? T = some (LCg.lst ys) := hk₂ _ _ (by simpa using Ne.symm hIT) hacc'
      have up : ∀ b o, b ≠ I → s'.heap.get? b = some o → h₂.get? b = some o := fun b o n1 e => hk₂ b o (by simpa using n1) e
      have hf : (res.take its.length).filterMap id = res.filterMap id := by rw [← hlen, List.take_length]
      refine hRR T C ys P' _ ⟨g₂.le.trans L'.le, fun b o e => ?_, fun b o e => ?_, fun b o e => ?_, g₂.gens.trans L'.gens, L'.drawn.trans g₂.drawn, L'.os.trans g₂.os⟩ tkd (none_of_old g₂.old freshT) L'.hT.1 hT' ?_ (none_of_old g₂.old freshC) L'.hC.1 (Ne.symm hDC)
        ⟨m', hn'.at' fun o e => hk₂ _ o (by simpa using Ne.symm hIC) e⟩
      · exact up b o (fun q => by rw [q, L'.hI.1] at e; cases e) (L'.inn _ _ e)
      · have n1 : b ≠ I := fun q => by rw [q, hIs] at e; cases e
        exact up b o n1 (L'.old b o n1 (g₂.old _ _ e))
      · rcases L'.new b o e with z | z
        · exact g₂.new b o z
        · exact .inr (none_of_old g₂.old z)
      · rw [← hf]
        exact hys
  exact codeAny_compStart_list (loop _ rfl) (W'.self 0 _ _ _ hst₁ (loop _ rfl))
theorem evn_comp {elt iter : Expr} {x : Str} {px : Pos} {ifs : List Expr} {scope : Scope} {pos : Pos} {cl : List (Str × Addr)} {its : List D} {res : List (Option D)} {Γ' : List (Str × D)} {Δ' : List (Str × List D)} {b : Bool}
    (hI : EvI W k env Γ Δ b iter its) (hlen : res.length = its.length)
    (helt : ∀ (C : Addr) (i : Nat) (d : D) (r : Option D), its[i]? = some d → res[i]? = some r → CompItem W k (compEnvC scope cl C env) ((x, d) :: Γ') Δ' ifs elt r)
    (hΓ : ∀ p ∈ Γ', p ∈ Γ) (hΔ : ∀ p ∈ Δ', p ∈ Δ) (hthru : Thru env scope cl (Γ'.map (·.1) ++ Δ'.map (·.1)))
    (hclos : closureFor scope env = pure cl) (hcell : ∀ y ∈ scope.names, y.2 ≠ .cell) (hkind : scope.kind = .function)
    (hnames : ∀ y ∈ scope.names, y.2 = .local → scope.names.lookup y.1 = some .local) (hx : scope.names.lookup x = some .local)
    (hsz : its.length ≤ sizeLine)
    (hs : ∀ v, foldedSetIterable iter env v = pure v := by intro _; rfl) :
    EvN W k env Γ Δ (.ListComp elt [⟨.Name x px, iter, ifs, 0⟩] scope pos) (res.filterMap id) := .mk fun A S P s E Q st hC hQ => by
  rw [eval_ListComp]
  refine wpAny_comprehension_free (use := none) rfl hs hclos hkind hnames ?_
  refine comp_core st hC hI hlen helt hΓ hΔ hthru hcell hkind hx hsz fun T C ys P' s' g tk h0 h1 h2 hi c0 c1 cT hm => ?_
  obtain ⟨m', hn'⟩ := hm
  exact ⟨m', hn', fun h' hs' => hQ T ys ys.length P' _ (g.but c0 c1 hs') h0 h1 (hs'.extBut _ _ (Ne.symm cT) h2) hi⟩
end
end
section
/-! ### a frame at work -/
noncomputable def lookN (env : Env) (m cv : Str → Option Value) (x : Str) : Option Value := match env.kindOf x with
  | some .local => m x
  | some .cell => if (env.cells.lookup x).isSome then cv x else none
  | _ => none
noncomputable def ownOf (env : Env) (Δ : List (Str × List D)) (ad : Str → Addr) (Mx : List (Addr × MO)) : List Addr := env.locals :: (env.cells.map (·.2) ++ (Δ.map (fun p => ad p.1) ++ Mx.map (·.1)))
structure AtX (env : Env) (Γ : List (Str × D)) (Δ : List (Str × List D)) (Mx : List (Addr × MO)) (H P : Vw) (m cv : Str → Option Value) (ad : Str → Addr) (h : Heap) : Prop where
  ns : h.Ns env.locals m
  cells : ∀ p ∈ env.cells, ∃ o, h.get? p.2 = some o ∧ o.data = .cell (cv p.1)
  vars : ∀ p ∈ Γ, ∃ v, lookN env m cv p.1 = some v ∧ Is P v p.2
  muts : ∀ p ∈ Δ, ∃ vs n, lookN env m cv p.1 = some (.ref (ad p.1)) ∧ h.get? (ad p.1) = some (listOf vs.toArray n) ∧ IsAll P vs p.2
  raw : ∀ p ∈ Mx, ∃ o, h.get? p.1 = some o ∧ MIs P o p.2
  nd : (ownOf env Δ ad Mx).Nodup
  cnd : (env.cells.map (·.1)).Nodup
  offP : ∀ b ∈ ownOf env Δ ad Mx, P b = none
  offH : ∀ b ∈ ownOf env Δ ad Mx, H b = none
structure At (W : Wd) (k : Nat) (A : Around) (env : Env) (s₀ : Shared) (P₀ H : Vw) (Γ : List (Str × D)) (Δ : List (Str × List D)) (Mx : List (Addr × MO)) (P : Vw) (s : Shared) : Prop where
  a : AOk k A
  b : W.B P
  tk : 1 ≤ s.toks
  fn : env.scope.kind = .function
  gl : env.globals = mainGlobals
  bi : env.builtins = builtinsNs
  le : Le P₀ P
  inn : In P s.heap
  hin : In H s.heap
  new : ∀ b o, P b = some o → P₀ b = some o ∨ s₀.heap.get? b = none
  newH : ∀ b o, P b = some o → P₀ b = some o ∨ H b = none
  ext : ∀ b o, s₀.heap.get? b = some o → ∃ o', s.heap.get? b = some o'
  mnew : ∃ m cv ad, AtX env Γ Δ Mx H P m cv ad s.heap ∧ ∀ p ∈ Δ, s₀.heap.get? (ad p.1) = none
  gens : GG s₀.gens s.gens
  drawn : s.drawn = s₀.drawn
  os : s.os = s₀.os

section
variable {W : Wd} {k : Nat} {A : Around} {env : Env} {s₀ : Shared} {P₀ H : Vw} {Γ : List (Str × D)} {Δ : List (Str × List D)} {Mx : List (Addr × MO)} {P : Vw} {s : Shared}

theorem nodup_inj {α : Type} {β : Type} {f : α → β} : ∀ {l : List α}, (l.map f).Nodup → ∀ {a b : α}, a ∈ l → b ∈ l → f a = f b → a = b
  | x :: r, n, a, b, ha, hb, e => by
    have n' := List.nodup_cons.mp n
    rcases List.mem_cons.mp ha with h1 | h1
    · rcases List.mem_cons.mp hb with h2 | h2
      · exact h1.trans h2.symm
      · exact absurd (by rw [← h1, e]; exact List.mem_map_of_mem h2) n'.1
    · rcases List.mem_cons.mp hb with h2 | h2
      · exact absurd (by rw [← h2, ← e]; exact List.mem_map_of_mem h1) n'.1
      · exact nodup_inj n'.2 h1 h2 e
theorem AtX.exist {m cv : Str → Option Value} {ad : Str → Addr} {h : Heap} (x : AtX env Γ Δ Mx H P m cv ad h) : ∀ b ∈ ownOf env Δ ad Mx, ∃ o, h.get? b = some o := by
  intro b hb
  rcases List.mem_cons.mp hb with rfl | hb
  · obtain ⟨o, _, _, q, _⟩ := x.ns; exact ⟨o, q⟩
  · rcases List.mem_append.mp hb with hb | hb
    · obtain ⟨p, hp, rfl⟩ := List.mem_map.mp hb
      obtain ⟨o, q, _⟩ := x.cells p hp; exact ⟨o, q⟩
    · rcases List.mem_append.mp hb with hb | hb
      · obtain ⟨p, hp, rfl⟩ := List.mem_map.mp hb
        obtain ⟨vs, n, _, q, _⟩ := x.muts p hp; exact ⟨_, q⟩
      · obtain ⟨p, hp, rfl⟩ := List.mem_map.mp hb
        obtain ⟨o, q, _⟩ := x.raw p hp; exact ⟨o, q⟩
theorem mem_of_lookup {α : Type} {x : Str} {v : α} : ∀ {l : List (Str × α)}, l.lookup x = some v → (x, v) ∈ l
  | (y, u) :: r, h => by
    rw [List.lookup_cons] at h
    cases e : x == y with
    | true => rw [e] at h; cases h; rw [eq_of_beq e]; exact List.mem_cons_self
    | false => rw [e] at h; exact List.mem_cons_of_mem _ (mem_of_lookup h)
theorem AtX.nameOk {m cv : Str → Option Value} {ad : Str → Addr} {h : Heap} (x : AtX env Γ Δ Mx H P m cv ad h) {y : Str} {v : Value} (e : lookN env m cv y = some v) : NameOk (fun b => h.get? b) env y v := by
  unfold lookN at e
  split at e
  · rename_i hk
    obtain ⟨o, ho, n⟩ := LCg.ns_obj x.ns
    exact .loc hk ho n e
  · rename_i hk
    split at e
    · rename_i hs
      obtain ⟨c, hc⟩ := Option.isSome_iff_exists.mp hs
      obtain ⟨o, ho, hd⟩ := x.cells _ (mem_of_lookup hc)
      exact .cel (.inl hk) hc ho (by rw [hd, e])
    · cases e
  · cases e
theorem AtX.unique {m cv m' cv' : Str → Option Value} {ad ad' : Str → Addr} {h : Heap} (x : AtX env Γ Δ Mx H P m cv ad h) (y : AtX env Γ Δ Mx H P m' cv' ad' h) : ownOf env Δ ad Mx = ownOf env Δ ad' Mx := by
  have hm : m = m' := by
    obtain ⟨o, es, ep, q, d, _, f⟩ := x.ns
    obtain ⟨o', es', ep', q', d', _, f'⟩ := y.ns
    rw [q] at q'; cases q'
    rw [d] at d'; cases d'
    funext z; rw [← f z, ← f' z]
  subst hm
  have : Δ.map (fun p => ad p.1) = Δ.map (fun p => ad' p.1) := List.map_congr_left fun p hp => by
    obtain ⟨vs, n, e, _⟩ := x.muts p hp
    obtain ⟨vs', n', e', _⟩ := y.muts p hp
    unfold lookN at e e'
    split at e
    · rename_i hk
      rw [hk] at e'
      have := e.symm.trans e'
      simpa using this
    · rename_i hk
      rw [hk] at e'
      split at e
      · rename_i hs
        simp only [hs, if_true] at e'
        obtain ⟨c, hc⟩ := Option.isSome_iff_exists.mp hs
        obtain ⟨o, q, d⟩ := x.cells _ (mem_of_lookup hc)
        obtain ⟨o', q', d'⟩ := y.cells _ (mem_of_lookup hc)
        rw [q] at q'; cases q'
        rw [d] at d'
        have d2 : cv p.1 = cv' p.1 := by simpa using d'
        rw [e, e'] at d2
        simpa using d2
      · cases e
    · cases e
  unfold ownOf
  rw [this]
theorem At.st (x : At W k A env s₀ P₀ H Γ Δ Mx P s) : St (W.at Mx) k A (fun b => s.heap.get? b) P s := ⟨x.a, x.b, fun _ _ e => e, x.inn, x.tk, fun p hp => let ⟨_, _, _, y, _⟩ := x.mnew; y.raw p hp⟩
theorem At.cx (x : At W k A env s₀ P₀ H Γ Δ Mx P s) : Cx (fun b => s.heap.get? b) P env Γ Δ := by
  obtain ⟨m, cv, ad, y, _⟩ := x.mnew
  refine ⟨x.fn, x.gl, x.bi, fun p hp => ?_, fun p hp => ?_⟩
  · obtain ⟨v, e, i⟩ := y.vars p hp
    exact ⟨v, y.nameOk e, i⟩
  · obtain ⟨vs, n, e, q, i⟩ := y.muts p hp
    exact ⟨_, vs, n, y.nameOk e, q, i⟩
theorem At.gr {P' : Vw} {s' : Shared} (x : At W k A env s₀ P₀ H Γ Δ Mx P s) (g : Gr P s P' s') (tk : 1 ≤ s'.toks) : At W k A env s₀ P₀ H Γ Δ Mx P' s' where
  a := x.a
  b := x.b.up g.le
  tk := tk
  fn := x.fn
  gl := x.gl
  bi := x.bi
  le := x.le.trans g.le
  inn := g.inn
  hin := fun b o e => g.old _ _ (x.hin _ _ e)
  new := fun b o e => (g.new b o e).elim (x.new b o) fun z => .inr (by
    cases q : s₀.heap.get? b with
    | none => rfl
    | some o' => obtain ⟨o'', q'⟩ := x.ext b o' q; rw [z] at q'; cases q')
  newH := fun b o e => (g.new b o e).elim (x.newH b o) fun z => .inr (by
    cases q : H b with
    | none => rfl
    | some o' => have := x.hin _ _ q; rw [z] at this; cases this)
  ext := fun b o e => (x.ext b o e).imp fun o' q => g.old _ _ q
  mnew := by
    obtain ⟨m, cv, ad, y, hn⟩ := x.mnew
    refine ⟨m, cv, ad, ⟨y.ns.keeps g.old, fun p hp => ?_, fun p hp => ?_, fun p hp => ?_, fun p hp => (y.raw p hp).imp fun o hh => ⟨g.old _ _ hh.1, hh.2.mono g.le⟩, y.nd, y.cnd, fun b hb => (gr_none g ⟨y.offP b hb, y.exist b hb⟩).1, y.offH⟩, hn⟩
    · obtain ⟨o, q, d⟩ := y.cells p hp; exact ⟨o, g.old _ _ q, d⟩
    · obtain ⟨v, e, i⟩ := y.vars p hp; exact ⟨v, e, i.mono g.le⟩
    · obtain ⟨vs, n, e, q, i⟩ := y.muts p hp; exact ⟨vs, n, e, g.old _ _ q, i.mono g.le⟩
  gens := x.gens.trans g.gens
  drawn := g.drawn.trans x.drawn
  os := g.os.trans x.os

theorem At.forget {Γ' : List (Str × D)} (x : At W k A env s₀ P₀ H Γ Δ Mx P s) (h : ∀ p ∈ Γ', p ∈ Γ) : At W k A env s₀ P₀ H Γ' Δ Mx P s :=
  { x with mnew := by obtain ⟨m, cv, ad, y, hn⟩ := x.mnew; exact ⟨m, cv, ad, { y with vars := fun p hp => y.vars p (h p hp) }, hn⟩ }
theorem At.drop {Δ' : List (Str × List D)} (x : At W k A env s₀ P₀ H Γ Δ Mx P s) (h : Δ'.Sublist Δ) : At W k A env s₀ P₀ H Γ Δ' Mx P s := by
  obtain ⟨m, cv, ad, y, hn⟩ := x.mnew
  have hs : (ownOf env Δ' ad Mx).Sublist (ownOf env Δ ad Mx) := List.Sublist.cons_cons _ (List.Sublist.append (List.Sublist.refl _) (List.Sublist.append (h.map _) (List.Sublist.refl _)))
  exact { x with mnew := ⟨m, cv, ad, { y with muts := fun p hp => y.muts p (h.subset hp), nd := y.nd.sublist hs, offP := fun b hb => y.offP b (hs.subset hb), offH := fun b hb => y.offH b (hs.subset hb) }, fun p hp => hn p (h.subset hp)⟩ }
/-- one owned object is changed, all else stands -/
theorem keep_but {P : Vw} {h h' : Heap} {a : Addr} (p : In P h) (hs : ∀ b o, b ≠ a → h.get? b = some o → h'.get? b = some o) (hp : P a = none) : In P h' := fun b o e => hs b o (fun q => by rw [q, hp] at e; cases e) (p b o e)

noncomputable def Bindable (env : Env) (x : Str) : Prop := env.kindOf x = some .local ∨ (env.kindOf x = some .cell ∧ (env.cells.lookup x).isSome = true)
theorem lookN_set_local {m cv : Str → Option Value} {x : Str} {v : Value} (hk : env.kindOf x = some .local) : lookN env (fun y => if y = x then some v else m y) cv x = some v := by
  unfold lookN; rw [hk]; simp
theorem lookN_set_cell {m cv : Str → Option Value} {x : Str} {v : Value} (hk : env.kindOf x = some .cell) (hc : (env.cells.lookup x).isSome = true) : lookN env m (fun y => if y = x then some v else cv y) x = some v := by
  unfold lookN; rw [hk, hc]; simp
theorem lookN_ne_local {m cv : Str → Option Value} {x y : Str} {v : Value} (h : y ≠ x) : lookN env (fun z => if z = x then some v else m z) cv y = lookN env m cv y := by
  unfold lookN; split <;> simp [h]
theorem lookN_ne_cell {m cv : Str → Option Value} {x y : Str} {v : Value} (h : y ≠ x) : lookN env m (fun z => if z = x then some v else cv z) y = lookN env m cv y := by
  unfold lookN; split <;> simp [h]

/-- a name is stored -/
theorem At.store {M : Model} {E : Value → Shared → Prop} {Q : Unit → Shared → Prop} {x : Str} {v : Value} (X : At W k A env s₀ P₀ H Γ Δ Mx P s) {m cv : Str → Option Value} {ad : Str → Addr} (y : AtX env Γ Δ Mx H P m cv ad s.heap) (hn : ∀ p ∈ Δ, s₀.heap.get? (ad p.1) = none) (hb : Bindable env x) (hΓ : ∀ p ∈ Γ, p.1 ≠ x) (hΔ : ∀ p ∈ Δ, p.1 ≠ x)
    (h : ∀ s', (∀ d, Is P v d → At W k A env s₀ P₀ H ((x, d) :: Γ) Δ Mx P s' ∧ ∃ m' cv' ad', AtX env ((x, d) :: Γ) Δ Mx H P m' cv' ad' s'.heap ∧ ∀ b ∈ ownOf env Δ ad' Mx, b ∈ ownOf env Δ ad Mx) →
      (∀ a vs n ds, v = .ref a → s.heap.get? a = some (listOf vs.toArray n) → IsAll P vs ds → P a = none → H a = none → a ∉ ownOf env Δ ad Mx → s₀.heap.get? a = none → At W k A env s₀ P₀ H Γ ((x, ds) :: Δ) Mx P s' ∧ ∃ m' cv' ad', AtX env Γ ((x, ds) :: Δ) Mx H P m' cv' ad' s'.heap ∧ ∀ b ∈ ownOf env ((x, ds) :: Δ) ad' Mx, b = a ∨ b ∈ ownOf env Δ ad Mx) →
      (∀ b o, b ∉ ownOf env Δ ad Mx → s.heap.get? b = some o → s'.heap.get? b = some o) → Q () s') :
    wpAny M A (storeName env x v) Q E s := by
  have key : ∀ (c : Addr) (h' : Heap) (tk' : Nat) (m' cv' : Str → Option Value), c ∈ ownOf env Δ ad Mx → c ∉ Δ.map (fun p => ad p.1) ++ Mx.map (·.1) → (∀ b o, b ≠ c → s.heap.get? b = some o → h'.get? b = some o) → (∃ o, h'.get? c = some o) → 1 ≤ tk' →
      h'.Ns env.locals m' → (∀ p ∈ env.cells, ∃ o, h'.get? p.2 = some o ∧ o.data = .cell (cv' p.1)) → lookN env m' cv' x = some v → (∀ z, z ≠ x → lookN env m' cv' z = lookN env m cv z) →
      Q () { s with heap := h', toks := tk' } := by
    intro c h' tk' m' cv' hc hc' hk he htk hns hcells hx hz
    have mutK : ∀ p ∈ Δ, ∃ vs n, lookN env m' cv' p.1 = some (.ref (ad p.1)) ∧ h'.get? (ad p.1) = some (listOf vs.toArray n) ∧ IsAll P vs p.2 := fun p hp => by
      obtain ⟨vs, n, e, q, i⟩ := y.muts p hp
      exact ⟨vs, n, (hz _ (hΔ p hp)).trans e, hk _ _ (fun z => hc' (List.mem_append.mpr (.inl (z ▸ List.mem_map_of_mem hp)))) q, i⟩
    have rawK : ∀ p ∈ Mx, ∃ o, h'.get? p.1 = some o ∧ MIs P o p.2 := fun p hp => (y.raw p hp).imp fun o hh => ⟨hk _ _ (fun z => hc' (List.mem_append.mpr (.inr (z ▸ List.mem_map_of_mem hp)))) hh.1, hh.2⟩
    have base : ∀ Γ' Δ', (∃ m cv ad, AtX env Γ' Δ' Mx H P m cv ad h' ∧ ∀ p ∈ Δ', s₀.heap.get? (ad p.1) = none) → At W k A env s₀ P₀ H Γ' Δ' Mx P { s with heap := h', toks := tk' } := fun Γ' Δ' hm =>
      { a := X.a, b := X.b, tk := htk, fn := X.fn, gl := X.gl, bi := X.bi, le := X.le, inn := keep_but X.inn hk (y.offP c hc), hin := keep_but X.hin hk (y.offH c hc), new := X.new, newH := X.newH,
        ext := fun b o e => by
          obtain ⟨o', q⟩ := X.ext b o e
          by_cases hbc : b = c
          · rw [hbc]; exact he
          · exact ⟨o', hk _ _ hbc q⟩,
        mnew := hm, gens := X.gens, drawn := X.drawn, os := X.os }
    refine h _ (fun d hd => by
        have yy : AtX env ((x, d) :: Γ) Δ Mx H P m' cv' ad h' := by
          refine ⟨hns, hcells, fun p hp => ?_, mutK, rawK, y.nd, y.cnd, y.offP, y.offH⟩
          rcases List.mem_cons.mp hp with rfl | hp
          · exact ⟨v, hx, hd⟩
          · obtain ⟨u, e, i⟩ := y.vars p hp
            exact ⟨u, (hz _ (hΓ p hp)).trans e, i⟩
        exact ⟨base _ _ ⟨m', cv', ad, yy, hn⟩, m', cv', ad, yy, fun b hb => hb⟩) (fun a vs n ds hv ha hi hPa hHa hfr hsa => ?_) (fun b o hno e => ?_)
    · have hna := hfr
      have hac : a ≠ c := fun q => hna (q ▸ hc)
      let ad' : Str → Addr := fun z => if z = x then a else ad z
      have hmap : Δ.map (fun p => ad' p.1) = Δ.map (fun p => ad p.1) := List.map_congr_left fun p hp => by simp [ad', hΔ p hp]
      have hown : (ownOf env ((x, ds) :: Δ) ad' Mx).Perm (a :: ownOf env Δ ad Mx) := by
        show (env.locals :: (env.cells.map (·.2) ++ ((ad' x :: Δ.map (fun p => ad' p.1)) ++ Mx.map (·.1)))).Perm _
        rw [hmap, show ad' x = a from if_pos rfl]
        refine List.Perm.trans ?_ (List.Perm.swap _ _ _)
        exact List.Perm.cons _ List.perm_middle
      have yy : AtX env Γ ((x, ds) :: Δ) Mx H P m' cv' ad' h' := by
        refine ⟨hns, hcells, fun p hp => ?_, fun p hp => ?_, rawK, hown.nodup_iff.mpr (List.nodup_cons.mpr ⟨hna, y.nd⟩), y.cnd, fun b hb => ?_, fun b hb => ?_⟩
        · obtain ⟨u, e, i⟩ := y.vars p hp
          exact ⟨u, (hz _ (hΓ p hp)).trans e, i⟩
        · rcases List.mem_cons.mp hp with rfl | hp
          · exact ⟨vs, n, by rw [hx, hv]; simp [ad'], by simpa [ad'] using hk _ _ hac ha, hi⟩
          · obtain ⟨us, n', e, q, i⟩ := mutK p hp
            have : ad' p.1 = ad p.1 := if_neg (hΔ p hp)
            exact ⟨us, n', by rw [this]; exact e, by rw [this]; exact q, i⟩
        · rcases List.mem_cons.mp (hown.subset hb) with rfl | hb
          · exact hPa
          · exact y.offP b hb
        · rcases List.mem_cons.mp (hown.subset hb) with rfl | hb
          · exact hHa
          · exact y.offH b hb
      refine ⟨base _ _ ⟨m', cv', ad', yy, fun p hp => ?_⟩, m', cv', ad', yy, fun b hb => List.mem_cons.mp (hown.subset hb)⟩
      rcases List.mem_cons.mp hp with rfl | hp
      · simpa [ad'] using hsa
      · have : ad' p.1 = ad p.1 := if_neg (hΔ p hp)
        rw [this]; exact hn p hp
    · exact hk b o (fun q => hno (q ▸ hc)) e
  rcases hb with hk | ⟨hk, hc⟩
  · refine wpAny_storeName_local hk y.ns (fun h' hns hsb => ?_) (by rw [X.fn]; rfl)
    have nd := List.nodup_cons.mp y.nd
    refine key env.locals h' _ _ cv List.mem_cons_self (fun q => nd.1 (List.mem_append.mpr (.inr q))) (fun b o n e => hsb.extBut b o n e) (by obtain ⟨o, _, _, q, _⟩ := hns; exact ⟨o, q⟩) (Nat.le_trans X.tk (Nat.le_succ _)) hns (fun p hp => ?_) (lookN_set_local hk) (fun z hz => lookN_ne_local hz)
    obtain ⟨o, q, d⟩ := y.cells p hp
    exact ⟨o, hsb.extBut _ _ (fun z => nd.1 (List.mem_append.mpr (.inl (z ▸ List.mem_map_of_mem hp)))) q, d⟩
  · obtain ⟨c, hc⟩ := Option.isSome_iff_exists.mp hc
    have hmem := mem_of_lookup hc
    obtain ⟨o, ho, hd⟩ := y.cells _ hmem
    have hcm : c ∈ env.cells.map (·.2) := List.mem_map_of_mem hmem
    have nd := List.nodup_cons.mp y.nd
    have nd2 := List.nodup_append.mp nd.2
    refine wpAny_storeName_cell X.fn hk hc ⟨o, ho, hd⟩ fun h' hv' hsb => ?_
    obtain ⟨o', ho', hd'⟩ := hv'
    refine key c h' _ m (fun z => if z = x then some v else cv z) (List.mem_cons_of_mem _ (List.mem_append.mpr (.inl hcm))) (fun q => nd2.2.2 c hcm c q rfl) (fun b o n e => hsb.extBut b o n e) ⟨o', ho'⟩ X.tk (y.ns.sameBut hsb ?_) (fun p hp => ?_) (lookN_set_cell hk (by rw [hc]; rfl)) (fun z hz => lookN_ne_cell hz)
    · exact fun q => nd.1 (List.mem_append.mpr (.inl (q ▸ hcm)))
    · by_cases hp1 : p.1 = x
      · have hp2 : p.2 = c := congrArg Prod.snd (nodup_inj y.cnd hp hmem hp1)
        rw [hp1, hp2]
        exact ⟨o', ho', by rw [if_pos rfl]; exact hd'⟩
      · obtain ⟨op, q, d⟩ := y.cells p hp
        exact ⟨op, hsb.extBut _ _ (fun z => hp1 (congrArg Prod.fst (nodup_inj nd2.1 hp hmem z))) q, by rw [if_neg hp1]; exact d⟩
end
end
section
section
variable {W : Wd} {k : Nat} {A : Around} {env : Env} {s₀ : Shared} {P₀ H : Vw} {Γ : List (Str × D)} {Δ : List (Str × List D)} {Mx : List (Addr × MO)} {P : Vw} {s : Shared} {E : Value → Shared → Prop} {Q : Flow → Shared → Prop}

theorem At.none₀ (X : At W k A env s₀ P₀ H Γ Δ Mx P s) {b : Addr} (h : s.heap.get? b = none) : s₀.heap.get? b = none ∧ H b = none := by
  constructor
  · cases q : s₀.heap.get? b with
    | none => rfl
    | some o => obtain ⟨o', q'⟩ := X.ext b o q; rw [h] at q'; cases q'
  · cases q : H b with
    | none => rfl
    | some o => have := X.hin _ _ q; rw [h] at this; cases this

/-- the frame's names, as they stand behind an evaluation; an object that was fresh ahead of it is none of the owned ones -/
theorem At.gr_own {P' : Vw} {s' : Shared} (X : At W k A env s₀ P₀ H Γ Δ Mx P s) (g : Gr P s P' s') : ∃ m cv ad, AtX env Γ Δ Mx H P' m cv ad s'.heap ∧ (∀ p ∈ Δ, s₀.heap.get? (ad p.1) = none) ∧ ∀ b, s.heap.get? b = none → b ∉ ownOf env Δ ad Mx := by
  obtain ⟨m, cv, ad, y, hn⟩ := X.mnew
  refine ⟨m, cv, ad, ⟨y.ns.keeps g.old, fun p hp => ?_, fun p hp => ?_, fun p hp => ?_, fun p hp => (y.raw p hp).imp fun o hh => ⟨g.old _ _ hh.1, hh.2.mono g.le⟩, y.nd, y.cnd, fun b hb => (gr_none g ⟨y.offP b hb, y.exist b hb⟩).1, y.offH⟩, hn, fun b h hb => ?_⟩
  · obtain ⟨o, q, d⟩ := y.cells p hp; exact ⟨o, g.old _ _ q, d⟩
  · obtain ⟨v, e, i⟩ := y.vars p hp; exact ⟨v, e, i.mono g.le⟩
  · obtain ⟨vs, n, e, q, i⟩ := y.muts p hp; exact ⟨vs, n, e, g.old _ _ q, i.mono g.le⟩
  · obtain ⟨o, q⟩ := y.exist b hb
    rw [h] at q; cases q

/-! ### statements: one, then the rest -/
/-- objects that nobody owns may go -/
theorem At.but {C : Addr} {h' : Heap} (X : At W k A env s₀ P₀ H Γ Δ Mx P s) (h0 : s₀.heap.get? C = none) (h1 : P C = none) (h2 : H C = none) (hC : ∃ m cv ad, AtX env Γ Δ Mx H P m cv ad s.heap ∧ C ∉ ownOf env Δ ad Mx) (hs : Heap.SameBut C s.heap h') : At W k A env s₀ P₀ H Γ Δ Mx P { s with heap := h' } :=
  { X with
    inn := keep_but X.inn (fun b o n e => hs.extBut b o n e) h1
    hin := keep_but X.hin (fun b o n e => hs.extBut b o n e) h2
    ext := fun b o e => by
      obtain ⟨o', q⟩ := X.ext b o e
      exact ⟨o', hs.extBut _ _ (fun z => by rw [z, h0] at e; cases e) q⟩
    mnew := by
      obtain ⟨m, cv, ad, y, hn⟩ := X.mnew
      have hc : C ∉ ownOf env Δ ad Mx := by
        obtain ⟨m', cv', ad', y', hc⟩ := hC
        rw [AtX.unique y y']; exact hc
      have up : ∀ b ∈ ownOf env Δ ad Mx, ∀ o, s.heap.get? b = some o → h'.get? b = some o := fun b hb o e => hs.extBut _ _ (fun z => hc (z ▸ hb)) e
      refine ⟨m, cv, ad, ⟨y.ns.at' fun o e => up _ List.mem_cons_self o e, fun p hp => ?_, y.vars, fun p hp => ?_, fun p hp => ?_, y.nd, y.cnd, y.offP, y.offH⟩, hn⟩
      · obtain ⟨o, q, d⟩ := y.cells p hp
        exact ⟨o, up _ (List.mem_cons_of_mem _ (List.mem_append.mpr (.inl (List.mem_map_of_mem hp)))) o q, d⟩
      · obtain ⟨vs, n, e, q, i⟩ := y.muts p hp
        exact ⟨vs, n, e, up _ (List.mem_cons_of_mem _ (List.mem_append.mpr (.inr (List.mem_append.mpr (.inl (List.mem_map_of_mem hp)))))) _ q, i⟩
      · obtain ⟨o, q, i⟩ := y.raw p hp
        exact ⟨o, up _ (List.mem_cons_of_mem _ (List.mem_append.mpr (.inr (List.mem_append.mpr (.inr (List.mem_map_of_mem hp)))))) _ q, i⟩ }

/-- a comprehension that is bound to a local name at once -/
theorem s_assignC {x y : Str} {px p pos cpos : Pos} {elt iter : Expr} {ifs : List Expr} {scope : Scope} {rest : List Stmt} {cl : List (Str × Addr)} {its : List D} {res : List (Option D)} {Γ' : List (Str × D)} {Δ' : List (Str × List D)} {b mu : Bool}
    (X : At W k A env s₀ P₀ H Γ Δ Mx P s)
    (hI : EvI (W.at Mx) k env Γ Δ b iter its) (hlen : res.length = its.length)
    (helt : ∀ (C : Addr) (i : Nat) (d : D) (r : Option D), its[i]? = some d → res[i]? = some r → CompItem (W.at Mx) k (compEnvC scope cl C env) ((x, d) :: Γ') Δ' ifs elt r)
    (hΓ' : ∀ p ∈ Γ', p ∈ Γ) (hΔ' : ∀ p ∈ Δ', p ∈ Δ) (hthru : Thru env scope cl (Γ'.map (·.1) ++ Δ'.map (·.1)))
    (hclos : closureFor scope env = pure cl) (hcell : ∀ y ∈ scope.names, y.2 ≠ .cell) (hkind : scope.kind = .function)
    (hnames : ∀ y ∈ scope.names, y.2 = .local → scope.names.lookup y.1 = some .local) (hx : scope.names.lookup x = some .local)
    (hsz : its.length ≤ sizeLine)
    (hb : Bindable env y) (hΓ : ∀ p ∈ Γ, p.1 ≠ y) (hΔ : ∀ p ∈ Δ, p.1 ≠ y)
    (next : ∀ P' s', At W k A env s₀ P₀ H (if mu then Γ else (y, .list (res.filterMap id)) :: Γ) (if mu then (y, res.filterMap id) :: Δ else Δ) Mx P' s' → wpAny W.M A (execs rest env) Q E s')
    (hsw : swapsWith (.ListComp elt [⟨.Name x px, iter, ifs, 0⟩] scope cpos) (some (.Name y p)) pos.line env = pure true)
    (hs : ∀ v, foldedSetIterable iter env v = pure v := by intro _; rfl) :
    wpAny W.M A (execs (.Assign [.Name y p] (.ListComp elt [⟨.Name x px, iter, ifs, 0⟩] scope cpos) pos :: rest) env) Q E s := by
  refine wpAny_execs_cons ?_
  rw [exec_Assign_Name_used _ _ _ _ hsw]
  refine wpAny_bind (wpAny_standAt (wpAny_bind ?_))
  show wpAny _ A (do let _ ← comprehension (.ListComp elt [⟨.Name x px, iter, ifs, 0⟩] scope cpos) scope env _ (newList []) false (eval iter env) (some (assign (.Name y p) env))) _ _ s
  refine wpAny_bind (wpAny_mono (wpAny_comprehension_free (use := some (assign (.Name y p) env)) (Q := fun _ s' => wpAny W.M A (execs rest env) Q E s') rfl hs hclos hkind hnames
    (comp_core (W := W.at Mx) X.st X.cx hI hlen helt hΓ' hΔ' hthru hcell hkind hx hsz fun T C ys P' s' g tk h0 h1 h2 hi c0 c1 cT hm => ?_)) (fun _ s' hq => wpAny_pure (wpAny_pure hq)) fun _ _ e => e)
  obtain ⟨mC, hnC⟩ := hm
  have zT := X.none₀ h0
  have zC := X.none₀ c0
  obtain ⟨oC, qC, nC⟩ := LCg.ns_obj hnC
  show wpAny _ A (assign (.Name y p) env (.ref T)) _ _ _
  cases mu with
  | true =>
    obtain ⟨m, cv, ad, w, hn, ho⟩ := X.gr_own g
    have hCo := ho C c0
    refine wpAny_assign_Name (At.store (X.gr g tk) w hn hb hΓ hΔ fun s'' g1 g2 g3 => ?_)
    refine ⟨mC, nC.ns (g3 _ _ hCo qC), fun h' hs' => ?_⟩
    obtain ⟨X1, m', cv', ad', w', hw'⟩ := g2 T ys ys.length _ rfl h2 hi h1 zT.2 (ho T h0) zT.1
    exact next P' _ (X1.but zC.1 c1 zC.2 ⟨m', cv', ad', w', fun q => (hw' _ q).elim cT hCo⟩ hs')
  | false =>
    have g' := g.add h0 h1 h2
    obtain ⟨m, cv, ad, w, hn, ho⟩ := X.gr_own g'
    have hCo := ho C c0
    refine wpAny_assign_Name (At.store (X.gr g' tk) w hn hb hΓ hΔ fun s'' g1 g2 g3 => ?_)
    refine ⟨mC, nC.ns (g3 _ _ hCo qC), fun h' hs' => ?_⟩
    have hi' : Is (addV P' T (LCg.lst ys)) (.ref T) (.list (res.filterMap id)) := .list addV_at (hi.mono (addV_le h1))
    obtain ⟨X1, m', cv', ad', w', hw'⟩ := g1 _ hi'
    exact next _ _ (X1.but zC.1 (by rw [addV_ne cT]; exact c1) zC.2 ⟨m', cv', ad', w', fun q => hCo (hw' _ q)⟩ hs')
end
end
section
noncomputable abbrev IfQ (W : Wd) (A : Around) (env : Env) (rest : List Stmt) (Q : Flow → Shared → Prop) (E : Value → Shared → Prop) : Flow → Shared → Prop := fun f s'' => match f with | .next => wpAny W.M A (execs rest env) Q E s'' | f => Q f s''
noncomputable abbrev ForQ (W : Wd) (k : Nat) (A : Around) (env : Env) (s₀ : Shared) (P' H' : Vw) (Q : Flow → Shared → Prop) (B J : List (Str × D) → List (Str × List D) → List (Addr × MO) → Prop) : Flow → Shared → Prop := fun f s'' => match f with
  | .ret v => Q (.ret v) s''
  | .brk => ∃ Γ'' Δ'' Mx'' P'', B Γ'' Δ'' Mx'' ∧ At W k A env s₀ P' H' Γ'' Δ'' Mx'' P'' s''
  | _ => ∃ Γ'' Δ'' Mx'' P'', J Γ'' Δ'' Mx'' ∧ At W k A env s₀ P' H' Γ'' Δ'' Mx'' P'' s''
noncomputable abbrev ForMQ (W : Wd) (k : Nat) (A : Around) (env : Env) (s₀ : Shared) (P₀ H : Vw) (Q : Flow → Shared → Prop) (J : Nat → Vw → List (Str × D) → List (Str × List D) → List (Addr × MO) → Prop) (n : Nat) : Flow → Shared → Prop := fun f s3 => match f with
  | .ret v => Q (.ret v) s3
  | .brk => False
  | _ => ∃ n' Γ3 Δ3 M3 P3, n' < n ∧ J n' P3 Γ3 Δ3 M3 ∧ At W k A env s₀ P₀ H Γ3 Δ3 M3 P3 s3
noncomputable abbrev JoinQ (W : Wd) (k : Nat) (A : Around) (env : Env) (s₀ : Shared) (P₀ H : Vw) (Q : Flow → Shared → Prop) (J : List (Str × D) → List (Str × List D) → List (Addr × MO) → Prop) : Flow → Shared → Prop := fun f s'' => (f = .next ∧ ∃ Γ' Δ' Mx' P'', J Γ' Δ' Mx' ∧ At W k A env s₀ P₀ H Γ' Δ' Mx' P'' s'') ∨ (f ≠ .next ∧ Q f s'')
section
variable {W : Wd} {k : Nat} {A : Around} {env : Env} {s₀ : Shared} {P₀ H : Vw} {Γ : List (Str × D)} {Δ : List (Str × List D)} {Mx : List (Addr × MO)} {P : Vw} {s : Shared} {E : Value → Shared → Prop} {Q : Flow → Shared → Prop}

theorem s_if {test : Expr} {body orelse rest : List Stmt} {pos : Pos} {b : Bool} (X : At W k A env s₀ P₀ H Γ Δ Mx P s) (ht : Ts (W.at Mx) k env Γ Δ test b)
    (next : ∀ P' s', At W k A env s₀ P₀ H Γ Δ Mx P' s' → wpAny W.M A (execs (if b then body else orelse) env) (IfQ W A env rest Q E) E s') :
    wpAny W.M A (execs (.If test body orelse pos :: rest) env) Q E s := by
  refine wpAny_execs_cons (wpAny_If (ht A _ P s E _ X.st X.cx fun P' s' g tk => ?_))
  have z := next P' s' (X.gr g tk)
  cases b with
  | true => rw [if_pos rfl]; exact z
  | false => rw [if_neg Bool.false_ne_true]; exact z
theorem s_nil (h : Q .next s) : wpAny W.M A (execs [] env) Q E s := wpAny_execs_nil h
theorem s_ret {e : Expr} {pos : Pos} {rest : List Stmt} {d : D} (X : At W k A env s₀ P₀ H Γ Δ Mx P s) (hv : Ev (W.at Mx) k env Γ Δ e d) (next : ∀ v P' s', At W k A env s₀ P₀ H Γ Δ Mx P' s' → Is P' v d → Q (.ret v) s') :
    wpAny W.M A (execs (.Return (some e) pos :: rest) env) Q E s :=
  wpAny_execs_cons (wpAny_Return_some (hv A _ P s E _ X.st X.cx fun v P' s' g tk i => next v P' s' (X.gr g tk) i))

theorem At.rebase (X : At W k A env s₀ P₀ H Γ Δ Mx P s) : At W k A env s₀ P H Γ Δ Mx P s :=
  { X with le := Le.refl _, new := fun b o e => .inl e, newH := fun b o e => .inl e }
theorem At.back {Γ' : List (Str × D)} {Δ' : List (Str × List D)} {Mx' : List (Addr × MO)} {P' : Vw} {s' : Shared} (X : At W k A env s₀ P₀ H Γ Δ Mx P s) (Y : At W k A env s₀ P H Γ' Δ' Mx' P' s') : At W k A env s₀ P₀ H Γ' Δ' Mx' P' s' :=
  { Y with le := X.le.trans Y.le, new := fun b o e => (Y.new b o e).elim (X.new b o) .inr, newH := fun b o e => (Y.newH b o e).elim (X.newH b o) .inr }
/-! ### for -/
open Classical in
noncomputable def HI (H : Vw) (I : Addr) (h : Heap) : Vw := fun b => if b = I then h.get? I else H b
theorem HI_at {H : Vw} {I : Addr} {h : Heap} : HI H I h I = h.get? I := if_pos rfl
theorem HI_ne {H : Vw} {I b : Addr} {h : Heap} (n : b ≠ I) : HI H I h b = H b := if_neg n
theorem At.lessH {H' : Vw} (X : At W k A env s₀ P₀ H' Γ Δ Mx P s) (h : Le H H') : At W k A env s₀ P₀ H Γ Δ Mx P s :=
  have nn : ∀ b, H' b = none → H b = none := fun b e => by
    cases q : H b with
    | none => rfl
    | some o => rw [h b o q] at e; cases e
  { X with
    hin := fun b o e => X.hin _ _ (h b o e)
    newH := fun b o e => (X.newH b o e).imp id (nn b)
    mnew := by obtain ⟨m, cv, ad, y, hn⟩ := X.mnew; exact ⟨m, cv, ad, { y with offH := fun b hb => nn b (y.offH b hb) }, hn⟩ }
/-- the iterator is turned; it counts among what must stand -/
theorem At.iter {H₁ : Vw} {I : Addr} {h' : Heap} {tk' : Nat} (X : At W k A env s₀ P₀ H₁ Γ Δ Mx P s) (hH : ∀ b, b ≠ I → H₁ b = H b) (hI : ∃ m cv ad, AtX env Γ Δ Mx H₁ P m cv ad s.heap ∧ I ∉ ownOf env Δ ad Mx) (hP : P I = none) (h0 : s₀.heap.get? I = none)
    (hk : ∀ b o, b ≠ I → s.heap.get? b = some o → h'.get? b = some o) (tk : 1 ≤ tk') : At W k A env s₀ P₀ (HI H I h') Γ Δ Mx P { s with heap := h', toks := tk' } :=
  { X with
    tk := tk
    inn := keep_but X.inn hk hP
    hin := fun b o e => by
      by_cases q : b = I
      · subst q; rw [HI_at] at e; exact e
      · rw [HI_ne q] at e
        exact hk b o q (X.hin b o (by rw [hH b q]; exact e))
    newH := fun b o e => by
      by_cases q : b = I
      · rw [q, hP] at e; cases e
      · rw [HI_ne q, ← hH b q]; exact X.newH b o e
    ext := fun b o e => by
      obtain ⟨o', q⟩ := X.ext b o e
      exact ⟨o', hk _ _ (fun z => by rw [z, h0] at e; cases e) q⟩
    mnew := by
      obtain ⟨m', cv', ad', y', hc'⟩ := hI
      obtain ⟨m, cv, ad, y, hn⟩ := X.mnew
      have hc : I ∉ ownOf env Δ ad Mx := by rw [AtX.unique y y']; exact hc'
      have up : ∀ b ∈ ownOf env Δ ad Mx, ∀ o, s.heap.get? b = some o → h'.get? b = some o := fun b hb o e => hk _ _ (fun z => hc (z ▸ hb)) e
      refine ⟨m, cv, ad, ⟨y.ns.at' fun o e => up _ List.mem_cons_self o e, fun p hp => ?_, y.vars, fun p hp => ?_, fun p hp => ?_, y.nd, y.cnd, y.offP, fun b hb => ?_⟩, hn⟩
      · obtain ⟨o, q, d⟩ := y.cells p hp
        exact ⟨o, up _ (List.mem_cons_of_mem _ (List.mem_append.mpr (.inl (List.mem_map_of_mem hp)))) o q, d⟩
      · obtain ⟨vs, n, e, q, i⟩ := y.muts p hp
        exact ⟨vs, n, e, up _ (List.mem_cons_of_mem _ (List.mem_append.mpr (.inr (List.mem_append.mpr (.inl (List.mem_map_of_mem hp)))))) _ q, i⟩
      · obtain ⟨o, q, i⟩ := y.raw p hp
        exact ⟨o, up _ (List.mem_cons_of_mem _ (List.mem_append.mpr (.inr (List.mem_append.mpr (.inr (List.mem_map_of_mem hp)))))) _ q, i⟩
      · have n : b ≠ I := fun z => hc (z ▸ hb)
        rw [HI_ne n, ← hH b n]; exact y.offH b hb }
/-- what stands as H is none of the owned -/
theorem At.notOwn (X : At W k A env s₀ P₀ H Γ Δ Mx P s) {I : Addr} {o : Obj} (h : H I = some o) : ∃ m cv ad, AtX env Γ Δ Mx H P m cv ad s.heap ∧ I ∉ ownOf env Δ ad Mx := by
  obtain ⟨m, cv, ad, y, hn⟩ := X.mnew
  exact ⟨m, cv, ad, y, fun hb => by rw [y.offH I hb] at h; cases h⟩

theorem s_for {x : Str} {px pos : Pos} {iter : Expr} {body rest : List Stmt} {its : List D} (X : At W k A env s₀ P₀ H Γ Δ Mx P s) (hI : EvI (W.at Mx) k env Γ Δ true iter its) (hb : Bindable env x)
    (J : Nat → List (Str × D) → List (Str × List D) → List (Addr × MO) → Prop) (B : List (Str × D) → List (Str × List D) → List (Addr × MO) → Prop) (hJ : J 0 Γ Δ Mx)
    (hJx : ∀ i Γ' Δ' Mx', J i Γ' Δ' Mx' → (∀ p ∈ Γ', p.1 ≠ x) ∧ (∀ p ∈ Δ', p.1 ≠ x))
    (turn : ∀ i d H' Γ' Δ' Mx' P' s' (E' : Value → Shared → Prop), its[i]? = some d → J i Γ' Δ' Mx' → At W k A env s₀ P' H' ((x, d) :: Γ') Δ' Mx' P' s' →
      (∀ Γ'' Δ'' Mx'' P'' s'', At W k A env s₀ P' H' Γ'' Δ'' Mx'' P'' s'' → At W k A env s₀ P₀ H Γ'' Δ'' Mx'' P'' s'') →
      wpAny W.M A (execs body env) (ForQ W k A env s₀ P' H' Q B (J (i + 1))) E' s')
    (done : ∀ Γ' Δ' Mx' P' s', J its.length Γ' Δ' Mx' ∨ B Γ' Δ' Mx' → At W k A env s₀ P₀ H Γ' Δ' Mx' P' s' → wpAny W.M A (execs rest env) Q E s')
    (hs : ∀ v, foldedSetIterable iter env v = pure v := by intro _; rfl) : wpAny W.M A (execs (.For (.Name x px) iter body [] pos :: rest) env) Q E s := by
  refine wpAny_execs_cons (wpAny_For (hI A _ P s E _ X.st X.cx fun I fp Pv Sx P₁ s₁ g₁ tk₁ hW hP hst₁ hIs hI0 hIx hfp => ?_) hs)
  have W' := hW A X.a.1
  obtain ⟨oI, hoI⟩ := hIx _ _ hst₁
  have zI := X.none₀ hIs
  have X₁ := X.gr g₁ tk₁
  have own₁ : ∃ m cv ad, AtX env Γ Δ Mx H P₁ m cv ad s₁.heap ∧ I ∉ ownOf env Δ ad Mx := by
    obtain ⟨m, cv, ad, y, _, ho⟩ := X.gr_own g₁
    exact ⟨m, cv, ad, y, ho I hIs⟩
  have P0I : P₀ I = none := by
    cases q : P₀ I with
    | none => rfl
    | some o => rw [X₁.le _ _ q] at hI0; cases hI0
  have HleI : ∀ h, Le H (HI H I h) := fun h b o e => by
    have n : b ≠ I := fun z => by rw [z, zI.2] at e; cases e
    rw [HI_ne n]; exact e
  -- the footprint stands, whatever the frame does
  have fpK : ∀ i (h h' : Heap) (P' : Vw), Sx i h → Le P₁ P' → In P' h' → (∀ o, h.get? I = some o → h'.get? I = some o) → In P' h → Sx i h' := fun i h h' P' q le inn hi inn0 => W'.frame i h h' q fun b hb o e => by
    by_cases z : b = I
    · subst z; exact hi o e
    · obtain ⟨o', _, hp⟩ := hfp b hb z
      have e1 := inn0 _ _ (le _ _ (hp rfl))
      rw [e] at e1; cases e1
      exact inn _ _ (le _ _ (hp rfl))
  refine codeAny_forLoop (fun j s' => ∃ i Γ' Δ' Mx' P', i ≤ its.length ∧ j = its.length + 1 - i ∧ J i Γ' Δ' Mx' ∧ Le P₁ P' ∧ P' I = none ∧ Sx i s'.heap ∧ At W k A env s₀ P₀ (HI H I s'.heap) Γ' Δ' Mx' P' s') ?_ (its.length + 1)
    ⟨0, Γ, Δ, Mx, P₁, Nat.zero_le _, rfl, hJ, Le.refl _, hI0, hst₁, X₁.iter (h' := s₁.heap) (fun _ _ => rfl) own₁ hI0 zI.1 (fun _ _ _ e => e) tk₁⟩
  rintro j s' ⟨i, Γ', Δ', Mx', P', hi, rfl, hJ', le', hPI, hst', X'⟩
  obtain ⟨oI', hoI'⟩ := hIx _ _ hst'
  have own' := X'.notOwn (I := I) (o := oI') (by rw [HI_at]; exact hoI')
  by_cases hlt : i < its.length
  · refine wp_tk X'.tk (W'.item i s' _ _ hlt hst' fun v h₂ tk₂ hPv hst₂ hk₂ tkv => ?_)
    obtain ⟨d, hd, hid⟩ := hP i v hPv
    have X₂ : At W k A env s₀ P₀ (HI H I h₂) Γ' Δ' Mx' P' { s' with heap := h₂, toks := tk₂ } := X'.iter (fun b n => HI_ne n) own' hPI zI.1 (fun b o n e => hk₂ b o (by simpa using n) e) tkv
    obtain ⟨hx1, hx2⟩ := hJx i Γ' Δ' Mx' hJ'
    obtain ⟨m, cv, ad, y, hn⟩ := X₂.mnew
    obtain ⟨oI₂, hoI₂⟩ := hIx _ _ hst₂
    refine wpAny_assign_Name (At.store X₂ y hn hb hx1 hx2 fun s₃ g1 _ g3 => ?_)
    have X₃ := (g1 d (hid.mono le')).1
    have hst₃ : Sx (i + 1) s₃.heap := fpK _ _ _ P' hst₂ le' X₃.inn (fun o e => X₃.hin _ _ (by rw [HI_at]; exact e)) X₂.inn
    refine wpAny_mono (turn i d (HI H I h₂) Γ' Δ' Mx' P' s₃ _ hd hJ' X₃.rebase fun Γ'' Δ'' Mx'' P'' s'' Y => (X₃.back Y).lessH (HleI h₂)) (fun f s₄ q => ?_) fun _ _ z => z
    have fin : ∀ Γ'' Δ'' Mx'' P'', At W k A env s₀ P₀ (HI H I h₂) Γ'' Δ'' Mx'' P'' s₄ → Le P₁ P'' → Sx (i + 1) s₄.heap → J (i + 1) Γ'' Δ'' Mx'' → ∃ m, m < its.length + 1 - i ∧ ∃ i Γ' Δ' Mx' P', i ≤ its.length ∧ m = its.length + 1 - i ∧ J i Γ' Δ' Mx' ∧ Le P₁ P' ∧ P' I = none ∧ Sx i s₄.heap ∧ At W k A env s₀ P₀ (HI H I s₄.heap) Γ' Δ' Mx' P' s₄ := by
      intro Γ'' Δ'' Mx'' P'' X₄ le4 st4 hJ4
      have hI4 : P'' I = none := by
        cases q : P'' I with
        | none => rfl
        | some o =>
          rcases X₄.newH I o q with z | z
          · rw [P0I] at z; cases z
          · rw [HI_at, hoI₂] at z; cases z
      have own4 := X₄.notOwn (I := I) (o := oI₂) (by rw [HI_at]; exact hoI₂)
      exact ⟨its.length + 1 - (i + 1), ar_step hlt, i + 1, Γ'', Δ'', Mx'', P'', hlt, rfl, hJ4, le4, hI4, st4, X₄.iter (h' := s₄.heap) (fun b n => HI_ne n) own4 hI4 zI.1 (fun _ _ _ e => e) X₄.tk⟩
    have go : ∀ Γ'' Δ'' Mx'' P'', J (i + 1) Γ'' Δ'' Mx'' → At W k A env s₀ P' (HI H I h₂) Γ'' Δ'' Mx'' P'' s₄ → ∃ m, m < its.length + 1 - i ∧ ∃ i Γ' Δ' Mx' P', i ≤ its.length ∧ m = its.length + 1 - i ∧ J i Γ' Δ' Mx' ∧ Le P₁ P' ∧ P' I = none ∧ Sx i s₄.heap ∧ At W k A env s₀ P₀ (HI H I s₄.heap) Γ' Δ' Mx' P' s₄ := by
      intro Γ'' Δ'' Mx'' P'' hJ4 Y
      exact fin Γ'' Δ'' Mx'' P'' (X₃.back Y) (le'.trans Y.le) (fpK _ _ _ P' hst₃ le' (Y.inn.le Y.le) (fun o e => by
        have e3 := X₃.hin I oI₂ (by rw [HI_at]; exact hoI₂)
        have e4 := Y.hin I oI₂ (by rw [HI_at]; exact hoI₂)
        rw [e3] at e; cases e; exact e4) X₃.inn) hJ4
    cases f with
    | next => obtain ⟨Γ'', Δ'', Mx'', P'', hJ4, Y⟩ := q; exact go _ _ _ _ hJ4 Y
    | cont => obtain ⟨Γ'', Δ'', Mx'', P'', hJ4, Y⟩ := q; exact go _ _ _ _ hJ4 Y
    | brk =>
      obtain ⟨Γ'', Δ'', Mx'', P'', hB, Y⟩ := q
      exact done Γ'' Δ'' Mx'' P'' s₄ (.inr hB) ((X₃.back Y).lessH (HleI h₂))
    | ret v => exact q
  · obtain rfl : i = its.length := Nat.le_antisymm hi (Nat.not_lt.mp hlt)
    refine wp_tk X'.tk (W'.done s' _ _ hst' fun h₂ tk₂ hk₂ tkd => ?_)
    have X₂ : At W k A env s₀ P₀ (HI H I h₂) Γ' Δ' Mx' P' { s' with heap := h₂, toks := tk₂ } := X'.iter (fun b n => HI_ne n) own' hPI zI.1 (fun b o n e => hk₂ b o (by simpa using n) e) tkd
    exact wpAny_execs_nil (done Γ' Δ' Mx' P' _ (.inl hJ') (X₂.lessH (HleI h₂)))
end
end
section
/-! ### calls that turn owned objects -/
structure GrM (X : List Addr) (P : Vw) (s : Shared) (P' : Vw) (s' : Shared) : Prop where
  le : Le P P'
  inn : In P' s'.heap
  old : ∀ b o, b ∉ X → s.heap.get? b = some o → s'.heap.get? b = some o
  ext : ∀ b o, s.heap.get? b = some o → ∃ o', s'.heap.get? b = some o'
  new : ∀ b o, P' b = some o → P b = some o ∨ s.heap.get? b = none
  gens : GG s.gens s'.gens
  drawn : s'.drawn = s.drawn
  os : s'.os = s.os
theorem Gr.m {P P' : Vw} {s s' : Shared} (g : Gr P s P' s') (X : List Addr) : GrM X P s P' s' := ⟨g.le, g.inn, fun b o _ e => g.old b o e, fun b o e => ⟨o, g.old b o e⟩, g.new, g.gens, g.drawn, g.os⟩
theorem GrM.gr {P P' : Vw} {s s' : Shared} (g : GrM [] P s P' s') : Gr P s P' s' := ⟨g.le, g.inn, fun b o e => g.old b o (by simp) e, g.new, g.gens, g.drawn, g.os⟩
theorem GrM.trans {X : List Addr} {P P' P'' : Vw} {s s' s'' : Shared} (x : GrM X P s P' s') (y : GrM X P' s' P'' s'') : GrM X P s P'' s'' :=
  ⟨x.le.trans y.le, y.inn, fun b o n e => y.old b o n (x.old b o n e), fun b o e => let ⟨o', q⟩ := x.ext b o e; y.ext b o' q,
    fun b o e => (y.new b o e).elim (x.new b o) fun q => .inr (by
      cases z : s.heap.get? b with
      | none => rfl
      | some o' => obtain ⟨o'', w⟩ := x.ext b o' z; rw [q] at w; cases w), x.gens.trans y.gens, y.drawn.trans x.drawn, y.os.trans x.os⟩
theorem GrM.wide {X Y : List Addr} {P P' : Vw} {s s' : Shared} (x : GrM X P s P' s') (h : ∀ b ∈ X, b ∈ Y) : GrM Y P s P' s' :=
  ⟨x.le, x.inn, fun b o n e => x.old b o (fun q => n (h b q)) e, x.ext, x.new, x.gens, x.drawn, x.os⟩
noncomputable abbrev ads (Mx : List (Addr × MO)) : List Addr := Mx.map (·.1)
structure Dv (P : Vw) (s : Shared) (Mx : List (Addr × MO)) : Prop where
  has : ∀ p ∈ Mx, ∃ o, s.heap.get? p.1 = some o ∧ MIs P o p.2
  nd : (ads Mx).Nodup
  off : ∀ p ∈ Mx, P p.1 = none
noncomputable def ClM (W : Wd) (k : Nat) (f : Value) (ds : List D) (d : D) (Mx Mx' : List (Addr × MO)) : Prop :=
  ∀ (A : Around) (S P : Vw) (s : Shared) (E Q : Value → Shared → Prop) (vs : List Value), St W k A S P s → IsAll P vs ds → Dv P s Mx →
    (∀ v P' s', GrM (ads Mx) P s P' s' → 1 ≤ s'.toks → Dv P' s' Mx' → Is P' v d → Q v s') → wpAny W.M A (call f vs) Q E s
theorem ClM.pure {W : Wd} {k : Nat} {f : Value} {ds : List D} {d : D} (h : ClM W k f ds d [] []) : Cl W k f ds d := fun A S P s E Q vs st i hQ =>
  h A S P s E Q vs st i ⟨by simp, by simp [ads], by simp⟩ fun v P' s' g tk _ i' => hQ v P' s' g.gr i'

/-! ### entering a def -/
theorem bindL_not {kd : Str → Option NameKind} {x : Str} : ∀ {l : List (Str × Value)} {m : Str → Option Value}, x ∉ l.map (·.1) → bindL kd l m x = m x
  | [], _, _ => rfl
  | (n, v) :: r, m, h => by
    have h' : x ≠ n ∧ x ∉ r.map (·.1) := by simpa using h
    unfold bindL
    rw [bindL_not h'.2]
    split
    · simp [h'.1]
    · rfl
theorem bindC_not {kd : Str → Option NameKind} {x : Str} : ∀ {l : List (Str × Value)} {m : Str → Option Value}, x ∉ l.map (·.1) → bindC kd l m x = m x
  | [], _, _ => rfl
  | (n, v) :: r, m, h => by
    have h' : x ≠ n ∧ x ∉ r.map (·.1) := by simpa using h
    unfold bindC
    rw [bindC_not h'.2]
    split
    · rfl
    · simp [h'.1]
theorem bindL_mem {kd : Str → Option NameKind} {x : Str} {v : Value} : ∀ {l : List (Str × Value)} {m : Str → Option Value}, (l.map (·.1)).Nodup → (x, v) ∈ l → kd x = some .local → bindL kd l m x = some v
  | (n, u) :: r, m, nd, h, hk => by
    have nd' := List.nodup_cons.mp nd
    unfold bindL
    rcases List.mem_cons.mp h with e | h
    · cases e
      rw [bindL_not nd'.1, if_pos hk, if_pos rfl]
    · exact bindL_mem nd'.2 h hk
theorem bindC_mem {kd : Str → Option NameKind} {x : Str} {v : Value} : ∀ {l : List (Str × Value)} {m : Str → Option Value}, (l.map (·.1)).Nodup → (x, v) ∈ l → kd x = some .cell → bindC kd l m x = some v
  | (n, u) :: r, m, nd, h, hk => by
    have nd' := List.nodup_cons.mp nd
    unfold bindC
    rcases List.mem_cons.mp h with e | h
    · cases e
      rw [bindC_not nd'.1, if_neg (by rw [hk]; decide), if_pos rfl]
    · exact bindC_mem nd'.2 h hk
theorem cellsFrom_names : ∀ (names : List (Str × NameKind)) (n : Nat) (acc : List (Str × Addr)), ((cellsFrom n names acc).map (·.1)).Perm (((names.filter (·.2 == .cell)).map (·.1)) ++ acc.map (·.1))
  | [], n, acc => by simp [cellsFrom]
  | (x, kd) :: r, n, acc => by
    unfold cellsFrom
    cases h : kd == NameKind.cell with
    | true =>
      rw [if_pos rfl]
      refine (cellsFrom_names r (n + 1) ((x, n) :: acc)).trans ?_
      rw [List.filter_cons, if_pos (by exact h)]
      exact List.perm_middle
    | false =>
      rw [if_neg Bool.false_ne_true]
      refine (cellsFrom_names r n acc).trans ?_
      rw [List.filter_cons, if_neg (by simp [h])]
theorem lookup_of_mem {α : Type} {x : Str} {c : α} : ∀ {l : List (Str × α)}, (l.map (·.1)).Nodup → (x, c) ∈ l → l.lookup x = some c
  | (y, u) :: r, nd, h => by
    have nd' := List.nodup_cons.mp nd
    rcases List.mem_cons.mp h with e | h
    · cases e; simp
    · have : x ≠ y := fun q => nd'.1 (q ▸ List.mem_map_of_mem (f := (·.1)) h)
      rw [List.lookup_cons, beq_eq_false_iff_ne.mpr this]
      exact lookup_of_mem nd'.2 h

structure FnPre (W : Wd) (P : Vw) (f : Addr) (fd : FuncData) (body : List Stmt) (names : List Str) : Prop where
  has : ∃ o, P f = some o ∧ o.data = .func fd
  code : codeIn W.K fd.code fd.qualname = true
  body : fd.body = .stmts body
  bind : ∀ vs : List Value, vs.length = names.length → bindArgs fd ⟨vs, []⟩ = pure (names.zip vs)
  clo : fd.closure = []
  kind : ∀ x ∈ names, fd.scope.names.lookup x = some .local ∨ (fd.scope.names.lookup x = some .cell ∧ x ∈ (fd.scope.names.filter (·.2 == .cell)).map (·.1))
  nd : names.Nodup
  cnd : ((fd.scope.names.filter (·.2 == .cell)).map (·.1)).Nodup
  gl : fd.globals = mainGlobals
  bi : fd.builtins = builtinsNs
  fn : fd.scope.kind = .function
  co : fd.scope.isCoroutine = false
open Classical in
structure FnIn (W : Wd) (P : Vw) (f : Addr) (fd : FuncData) (body : List Stmt) (names : List Str) : Prop where
  has : ∃ o, P f = some o ∧ o.data = .func fd
  code : codeIn W.K fd.code fd.qualname = true
  body : fd.body = .stmts body
  bind : ∀ vs : List Value, vs.length = names.length → bindArgs fd ⟨vs, []⟩ = pure (names.zip vs)
  clo : fd.closure = []
  kind : ∀ x ∈ names, fd.scope.names.lookup x = some .local ∨ (fd.scope.names.lookup x = some .cell ∧ x ∈ (fd.scope.names.filter (·.2 == .cell)).map (·.1))
  nd : names.Nodup
  cnd : ((fd.scope.names.filter (·.2 == .cell)).map (·.1)).Nodup
  gl : fd.globals = mainGlobals
  bi : fd.builtins = builtinsNs
  fn : fd.scope.kind = .function
  co : fd.scope.isCoroutine = false
  gen : fd.scope.isGenerator = false
open Classical in
theorem FnIn.pre {W : Wd} {P : Vw} {f : Addr} {fd : FuncData} {body : List Stmt} {names : List Str} (x : FnIn W P f fd body names) : FnPre W P f fd body names := ⟨x.has, x.code, x.body, x.bind, x.clo, x.kind, x.nd, x.cnd, x.gl, x.bi, x.fn, x.co⟩
noncomputable def offX (X : List Addr) (h : Heap) : Vw := fun b => if b ∈ X then none else h.get? b
theorem offX_in {X : List Addr} {h : Heap} : In (offX X h) h := fun b o e => by
  unfold offX at e
  split at e
  · cases e
  · exact e
theorem offX_none {X : List Addr} {h : Heap} {b : Addr} (hb : b ∈ X) : offX X h b = none := if_pos hb
theorem offX_fresh {X : List Addr} {h : Heap} {b : Addr} (hb : h.get? b = none) : offX X h b = none := by
  unfold offX; split
  · rfl
  · exact hb
theorem offX_old {X : List Addr} {h : Heap} {b : Addr} {o : Obj} (hb : b ∉ X) (e : h.get? b = some o) : offX X h b = some o := by
  unfold offX; rw [if_neg hb]; exact e
/-- where the body of a def begins -/
theorem at_enter {W : Wd} {k : Nat} {A : Around} {S P : Vw} {s s₁ : Shared} {f : Addr} {fd : FuncData} {body : List Stmt} {names : List Str} {vs : List Value} {ds : List D} {Mx : List (Addr × MO)} (F : FnPre W P f fd body names) (st : St W (k + 1) A S P s) (i : IsAll P vs ds) (hl : ds.length = names.length)
    (dv : Dv P s Mx) (tk : 1 ≤ s₁.toks)
    (x : InCallC s (callEnvC fd s.heap.objs.size f).locals (bindL (callEnvC fd s.heap.objs.size f).kindOf (names.zip vs) fun _ => none) (callEnvC fd s.heap.objs.size f).cells (bindC (callEnvC fd s.heap.objs.size f).kindOf (names.zip vs) fun _ => none) s₁) :
    At W k (A.deeper (callEnvC fd s.heap.objs.size f)) (callEnvC fd s.heap.objs.size f) s P (offX (ads Mx) s.heap) (names.zip ds) [] Mx P s₁ := by
  have hcn : ((callEnvC fd s.heap.objs.size f).cells.map (·.1)).Nodup := by
    have := cellsFrom_names fd.scope.names (s.heap.objs.size + 1) []
    rw [List.map_nil, List.append_nil] at this
    exact this.nodup_iff.mpr F.cnd
  have hlv : vs.length = names.length := i.length.trans hl
  have hnz : ((names.zip vs).map (·.1)) = names := by rw [List.map_fst_zip (Nat.le_of_eq hlv.symm)]
  have fr : ∀ b, s.heap.objs.size ≤ b → s.heap.get? b = none := fun b h => Heap.get?_none_of_le h
  have hL : s.heap.objs.size ≤ (callEnvC fd s.heap.objs.size f).locals := x.toInCall.fresh
  obtain ⟨h', tk', rfl⟩ := x.toInCall.same
  refine ⟨st.a.deeper, st.b, tk, F.fn, F.gl, F.bi, Le.refl _, fun b o e => x.toInCall.keep b o (st.p _ _ e), fun b o e => x.toInCall.keep b o (offX_in _ _ e), fun b o e => .inl e, fun b o e => .inl e,
    fun b o e => ⟨o, x.toInCall.keep b o e⟩, ⟨_, bindC (callEnvC fd s.heap.objs.size f).kindOf (names.zip vs) fun _ => none, fun _ => 0, ⟨x.toInCall.ns, fun p hp => ?_, fun p hp => ?_, fun p hp => (nomatch hp), fun p hp => let ⟨o, q, i⟩ := dv.has p hp; ⟨o, x.toInCall.keep _ _ q, i⟩, ?_, hcn, fun b hb => ?_, fun b hb => ?_⟩, fun p hp => (nomatch hp)⟩, GG.refl _, rfl, rfl⟩
  · exact x.cell p.1 p.2 (lookup_of_mem hcn hp)
  · obtain ⟨j, hj, e⟩ := List.mem_iff_getElem.mp hp
    rw [List.length_zip] at hj
    have hj1 : j < names.length := Nat.lt_of_lt_of_le hj (Nat.min_le_left _ _)
    have hj2 : j < ds.length := Nat.lt_of_lt_of_le hj (Nat.min_le_right _ _)
    rw [List.getElem_zip] at e
    obtain ⟨v, hv, hi⟩ := i.get (k := j) (d := ds[j]) (List.getElem?_eq_getElem hj2)
    have hjv : j < vs.length := hlv ▸ hj1
    have hm : (names[j], v) ∈ names.zip vs := by
      refine List.mem_iff_getElem.mpr ⟨j, by rw [List.length_zip]; exact Nat.lt_min.mpr ⟨hj1, hjv⟩, ?_⟩
      rw [List.getElem_zip]
      rw [List.getElem?_eq_getElem hjv] at hv
      rw [Option.some.inj hv]
    rw [← e]
    refine ⟨v, ?_, hi⟩
    unfold lookN
    have ndz : ((names.zip vs).map (·.1)).Nodup := by rw [hnz]; exact F.nd
    rcases F.kind names[j] (List.getElem_mem hj1) with hk | ⟨hk, hc⟩
    · rw [show (callEnvC fd s.heap.objs.size f).kindOf names[j] = some .local from hk]
      exact bindL_mem ndz hm hk
    · rw [show (callEnvC fd s.heap.objs.size f).kindOf names[j] = some .cell from hk]
      have hc' : names[j] ∈ ((callEnvC fd s.heap.objs.size f).cells.map (·.1)) := by
        have := cellsFrom_names fd.scope.names (s.heap.objs.size + 1) []
        rw [List.map_nil, List.append_nil] at this
        exact this.mem_iff.mpr hc
      obtain ⟨p, hp, hpe⟩ := List.mem_map.mp hc'
      have hlk := lookup_of_mem (x := p.1) (c := p.2) hcn hp
      rw [hpe] at hlk
      rw [hlk]
      exact bindC_mem ndz hm hk
  · refine List.nodup_cons.mpr ⟨fun h => ?_, List.nodup_append.mpr ⟨?_, by simpa using dv.nd, fun a ha b hb e => ?_⟩⟩
    · rcases List.mem_append.mp h with h | h
      · obtain ⟨p, hp, e⟩ := List.mem_map.mp h
        exact Nat.ne_of_gt (x.above p.1 p.2 hp) e
      · obtain ⟨p, hp, e⟩ := List.mem_map.mp (by simpa using h : _ ∈ ads Mx)
        obtain ⟨o, this, _⟩ := dv.has p hp
        rw [e, fr _ hL] at this; cases this
    · exact List.pairwise_map.mpr x.apart
    · obtain ⟨p, hp, rfl⟩ := List.mem_map.mp ha
      obtain ⟨q, hq, rfl⟩ := List.mem_map.mp (by simpa using hb : b ∈ ads Mx)
      obtain ⟨o, this, _⟩ := dv.has q hq
      rw [← e, fr _ (Nat.le_trans hL (Nat.le_of_lt (x.above p.1 p.2 hp)))] at this; cases this
  · rcases List.mem_cons.mp hb with rfl | hb
    · cases q : P (callEnvC fd s.heap.objs.size f).locals with
      | none => rfl
      | some o => have := st.p _ _ q; rw [fr _ hL] at this; cases this
    · rcases List.mem_append.mp hb with hb | hb
      · obtain ⟨p, hp, rfl⟩ := List.mem_map.mp hb
        cases q : P p.2 with
        | none => rfl
        | some o => have := st.p _ _ q; rw [fr _ (Nat.le_trans hL (Nat.le_of_lt (x.above p.1 p.2 hp)))] at this; cases this
      · obtain ⟨p, hp, rfl⟩ := List.mem_map.mp (by simpa using hb : b ∈ ads Mx)
        exact dv.off p hp
  · rcases List.mem_cons.mp hb with rfl | hb
    · exact offX_fresh (fr _ hL)
    · rcases List.mem_append.mp hb with hb | hb
      · obtain ⟨p, hp, rfl⟩ := List.mem_map.mp hb
        exact offX_fresh (fr _ (Nat.le_trans hL (Nat.le_of_lt (x.above p.1 p.2 hp))))
      · exact offX_none (by simpa using hb)
/-- what a body comes to -/
noncomputable def FinM (W : Wd) (k : Nat) (A : Around) (env : Env) (s₀ : Shared) (P₀ H : Vw) (Mx' : List (Addr × MO)) (d : D) (fl : Flow) (s' : Shared) : Prop :=
  ∃ P' Γ' Δ' rest, At W k A env s₀ P₀ H Γ' Δ' (Mx' ++ rest) P' s' ∧ Is P' (match fl with | .ret v => v | _ => .none) d
theorem At.leave {W : Wd} {k : Nat} {A : Around} {env : Env} {s₀ s : Shared} {P₀ P : Vw} {X : List Addr} {Γ : List (Str × D)} {Δ : List (Str × List D)} {Mx rest : List (Addr × MO)} (Y : At W k A env s₀ P₀ (offX X s₀.heap) Γ Δ (Mx ++ rest) P s) (hX : ads Mx = X) : GrM X P₀ s₀ P s ∧ Dv P s Mx := by
  obtain ⟨m, cv, ad, y, hn⟩ := Y.mnew
  refine ⟨⟨Y.le, Y.inn, fun b o n e => Y.hin b o (offX_old n e), Y.ext, Y.new, Y.gens, Y.drawn, Y.os⟩, fun p hp => y.raw p (List.mem_append_left _ hp), ?_, fun p hp => y.offP p.1 ?_⟩
  · have h1 := (List.nodup_append.mp (List.nodup_cons.mp y.nd).2).2.1
    have h2 := (List.nodup_append.mp h1).2.1
    rw [List.map_append] at h2
    exact (List.nodup_append.mp h2).1
  · exact List.mem_cons_of_mem _ (List.mem_append_right _ (List.mem_append_right _ (List.mem_map_of_mem (List.mem_append_left _ hp))))
/-- the same, of the code of a call -/
noncomputable def KlM (W : Wd) (k : Nat) (f : Value) (ds : List D) (d : D) (Mx Mx' : List (Addr × MO)) : Prop :=
  ∀ (A : Around) (S P : Vw) (s : Shared) (R : Result → Shared → Prop) (vs : List Value), St W k A S P s → IsAll P vs ds → Dv P s Mx →
    (∀ v P' s', GrM (ads Mx) P s P' s' → 1 ≤ s'.toks → Dv P' s' Mx' → Is P' v d → R (.ok (.ret v)) s') → codeAny W.M A (.call f ⟨vs, []⟩) R s
theorem KlM.cl {W : Wd} {k : Nat} {f : Value} {ds : List D} {d : D} {Mx Mx' : List (Addr × MO)} (h : KlM W k f ds d Mx Mx') : ClM W k f ds d Mx Mx' := fun A S P s E Q vs st i dv hQ =>
  wpAny_call (h A S P s _ vs st i dv fun v P' s' g tk dv' i' => hQ v P' s' g tk dv' i')
theorem klm_fn {W : Wd} {k : Nat} {f : Addr} {fd : FuncData} {body : List Stmt} {names : List Str} {ds : List D} {d : D} {Mx Mx' : List (Addr × MO)} (F : ∀ P, W.B P → FnIn W P f fd body names) (hl : ds.length = names.length) (hX : ads Mx' = ads Mx)
    (hb : ∀ A L s₀ P₀ P s, Le P₀ P → At W k A (callEnvC fd L f) s₀ P₀ (offX (ads Mx) s₀.heap) (names.zip ds) [] Mx P s →
      wpAny W.M A (execs body (callEnvC fd L f)) (FinM W k A (callEnvC fd L f) s₀ P₀ (offX (ads Mx) s₀.heap) Mx' d) (fun _ _ => False) s) : KlM W (k + 1) (.ref f) ds d Mx Mx' := by
  intro A S P s R vs st i dv hQ
  have F := F P st.b
  obtain ⟨o, ho, hd⟩ := F.has
  have T := st.b.top s.heap st.p
  refine codeAny_call_function (Nat.lt_of_le_of_lt (Nat.le_add_right _ _) st.a.2.1) (st.p _ _ ho) hd F.co F.gen F.body (codeRec_of (Bs.frag st.b st.p) F.code) ?_
  rw [F.bind vs (i.length.trans hl), F.clo]
  refine wpAny_pure (wp_tk st.tk (wpAny_newFunctionEnv_cells F.fn (fun x hx => ?_) fun env he s' x tk => ?_))
  · have hx1 := (List.of_mem_zip (a := x.1) (b := x.2) hx).1
    rcases F.kind x.1 hx1 with h | ⟨h, hc⟩
    · exact .inl h
    · refine .inr ⟨h, ?_⟩
      have := cellsFrom_names fd.scope.names (s.heap.objs.size + 1) []
      rw [List.map_nil, List.append_nil] at this
      obtain ⟨p, hp, hpe⟩ := List.mem_map.mp (this.mem_iff.mpr hc)
      have hcn := this.nodup_iff.mpr F.cnd
      rw [← hpe, lookup_of_mem hcn hp]; rfl
  · subst he
    refine ⟨T.nolimit.keeps x.toInCall.keep, codeAny_func (wpAny_mono (hb _ s.heap.objs.size s P P s' (Le.refl _) (at_enter F.pre st i hl dv tk x)) (fun fl s'' hf => ?_) fun _ _ h => h.elim)⟩
    obtain ⟨P', Γ', Δ', rest, Y, hi⟩ := hf
    obtain ⟨g, dv'⟩ := Y.leave hX
    exact hQ _ P' s'' g Y.tk dv' hi
theorem clm_fn {W : Wd} {k : Nat} {f : Addr} {fd : FuncData} {body : List Stmt} {names : List Str} {ds : List D} {d : D} {Mx Mx' : List (Addr × MO)} (F : ∀ P, W.B P → FnIn W P f fd body names) (hl : ds.length = names.length) (hX : ads Mx' = ads Mx)
    (hb : ∀ A L s₀ P₀ P s, Le P₀ P → At W k A (callEnvC fd L f) s₀ P₀ (offX (ads Mx) s₀.heap) (names.zip ds) [] Mx P s →
      wpAny W.M A (execs body (callEnvC fd L f)) (FinM W k A (callEnvC fd L f) s₀ P₀ (offX (ads Mx) s₀.heap) Mx' d) (fun _ _ => False) s) : ClM W (k + 1) (.ref f) ds d Mx Mx' := (klm_fn F hl hX hb).cl
noncomputable abbrev Done (W : Wd) (k : Nat) (A : Around) (env : Env) (s₀ : Shared) (P₀ H : Vw) (d : D) (fl : Flow) (s' : Shared) : Prop := ∃ P' Γ' Δ' Mx', At W k A env s₀ P₀ H Γ' Δ' Mx' P' s' ∧ Is P' (match fl with | .ret v => v | _ => .none) d
/-- a def that turns nothing -/
theorem cl_fn {W : Wd} {k : Nat} {f : Addr} {fd : FuncData} {body : List Stmt} {names : List Str} {ds : List D} {d : D} (F : ∀ P, W.B P → FnIn W P f fd body names) (hl : ds.length = names.length)
    (hb : ∀ A L s₀ P₀ H P s, At W k A (callEnvC fd L f) s₀ P₀ H (names.zip ds) [] [] P s →
      wpAny W.M A (execs body (callEnvC fd L f)) (Done W k A (callEnvC fd L f) s₀ P₀ H d) (fun _ _ => False) s) : Cl W (k + 1) (.ref f) ds d :=
  ClM.pure (clm_fn F hl rfl fun A L s₀ P₀ P s _ X =>
    wpAny_mono (hb A L s₀ P₀ _ P s X) (fun fl s' h => h) fun _ _ h => h)
end
section
section
variable {W : Wd} {k : Nat} {A : Around} {env : Env} {s₀ : Shared} {P₀ H : Vw} {Γ : List (Str × D)} {Δ : List (Str × List D)} {Mx : List (Addr × MO)} {P : Vw} {s : Shared} {E : Value → Shared → Prop} {Q : Flow → Shared → Prop}

/-! ### names that go -/
noncomputable def rm {α : Type} (x : Str) (l : List (Str × α)) : List (Str × α) := l.filter fun p => !(p.1 == x)
theorem rm_ne {α : Type} {x : Str} {l : List (Str × α)} : ∀ p ∈ rm x l, p.1 ≠ x := fun p hp => by
  have := (List.mem_filter.mp hp).2
  simpa using this
theorem rm_sub {α : Type} {x : Str} {l : List (Str × α)} : ∀ p ∈ rm x l, p ∈ l := fun p hp => (List.mem_filter.mp hp).1
theorem rm_mem {α : Type} {x y : Str} {d : α} {l : List (Str × α)} (h : (y == x) = false) (hm : (y, d) ∈ l) : (y, d) ∈ rm x l := List.mem_filter.mpr ⟨hm, by show (!(y == x)) = true; rw [h]; rfl⟩
theorem At.less (X : At W k A env s₀ P₀ H Γ Δ Mx P s) (x : Str) : At W k A env s₀ P₀ H (rm x Γ) (rm x Δ) Mx P s := (X.forget rm_sub).drop List.filter_sublist
theorem At.permM {Mx' : List (Addr × MO)} (X : At W k A env s₀ P₀ H Γ Δ Mx P s) (h : Mx'.Perm Mx) : At W k A env s₀ P₀ H Γ Δ Mx' P s := by
  obtain ⟨m, cv, ad, y, hn⟩ := X.mnew
  have hp : (ownOf env Δ ad Mx').Perm (ownOf env Δ ad Mx) := List.Perm.cons _ (List.Perm.append (List.Perm.refl _) (List.Perm.append (List.Perm.refl _) (h.map _)))
  exact { X with mnew := ⟨m, cv, ad, { y with raw := fun p q => y.raw p (h.subset q), nd := hp.nodup_iff.mpr y.nd, offP := fun b hb => y.offP b (hp.subset hb), offH := fun b hb => y.offH b (hp.subset hb) }, hn⟩ }

theorem AtX.gr {m cv : Str → Option Value} {ad : Str → Addr} {P' : Vw} {s' : Shared} (y : AtX env Γ Δ Mx H P m cv ad s.heap) (g : Gr P s P' s') : AtX env Γ Δ Mx H P' m cv ad s'.heap := by
  refine ⟨y.ns.keeps g.old, fun p hp => ?_, fun p hp => ?_, fun p hp => ?_, fun p hp => (y.raw p hp).imp fun o hh => ⟨g.old _ _ hh.1, hh.2.mono g.le⟩, y.nd, y.cnd, fun b hb => (gr_none g ⟨y.offP b hb, y.exist b hb⟩).1, y.offH⟩
  · obtain ⟨o, q, d⟩ := y.cells p hp; exact ⟨o, g.old _ _ q, d⟩
  · obtain ⟨v, e, i⟩ := y.vars p hp; exact ⟨v, e, i.mono g.le⟩
  · obtain ⟨vs, n, e, q, i⟩ := y.muts p hp; exact ⟨vs, n, e, g.old _ _ q, i.mono g.le⟩

/-- the first list that turns takes new items -/
theorem At.turn {x : Str} {ds ds' : List D} {m cv : Str → Option Value} {ad : Str → Addr} {vs' : List Value} {n' : Nat} {h' : Heap} {tk' : Nat} (X : At W k A env s₀ P₀ H Γ ((x, ds) :: Δ) Mx P s) (y : AtX env Γ ((x, ds) :: Δ) Mx H P m cv ad s.heap) (hn : ∀ p ∈ (x, ds) :: Δ, s₀.heap.get? (ad p.1) = none)
    (tk : 1 ≤ tk') (hk : ∀ b o, b ≠ ad x → s.heap.get? b = some o → h'.get? b = some o) (he : h'.get? (ad x) = some (listOf vs'.toArray n')) (hi : IsAll P vs' ds') : At W k A env s₀ P₀ H Γ ((x, ds') :: Δ) Mx P { s with heap := h', toks := tk' } := by
  have hmem : ad x ∈ ownOf env ((x, ds) :: Δ) ad Mx := List.mem_cons_of_mem _ (List.mem_append_right _ (List.mem_append_left _ (List.mem_map_of_mem (f := fun p => ad p.1) (List.mem_cons_self (a := (x, ds))))))
  have nd := List.nodup_cons.mp y.nd
  have nd2 := List.nodup_append.mp nd.2
  have nd3 := List.nodup_append.mp nd2.2.1
  have nd4 := List.nodup_cons.mp nd3.1
  refine { X with
    tk := tk
    inn := keep_but X.inn hk (y.offP _ hmem)
    hin := keep_but X.hin hk (y.offH _ hmem)
    ext := fun b o e => by
      obtain ⟨o', q⟩ := X.ext b o e
      by_cases hb : b = ad x
      · rw [hb]; exact ⟨_, he⟩
      · exact ⟨o', hk _ _ hb q⟩
    mnew := ⟨m, cv, ad, ⟨y.ns.at' fun o e => hk _ o (fun z => nd.1 (z ▸ List.mem_append_right _ (List.mem_append_left _ List.mem_cons_self))) e, fun p hp => ?_, y.vars, fun p hp => ?_, fun p hp => ?_, y.nd, y.cnd, y.offP, y.offH⟩, fun p hp => ?_⟩ }
  · obtain ⟨o, q, d⟩ := y.cells p hp
    exact ⟨o, hk _ _ (fun z => nd2.2.2 p.2 (List.mem_map_of_mem hp) (ad x) (List.mem_append_left _ List.mem_cons_self) z) q, d⟩
  · rcases List.mem_cons.mp hp with rfl | hp
    · obtain ⟨vs, n, e, q, i⟩ := y.muts _ List.mem_cons_self
      exact ⟨vs', n', e, he, hi⟩
    · obtain ⟨vs, n, e, q, i⟩ := y.muts _ (List.mem_cons_of_mem _ hp)
      refine ⟨vs, n, e, hk _ _ (fun z => nd4.1 ?_) q, i⟩
      have hm := List.mem_map_of_mem (f := fun p => ad p.1) hp
      show ad x ∈ _
      rw [← z]; exact hm
  · obtain ⟨o, q, i⟩ := y.raw p hp
    exact ⟨o, hk _ _ (fun z => nd3.2.2 (ad x) List.mem_cons_self p.1 (List.mem_map_of_mem hp) z.symm) q, i⟩
  · rcases List.mem_cons.mp hp with rfl | hp
    · exact hn (x, ds) List.mem_cons_self
    · exact hn p (List.mem_cons_of_mem _ hp)
/-- the first raw object is changed -/
theorem At.turnR {a : Addr} {o o' : MO} {ob : Obj} {h' : Heap} {tk' : Nat} (X : At W k A env s₀ P₀ H Γ Δ ((a, o) :: Mx) P s) (tk : 1 ≤ tk') (hk : ∀ b o, b ≠ a → s.heap.get? b = some o → h'.get? b = some o) (he : h'.get? a = some ob) (hi : MIs P ob o') :
    At W k A env s₀ P₀ H Γ Δ ((a, o') :: Mx) P { s with heap := h', toks := tk' } := by
  obtain ⟨m, cv, ad, y, hn⟩ := X.mnew
  have hmem : a ∈ ownOf env Δ ad ((a, o) :: Mx) := List.mem_cons_of_mem _ (List.mem_append_right _ (List.mem_append_right _ List.mem_cons_self))
  have nd := List.nodup_cons.mp y.nd
  have nd2 := List.nodup_append.mp nd.2
  have nd3 := List.nodup_append.mp nd2.2.1
  have nd4 := List.nodup_cons.mp nd3.2.1
  refine { X with
    tk := tk
    inn := keep_but X.inn hk (y.offP _ hmem)
    hin := keep_but X.hin hk (y.offH _ hmem)
    ext := fun b o e => by
      obtain ⟨o', q⟩ := X.ext b o e
      by_cases hb : b = a
      · rw [hb]; exact ⟨_, he⟩
      · exact ⟨o', hk _ _ hb q⟩
    mnew := ⟨m, cv, ad, ⟨y.ns.at' fun o e => hk _ o (fun z => nd.1 (z ▸ List.mem_append_right _ (List.mem_append_right _ List.mem_cons_self))) e, fun p hp => ?_, y.vars, fun p hp => ?_, fun p hp => ?_, y.nd, y.cnd, y.offP, y.offH⟩, hn⟩ }
  · obtain ⟨o, q, d⟩ := y.cells p hp
    exact ⟨o, hk _ _ (fun z => nd2.2.2 p.2 (List.mem_map_of_mem hp) a (List.mem_append_right _ List.mem_cons_self) z) q, d⟩
  · obtain ⟨vs, n, e, q, i⟩ := y.muts _ hp
    exact ⟨vs, n, e, hk _ _ (fun z => nd3.2.2 (ad p.1) (List.mem_map_of_mem (f := fun p => ad p.1) hp) a List.mem_cons_self z) q, i⟩
  · rcases List.mem_cons.mp hp with rfl | hp
    · exact ⟨_, he, hi⟩
    · obtain ⟨o, q, i⟩ := y.raw p (List.mem_cons_of_mem _ hp)
      exact ⟨o, hk _ _ (fun z => nd4.1 (z ▸ List.mem_map_of_mem (f := (·.1)) hp)) q, i⟩
/-- a list that turned turns no more: it becomes data -/
theorem addV_in {h : Heap} {a : Addr} {o : Obj} (p : In P h) (e : h.get? a = some o) : In (addV P a o) h := fun b o' q => by
  by_cases hb : b = a
  · subst hb; rw [addV_at] at q; cases q; exact e
  · rw [addV_ne hb] at q; exact p _ _ q
theorem At.freeze {x : Str} {ds : List D} (X : At W k A env s₀ P₀ H Γ ((x, ds) :: Δ) Mx P s) : ∃ P', At W k A env s₀ P₀ H ((x, .list ds) :: Γ) Δ Mx P' s := by
  obtain ⟨m, cv, ad, y, hn⟩ := X.mnew
  obtain ⟨vs, n, e, q, i⟩ := y.muts _ List.mem_cons_self
  have hmem : ad x ∈ ownOf env ((x, ds) :: Δ) ad Mx := List.mem_cons_of_mem _ (List.mem_append_right _ (List.mem_append_left _ (List.mem_map_of_mem (f := fun p => ad p.1) (List.mem_cons_self (a := (x, ds))))))
  have hP := y.offP _ hmem
  have hH := y.offH _ hmem
  have hs : (ownOf env Δ ad Mx).Sublist (ownOf env ((x, ds) :: Δ) ad Mx) := List.Sublist.cons_cons _ (List.Sublist.append (List.Sublist.refl _) (List.Sublist.append ((List.sublist_cons_self _ _).map _) (List.Sublist.refl _)))
  have hx : ad x ∉ ownOf env Δ ad Mx := by
    have : (ownOf env ((x, ds) :: Δ) ad Mx).Perm (ad x :: ownOf env Δ ad Mx) := by
      show (env.locals :: (env.cells.map (·.2) ++ ((ad x :: Δ.map (fun p => ad p.1)) ++ Mx.map (·.1)))).Perm _
      refine List.Perm.trans ?_ (List.Perm.swap _ _ _)
      exact List.Perm.cons _ List.perm_middle
    exact (List.nodup_cons.mp (this.nodup_iff.mp y.nd)).1
  have h0 := hn _ List.mem_cons_self
  refine ⟨addV P (ad x) (PySem.W.listOf vs.toArray n), { X with
    b := X.b.up (addV_le hP)
    le := X.le.trans (addV_le hP)
    inn := addV_in X.inn q
    new := fun b o e' => by
      by_cases hb : b = ad x
      · subst hb; exact .inr h0
      · rw [addV_ne hb] at e'; exact X.new _ _ e'
    newH := fun b o e' => by
      by_cases hb : b = ad x
      · subst hb; exact .inr hH
      · rw [addV_ne hb] at e'; exact X.newH _ _ e'
    mnew := ⟨m, cv, ad, ⟨y.ns, y.cells, fun p hp => ?_, fun p hp => ?_, fun p hp => (y.raw p hp).imp fun o hh => ⟨hh.1, hh.2.mono (addV_le hP)⟩, y.nd.sublist hs, y.cnd, fun b hb => ?_, fun b hb => y.offH b (hs.subset hb)⟩, fun p hp => hn p (List.mem_cons_of_mem _ hp)⟩ }⟩
  · rcases List.mem_cons.mp hp with rfl | hp
    · exact ⟨_, e, .list addV_at (i.mono (addV_le hP))⟩
    · obtain ⟨v, e, i⟩ := y.vars p hp
      exact ⟨v, e, i.mono (addV_le hP)⟩
  · obtain ⟨vs, n, e, q, i⟩ := y.muts p (List.mem_cons_of_mem _ hp)
    exact ⟨vs, n, e, q, i.mono (addV_le hP)⟩
  · rw [addV_ne (fun z : b = ad x => hx (z ▸ hb))]
    exact y.offP b (hs.subset hb)

/-! ### assignments -/
theorem s_set {x : Str} {p pos : Pos} {e : Expr} {rest : List Stmt} {d : D} (X : At W k A env s₀ P₀ H Γ Δ Mx P s) (hv : Ev (W.at Mx) k env Γ Δ e d) (hb : Bindable env x)
    (next : ∀ P' s', At W k A env s₀ P₀ H ((x, d) :: rm x Γ) (rm x Δ) Mx P' s' → wpAny W.M A (execs rest env) Q E s')
    (hs : swapsWith e (some (.Name x p)) pos.line env = pure false := by rfl) : wpAny W.M A (execs (.Assign [.Name x p] e pos :: rest) env) Q E s := by
  refine wpAny_execs_cons (wpAny_Assign_Name (hv A _ P s E _ X.st X.cx fun v P' s' g tk i => ?_) hs)
  have X' := (X.gr g tk).less x
  obtain ⟨m, cv, ad, y, hn⟩ := X'.mnew
  exact At.store X' y hn hb rm_ne rm_ne fun s'' h1 _ _ => next P' s'' (h1 d i).1
theorem s_setN {x : Str} {p pos : Pos} {e : Expr} {rest : List Stmt} {ds : List D} (X : At W k A env s₀ P₀ H Γ Δ Mx P s) (hv : EvN (W.at Mx) k env Γ Δ e ds) (hb : Bindable env x)
    (next : ∀ P' s', At W k A env s₀ P₀ H (rm x Γ) ((x, ds) :: rm x Δ) Mx P' s' → wpAny W.M A (execs rest env) Q E s')
    (hs : swapsWith e (some (.Name x p)) pos.line env = pure false := by rfl) : wpAny W.M A (execs (.Assign [.Name x p] e pos :: rest) env) Q E s := by
  refine wpAny_execs_cons (wpAny_Assign_Name (hv A _ P s E _ X.st X.cx fun a vs n P' s' g tk h0 h1 h2 i => ?_) hs)
  have z := X.none₀ h0
  obtain ⟨m₀, cv₀, ad₀, y₀, hn₀, ho⟩ := X.gr_own g
  have X1 := X.gr g tk
  have X' := X1.less x
  have y : AtX env (rm x Γ) (rm x Δ) Mx H P' m₀ cv₀ ad₀ s'.heap := by
    have hs : (ownOf env (rm x Δ) ad₀ Mx).Sublist (ownOf env Δ ad₀ Mx) := List.Sublist.cons_cons _ (List.Sublist.append (List.Sublist.refl _) (List.Sublist.append (List.filter_sublist.map _) (List.Sublist.refl _)))
    exact { y₀ with vars := fun p hp => y₀.vars p (rm_sub p hp), muts := fun p hp => y₀.muts p (rm_sub p hp), nd := y₀.nd.sublist hs, offP := fun b hb => y₀.offP b (hs.subset hb), offH := fun b hb => y₀.offH b (hs.subset hb) }
  have hown : a ∉ ownOf env (rm x Δ) ad₀ Mx := fun hb => by
    have hs : (ownOf env (rm x Δ) ad₀ Mx).Sublist (ownOf env Δ ad₀ Mx) := List.Sublist.cons_cons _ (List.Sublist.append (List.Sublist.refl _) (List.Sublist.append (List.filter_sublist.map _) (List.Sublist.refl _)))
    exact ho a h0 (hs.subset hb)
  exact At.store X' y (fun p hp => hn₀ p (rm_sub p hp)) hb rm_ne rm_ne fun s'' _ h3 _ => next P' s'' (h3 a vs n ds rfl h2 i h1 z.2 hown z.1).1

/-- one name takes a value that is at hand -/
theorem At.name {M : Model} {Q : Unit → Shared → Prop} {x : Str} {v : Value} {d : D} (X : At W k A env s₀ P₀ H Γ Δ Mx P s) (i : Is P v d) (hb : Bindable env x)
    (h : ∀ s', At W k A env s₀ P₀ H ((x, d) :: rm x Γ) (rm x Δ) Mx P s' → Q () s') : wpAny M A (storeName env x v) Q E s := by
  have X' := X.less x
  obtain ⟨m, cv, ad, y, hn⟩ := X'.mnew
  exact At.store X' y hn hb rm_ne rm_ne fun s'' h1 _ _ => h s'' (h1 d i).1
theorem At.same (X : At W k A env s₀ P₀ H Γ Δ Mx P s) {h' : Heap} {tk' : Nat} (hk : ∀ b o, s.heap.get? b = some o → h'.get? b = some o) (tk : 1 ≤ tk') : At W k A env s₀ P₀ H Γ Δ Mx P { s with heap := h', toks := tk' } := X.gr (Gr.keep X.inn hk) tk
theorem ext_keep {h h' : Heap} (k : Heap.ExtBut h.objs.size h h') : ∀ b o, h.get? b = some o → h'.get? b = some o := fun b o e => k b o (Nat.ne_of_lt (Heap.lt_size e)) e

theorem tup2 {P : Vw} {v : Value} {d1 d2 : D} (i : Is P v (.tup [d1, d2])) : ∃ t v1 v2 n, v = .ref t ∧ P t = some { cls := .type "tuple", data := .seq [v1, v2].toArray n } ∧ Is P v1 d1 ∧ Is P v2 d2 := by
  obtain ⟨t, vs, n, rfl, q, r⟩ := i.tupI
  obtain ⟨v1, v2, rfl, i1, i2⟩ := r.twoI
  exact ⟨_, _, _, _, rfl, q, i1, i2⟩
/-- a, b = (..): the pair's names are stored the last one first -/
theorem s_pair' {x y : Str} {px py tp pos : Pos} {kk : Nat} {e : Expr} {rest : List Stmt} {d1 d2 : D} (X : At W k A env s₀ P₀ H Γ Δ Mx P s) (hv : Ev (W.at Mx) k env Γ Δ e (.tup [d1, d2])) (hx : Bindable env x) (hy : Bindable env y)
    (next : ∀ P' s', At W k A env s₀ P₀ H ((x, d1) :: rm x ((y, d2) :: rm y Γ)) (rm x (rm y Δ)) Mx P' s' → wpAny W.M A (execs rest env) Q E s')
    (hs : swapsWithSole [.Tuple [.Name x px, .Name y py] kk tp] e pos.line env = pure false := by rfl)
    (hw : swappedStores [.Tuple [.Name x px, .Name y py] kk tp] e env = pure (some [x, y]) := by rfl) : wpAny W.M A (execs (.Assign [.Tuple [.Name x px, .Name y py] kk tp] e pos :: rest) env) Q E s := by
  refine wpAny_execs_cons (Assign_Tuple_swapped (hv A _ P s E _ X.st X.cx fun v P' s' g tk i => ?_) hs hw)
  have X' := X.gr g tk
  obtain ⟨t, v1, v2, n, rfl, q, i1, i2⟩ := tup2 i
  rw [show ([x, y] : List Str).length = [v1, v2].toArray.size from rfl]
  refine unpackItems_tuple X.a.1 ⟨_, g.inn _ _ q, rfl, n, rfl⟩ fun h' hk => ?_
  have X2 := X'.same (ext_keep hk) tk
  refine assignInOrder_cons (bindName_ (X2.name i2 hy fun s3 X3 => assignInOrder_cons (bindName_ (X3.name i1 hx fun s4 X4 => assignInOrder_nil (next P' s4 X4)))))
theorem s_pair {x y : Str} {px py tp pos : Pos} {kk : Nat} {e : Expr} {rest : List Stmt} {d1 d2 : D} (X : At W k A env s₀ P₀ H Γ Δ Mx P s) (hv : Ev (W.at Mx) k env Γ Δ e (.tup [d1, d2])) (hx : Bindable env x) (hy : Bindable env y)
    (next : ∀ P' s', At W k A env s₀ P₀ H ((y, d2) :: rm y ((x, d1) :: rm x Γ)) (rm y (rm x Δ)) Mx P' s' → wpAny W.M A (execs rest env) Q E s')
    (hs : swapsWithSole [.Tuple [.Name x px, .Name y py] kk tp] e pos.line env = pure false := by rfl)
    (hw : swappedStores [.Tuple [.Name x px, .Name y py] kk tp] e env = pure none := by rfl) : wpAny W.M A (execs (.Assign [.Tuple [.Name x px, .Name y py] kk tp] e pos :: rest) env) Q E s := by
  refine wpAny_execs_cons (Assign_Tuple (hv A _ P s E _ X.st X.cx fun v P' s' g tk i => ?_) hs hw)
  have X' := X.gr g tk
  obtain ⟨t, v1, v2, n, rfl, q, i1, i2⟩ := tup2 i
  refine wpAny_assign_Tuple X.a.1 ⟨_, g.inn _ _ q, rfl, n, rfl⟩ rfl rfl fun h' hk => ?_
  have X2 := X'.same (ext_keep hk) tk
  refine assignInOrder_cons (assign_Name (X2.name i1 hx fun s3 X3 => assignInOrder_cons (assign_Name (X3.name i2 hy fun s4 X4 => assignInOrder_nil (next P' s4 X4)))))
/-- a = b = c = e -/
theorem s_three {x y z : Str} {px py pz pos : Pos} {e : Expr} {rest : List Stmt} {d : D} (X : At W k A env s₀ P₀ H Γ Δ Mx P s) (hv : Ev (W.at Mx) k env Γ Δ e d) (hx : Bindable env x) (hy : Bindable env y) (hz : Bindable env z)
    (next : ∀ P' s', At W k A env s₀ P₀ H ((z, d) :: rm z ((y, d) :: rm y ((x, d) :: rm x Γ))) (rm z (rm y (rm x Δ))) Mx P' s' → wpAny W.M A (execs rest env) Q E s')
    (hw : swappedStores [.Name x px, .Name y py, .Name z pz] e env = pure none := by rfl) : wpAny W.M A (execs (.Assign [.Name x px, .Name y py, .Name z pz] e pos :: rest) env) Q E s := by
  refine wpAny_execs_cons (wpAny_Assign_three (hv A _ P s E _ X.st X.cx fun v P' s' g tk i => ?_) rfl hw)
  have X' := X.gr g tk
  exact assign_Name (X'.name i hx fun s1 X1 => assign_Name (X1.name i hy fun s2 X2 => assign_Name (X2.name i hz fun s3 X3 => next P' s3 X3)))

/-! ### x op= e -/
theorem op_iadd_int {a b : Int} : Op2 W k (inplaceOp .Add) (.int a) (.int b) (.int (a + b)) := op2_ii fun A S P s E Q t u st hQ => iadd_int (hQ _ P _ (Gr.toks st.p) (.int _ _))
theorem op_isub_int {a b : Int} : Op2 W k (inplaceOp .Sub) (.int a) (.int b) (.int (a - b)) := op2_ii fun A S P s E Q t u st hQ => isub_int (hQ _ P _ (Gr.toks st.p) (.int _ _))
theorem op_iadd_str {a b : Str} (h : a.length + b.length ≤ sizeLine) : Op2 W k (inplaceOp .Add) (.str a) (.str b) (.str (a ++ b)) := op2_ss fun A S P s E Q t u st hQ => SBL.iadd (hsz := h) (fun t' tk _ => hQ _ P _ (Gr.toks st.p) (.str _ _))
theorem s_aug {x : Str} {p pos : Pos} {op : Operator} {e : Expr} {rest : List Stmt} {a b d : D} (X : At W k A env s₀ P₀ H Γ Δ Mx P s) (hx : (x, a) ∈ Γ) (hv : Ev (W.at Mx) k env Γ Δ e b) (ho : Op2 (W.at Mx) k (inplaceOp op) a b d) (hb : Bindable env x)
    (next : ∀ P' s', At W k A env s₀ P₀ H ((x, d) :: rm x Γ) (rm x Δ) Mx P' s' → wpAny W.M A (execs rest env) Q E s') : wpAny W.M A (execs (.AugAssign (.Name x p) op e pos :: rest) env) Q E s := by
  refine wpAny_execs_cons (wpAny_AugAssign_Name ?_)
  obtain ⟨v, nm, i⟩ := X.cx.vars _ hx
  have go : wpAny W.M A (eval e env) (fun v_1 s₂ => wpAny W.M A (inplaceOp op v v_1) (fun r s₃ => wpAny W.M A (storeName env x r) (fun _ s => wpAny W.M A (execs rest env) Q E s) E s₃) E s₂) E s :=
    hv A _ P s E _ X.st X.cx fun u P1 s1 g1 tk1 i1 => wp_tk tk1 (ho A _ P1 s1 E _ v u (X.st.next g1 tk1) (i.mono g1.le) i1 fun r P2 s2 g2 i2 tk2 => ((X.gr g1 tk1).gr g2 tk2).name i2 hb fun s3 X3 => next P2 s3 X3)
  cases nm with
  | loc e1 e2 e3 e4 => exact wpAny_loadName_local X.fn e1 (e3.ns (X.st.sv _ _ e2)) e4 go
  | cel e1 e2 e3 e4 =>
    rcases e1 with e1 | e1
    · exact wpAny_loadName_cell X.fn e1 e2 ⟨_, X.st.sv _ _ e3, e4⟩ go
    · obtain ⟨m, cv, ad, y, hn⟩ := X.mnew
      exfalso
      rcases hb with h | ⟨h, _⟩ <;> rw [e1] at h <;> cases h

/-! ### lists that turn -/
theorem s_append {x : Str} {xp ap pos p : Pos} {e : Expr} {rest : List Stmt} {ds : List D} {d : D} (X : At W k A env s₀ P₀ H Γ ((x, ds) :: Δ) Mx P s) (hv : Ev (W.at Mx) k env Γ ((x, ds) :: Δ) e d) (hsz : ds.length ≤ sizeLine)
    (next : ∀ P' s', At W k A env s₀ P₀ H Γ ((x, ds ++ [d]) :: Δ) Mx P' s' → wpAny W.M A (execs rest env) Q E s')
    (hd : (x == ("__debug__" : Str)) = false := by decide) (hn : (x == ("__classdict__" : Str)) = false := by decide)
    (hp : plainE e = true := by rfl) (hbase : attributeBase (.Name x xp) "append" env (eval (.Name x xp) env) = eval (.Name x xp) env := by rfl) (hline : (ap.endLine == pos.line) = true := by decide)
    (hi : interactive env = false := by rfl) :
    wpAny W.M A (execs (.Expr (.Call (.Attribute (.Name x xp) "append" ap) [e] [] pos) p :: rest) env) Q E s := by
  refine wpAny_execs_cons (wpAny_Expr ?_ hi rfl)
  obtain ⟨m, cv, ad, y, hnn⟩ := X.mnew
  obtain ⟨vs, n, e1, q, i⟩ := y.muts _ List.mem_cons_self
  have hpl : [e].all plainE = true := by simp [hp]
  refine wpAny_Call_method hbase (few_ok hpl (by simp)) hline F.plainAttrs_list F.slot_list_append F.type_list_append (name_read X.fn X.st.sv (y.nameOk e1) ⟨⟨_, q, rfl⟩, fun a ha => by cases ha; exact ⟨_, q, rfl⟩, ?_⟩ hd hn)
  refine callWith_builtin (plain_any hpl) ?_
  rw [starEach_cons hp]
  refine evalArgs_plain (spliced_cons (hv A _ P s E _ X.st X.cx fun v P' s' g tk iv => spliced_nil ?_))
  have y' := y.gr g
  refine append_at (hsz := by rw [List.size_toArray, i.length]; exact hsz) (g.old _ _ q) fun h' hs' he' => ?_
  exact next P' _ ((X.gr g tk).turn (n' := n + 1) y' hnn tk (fun b o n e => hs'.extBut b o n e) (he'.trans (by simp [PySem.W.listOf])) ((i.mono g.le).append (.cons iv .nil)))
end
end
section
noncomputable abbrev Eq3 (Γ : List (Str × D)) (Δ : List (Str × List D)) (Mx : List (Addr × MO)) (Γ₀ : List (Str × D)) (Δ₀ : List (Str × List D)) (Mx₀ : List (Addr × MO)) : Prop := Γ = Γ₀ ∧ Δ = Δ₀ ∧ Mx = Mx₀
open PySem.Builtin PySem.Builtin.Str in
/-- x.find(y, i, j) -/
noncomputable def find4 (x y : Str) (i j : Int) : Int := match occurrences x y (fromIndex x.length i) (min (fromIndex x.length j) x.length) 1 with | k :: _ => (k : Int) | [] => -1
open PySem.Builtin PySem.Builtin.Str in
noncomputable def rfind4 (x y : Str) (i j : Int) : Int := match lastOccurrence x y (fromIndex x.length i) (min (fromIndex x.length j) x.length) with | some k => (k : Int) | none => -1
open PySem.Builtin PySem.Builtin.Str in
theorem gives_find4 (x y : Str) (i j : Int) (t u v v' : Tok) : Gives («str.find» ⟨[.str x t, .str y u, .int i v, .int j v'], []⟩) (.int (find4 x y i j)) := by
  show Gives (match occurrences x y (fromIndex x.length i) (min (fromIndex x.length j) x.length) 1 with | k :: _ => retInt k | [] => (do rule "str.find.not-found"; retInt (-1))) _
  unfold find4
  cases occurrences x y (fromIndex x.length i) (min (fromIndex x.length j) x.length) 1 with
  | nil => exact .rule (.of_eq rfl)
  | cons k _ => exact .of_eq rfl
open PySem.Builtin PySem.Builtin.Str in
theorem gives_rfind4 (x y : Str) (i j : Int) (t u v v' : Tok) : Gives («str.rfind» ⟨[.str x t, .str y u, .int i v, .int j v'], []⟩) (.int (rfind4 x y i j)) := by
  show Gives (match lastOccurrence x y (fromIndex x.length i) (min (fromIndex x.length j) x.length) with | some k => retInt k | none => (do rule "str.rfind.not-found"; retInt (-1))) _
  unfold rfind4
  cases lastOccurrence x y (fromIndex x.length i) (min (fromIndex x.length j) x.length) with
  | none => exact .rule (.of_eq rfl)
  | some k => exact .of_eq rfl
section
variable {W : Wd} {k : Nat} {env : Env} {Γ : List (Str × D)} {Δ : List (Str × List D)}
theorem cl_find4 {x y : Str} {i j : Int} : Cl W k (.builtin "str.find") [.str x, .str y, .int i, .int j] (.int (find4 x y i j)) := cl_2s2i fun A S P s E Q _ _ _ _ st hQ => call_gives F.slot_str_find (PySem.typeIs_str _ _ _) F.entry_str_find (F.args_str_find_4 _ _ _ _) (gives_find4 x y i j _ _ _ _) (hQ _ P _ (Gr.toks st.p) (.int _ _))
theorem cl_rfind4 {x y : Str} {i j : Int} : Cl W k (.builtin "str.rfind") [.str x, .str y, .int i, .int j] (.int (rfind4 x y i j)) := cl_2s2i fun A S P s E Q _ _ _ _ st hQ => call_gives F.slot_str_rfind (PySem.typeIs_str _ _ _) F.entry_str_rfind (F.args_str_rfind_4 _ _ _ _) (gives_rfind4 x y i j _ _ _ _) (hQ _ P _ (Gr.toks st.p) (.int _ _))
end
theorem sub_nil {α : Type} {l : List α} : ∀ p ∈ ([] : List α), p ∈ l := fun _ h => nomatch h
theorem sub_cons {α : Type} {a : α} {r l : List α} (h : a ∈ l) (k : ∀ p ∈ r, p ∈ l) : ∀ p ∈ a :: r, p ∈ l := fun p hp => (List.mem_cons.mp hp).elim (fun e => e ▸ h) (k p)
theorem ne_nil {α : Type} {x : Str} : ∀ p ∈ ([] : List (Str × α)), p.1 ≠ x := fun _ h => nomatch h
theorem ne_cons {α : Type} {x y : Str} {d : α} {r : List (Str × α)} (h : (y == x) = false) (k : ∀ p ∈ r, p.1 ≠ x) : ∀ p ∈ (y, d) :: r, p.1 ≠ x := fun p hp => (List.mem_cons.mp hp).elim (fun e => by rw [e]; exact beq_eq_false_iff_ne.mp h) (k p)
section
variable {W : Wd} {k : Nat} {env : Env} {Γ : List (Str × D)} {Δ : List (Str × List D)}
theorem nv {x : Str} {pos : Pos} {d : D} (h : (x, d) ∈ Γ := by trivial) (hd : (x == ("__debug__" : Str)) = false := by decide) (hn : (x == ("__classdict__" : Str)) = false := by decide) : Ev W k env Γ Δ (.Name x pos) d := ev_name h hd hn
theorem nm {x : Str} {pos : Pos} {ds : List D} (h : (x, ds) ∈ Δ := by trivial) (hd : (x == ("__debug__" : Str)) = false := by decide) (hn : (x == ("__classdict__" : Str)) = false := by decide) : EvL W k env Γ Δ (.Name x pos) ds := ev_mut h hd hn
theorem nmB {x : Str} {v : Value} {K : Frag} (hK : W.K = K) (no : nsIn K mainGlobals x = some none := by rfl) (boot : bootBuiltins x = some v := by rfl) (kind : env.kindOf x = some .globalImplicit := by rfl) (nn : x ≠ "__name__" := by decide) : NmB W env x v := ⟨kind, hK ▸ no, boot, nn⟩
theorem nmG {x : Str} {v : Value} {K : Frag} (hK : W.K = K) (has : nsIn K mainGlobals x = some (some v) := by rfl) (kind : env.kindOf x = some .globalImplicit := by rfl) : NmG W env x v := ⟨kind, hK ▸ has⟩
end
section
variable {W : Wd} {k : Nat} {A : Around} {env : Env} {s₀ : Shared} {P₀ H : Vw} {Γ : List (Str × D)} {Δ : List (Str × List D)} {Mx : List (Addr × MO)} {P : Vw} {s : Shared} {E : Value → Shared → Prop} {Q : Flow → Shared → Prop}
/-- if test: x = e -/
theorem s_ifset {x : Str} {px p q : Pos} {test e : Expr} {rest : List Stmt} {b : Bool} {d0 d' : D} (X : At W k A env s₀ P₀ H Γ Δ Mx P s) (ht : Ts (W.at Mx) k env Γ Δ test b) (hx0 : (x, d0) ∈ Γ) (hv : b = true → Ev (W.at Mx) k env Γ Δ e d') (hF : b = false → d' = d0) (hb : Bindable env x)
    (next : ∀ P' s', At W k A env s₀ P₀ H ((x, d') :: rm x Γ) (rm x Δ) Mx P' s' → wpAny W.M A (execs rest env) Q E s')
    (hs : swapsWith e (some (.Name x px)) p.line env = pure false := by rfl) : wpAny W.M A (execs (.If test [.Assign [.Name x px] e p] [] q :: rest) env) Q E s := by
  refine s_if X ht fun P' s' X' => ?_
  cases b with
  | true =>
    rw [if_pos rfl]
    exact s_set X' (hv rfl) hb (fun P'' s'' X'' => s_nil (next P'' s'' X'')) hs
  | false =>
    rw [if_neg Bool.false_ne_true]
    refine s_nil (next P' s' ?_)
    rw [hF rfl]
    refine (X'.drop (Δ' := rm x Δ) List.filter_sublist).forget fun p hp => ?_
    rcases List.mem_cons.mp hp with rfl | hp
    · exact hx0
    · exact rm_sub p hp
/-- the two ways of an if meet -/
theorem s_ifJ {test : Expr} {body orelse rest : List Stmt} {pos : Pos} {b : Bool} (X : At W k A env s₀ P₀ H Γ Δ Mx P s) (ht : Ts (W.at Mx) k env Γ Δ test b) (J : List (Str × D) → List (Str × List D) → List (Addr × MO) → Prop)
    (hb : ∀ P' s', At W k A env s₀ P₀ H Γ Δ Mx P' s' → wpAny W.M A (execs (if b then body else orelse) env) (JoinQ W k A env s₀ P₀ H Q J) E s')
    (next : ∀ Γ' Δ' Mx' P' s', J Γ' Δ' Mx' → At W k A env s₀ P₀ H Γ' Δ' Mx' P' s' → wpAny W.M A (execs rest env) Q E s') :
    wpAny W.M A (execs (.If test body orelse pos :: rest) env) Q E s := by
  refine s_if X ht fun P' s' X' => wpAny_mono (hb P' s' X') (fun f s'' h => ?_) fun _ _ h => h
  rcases h with ⟨rfl, Γ', Δ', Mx', P'', hJ, X''⟩ | ⟨hf, hq⟩
  · exact next _ _ _ _ _ hJ X''
  · cases f with
    | next => exact absurd rfl hf
    | cont => exact hq
    | brk => exact hq
    | ret v => exact hq
end
end
section
section
variable {P : Vw}
theorem isAll_ints {vs : List Value} {ns : List Int} (h : IsAll P vs (ns.map .int)) : IntsAre vs ns := by
  induction ns generalizing vs with
  | nil => rw [h.nilI]; exact .nil
  | cons n ns ih =>
    obtain ⟨v, r, rfl, a, b⟩ := h.consI
    obtain ⟨t, rfl⟩ := a.intI
    exact .cons n t (ih b)
theorem ints_isAll {vs : List Value} {ns : List Int} (h : IntsAre vs ns) : IsAll P vs (ns.map .int) := by
  induction h with
  | nil => exact .nil
  | cons n t h ih => exact .cons (.int n t) ih
theorem isAll_strs {vs : List Value} {xs : List Str} (h : IsAll P vs (xs.map .str)) : ∃ l : List (Str × Tok), vs = strValues l ∧ l.map (·.1) = xs := by
  induction xs generalizing vs with
  | nil => exact ⟨[], h.nilI, rfl⟩
  | cons x xs ih =>
    obtain ⟨v, r, rfl, a, b⟩ := h.consI
    obtain ⟨t, rfl⟩ := a.strI
    obtain ⟨l, rfl, rfl⟩ := ih b
    exact ⟨(x, t) :: l, rfl, rfl⟩
theorem strs_isAll : ∀ (l : List (Str × Tok)), IsAll P (strValues l) ((l.map (·.1)).map .str)
  | [] => .nil
  | p :: r => .cons (.str p.1 p.2) (strs_isAll r)
end
section
variable {W : Wd} {k : Nat} {env : Env} {Γ : List (Str × D)} {Δ : List (Str × List D)}
/-! ### split, join, replace -/
open PySem.Builtin PySem.Builtin.Str in
noncomputable def cutOk (x y : Str) : Bool := !(decide (x.length < y.length) || decide (strKind x < strKind y)) && !(y.length == 0) && !(occurrences x y 0 x.length (x.length + 1)).isEmpty && decide (x.length ≤ 16384) && decide ((partsBetween x (occurrences x y 0 x.length (x.length + 1)) y.length).length ≤ 16384)
open PySem.Builtin PySem.Builtin.Str in
noncomputable def cut (x y : Str) : List Str := partsBetween x (occurrences x y 0 x.length (x.length + 1)) y.length
open PySem.Builtin PySem.Builtin.Str in
theorem evn_split {o e : Expr} {apos pos : Pos} {x y : Str} (h0 : Ev W k env Γ Δ o (.str x)) (h1 : Ev W k env Γ Δ e (.str y)) (hok : cutOk x y = true)
    (hp : plainE e = true := by rfl) (hbase : attributeBase o "split" env (eval o env) = eval o env := by rfl) (hline : (apos.endLine == pos.line) = true := by decide) :
    EvN W k env Γ Δ (.Call (.Attribute o "split" apos) [e] [] pos) ((cut x y).map .str) := .mk fun A S P s E Q st hC hQ => by
  unfold cutOk at hok
  simp only [Bool.and_eq_true, Bool.not_eq_true', decide_eq_true_eq] at hok
  obtain ⟨⟨⟨⟨a1, a2⟩, a3⟩, a4⟩, a5⟩ := hok
  have hpl : [e].all plainE = true := by simp [hp]
  refine wpAny_Call_method hbase (few_ok hpl (by simp)) hline F.plainAttrs_str F.slot_str_split F.type_str_split (h0 A S P s E _ st hC fun v P₁ s₁ g₁ tk₁ i₁ => ⟨typeIs_of i₁, noRef_of i₁, ?_⟩)
  refine callWith_builtin (plain_any hpl) ?_
  rw [starEach_cons hp]
  refine evalArgs_plain (spliced_cons (h1 A S P₁ s₁ E _ (st.next g₁ tk₁) (hC.up (Le.refl _) g₁.le) fun u P₂ s₂ g₂ tk₂ i₂ => spliced_nil ?_))
  obtain ⟨t, rfl⟩ := Is.strI i₁
  obtain ⟨u, rfl⟩ := Is.strI i₂
  refine call_meets F.slot_str_split (PySem.typeIs_str _ _ _) F.entry_str_split (F.args_str_split_2 _ _) (meets_str_split_sep x y t u a1 a2 a3 (Nat.le_trans a4 (by decide)) (Nat.le_trans a5 (by decide))) ?_
  show Q (.ref s₂.heap.objs.size) { s₂ with toks := _, heap := s₂.heap.push { cls := .type "list", data := .seq (strsFrom s₂.toks (cut x y)).toArray } }
  have g12 := g₁.trans g₂
  refine hQ _ _ 0 P₂ _ (g12.trans (Gr.pushed g₂.inn)) (none_of_old g12.old (Heap.get?_none_of_le (Nat.le_refl _))) (none_size g₂.inn) (Heap.get?_push_size _ rfl) ?_
  rw [strsFrom_eq]
  have := strs_isAll (P := P₂) (numbered s₂.toks (cut x y))
  rwa [numbered_texts] at this
theorem cl_join {x : Str} {xs : List Str} (h : JoinOk x xs = true) : Cl W k (.builtin "str.join") [.str x, .list (xs.map .str)] (.str (Txt.join x xs)) := fun A S P s E Q vs st i hQ => by
  obtain ⟨_, r, rfl, a, ir⟩ := i.consI
  obtain ⟨_, r, rfl, b, ir⟩ := ir.consI
  obtain rfl := ir.nilI
  obtain ⟨t, rfl⟩ := Is.strI a
  obtain ⟨l, vs, n, rfl, q, i⟩ := b.listI
  obtain ⟨l, rfl, e⟩ := isAll_strs i
  exact SC.join ⟨_, st.p _ _ q, rfl, n, rfl⟩ e h fun t' kk => hQ _ P _ (Gr.toks st.p) (.str _ _)
/-- x.replace(c, d), both constants -/
theorem ev_replaceC {o : Expr} {apos pos p1 p2 : Pos} {k1 k2 : Nat} {x y z : Str} (h0 : Ev W k env Γ Δ o (.str x)) (hyz : (y == z) = false) (hx : x.length ≤ 1048576) (hz : z.length ≤ 14 := by decide)
    (hbase : attributeBase o "replace" env (eval o env) = eval o env := by rfl) (hline : (apos.endLine == pos.line) = true := by decide) :
    Ev W k env Γ Δ (.Call (.Attribute o "replace" apos) [.Constant (.str y) k1 p1, .Constant (.str z) k2 p2] [] pos) (.str (Txt.replace x y z)) := .mk fun A S P s E Q st hC hQ => by
  refine wpAny_Call_method hbase (few_ok rfl (by simp)) hline F.plainAttrs_str F.slot_str_replace F.type_str_replace (h0 A S P s E _ st hC fun v P₁ s₁ g₁ tk₁ i₁ => ⟨typeIs_of i₁, noRef_of i₁, ?_⟩)
  refine callWith_builtin (plain_any rfl) ?_
  rw [starEach_cons rfl, starEach_cons rfl]
  refine evalArgs_plain (spliced_cons (Constant_str (k := k1) (pos := p1) (spliced_cons (Constant_str (k := k2) (pos := p2) (spliced_nil ?_)))))
  obtain ⟨t, rfl⟩ := Is.strI i₁
  refine SC.replaceW (Nat.ne_of_gt tk₁) (Nat.succ_ne_zero _) (Nat.ne_of_lt (Nat.lt_succ_self _)) hyz hx hz fun t' kk => ?_
  exact hQ _ P₁ _ (g₁.trans (Gr.toks g₁.inn)) (.str _ _)
/-- x.replace(y[i], c) -/
theorem ev_replaceI {o v1 i1 : Expr} {apos pos p1 p2 : Pos} {k2 : Nat} {x y z : Str} {i : Int} (h0 : Ev W k env Γ Δ o (.str x)) (h1 : Ev W k env Γ Δ v1 (.str y)) (h2 : Ev W k env Γ Δ i1 (.int i)) (hr : fitsSsize i = true) (hlo : -(y.length : Int) ≤ i) (hhi : i < y.length)
    (hyz : (Txt.item y i == z) = false) (hx : x.length ≤ 1048576) (hz : z.length ≤ 14 := by decide)
    (hs : ∀ (t u : Tok), subscripted i1 false (.str y t) (.int i u) = operate [.str y t, .int i u] (getItem (.str y t) (.int i u)) := by intro _ _; with_unfolding_all rfl)
    (hbase : attributeBase o "replace" env (eval o env) = eval o env := by rfl) (hline : (apos.endLine == pos.line) = true := by decide) :
    Ev W k env Γ Δ (.Call (.Attribute o "replace" apos) [.Subscript v1 i1 p1, .Constant (.str z) k2 p2] [] pos) (.str (Txt.replace x (Txt.item y i) z)) := .mk fun A S P s E Q st hC hQ => by
  refine wpAny_Call_method hbase (few_ok rfl (by simp)) hline F.plainAttrs_str F.slot_str_replace F.type_str_replace (h0 A S P s E _ st hC fun v P₁ s₁ g₁ tk₁ i₁ => ⟨typeIs_of i₁, noRef_of i₁, ?_⟩)
  refine callWith_builtin (plain_any rfl) ?_
  rw [starEach_cons rfl, starEach_cons rfl]
  refine evalArgs_plain (spliced_cons (Subscript_ (h1 A S P₁ s₁ E _ (st.next g₁ tk₁) (hC.up (Le.refl _) g₁.le) fun w P₂ s₂ g₂ tk₂ i₂ => h2 A S P₂ s₂ E _ ((st.next g₁ tk₁).next g₂ tk₂) (hC.up (Le.refl _) (g₁.le.trans g₂.le)) fun u P₃ s₃ g₃ tk₃ i₃ => ?_)))
  obtain ⟨t2, rfl⟩ := i₂.strI; obtain ⟨t3, rfl⟩ := i₃.intI
  refine item_str hr hlo hhi (fun _ => ?_) (hs _ _) (fun _ => letGo_str)
  refine spliced_cons (Constant_str (k := k2) (pos := p2) (spliced_nil ?_))
  obtain ⟨t, rfl⟩ := Is.strI i₁
  refine SC.replaceW (Nat.ne_of_gt tk₃) (Nat.succ_ne_zero _) (Nat.ne_of_lt (Nat.lt_succ_self _)) hyz hx hz fun t' kk => ?_
  exact hQ _ P₃ _ (((g₁.trans g₂).trans g₃).trans (Gr.toks g₃.inn)) (.str _ _)

/-! ### lists -/
/-- e gives a list, of whatever kind; the addition of two lists is a new one -/
theorem EvN.l {e : Expr} {ds : List D} (h : EvN W k env Γ Δ e ds) : EvL W k env Γ Δ e ds := fun A S P s E Q st hC hQ =>
  h A S P s E Q st hC fun a vs n P' s' g tk _ _ q i => hQ a vs n P' s' g tk q i
theorem evn_add {l r : Expr} {pos : Pos} {ds es : List D} (h1 : EvL W k env Γ Δ l ds) (h2 : EvL W k env Γ Δ r es) (hsz : ds.length + es.length ≤ sizeLine) : EvN W k env Γ Δ (.BinOp l .Add r pos) (ds ++ es) := .mk fun A S P s E Q st hC hQ =>
  wpAny_BinOp (h1 A S P s E _ st hC fun a vs n P₁ s₁ g₁ tk₁ q₁ i₁ => h2 A S P₁ s₁ E _ (st.next g₁ tk₁) (hC.up (Le.refl _) g₁.le) fun b ws m P₂ s₂ g₂ tk₂ q₂ i₂ => by
    refine _root_.PySem.P.add_list (items := vs.toArray) (items2 := ws.toArray) (g₂.old _ _ q₁) q₂ ?_ (by rw [List.size_toArray, List.size_toArray, i₁.length, i₂.length]; exact hsz)
    have g12 := g₁.trans g₂
    rw [List.append_toArray]
    exact hQ _ (vs ++ ws) 0 P₂ _ (g12.trans (Gr.pushed (tk := s₂.toks) g₂.inn)) (none_of_old g12.old (Heap.get?_none_of_le (Nat.le_refl _))) (none_size g₂.inn) (Heap.get?_push_size _ rfl) ((i₁.mono g₂.le).append i₂))
/-- a call of a type by its name, upon data -/
theorem ev_callT {x : Str} {T : String} {p pos : Pos} {e : Expr} {r : List Expr} {ds : List D} {d : D} (n : NmB W env x (.type T)) (h : Evs W k env Γ Δ (e :: r) ds) (hc : Cl W k (.type T) ds d)
    (hp : (e :: r).all plainE = true := by rfl) (hd : (x == ("__debug__" : Str)) = false := by decide) : Ev W k env Γ Δ (.Call (.Name x p) (e :: r) [] pos) d := .mk fun A S P s E Q st hC hQ => by
  refine wpAny_Call_Name_kw (name_bi st.b st.p hC n ?_ hd)
  refine PySem.callWith_type (plain_any hp) (evalArgs_ev hp st hC h fun vs P₁ s₁ g₁ tk₁ i₁ => ?_)
  exact hc A S P₁ s₁ E Q vs (st.next g₁ tk₁) i₁ fun v P₂ s₂ g₂ i₂ => hQ v P₂ s₂ (g₁.trans g₂) i₂
theorem cl_int_bool {b : Bool} : Cl W k (.type "int") [.bool b] (.int (if b then 1 else 0)) := fun A S P s E Q vs st i hQ => by
  obtain ⟨_, r, rfl, a, ir⟩ := i.consI
  obtain rfl := ir.nilI
  obtain rfl := a.boolI
  exact call_int_bool (hQ _ P _ (Gr.toks st.p) (.int _ _))
theorem cl_max_two {a b : Int} : Cl W k (.builtin "max") [.int a, .int b] (.int (if b > a then b else a)) := fun A S P s E Q vs st i hQ => by
  obtain ⟨_, r, rfl, x, ir⟩ := i.consI
  obtain ⟨_, r, rfl, y, ir⟩ := ir.consI
  obtain rfl := ir.nilI
  obtain ⟨_, rfl⟩ := Is.intI x
  obtain ⟨_, rfl⟩ := Is.intI y
  refine max_two_ints st.a.1 fun h' tk hk => ?_
  by_cases hc : b > a
  · rw [if_pos hc] at hQ ⊢; exact hQ _ P _ (Gr.keep st.p hk) (.int _ _)
  · rw [if_neg hc] at hQ ⊢; exact hQ _ P _ (Gr.keep st.p hk) (.int _ _)
theorem ints_items {vs : List Value} {ns : List Int} (h : IntsAre vs ns) : ∃ xs : Array (Int × Tok), vs.toArray = intItems xs ∧ preSum (numAt xs) xs.size = ns.sum := by
  obtain ⟨xs, e⟩ := h.allInts.items
  refine ⟨xs, e, ?_⟩
  rw [preSum_eq, List.take_of_length_le (by simp), ← nums_intItems, ← e, h.numsOf]
theorem cl_sum {ns : List Int} : Cl W k (.builtin "sum") [.list (ns.map .int)] (.int ns.sum) := fun A S P s E Q vs st i hQ => by
  obtain ⟨_, r, rfl, a, ir⟩ := i.consI
  obtain rfl := ir.nilI
  obtain ⟨l, vs, n, rfl, q, i⟩ := a.listI
  obtain ⟨xs, e, es⟩ := ints_items (isAll_ints i)
  have hl : s.heap.IsList l vs.toArray := ⟨_, st.p _ _ q, rfl, n, rfl⟩
  rw [e] at hl
  refine sum_intListG st.a.1 hl fun h' tk t' hk => ?_
  rw [es]
  exact hQ _ P _ (Gr.keep st.p hk) (.int _ _)
/-- list(xs), of a list -/
theorem evn_listOf {x : Str} {p pos : Pos} {e : Expr} {ds : List D} (n : NmB W env x (.type "list")) (h : EvL W k env Γ Δ e ds) (hsz : ds.length ≤ sizeLine)
    (hp : plainE e = true := by rfl) (hd : (x == ("__debug__" : Str)) = false := by decide) : EvN W k env Γ Δ (.Call (.Name x p) [e] [] pos) ds := .mk fun A S P s E Q st hC hQ => by
  refine wpAny_Call_Name_kw (name_bi st.b st.p hC n ?_ hd)
  have hp' : [e].all plainE = true := by simp [hp]
  refine PySem.callWith_type (plain_any hp') ?_
  rw [starEach_cons hp]
  refine evalArgs_plain (spliced_cons (h A S P s E _ st hC fun a vs n P₁ s₁ g₁ tk₁ q₁ i₁ => spliced_nil ?_))
  refine call_list_seq a (.inl rfl) q₁ rfl rfl (fun h' c' hk he => ?_) (by rw [List.size_toArray, i₁.length]; exact hsz)
  exact hQ _ vs c' P₁ _ (g₁.trans (Gr.keep (tk := s₁.toks) g₁.inn hk)) (none_of_old g₁.old (Heap.get?_none_of_le (Nat.le_refl _))) (none_size g₁.inn) he i₁
/-- tuple(xs), of a list -/
theorem ev_tupleOf {x : Str} {p pos : Pos} {e : Expr} {ds : List D} (n : NmB W env x (.type "tuple")) (h : EvL W k env Γ Δ e ds) (hsz : ds.length ≤ sizeLine)
    (hp : plainE e = true := by rfl) (hd : (x == ("__debug__" : Str)) = false := by decide) : Ev W k env Γ Δ (.Call (.Name x p) [e] [] pos) (.tup ds) := .mk fun A S P s E Q st hC hQ => by
  refine wpAny_Call_Name_kw (name_bi st.b st.p hC n ?_ hd)
  have hp' : [e].all plainE = true := by simp [hp]
  refine PySem.callWith_type (plain_any hp') ?_
  rw [starEach_cons hp]
  refine evalArgs_plain (spliced_cons (h A S P s E _ st hC fun a vs n P₁ s₁ g₁ tk₁ q₁ i₁ => spliced_nil ?_))
  refine call_tuple_list ⟨_, q₁, rfl, n, rfl⟩ (fun h' hk => ?_) (by rw [List.size_toArray, i₁.length]; exact hsz)
  have g2 : Gr P₁ s₁ P₁ { s₁ with heap := h', toks := s₁.toks } := Gr.keep g₁.inn hk
  obtain ⟨g3, q⟩ := Gr.alloc (P := P₁) (s := { s₁ with heap := h', toks := s₁.toks }) (o := { cls := .type "tuple", data := .seq vs.toArray 0 }) (tk := s₁.toks) g2.inn
  exact hQ _ _ _ ((g₁.trans g2).trans g3) (.tup q (i₁.mono g3.le))
/-- sorted(xs) -/
theorem evn_sorted {x : Str} {p pos : Pos} {e : Expr} {ns : List Int} {ms : List Int} (n : NmB W env x (.builtin "sorted")) (h : EvL W k env Γ Δ e (ns.map .int)) (hsz : ns.length < 64) (hs : ∀ ms', ms'.Perm ns → ms'.Pairwise (· ≤ ·) → ms' = ms)
    (hp : plainE e = true := by rfl) (hd : (x == ("__debug__" : Str)) = false := by decide) : EvN W k env Γ Δ (.Call (.Name x p) [e] [] pos) (ms.map .int) := .mk fun A S P s E Q st hC hQ => by
  refine wpAny_Call_Name_kw (name_bi st.b st.p hC n ?_ hd)
  have hp' : [e].all plainE = true := by simp [hp]
  refine callWith_builtin (plain_any hp') ?_
  rw [starEach_cons hp]
  refine evalArgs_plain (spliced_cons (h A S P s E _ st hC fun a vs n P₁ s₁ g₁ tk₁ q₁ i₁ => spliced_nil ?_))
  have hi := isAll_ints i₁
  refine sorted_ints ⟨_, q₁, rfl, n, rfl⟩ hi (by rw [i₁.length, List.length_map]; exact hsz) fun out ns' a1 a2 a3 => ?_
  obtain ⟨c, he⟩ := sortedAll_at s₁.heap vs out
  have := hs ns' a2 a3
  subst this
  have fr : ∀ b, s₁.heap.objs.size ≤ b → s₁.heap.get? b = none := fun b hb => Heap.get?_none_of_le hb
  have hP : P₁ (s₁.heap.objs.size + 1) = none := by
    cases q : P₁ (s₁.heap.objs.size + 1) with
    | none => rfl
    | some o => have := g₁.inn _ _ q; rw [fr _ (Nat.le_succ _)] at this; cases this
  exact hQ _ out.toList c P₁ _ (g₁.trans (Gr.keep (tk := s₁.toks) g₁.inn fun _ _ => sortedAll_old)) (none_of_old g₁.old (fr _ (Nat.le_succ _))) hP he (ints_isAll a1)

/-! ### range -/
theorem range_small {a b : Int} (ha : 0 ≤ a ∧ a < 2 ^ 62) (hb : 0 ≤ b ∧ b < 2 ^ 62) : Builtin.Range.small a b 1 = true := by
  have hz : 0 ≤ Builtin.Range.rangeSize a b 1 ∧ Builtin.Range.rangeSize a b 1 < 2 ^ 62 := by
    unfold Builtin.Range.rangeSize
    rw [if_pos (by decide)]
    split <;> omega
  have hf : ∀ i : Int, 0 ≤ i ∧ i < 2 ^ 62 → Builtin.Range.rangeFitsLong i = true := fun i hi => by
    unfold Builtin.Range.rangeFitsLong
    simp
    omega
  unfold Builtin.Range.small
  rw [hf a ha, hf b hb, hf 1 (by decide), hf _ hz, if_pos (by decide), show b + (1 - 1) = b by omega, hf b hb]
  simp
theorem evi_range1 {x : Str} {p pos : Pos} {e : Expr} {n : Nat} (nb : NmB W env x (.type "range")) (h : Ev W k env Γ Δ e (.int (n : Int))) (hn : n < 2 ^ 62)
    (hp : plainE e = true := by rfl) (hd : (x == ("__debug__" : Str)) = false := by decide) : EvI W k env Γ Δ true (.Call (.Name x p) [e] [] pos) (rngs 0 n) := fun A S P s E Q st hC hQ => by
  refine wpAny_Call_Name_kw (name_bi st.b st.p hC nb ?_ hd)
  have hp' : [e].all plainE = true := by simp [hp]
  refine PySem.callWith_type (plain_any hp') ?_
  rw [starEach_cons hp]
  refine evalArgs_plain (spliced_cons (h A S P s E _ st hC fun v P₁ s₁ g₁ tk₁ i₁ => spliced_nil ?_))
  obtain ⟨t, rfl⟩ := Is.intI i₁
  refine call_range_1 ?_
  obtain ⟨g2, q⟩ := Gr.alloc (P := P₁) (s := s₁) (o := { cls := .type "range", data := .fields #[.int 0 s₁.toks, .int n t, .int 1 (s₁.toks + 1)] }) (tk := s₁.toks + 1 + 1) g₁.inn
  refine range_go (st := (st.next g₁ tk₁).next g2 (by show 1 ≤ s₁.toks + 1 + 1; omega)) (a := 0) (b := (n : Int)) (n := n) (g2.inn _ _ q) ?_ ?_ fun I fp Pv Sx P' s' g tk hW hP hS h0 h1 hI hf => hQ I fp Pv Sx P' s' ((g₁.trans g2).trans g) tk hW hP hS (none_of_old (g₁.trans g2).old h0) h1 hI hf
  · exact range_small (by omega) (by omega)
  · unfold Builtin.Range.rangeSize; simp
    omega
theorem evi_range2 {x : Str} {p pos : Pos} {e1 e2 : Expr} {a : Int} {n : Nat} {b : Int} (nb : NmB W env x (.type "range")) (h1 : Ev W k env Γ Δ e1 (.int a)) (h2 : Ev W k env Γ Δ e2 (.int b)) (ha : 0 ≤ a ∧ a < 2 ^ 61) (hb : 0 ≤ b ∧ b < 2 ^ 61) (hn : (b - a).toNat = n)
    (hp : [e1, e2].all plainE = true := by rfl) (hd : (x == ("__debug__" : Str)) = false := by decide) : EvI W k env Γ Δ true (.Call (.Name x p) [e1, e2] [] pos) (rngs a n) := fun A S P s E Q st hC hQ => by
  refine wpAny_Call_Name_kw (name_bi st.b st.p hC nb ?_ hd)
  refine PySem.callWith_type (plain_any hp) (evalArgs_ev hp st hC (evs_cons h1 (evs_cons h2 evs_nil (by have := Bool.and_eq_true_iff.mp (by simpa using hp : (plainE e1 && plainE e2) = true); exact this.2)) (by have := Bool.and_eq_true_iff.mp (by simpa using hp : (plainE e1 && plainE e2) = true); exact this.1)) fun vs P₁ s₁ g₁ tk₁ i₁ => ?_)
  obtain ⟨_, _, rfl, x, y⟩ := i₁.twoI
  obtain ⟨t, rfl⟩ := Is.intI x
  obtain ⟨u, rfl⟩ := Is.intI y
  refine call_range_2 ?_
  obtain ⟨g2, q⟩ := Gr.alloc (P := P₁) (s := s₁) (o := { cls := .type "range", data := .fields #[.int a t, .int b u, .int 1 s₁.toks] }) (tk := s₁.toks + 1) g₁.inn
  refine range_go (st := (st.next g₁ tk₁).next g2 (by show 1 ≤ s₁.toks + 1; exact Nat.le_add_left ..)) (a := a) (b := b) (n := n) (g2.inn _ _ q) ?_ ?_ fun I fp Pv Sx P' s' g tk hW hP hS h0 h1 hI hf => hQ I fp Pv Sx P' s' ((g₁.trans g2).trans g) tk hW hP hS (none_of_old (g₁.trans g2).old h0) h1 hI hf
  · exact range_small (by omega) (by omega)
  · unfold Builtin.Range.rangeSize; simp
    omega
end
end
section
open PySem PySem.W PySem.Calls PyProof.Rows PySem.Spec PySem.SeqAt PyProof.V
theorem rngs_get {a : Int} {n i : Nat} {d : D} (h : (rngs a n)[i]? = some d) : i < n ∧ d = .int (a + i) := by
  unfold rngs at h
  rw [List.getElem?_map] at h
  obtain ⟨j, hj, rfl⟩ := Option.map_eq_some_iff.mp h
  obtain ⟨h1, h2⟩ := List.getElem?_eq_some_iff.mp hj
  rw [List.getElem_range] at h2
  subst h2
  exact ⟨by simpa using h1, rfl⟩
theorem rngs_len {a : Int} {n : Nat} : (rngs a n).length = n := by simp [rngs]
/-! ### equality of data -/
section
variable {P : Vw} {h : Heap}
theorem reads_ints (p : In P h) {v : Value} {ns : List Int} (i : Is P v (.list (ns.map .int))) : ∃ as, Reads h v (.list (ns.map .int)) as := by
  obtain ⟨a, vs, n, rfl, q, r⟩ := i.listI
  have : ∃ as, ReadsAll h vs (ns.map .int) as := by
    clear q i
    induction ns generalizing vs with
    | nil => rw [r.nilI]; exact ⟨_, .nil⟩
    | cons n ns ih =>
      obtain ⟨v, w, rfl, i, r'⟩ := r.consI
      obtain ⟨t, rfl⟩ := i.intI
      obtain ⟨as, ra⟩ := ih _ r'
      exact ⟨_, .cons (.int n t) ra⟩
  exact this.imp' (a :: ·) fun as ra => .list (p _ _ q) rfl rfl (List.toList_toArray .. ▸ ra)
theorem reads_strs (p : In P h) {v : Value} {xs : List Str} (i : Is P v (.list (xs.map .str))) : ∃ as, Reads h v (.list (xs.map .str)) as := by
  obtain ⟨a, vs, n, rfl, q, r⟩ := i.listI
  have : ∃ as, ReadsAll h vs (xs.map .str) as := by
    clear q i
    induction xs generalizing vs with
    | nil => rw [r.nilI]; exact ⟨_, .nil⟩
    | cons x xs ih =>
      obtain ⟨v, w, rfl, i, r'⟩ := r.consI
      obtain ⟨t, rfl⟩ := i.strI
      obtain ⟨as, ra⟩ := ih _ r'
      exact ⟨_, .cons (.str x t) ra⟩
  exact this.imp' (a :: ·) fun as ra => .list (p _ _ q) rfl rfl (List.toList_toArray .. ▸ ra)
end
noncomputable def strsOk (xs : List Str) : Bool := xs.all PyData.strOk
theorem canLayAll0_strs : ∀ xs : List Str, strsOk xs = true → PyData.canLayAll0 (xs.map PyData.str) = true
  | [], _ => by simp [PyData.canLayAll0]
  | n :: r, h => by
    have h' : PyData.strOk n = true ∧ strsOk r = true := by simpa [strsOk] using h
    simp [PyData.canLayAll0, PyData.canLay0, canLayAll0_strs r h'.2, h'.1]
theorem depthAll_strs : ∀ xs : List Str, PyData.depthAll (xs.map PyData.str) ≤ 1
  | [] => by simp [PyData.depthAll]
  | n :: r => by
    have := depthAll_strs r
    simp only [List.map_cons, PyData.depthAll, PyData.depth]
    omega
theorem shaped_strs (xs : List Str) (h : strsOk xs = true) : shaped (.list (xs.map PyData.str)) = true := by
  have h1 := depthAll_strs xs
  have h2 : PyData.depth (.list (xs.map PyData.str)) ≤ 64 := by simp only [PyData.depth]; omega
  show (PyData.canLay0 (.list (xs.map PyData.str)) && decide (PyData.depth (.list (xs.map PyData.str)) ≤ 64)) = true
  rw [Bool.and_eq_true]
  exact ⟨by simp only [PyData.canLay0]; exact canLayAll0_strs xs h, decide_eq_true h2⟩
theorem noMix_strs : ∀ xs ys : List Str, noMixAll (xs.map PyData.str) (ys.map PyData.str) = true
  | [], [] => by simp [noMixAll]
  | [], _ :: _ => by simp [noMixAll]
  | _ :: _, [] => by simp [noMixAll]
  | _ :: r, _ :: q => by simp [noMixAll, noMix, noMix_strs r q]
theorem same_strs : ∀ xs ys : List Str, PySem.Spec.sameAll (xs.map PyData.str) (ys.map PyData.str) = decide (xs = ys)
  | [], [] => by simp [PySem.Spec.sameAll]
  | [], _ :: _ => by simp [PySem.Spec.sameAll]
  | _ :: _, [] => by simp [PySem.Spec.sameAll]
  | n :: r, k :: q => by
    simp only [List.map_cons, PySem.Spec.sameAll, PySem.Spec.same, same_strs r q]
    by_cases h : n = k <;> simp [h]
section
variable {W : Wd} {k : Nat} {env : Env} {Γ : List (Str × D)} {Δ : List (Str × List D)}
theorem units_ok {A : Around} (a : AOk k A) : A.units + 64 < cLine := by have := a.2.2; omega
theorem op_eq_ints {ns ms : List Int} : Op2 W k (compareOp .Eq) (.list (ns.map .int)) (.list (ms.map .int)) (.bool (decide (ns = ms))) := fun A S P s E Q u v st hu hv hQ => by
  obtain ⟨as, ra⟩ := reads_ints st.p hu
  obtain ⟨bs, rb⟩ := reads_ints st.p hv
  refine eq_dataH_same ra rb (shaped_ints ns) (shaped_ints ms) (units_ok st.a) (by simp only [noMix]; exact noMix_ints ns ms) (hQ _ P _ (Gr.refl st.p) ?_)
  simp only [PySem.Spec.same, same_ints]; exact .bool _
theorem op_ne_ints {ns ms : List Int} : Op2 W k (compareOp .NotEq) (.list (ns.map .int)) (.list (ms.map .int)) (.bool (!decide (ns = ms))) := fun A S P s E Q u v st hu hv hQ => by
  obtain ⟨as, ra⟩ := reads_ints st.p hu
  obtain ⟨bs, rb⟩ := reads_ints st.p hv
  refine ne_dataH_same ra rb (shaped_ints ns) (shaped_ints ms) (units_ok st.a) (by simp only [noMix]; exact noMix_ints ns ms) (hQ _ P _ (Gr.refl st.p) ?_)
  simp only [PySem.Spec.same, same_ints]; exact .bool _
theorem op_ne_strs {xs ys : List Str} (h1 : strsOk xs = true) (h2 : strsOk ys = true) : Op2 W k (compareOp .NotEq) (.list (xs.map .str)) (.list (ys.map .str)) (.bool (!decide (xs = ys))) := fun A S P s E Q u v st hu hv hQ => by
  obtain ⟨as, ra⟩ := reads_strs st.p hu
  obtain ⟨bs, rb⟩ := reads_strs st.p hv
  refine ne_dataH_same ra rb (shaped_strs xs h1) (shaped_strs ys h2) (units_ok st.a) (by simp only [noMix]; exact noMix_strs xs ys) (hQ _ P _ (Gr.refl st.p) ?_)
  simp only [PySem.Spec.same, same_strs]; exact .bool _
theorem op_eq_nil : Op2 W k (compareOp .Eq) (.list []) (.list []) (.bool true) := by
  have := op_eq_ints (W := W) (k := k) (ns := []) (ms := []); simpa using this
theorem op_ne_nil : Op2 W k (compareOp .NotEq) (.list []) (.list []) (.bool false) := by
  have := op_ne_ints (W := W) (k := k) (ns := []) (ms := []); simpa using this

/-! ### «a and b», as a value: b's value, or a's if it is false -/
theorem ev_andB {e1 e2 : Expr} {pos : Pos} {b : Bool} {d : D} (h1 : Ev W k env Γ Δ e1 (.bool b)) (h2 : b = true → Ev W k env Γ Δ e2 d) (h3 : b = false → d = .bool false) : Ev W k env Γ Δ (.BoolOp .And [e1, e2] pos) d := .mk fun A S P s E Q st hC hQ =>
  BoolOp_and (h1 A S P s E _ st hC fun v P₁ s₁ g₁ tk₁ i₁ => by
    rw [i₁.boolI]
    refine wpAny_truthy_bool ?_
    cases b with
    | true => rw [if_pos rfl]; exact BoolOp_one (h2 rfl A S P₁ s₁ E Q (st.next g₁ tk₁) (hC.up (Le.refl _) g₁.le) fun v P₂ s₂ g₂ tk₂ i₂ => hQ v P₂ s₂ (g₁.trans g₂) i₂)
    | false => rw [if_neg Bool.false_ne_true]; exact hQ _ P₁ s₁ g₁ (by rw [h3 rfl]; exact .bool _))
end

section
variable {W : Wd} {k : Nat} {A : Around} {env : Env} {s₀ : Shared} {P₀ H : Vw} {Γ : List (Str × D)} {Δ : List (Str × List D)} {Mx : List (Addr × MO)} {P : Vw} {s : Shared} {E : Value → Shared → Prop} {Q : Flow → Shared → Prop}
theorem s_assert {test : Expr} {pos : Pos} {rest : List Stmt} (X : At W k A env s₀ P₀ H Γ Δ Mx P s) (ht : Ts (W.at Mx) k env Γ Δ test true)
    (next : ∀ P' s', At W k A env s₀ P₀ H Γ Δ Mx P' s' → wpAny W.M A (execs rest env) Q E s') : wpAny W.M A (execs (.Assert test none pos :: rest) env) Q E s :=
  wpAny_execs_cons (wpAny_Assert_holds (ht A _ P s E _ X.st X.cx fun P' s' g tk => ⟨rfl, next P' s' (X.gr g tk)⟩))
theorem s_assert' {test : Expr} {pos : Pos} {rest : List Stmt} {b : Bool} (X : At W k A env s₀ P₀ H Γ Δ Mx P s) (ht : Ts (W.at Mx) k env Γ Δ test b) (hb : b = true)
    (next : ∀ P' s', At W k A env s₀ P₀ H Γ Δ Mx P' s' → wpAny W.M A (execs rest env) Q E s') : wpAny W.M A (execs (.Assert test none pos :: rest) env) Q E s := by
  subst hb
  exact s_assert X ht next
theorem s_break {pos : Pos} {rest : List Stmt} (h : Q .brk s) : wpAny W.M A (execs (.Break pos :: rest) env) Q E s := wpAny_execs_cons (wpAny_Break h)
theorem s_continue {pos : Pos} {rest : List Stmt} (h : Q .cont s) : wpAny W.M A (execs (.Continue pos :: rest) env) Q E s := wpAny_execs_cons (wpAny_Continue h)
theorem seqIndex_nn {i : Int} {n : Nat} (h0 : 0 ≤ i) (h1 : i < n) : seqIndex? i n = some i.toNat := by
  unfold seqIndex?
  have : ¬ i < 0 := by omega
  simp [this, h0, h1]
theorem seqIndex_neg {i : Int} {n : Nat} (h0 : i < 0) (h1 : -(n : Int) ≤ i) : seqIndex? i n = some (i + n).toNat := by
  unfold seqIndex?
  have h2 : 0 ≤ i + n ∧ i + n < n := by omega
  simp [h0, h2]
/-- del xs[i] -/
theorem s_del {x : Str} {xp p pos : Pos} {ie : Expr} {rest : List Stmt} {ds : List D} {i : Int} {j : Nat} (X : At W k A env s₀ P₀ H Γ ((x, ds) :: Δ) Mx P s) (hi : Ev (W.at Mx) k env Γ ((x, ds) :: Δ) ie (.int i)) (hj : seqIndex? i ds.length = some j) (hf : Builtin.List.listFitsIndex i = true := by decide) (hsz : ds.length ≤ sizeLine)
    (next : ∀ P' s', At W k A env s₀ P₀ H Γ ((x, ds.eraseIdx j) :: Δ) Mx P' s' → wpAny W.M A (execs rest env) Q E s')
    (hd : (x == ("__debug__" : Str)) = false := by decide) (hn : (x == ("__classdict__" : Str)) = false := by decide) :
    wpAny W.M A (execs (.Delete [.Subscript (.Name x xp) ie p] pos :: rest) env) Q E s := by
  refine wpAny_execs_cons (wpAny_Delete (wpAny_deleteEach_cons (wpAny_delete_Subscript ?_)))
  obtain ⟨m, cv, ad, y, hnn⟩ := X.mnew
  obtain ⟨vs, n, e1, q, iv⟩ := y.muts _ List.mem_cons_self
  refine name_read X.fn X.st.sv (y.nameOk e1) ?_ hd hn
  refine hi A _ P s E _ X.st X.cx fun v P' s' g tk ii => ?_
  obtain ⟨t, rfl⟩ := Is.intI ii
  have y' := y.gr g
  have hlen : vs.toArray.size = ds.length := by rw [List.size_toArray, iv.length]
  refine wpAny_delItem_plain ⟨n, g.old _ _ q⟩ hf (by rw [hlen]; exact hj) (fun h' hl hs' => wpAny_deleteEach_nil ?_) (by rw [hlen]; exact hsz)
  obtain ⟨n', he'⟩ := hl
  have er : ∀ {vs : List Value} {ds : List D} {j : Nat}, IsAll P' vs ds → IsAll P' (vs.eraseIdx j) (ds.eraseIdx j) := by
    intro vs
    induction vs with
    | nil => intro ds j h; rw [h.nilV]; exact .nil
    | cons v vs ih =>
      intro ds j h
      obtain ⟨e, es, rfl, a, b⟩ := h.consV
      cases j with
      | zero => exact b
      | succ j => exact .cons a (ih b)
  refine next P' _ ((X.gr g tk).turn (vs' := vs.eraseIdx j) (n' := n') y' hnn tk (fun b o n e => hs'.extBut b o n e) (he'.trans ?_) (er (iv.mono g.le)))
  show some _ = some _
  congr 1
  simp [PySem.W.listOf]
/-- xs[i] = e -/
theorem s_setitem {x : Str} {xp p pos : Pos} {ie e : Expr} {rest : List Stmt} {ds : List D} {d : D} {i : Int} (X : At W k A env s₀ P₀ H Γ ((x, ds) :: Δ) Mx P s) (hv : Ev (W.at Mx) k env Γ ((x, ds) :: Δ) e d) (hi : Ev (W.at Mx) k env Γ ((x, ds) :: Δ) ie (.int i)) (h0 : 0 ≤ i) (h1 : i < ds.length) (hb : i < 2 ^ 63)
    (next : ∀ P' s', At W k A env s₀ P₀ H Γ ((x, ds.set i.toNat d) :: Δ) Mx P' s' → wpAny W.M A (execs rest env) Q E s')
    (hd : (x == ("__debug__" : Str)) = false := by decide) (hn : (x == ("__classdict__" : Str)) = false := by decide)
    (hs : swapsWith e (some (.Subscript (.Name x xp) ie p)) pos.line env = pure false := by rfl) :
    wpAny W.M A (execs (.Assign [.Subscript (.Name x xp) ie p] e pos :: rest) env) Q E s := by
  refine wpAny_execs_cons (wpAny_Assign_Subscript (hv A _ P s E _ X.st X.cx fun v P1 s1 g1 tk1 i1 => ?_) hs)
  have X1 := X.gr g1 tk1
  obtain ⟨m, cv, ad, y, hnn⟩ := X1.mnew
  obtain ⟨vs, n, e1, q, iv⟩ := y.muts _ List.mem_cons_self
  refine name_read X1.fn X1.st.sv (y.nameOk e1) ?_ hd hn
  refine hi A _ P1 s1 E _ X1.st X1.cx fun w P2 s2 g2 tk2 i2 => ?_
  obtain ⟨t, rfl⟩ := Is.intI i2
  have y2 := y.gr g2
  have hlen : vs.toArray.size = ds.length := by rw [List.size_toArray, iv.length]
  have ho := g2.old _ _ q
  have er : ∀ {vs : List Value} {ds : List D} {j : Nat}, IsAll P2 vs ds → IsAll P2 (vs.set j v) (ds.set j d) := by
    intro vs
    induction vs with
    | nil => intro ds j h; rw [h.nilV]; exact .nil
    | cons v vs ih =>
      intro ds j h
      obtain ⟨e, es, rfl, a, b⟩ := h.consV
      cases j with
      | zero => exact .cons (i1.mono g2.le) b
      | succ j => exact .cons a (ih b)
  refine PySem.W.ki_setAt ho h0 hb (by rw [hlen]; exact h1) ?_
  have ho' := Heap.get?_update_self (Obj.mapSeq (·.setIfInBounds i.toNat v)) ho (by simp [PySem.W.listOf, Obj.mapSeq, Obj.isFreed])
  refine next P2 _ ((X1.gr g2 tk2).turn (vs' := vs.set i.toNat v) (n' := n) (tk' := s2.toks) y2 hnn tk2 (fun b o nb e => (Heap.SameBut.update ..).extBut b o nb e) (ho'.trans ?_) (er (iv.mono g2.le)))
  simp [PySem.W.listOf, Obj.mapSeq]
end
end
section
/-! ### fields -/
noncomputable def putF (name : Str) (d : D) : List (Str × D) → List (Str × D)
  | [] => [(name, d)]
  | (x, e) :: r => if x == name then (x, d) :: r else (x, e) :: putF name d r
section
variable {P : Vw}
theorem isStr_eq {x name : Str} {t : Tok} (q : (name == x) = true) : (Value.str x t).isStr name = true := by
  simpa [Value.isStr] using (beq_iff_eq.mp q).symm
theorem isStr_ne {x name : Str} {t : Tok} (q : (name == x) = false) : (Value.str x t).isStr name = false := by
  simpa [Value.isStr] using fun e : x = name => by rw [e] at q; simp at q
theorem IsFs.get {name : Str} {d : D} {es : List DictEntry} {fs : List (Str × D)} (h : IsFs P es fs) (hl : fs.lookup name = some d) : ∃ v, getL name es = some (some v) ∧ Is P v d := by
  induction fs generalizing es with
  | nil => exact nomatch hl
  | cons p r ih =>
    obtain ⟨hs, t, v, es, rfl, i, r⟩ := h.consI
    rw [List.lookup_cons] at hl
    unfold getL
    rw [List.find?_cons]
    cases q : name == p.1 with
    | true =>
      rw [q] at hl
      rw [isStr_eq q]
      exact ⟨v, rfl, Option.some.inj hl ▸ i⟩
    | false =>
      rw [q] at hl
      rw [isStr_ne q]
      obtain ⟨w, e, iw⟩ := ih r hl
      refine ⟨w, ?_, iw⟩
      unfold getL at e
      dsimp only
      split at e
      · rename_i en he; rw [he]; exact e
      · rename_i he
        split at e
        · exact nomatch e
        · exact nomatch e
theorem IsFs.noRef {es : List DictEntry} {fs : List (Str × D)} (h : IsFs P es fs) : es.any (·.refKey) = false := by
  induction fs generalizing es with
  | nil => rw [h.nilI]; rfl
  | cons p r ih =>
    obtain ⟨hs, t, v, es, rfl, i, r⟩ := h.consI
    rw [List.any_cons, ih r]; rfl
theorem IsFs.missF {name : Str} {es : List DictEntry} {fs : List (Str × D)} (h : IsFs P es fs) (hl : fs.lookup name = none) : es.find? (·.key.isStr name) = none := by
  induction fs generalizing es with
  | nil => rw [h.nilI]; rfl
  | cons p r ih =>
    obtain ⟨hs, t, v, es, rfl, i, r⟩ := h.consI
    rw [List.lookup_cons] at hl
    rw [List.find?_cons]
    cases q : name == p.1 with
    | true => rw [q] at hl; exact nomatch hl
    | false =>
      rw [q] at hl
      rw [isStr_ne q]
      exact ih r hl
theorem IsFs.miss {name : Str} {es : List DictEntry} {fs : List (Str × D)} (h : IsFs P es fs) (hl : fs.lookup name = none) : getL name es = some none := by
  unfold getL
  rw [h.missF hl, h.noRef]; rfl
theorem IsFs.put {name : Str} {hs : Int} {t : Tok} {v : Value} {d : D} (i : Is P v d) {es : List DictEntry} {fs : List (Str × D)} (h : IsFs P es fs) : IsFs P (putL name hs (.str name t) v es) (putF name d fs) := by
  induction fs generalizing es with
  | nil => rw [h.nilI]; exact .cons i .nil
  | cons p r ih =>
    obtain ⟨h0, u, w, es, rfl, j, r⟩ := h.consI
    unfold putL putF
    cases q : p.1 == name with
    | true =>
      rw [show (Value.str p.1 u).isStr name = true from by simpa [Value.isStr] using beq_iff_eq.mp q, if_pos rfl, if_pos rfl]
      exact .cons i r
    | false =>
      rw [show (Value.str p.1 u).isStr name = false from by simpa [Value.isStr] using beq_eq_false_iff_ne.mp q, if_neg Bool.false_ne_true, if_neg Bool.false_ne_true]
      exact .cons j (ih r)
theorem IsFs.length {es : List DictEntry} {fs : List (Str × D)} (h : IsFs P es fs) : es.length = fs.length := by
  induction fs generalizing es with
  | nil => rw [h.nilI]; rfl
  | cons p r ih =>
    obtain ⟨h0, u, w, es, rfl, j, r⟩ := h.consI
    exact congrArg Nat.succ (ih r)
theorem handed_of {v : Value} {d : D} (h : Is P v d) : handedIn v = true :=
  Is.casesOn (motive_1 := fun v _ _ => handedIn v = true) h rfl (fun _ => rfl) (fun _ _ => rfl) (fun _ _ => rfl) (fun _ _ => rfl) (fun _ _ => rfl) (fun _ => rfl) (fun _ => rfl) (fun _ => rfl) (fun _ _ _ => rfl)
end

/-- reading a name of an instance of C finds it in the instance -/
structure GetK (K : Frag) (C : Addr) (name : Str) : Prop where
  ga : findIn K (.ref C) "__getattribute__" = some (some (.builtin "object.__getattribute__"))
  hh : hasDictIn K C = true
  at_ : ∃ attr, findIn K (.ref C) name = some attr ∧ noGet K attr = true
structure SetK (K : Frag) (C : Addr) (name : Str) : Prop where
  sa : findIn K (.ref C) "__setattr__" = some (some (.builtin "object.__setattr__"))
  po : plainOver K C = true
  tk : takerIn K C name = some none
  hh : hasDictIn K C = true
structure MethK (K : Frag) (C : Addr) (name : Str) (f : Addr) : Prop where
  ga : findIn K (.ref C) "__getattribute__" = some (some (.builtin "object.__getattribute__"))
  gt : findIn K (.ref C) "__getattr__" = some none
  hf : findIn K (.ref C) name = some (some (.ref f))
  ty : typeIn K (.ref f) = some (.type "function")

section
variable {prog : Program} {w : World} {A : Around} {E : Value → Shared → Prop} {s : Shared} {K : Frag} {x C dx : Addr}
theorem inst_at {h : Heap} {od : Obj} (h1 : h.get? x = some (instObj C dx)) (h2 : h.get? dx = some od) : InstAt h x (instObj C dx) C (some od) := ⟨h1, rfl, rfl, h2⟩
theorem putL_len {name : Str} {hs : Int} {key v : Value} : ∀ (es : List DictEntry), (putL name hs key v es).length ≤ es.length + 1
  | [] => Nat.le_refl _
  | e :: r => by
    have := putL_len (name := name) (hs := hs) (key := key) (v := v) r
    unfold putL
    split
    · exact Nat.le_succ _
    · rw [List.length_cons, List.length_cons]; omega
theorem osa_raw {name : Str} {tk : Tok} {v : Value} {es : List DictEntry} {n : Nat} {R : Result → Shared → Prop} (X : K.In s.heap) (G : SetK K C name) (h1 : s.heap.get? x = some (instObj C dx)) (h2 : s.heap.get? dx = some (dictOf es n))
    (hl : (getL name es).isSome = true) (hz : es.length ≤ 900)
    (h : ∀ hs t h' n', Heap.SameBut dx s.heap h' → h'.get? dx = some (dictOf (putL name hs (.str name t) v es) n') → R (.ok (.ret .none)) { s with heap := h', toks := s.toks + 1 }) : codeAny (model prog w) A (.call (.builtin "object.__setattr__") ⟨[.ref x, .str name tk, v], []⟩) R s := by
  refine osa_open X (inst_at h1 h2) G.po G.tk fun b => ?_
  obtain ⟨cd, hc, hd'⟩ := any_some G.hh
  refine wpAny_bind (wpAny_pure (wpAny_bind (wpAny_bind (wpAny_loadPart h1 (wpAny_bind ((looks_clsIn X hc).here ?_))))))
  rw [hd']
  refine wpAny_pure (a := some dx) (wpAny_bind (wpAny_pure (wpAny_bind ?_)))
  unfold nsSet
  refine wpAny_bind (wpAny_bind (wpAny_askSetting (wpAny_pure (wpAny_bind (wpAny_mkText (wpAny_bind (wpAny_loadPart h2 ?_)))))))
  dsimp only
  have c : (!es.toArray.any (·.key.isStr name) && es.toArray.any (·.refKey)) = false := by
    rw [← Array.any_toList, ← Array.any_toList]
    show (!es.any _ && es.any _) = _
    unfold getL at hl
    split at hl
    · rename_i en he
      rw [List.any_eq_true.mpr ⟨en, List.mem_of_find?_eq_some he, List.find?_some he⟩]; rfl
    · split at hl
      · cases hl
      · rename_i z; rw [Bool.not_eq_true] at z
        rw [z, Bool.and_false]
  rw [aRefKeyMayBeTheName_at, c]
  refine wpAny_updatePart h2 ?_
  have D' : ∀ (hs : Int) (t : Tok), (s.heap.update dx (Obj.putName name hs (.str name t) v)).get? dx = some (dictOf (putL name hs (.str name t) v es) (putN name es n)) := fun hs t => by
    have := Heap.get?_update_self (Obj.putName name hs (.str name t) v) h2 (by rw [putName_dict]; rfl)
    rw [this, putName_dict]
  refine wpAny_bind (wpAny_lookBehind (D' _ _) (by rw [pastItsLine_dict]; rw [List.size_toArray, sizeLine_eq]; exact Nat.le_trans (putL_len es) (by omega)) ?_)
  exact wpAny_pure (h _ _ _ _ (Heap.SameBut.update ..) (D' _ _))
/-- a field is stored -/
theorem set_raw {name : Str} {v : Value} {es : List DictEntry} {n : Nat} {Q : Unit → Shared → Prop} (X : K.In s.heap) (G : SetK K C name) (h1 : s.heap.get? x = some (instObj C dx)) (h2 : s.heap.get? dx = some (dictOf es n))
    (hl : (getL name es).isSome = true) (hz : es.length ≤ 900)
    (h : ∀ hs t h' n', Heap.SameBut dx s.heap h' → h'.get? dx = some (dictOf (putL name hs (.str name t) v es) n') → Q () { s with heap := h', toks := s.toks + 2 }) : wpAny (model prog w) A (setAttr (.ref x) name v) Q E s :=
  set_plain X (inst_at h1 h2) G.sa (osa_raw (s := { s with toks := s.toks + 1 }) X G h1 h2 hl hz fun hs t h' n' a b => h hs t h' n' a b)
end
end
section
noncomputable abbrev callForm (o : Expr) (name : Str) (apos pos : Pos) (args : List Expr) (pl : Sem Bool) (env : Env) : Prop := eval (.Call (.Attribute o name apos) args [] pos) env = (do
      let ov ← eval o env
      standAt apos.atName
      let (f, first) ← holding [ov] (getMethod ov name pl)
      callWith pos f first (backTo pos (starEach args env)) [])
noncomputable abbrev attrForm (o : Expr) (name : Str) (pos : Pos) (env : Env) : Prop := eval (.Attribute o name pos) env = (do
      let v ← eval o env
      standAt pos.atName
      let r ← holding [v] (getAttr v name true)
      letTemporaryGo o v r
      pure r)
structure FnK (K : Frag) (f : Addr) : Prop where
  has : ∃ o fd, K.lookup f = some o ∧ o.data = .func fd
section
variable {W : Wd} {k : Nat} {env : Env} {Γ : List (Str × D)} {Δ : List (Str × List D)}
theorem evalArgs_ev' {A : Around} {S P : Vw} {s : Shared} {E : Value → Shared → Prop} {Q : Args → Shared → Prop} {f : Value} {args : List Expr} {ds : List D} {pos : Pos} (hp : args.all plainE = true) (st : St W k A S P s) (hC : Cx S P env Γ Δ) (h : Evs W k env Γ Δ args ds) (hA : args = [] → ds = [])
    (hQ : ∀ vs P' s', Gr P s P' s' → 1 ≤ s'.toks → IsAll P' vs ds → Q ⟨vs, []⟩ s') : wpAny W.M A (evalArgs f true (backTo pos (starEach args env)) []) Q E s := by
  cases args with
  | nil => rw [hA rfl] at hQ; exact PySem.evalArgs_none (hQ [] P s (Gr.refl st.p) st.tk .nil)
  | cons e r => exact evalArgs_ev hp st hC h hQ
/-- a call of one of the text's functions -/
theorem callWith_fn {A : Around} {S P : Vw} {s : Shared} {E Q : Value → Shared → Prop} {f : Addr} {first : List Value} {args : List Expr} {ds : List D} {pos : Pos} (F : FnK W.K f) (hp : args.all plainE = true) (st : St W k A S P s) (hC : Cx S P env Γ Δ) (h : Evs W k env Γ Δ args ds) (hA : args = [] → ds = [])
    (hQ : ∀ vs P' s', Gr P s P' s' → 1 ≤ s'.toks → IsAll P' vs ds → wpAny W.M A (call (.ref f) (first ++ vs)) Q E s') : wpAny W.M A (callWith pos (.ref f) first (backTo pos (starEach args env)) []) Q E s := by
  obtain ⟨o, fd, ho, hd⟩ := F.has
  refine callWith_function (o := o) (fd := fd) (evalArgs_ev' hp st hC h hA fun vs P' s' g tk i => ⟨⟨?_, hd⟩, hQ vs P' s' g tk i⟩)
  exact Bs.frag (st.b.up g.le) g.inn _ _ ho
theorem ev_callF {x : Str} {f : Addr} {p pos : Pos} {args : List Expr} {ds : List D} {d : D} (n : NmG W env x (.ref f)) (F : FnK W.K f) (h : Evs W k env Γ Δ args ds) (hc : Cl W k (.ref f) ds d)
    (hA : args = [] → ds = [] := by intro h; first | rfl | cases h) (hp : args.all plainE = true := by rfl) (hd : (x == ("__debug__" : Str)) = false := by decide) : Ev W k env Γ Δ (.Call (.Name x p) args [] pos) d := .mk fun A S P s E Q st hC hQ => by
  refine wpAny_Call_Name_kw (name_gl st.b st.p hC n ?_ hd)
  exact callWith_fn F hp st hC h hA fun vs P₁ s₁ g₁ tk₁ i₁ => hc A S P₁ s₁ E Q vs (st.next g₁ tk₁) i₁ fun v P₂ s₂ g₂ i₂ => hQ v P₂ s₂ (g₁.trans g₂) i₂

/-! ### fields -/
theorem ev_attrI {o : Expr} {name : Str} {pos : Pos} {x C dx : Addr} {fs : List (Str × D)} {d : D} (h0 : Ev W k env Γ Δ o (.inst x C dx)) (hm : (dx, MO.dict fs) ∈ W.raws) (G : GetK W.K C name) (hl : fs.lookup name = some d)
    (he : attrForm o name pos env := by with_unfolding_all rfl) : Ev W k env Γ Δ (.Attribute o name pos) d := .mk fun A S P s E Q st hC hQ =>
  Attribute_any_ (h0 A S P s E _ st hC fun v P₁ s₁ g₁ tk₁ i₁ => by
    obtain ⟨rfl, hx⟩ := i₁.instI
    obtain ⟨ob, ho, hi⟩ := (st.next g₁ tk₁).rw _ hm
    obtain ⟨es, n, rfl, hf⟩ := hi.dictI
    obtain ⟨u, hu, hiu⟩ := hf.get hl
    obtain ⟨attr, ha, hn⟩ := G.at_
    refine get_value (Bs.frag (st.b.up g₁.le) g₁.inn) (inst_at (g₁.inn _ _ hx) (g₁.s st.sv _ _ ho)) G.ga (findObj_own G.hh ha hn (by rw [lookIn_dict]; exact hu)) (handed_of hiu) ?_
    exact hQ u P₁ _ (g₁.trans (Gr.toks g₁.inn)) hiu) he
theorem ev_attrO {o : Expr} {name : Str} {pos : Pos} {C : Addr} {fs : List (Str × D)} {d : D} (h0 : Ev W k env Γ Δ o (.obj C fs)) (G : GetK W.K C name) (hl : fs.lookup name = some d)
    (he : attrForm o name pos env := by with_unfolding_all rfl) : Ev W k env Γ Δ (.Attribute o name pos) d := .mk fun A S P s E Q st hC hQ =>
  Attribute_any_ (h0 A S P s E _ st hC fun v P₁ s₁ g₁ tk₁ i₁ => by
    obtain ⟨a, dx, es, n, rfl, hx, hd, hf⟩ := i₁.objI
    obtain ⟨u, hu, hiu⟩ := hf.get hl
    obtain ⟨attr, ha, hn⟩ := G.at_
    refine get_value (Bs.frag (st.b.up g₁.le) g₁.inn) (inst_at (g₁.inn _ _ hx) (g₁.inn _ _ hd)) G.ga (findObj_own G.hh ha hn (by rw [lookIn_dict]; exact hu)) (handed_of hiu) ?_
    exact hQ u P₁ _ (g₁.trans (Gr.toks g₁.inn)) hiu) he
/-- a str that stands in a class -/
theorem ev_attrC {x name : Str} {p pos : Pos} {C : Addr} {y : Str} {t : Tok} (n : NmG W env x (.ref C)) (hr : readsIn W.K C (.type "type") = true) (hf : findCls W.K (.ref C) (.type "type") name = some (.val (.str y t)))
    (he : attrForm (.Name x p) name pos env := by with_unfolding_all rfl) (hd : (x == ("__debug__" : Str)) = false := by decide) : Ev W k env Γ Δ (.Attribute (.Name x p) name pos) (.str y) := .mk fun A S P s E Q st hC hQ =>
  Attribute_any_ (name_gl st.b st.p hC n (cls_value (Bs.frag st.b st.p) hr hf rfl (hQ _ P _ (Gr.toks st.p) (.str _ _))) hd) he
/-- x.m(..), of an object that stands, by a method that turns nothing -/
theorem ev_methO {o : Expr} {name : Str} {apos pos : Pos} {args : List Expr} {pl : Sem Bool} {C f : Addr} {fs : List (Str × D)} {ds : List D} {d : D} (h0 : Ev W k env Γ Δ o (.obj C fs)) (M : MethK W.K C name f) (F : FnK W.K f) (hl : fs.lookup name = none) (h : Evs W k env Γ Δ args ds) (hc : Cl W k (.ref f) (.obj C fs :: ds) d)
    (he : callForm o name apos pos args pl env := by rfl) (hA : args = [] → ds = [] := by intro h; first | rfl | cases h) (hp : args.all plainE = true := by rfl) : Ev W k env Γ Δ (.Call (.Attribute o name apos) args [] pos) d := .mk fun A S P s E Q st hC hQ =>
  MethodCall_ (h0 A S P s E _ st hC fun v P₁ s₁ g₁ tk₁ i₁ => by
    obtain ⟨a, dx, es, n, rfl, hx, hd, hf⟩ := i₁.objI
    refine method_fn (Bs.frag (st.b.up g₁.le) g₁.inn) (inst_at (g₁.inn _ _ hx) (g₁.inn _ _ hd)) M.ga M.gt M.hf M.ty (by show (lookIn name (dictOf es n)).map _ = _; rw [lookIn_dict, hf.miss hl]; rfl) ?_
    refine callWith_fn F hp (st.next g₁ tk₁) (hC.up (Le.refl _) g₁.le) h hA fun vs P₂ s₂ g₂ tk₂ i₂ => ?_
    exact hc A S P₂ s₂ E Q (.ref a :: vs) ((st.next g₁ tk₁).next g₂ tk₂) (.cons (Is.obj (g₂.le _ _ hx) (g₂.le _ _ hd) (hf.mono g₂.le)) i₂) fun u P₃ s₃ g₃ i₃ => hQ u P₃ s₃ ((g₁.trans g₂).trans g₃) i₃) he

theorem at_attrC {K : Frag} {x name : Str} {p pos : Pos} {C : Addr} {y : Str} {t : Tok} (hK : W.K = K) (n : NmG W env x (.ref C)) (hr : readsIn K C (.type "type") = true := by rfl) (hf : findCls K (.ref C) (.type "type") name = some (.val (.str y t)) := by rfl)
    (he : attrForm (.Name x p) name pos env := by with_unfolding_all rfl) (hd : (x == ("__debug__" : Str)) = false := by decide) : Ev W k env Γ Δ (.Attribute (.Name x p) name pos) (.str y) := ev_attrC n (by rw [hK]; exact hr) (by rw [hK]; exact hf) he hd
theorem getK {K : Frag} {C : Addr} {name : Str} {attr : Option Value} (hK : W.K = K) (ga : findIn K (.ref C) "__getattribute__" = some (some (.builtin "object.__getattribute__")) := by rfl) (hh : hasDictIn K C = true := by rfl) (ha : findIn K (.ref C) name = some attr := by rfl) (hn : noGet K attr = true := by rfl) : GetK W.K C name :=
  ⟨by rw [hK]; exact ga, by rw [hK]; exact hh, attr, by rw [hK]; exact ha, by rw [hK]; exact hn⟩
theorem setK {K : Frag} {C : Addr} {name : Str} (hK : W.K = K) (sa : findIn K (.ref C) "__setattr__" = some (some (.builtin "object.__setattr__")) := by rfl) (po : plainOver K C = true := by rfl) (tk : takerIn K C name = some none := by rfl) (hh : hasDictIn K C = true := by rfl) : SetK W.K C name :=
  ⟨by rw [hK]; exact sa, by rw [hK]; exact po, by rw [hK]; exact tk, by rw [hK]; exact hh⟩
theorem methK {K : Frag} {C f : Addr} {name : Str} (hK : W.K = K) (ga : findIn K (.ref C) "__getattribute__" = some (some (.builtin "object.__getattribute__")) := by rfl) (gt : findIn K (.ref C) "__getattr__" = some none := by rfl) (hf : findIn K (.ref C) name = some (some (.ref f)) := by rfl) (ty : typeIn K (.ref f) = some (.type "function") := by rfl) : MethK W.K C name f :=
  ⟨by rw [hK]; exact ga, by rw [hK]; exact gt, by rw [hK]; exact hf, by rw [hK]; exact ty⟩
theorem fnK {K : Frag} {f : Addr} {o : Obj} {fd : FuncData} (hK : W.K = K) (ho : K.lookup f = some o := by rfl) (hd : o.data = .func fd := by rfl) : FnK W.K f := ⟨o, fd, by rw [hK]; exact ho, hd⟩
/-! ### calls that turn owned objects -/
noncomputable def EvM (W : Wd) (k : Nat) (env : Env) (Γ : List (Str × D)) (Δ : List (Str × List D)) (e : Expr) (d : D) (Mx Mx' : List (Addr × MO)) : Prop :=
  ∀ (A : Around) (S P : Vw) (s : Shared) (E Q : Value → Shared → Prop), St W k A S P s → Cx S P env Γ Δ → Dv P s Mx → (∀ p ∈ Mx, S p.1 = none) →
    (∀ v P' s', GrM (ads Mx) P s P' s' → 1 ≤ s'.toks → Dv P' s' Mx' → Is P' v d → Q v s') → wpAny W.M A (eval e env) Q E s
theorem Dv.gr {P P' : Vw} {s s' : Shared} {Mx : List (Addr × MO)} (h : Dv P s Mx) (g : Gr P s P' s') : Dv P' s' Mx :=
  ⟨fun p hp => (h.has p hp).imp fun o hh => ⟨g.old _ _ hh.1, hh.2.mono g.le⟩, h.nd, fun p hp => let ⟨o, q, i⟩ := h.has p hp; (gr_none g ⟨h.off p hp, o, q⟩).1⟩
theorem evm_callF {x : Str} {f : Addr} {p pos : Pos} {args : List Expr} {ds : List D} {d : D} {Mx Mx' : List (Addr × MO)} (n : NmG W env x (.ref f)) (F : FnK W.K f) (h : Evs W k env Γ Δ args ds) (hc : ClM W k (.ref f) ds d Mx Mx')
    (hA : args = [] → ds = [] := by intro h; first | rfl | cases h) (hp : args.all plainE = true := by rfl) (hd : (x == ("__debug__" : Str)) = false := by decide) : EvM W k env Γ Δ (.Call (.Name x p) args [] pos) d Mx Mx' := fun A S P s E Q st hC dv hoff hQ => by
  refine wpAny_Call_Name_kw (name_gl st.b st.p hC n ?_ hd)
  exact callWith_fn F hp st hC h hA fun vs P₁ s₁ g₁ tk₁ i₁ => hc A S P₁ s₁ E Q vs (st.next g₁ tk₁) i₁ (dv.gr g₁) fun v P₂ s₂ g₂ tk₂ dv₂ i₂ => hQ v P₂ s₂ ((g₁.m _).trans g₂) tk₂ dv₂ i₂
/-- x.m(..), of an object whose fields turn -/
theorem evm_meth {o : Expr} {name : Str} {apos pos : Pos} {args : List Expr} {pl : Sem Bool} {x C dx f : Addr} {fs : List (Str × D)} {ds : List D} {d : D} {Mx Mx' : List (Addr × MO)} (h0 : Ev W k env Γ Δ o (.inst x C dx)) (M : MethK W.K C name f) (F : FnK W.K f) (hm : (dx, MO.dict fs) ∈ Mx) (hl : fs.lookup name = none) (h : Evs W k env Γ Δ args ds)
    (hc : ClM W k (.ref f) (.inst x C dx :: ds) d Mx Mx') (he : callForm o name apos pos args pl env := by rfl) (hA : args = [] → ds = [] := by intro h; first | rfl | cases h) (hp : args.all plainE = true := by rfl) : EvM W k env Γ Δ (.Call (.Attribute o name apos) args [] pos) d Mx Mx' := fun A S P s E Q st hC dv hoff hQ =>
  MethodCall_ (h0 A S P s E _ st hC fun v P₁ s₁ g₁ tk₁ i₁ => by
    obtain ⟨rfl, hx⟩ := i₁.instI
    obtain ⟨ob, ho, hi⟩ := dv.has _ hm
    obtain ⟨es, n, rfl, hf⟩ := hi.dictI
    refine method_fn (Bs.frag (st.b.up g₁.le) g₁.inn) (inst_at (g₁.inn _ _ hx) (g₁.old _ _ ho)) M.ga M.gt M.hf M.ty (by show (lookIn name (dictOf es n)).map _ = _; rw [lookIn_dict, hf.miss hl]; rfl) ?_
    refine callWith_fn F hp (st.next g₁ tk₁) (hC.up (Le.refl _) g₁.le) h hA fun vs P₂ s₂ g₂ tk₂ i₂ => ?_
    exact hc A S P₂ s₂ E Q (.ref x :: vs) ((st.next g₁ tk₁).next g₂ tk₂) (.cons (.inst (g₂.le _ _ hx)) i₂) ((dv.gr g₁).gr g₂) fun u P₃ s₃ g₃ tk₃ dv₃ i₃ => hQ u P₃ s₃ (((g₁.trans g₂).m _).trans g₃) tk₃ dv₃ i₃) he
end
section
variable {W : Wd} {k : Nat} {A : Around} {env : Env} {s₀ : Shared} {P₀ H : Vw} {Γ : List (Str × D)} {Δ : List (Str × List D)} {Mx Mx' rest : List (Addr × MO)} {P : Vw} {s : Shared} {E : Value → Shared → Prop} {Q : Flow → Shared → Prop}
theorem At.stM (X : At W k A env s₀ P₀ H Γ Δ (Mx ++ rest) P s) : St (W.at []) k A (offX (ads Mx) s.heap) P s := ⟨X.a, X.b, offX_in, X.inn, X.tk, fun p hp => nomatch hp⟩
theorem At.nd (X : At W k A env s₀ P₀ H Γ Δ (Mx ++ rest) P s) {m cv : Str → Option Value} {ad : Str → Addr} (y : AtX env Γ Δ (Mx ++ rest) H P m cv ad s.heap) : env.locals ∉ ads Mx ∧ (∀ p ∈ env.cells, p.2 ∉ ads Mx) ∧ (∀ p ∈ Δ, ad p.1 ∉ ads Mx) ∧ (∀ p ∈ rest, p.1 ∉ ads Mx) := by
  have nd := List.nodup_cons.mp y.nd
  have nd2 := List.nodup_append.mp nd.2
  have nd3 := List.nodup_append.mp nd2.2.1
  have nd4 : (ads Mx ++ ads rest).Nodup := by have := nd3.2.1; rw [List.map_append] at this; exact this
  have nd5 := List.nodup_append.mp nd4
  have up : ∀ b, b ∈ ads Mx → b ∈ (Mx ++ rest).map (·.1) := fun b hb => by rw [List.map_append]; exact List.mem_append_left _ hb
  refine ⟨fun h => nd.1 (List.mem_append_right _ (List.mem_append_right _ (up _ h))), fun p hp h => nd2.2.2 p.2 (List.mem_map_of_mem hp) p.2 (List.mem_append_right _ (up _ h)) rfl,
    fun p hp h => nd3.2.2 (ad p.1) (List.mem_map_of_mem (f := fun p => ad p.1) hp) (ad p.1) (up _ h) rfl, fun p hp h => nd5.2.2 p.1 h p.1 (List.mem_map_of_mem hp) rfl⟩
theorem lookN_kinds {m cv : Str → Option Value} {x : Str} {v : Value} {S h : Vw} (e : lookN env m cv x = some v) (hS : ∀ b o, h b = some o → (b = env.locals ∨ b ∈ env.cells.map (·.2)) → S b = some o) (n : NameOk h env x v) : NameOk S env x v := by
  cases n with
  | loc a b c d => exact .loc a (hS _ _ b (.inl rfl)) c d
  | cel a b c d => exact .cel a b (hS _ _ c (.inr (List.mem_map_of_mem (f := (·.2)) (mem_of_lookup b)))) d
theorem At.cxM (X : At W k A env s₀ P₀ H Γ Δ (Mx ++ rest) P s) : Cx (offX (ads Mx) s.heap) P env Γ Δ := by
  obtain ⟨m, cv, ad, y, _⟩ := X.mnew
  obtain ⟨n1, n2, n3, n4⟩ := X.nd y
  have hS : ∀ b o, s.heap.get? b = some o → (b = env.locals ∨ b ∈ env.cells.map (·.2)) → offX (ads Mx) s.heap b = some o := fun b o e hb => offX_old (by
    rcases hb with rfl | hb
    · exact n1
    · obtain ⟨p, hp, rfl⟩ := List.mem_map.mp hb; exact n2 p hp) e
  refine ⟨X.fn, X.gl, X.bi, fun p hp => ?_, fun p hp => ?_⟩
  · obtain ⟨v, e, i⟩ := y.vars p hp
    exact ⟨v, lookN_kinds e hS (y.nameOk e), i⟩
  · obtain ⟨vs, n, e, q, i⟩ := y.muts p hp
    exact ⟨_, vs, n, lookN_kinds e hS (y.nameOk e), offX_old (n3 p hp) q, i⟩
theorem At.dvM (X : At W k A env s₀ P₀ H Γ Δ (Mx ++ rest) P s) : Dv P s Mx := by
  obtain ⟨m, cv, ad, y, _⟩ := X.mnew
  refine ⟨fun p hp => y.raw p (List.mem_append_left _ hp), ?_, fun p hp => y.offP p.1 ?_⟩
  · have h1 := (List.nodup_append.mp (List.nodup_append.mp (List.nodup_cons.mp y.nd).2).2.1).2.1
    rw [List.map_append] at h1
    exact (List.nodup_append.mp h1).1
  · exact List.mem_cons_of_mem _ (List.mem_append_right _ (List.mem_append_right _ (List.mem_map_of_mem (List.mem_append_left _ hp))))
/-- behind a call that turned owned objects -/
theorem At.grM {P' : Vw} {s' : Shared} (X : At W k A env s₀ P₀ H Γ Δ (Mx ++ rest) P s) (g : GrM (ads Mx) P s P' s') (tk : 1 ≤ s'.toks) (dv : Dv P' s' Mx') (ha : ads Mx' = ads Mx) : At W k A env s₀ P₀ H Γ Δ (Mx' ++ rest) P' s' where
  a := X.a
  b := X.b.up g.le
  tk := tk
  fn := X.fn
  gl := X.gl
  bi := X.bi
  le := X.le.trans g.le
  inn := g.inn
  hin := fun b o e => g.old _ _ (fun hb => by
    obtain ⟨m, cv, ad, y, _⟩ := X.mnew
    have := y.offH b (List.mem_cons_of_mem _ (List.mem_append_right _ (List.mem_append_right _ (by rw [List.map_append]; exact List.mem_append_left _ hb))))
    rw [this] at e; cases e) (X.hin _ _ e)
  new := fun b o e => (g.new b o e).elim (X.new b o) fun z => .inr (by
    cases q : s₀.heap.get? b with
    | none => rfl
    | some o' => obtain ⟨o'', q'⟩ := X.ext b o' q; rw [z] at q'; cases q')
  newH := fun b o e => (g.new b o e).elim (X.newH b o) fun z => .inr (by
    cases q : H b with
    | none => rfl
    | some o' => have := X.hin _ _ q; rw [z] at this; cases this)
  ext := fun b o e => let ⟨o', q⟩ := X.ext b o e; g.ext b o' q
  mnew := by
    obtain ⟨m, cv, ad, y, hn⟩ := X.mnew
    obtain ⟨n1, n2, n3, n4⟩ := X.nd y
    have none' : ∀ b, P b = none → (∃ o, s.heap.get? b = some o) → P' b = none := fun b h1 ⟨o, ho⟩ => by
      cases q : P' b with
      | none => rfl
      | some o' =>
        rcases g.new b o' q with z | z
        · rw [h1] at z; cases z
        · rw [ho] at z; cases z
    have ho : ownOf env Δ ad (Mx' ++ rest) = ownOf env Δ ad (Mx ++ rest) := by unfold ownOf; rw [List.map_append, List.map_append, show Mx'.map (·.1) = Mx.map (·.1) from ha]
    refine ⟨m, cv, ad, ⟨y.ns.at' fun o e => g.old _ _ n1 e, fun p hp => ?_, fun p hp => ?_, fun p hp => ?_, fun p hp => ?_, by rw [ho]; exact y.nd, y.cnd, fun b hb => ?_, fun b hb => ?_⟩, hn⟩
    · obtain ⟨o, q, d⟩ := y.cells p hp; exact ⟨o, g.old _ _ (n2 p hp) q, d⟩
    · obtain ⟨v, e, i⟩ := y.vars p hp; exact ⟨v, e, i.mono g.le⟩
    · obtain ⟨vs, n, e, q, i⟩ := y.muts p hp; exact ⟨vs, n, e, g.old _ _ (n3 p hp) q, i.mono g.le⟩
    · rcases List.mem_append.mp hp with hp | hp
      · exact dv.has p hp
      · obtain ⟨o, q, i⟩ := y.raw p (List.mem_append_right _ hp); exact ⟨o, g.old _ _ (n4 p hp) q, i.mono g.le⟩
    · rw [ho] at hb; exact none' b (y.offP b hb) (y.exist b hb)
    · rw [ho] at hb; exact y.offH b hb
  gens := X.gens.trans g.gens
  drawn := g.drawn.trans X.drawn
  os := g.os.trans X.os
/-! ### statements that call so -/
theorem s_setM {x : Str} {p pos : Pos} {e : Expr} {rest' : List Stmt} {d : D} (X : At W k A env s₀ P₀ H Γ Δ (Mx ++ rest) P s) (hv : EvM (W.at []) k env Γ Δ e d Mx Mx') (ha : ads Mx' = ads Mx) (hb : Bindable env x)
    (next : ∀ P' s', At W k A env s₀ P₀ H ((x, d) :: rm x Γ) (rm x Δ) (Mx' ++ rest) P' s' → wpAny W.M A (execs rest' env) Q E s')
    (hs : swapsWith e (some (.Name x p)) pos.line env = pure false := by rfl) : wpAny W.M A (execs (.Assign [.Name x p] e pos :: rest') env) Q E s :=
  wpAny_execs_cons (wpAny_Assign_Name (hv A _ P s E _ X.stM X.cxM X.dvM (fun p hp => offX_none (List.mem_map_of_mem hp)) fun v P' s' g tk dv i => (X.grM g tk dv ha).name i hb fun s'' X'' => next P' s'' X'') hs)
theorem s_exprM {p : Pos} {e : Expr} {rest' : List Stmt} (X : At W k A env s₀ P₀ H Γ Δ (Mx ++ rest) P s) (hv : EvM (W.at []) k env Γ Δ e .none Mx Mx') (ha : ads Mx' = ads Mx)
    (next : ∀ P' s', At W k A env s₀ P₀ H Γ Δ (Mx' ++ rest) P' s' → wpAny W.M A (execs rest' env) Q E s')
    (hi : interactive env = false := by rfl) (hs : swapsWith e none p.line env = pure false := by rfl) : wpAny W.M A (execs (.Expr e p :: rest') env) Q E s :=
  wpAny_execs_cons (wpAny_Expr (hv A _ P s E _ X.stM X.cxM X.dvM (fun p hp => offX_none (List.mem_map_of_mem hp)) fun v P' s' g tk dv i => by obtain rfl := i.noneI; exact next P' s' (X.grM g tk dv ha)) hi hs)
/-- self.x = e -/
theorem s_setattr {o : Expr} {name : Str} {p pos : Pos} {e : Expr} {rest' : List Stmt} {x C dx : Addr} {fs : List (Str × D)} {d : D} (X : At W k A env s₀ P₀ H Γ Δ ((dx, .dict fs) :: Mx) P s) (hv : Ev (W.at ((dx, .dict fs) :: Mx)) k env Γ Δ e d) (ho : Ev (W.at ((dx, .dict fs) :: Mx)) k env Γ Δ o (.inst x C dx)) (G : SetK W.K C name)
    (next : ∀ P' s', At W k A env s₀ P₀ H Γ Δ ((dx, .dict (putF name d fs)) :: Mx) P' s' → wpAny W.M A (execs rest' env) Q E s')
    (hz : Nat.ble fs.length 900 = true := by rfl) (hs : swapsWith e (some (.Attribute o name p)) pos.line env = pure false := by rfl) : wpAny W.M A (execs (.Assign [.Attribute o name p] e pos :: rest') env) Q E s := by
  refine wpAny_execs_cons (plainObj_wpAny_Assign_Attribute (hv A _ P s E _ X.st X.cx fun v P1 s1 g1 tk1 i1 => ho A _ P1 s1 E _ (X.st.next g1 tk1) (X.cx.up (Le.refl _) g1.le) fun ov P2 s2 g2 tk2 i2 => ?_) hs)
  have X2 := (X.gr g1 tk1).gr g2 tk2
  obtain ⟨rfl, hx⟩ := i2.instI
  obtain ⟨m, cv, ad, y, hn⟩ := X2.mnew
  obtain ⟨ob, hq, hi⟩ := y.raw _ List.mem_cons_self
  obtain ⟨es, n, rfl, hf⟩ := hi.dictI
  refine set_raw (Bs.frag X2.b X2.inn) G (X2.inn _ _ hx) hq ?_ (by rw [hf.length]; exact Nat.le_of_ble_eq_true hz) fun hs' t h' n' hb he => ?_
  · cases q : fs.lookup name with
    | none => rw [hf.miss q]; rfl
    | some d' => obtain ⟨u, hu, _⟩ := hf.get q; rw [hu]; rfl
  · exact next P2 _ (X2.turnR (o' := .dict (putF name d fs)) (Nat.le_trans tk2 (Nat.le_add_right _ _)) (fun b o nb e => hb.extBut b o nb e) he (.dict (hf.put (i1.mono g2.le))))
end
end
section
section
variable {W : Wd} {k : Nat} {env : Env} {Γ : List (Str × D)} {Δ : List (Str × List D)}
theorem fold_one (v : Value) (n : Nat) : List.foldl (fun (x1 x2 : Array Value) => x1 ++ x2) #[] (List.replicate n #[v]) = (List.replicate n v).toArray := by
  have key : ∀ (n : Nat) (acc : Array Value), List.foldl (fun (x1 x2 : Array Value) => x1 ++ x2) acc (List.replicate n #[v]) = acc ++ (List.replicate n v).toArray := by
    intro n
    induction n with
    | zero => intro acc; simp
    | succ n ih => intro acc; rw [List.replicate_succ, List.foldl_cons, ih, List.replicate_succ]; apply Array.ext'; simp
  rw [key]; simp
theorem ts_and2 {e1 e2 : Expr} {pos : Pos} {b1 b2 : Bool} (h1 : Ts W k env Γ Δ e1 b1) (h2 : b1 = true → Ts W k env Γ Δ e2 b2) : Ts W k env Γ Δ (.BoolOp .And [e1, e2] pos) (b1 && b2) := ts_and (by
  cases b1 with
  | false => exact .ff h1
  | true => cases b2 with
    | false => exact .tt h1 (.ff (h2 rfl))
    | true => exact .tt h1 (.tt (h2 rfl) .nil))
theorem ts_or2 {e1 e2 : Expr} {pos : Pos} {b1 b2 : Bool} (h1 : Ts W k env Γ Δ e1 b1) (h2 : b1 = false → Ts W k env Γ Δ e2 b2) : Ts W k env Γ Δ (.BoolOp .Or [e1, e2] pos) (b1 || b2) := ts_or (by
  cases b1 with
  | true => exact .tt h1
  | false => cases b2 with
    | true => exact .ff h1 (.tt (h2 rfl))
    | false => exact .ff h1 (.ff (h2 rfl) .nil))
theorem ts_or3 {e1 e2 e3 : Expr} {pos : Pos} {b1 b2 b3 : Bool} (h1 : Ts W k env Γ Δ e1 b1) (h2 : b1 = false → Ts W k env Γ Δ e2 b2) (h3 : b1 = false → b2 = false → Ts W k env Γ Δ e3 b3) : Ts W k env Γ Δ (.BoolOp .Or [e1, e2, e3] pos) (b1 || b2 || b3) := ts_or (by
  cases b1 with
  | true => exact .tt h1
  | false => cases b2 with
    | true => exact .ff h1 (.tt (h2 rfl))
    | false => cases b3 with
      | true => exact .ff h1 (.ff (h2 rfl) (.tt (h3 rfl rfl)))
      | false => exact .ff h1 (.ff (h2 rfl) (.ff (h3 rfl rfl) .nil)))
/-- [x] * n -/
theorem evn_mul1 {l r : Expr} {pos : Pos} {d : D} {n : Int} (h1 : EvL W k env Γ Δ l [d]) (h2 : Ev W k env Γ Δ r (.int n)) (hlo : 0 ≤ n) (hhi : n ≤ 16384) : EvN W k env Γ Δ (.BinOp l .Mult r pos) (List.replicate n.toNat d) := .mk fun A S P s E Q st hC hQ =>
  wpAny_BinOp (h1 A S P s E _ st hC fun a vs m P₁ s₁ g₁ tk₁ q₁ i₁ => h2 A S P₁ s₁ E _ (st.next g₁ tk₁) (hC.up (Le.refl _) g₁.le) fun y P₂ s₂ g₂ tk₂ i₂ => by
    obtain ⟨u, rfl⟩ := Is.intI i₂
    obtain ⟨v, rfl, iv⟩ := i₁.oneI
    have ho := g₂.old _ _ q₁
    refine wpAny_binaryOp_repeat_ref (T := "list") (U := "int") (by decide) ⟨_, ho, rfl⟩ (fun s' => PySem.typeIs_int s' n u) noFill_list_mul F.fills_int_mul F.slot_int_rmul repeat_list F.slot_int_index.lookup
      (call_meets F.slot_int_rmul (PySem.typeIs_int s₂ n u) F.entry_int_rmul (F.args_int_rmul_2 _ _) (lm_int_rmul_list_any n u a [v].toArray m none #[])
        ⟨ho, rfl, ⟨_, ho, rfl⟩, call_meets F.slot_list_mul ⟨_, ho, rfl⟩ F.entry_list_mul (F.args_list_mul_2 _ _)
          (lm_list_mul_any a [v].toArray m none #[] n u (by simp [Builtin.List.listFitsIndex]; omega) (by simp; omega) (by simp [Builtin.List.listTooLong, sizeLine]; omega))
          ⟨ho, ?_⟩⟩)
    have e : List.foldl (fun (x1 x2 : Array Value) => x1 ++ x2) #[] (List.replicate (if [v].toArray.isEmpty = true then 0 else n.toNat) [v].toArray) = (List.replicate n.toNat v).toArray := by
      rw [if_neg (by simp)]; exact fold_one v _
    have g12 := g₁.trans g₂
    have := hQ s₂.heap.objs.size (List.replicate n.toNat v) 0 P₂ _ (g12.trans (Gr.pushed (tk := s₂.toks) g₂.inn)) (none_of_old g12.old (Heap.get?_none_of_le (Nat.le_refl _))) (none_size g₂.inn) (Heap.get?_push_size _ rfl) (by
      have rep : ∀ j : Nat, IsAll P₂ (List.replicate j v) (List.replicate j d) := fun j => by
        induction j with
        | zero => exact .nil
        | succ j ih => exact .cons (iv.mono g₂.le) ih
      exact rep _)
    rw [← e] at this
    exact this)
end
theorem cl_len_tup {W : Wd} {k : Nat} {ds : List D} (h : ds.length < 2 ^ 62) : Cl W k (.builtin "len") [.tup ds] (.int ds.length) := fun A S P s E Q vs st i hQ => by
  obtain ⟨_, rfl, a⟩ := i.oneI; obtain ⟨t, vs, n, rfl, q, i⟩ := a.tupI
  refine PyProof.Rows.len_tuple ⟨_, st.p _ _ q, rfl, n, rfl⟩ (by rw [List.size_toArray, i.length]; omega) ?_
  rw [List.size_toArray, i.length]
  exact hQ _ P _ (Gr.toks st.p) (.int _ _)
theorem ev_item_tup {W : Wd} {k : Nat} {env : Env} {Γ : List (Str × D)} {Δ : List (Str × List D)} {value slice : Expr} {pos : Pos} {ds : List D} {d : D} {i : Int} {j : Nat} (h1 : Ev W k env Γ Δ value (.tup ds)) (h2 : Ev W k env Γ Δ slice (.int i)) (hj : seqIndex? i ds.length = some j) (hd : ds[j]? = some d) (hb : -2 ^ 62 ≤ i ∧ i < 2 ^ 62 := by decide)
    (hs : ∀ (a : Addr) (u : Tok), subscripted slice false (.ref a) (.int i u) = operate [.ref a, .int i u] (getItem (.ref a) (.int i u)) := by intro _ _; with_unfolding_all rfl) : Ev W k env Γ Δ (.Subscript value slice pos) d := .mk fun A S P s E Q st hC hQ =>
  Subscript_ (h1 A S P s E _ st hC fun v P₁ s₁ g₁ tk₁ i₁ => h2 A S P₁ s₁ E _ (st.next g₁ tk₁) (hC.up (Le.refl _) g₁.le) fun u P₂ s₂ g₂ tk₂ i₂ => by
    obtain ⟨t, rfl⟩ := Is.intI i₂
    obtain ⟨a, vs, n, rfl, q₁, i₁⟩ := i₁.tupI
    have i₁' := i₁.mono g₂.le
    obtain ⟨v, hv, hi⟩ := i₁'.get hd
    exact item_tupleT ⟨_, g₂.inn _ _ (g₂.le _ _ q₁), rfl, n, rfl⟩ (by omega) (by omega) (by rw [i₁.length]; exact hj) hv (hQ _ P₂ _ (g₁.trans g₂) hi) (hs _ _))
/-- a class is called: a new object, then its __init__ -/
theorem cl_make {W : Wd} {k : Nat} {C f : Addr} {ds : List D} {fs : List (Str × D)} (hm : makesIn W.K C = true) (hi : findIn W.K (.ref C) "__init__" = some (some (.ref f))) (hf : typeIn W.K (.ref f) = some (.type "function"))
    (hc : ∀ x dx, KlM W k (.ref f) (.inst x C dx :: ds) .none [(dx, .dict [])] [(dx, .dict fs)]) : Cl W (k + 1) (.ref C) ds (.obj C fs) := fun A S P s E Q vs st i hQ => by
  have X := Bs.frag st.b st.p
  obtain ⟨hh, g, d, t, os⟩ := s
  refine wpAny_call (make_core (makes_of X hm) (looks_findIn X hi) (fun self => bind_fn X self hf) (.inl rfl) ?_)
  have hs1 : (hh.push emptyDict).objs.size = hh.objs.size + 1 := Heap.size_push ..
  have k1 : ∀ b o, hh.get? b = some o → ((hh.push emptyDict).push (instObj C hh.objs.size)).get? b = some o := fun b o e => Heap.get?_push_of_some _ (Heap.get?_push_of_some _ e)
  have hx : ((hh.push emptyDict).push (instObj C hh.objs.size)).get? (hh.objs.size + 1) = some (instObj C hh.objs.size) := by
    have := Heap.get?_push_size (hh.push emptyDict) (o := instObj C hh.objs.size) rfl
    rwa [hs1] at this
  have hd : ((hh.push emptyDict).push (instObj C hh.objs.size)).get? hh.objs.size = some emptyDict := Heap.get?_push_of_some _ (Heap.get?_push_size _ rfl)
  have f0 : hh.get? hh.objs.size = none := Heap.get?_none_of_le (Nat.le_refl _)
  have f1 : hh.get? (hh.objs.size + 1) = none := Heap.get?_none_of_le (Nat.le_succ _)
  have pn : ∀ b, hh.get? b = none → P b = none := fun b e => by
    cases q : P b with
    | none => rfl
    | some o => have := st.p _ _ q; rw [show (Shared.heap ⟨hh, g, d, t, os⟩) = hh from rfl, e] at this; cases this
  have inn1 : In (addV P (hh.objs.size + 1) (instObj C hh.objs.size)) ((hh.push emptyDict).push (instObj C hh.objs.size)) := addV_in (fun b o e => k1 b o (st.p _ _ e)) hx
  have le1 : Le P (addV P (hh.objs.size + 1) (instObj C hh.objs.size)) := addV_le (pn _ f1)
  have hne : hh.objs.size ≠ hh.objs.size + 1 := Nat.ne_of_lt (Nat.lt_succ_self _)
  have st1 : St W k (A.under (.builtin "type.__call__" ⟨.ref C :: vs, []⟩)) S (addV P (hh.objs.size + 1) (instObj C hh.objs.size)) ⟨(hh.push emptyDict).push (instObj C hh.objs.size), g, d, t, os⟩ := by
    refine ⟨⟨st.a.1, ?_, ?_⟩, st.b.up le1, fun b o e => k1 b o (st.sv _ _ e), inn1, st.tk, fun p hp => (st.rw p hp).imp fun o hh => ⟨hh.1, hh.2.mono le1⟩⟩
    · have h1 := st.a.2.1
      have h2 : (Code.builtin "type.__call__" ⟨Value.ref C :: vs, []⟩).weight = 1 := by with_unfolding_all rfl
      show A.depth + (Code.builtin "type.__call__" ⟨Value.ref C :: vs, []⟩).weight + k < _
      rw [h2]; exact ar_depth h1
    · have h1 := st.a.2.2
      have h2 : (Code.builtin "type.__call__" ⟨Value.ref C :: vs, []⟩).cUnits = 1 := by with_unfolding_all rfl
      show A.units + (Code.builtin "type.__call__" ⟨Value.ref C :: vs, []⟩).cUnits + 8 * k + 64 < _
      rw [h2]; exact ar_units (by decide) h1
  refine hc (hh.objs.size + 1) hh.objs.size _ S _ _ _ (.ref (hh.objs.size + 1) :: vs) st1 (.cons (.inst addV_at) (i.mono le1)) ⟨fun p hp => ?_, by simp [ads], fun p hp => ?_⟩ fun v P' s' g' tk' dv' i' => ?_
  · cases List.mem_singleton.mp hp
    exact ⟨_, hd, .dict (es := []) (n := 0) .nil⟩
  · cases List.mem_singleton.mp hp
    show addV P (hh.objs.size + 1) (instObj C hh.objs.size) hh.objs.size = none
    rw [addV_ne hne]; exact pn _ f0
  · obtain rfl := i'.noneI
    refine ⟨rfl, ?_⟩
    obtain ⟨o, ho, hi'⟩ := dv'.has _ List.mem_cons_self
    obtain ⟨es, n, rfl, hfs⟩ := hi'.dictI
    have hP' := dv'.off _ List.mem_cons_self
    have hle := addV_le (o := dictOf es n) hP'
    refine hQ _ (addV P' hh.objs.size (dictOf es n)) s' ⟨(le1.trans g'.le).trans hle, addV_in g'.inn ho, fun b o e => ?_, fun b o e => ?_, g'.gens, g'.drawn, g'.os⟩ (.obj (hle _ _ (g'.le _ _ addV_at)) addV_at (hfs.mono hle))
    · refine g'.old b o (fun hb => ?_) (k1 b o e)
      rw [List.mem_singleton.mp hb] at e
      rw [show (Shared.heap ⟨hh, g, d, t, os⟩) = hh from rfl] at e
      have e' : hh.get? hh.objs.size = some o := e
      rw [f0] at e'; cases e'
    · by_cases hb : b = hh.objs.size
      · subst hb; exact .inr f0
      · rw [addV_ne hb] at e
        rcases g'.new b o e with z | z
        · by_cases hb1 : b = hh.objs.size + 1
          · subst hb1; exact .inr f1
          · rw [addV_ne hb1] at z; exact .inl z
        · exact .inr (none_of_old k1 z)
end
section
section
variable {W : Wd} {k : Nat} {env : Env} {Γ : List (Str × D)} {Δ : List (Str × List D)}
theorem fm_some {α : Type} : ∀ l : List α, (l.map some).filterMap id = l
  | [] => rfl
  | a :: r => by simp [fm_some r]
/-- [elt for x in iter] -/
theorem evn_for {elt iter : Expr} {x : Str} {px : Pos} {scope : Scope} {pos : Pos} {cl : List (Str × Addr)} {its ds : List D} {b : Bool} (Γ' : List (Str × D)) (Δ' : List (Str × List D))
    (hI : EvI W k env Γ Δ b iter its) (hlen : ds.length = its.length)
    (helt : ∀ (C : Addr) (i : Nat) (d d' : D), its[i]? = some d → ds[i]? = some d' → Ev W k (compEnvC scope cl C env) ((x, d) :: Γ') Δ' elt d')
    (hΓ : ∀ p ∈ Γ', p ∈ Γ := by trivial) (hΔ : ∀ p ∈ Δ', p ∈ Δ := by trivial)
    (hclos : closureFor scope env = pure cl := by rfl) (hthru : Thru env scope cl (Γ'.map (·.1) ++ Δ'.map (·.1)) := by repeat (first | exact True.intro | refine And.intro ⟨by first | exact .inl rfl | exact .inr rfl, by first | exact .inl rfl | exact .inr rfl, rfl⟩ ?_))
    (hcell : ∀ y ∈ scope.names, y.2 ≠ .cell := by decide) (hkind : scope.kind = .function := by rfl)
    (hnames : ∀ y ∈ scope.names, y.2 = .local → scope.names.lookup y.1 = some .local := by decide) (hx : scope.names.lookup x = some .local := by rfl)
    (hsz : Nat.ble its.length 16384 = true := by rfl)
    (hs : ∀ v, foldedSetIterable iter env v = pure v := by intro _; rfl) :
    EvN W k env Γ Δ (.ListComp elt [⟨.Name x px, iter, [], 0⟩] scope pos) ds := by
  have := evn_comp (res := ds.map some) (pos := pos) (px := px) hI (by rw [List.length_map]; exact hlen) (fun C i d r h1 h2 => by
    rw [List.getElem?_map] at h2
    obtain ⟨d', h3, rfl⟩ := Option.map_eq_some_iff.mp h2
    exact ⟨.nil, helt C i d d' h1 h3⟩) hΓ hΔ hthru hclos hcell hkind hnames hx (Nat.le_trans (Nat.le_of_ble_eq_true hsz) (by decide)) hs
  rwa [fm_some] at this
/-- [elt for x in iter if test] -/
theorem evn_forif {elt iter test : Expr} {x : Str} {px : Pos} {scope : Scope} {pos : Pos} {cl : List (Str × Addr)} {its : List D} {b : Bool} (Γ' : List (Str × D)) (Δ' : List (Str × List D)) (p : D → Bool) (f : D → D)
    (hI : EvI W k env Γ Δ b iter its)
    (ht : ∀ (C : Addr) (d : D), d ∈ its → Ts W k (compEnvC scope cl C env) ((x, d) :: Γ') Δ' test (p d))
    (helt : ∀ (C : Addr) (d : D), d ∈ its → p d = true → Ev W k (compEnvC scope cl C env) ((x, d) :: Γ') Δ' elt (f d))
    (hΓ : ∀ p ∈ Γ', p ∈ Γ := by trivial) (hΔ : ∀ p ∈ Δ', p ∈ Δ := by trivial)
    (hclos : closureFor scope env = pure cl := by rfl) (hthru : Thru env scope cl (Γ'.map (·.1) ++ Δ'.map (·.1)) := by repeat (first | exact True.intro | refine And.intro ⟨by first | exact .inl rfl | exact .inr rfl, by first | exact .inl rfl | exact .inr rfl, rfl⟩ ?_))
    (hcell : ∀ y ∈ scope.names, y.2 ≠ .cell := by decide) (hkind : scope.kind = .function := by rfl)
    (hnames : ∀ y ∈ scope.names, y.2 = .local → scope.names.lookup y.1 = some .local := by decide) (hx : scope.names.lookup x = some .local := by rfl)
    (hsz : Nat.ble its.length 16384 = true := by rfl)
    (hs : ∀ v, foldedSetIterable iter env v = pure v := by intro _; rfl) :
    EvN W k env Γ Δ (.ListComp elt [⟨.Name x px, iter, [test], 0⟩] scope pos) ((its.filter p).map f) := by
  have := evn_comp (res := its.map fun d => if p d then some (f d) else none) (pos := pos) (px := px) hI (List.length_map ..) (fun C i d r h1 h2 => by
    rw [List.getElem?_map, h1] at h2
    have hm := List.mem_of_getElem? h1
    cases h2
    cases hp : p d with
    | true =>
      have : CompItem W k (compEnvC scope cl C env) ((x, d) :: Γ') Δ' [test] elt (some (f d)) := ⟨.tt (hp ▸ ht C d hm) .nil, helt C d hm hp⟩
      simpa [hp] using this
    | false =>
      have : CompItem W k (compEnvC scope cl C env) ((x, d) :: Γ') Δ' [test] elt none := .ff (hp ▸ ht C d hm)
      simpa [hp] using this) hΓ hΔ hthru hclos hcell hkind hnames hx (Nat.le_trans (Nat.le_of_ble_eq_true hsz) (by decide)) hs
  have e : (its.map fun d => if p d then some (f d) else none).filterMap id = (its.filter p).map f := by
    clear this hsz helt ht hI
    induction its with
    | nil => rfl
    | cons a r ih =>
      rw [List.map_cons, List.filterMap_cons, List.filter_cons]
      cases hp : p a <;> simp [ih]
  rwa [e] at this
end
section
variable {W : Wd} {k : Nat} {A : Around} {env : Env} {s₀ : Shared} {P₀ H : Vw} {Γ : List (Str × D)} {Δ : List (Str × List D)} {Mx : List (Addr × MO)} {P : Vw} {s : Shared} {E : Value → Shared → Prop} {Q : Flow → Shared → Prop}
/-- a value at hand goes into xs[i] -/
theorem At.putItem {Q : Unit → Shared → Prop} {x : Str} {xp p : Pos} {ie : Expr} {ds : List D} {d : D} {v : Value} {i : Int} (X : At W k A env s₀ P₀ H Γ ((x, ds) :: Δ) Mx P s) (i1 : Is P v d) (hi : Ev (W.at Mx) k env Γ ((x, ds) :: Δ) ie (.int i)) (h0 : 0 ≤ i) (h1 : i < ds.length) (hb : i < 2 ^ 63)
    (next : ∀ P' s', Le P P' → At W k A env s₀ P₀ H Γ ((x, ds.set i.toNat d) :: Δ) Mx P' s' → Q () s')
    (hd : (x == ("__debug__" : Str)) = false := by decide) (hn : (x == ("__classdict__" : Str)) = false := by decide) : wpAny W.M A (assign (.Subscript (.Name x xp) ie p) env v) Q E s := by
  rw [assign_Subscript]
  obtain ⟨m, cv, ad, y, hnn⟩ := X.mnew
  obtain ⟨vs, n, e1, q, iv⟩ := y.muts _ List.mem_cons_self
  refine wpAny_bind (wpAny_holding (name_read X.fn X.st.sv (y.nameOk e1) ?_ hd hn))
  refine wpAny_bind (wpAny_holding (hi A _ P s E _ X.st X.cx fun w P2 s2 g2 tk2 i2 => ?_))
  obtain ⟨t, rfl⟩ := Is.intI i2
  have y2 := y.gr g2
  have hlen : vs.toArray.size = ds.length := by rw [List.size_toArray, iv.length]
  have ho := g2.old _ _ q
  have er : ∀ {vs : List Value} {ds : List D} {j : Nat}, IsAll P2 vs ds → IsAll P2 (vs.set j v) (ds.set j d) := by
    intro vs
    induction vs with
    | nil => intro ds j h; cases h; simpa using IsAll.nil
    | cons v vs ih =>
      intro ds j h
      cases h with | cons a b =>
      cases j with
      | zero => exact .cons (i1.mono g2.le) b
      | succ j => exact .cons a (ih b)
  refine wpAny_bind (wpAny_standAt (wpAny_bind (wpAny_holding (PySem.W.ki_setAt ho h0 hb (by rw [hlen]; exact h1) (wpAny_release ?_)))))
  have ho' := Heap.get?_update_self (Obj.mapSeq (·.setIfInBounds i.toNat v)) ho (by simp [PySem.W.listOf, Obj.mapSeq, Obj.isFreed])
  refine next P2 _ g2.le ((X.gr g2 tk2).turn (vs' := vs.set i.toNat v) (n' := n) (tk' := s2.toks) y2 hnn tk2 (fun b o nb e => (Heap.SameBut.update ..).extBut b o nb e) (ho'.trans ?_) (er (iv.mono g2.le)))
  simp [PySem.W.listOf, Obj.mapSeq]
/-- xs[i], xs[j] = (.., ..) -/
theorem s_swap {x : Str} {xp p xp' p' tp pos : Pos} {kk : Nat} {ie je e : Expr} {rest : List Stmt} {ds : List D} {d1 d2 : D} {i j : Int} (X : At W k A env s₀ P₀ H Γ ((x, ds) :: Δ) Mx P s) (hv : Ev (W.at Mx) k env Γ ((x, ds) :: Δ) e (.tup [d1, d2]))
    (hi : Ev (W.at Mx) k env Γ ((x, ds) :: Δ) ie (.int i)) (hj : Ev (W.at Mx) k env Γ ((x, ds.set i.toNat d1) :: Δ) je (.int j)) (h0 : 0 ≤ i ∧ i < ds.length ∧ i < 2 ^ 63) (h1 : 0 ≤ j ∧ j < ds.length ∧ j < 2 ^ 63)
    (next : ∀ P' s', At W k A env s₀ P₀ H Γ ((x, (ds.set i.toNat d1).set j.toNat d2) :: Δ) Mx P' s' → wpAny W.M A (execs rest env) Q E s')
    (hd : (x == ("__debug__" : Str)) = false := by decide) (hn : (x == ("__classdict__" : Str)) = false := by decide)
    (hs : swapsWithSole [.Tuple [.Subscript (.Name x xp) ie p, .Subscript (.Name x xp') je p'] kk tp] e pos.line env = pure false := by rfl)
    (hw : swappedStores [.Tuple [.Subscript (.Name x xp) ie p, .Subscript (.Name x xp') je p'] kk tp] e env = pure none := by rfl) :
    wpAny W.M A (execs (.Assign [.Tuple [.Subscript (.Name x xp) ie p, .Subscript (.Name x xp') je p'] kk tp] e pos :: rest) env) Q E s := by
  refine wpAny_execs_cons (Assign_Tuple (hv A _ P s E _ X.st X.cx fun v P' s' g tk iv => ?_) hs hw)
  have X' := X.gr g tk
  obtain ⟨t, v1, v2, n, rfl, q, i1, i2⟩ := tup2 iv
  refine wpAny_assign_Tuple X.a.1 ⟨_, g.inn _ _ q, rfl, n, rfl⟩ rfl rfl fun h' hk => ?_
  have X2 := X'.same (ext_keep hk) tk
  refine assignInOrder_cons (X2.putItem i1 hi h0.1 h0.2.1 h0.2.2 (fun P3 s3 l3 X3 => assignInOrder_cons (X3.putItem (i2.mono l3) hj h1.1 (by rw [List.length_set]; exact h1.2.1) h1.2.2 (fun P4 s4 l4 X4 => assignInOrder_nil (next P4 s4 X4)) hd hn)) hd hn)
/-- y = [elt for x in iter], y a local name: data (mu = false), or a list that turns -/
theorem s_forC {x y : Str} {px p pos cpos : Pos} {elt iter : Expr} {scope : Scope} {rest : List Stmt} {cl : List (Str × Addr)} {its ds : List D} {b : Bool} (mu : Bool) (Γ' : List (Str × D)) (Δ' : List (Str × List D))
    (X : At W k A env s₀ P₀ H Γ Δ Mx P s) (hI : EvI (W.at Mx) k env Γ Δ b iter its) (hlen : ds.length = its.length)
    (helt : ∀ (C : Addr) (i : Nat) (d d' : D), its[i]? = some d → ds[i]? = some d' → Ev (W.at Mx) k (compEnvC scope cl C env) ((x, d) :: Γ') Δ' elt d')
    (hb : Bindable env y) (hyΓ : ∀ p ∈ Γ, p.1 ≠ y) (hyΔ : ∀ p ∈ Δ, p.1 ≠ y)
    (next : ∀ P' s', At W k A env s₀ P₀ H (if mu then Γ else (y, .list ds) :: Γ) (if mu then (y, ds) :: Δ else Δ) Mx P' s' → wpAny W.M A (execs rest env) Q E s')
    (hΓ : ∀ p ∈ Γ', p ∈ Γ := by trivial) (hΔ : ∀ p ∈ Δ', p ∈ Δ := by trivial)
    (hclos : closureFor scope env = pure cl := by rfl) (hthru : Thru env scope cl (Γ'.map (·.1) ++ Δ'.map (·.1)) := by repeat (first | exact True.intro | refine And.intro ⟨by first | exact .inl rfl | exact .inr rfl, by first | exact .inl rfl | exact .inr rfl, rfl⟩ ?_))
    (hcell : ∀ y ∈ scope.names, y.2 ≠ .cell := by decide) (hkind : scope.kind = .function := by rfl)
    (hnames : ∀ y ∈ scope.names, y.2 = .local → scope.names.lookup y.1 = some .local := by decide) (hx : scope.names.lookup x = some .local := by rfl)
    (hsz : Nat.ble its.length 16384 = true := by rfl)
    (hsw : swapsWith (.ListComp elt [⟨.Name x px, iter, [], 0⟩] scope cpos) (some (.Name y p)) pos.line env = pure true := by rfl)
    (hs : ∀ v, foldedSetIterable iter env v = pure v := by intro _; rfl) :
    wpAny W.M A (execs (.Assign [.Name y p] (.ListComp elt [⟨.Name x px, iter, [], 0⟩] scope cpos) pos :: rest) env) Q E s := by
  refine s_assignC (mu := mu) (res := ds.map some) X hI (by rw [List.length_map]; exact hlen) (fun C i d r h1 h2 => ?_) hΓ hΔ hthru hclos hcell hkind hnames hx (Nat.le_trans (Nat.le_of_ble_eq_true hsz) (by decide)) hb hyΓ hyΔ (by rw [fm_some]; exact next) hsw hs
  rw [List.getElem?_map] at h2
  obtain ⟨d', h3, rfl⟩ := Option.map_eq_some_iff.mp h2
  exact ⟨.nil, helt C i d d' h1 h3⟩
theorem fm_if {p : D → Bool} {f : D → D} : ∀ its : List D, (its.map fun d => if p d then some (f d) else none).filterMap id = (its.filter p).map f
  | [] => rfl
  | a :: r => by
    rw [List.map_cons, List.filterMap_cons, List.filter_cons]
    cases hp : p a <;> simp [fm_if r]
theorem s_forifC {x y : Str} {px p pos cpos : Pos} {elt iter test : Expr} {scope : Scope} {rest : List Stmt} {cl : List (Str × Addr)} {its : List D} {b : Bool} (mu : Bool) (Γ' : List (Str × D)) (Δ' : List (Str × List D)) (pp : D → Bool) (f : D → D)
    (X : At W k A env s₀ P₀ H Γ Δ Mx P s) (hI : EvI (W.at Mx) k env Γ Δ b iter its)
    (ht : ∀ (C : Addr) (d : D), d ∈ its → Ts (W.at Mx) k (compEnvC scope cl C env) ((x, d) :: Γ') Δ' test (pp d))
    (helt : ∀ (C : Addr) (d : D), d ∈ its → pp d = true → Ev (W.at Mx) k (compEnvC scope cl C env) ((x, d) :: Γ') Δ' elt (f d))
    (hb : Bindable env y) (hyΓ : ∀ p ∈ Γ, p.1 ≠ y) (hyΔ : ∀ p ∈ Δ, p.1 ≠ y)
    (next : ∀ P' s', At W k A env s₀ P₀ H (if mu then Γ else (y, .list ((its.filter pp).map f)) :: Γ) (if mu then (y, (its.filter pp).map f) :: Δ else Δ) Mx P' s' → wpAny W.M A (execs rest env) Q E s')
    (hΓ : ∀ p ∈ Γ', p ∈ Γ := by trivial) (hΔ : ∀ p ∈ Δ', p ∈ Δ := by trivial)
    (hclos : closureFor scope env = pure cl := by rfl) (hthru : Thru env scope cl (Γ'.map (·.1) ++ Δ'.map (·.1)) := by repeat (first | exact True.intro | refine And.intro ⟨by first | exact .inl rfl | exact .inr rfl, by first | exact .inl rfl | exact .inr rfl, rfl⟩ ?_))
    (hcell : ∀ y ∈ scope.names, y.2 ≠ .cell := by decide) (hkind : scope.kind = .function := by rfl)
    (hnames : ∀ y ∈ scope.names, y.2 = .local → scope.names.lookup y.1 = some .local := by decide) (hx : scope.names.lookup x = some .local := by rfl)
    (hsz : Nat.ble its.length 16384 = true := by rfl)
    (hsw : swapsWith (.ListComp elt [⟨.Name x px, iter, [test], 0⟩] scope cpos) (some (.Name y p)) pos.line env = pure true := by rfl)
    (hs : ∀ v, foldedSetIterable iter env v = pure v := by intro _; rfl) :
    wpAny W.M A (execs (.Assign [.Name y p] (.ListComp elt [⟨.Name x px, iter, [test], 0⟩] scope cpos) pos :: rest) env) Q E s := by
  refine s_assignC (mu := mu) (res := its.map fun d => if pp d then some (f d) else none) X hI (List.length_map ..) (fun C i d r h1 h2 => ?_) hΓ hΔ hthru hclos hcell hkind hnames hx (Nat.le_trans (Nat.le_of_ble_eq_true hsz) (by decide)) hb hyΓ hyΔ (by rw [fm_if]; exact next) hsw hs
  rw [List.getElem?_map, h1] at h2
  have hm := List.mem_of_getElem? h1
  cases h2
  cases hp : pp d with
  | true =>
    have : CompItem (W.at Mx) k (compEnvC scope cl C env) ((x, d) :: Γ') Δ' [test] elt (some (f d)) := ⟨.tt (hp ▸ ht C d hm) .nil, helt C d hm hp⟩
    simpa [hp] using this
  | false =>
    have : CompItem (W.at Mx) k (compEnvC scope cl C env) ((x, d) :: Γ') Δ' [test] elt none := .ff (hp ▸ ht C d hm)
    simpa [hp] using this
end
end
section
section
variable {M : Model} {A : Around} {R : GenEnd} {Y : Protocol} {n : Nat} {s₀ : Shared} {c : Code} {fs : List Frame} {s : Shared} {env : Env}
  {K : Flow → Sem Fin} {H : Value → Sem Fin} {gd : Bool → Bool} {lv : List Value → List Value}
/-- a statement that does not yield -/
theorem seg_stmt {st : Stmt} (h : wpAny M (A.over c fs) (exec st env) (fun f s' => Seg M A R Y n s₀ c (K f) fs s') (fun x s' => Seg M A R Y n s₀ c (H x) fs s') s) : Seg M A R Y n s₀ c ((exec st env).wrap K H gd lv) fs s := seg_wrap h
theorem seg_If {test : Expr} {body orelse : List Stmt} {pos : Pos}
    (h : wpAny M (A.over c fs) (isTrue test env (eval test env)) (fun b s' => Seg M A R Y n s₀ c ((execs (if b then body else orelse) env).wrap K H gd lv) fs s') (fun x s' => Seg M A R Y n s₀ c (H x) fs s') s) :
    Seg M A R Y n s₀ c ((exec (.If test body orelse pos) env).wrap K H gd lv) fs s := by
  rw [exec_If]
  show Seg M A R Y n s₀ c (.at pos fun _ => ((isTrue test env (eval test env) >>= fun b => if b then execs body env else execs orelse env)).wrap K H gd lv) fs s
  refine seg_at ?_
  rw [Sem.bind_eq_wrap', Sem.wrap_wrap]
  refine seg_wrap (wpAny_mono h (fun b s' hb => ?_) fun _ _ x => x)
  cases b <;> exact hb
noncomputable def forRet (env : Env) (K : Flow → Sem Fin) (H : Value → Sem Fin) (gd : Bool → Bool) (lv : List Value → List Value) : Result → Sem Fin := fun r => ((match r with | .ok f => (.pure f : Sem Flow) | .error e => .raise e).onRaise fun (x : Value) => do
        if (← field x 1) == Value.none then unsupported "frame.own-activation:exception-without-traceback"
        setFlight x env.frame).wrap K H gd lv
theorem seg_For {target iter : Expr} {body orelse : List Stmt} {pos : Pos}
    (h : wpAny M (A.over c fs) (eval iter env) (fun x s₁ => wpAny M (A.over c fs) (pyIter x) (fun it s₂ => ∀ p, Seg M A R Y n s₀ (.forLoop target it body orelse env) (M.den (.forLoop target it body orelse env)) (.ret (forRet env K H gd lv) none (gd false) (lv []) c p [] :: fs) s₂) (fun x s' => Seg M A R Y n s₀ c (H x) fs s') s₁) (fun x s' => Seg M A R Y n s₀ c (H x) fs s') s)
    (hs : ∀ x, foldedSetIterable iter env x = pure x := by intro _; rfl) :
    Seg M A R Y n s₀ c ((exec (.For target iter body orelse pos) env).wrap K H gd lv) fs s := by
  rw [exec_For]
  show Seg M A R Y n s₀ c (.at pos fun _ => ((eval iter env >>= fun v => foldedSetIterable iter env v >>= fun x => (standAt iter.pos >>= fun _ => holding [x] (pyIter x) >>= fun it => runOwn (.forLoop target it body orelse env) env))).wrap K H gd lv) fs s
  refine seg_at ?_
  rw [Sem.bind_eq_wrap', Sem.wrap_wrap]
  refine seg_wrap (wpAny_mono h (fun x s₁ h₁ => ?_) fun _ _ x => x)
  rw [hs, pure_bind]
  show Seg M A R Y n s₀ c (.at iter.pos fun _ => ((holding [x] (pyIter x) >>= fun it => runOwn (.forLoop target it body orelse env) env)).wrap K H gd lv) fs s₁
  refine seg_at ?_
  rw [Sem.bind_eq_wrap', Sem.wrap_wrap]
  refine seg_wrap (wpAny_holding (wpAny_mono h₁ (fun it s₂ h₂ => ?_) fun _ _ x => x))
  exact seg_call h₂
end
section
variable {prog : Program} {w : World} {A : Around} {R : GenEnd} {Y : Protocol} {n : Nat} {s₀ : Shared} {fs : List Frame} {s : Shared} {env : Env}
noncomputable abbrev loopH (env : Env) : Value → Sem Fin := fun e => (do noteFrame e env; theTreesLotGoes e : Sem Unit).wrap (fun _ => .raise e) .raise id id
theorem seg_forLoop {target : Expr} {it : Value} {body : List Stmt}
    (h : wpAny (model prog w) (A.over (.forLoop target it body [] env) fs) (pyNext it) (fun r s' => match r with
      | none => Seg (model prog w) A R Y n s₀ (.block [] env) ((model prog w).den (.block [] env)) fs s'
      | some v => wpAny (model prog w) (A.over (.forLoop target it body [] env) fs) (letOwnedTupleGo target it v) (fun _ s₁ => wpAny (model prog w) (A.over (.forLoop target it body [] env) fs) (assign target env v) (fun _ s₂ =>
          Seg (model prog w) A R Y n s₀ (.forLoop target it body [] env) ((execs body env).wrap (fun f => match f with
            | .next | .cont => .pure (.again (.forLoop target it body [] env))
            | .brk => .pure (.done .next)
            | .ret v => .pure (.done (.ret v))) (loopH env) id id) fs s₂) (fun _ _ => False) s₁) (fun _ _ => False) s')
      (fun _ _ => False) s) :
    Seg (model prog w) A R Y n s₀ (.forLoop target it body [] env) ((model prog w).den (.forLoop target it body [] env)) fs s := by
  show Seg _ A R Y n s₀ _ ((forTurn target it body [] env).onRaise (fun x => do noteFrame x env; theTreesLotGoes x)) fs s
  unfold forTurn
  rw [Sem.onRaise_eq_wrap]
  show Seg _ A R Y n s₀ _ (.at target.pos fun _ => ((pyNext it).onRaise (fun _ => standAt { target.pos with line := 0 }) >>= _).wrap _ _ _ _) fs s
  refine seg_at ?_
  rw [Sem.bind_eq_wrap', Sem.wrap_wrap]
  refine seg_wrap (wpAny_onRaise (wpAny_mono h (fun r s' hr => ?_) fun _ _ x => x.elim))
  cases r with
  | none => exact seg_again rfl hr
  | some v =>
    dsimp only
    rw [Sem.bind_eq_wrap', Sem.wrap_wrap]
    refine seg_wrap (wpAny_mono hr (fun _ s₁ h₁ => ?_) fun _ _ x => x.elim)
    rw [Sem.bind_eq_wrap', Sem.wrap_wrap]
    refine seg_wrap (wpAny_mono h₁ (fun _ s₂ h₂ => ?_) fun _ _ x => x.elim)
    rw [Sem.bind_eq_wrap', Sem.wrap_wrap]
    rw [Sem.wrap_congr (execs body env) _ _ (K' := fun f => match f with
            | .next | .cont => .pure (.again (.forLoop target it body [] env))
            | .brk => .pure (.done .next)
            | .ret v => .pure (.done (.ret v))) (H' := loopH env)
        (fun f => by cases f <;> rfl)
        (fun e => by first | exact Sem.bind_eq_wrap _ _ | (show (do noteFrame e env; theTreesLotGoes e : Sem Unit).bind (fun _ => .raise e) = _; rw [Sem.bind_eq_wrap]))]
    exact h₂
end
end
section
section
variable {prog : Program} {w : World} {A : Around} {E : Value → Shared → Prop} {s : Shared}
/-- the next item of a generator that a def made; its new state is bare -/
theorem gen_next {a : Addr} {g n : Nat} {gs : GenState} {Pe : Nat → Shared → Shared → Prop} {Y : Protocol} {Q : Option Value → Shared → Prop} (hh : A.handled = none)
    (hl : s.heap.NoLimit) (hroom : A.depth < recursionLimit) (hg : s.heap.IsGen a g) (hgs : s.gens[g]? = some gs)
    (hgo : gs.Goes (model prog w) A.in1 (fun n s₀ r s₁ => r = .ok (.ret .none) ∧ Pe n s₀ s₁) Y n (.send .none) (s.setGen g .running))
    (hY : ∀ v s₁ gs', gs'.bare = true → Y (n - 1) (s.setGen g .running) v s₁ (fun r' s'' => match n with
        | 0 => False
        | m + 1 => gs'.Goes (model prog w) A.in1 (fun n s₀ r s₁ => r = .ok (.ret .none) ∧ Pe n s₀ s₁) Y m r' s'') → Q (some v) (s₁.setGen g gs'))
    (hP : ∀ s₁, Pe n (s.setGen g .running) s₁ → ∀ h', (∀ b o, s₁.heap.get? b = some o → h'.get? b = some o) → Q none { s₁.setGen g .finished with heap := h' }) :
    wpAny (model prog w) A (pyNext (.ref a)) Q E s := by
  unfold pyNext
  refine wpAny_bind (wpAny_attempt (wpAny_callSpecial?_slot (name := Str.ofString "__next__") hg.typeIs slot_gen_next (wpAny_call_entry slot_gen_next hg.typeIs entry_gen_next ?_ (args_gen_next _))))
  show wpAny _ A.in1 (Builtin.Generator.genWake (.ref a) (.send .none)) _ _ s
  unfold Builtin.Generator.genWake
  refine wpAny_bind (wpAny_holding (wpAny_genNumber hg (wpAny_bind (wpAny_genState hgs ?_))))
  have fin : ∀ {x : Result} {s₁ : Shared}, (x = .ok (.ret .none) ∧ Pe n (s.setGen g .running) s₁) → x = .ok (.ret .none) ∧ Pe n (s.setGen g .running) s₁ := id
  cases gs with
  | running => exact hgo.elim
  | finished => exact hgo.elim
  | _ =>
    refine wpAny_bind (wpAny_roomToWake hl hroom ?_)
    show wpAny _ A.in1 (.resume g (.send .none) [] _) _ _ s
    refine wpAny_resumeQ hgs hgo (fun x s₁ hx => ?_) (fun v s₁ gs' hb hv => wpAny_pure ⟨v, rfl, wpAny_pure (hY v s₁ gs' hb hv)⟩)
    obtain ⟨rfl, hp⟩ := hx
    show wpAny _ A.in1 (newExc (.type "StopIteration") [] >>= _) _ _ _
    refine wpAny_bind ?_
    simp only [newExc, newTuple]
    refine wpAny_bind (wpAny_newObj_type ?_ (by size_fits))
    refine wpAny_bind (m := firstArgMember _ _) (wpAny_of_eq (a := Value.none) (by first | rfl | (simp only [firstArgMember]; rfl)) ?_)
    refine wpAny_newObj_type ?_ (by size_fits)
    refine wpAny_bind (wpAny_bind (wpAny_handled ?_))
    first | rw [show A.in1.handled = none from hh] | rw [hh]
    refine wpAny_throw ?_
    refine wpAny_bind (wpAny_isInstance (T := "StopIteration") (b := true) ⟨_, Heap.get?_push_size _ rfl, rfl⟩ isSubtype_stop ?_)
    exact wpAny_pure (hP s₁ hp _ fun b o hb => Heap.get?_push_of_some _ (Heap.get?_push_of_some _ hb))
end
noncomputable def flatD : D → Bool
  | .none | .bool _ | .int _ | .str _ => true
  | _ => false
theorem Is.flat {P P' : Vw} {v : Value} {d : D} (h : flatD d = true) (i : Is P v d) : Is P' v d := by
  exact Is.casesOn (motive_1 := fun v d _ => flatD d = true → Is P' v d) i (fun _ => .none) (fun b _ => .bool b) (fun i t _ => .int i t) (fun x t _ => .str x t) (fun _ _ h => nomatch h) (fun _ _ h => nomatch h) (fun _ h => nomatch h) (fun _ h => nomatch h) (fun _ h => nomatch h) (fun _ _ _ h => nomatch h) h
noncomputable def objM : MO → Bool
  | .obj _ => true
  | _ => false
section
variable {W : Wd} {k : Nat} {A A' : Around} {env : Env} {s₀ s₃ : Shared} {P₀ H Pb : Vw} {Γ : List (Str × D)} {Mx : List (Addr × MO)} {P : Vw} {s : Shared}
/-- a frame without cells goes on in a later state in which its own objects stand as they stood -/
theorem At.wake (X : At W k A env s₀ P₀ H Γ [] Mx P s) (hc : env.cells = []) (hΓ : ∀ p ∈ Γ, flatD p.2 = true) (hM : ∀ p ∈ Mx, objM p.2 = true) (a : AOk k A') (b : W.B Pb) (inn : In Pb s₃.heap) (tk : 1 ≤ s₃.toks)
    (same : ∀ c ∈ env.locals :: ads Mx, s₃.heap.get? c = s.heap.get? c) (off : ∀ c ∈ env.locals :: ads Mx, Pb c = none) : At W k A' env s₃ Pb (offX (env.locals :: ads Mx) s₃.heap) Γ [] Mx Pb s₃ := by
  obtain ⟨m, cv, ad, y, _⟩ := X.mnew
  have own : ownOf env [] ad Mx = env.locals :: ads Mx := by unfold ownOf; rw [hc]; rfl
  refine ⟨a, b, tk, X.fn, X.gl, X.bi, Le.refl _, inn, offX_in, fun _ _ e => .inl e, fun _ _ e => .inl e, fun b o e => ⟨o, e⟩, ⟨m, cv, ad, ⟨?_, fun p hp => ?_, fun p hp => ?_, fun p hp => (nomatch hp), fun p hp => ?_, y.nd, y.cnd, fun c hc' => off c (own ▸ hc'), fun c hc' => offX_none (own ▸ hc')⟩, fun p hp => (nomatch hp)⟩, GG.refl _, rfl, rfl⟩
  · exact y.ns.at' fun o e => (same _ List.mem_cons_self).trans e
  · rw [hc] at hp; cases hp
  · obtain ⟨v, e, i⟩ := y.vars p hp
    exact ⟨v, e, i.flat (hΓ p hp)⟩
  · obtain ⟨o, q, i⟩ := y.raw p hp
    refine ⟨o, (same _ (List.mem_cons_of_mem _ (List.mem_map_of_mem hp))).trans q, ?_⟩
    have := hM p hp
    obtain ⟨c, mo⟩ := p
    cases i with
    | obj o => exact .obj o
    | dict _ => cases this
    | list _ => cases this
end
/-- as GrM; of the objects that are turned nothing is said, not even that they are still there -/
structure GrQ (X : List Addr) (P : Vw) (s : Shared) (P' : Vw) (s' : Shared) : Prop where
  le : Le P P'
  inn : In P' s'.heap
  old : ∀ b o, b ∉ X → s.heap.get? b = some o → s'.heap.get? b = some o
  new : ∀ b o, P' b = some o → P b = some o ∨ s.heap.get? b = none
  gens : GG s.gens s'.gens
  drawn : s'.drawn = s.drawn
  os : s'.os = s.os
theorem GrM.q {X : List Addr} {P P' : Vw} {s s' : Shared} (x : GrM X P s P' s') : GrQ X P s P' s' := ⟨x.le, x.inn, x.old, x.new, x.gens, x.drawn, x.os⟩
theorem GrQ.up {X : List Addr} {P P₁ P' : Vw} {s s' : Shared} (x : GrQ X P s P' s') (k : Le P P₁) (h : In P₁ s.heap) (hX : ∀ b ∈ X, P₁ b = none) : GrQ X P₁ s (uni P₁ P') s' := by
  have h1 : In P₁ s'.heap := fun b o e => x.old b o (fun q => by rw [hX b q] at e; cases e) (h b o e)
  refine ⟨uni_left, uni_in h1 x.inn, x.old, fun b o e => ?_, x.gens, x.drawn, x.os⟩
  unfold uni at e
  cases q : P₁ b with
  | none => rw [q] at e; exact (x.new b o (by simpa using e)).imp (fun z => by rw [k b o z] at q; cases q) id
  | some o' => rw [q] at e; exact .inl e
open Classical in
noncomputable def HX (H : Vw) (own : List Addr) (h : Heap) : Vw := fun b => if b ∈ own then h.get? b else H b
theorem HX_in {H : Vw} {own : List Addr} {h : Heap} {b : Addr} (hb : b ∈ own) : HX H own h b = h.get? b := if_pos hb
theorem HX_out {H : Vw} {own : List Addr} {h : Heap} {b : Addr} (hb : b ∉ own) : HX H own h b = H b := if_neg hb
section
variable {W : Wd} {k : Nat} {A : Around} {env : Env} {s₀ : Shared} {P₀ H H₁ : Vw} {Γ : List (Str × D)} {Δ : List (Str × List D)} {Mx : List (Addr × MO)} {P P' : Vw} {s s' : Shared}
/-- objects that count among what must stand are turned by somebody else -/
theorem At.stepX {own : List Addr} {g' : Array GenState} (X : At W k A env s₀ P₀ H₁ Γ Δ Mx P s) (hH : ∀ b, b ∉ own → H₁ b = H b) (g : GrQ own P s P' s') (tk : 1 ≤ s'.toks) (hown : ∃ m cv ad, AtX env Γ Δ Mx H₁ P m cv ad s.heap ∧ ∀ b ∈ own, b ∉ ownOf env Δ ad Mx)
    (h0 : ∀ b ∈ own, s₀.heap.get? b = none) (hP' : ∀ b ∈ own, P' b = none) (gg : GG s₀.gens g') : At W k A env s₀ P₀ (HX H own s'.heap) Γ Δ Mx P' { s' with gens := g' } where
  a := X.a
  b := X.b.up g.le
  tk := tk
  fn := X.fn
  gl := X.gl
  bi := X.bi
  le := X.le.trans g.le
  inn := g.inn
  hin := fun b o e => by
    by_cases hb : b ∈ own
    · rw [HX_in hb] at e; exact e
    · rw [HX_out hb] at e; exact g.old b o hb (X.hin b o ((hH b hb).trans e))
  new := fun b o e => (g.new b o e).elim (X.new b o) fun z => .inr (by
    cases q : s₀.heap.get? b with
    | none => rfl
    | some o' => obtain ⟨o'', q'⟩ := X.ext b o' q; rw [z] at q'; cases q')
  newH := fun b o e => by
    have hb : b ∉ own := fun hb => by rw [hP' b hb] at e; cases e
    rw [HX_out hb, ← hH b hb]
    exact (g.new b o e).elim (X.newH b o) fun z => .inr (by
      cases q : H₁ b with
      | none => rfl
      | some o' => have := X.hin _ _ q; rw [z] at this; cases this)
  ext := fun b o e => (X.ext b o e).imp fun o' q => g.old b o' (fun hb => by rw [h0 b hb] at e; cases e) q
  mnew := by
    obtain ⟨m', cv', ad', y', hc'⟩ := hown
    obtain ⟨m, cv, ad, y, hn⟩ := X.mnew
    have hd : ∀ b ∈ ownOf env Δ ad Mx, b ∉ own := fun b hb ho => hc' b ho (by rw [← AtX.unique y y']; exact hb)
    have up : ∀ b ∈ ownOf env Δ ad Mx, ∀ o, s.heap.get? b = some o → s'.heap.get? b = some o := fun b hb o e => g.old b o (hd b hb) e
    refine ⟨m, cv, ad, ⟨y.ns.at' fun o e => up _ List.mem_cons_self o e, fun p hp => ?_, fun p hp => ?_, fun p hp => ?_, fun p hp => ?_, y.nd, y.cnd, fun b hb => ?_, fun b hb => ?_⟩, hn⟩
    · obtain ⟨o, q, d⟩ := y.cells p hp
      exact ⟨o, up _ (List.mem_cons_of_mem _ (List.mem_append.mpr (.inl (List.mem_map_of_mem hp)))) o q, d⟩
    · obtain ⟨v, e, i⟩ := y.vars p hp; exact ⟨v, e, i.mono g.le⟩
    · obtain ⟨vs, n, e, q, i⟩ := y.muts p hp
      exact ⟨vs, n, e, up _ (List.mem_cons_of_mem _ (List.mem_append.mpr (.inr (List.mem_append.mpr (.inl (List.mem_map_of_mem hp)))))) _ q, i.mono g.le⟩
    · obtain ⟨o, q, i⟩ := y.raw p hp
      exact ⟨o, up _ (List.mem_cons_of_mem _ (List.mem_append.mpr (.inr (List.mem_append.mpr (.inr (List.mem_map_of_mem hp)))))) _ q, i.mono g.le⟩
    · cases q : P' b with
      | none => rfl
      | some o' =>
        obtain ⟨o, ho⟩ := y.exist b hb
        rcases g.new b o' q with z | z
        · rw [y.offP b hb] at z; cases z
        · rw [ho] at z; cases z
    · rw [HX_out (hd b hb), ← hH b (hd b hb)]; exact y.offH b hb
  gens := gg
  drawn := g.drawn.trans X.drawn
  os := g.os.trans X.os
end
end
local macro_rules | `(tactic| trivial) => `(tactic| ((with_reducible refine ne_cons ?_ ?_); decide; trivial))
local macro_rules | `(tactic| trivial) => `(tactic| with_reducible exact ne_nil)
local macro_rules | `(tactic| trivial) => `(tactic| ((with_reducible refine sub_cons ?_ ?_) <;> trivial))
local macro_rules | `(tactic| trivial) => `(tactic| with_reducible exact sub_nil)
local macro_rules | `(tactic| trivial) => `(tactic| ((with_reducible apply rm_mem); decide; trivial))
local macro_rules | `(tactic| trivial) => `(tactic| ((with_reducible apply List.mem_cons_of_mem); trivial))
local macro_rules | `(tactic| trivial) => `(tactic| with_reducible exact List.mem_cons_self)
section
/-! the generator -/
noncomputable def escLoop : List Nat → Nat → Bool → Nat → List (Nat × Str)
  | [], _, esc, last => if esc then [(last, "\\")] else []
  | c :: r, i, esc, _ => if esc then (i, ("\\" : Str) ++ ⟨#[c]⟩) :: escLoop r (i + 1) false i
    else if (⟨#[c]⟩ : Str) == "\\" then escLoop r (i + 1) true i
    else (i, ⟨#[c]⟩) :: escLoop r (i + 1) false i
noncomputable def escItems (x : Str) : List (Nat × Str) := escLoop x.cps.toList 0 false 0
noncomputable def itemD (p : Nat × Str) : D := .tup [.int p.1, .str p.2]
noncomputable def genY (its : List D) (own : List Addr) (Pb : Vw) : Protocol := fun m s₁ v s₂ kap => ∃ P' d, its.reverse[m]? = some d ∧ GrQ own Pb s₁ P' s₂ ∧ 1 ≤ s₂.toks ∧ Is P' v d ∧ (∀ b ∈ own, P' b = none) ∧ (∀ b ∈ own, ∃ o, s₂.heap.get? b = some o) ∧
  ∀ s₃ : Shared, In Pb s₃.heap → 1 ≤ s₃.toks → (∀ c ∈ own, s₃.heap.get? c = s₂.heap.get? c) → kap (.send .none) s₃
noncomputable def genE (own : List Addr) (Pb : Vw) : Nat → Shared → Shared → Prop := fun n s₁ s₂ => n = 0 ∧ ∃ P', GrQ own Pb s₁ P' s₂ ∧ 1 ≤ s₂.toks ∧ (∀ b ∈ own, P' b = none)
noncomputable abbrev genR (own : List Addr) (Pb : Vw) : GenEnd := fun n s₀ r s₁ => r = .ok (.ret .none) ∧ genE own Pb n s₀ s₁
noncomputable abbrev enumO (it : Addr) (i : Int) (old : Value) : Obj := { cls := .type "enumerate", dict := none, data := .fields #[.none, .bool false, .ref it, rawInt i, .none, old], slots := #[] }
section
variable {W : Wd} {k : Nat} {A : Around} {env : Env} {s₀ : Shared} {P₀ H : Vw} {Γ : List (Str × D)} {P : Vw} {s : Shared} {E : Value → Shared → Prop} {e it : Addr} {x : Str} {t : Tok} {old : Value} {oi : Obj}
noncomputable def iterO (x : Str) (t : Tok) (i : Nat) (o : Obj) : Prop := o.cls = .type (strIterType x) ∧ o.data = .fields #[.str x t, .int i 0]
theorem draws_str {prog : Program} {w : World} {A : Around} (hh : A.handled = none) (it : Addr) (x : Str) (t : Tok) : Draws prog w A it [it] x.cps.size (fun i v => ∃ c u, x.cps[i]? = some c ∧ v = .str ⟨#[c]⟩ u) (fun i h => h.IsStrIter it (strIterType x) x t i) := by
  unfold strIterType
  cases h : x.cps.all (· < 128) with
  | true => simpa using Draws.strAscii hh it x t
  | false => simpa using Draws.strWide hh it x t
/-- the next pair of enumerate(x) -/
theorem enum_item {i : Nat} {Q : Option Value → Shared → Prop} {elts : List Expr} {x1 : Nat} {pos : Pos} (X : At W k A env s₀ P₀ H Γ [] [(e, .obj (enumO it i old)), (it, .obj oi)] P s) (ho : iterO x t i oi) (hi : i < x.cps.size)
    (h : ∀ c T v P' s' oi' old', x.cps[i]? = some c → v = .ref T → Is P' v (.tup [.int i, .str ⟨#[c]⟩]) → iterO x t (i + 1) oi' →
      (∀ Q' : Unit → Shared → Prop, (∀ P'' s'', At W k A env s₀ P₀ H Γ [] [(e, .obj (enumO it (i + 1 : Nat) old')), (it, .obj oi')] P'' s'' → Is P'' v (.tup [.int i, .str ⟨#[c]⟩]) → Q' () s'') → wpAny W.M A (letOwnedTupleGo (.Tuple elts x1 pos) (.ref e) v) Q' E s') → Q (some v) s') :
    wpAny W.M A (pyNext (.ref e)) Q E s := by
  obtain ⟨m, cv, ad, y, _⟩ := X.mnew
  obtain ⟨o1, q1, i1⟩ := y.raw _ List.mem_cons_self
  obtain ⟨o2, q2, i2⟩ := y.raw _ (List.mem_cons_of_mem _ List.mem_cons_self)
  obtain rfl := i1.objI.symm; obtain rfl := i2.objI.symm
  have nd := (List.nodup_append.mp (List.nodup_cons.mp y.nd).2).2.1
  have hne : e ≠ it := by
    have := List.nodup_cons.mp (show [e, it].Nodup from nd)
    simpa using this.1
  have D := draws_str (prog := W.prog) (w := W.w) (A := A.in1) X.a.1 it x t
  refine wp_tk X.tk (wpAny_pyNext_enum_itemD D q1 ⟨_, q2, ho.1, ho.2⟩ hi hne (by simpa using hne) fun v h' tk hv he hst hT hz hk tk' => ?_)
  obtain ⟨c, u, hc, rfl⟩ := hv
  obtain ⟨oi', qi, hi1, hi2⟩ := hst
  have f0 : s.heap.get? s.heap.objs.size = none := Heap.get?_none_of_le (Nat.le_refl _)
  have pT : P s.heap.objs.size = none := none_size X.inn
  have hTe : s.heap.objs.size ≠ e := fun q => by rw [← q, f0] at q1; cases q1
  have hTi : s.heap.objs.size ≠ it := fun q => by rw [← q, f0] at q2; cases q2
  have hPe := y.offP e (List.mem_cons_of_mem _ (List.mem_append_right _ (List.mem_append_right _ List.mem_cons_self)))
  have hPi := y.offP it (List.mem_cons_of_mem _ (List.mem_append_right _ (List.mem_append_right _ (List.mem_cons_of_mem _ List.mem_cons_self))))
  have hle := addV_le (o := { cls := .type "tuple", data := .seq #[.int i tk, .str ⟨#[c]⟩ u] }) pT
  have g : GrM [e, it] P s (addV P s.heap.objs.size { cls := .type "tuple", data := .seq #[.int i tk, .str ⟨#[c]⟩ u] }) { s with heap := h', toks := tk + 1 } := by
    refine ⟨hle, addV_in (fun b o q => hk b o (fun z => by rw [z, hPe] at q; cases q) (fun z => by rw [z, hPi] at q; cases q) (X.inn _ _ q)) hT, fun b o n q => hk b o (fun z => n (by simp [z])) (fun z => n (by simp [z])) q, fun b o q => ?_, fun b o q => ?_, GG.refl _, rfl, rfl⟩
    · by_cases h1 : b = e
      · subst h1; exact ⟨_, he⟩
      · by_cases h2 : b = it
        · subst h2; exact ⟨_, qi⟩
        · exact ⟨_, hk b o h1 h2 q⟩
    · by_cases hb : b = s.heap.objs.size
      · subst hb; exact .inr f0
      · rw [addV_ne hb] at q; exact .inl q
  have dv : Dv (addV P s.heap.objs.size { cls := .type "tuple", data := .seq #[.int i tk, .str ⟨#[c]⟩ u] }) { s with heap := h', toks := tk + 1 } [(e, .obj { cls := .type "enumerate", dict := none, data := .fields #[rawInt s.heap.objs.size, .bool false, .ref it, rawInt ((i : Int) + 1), .none, .str ⟨#[c]⟩ u], slots := #[] }), (it, .obj oi')] := by
    refine ⟨fun p hp => ?_, by simpa [ads] using hne, fun p hp => ?_⟩
    · simp only [List.mem_cons, List.not_mem_nil, or_false] at hp
      rcases hp with rfl | rfl
      · exact ⟨_, he, .obj _⟩
      · exact ⟨_, qi, .obj _⟩
    · simp only [List.mem_cons, List.not_mem_nil, or_false] at hp
      rcases hp with rfl | rfl
      · rw [addV_ne (Ne.symm hTe)]; exact hPe
      · rw [addV_ne (Ne.symm hTi)]; exact hPi
  have X' := At.grM (rest := []) (Mx := [(e, .obj (enumO it i old)), (it, .obj oi)]) X g (Nat.succ_le_succ (Nat.zero_le _)) dv rfl
  have iT : Is (addV P s.heap.objs.size { cls := .type "tuple", data := .seq #[.int i tk, .str ⟨#[c]⟩ u] }) (.ref s.heap.objs.size) (.tup [.int i, .str ⟨#[c]⟩]) := .tup (vs := [.int i tk, .str ⟨#[c]⟩ u]) (n := 0) addV_at (.cons (.int _ _) (.cons (.str _ _) .nil))
  refine h c s.heap.objs.size _ _ _ oi' (.str ⟨#[c]⟩ u) hc rfl iT ⟨hi1, hi2⟩ fun Q' hQ' => ?_
  refine wpAny_letOwnedTupleGo_enum he fun h'' he' hs' => ?_
  exact hQ' _ _ (At.turnR (o' := .obj _) X' (Nat.succ_le_succ (Nat.zero_le _)) (fun b o n q => hs'.extBut b o n q) he' (.obj _)) iT
end
section
variable {W : Wd} {k : Nat} {A : Around} {env : Env} {s₀ : Shared} {P₀ H : Vw} {Γ : List (Str × D)} {Mx : List (Addr × MO)} {P : Vw} {s : Shared} {E : Value → Shared → Prop}
/-- one local name takes a value, and the heap is as long as it was -/
theorem At.nameZ {M : Model} {Q : Unit → Shared → Prop} {x : Str} {v : Value} {d : D} (X : At W k A env s₀ P₀ H Γ [] Mx P s) (i : Is P v d) (hk : env.kindOf x = some .local)
    (h : ∀ s', At W k A env s₀ P₀ H ((x, d) :: rm x Γ) [] Mx P s' → s'.heap.objs.size = s.heap.objs.size → Q () s') : wpAny M A (storeName env x v) Q E s := by
  have X' := X.less x
  obtain ⟨m, cv, ad, y, hn⟩ := X'.mnew
  refine wpAny_storeName_local hk y.ns (fun h' hns hsb => ?_) (by rw [X.fn]; rfl)
  have nd := List.nodup_cons.mp y.nd
  have hkp : ∀ b o, b ≠ env.locals → s.heap.get? b = some o → h'.get? b = some o := fun b o n e => hsb.extBut b o n e
  refine h _ { a := X.a, b := X.b, tk := Nat.le_trans X.tk (Nat.le_succ _), fn := X.fn, gl := X.gl, bi := X.bi, le := X.le, inn := keep_but X.inn hkp (y.offP _ List.mem_cons_self), hin := keep_but X.hin hkp (y.offH _ List.mem_cons_self), new := X.new, newH := X.newH, ext := fun b o e => ?_, mnew := ⟨_, cv, ad, ⟨hns, fun p hp => ?_, fun p hp => ?_, fun p hp => (nomatch hp), fun p hp => ?_, y.nd, y.cnd, y.offP, y.offH⟩, fun p hp => (nomatch hp)⟩, gens := X.gens, drawn := X.drawn, os := X.os } hsb.1
  · obtain ⟨o', q⟩ := X.ext b o e
    by_cases hbc : b = env.locals
    · rw [hbc]; obtain ⟨o, _, _, q, _⟩ := hns; exact ⟨o, q⟩
    · exact ⟨o', hkp _ _ hbc q⟩
  · obtain ⟨o, q, d⟩ := y.cells p hp
    exact ⟨o, hkp _ _ (fun z => nd.1 (List.mem_append.mpr (.inl (z ▸ List.mem_map_of_mem hp)))) q, d⟩
  · rcases List.mem_cons.mp hp with rfl | hp
    · exact ⟨v, lookN_set_local hk, i⟩
    · obtain ⟨u, e, i⟩ := y.vars p hp
      exact ⟨u, (lookN_ne_local (rm_ne p hp)).trans e, i⟩
  · obtain ⟨o, q, i⟩ := y.raw p hp
    exact ⟨o, hkp _ _ (fun z => nd.1 (List.mem_append.mpr (.inr (List.mem_append.mpr (.inr (z ▸ List.mem_map_of_mem hp)))))) q, i⟩
end
theorem aok_func {k : Nat} {A : Around} {b : List Stmt} {e : Env} (a : AOk (k + 1) A) : AOk k (A.over (.func b e) []) :=
  ⟨a.1, ar_depth a.2.1, ar_units (c := 3) (by decide) a.2.2⟩
theorem aok_loop {k : Nat} {A : Around} {b : List Stmt} {e e' : Env} {t : Expr} {it : Value} {ss els : List Stmt} {K : Result → Sem Fin} {g : Bool} {l : List Value} {p : Pos} {l2 : List Value} (a : AOk (k + 1) A) : AOk k (A.over (.forLoop t it ss els e') [.ret K none g l (.func b e) p l2]) :=
  ⟨a.1, ar_depth a.2.1, ar_units (c := 3) (by decide) a.2.2⟩
theorem none_of_in {P : Vw} {h : Heap} {b : Addr} (p : In P h) (e : h.get? b = none) : P b = none := by
  cases q : P b with
  | none => rfl
  | some o => rw [p b o q] at e; cases e
theorem At.own2 {W : Wd} {k : Nat} {A : Around} {env : Env} {s₀ : Shared} {P₀ H : Vw} {Γ : List (Str × D)} {P : Vw} {s : Shared} {h' : Heap} {e it : Addr} {oe oi : Obj} (X : At W k A env s₀ P₀ H Γ [] [] P s) (hk : ∀ b o, s.heap.get? b = some o → h'.get? b = some o)
    (he : h'.get? e = some oe) (hi : h'.get? it = some oi) (fe : s.heap.get? e = none) (fi : s.heap.get? it = none) (ne : e ≠ it) : At W k A env s₀ P₀ H Γ [] [(e, .obj oe), (it, .obj oi)] P { s with heap := h' } := by
  have X' := X.same hk X.tk
  have pe : P e = none := none_of_in X.inn fe
  have pi : P it = none := none_of_in X.inn fi
  have qe : H e = none := none_of_in X.hin fe
  have qi : H it = none := none_of_in X.hin fi
  obtain ⟨m0, cv0, ad0, y0, hn0⟩ := X.mnew
  obtain ⟨m, cv, ad, y, hn⟩ := X'.mnew
  have off : ∀ b, s.heap.get? b = none → b ∉ ownOf env [] ad [] := fun b hb hm => by
    obtain ⟨o, q⟩ := y0.exist b hm
    rw [hb] at q; cases q
  have own : (ownOf env [] ad [(e, .obj oe), (it, .obj oi)]).Perm (e :: it :: ownOf env [] ad []) := by
    show (env.locals :: (env.cells.map (·.2) ++ ([] ++ [e, it]))).Perm (e :: it :: env.locals :: (env.cells.map (·.2) ++ ([] ++ [])))
    simp only [List.nil_append, List.append_nil]
    exact (List.perm_append_comm (l₁ := env.locals :: env.cells.map (·.2)) (l₂ := [e, it]))
  refine { X' with mnew := ⟨m, cv, ad, { y with raw := fun p hp => ?_, nd := ?_, offP := fun b hb => ?_, offH := fun b hb => ?_ }, hn⟩ }
  · simp only [List.mem_cons, List.not_mem_nil, or_false] at hp
    rcases hp with rfl | rfl
    · exact ⟨_, he, .obj _⟩
    · exact ⟨_, hi, .obj _⟩
  · refine own.nodup_iff.mpr (List.nodup_cons.mpr ⟨fun hm => ?_, List.nodup_cons.mpr ⟨off it fi, y.nd⟩⟩)
    rcases List.mem_cons.mp hm with z | z
    · exact ne z
    · exact off e fe z
  · rcases List.mem_cons.mp (own.subset hb) with rfl | hb
    · exact pe
    rcases List.mem_cons.mp hb with rfl | hb
    · exact pi
    · exact y.offP b hb
  · rcases List.mem_cons.mp (own.subset hb) with rfl | hb
    · exact qe
    rcases List.mem_cons.mp hb with rfl | hb
    · exact qi
    · exact y.offH b hb
/-- a loop of a generator, turn by turn -/
theorem seg_ind {M : Model} {A : Around} {R : GenEnd} {Y : Protocol} {C : Code} {D : Sem Fin} {fs : List Frame} {s₀ s : Shared} {n : Nat} (N : Nat) (Inv : Nat → Nat → Shared → Shared → Prop)
    (step : ∀ i n s₀ s, i < N → (∀ n' s₀' s', Inv (i + 1) n' s₀' s' → Seg M A R Y n' s₀' C D fs s') → Inv i n s₀ s → Seg M A R Y n s₀ C D fs s)
    (stop : ∀ n s₀ s, Inv N n s₀ s → Seg M A R Y n s₀ C D fs s) (h : Inv 0 n s₀ s) : Seg M A R Y n s₀ C D fs s := by
  have go : ∀ j i, i + j = N → ∀ n s₀ s, Inv i n s₀ s → Seg M A R Y n s₀ C D fs s := by
    intro j
    induction j with
    | zero => intro i e n s₀ s h; rw [Nat.add_zero] at e; subst e; exact stop n s₀ s h
    | succ j ih => intro i e n s₀ s h; exact step i n s₀ s (by omega) (ih (i + 1) (by omega)) h
  exact go N 0 (Nat.zero_add N) n s₀ s h
theorem rev_at {α : Type} {pre rem : List α} {d : α} : (pre ++ d :: rem).reverse[rem.length]? = some d := by
  rw [List.reverse_append, List.reverse_cons, List.append_assoc, List.getElem?_append_right (by simp)]
  simp
section
variable {prog : Program} {w : World} {A : Around} {E : Value → Shared → Prop} {s : Shared}
/-- an ascii str's iterator at its end: it stands, without its str; a StopIteration is raised -/
theorem ascii_over {it : Addr} {x : Str} {t : Tok} {i : Nat} {Q : Value → Shared → Prop} (hh : A.handled = none) (h0 : s.heap.IsStrIter it "str_ascii_iterator" x t i) (hi : x.cps[i]? = none)
    (h : ∀ h' e, Heap.ExtBut it s.heap h' → (∃ o, h'.get? it = some o) → s.TypeIs (.ref it) "str_ascii_iterator" → (∃ o, h'.get? e = some o ∧ o.cls = .type "StopIteration") → E (.ref e) { s with heap := h' }) :
    wpAny (model prog w) A (Builtin.SmallTypes.nextOf (.ref it)) Q E s := by
  have ty := h0.typeIs
  obtain ⟨o, q, c1, c2⟩ := h0
  have fr : (Obj.mapFields (·.setIfInBounds 0 Value.none) o).isFreed = false := by
    obtain ⟨_, _, _, _⟩ := o; cases c2; rfl
  have up := Heap.get?_update_self (Obj.mapFields (·.setIfInBounds 0 Value.none)) q fr
  rw [Builtin.SmallTypes.nextOf]
  apply wpAny_bind
  apply wpAny_callSpecial?_slot (name := Str.ofString "__next__") ty F.slot_str_ascii_iterator_next
  apply wpAny_call_entry F.slot_str_ascii_iterator_next ty F.entry_str_ascii_iterator_next ?_ (F.args_str_ascii_iterator_next_1 _)
  change wpAny _ _ (field (.ref it) 0 >>= _) _ _ s
  apply wpAny_bind
  apply wpAny_field q c2 (x := .str x t) rfl
  change wpAny _ _ (field (.ref it) 1 >>= _) _ _ s
  apply wpAny_bind
  apply wpAny_field q c2 (x := .int i 0) rfl
  simp only [Int.toNat_natCast, hi]
  apply wpAny_bind
  apply wpAny_rule
  apply wpAny_bind
  apply wpAny_setField q c2 (by simp)
  apply wpAny_bind
  apply wpAny_letGo
  change wpAny _ _ (newExc (.type "StopIteration") [] >>= _) _ _ _
  apply wpAny_bind
  rw [newExc, newTuple]
  apply wpAny_bind
  refine wpAny_newObj_type ?_ (by size_fits)
  refine wpAny_bind (m := firstArgMember _ _) (wpAny_of_eq (a := Value.none) (by first | rfl | (simp only [firstArgMember]; rfl)) ?_)
  refine wpAny_newObj_type ?_ (by size_fits)
  rw [raiseNew]
  apply wpAny_bind
  apply wpAny_handled
  rw [show A.in1.handled = none from hh]
  refine wpAny_bind (wpAny_pure (wpAny_throw ?_))
  exact h _ _ (((Heap.SameBut.update ..).extBut.push _).push _) ⟨_, Heap.get?_push_of_some _ (Heap.get?_push_of_some _ up)⟩ ty ⟨_, Heap.get?_push_size _ rfl, rfl⟩
/-- enumerate at its end: both iterators stand -/
theorem enum_over {e it : Addr} {x : Str} {t : Tok} {i : Int} {j : Nat} {old : Value} {Q : Option Value → Shared → Prop} (hh : A.handled = none) (he : IsEnum s.heap e it i old) (h0 : s.heap.IsStrIter it "str_ascii_iterator" x t j) (hj : x.cps[j]? = none)
    (h : ∀ h', Heap.ExtBut it s.heap h' → (∃ o, h'.get? it = some o) → Q none { s with heap := h' }) : wpAny (model prog w) A (pyNext (.ref e)) Q E s := by
  have ty : s.TypeIs (.ref e) "enumerate" := ⟨_, he, rfl⟩
  rw [pyNext]
  refine wpAny_bind (wpAny_attempt (wpAny_callSpecial?_slot (name := Str.ofString "__next__") ty F.slot_enumerate_next (wpAny_call_entry F.slot_enumerate_next ty F.entry_enumerate_next ?_ (F.args_enumerate_next_1 _))))
  change wpAny _ _ (field (.ref e) 2 >>= _) _ _ _
  refine wpAny_bind (wpAny_field he rfl (x := .ref it) rfl (wpAny_bind (ascii_over hh h0 hj fun h' ex x1 x2 _ x3 => ?_)))
  obtain ⟨o, q, c⟩ := x3
  exact wpAny_bind (wpAny_isInstance (T := "StopIteration") (b := true) ⟨o, q, c⟩ isSubtype_stop (wpAny_pure (h _ x1 x2)))
end
end
section
/-! generators: what a consumer sees -/
structure GSame (Pb : Vw) (own : List Addr) (g : Nat) (s s₃ : Shared) : Prop where
  inn : In Pb s₃.heap
  tk : 1 ≤ s₃.toks
  same : ∀ c ∈ own, s₃.heap.get? c = s.heap.get? c
  gen : s₃.gens[g]? = s.gens[g]?
noncomputable def GRdy (prog : Program) (w : World) (A : Around) (a g : Nat) (Pb : Vw) : List D → List Addr → Shared → Prop
  | [], own, s => ∀ (s₃ : Shared) (E : Value → Shared → Prop) (Q : Option Value → Shared → Prop), GSame Pb own g s s₃ →
      (∀ own' P' s₁ gs', (∀ b ∈ own, b ∈ own') → (∀ b ∈ own', b ∈ own ∨ s₃.heap.get? b = none) → GrQ own' Pb (s₃.setGen g .running) P' s₁ → 1 ≤ s₁.toks → (∀ b ∈ own', P' b = none) → gs'.bare = true → Q none (s₁.setGen g gs')) → wpAny (model prog w) A (pyNext (.ref a)) Q E s₃
  | d :: ds, own, s => ∀ (s₃ : Shared) (E : Value → Shared → Prop) (Q : Option Value → Shared → Prop), GSame Pb own g s s₃ →
      (∀ own' P' v s₁ gs', (∀ b ∈ own, b ∈ own') → (∀ b ∈ own', b ∈ own ∨ s₃.heap.get? b = none) → GrQ own' Pb (s₃.setGen g .running) P' s₁ → 1 ≤ s₁.toks → (∀ b ∈ own', P' b = none) → (∀ b ∈ own', ∃ o, s₁.heap.get? b = some o) → gs'.bare = true → g < s₁.gens.size → Is P' v d →
        GRdy prog w A a g Pb ds own' (s₁.setGen g gs') → Q (some v) (s₁.setGen g gs')) → wpAny (model prog w) A (pyNext (.ref a)) Q E s₃
theorem GRdy.move {prog : Program} {w : World} {A : Around} {a g : Nat} {Pb : Vw} {its : List D} {own : List Addr} {s s' : Shared} (h : GRdy prog w A a g Pb its own s) (e : ∀ b ∈ own, s'.heap.get? b = s.heap.get? b) (eg : s'.gens[g]? = s.gens[g]?) : GRdy prog w A a g Pb its own s' := by
  cases its with
  | nil => exact fun s₃ E Q x hQ => h s₃ E Q ⟨x.inn, x.tk, fun c hc => (x.same c hc).trans (e c hc), x.gen.trans eg⟩ hQ
  | cons d ds => exact fun s₃ E Q x hQ => h s₃ E Q ⟨x.inn, x.tk, fun c hc => (x.same c hc).trans (e c hc), x.gen.trans eg⟩ hQ
theorem aok_in1 {k : Nat} {A : Around} (a : AOk (k + 1) A) : AOk k A.in1 := ⟨a.1, Nat.lt_of_succ_lt a.2.1, ar_units (by decide) a.2.2⟩
theorem GrQ.genHeap {own : List Addr} {P P' : Vw} {s s₁ : Shared} {h' : Heap} (x : GrQ own P s P' s₁) (k : ∀ b o, s₁.heap.get? b = some o → h'.get? b = some o) : GrQ own P s P' { s₁ with heap := h' } :=
  ⟨x.le, fun b o e => k b o (x.inn b o e), fun b o n e => k b o (x.old b o n e), x.new, x.gens, x.drawn, x.os⟩
theorem drop_rev {α : Type} {l : List α} {n : Nat} {d : α} (h : l.reverse[n]? = some d) : l.drop (l.length - (n + 1)) = d :: l.drop (l.length - n) ∧ n < l.length := by
  have hn : n < l.length := by
    have := (List.getElem?_eq_some_iff.mp h).1
    rwa [List.length_reverse] at this
  have e := List.getElem?_reverse (l := l) hn
  rw [e] at h
  have h2 : l.length - 1 - n = l.length - (n + 1) := ar_sub2
  rw [h2] at h
  obtain ⟨h3, rfl⟩ := List.getElem?_eq_some_iff.mp h
  refine ⟨?_, hn⟩
  rw [List.drop_eq_getElem_cons h3]
  exact congrArg (fun z => _ :: l.drop z) (ar_sub1 hn).symm
section
variable {W : Wd} {A : Around} {a g : Nat} {Pb : Vw} {its : List D} {own : List Addr}
/-- behind the first item -/
theorem grdy_go (hA : AOk 1 A) (hB : W.B Pb) (hgo : Heap → Prop) (hg : ∀ h : Heap, In Pb h → h.IsGen a g) : ∀ (n : Nat) (s : Shared) (gs : GenState), n ≤ its.length → s.gens[g]? = some gs →
    (∀ s₃ : Shared, In Pb s₃.heap → 1 ≤ s₃.toks → (∀ c ∈ own, s₃.heap.get? c = s.heap.get? c) → gs.Goes W.M A.in1 (genR own Pb) (genY its own Pb) n (.send .none) s₃) →
    GRdy W.prog W.w A a g Pb (its.drop (its.length - n)) own s := by
  intro n
  induction n with
  | zero =>
    intro s gs _ hgs go
    rw [Nat.sub_zero, List.drop_length]
    intro s₃ E Q x hQ
    refine gen_next hA.1 (hB.top _ x.inn).nolimit (by have := hA.2.1; omega) (hg _ x.inn) (x.gen.trans hgs) (go _ x.inn x.tk x.same) (fun v s₁ gs' _ hy => ?_) (fun s₁ hp h' hk => ?_)
    · obtain ⟨P', d, _, q, tk, _, _, _, z⟩ := hy
      exact (z s₁ (q.inn.le q.le) tk fun _ _ => rfl).elim
    · obtain ⟨_, P', q, tk, off⟩ := hp
      exact hQ own P' { s₁ with heap := h' } .finished (fun _ h => h) (fun _ h => .inl h) (q.genHeap hk) tk off rfl
  | succ n ih =>
    intro s gs hn hgs go
    have ex : ∃ d, its.reverse[n]? = some d := ⟨its.reverse[n]'(by rw [List.length_reverse]; omega), by rw [List.getElem?_eq_getElem]⟩
    obtain ⟨d, hd⟩ := ex
    rw [(drop_rev hd).1]
    intro s₃ E Q x hQ
    refine gen_next hA.1 (hB.top _ x.inn).nolimit (by have := hA.2.1; omega) (hg _ x.inn) (x.gen.trans hgs) (go _ x.inn x.tk x.same) (fun v s₁ gs' hb hy => ?_) (fun s₁ hp h' hk => ?_)
    · obtain ⟨P', d', hd', q, tk, i, off, ex, z⟩ := hy
      rw [show n + 1 - 1 = n from rfl, hd] at hd'
      cases hd'
      have hsz : g < s₁.gens.size := by
        have h0 : g < s₃.gens.size := by
          have := x.gen.trans hgs
          exact (Array.getElem?_eq_some_iff.mp this).1
        have := q.gens.1 g .running (by show (s₃.gens.setIfInBounds g .running)[g]? = _; rw [Array.getElem?_setIfInBounds_self_of_lt h0])
        exact (Array.getElem?_eq_some_iff.mp this).1
      refine hQ own P' v s₁ gs' (fun _ h => h) (fun _ h => .inl h) q tk off ex hb hsz i (ih _ gs' (by omega) ?_ fun s₄ i4 t4 e4 => z s₄ i4 t4 e4)
      show (s₁.gens.setIfInBounds g gs')[g]? = _
      rw [Array.getElem?_setIfInBounds_self_of_lt hsz]
    · obtain ⟨h0, _⟩ := hp
      cases h0
end
noncomputable abbrev GenSegs (W : Wd) (fd : FuncData) (body : List Stmt) (f : Addr) (nm : Str) (x : Str) (its : List D) : Prop := ∀ (A : Around) (L : Addr) (Pb : Vw) (s₁ : Shared), AOk 2 A →
  At W 2 A (callEnvC fd L f) s₁ Pb (offX [L] s₁.heap) [(nm, .str x)] [] [] Pb s₁ →
  Seg W.M A (genR [L, s₁.heap.objs.size + 1, s₁.heap.objs.size] Pb) (genY its [L, s₁.heap.objs.size + 1, s₁.heap.objs.size] Pb) its.length s₁ (.func body (callEnvC fd L f)) (W.M.den (.func body (callEnvC fd L f))) [] s₁
theorem grdy_first {W : Wd} {A A₀ : Around} {a g f L : Addr} {Pb P₀ P H : Vw} {its : List D} {fd : FuncData} {body : List Stmt} {nm x : Str} {s₀ s : Shared} (hA : AOk 3 A) (hB : W.B Pb) (hg : ∀ h : Heap, In Pb h → h.IsGen a g) (hS : GenSegs W fd body f nm x its)
    (X : At W 2 A₀ (callEnvC fd L f) s₀ P₀ H [(nm, .str x)] [] [] P s) (hc : (callEnvC fd L f).cells = []) {s' : Shared} (hn : s'.heap.get? L = s.heap.get? L) (hgs : s'.gens[g]? = some (.fresh (.func body (callEnvC fd L f)))) (off : Pb L = none) : GRdy W.prog W.w A a g Pb its [L] s' := by
  have h1 : AOk 1 A := hA.le (by omega)
  have z1 : ∀ s₃ : Shared, s₃.heap.get? s₃.heap.objs.size = none := fun s₃ => Heap.get?_none_of_le (Nat.le_refl _)
  have z2 : ∀ s₃ : Shared, s₃.heap.get? (s₃.heap.objs.size + 1) = none := fun s₃ => Heap.get?_none_of_le (Nat.le_succ _)
  have go : ∀ s₃, GSame Pb [L] g s' s₃ → (GenState.fresh (.func body (callEnvC fd L f))).Goes W.M A.in1 (genR [L, s₃.heap.objs.size + 1, s₃.heap.objs.size] Pb) (genY its [L, s₃.heap.objs.size + 1, s₃.heap.objs.size] Pb) its.length (.send .none) (s₃.setGen g .running) := fun s₃ x => by
    refine ⟨rfl, hS A.in1 L Pb (s₃.setGen g .running) (aok_in1 hA) (At.wake X hc (fun p hp => ?_) (fun p hp => nomatch hp) (aok_in1 hA) hB x.inn x.tk (fun c hc => ?_) fun c hc => ?_)⟩
    · rw [List.mem_singleton.mp hp]; rfl
    · have hc' : c ∈ [L] := hc
      rw [List.mem_singleton.mp hc']
      exact (x.same L List.mem_cons_self).trans hn
    · have hc' : c ∈ [L] := hc
      rw [List.mem_singleton.mp hc']; exact off
  have own1 : ∀ (s₃ : Shared), ∀ b ∈ [L], b ∈ [L, s₃.heap.objs.size + 1, s₃.heap.objs.size] := fun s₃ b hb => by rw [List.mem_singleton.mp hb]; exact List.mem_cons_self
  have own2 : ∀ (s₃ : Shared), ∀ b ∈ [L, s₃.heap.objs.size + 1, s₃.heap.objs.size], b ∈ [L] ∨ s₃.heap.get? b = none := fun s₃ b hb => by
    simp only [List.mem_cons, List.not_mem_nil, or_false] at hb ⊢
    rcases hb with rfl | rfl | rfl
    · exact .inl rfl
    · exact .inr (z2 _)
    · exact .inr (z1 _)
  cases its with
  | nil =>
    intro s₃ E Q y hQ
    refine gen_next hA.1 (hB.top _ y.inn).nolimit (by have := hA.2.1; omega) (hg _ y.inn) (y.gen.trans hgs) (go _ y) (fun v s₁ gs' _ hy => ?_) (fun s₁ hp h' hk => ?_)
    · obtain ⟨P', d, _, q, tk, _, _, _, z⟩ := hy
      exact (z s₁ (q.inn.le q.le) tk fun _ _ => rfl).elim
    · obtain ⟨_, P', q, tk, off⟩ := hp
      exact hQ _ P' { s₁ with heap := h' } .finished (own1 s₃) (own2 s₃) (q.genHeap hk) tk off rfl
  | cons d ds =>
    intro s₃ E Q y hQ
    refine gen_next hA.1 (hB.top _ y.inn).nolimit (by have := hA.2.1; omega) (hg _ y.inn) (y.gen.trans hgs) (go _ y) (fun v s₁ gs' hb hy => ?_) (fun s₁ hp h' hk => ?_)
    · obtain ⟨P', d', hd', q, tk, i, off, ex, z⟩ := hy
      have e := drop_rev hd'
      rw [show (d :: ds).length - 1 = ds.length from rfl, show (d :: ds).length - (ds.length + 1) = 0 by simp, show (d :: ds).length - ds.length = 1 by simp] at e
      obtain ⟨e, _⟩ := e
      cases e
      have hsz : g < s₁.gens.size := by
        have h0 : g < s₃.gens.size := by
          have := y.gen.trans hgs
          exact (Array.getElem?_eq_some_iff.mp this).1
        have := q.gens.1 g .running (by show (s₃.gens.setIfInBounds g .running)[g]? = _; rw [Array.getElem?_setIfInBounds_self_of_lt h0])
        exact (Array.getElem?_eq_some_iff.mp this).1
      refine hQ _ P' v s₁ gs' (own1 s₃) (own2 s₃) q tk off ex hb hsz i ?_
      have := grdy_go (W := W) (A := A) (its := d :: ds) (own := [L, s₃.heap.objs.size + 1, s₃.heap.objs.size]) h1 hB (fun _ => True) hg ds.length (s₁.setGen g gs') gs' (by simp) (by
        show (s₁.gens.setIfInBounds g gs')[g]? = _
        rw [Array.getElem?_setIfInBounds_self_of_lt hsz]) fun s₄ i4 t4 e4 => z s₄ i4 t4 e4
      rw [show (d :: ds).length - ds.length = 1 by simp] at this
      exact this
    · obtain ⟨h0, _⟩ := hp
      cases h0
noncomputable abbrev genO (g : Nat) (n1 n2 : Value) : Obj := { cls := .type "generator", data := .fields #[.int g 0, n1, n2] }
theorem genO_is {P : Vw} {a g : Nat} {n1 n2 : Value} (e : P a = some (genO g n1 n2)) : ∀ h : Heap, In P h → h.IsGen a g := fun h hp => ⟨_, n1, n2, hp _ _ e, rfl, rfl, rfl⟩
/-- a generator function is called -/
theorem call_gen {W : Wd} {A : Around} {S P : Vw} {f : Addr} {fd : FuncData} {body : List Stmt} {nm x : Str} {its : List D} {s : Shared} {v : Value} {R : Result → Shared → Prop} (F : FnPre W P f fd body [nm]) (hgen : fd.scope.isGenerator = true) (hc : ∀ L, (callEnvC fd L f).cells = []) (hS : GenSegs W fd body f nm x its) (st : St W 3 A S P s) (i : Is P v (.str x))
    (hQ : ∀ a g own n1 n2 P' s', Gr P s P' s' → 1 ≤ s'.toks → P' a = some (genO g n1 n2) → s.gens.size ≤ g → (∀ b ∈ own, s.heap.get? b = none ∧ P' b = none ∧ ∃ o, s'.heap.get? b = some o) → (∀ A', AOk 3 A' → GRdy W.prog W.w A' a g P' its own s') → R (.ok (.ret (.ref a))) s') :
    codeAny W.M A (.call (.ref f) ⟨[v], []⟩) R s := by
  obtain ⟨o, ho, hd⟩ := F.has
  have T := st.b.top s.heap st.p
  refine codeAny_call_generator (Nat.lt_of_le_of_lt (Nat.le_add_right _ _) st.a.2.1) (st.p _ _ ho) hd F.co hgen F.body (codeRec_of (Bs.frag st.b st.p) F.code) ?_
  rw [F.bind [v] rfl, F.clo]
  refine wpAny_pure (wp_tk st.tk (wpAny_newFunctionEnv_cells F.fn (fun y hy => ?_) fun env he s' y tk => ?_))
  · have hx1 := (List.of_mem_zip (a := y.1) (b := y.2) hy).1
    rcases F.kind y.1 hx1 with h | ⟨h, hc⟩
    · exact .inl h
    · refine .inr ⟨h, ?_⟩
      have := cellsFrom_names fd.scope.names (s.heap.objs.size + 1) []
      rw [List.map_nil, List.append_nil] at this
      obtain ⟨p, hp, hpe⟩ := List.mem_map.mp (this.mem_iff.mpr hc)
      have hcn := this.nodup_iff.mpr F.cnd
      rw [← hpe, lookup_of_mem hcn hp]; rfl
  · subst he
    have X := at_enter (Mx := []) F st (.cons i .nil) rfl ⟨fun p hp => (nomatch hp), List.nodup_nil, fun p hp => (nomatch hp)⟩ tk y
    obtain ⟨h', tk', rfl⟩ := y.toInCall.same
    have kp := y.toInCall.keep
    refine ⟨T.nolimit.keeps kp, ?_⟩
    dsimp only at *
    obtain ⟨m, cv, ad, yy, _⟩ := X.mnew
    obtain ⟨oL, qL⟩ := yy.exist _ List.mem_cons_self
    have hLa : (callEnvC fd s.heap.objs.size f).locals < h'.objs.size := Heap.lt_size qL
    have fa : h'.get? h'.objs.size = none := Heap.get?_none_of_le (Nat.le_refl _)
    have pa : P h'.objs.size = none := none_of_in X.inn fa
    have g1 : Gr P s P { s with heap := h', toks := tk' } := Gr.keep st.p kp
    have fL : s.heap.get? (callEnvC fd s.heap.objs.size f).locals = none := Heap.get?_none_of_le (Nat.le_refl _)
    have offL : addV P h'.objs.size (genO s.gens.size (.str fd.name tk') (.str fd.qualname (tk' + 1))) (callEnvC fd s.heap.objs.size f).locals = none := by
      rw [addV_ne (Nat.ne_of_lt hLa)]
      exact none_of_in st.p fL
    have gP : (s.gens.push (.fresh (.func body (callEnvC fd s.heap.objs.size f))))[s.gens.size]? = some (.fresh (.func body (callEnvC fd s.heap.objs.size f))) := Array.getElem?_push_size
    have hle := addV_le (o := genO s.gens.size (.str fd.name tk') (.str fd.qualname (tk' + 1))) pa
    refine hQ h'.objs.size s.gens.size [(callEnvC fd s.heap.objs.size f).locals] (.str fd.name tk') (.str fd.qualname (tk' + 1)) (addV P h'.objs.size (genO s.gens.size (.str fd.name tk') (.str fd.qualname (tk' + 1)))) _ ?_ (Nat.le_trans tk (Nat.le_add_right _ 2)) addV_at (Nat.le_refl _) (fun b hb => ?_) (fun A' hA' => ?_)
    · refine ⟨hle, addV_in (fun b o e => Heap.get?_push_of_some _ (X.inn b o e)) (Heap.get?_push_size _ rfl), fun b o e => Heap.get?_push_of_some _ (kp b o e), fun b o e => ?_, ⟨fun j z e => ?_, fun h => AllBare.push h rfl⟩, rfl, rfl⟩
      · by_cases hb : b = h'.objs.size
        · subst hb; exact .inr (none_of_old kp fa)
        · rw [addV_ne hb] at e; exact .inl e
      · have := (Array.getElem?_eq_some_iff.mp e).1
        show (s.gens.push _)[j]? = _
        rw [Array.getElem?_push_lt this]
        exact (Array.getElem?_eq_some_iff.mp e).2 ▸ rfl
    · rw [List.mem_singleton.mp hb]
      exact ⟨fL, offL, oL, Heap.get?_push_of_some _ qL⟩
    · exact grdy_first hA' (st.b.up hle) (genO_is addV_at) hS X (hc _) ((Heap.get?_push_of_some _ qL).trans qL.symm) gP offL

/-- iter gives a generator -/
noncomputable def EvG (W : Wd) (env : Env) (Γ : List (Str × D)) (Δ : List (Str × List D)) (iter : Expr) (its : List D) : Prop :=
  ∀ (A : Around) (S P : Vw) (s : Shared) (E Q : Value → Shared → Prop), St W 3 A S P s → Cx S P env Γ Δ →
    (∀ a g own n1 n2 P' s', Gr P s P' s' → 1 ≤ s'.toks → P' a = some (genO g n1 n2) → s.gens.size ≤ g → (∀ b ∈ own, s.heap.get? b = none ∧ P' b = none ∧ ∃ o, s'.heap.get? b = some o) → (∀ A', AOk 3 A' → GRdy W.prog W.w A' a g P' its own s') → Q (.ref a) s') → wpAny W.M A (eval iter env) Q E s
theorem evg_call {W : Wd} {env : Env} {Γ : List (Str × D)} {Δ : List (Str × List D)} {z nm x : Str} {f : Addr} {fd : FuncData} {body : List Stmt} {its : List D} {p pos : Pos} {e : Expr} (n : NmG W env z (.ref f)) (Fk : FnK W.K f) (F : ∀ P, W.B P → FnPre W P f fd body [nm]) (hgen : fd.scope.isGenerator = true) (hc : ∀ L, (callEnvC fd L f).cells = []) (hS : GenSegs W fd body f nm x its)
    (h : Ev W 3 env Γ Δ e (.str x)) (hp : [e].all plainE = true := by rfl) (hpe : plainE e = true := by rfl) (hd : (z == ("__debug__" : Str)) = false := by decide) : EvG W env Γ Δ (.Call (.Name z p) [e] [] pos) its := fun A S P s E Q st hC hQ => by
  refine wpAny_Call_Name_kw (name_gl st.b st.p hC n ?_ hd)
  refine callWith_fn (ds := [.str x]) Fk hp st hC (evs_cons h evs_nil hpe) (fun h => nomatch h) fun vs P₁ s₁ g₁ tk₁ i₁ => ?_
  obtain ⟨v, rfl, iv⟩ := i₁.oneI
  refine wpAny_call (call_gen (F P₁ (st.b.up g₁.le)) hgen hc hS (st.next g₁ tk₁) iv fun a g own n1 n2 P' s' g₂ tk₂ ha hg hown hr => ?_)
  refine hQ a g own n1 n2 P' s' (g₁.trans g₂) tk₂ ha (Nat.le_trans ?_ hg) (fun b hb => ?_) hr
  · refine Nat.le_of_not_lt fun h => ?_
    have := g₁.gens.1 s₁.gens.size s.gens[s₁.gens.size] (by rw [Array.getElem?_eq_getElem h])
    exact absurd (Array.getElem?_eq_some_iff.mp this).1 (Nat.lt_irrefl _)
  · obtain ⟨h1, h2, h3⟩ := hown b hb
    exact ⟨none_of_old g₁.old h1, h2, h3⟩
theorem letOwned_gen {prog : Program} {w : World} {A : Around} {E : Value → Shared → Prop} {s : Shared} {elts : List Expr} {x1 : Nat} {pos : Pos} {a T : Addr} {g : Nat} {n1 n2 : Value} {Q : Unit → Shared → Prop} (h : s.heap.get? a = some (genO g n1 n2)) (hQ : Q () s) : wpAny (model prog w) A (letOwnedTupleGo (.Tuple elts x1 pos) (.ref a) (.ref T)) Q E s := by
  refine wpAny_bind (wpAny_load h ?_)
  change wpAny _ A (if (["enumerate", "zip", "dict_itemiterator", "dict_reverseitemiterator", "odict_iterator", "itertools.zip_longest", "itertools.pairwise"].contains "generator" && _) = true then _ else _) Q E s
  rw [show (["enumerate", "zip", "dict_itemiterator", "dict_reverseitemiterator", "odict_iterator", "itertools.zip_longest", "itertools.pairwise"].contains "generator") = false from by decide, Bool.false_and, if_neg Bool.false_ne_true]
  exact wpAny_pure hQ
section
variable {W : Wd} {k : Nat} {A : Around} {env : Env} {s₀ : Shared} {P₀ H : Vw} {Γ : List (Str × D)} {Δ : List (Str × List D)} {Mx : List (Addr × MO)} {P : Vw} {s : Shared} {E : Value → Shared → Prop} {Q : Flow → Shared → Prop}
theorem GG.set {g0 g1 : Array GenState} {i : Nat} {x : GenState} (h : GG g0 g1) (hi : g0.size ≤ i) (hx : x.bare = true) : GG g0 (g1.setIfInBounds i x) := by
  refine ⟨fun j y e => ?_, fun hb z hz => ?_⟩
  · have hj := (Array.getElem?_eq_some_iff.mp e).1
    rw [Array.getElem?_setIfInBounds_ne (by omega)]
    exact h.1 j y e
  · rcases Array.mem_or_eq_of_mem_setIfInBounds hz with q | rfl
    · exact h.2 hb z q
    · exact hx
theorem GG.size {g0 g1 : Array GenState} (h : GG g0 g1) : g0.size ≤ g1.size := by
  refine Nat.le_of_not_lt fun q => ?_
  have := h.1 g1.size g0[g1.size] (by rw [Array.getElem?_eq_getElem q])
  exact absurd (Array.getElem?_eq_some_iff.mp this).1 (Nat.lt_irrefl _)
theorem s_forG {x y : Str} {px py tp pos : Pos} {kk : Nat} {iter : Expr} {body rest : List Stmt} {its : List D} (X : At W (k + 3) A env s₀ P₀ H Γ Δ Mx P s) (hI : EvG (W.at Mx) env Γ Δ iter its) (hx : Bindable env x) (hy : Bindable env y)
    (J : Nat → List (Str × D) → List (Str × List D) → List (Addr × MO) → Prop) (B : List (Str × D) → List (Str × List D) → List (Addr × MO) → Prop) (hJ : J 0 Γ Δ Mx)
    (hits : ∀ d ∈ its, ∃ d1 d2, d = .tup [d1, d2])
    (turn : ∀ i d1 d2 s₁ H' Γ' Δ' Mx' P' s' (E' : Value → Shared → Prop), its[i]? = some (.tup [d1, d2]) → J i Γ' Δ' Mx' → At W (k + 3) A env s₁ P' H' ((y, d2) :: rm y ((x, d1) :: rm x Γ')) (rm y (rm x Δ')) Mx' P' s' →
      (∀ Γ'' Δ'' Mx'' P'' s'', At W (k + 3) A env s₁ P' H' Γ'' Δ'' Mx'' P'' s'' → At W (k + 3) A env s₀ P₀ H Γ'' Δ'' Mx'' P'' s'') →
      wpAny W.M A (execs body env) (ForQ W (k + 3) A env s₁ P' H' Q B (J (i + 1))) E' s')
    (done : ∀ Γ' Δ' Mx' P' s', J its.length Γ' Δ' Mx' ∨ B Γ' Δ' Mx' → At W (k + 3) A env s₀ P₀ H Γ' Δ' Mx' P' s' → wpAny W.M A (execs rest env) Q E s')
    (hs : ∀ v, foldedSetIterable iter env v = pure v := by intro _; rfl) : wpAny W.M A (execs (.For (.Tuple [.Name x px, .Name y py] kk tp) iter body [] pos :: rest) env) Q E s := by
  refine wpAny_execs_cons (wpAny_For (hI A _ P s E _ { X.st with a := X.a.le (by omega) } X.cx fun a g own n1 n2 P₁ s₁ g₁ tk₁ ha hgs hown hrdy => wpAny_pyIter_gen (genO_is ha _ g₁.inn) ?_) hs)
  have X₁ := X.gr g₁ tk₁
  have hg0 : s₀.gens.size ≤ g := Nat.le_trans X.gens.size hgs
  have hown₁ : ∀ b ∈ own, s₀.heap.get? b = none ∧ H b = none ∧ P₁ b = none ∧ ∃ o, s₁.heap.get? b = some o := fun b hb => by
    obtain ⟨h1, h2, h3⟩ := hown b hb
    exact ⟨(X.none₀ h1).1, (X.none₀ h1).2, h2, h3⟩
  have X₂ : At W (k + 3) A env s₀ P₀ (HX H own s₁.heap) Γ Δ Mx P₁ s₁ := by
    refine At.stepX X₁ (fun _ _ => rfl) ⟨Le.refl _, g₁.inn, fun _ _ _ e => e, fun _ _ e => .inl e, GG.refl _, rfl, rfl⟩ tk₁ ?_ (fun b hb => (hown₁ b hb).1) (fun b hb => (hown₁ b hb).2.2.1) X₁.gens
    obtain ⟨m, cv, ad, yy, _, ho⟩ := X.gr_own g₁
    exact ⟨m, cv, ad, yy, fun b hb => ho b (hown b hb).1⟩
  refine codeAny_forLoop_any (fun j s' => ∃ i Γ' Δ' Mx' P' own, i ≤ its.length ∧ j = its.length + 1 - i ∧ J i Γ' Δ' Mx' ∧ Le P₁ P' ∧ (∀ b ∈ own, s₀.heap.get? b = none ∧ H b = none ∧ P' b = none ∧ ∃ o, s'.heap.get? b = some o) ∧ GRdy W.prog W.w A a g P₁ (its.drop i) own s' ∧ At W (k + 3) A env s₀ P₀ (HX H own s'.heap) Γ' Δ' Mx' P' s') ?_ (its.length + 1)
    ⟨0, Γ, Δ, Mx, P₁, own, Nat.zero_le _, rfl, hJ, Le.refl _, hown₁, hrdy A (X.a.le (by omega)), X₂⟩
  rintro j s' ⟨i, Γ', Δ', Mx', P', own, hi, rfl, hJ', le', hown', hr, X'⟩
  have p1 : In P₁ s'.heap := X'.inn.le le'
  have gsame : GSame P₁ own g s' s' := ⟨p1, X'.tk, fun _ _ => rfl, rfl⟩
  -- what the frame has behind a resume
  have step : ∀ own2 P2 s2 gs2, (∀ b ∈ own, b ∈ own2) → (∀ b ∈ own2, b ∈ own ∨ s'.heap.get? b = none) → GrQ own2 P₁ (s'.setGen g .running) P2 s2 → 1 ≤ s2.toks → (∀ b ∈ own2, P2 b = none) → gs2.bare = true →
      At W (k + 3) A env s₀ P₀ (HX H own2 s2.heap) Γ' Δ' Mx' (uni P' P2) (s2.setGen g gs2) ∧ (∀ b ∈ own2, s₀.heap.get? b = none ∧ H b = none ∧ uni P' P2 b = none) := by
    intro own2 P2 s2 gs2 h1 h2 q tk2 off2 hb2
    have hp' : ∀ b ∈ own2, P' b = none := fun b hb => by
      rcases h2 b hb with z | z
      · exact (hown' b z).2.2.1
      · exact none_of_in X'.inn z
    have hH2 : ∀ b ∈ own2, H b = none := fun b hb => by
      rcases h2 b hb with z | z
      · exact (hown' b z).2.1
      · cases qq : H b with
        | none => rfl
        | some o =>
          exfalso
          have n : b ∉ own := fun z' => by rw [(hown' b z').2.1] at qq; cases qq
          have := X'.hin b o (by rw [HX_out n]; exact qq)
          rw [z] at this; cases this
    have h02 : ∀ b ∈ own2, s₀.heap.get? b = none := fun b hb => by
      rcases h2 b hb with z | z
      · exact (hown' b z).1
      · cases qq : s₀.heap.get? b with
        | none => rfl
        | some o => obtain ⟨o', q'⟩ := X'.ext b o qq; rw [z] at q'; cases q'
    have offU : ∀ b ∈ own2, uni P' P2 b = none := fun b hb => by
      unfold uni; rw [hp' b hb, off2 b hb]; rfl
    have XR : At W (k + 3) A env s₀ P₀ (HX H own s'.heap) Γ' Δ' Mx' P' (s'.setGen g .running) := { X' with gens := X'.gens.set hg0 rfl }
    refine ⟨At.stepX (own := own2) XR (fun b hb => HX_out fun z => hb (h1 b z)) (q.up le' X'.inn hp') tk2 ?_ h02 offU ?_, fun b hb => ⟨h02 b hb, hH2 b hb, offU b hb⟩⟩
    · obtain ⟨m, cv, ad, yy, _⟩ := XR.mnew
      refine ⟨m, cv, ad, yy, fun b hb hm => ?_⟩
      rcases h2 b hb with z | z
      · have := yy.offH b hm
        rw [HX_in z] at this
        obtain ⟨o, e⟩ := (hown' b z).2.2.2
        rw [e] at this; cases this
      · obtain ⟨o, e⟩ := yy.exist b hm
        rw [show (s'.setGen g .running).heap.get? b = s'.heap.get? b from rfl, z] at e; cases e
    · exact GG.set (XR.gens.trans q.gens) hg0 hb2
  by_cases hlt : i < its.length
  · obtain ⟨d, hd⟩ : ∃ d, its[i]? = some d := ⟨its[i], by rw [List.getElem?_eq_getElem]⟩
    obtain ⟨d1, d2, rfl⟩ := hits d (List.mem_of_getElem? hd)
    have hdr : its.drop i = .tup [d1, d2] :: its.drop (i + 1) := by
      obtain ⟨h1, h2⟩ := List.getElem?_eq_some_iff.mp hd
      rw [← h2]; exact List.drop_eq_getElem_cons h1
    rw [hdr] at hr
    refine hr s' _ _ gsame fun own2 P2 v s2 gs2 h1 h2 q tk2 off2 ex2 hb2 hsz iv hr2 => ?_
    obtain ⟨X2, ok2⟩ := step own2 P2 s2 gs2 h1 h2 q tk2 off2 hb2
    have leU : Le P' (uni P' P2) := uni_left
    have iv' : Is (uni P' P2) v (.tup [d1, d2]) := iv.mono (uni_right (X'.inn.le (Le.refl _) |> fun z => (q.up le' X'.inn (fun b hb => by
      have := (ok2 b hb).2.2
      unfold uni at this
      cases qq : P' b with
      | none => rfl
      | some o => rw [qq] at this; cases this)).inn.le leU) q.inn)
    obtain ⟨T, v1, v2, nn, rfl, qT, i1, i2⟩ := tup2 iv'
    refine letOwned_gen (X2.inn _ _ (leU _ _ (le' _ _ ha))) ?_
    refine wpAny_assign_Tuple X2.a.1 ⟨_, X2.inn _ _ qT, rfl, nn, rfl⟩ rfl rfl fun h3 hk3 => ?_
    have X2' : At W (k + 3) A env { s₀ with gens := (s2.setGen g gs2).gens } P₀ (HX H own2 s2.heap) Γ' Δ' Mx' (uni P' P2) (s2.setGen g gs2) := { X2 with gens := GG.refl _ }
    have X3 := X2'.same (ext_keep hk3) X2.tk
    refine assignInOrder_cons (assign_Name (X3.name i1 hx fun s4 X4 => assignInOrder_cons (assign_Name (X4.name i2 hy fun s5 X5 => assignInOrder_nil ?_))))
    -- the generator's state and objects stand as the frame goes on
    have e5 : ∀ b ∈ own2, s5.heap.get? b = s2.heap.get? b := fun b hb => by
      obtain ⟨o, e⟩ := ex2 b hb
      rw [e]; exact X5.hin b o (by rw [HX_in hb]; exact e)
    have toS : ∀ {P0 H0 Γ'' Δ'' Mx'' P'' s''}, At W (k + 3) A env { s₀ with gens := (s2.setGen g gs2).gens } P0 H0 Γ'' Δ'' Mx'' P'' s'' → At W (k + 3) A env s₀ P0 H0 Γ'' Δ'' Mx'' P'' s'' := fun Y => { Y with gens := X2.gens.trans Y.gens }
    have hless : Le H (HX H own2 s2.heap) := fun b o e => by
      have n : b ∉ own2 := fun z => by rw [(ok2 b z).2.1] at e; cases e
      rw [HX_out n]; exact e
    have hgen : (s2.setGen g gs2).gens[g]? = some gs2 := Array.getElem?_setIfInBounds_self_of_lt hsz
    have go : ∀ Γ'' Δ'' Mx'' P'' s4, J (i + 1) Γ'' Δ'' Mx'' → At W (k + 3) A env { s₀ with gens := (s2.setGen g gs2).gens } (uni P' P2) (HX H own2 s2.heap) Γ'' Δ'' Mx'' P'' s4 → ∃ m, m < its.length + 1 - i ∧ ∃ i Γ' Δ' Mx' P' own, i ≤ its.length ∧ m = its.length + 1 - i ∧ J i Γ' Δ' Mx' ∧ Le P₁ P' ∧ (∀ b ∈ own, s₀.heap.get? b = none ∧ H b = none ∧ P' b = none ∧ ∃ o, s4.heap.get? b = some o) ∧ GRdy W.prog W.w A a g P₁ (its.drop i) own s4 ∧ At W (k + 3) A env s₀ P₀ (HX H own s4.heap) Γ' Δ' Mx' P' s4 := by
      intro Γ'' Δ'' Mx'' P'' s4 hJ4 Y
      have e4 : ∀ b ∈ own2, s4.heap.get? b = s2.heap.get? b := fun b hb => by
        obtain ⟨o, e⟩ := ex2 b hb
        rw [e]; exact Y.hin b o (by rw [HX_in hb]; exact e)
      have eH : HX H own2 s2.heap = HX H own2 s4.heap := by
        funext b
        by_cases hb : b ∈ own2
        · rw [HX_in hb, HX_in hb, e4 b hb]
        · rw [HX_out hb, HX_out hb]
      refine ⟨its.length + 1 - (i + 1), ar_step hlt, i + 1, Γ'', Δ'', Mx'', P'', own2, hlt, rfl, hJ4, le'.trans (leU.trans Y.le), fun b hb => ⟨(ok2 b hb).1, (ok2 b hb).2.1, ?_, ?_⟩, ?_, ?_⟩
      · cases qq : P'' b with
        | none => rfl
        | some o =>
          rcases Y.newH b o qq with z | z
          · rw [(ok2 b hb).2.2] at z; cases z
          · obtain ⟨o', e⟩ := ex2 b hb
            rw [HX_in hb, e] at z; cases z
      · obtain ⟨o, e⟩ := ex2 b hb
        exact ⟨o, (e4 b hb).trans e⟩
      · exact hr2.move (fun b hb => e4 b hb) ((Y.gens.1 g gs2 hgen).trans hgen.symm)
      · rw [← eH]; exact (toS X5).back (toS Y)
    refine wpAny_mono (turn i d1 d2 _ _ Γ' Δ' Mx' _ s5 _ hd hJ' X5.rebase fun Γ'' Δ'' Mx'' P'' s'' Y => ((toS X5).back (toS Y)).lessH hless) (fun f s4 z => ?_) fun _ _ z => z
    cases f with
    | next => obtain ⟨Γ'', Δ'', Mx'', P'', hJ4, Y⟩ := z; exact go _ _ _ _ _ hJ4 Y
    | cont => obtain ⟨Γ'', Δ'', Mx'', P'', hJ4, Y⟩ := z; exact go _ _ _ _ _ hJ4 Y
    | brk => obtain ⟨Γ'', Δ'', Mx'', P'', hB, Y⟩ := z; exact done Γ'' Δ'' Mx'' P'' s4 (.inr hB) (((toS X5).back (toS Y)).lessH hless)
    | ret v => exact z
  · obtain rfl : i = its.length := Nat.le_antisymm hi (Nat.not_lt.mp hlt)
    rw [List.drop_length] at hr
    refine hr s' _ _ gsame fun own2 P2 s2 gs2 h1 h2 q tk2 off2 hb2 => ?_
    obtain ⟨X2, ok2⟩ := step own2 P2 s2 gs2 h1 h2 q tk2 off2 hb2
    refine wpAny_execs_nil (done Γ' Δ' Mx' _ _ (.inl hJ') (X2.lessH fun b o e => ?_))
    have n : b ∉ own2 := fun z => by rw [(ok2 b z).2.1] at e; cases e
    rw [HX_out n]; exact e
end
theorem At.vsub {W : Wd} {k : Nat} {A : Around} {env : Env} {s₀ : Shared} {P₀ H : Vw} {Γ Γ' : List (Str × D)} {Δ : List (Str × List D)} {Mx : List (Addr × MO)} {P : Vw} {s : Shared} (X : At W k A env s₀ P₀ H Γ Δ Mx P s) (h : ∀ p ∈ Γ', p ∈ Γ) : At W k A env s₀ P₀ H Γ' Δ Mx P s := by
  obtain ⟨m, cv, ad, y, hn⟩ := X.mnew
  exact { X with mnew := ⟨m, cv, ad, { y with vars := fun p hp => y.vars p (h p hp) }, hn⟩ }
theorem At.leaveH {W : Wd} {k : Nat} {A : Around} {env : Env} {s₃ : Shared} {P₀ H : Vw} {Γ : List (Str × D)} {Δ : List (Str × List D)} {Mx : List (Addr × MO)} {P : Vw} {s : Shared} {X' : List Addr} (X : At W k A env s₃ P₀ H Γ Δ Mx P s) (hH : H = offX X' s₃.heap) : GrM X' P₀ s₃ P s := by
  subst hH
  exact ⟨X.le, X.inn, fun b o n e => X.hin b o (offX_old n e), X.ext, X.new, X.gens, X.drawn, X.os⟩
theorem At.around {W : Wd} {k k' : Nat} {A A' : Around} {env : Env} {s₀ : Shared} {P₀ H : Vw} {Γ : List (Str × D)} {Δ : List (Str × List D)} {Mx : List (Addr × MO)} {P : Vw} {s : Shared} (X : At W k A env s₀ P₀ H Γ Δ Mx P s) (a : AOk k' A') : At W k' A' env s₀ P₀ H Γ Δ Mx P s := { X with a := a }
end
section
/-! attributes of a function -/
theorem slot_fn_ga : Slot "function" "__getattribute__" "object.__getattribute__" :=
  .of (owner := "object") (n := "__getattribute__") (by rw [typeLookup_type, builtinLookup_eq_fast]; kernel_rfl) (by decide +kernel) (by decide +kernel) (by decide +kernel)
    (by first | exact .inl (by decide +kernel) | exact .inr (by decide +kernel)) (by rw [isSubtype_type]; kernel_rfl)
theorem slot_fn_sa : Slot "function" "__setattr__" "object.__setattr__" :=
  .of (owner := "object") (n := "__setattr__") (by rw [typeLookup_type, builtinLookup_eq_fast]; kernel_rfl) (by decide +kernel) (by decide +kernel) (by decide +kernel)
    (by first | exact .inl (by decide +kernel) | exact .inr (by decide +kernel)) (by rw [isSubtype_type]; kernel_rfl)
theorem look_fn_read : typeLookup (.type "function") "read" = pure none := by rw [typeLookup_type, builtinLookup_eq_fast]; kernel_rfl
theorem look_fn_getattr : typeLookup (.type "function") "__getattr__" = pure none := by rw [typeLookup_type, builtinLookup_eq_fast]; kernel_rfl
noncomputable abbrev fnObj (dd : Addr) (fd : FuncData) : Obj := { cls := .type "function", dict := some dd, data := .func fd }
noncomputable abbrev fnObj0 (fd : FuncData) : Obj := { cls := .type "function", data := .func fd }
section
variable {prog : Program} {w : World} {A : Around} {E : Value → Shared → Prop} {s : Shared}
open Builtin Builtin.ObjectAttr
theorem look_dict {M : Model} {h : Heap} {dd : Addr} {es : List DictEntry} {n : Nat} {r : Option Value} {name : Str} (h2 : h.get? dd = some (dictOf es n)) (hv : getL name es = some r) : Looks M h (nsGet dd name) r := by
  refine looks_nsIn (K := [(dd, dictOf es n)]) (fun b o e => ?_) ?_
  · rw [List.lookup_cons] at e
    split at e
    · rename_i q; cases e; rw [beq_iff_eq.mp q]; exact h2
    · cases e
  · unfold nsIn
    rw [List.lookup_cons, beq_self_eq_true]
    exact hv
theorem find_fn {M : Model} {h : Heap} {st dd : Addr} {fd : FuncData} {es : List DictEntry} {n : Nat} {v : Value} (h1 : h.get? st = some (fnObj dd fd)) (h2 : h.get? dd = some (dictOf es n)) (hv : getL "read" es = some (some v)) : Looks M h (find (.ref st) (.type "function") "read") (.value v) := by
  have l1 := look_dict (M := M) h2 hv
  intro A Q E s k q
  have h1' := k _ _ h1
  refine wpAny_bind ?_
  rw [look_fn_read]
  refine wpAny_pure (wpAny_bind (wpAny_pure (wpAny_bind (wpAny_pure ?_))))
  refine wpAny_bind (m := inOwnDict "read" (.ref st)) (wpAny_bind (m := ownDict st) (wpAny_bind (m := loadHead st) (wpAny_load h1' ?_)))
  refine wpAny_bind (m := loadPart st _) (wpAny_loadPart h1' ?_)
  exact wpAny_pure (l1 A _ E s k (wpAny_bind (wpAny_rule (wpAny_pure q))))
theorem fn_getAttr {st dd : Addr} {fd : FuncData} {es : List DictEntry} {n : Nat} {v : Value} {Q : Value → Shared → Prop} (h1 : s.heap.get? st = some (fnObj dd fd)) (h2 : s.heap.get? dd = some (dictOf es n)) (hv : getL "read" es = some (some v)) (hh : handedIn v = true)
    (h : Q v { s with toks := s.toks + 1 }) : wpAny (model prog w) A (getAttr (.ref st) "read") Q E s := by
  have hT : ∀ tk', (⟨s.heap, s.gens, s.drawn, tk', s.os⟩ : Shared).TypeIs (.ref st) "function" := fun _ => ⟨_, h1, rfl⟩
  unfold getAttr
  refine wpAny_bind (wpAny_mkText ?_)
  unfold getAttrBy
  refine wpAny_holding (wpAny_bind (wpAny_typeOf (hT _) (wpAny_bind ?_)))
  rw [slot_fn_ga.lookup]
  refine wpAny_pure ?_
  show wpAny _ _ (getAttrByItsOwn _ _ _ _ _ _) _ _ _
  unfold getAttrByItsOwn
  refine wpAny_bind (wpAny_pure (wpAny_bind (wpAny_attempt (wpAny_holding ?_))))
  show wpAny _ _ (boundAndCalled _ _ _) _ _ _
  unfold boundAndCalled
  refine wpAny_bind ?_
  rw [slot_fn_ga.bind]
  refine wpAny_pure ?_
  refine wpAny_call_entry slot_fn_ga (hT _) PySem.F.entry_object_getattribute ?_ (by unfold argsOk; kernel_rfl)
  unfold Builtin.«object.__getattribute__»
  refine wpAny_bind (wpAny_of_eq (a := ((.ref st : Value), [Value.str "read" s.toks])) (by rfl) ?_)
  refine wpAny_bind (wpAny_of_eq (a := Str.ofString "read") (by rfl) ?_)
  refine wpAny_bind (wpAny_typeOf (hT _) (wpAny_bind ((find_fn h1 h2 hv).at ?_)))
  refine wpAny_pure ⟨v, rfl, ?_⟩
  show wpAny _ _ (handedOut v) _ _ _
  rw [handedOut_of hh]
  exact wpAny_pure h
theorem fn_getMethod {st dd : Addr} {fd : FuncData} {es : List DictEntry} {n : Nat} {v : Value} {pl : Sem Bool} {Q : Value × List Value → Shared → Prop} (h1 : s.heap.get? st = some (fnObj dd fd)) (h2 : s.heap.get? dd = some (dictOf es n)) (hv : getL "read" es = some (some v)) (hh : handedIn v = true)
    (h : Q (v, []) { s with toks := s.toks + 1 }) : wpAny (model prog w) A (getMethod (.ref st) "read" pl) Q E s := by
  have hT : s.TypeIs (.ref st) "function" := ⟨_, h1, rfl⟩
  unfold getMethod
  refine wpAny_bind (wpAny_specialOf hT slot_fn_ga.lookup ?_)
  show wpAny _ _ (if _ then _ else _) _ _ _
  rw [if_neg (by decide +kernel)]
  refine wpAny_bind (wpAny_specialOf hT look_fn_getattr ?_)
  show wpAny _ _ (specialOf _ _ >>= _) _ _ _
  refine wpAny_bind (wpAny_specialOf hT look_fn_read ?_)
  exact wpAny_bind (fn_getAttr h1 h2 hv hh (wpAny_pure h))
theorem thd_fn : typeHasDict (.type "function") = true := by decide +kernel
theorem mro_fn : mroOf (.type "function") = pure [.type "function", .type "object"] := by
  kernel_rfl
theorem refuse_fn (self : Value) : refuseLoop self "__setattr__" [.type "function", .type "object"] = pure () := by kernel_rfl
theorem fn_setAttr {st : Addr} {fd : FuncData} {v : Value} {Q : Unit → Shared → Prop} (h1 : s.heap.get? st = some (fnObj0 fd))
    (h : ∀ hs t h' n, (∀ b o, b ≠ st → s.heap.get? b = some o → h'.get? b = some o) → s.heap.get? s.heap.objs.size = none → h'.get? st = some (fnObj s.heap.objs.size fd) → h'.get? s.heap.objs.size = some (dictOf [⟨hs, .str "read" t, v⟩] n) → Q () { s with heap := h', toks := s.toks + 2 }) :
    wpAny (model prog w) A (setAttr (.ref st) "read" v) Q E s := by
  have hT : ∀ tk', (⟨s.heap, s.gens, s.drawn, tk', s.os⟩ : Shared).TypeIs (.ref st) "function" := fun _ => ⟨_, h1, rfl⟩
  unfold setAttr
  refine wpAny_bind (wpAny_mkText (wpAny_bind (wpAny_callSpecial?_slot (name := Str.ofString "__setattr__") (hT _) slot_fn_sa (wpAny_call_entry slot_fn_sa (hT _) PySem.F.entry_object_setattr ?_ (by unfold argsOk; kernel_rfl)))))
  rw [osa_eq, refuse_eq]
  refine wpAny_bind (wpAny_bind (wpAny_typeOf (hT _) (wpAny_bind ?_)))
  rw [mro_fn]
  refine wpAny_pure ?_
  rw [refuse_fn]
  refine wpAny_pure ?_
  refine wpAny_bind (wpAny_typeOf (hT _) (wpAny_bind ?_))
  rw [look_fn_read]
  refine wpAny_pure (wpAny_bind (wpAny_pure ?_))
  show wpAny _ _ (storeInOwnDict _ _ _ _ _ _) _ _ _
  unfold storeInOwnDict
  refine wpAny_bind (wpAny_of_eq (a := ()) (by rfl) ?_)
  rw [if_neg (by decide +kernel)]
  refine wpAny_bind (m := ownDictForStores (.ref st)) (wpAny_bind (m := loadPart st _) (wpAny_loadPart h1 ?_))
  show wpAny _ _ (if (!true || !typeHasDict (.type "function")) = true then _ else _) _ _ _
  rw [thd_fn, if_neg (by decide)]
  refine wpAny_bind (wpAny_alloc ?_)
  have hne : st ≠ s.heap.objs.size := Nat.ne_of_lt (Heap.lt_size h1)
  have q1 : (s.heap.push { cls := .type "dict", data := .dict #[] }).get? st = some (fnObj0 fd) := Heap.get?_push_of_some _ h1
  refine wpAny_bind (wpAny_update q1 ?_)
  generalize hH : (s.heap.push { cls := .type "dict", data := .dict #[] }).update st (fun o => { o with dict := some s.heap.objs.size }) = H
  have q2 : H.get? st = some (fnObj s.heap.objs.size fd) := hH ▸ Heap.get?_update_self _ q1 rfl
  have sb : Heap.SameBut st (s.heap.push { cls := .type "dict", data := .dict #[] }) H := hH ▸ Heap.SameBut.update ..
  have q3 : H.get? s.heap.objs.size = some (dictOf [] 0) := (sb.2 _ (Ne.symm hne)).trans (Heap.get?_push_size _ rfl)
  refine wpAny_of_eq (a := some s.heap.objs.size) (by kernel_rfl) ?_
  show wpAny _ _ (storeInDict _ _ _ _) _ _ _
  refine wpAny_bind (wpAny_of_eq (a := ()) (by rfl) (wpAny_bind ?_))
  unfold nsSet
  refine wpAny_bind (wpAny_bind (wpAny_askSetting (wpAny_pure (wpAny_bind (wpAny_mkText (wpAny_bind (wpAny_loadPart q3 ?_)))))))
  dsimp only
  rw [aRefKeyMayBeTheName_at, show ((!(([] : List DictEntry).toArray.any (·.key.isStr "read"))) && ([] : List DictEntry).toArray.any (·.refKey)) = false from by simp]
  refine wpAny_updatePart q3 ?_
  have D' : ∀ (hs : Int) (t : Tok), (H.update s.heap.objs.size (Obj.putName "read" hs (.str "read" t) v)).get? s.heap.objs.size = some (dictOf (putL "read" hs (.str "read" t) v []) (putN "read" [] 0)) := fun hs t => by
    have := Heap.get?_update_self (Obj.putName "read" hs (.str "read" t) v) q3 (by rw [putName_dict]; rfl)
    rw [this, putName_dict]
  refine wpAny_bind (wpAny_lookBehind (D' _ _) (by rw [pastItsLine_dict]; rw [List.size_toArray, sizeLine_eq]; exact Nat.le_trans (putL_len []) (by decide)) ?_)
  refine wpAny_pure ⟨_, rfl, ?_⟩
  refine wpAny_pure (h _ _ _ _ (fun b o n e => ?_) (Heap.get?_none_of_le (Nat.le_refl _)) ?_ (D' _ _))
  · exact (Heap.SameBut.update ..).extBut b o (fun z => by rw [z, Heap.get?_none_of_le (Nat.le_refl _)] at e; cases e) (sb.extBut b o n (Heap.get?_push_of_some _ e))
  · exact (Heap.SameBut.update ..).extBut _ _ hne q2
end
end
section
set_option maxHeartbeats 4000000
/-! owned objects, apart -/
theorem Dv.app {P : Vw} {s : Shared} {Mx R : List (Addr × MO)} (h : Dv P s (Mx ++ R)) : Dv P s Mx ∧ Dv P s R ∧ ∀ p ∈ R, p.1 ∉ ads Mx := by
  have nd : (ads Mx ++ ads R).Nodup := by have := h.nd; unfold ads at this ⊢; rwa [List.map_append] at this
  have n2 := List.nodup_append.mp nd
  exact ⟨⟨fun p hp => h.has p (List.mem_append_left _ hp), n2.1, fun p hp => h.off p (List.mem_append_left _ hp)⟩, ⟨fun p hp => h.has p (List.mem_append_right _ hp), n2.2.1, fun p hp => h.off p (List.mem_append_right _ hp)⟩,
    fun p hp hm => n2.2.2 _ hm _ (List.mem_map_of_mem hp) rfl⟩
theorem Dv.frame {P P' : Vw} {s s' : Shared} {Mx Mx' R : List (Addr × MO)} (h : Dv P s (Mx ++ R)) (g : GrM (ads Mx) P s P' s') (h' : Dv P' s' Mx') (ha : ads Mx' = ads Mx) : Dv P' s' (Mx' ++ R) := by
  obtain ⟨h1, h2, h3⟩ := h.app
  refine ⟨fun p hp => ?_, ?_, fun p hp => ?_⟩
  · rcases List.mem_append.mp hp with hp | hp
    · exact h'.has p hp
    · obtain ⟨o, q, i⟩ := h2.has p hp
      exact ⟨o, g.old _ _ (h3 p hp) q, i.mono g.le⟩
  · have e : ads (Mx' ++ R) = ads (Mx ++ R) := by unfold ads at ha ⊢; rw [List.map_append, List.map_append, ha]
    rw [e]; exact h.nd
  · rcases List.mem_append.mp hp with hp | hp
    · exact h'.off p hp
    · obtain ⟨o, q, i⟩ := h2.has p hp
      cases e : P' p.1 with
      | none => rfl
      | some o' =>
        rcases g.new _ _ e with z | z
        · rw [h2.off p hp] at z; cases z
        · rw [q] at z; cases z
theorem Dv.perm {P : Vw} {s : Shared} {Mx N : List (Addr × MO)} (h : Dv P s Mx) (e : N.Perm Mx) : Dv P s N :=
  ⟨fun p hp => h.has p (e.subset hp), (e.map _).nodup_iff.mpr h.nd, fun p hp => h.off p (e.subset hp)⟩
theorem KlM.frame {W : Wd} {k : Nat} {f : Value} {ds : List D} {d : D} {Mx Mx' : List (Addr × MO)} (h : KlM W k f ds d Mx Mx') (ha : ads Mx' = ads Mx) (R : List (Addr × MO)) : KlM W k f ds d (Mx ++ R) (Mx' ++ R) := fun A S P s E vs st i dv hQ =>
  h A S P s E vs st i dv.app.1 fun v P' s' g tk dv' i' => hQ v P' s' (g.wide fun b hb => by unfold ads at hb ⊢; rw [List.map_append]; exact List.mem_append_left _ hb) tk (dv.frame g dv' ha) i'
/-- a new object is owned -/
theorem At.own {W : Wd} {k : Nat} {A : Around} {env : Env} {s₀ : Shared} {P₀ H : Vw} {Γ : List (Str × D)} {Δ : List (Str × List D)} {Mx : List (Addr × MO)} {P : Vw} {s : Shared} {h' : Heap} {a : Addr} {ob : Obj} {mo : MO} {tk' : Nat} (X : At W k A env s₀ P₀ H Γ Δ Mx P s) (hk : ∀ b o, s.heap.get? b = some o → h'.get? b = some o) (tk : 1 ≤ tk')
    (ha : h'.get? a = some ob) (fa : s.heap.get? a = none) (hi : MIs P ob mo) : At W k A env s₀ P₀ H Γ Δ ((a, mo) :: Mx) P { s with heap := h', toks := tk' } := by
  have X' := X.same hk tk
  have pa : P a = none := none_of_in X.inn fa
  have qa : H a = none := none_of_in X.hin fa
  obtain ⟨m, cv, ad, y, hn⟩ := X.mnew
  have off : a ∉ ownOf env Δ ad Mx := fun hm => by
    obtain ⟨o, q⟩ := y.exist a hm
    rw [fa] at q; cases q
  have own : (ownOf env Δ ad ((a, mo) :: Mx)).Perm (a :: ownOf env Δ ad Mx) := by
    show (env.locals :: (env.cells.map (·.2) ++ (Δ.map (fun p => ad p.1) ++ (a :: Mx.map (·.1))))).Perm _
    refine List.Perm.trans (List.Perm.cons _ ?_) (List.Perm.swap _ _ _)
    rw [← List.append_assoc]
    refine List.Perm.trans List.perm_middle ?_
    rw [List.append_assoc]
  refine { X' with mnew := ⟨m, cv, ad, ⟨y.ns.keeps hk, fun p hp => ?_, y.vars, fun p hp => ?_, fun p hp => ?_, own.nodup_iff.mpr (List.nodup_cons.mpr ⟨off, y.nd⟩), y.cnd, fun b hb => ?_, fun b hb => ?_⟩, hn⟩ }
  · obtain ⟨o, q, d⟩ := y.cells p hp; exact ⟨o, hk _ _ q, d⟩
  · obtain ⟨vs, n, e, q, i⟩ := y.muts p hp; exact ⟨vs, n, e, hk _ _ q, i⟩
  · rcases List.mem_cons.mp hp with rfl | hp
    · exact ⟨_, ha, hi⟩
    · obtain ⟨o, q, i⟩ := y.raw p hp; exact ⟨o, hk _ _ q, i⟩
  · rcases List.mem_cons.mp (own.subset hb) with rfl | hb
    · exact pa
    · exact y.offP b hb
  · rcases List.mem_cons.mp (own.subset hb) with rfl | hb
    · exact qa
    · exact y.offH b hb
/-! the stream -/
noncomputable def sl1 (text : Str) (n : Nat) : Str := Txt.slice text (some (n : Int)) (some ((n : Int) + 1))
noncomputable def RdOk (W : Wd) (rd al : Addr) (text : Str) (l : List (Addr × Obj)) : Prop := ∀ (k n : Nat) (A : Around) (S P : Vw) (s : Shared) (R : Result → Shared → Prop) (v : Value), St W (k + 1) A S P s → (∀ p ∈ l, P p.1 = some p.2) → Is P v (.int 1) → Dv P s [(al, .list [.int n])] →
  (∀ v P' s', GrM [al] P s P' s' → 1 ≤ s'.toks → Dv P' s' [(al, .list [.int (n + 1 : Nat)])] → Is P' v (.str (sl1 text n)) → R (.ok (.ret v)) s') → codeAny W.M A (.call (.ref rd) ⟨[v], []⟩) R s
structure StreamOk (W : Wd) (st al : Addr) (text : Str) (l : List (Addr × Obj)) : Prop where
  has : ∃ dd fd0 hs tk n rd o fd, (st, fnObj dd fd0) ∈ l ∧ (dd, dictOf [⟨hs, .str "read" tk, .ref rd⟩] n) ∈ l ∧ (rd, o) ∈ l ∧ o.data = .func fd ∧ RdOk W rd al text l
noncomputable abbrev rdBody (p1 p2 p3 p4 p5 p6 p7 p8 p9 q1 q2 q3 q4 q5 q6 q7 q8 q9 q10 q11 q12 : Pos) (k1 k2 k3 k4 : Nat) : List Stmt :=
  [.Assign [.Subscript (.Name "at" p1) (.Constant (.int 0) k1 p2) p3] (.BinOp (.Subscript (.Name "at" p4) (.Constant (.int 0) k2 p5) p6) .Add (.Name "size" p7) p8) p9,
   .Return (some (.Subscript (.Name "text" q1) (.Slice (some (.BinOp (.Subscript (.Name "at" q2) (.Constant (.int 0) k3 q3) q4) .Sub (.Name "size" q5) q6)) (some (.Subscript (.Name "at" q7) (.Constant (.int 0) k4 q8) q9)) none q10) q11)) q12]
noncomputable abbrev rdEnv (fd : FuncData) (L rd : Addr) : Env := newEnv fd.scope L fd.globals fd.closure (fd.qualname ++ ".<locals>.") (some rd) fd.code none fd.builtins
theorem list1_set {P : Vw} {vs : List Value} {a : Int} {v : Value} {d : D} (h : IsAll P vs [.int a]) (i : Is P v d) : IsAll P (vs.set 0 v) [d] := by
  obtain ⟨_, rfl, _⟩ := h.oneI; exact .cons i .nil
theorem rd_ok {W : Wd} {rd al c1 c2 cc : Addr} {text : Str} {tt : Tok} {l : List (Addr × Obj)} {o oc1 oc2 occ : Obj} {fd : FuncData} {p1 p2 p3 p4 p5 p6 p7 p8 p9 q1 q2 q3 q4 q5 q6 q7 q8 q9 q10 q11 q12 : Pos} {k1 k2 k3 k4 : Nat} {vs : Array Value} {tq : Tok} (hsz : text.length ≤ sizeLine) (hraw : W.raws = [])
    (m1 : (rd, o) ∈ l) (hd : o.data = .func fd) (m2 : (c1, oc1) ∈ l) (d1 : oc1.data = .cell (some (.ref al))) (m3 : (c2, oc2) ∈ l) (d2 : oc2.data = .cell (some (.str text tt))) (m4 : (cc, occ) ∈ l) (d4 : occ.data = .fields vs) (d5 : vs[1]? = some (.str fd.qualname tq)) (d6 : fd.code = .ref cc)
    (hb : fd.body = .stmts (rdBody p1 p2 p3 p4 p5 p6 p7 p8 p9 q1 q2 q3 q4 q5 q6 q7 q8 q9 q10 q11 q12 k1 k2 k3 k4)) (hsc : fd.scope = { kind := .function, names := [("size", .local), ("at", .free), ("text", .free)], isGenerator := false, isCoroutine := false }) (hcl1 : fd.closure.lookup ("at" : Str) = some c1) (hcl2 : fd.closure.lookup ("text" : Str) = some c2)
    (hg : fd.globals = mainGlobals) (hbi : fd.builtins = builtinsNs) (hbind : ∀ v, bindArgs fd ⟨[v], []⟩ = pure [(("size" : Str), v)])
    (hs9 : ∀ env, swapsWith (.BinOp (.Subscript (.Name "at" p4) (.Constant (.int 0) k2 p5) p6) .Add (.Name "size" p7) p8) (some (.Subscript (.Name "at" p1) (.Constant (.int 0) k1 p2) p3)) p9.line env = pure false := by intro _; rfl) : RdOk W rd al text l := by
  intro k n A S P s R v st hl iv dv hR
  have T := st.b.top s.heap st.p
  have hk1 : fd.scope.kind = .function := by rw [hsc]
  refine codeAny_call_function (Nat.lt_of_le_of_lt (Nat.le_add_right _ _) st.a.2.1) (st.p _ _ (hl _ m1)) hd (by rw [hsc]) (by rw [hsc]) hb ⟨cc, occ, vs, tq, d6, st.p _ _ (hl _ m4), d4, d5⟩ ?_
  rw [hbind]
  refine wpAny_pure (wpAny_newFunctionEnv (by rw [hsc]; decide) (by rw [hsc]; intro y hy; rw [List.mem_singleton.mp hy]; rfl) (fun h' hns hsb => ⟨T.nolimit.fresh _ hsb, ?_⟩) hk1)
  have kp : ∀ b o, s.heap.get? b = some o → h'.get? b = some o := fun b o e => hsb.extBut b o (Nat.ne_of_lt (Heap.lt_size e)) (Heap.get?_push_of_some _ e)
  refine codeAny_func ?_
  rw [show ([(("size" : Str), v)] : List (Str × Value)).length = 1 from rfl]
  have g0 : Gr P s P { s with heap := h', toks := s.toks + 1 } := Gr.keep st.p kp
  have e1 : rdEnv fd s.heap.objs.size rd = newEnv fd.scope s.heap.objs.size fd.globals fd.closure (fd.qualname ++ ".<locals>.") (some rd) fd.code none fd.builtins := rfl
  rw [← e1]
  generalize he : rdEnv fd s.heap.objs.size rd = env
  have st1 : St W k (A.deeper env) (fun b => h'.get? b) P { s with heap := h', toks := s.toks + 1 } := ⟨st.a.deeper, st.b, fun _ _ e => e, g0.inn, Nat.le_add_left _ _, fun p hp => (st.rw p hp).imp fun o hh => ⟨kp _ _ (st.sv _ _ hh.1), hh.2⟩⟩
  obtain ⟨ol, hol, nsl⟩ := LCg.ns_obj hns
  have kz : env.kindOf "size" = some .local := by rw [← he]; show fd.scope.names.lookup _ = _; rw [hsc]; rfl
  have ka : env.kindOf "at" = some .free := by rw [← he]; show fd.scope.names.lookup _ = _; rw [hsc]; rfl
  have kt : env.kindOf "text" = some .free := by rw [← he]; show fd.scope.names.lookup _ = _; rw [hsc]; rfl
  have ca : env.cells.lookup ("at" : Str) = some c1 := by rw [← he]; exact hcl1
  have ct : env.cells.lookup ("text" : Str) = some c2 := by rw [← he]; exact hcl2
  have hL : env.locals = s.heap.objs.size := by rw [← he]; rfl
  obtain ⟨oa, qa, ia⟩ := dv.has _ List.mem_cons_self
  obtain ⟨va, na, rfl, iva⟩ := ia.listI
  have cx : ∀ (h2 : Heap) (va' : List Value) (na' : Nat) (j : Int), (∀ b o, b ≠ al → h'.get? b = some o → h2.get? b = some o) → h2.get? al = some (listOf va'.toArray na') → ∀ P2 : Vw, Le P P2 → IsAll P2 va' [.int j] → Cx (fun b => h2.get? b) P2 env [("size", .int 1), ("text", .str text)] [("at", [.int j])] := by
    intro h2 va' na' j hk2 hal P2 le2 iall
    have nal : ∀ b, P b ≠ none → b ≠ al := fun b hb z => hb (z ▸ dv.off _ List.mem_cons_self)
    have kP : ∀ b o, P b = some o → h2.get? b = some o := fun b o e => hk2 b o (nal b (by rw [e]; exact nofun)) (g0.inn _ _ e)
    refine ⟨by rw [← he]; exact hk1, by rw [← he]; exact hg, by rw [← he]; exact hbi, fun p hp => ?_, fun p hp => ?_⟩
    · simp only [List.mem_cons, List.not_mem_nil, or_false] at hp
      rcases hp with rfl | rfl
      · refine ⟨v, .loc kz (hk2 _ _ ?_ (hL ▸ hol)) nsl (by simp [List.lookup_cons]), iv.mono le2⟩
        rw [hL]
        intro z
        rw [← z, Heap.get?_none_of_le (Nat.le_refl _)] at qa
        cases qa
      · exact ⟨.str text tt, .cel (.inr kt) ct (kP _ _ (hl _ m3)) d2, .str _ _⟩
    · rw [List.mem_singleton.mp hp]
      exact ⟨al, va', na', .cel (.inr ka) ca (kP _ _ (hl _ m2)) d1, hal, iall⟩
  have cx1 := cx h' va na n (fun _ _ _ e => e) (kp _ _ qa) P (Le.refl _) iva
  refine wpAny_execs_cons (wpAny_Assign_Subscript ((ev_bin (ev_item_list nm ev_int (by rfl)) nv op_add_int) (A.deeper env) (fun b => h'.get? b) P _ _ _ st1 cx1 fun u P1 s1 g1 tk1 i1 => ?_) (hs9 _))
  have st2 := st1.next g1 tk1
  have qa1 : s1.heap.get? al = some (listOf va.toArray na) := g1.old _ _ (kp _ _ qa)
  refine name_read (by rw [← he]; exact hk1) st2.sv (NameOk.cel (.inr ka) ca (g0.inn _ _ (hl _ m2)) d1) ?_ (by decide) (by decide)
  refine wpAny_Constant_int ?_
  have hlen : va.toArray.size = 1 := by rw [List.size_toArray, iva.length]; rfl
  refine PySem.W.ki_setAt (s := { s1 with toks := s1.toks + 1 }) qa1 (by decide) (by decide) (by rw [hlen]; decide) ?_
  have ho' := Heap.get?_update_self (Obj.mapSeq (·.setIfInBounds (0 : Int).toNat u)) qa1 (by simp [PySem.W.listOf, Obj.mapSeq, Obj.isFreed])
  generalize hh2 : s1.heap.update al (Obj.mapSeq (·.setIfInBounds (0 : Int).toNat u)) = h2 at ho'
  have sb2 : ∀ b o, b ≠ al → s1.heap.get? b = some o → h2.get? b = some o := fun b o nb e => hh2 ▸ (Heap.SameBut.update ..).extBut b o nb e
  have ho2 : h2.get? al = some (listOf (va.set 0 u).toArray na) := ho'.trans (by simp [PySem.W.listOf, Obj.mapSeq])
  have i2 : IsAll P1 (va.set 0 u) [.int ((n : Int) + 1)] := list1_set (iva.mono g1.le) i1
  have p1al : P1 al = none := (gr_none g1 ⟨dv.off _ List.mem_cons_self, _, kp _ _ qa⟩).1
  have inn2 : In P1 h2 := fun b o e => sb2 b o (fun z => by rw [z, p1al] at e; cases e) (g1.inn _ _ e)
  have cx2 := cx h2 _ na (n + 1) (fun b o nb e => sb2 b o nb (g1.old _ _ e)) ho2 P1 g1.le i2
  have gM : GrM [al] P s P1 { s1 with heap := h2, toks := s1.toks + 1 } := by
    have g01 := g0.trans g1
    refine ⟨g01.le, inn2, fun b o nb e => sb2 b o (by simpa using nb) (g01.old _ _ e), fun b o e => ?_, g01.new, g01.gens, g01.drawn, g01.os⟩
    by_cases hb : b = al
    · rw [hb]; exact ⟨_, ho2⟩
    · exact ⟨_, sb2 b o hb (g01.old _ _ e)⟩
  have st3 : St W k (A.deeper env) (fun b => h2.get? b) P1 { s1 with heap := h2, toks := s1.toks + 1 } := ⟨st.a.deeper, st2.b, fun _ _ e => e, inn2, Nat.le_add_left _ _, fun p hp => by rw [hraw] at hp; cases hp⟩
  refine wpAny_execs_cons (wpAny_Return_some ((ev_slice_str nv (evo_some (ev_bin (ev_item_list nm ev_int (by rfl)) nv op_sub_int)) (evo_some (ev_item_list nm ev_int (by rfl))) hsz) (A.deeper env) (fun b => h2.get? b) P1 _ _ _ st3 cx2 fun u2 P3 s3 g3 tk3 i3 => ?_))
  have qa3 := g3.old _ _ ho2
  refine hR u2 P3 s3 (gM.trans (g3.m [al])) tk3 ⟨fun p hp => ?_, by simp [ads], fun p hp => ?_⟩ ?_
  · rw [List.mem_singleton.mp hp]
    exact ⟨_, qa3, .list (i2.mono g3.le)⟩
  · rw [List.mem_singleton.mp hp]
    exact (gr_none g3 ⟨p1al, _, ho2⟩).1
  · have : Txt.slice text (some ((n : Int) + 1 - 1)) (some ((n : Int) + 1)) = sl1 text n := by
      unfold sl1; rw [Int.add_sub_cancel]
    rw [← this]; exact i3
end
section
/-! iter(f, '') upon a bound method -/
theorem wpAny_callBorrowed {M : Model} {A : Around} {E : Value → Shared → Prop} {s : Shared} {f : Value} {pos : List Value} {Q : Value → Shared → Prop}
    (hc : codeAny M A (.call f ⟨pos, []⟩) (fun r s' => match r with | .ok (.ret v) => Q v s' | .ok _ => False | .error e => E e s') s) : wpAny M A (callBorrowed f pos) Q E s := fun Γ p hΓ => by
  have h := hc _ p rfl (hΓ.enter (.call f ⟨pos, []⟩) none p (by intro x; cases x))
  show wpCode M _ _ p s
  refine wpCode_mono (fun r s' q => ?_) h
  cases r with
  | error e => exact q
  | ok fl => cases fl <;> first | exact q | exact q.elim
theorem slot_ci_next : Slot "callable_iterator" "__next__" "callable_iterator.__next__" :=
  .of (owner := "callable_iterator") (n := "__next__") (by rw [typeLookup_type, builtinLookup_eq_fast]; kernel_rfl) (by decide +kernel) (by decide +kernel) (by decide +kernel)
    (by first | exact .inl (by decide +kernel) | exact .inr (by decide +kernel)) (by rw [isSubtype_type]; kernel_rfl)
theorem entry_ci_next : entryFor table "callable_iterator.__next__" = some Builtin.«callable_iterator.__next__» := entryFor_of_tree (by kernel_rfl)
theorem slot_ci_iter : Slot "callable_iterator" "__iter__" "callable_iterator.__iter__" :=
  .of (owner := "callable_iterator") (n := "__iter__") (by rw [typeLookup_type, builtinLookup_eq_fast]; kernel_rfl) (by decide +kernel) (by decide +kernel) (by decide +kernel)
    (by first | exact .inl (by decide +kernel) | exact .inr (by decide +kernel)) (by rw [isSubtype_type]; kernel_rfl)
theorem look_method_call : typeLookup (.type "method") "__call__" = pure (some (.builtin "method.__call__")) := by rw [typeLookup_type, builtinLookup_eq_fast]; kernel_rfl
theorem kind_iter : builtinKind "iter" = none := by decide +kernel
theorem plain_iter : plainId "iter" = true := by decide +kernel
theorem entry_iter : entryFor table "iter" = some Builtin.«iter» := entryFor_of_tree (by kernel_rfl)
theorem args_iter_2 (a b : Value) : argsOk "iter" ⟨[a, b], []⟩ := by unfold argsOk; kernel_rfl
theorem entry_ci_iter : entryFor table "callable_iterator.__iter__" = some Builtin.«dict_keyiterator.__iter__» :=
  entryFor_alias (id' := "dict_keyiterator.__iter__") (by kernel_rfl) rfl (by decide +kernel) (by kernel_rfl)
noncomputable abbrev ciObj (a b c : Value) : Obj := { cls := .type "callable_iterator", data := .fields #[a, b, c] }
section
variable {prog : Program} {w : World} {A : Around} {E : Value → Shared → Prop} {s : Shared}
theorem call_iter2 {m : Addr} {b : Value} {Q : Value → Shared → Prop} (hm : s.TypeIs (.ref m) "method") (h : Q (.ref s.heap.objs.size) { s with heap := s.heap.push (ciObj (.ref m) b (.bool false)) }) : wpAny (model prog w) A (call (.builtin "iter") [.ref m, b]) Q E s := by
  refine Calls.call_function_entry kind_iter plain_iter entry_iter (args_iter_2 _ _) ?_
  unfold Builtin.«iter»
  refine wpAny_bind (wpAny_of_eq (a := [.ref m, b]) (by first | rfl | kernel_rfl) ?_)
  dsimp only
  refine wpAny_bind (wpAny_specialOf hm look_method_call ?_)
  refine wpAny_bind (wpAny_rule (wpAny_bind ?_))
  rw [newFields]
  refine wpAny_newObj_type ?_ (by size_fits)
  exact wpAny_pure ⟨_, rfl, h⟩
theorem pyIter_ci {ci : Addr} {o : Obj} {Q : Value → Shared → Prop} (hc : s.heap.get? ci = some o) (ht : o.cls = .type "callable_iterator") (h : Q (.ref ci) s) : wpAny (model prog w) A (pyIter (.ref ci)) Q E s := by
  have ty : s.TypeIs (.ref ci) "callable_iterator" := ⟨_, hc, ht⟩
  refine wpAny_pyIter_slot ty slot_ci_iter (wpAny_call_entry slot_ci_iter ty entry_ci_iter ?_ (by unfold argsOk; kernel_rfl))
  show wpAny _ _ (ret (.ref ci)) _ _ s
  exact wpAny_pure ⟨_, rfl, "callable_iterator", _, ty, slot_ci_next.lookup, h⟩
theorem pyNext_ci {ci m x f : Addr} {y : Str} {t : Tok} {of : Obj} {fd : FuncData} {Q : Option Value → Shared → Prop} (hh : A.handled = none) (h1 : s.heap.get? ci = some (ciObj (.ref m) (.str y t) (.bool false))) (hm : s.heap.get? m = some (methodObj (.ref f) (.ref x))) (hf : s.heap.get? f = some of) (hfd : of.data = .func fd)
    (hc : codeAny (model prog w) A.in1 (.call (.ref f) ⟨[.ref x], []⟩) (fun r s' => ∃ ch t', r = .ok (.ret (.str ch t')) ∧ s'.heap.get? ci = some (ciObj (.ref m) (.str y t) (.bool false)) ∧ s'.heap.get? m = some (methodObj (.ref f) (.ref x)) ∧ s'.heap.get? f = some of ∧
      ((y == ch) = true → ∀ h', Heap.ExtBut ci s'.heap h' → h'.get? ci = some (ciObj .none .none (.bool true)) → Q none { s' with heap := h' }) ∧ ((y == ch) = false → Q (some (.str ch t')) s')) s) : wpAny (model prog w) A (pyNext (.ref ci)) Q E s := by
  have ty : s.TypeIs (.ref ci) "callable_iterator" := ⟨_, h1, rfl⟩
  have be : ∀ (A' : Around) (E' : Value → Shared → Prop) (Q' : Bool → Shared → Prop) (s' : Shared), s'.heap.get? m = some (methodObj (.ref f) (.ref x)) → s'.heap.get? f = some of → Q' true s' → wpAny (model prog w) A' (borrowsExactly (.ref m)) Q' E' s' := by
    intro A' E' Q' s' e1 e2 q
    refine wpAny_bind (m := load m) (wpAny_load e1 ?_)
    show wpAny _ _ (load f >>= _) _ _ _
    refine wpAny_bind (wpAny_load e2 ?_)
    rw [hfd]
    exact wpAny_pure q
  rw [pyNext]
  refine wpAny_bind (wpAny_attempt (wpAny_callSpecial?_slot (name := Str.ofString "__next__") ty slot_ci_next (wpAny_call_entry slot_ci_next ty entry_ci_next ?_ (by unfold argsOk; kernel_rfl))))
  unfold Builtin.«callable_iterator.__next__»
  refine wpAny_bind (wpAny_of_eq (a := ((.ref ci : Value), ([] : List Value))) (by rfl) ?_)
  dsimp only
  refine wpAny_bind (wpAny_field h1 rfl (x := .bool false) rfl ?_)
  rw [if_neg (by decide)]
  refine wpAny_bind (wpAny_field h1 rfl (x := .ref m) rfl (wpAny_bind (wpAny_attempt ?_)))
  rw [callOutOfASlot]
  refine wpAny_bind (be _ _ _ _ hm hf ?_)
  rw [if_pos rfl]
  refine wpAny_callBorrowed (method_call hm (codeAny_mono hc fun r s' z => ?_))
  obtain ⟨ch, t', rfl, z1, z2, z3, z4, z5⟩ := z
  dsimp only
  refine wpAny_bind (wpAny_field z1 rfl (x := .bool false) rfl ?_)
  rw [if_neg (by decide)]
  refine wpAny_bind (wpAny_field z1 rfl (x := .str y t) rfl (wpAny_bind (wpAny_holding (eqBool_str ?_))))
  cases hyc : (y == ch) with
  | false =>
    rw [if_pos (by rfl)]
    refine wpAny_bind (wpAny_pure (wpAny_pure ?_))
    exact ⟨_, rfl, wpAny_pure (z5 hyc)⟩
  | true =>
    rw [if_neg (by decide)]
    refine wpAny_bind (wpAny_rule (wpAny_bind ?_))
    change wpAny _ _ (field (.ref ci) 0 >>= fun v => slotLetsGo "callable_iterator.__next__" v _ >>= fun _ => setField (.ref ci) 0 .none >>= fun _ => setField (.ref ci) 1 .none >>= fun _ => setField (.ref ci) 2 (.bool true)) _ _ _
    refine wpAny_bind (wpAny_field z1 rfl (x := .ref m) rfl (wpAny_bind ?_))
    rw [slotLetsGo]
    refine wpAny_bind (be _ _ _ _ z2 z3 ?_)
    rw [if_pos rfl]
    refine wpAny_pure (wpAny_bind (wpAny_setField z1 rfl (by simp) ?_))
    have u1 := Heap.get?_update_self (Obj.mapFields (·.setIfInBounds 0 Value.none)) z1 rfl
    refine wpAny_bind (wpAny_setField u1 rfl (by simp) ?_)
    have u2 := Heap.get?_update_self (Obj.mapFields (·.setIfInBounds 1 Value.none)) u1 rfl
    refine wpAny_setField u2 rfl (by simp) ?_
    have u3 := Heap.get?_update_self (Obj.mapFields (·.setIfInBounds 2 (Value.bool true))) u2 rfl
    change wpAny _ _ (newExc (.type "StopIteration") [] >>= _) _ _ _
    apply wpAny_bind
    rw [newExc, newTuple]
    apply wpAny_bind
    refine wpAny_newObj_type ?_ (by size_fits)
    refine wpAny_bind (m := firstArgMember _ _) (wpAny_of_eq (a := Value.none) (by first | rfl | (simp only [firstArgMember]; rfl)) ?_)
    refine wpAny_newObj_type ?_ (by size_fits)
    rw [raiseNew]
    apply wpAny_bind
    apply wpAny_handled
    rw [show A.in1.handled = none from hh]
    refine wpAny_bind (wpAny_pure (wpAny_throw ?_))
    refine wpAny_bind (wpAny_isInstance (T := "StopIteration") (b := true) ⟨_, Heap.get?_push_size _ rfl, rfl⟩ isSubtype_stop (wpAny_pure ?_))
    refine z4 hyc _ (fun b o n e => Heap.get?_push_of_some _ (Heap.get?_push_of_some _ ?_)) (Heap.get?_push_of_some _ (Heap.get?_push_of_some _ u3))
    exact (Heap.SameBut.update ..).extBut b o n ((Heap.SameBut.update ..).extBut b o n ((Heap.SameBut.update ..).extBut b o n e))
/-- an ended one stays at its end -/
theorem pyNext_ciE {ci : Addr} {a b : Value} {Q : Option Value → Shared → Prop} (hh : A.handled = none) (h1 : s.heap.get? ci = some (ciObj a b (.bool true))) (h : ∀ h', (∀ b o, s.heap.get? b = some o → h'.get? b = some o) → Q none { s with heap := h' }) : wpAny (model prog w) A (pyNext (.ref ci)) Q E s := by
  have ty : s.TypeIs (.ref ci) "callable_iterator" := ⟨_, h1, rfl⟩
  rw [pyNext]
  refine wpAny_bind (wpAny_attempt (wpAny_callSpecial?_slot (name := Str.ofString "__next__") ty slot_ci_next (wpAny_call_entry slot_ci_next ty entry_ci_next ?_ (by unfold argsOk; kernel_rfl))))
  unfold Builtin.«callable_iterator.__next__»
  refine wpAny_bind (wpAny_of_eq (a := ((.ref ci : Value), ([] : List Value))) (by rfl) ?_)
  dsimp only
  refine wpAny_bind (wpAny_field h1 rfl (x := .bool true) rfl ?_)
  rw [if_pos (by decide)]
  refine wpAny_bind (wpAny_rule ?_)
  refine wpAny_bind ?_
  change wpAny _ _ (newExc (.type "StopIteration") [] >>= _) _ _ _
  apply wpAny_bind
  rw [newExc, newTuple]
  apply wpAny_bind
  refine wpAny_newObj_type ?_ (by size_fits)
  refine wpAny_bind (m := firstArgMember _ _) (wpAny_of_eq (a := Value.none) (by first | rfl | (simp only [firstArgMember]; rfl)) ?_)
  refine wpAny_newObj_type ?_ (by size_fits)
  rw [raiseNew]
  apply wpAny_bind
  apply wpAny_handled
  rw [show A.in1.handled = none from hh]
  refine wpAny_throw ?_
  refine wpAny_bind (wpAny_isInstance (T := "StopIteration") (b := true) ⟨_, Heap.get?_push_size _ rfl, rfl⟩ isSubtype_stop (wpAny_pure ?_))
  exact h _ fun b o e => Heap.get?_push_of_some _ (Heap.get?_push_of_some _ e)
end
end
section
/-! comprehensions whose elements turn owned objects -/
section
variable {W : Wd} {k : Nat} {env : Env} {Γ : List (Str × D)} {Δ : List (Str × List D)}
structure LpM (X : List Addr) (P₂ : Vw) (s₂ : Shared) (I C T : Addr) (P' : Vw) (s' : Shared) : Prop where
  le : Le P₂ P'
  inn : In P' s'.heap
  old : ∀ b o, b ≠ I → b ∉ X → s₂.heap.get? b = some o → s'.heap.get? b = some o
  ext : ∀ b o, s₂.heap.get? b = some o → ∃ o', s'.heap.get? b = some o'
  new : ∀ b o, P' b = some o → P₂ b = some o ∨ s₂.heap.get? b = none
  hI : P' I = none ∧ ∃ o, s'.heap.get? I = some o
  hC : P' C = none ∧ ∃ o, s'.heap.get? C = some o
  hT : P' T = none ∧ ∃ o, s'.heap.get? T = some o
  gens : GG s₂.gens s'.gens
  drawn : s'.drawn = s₂.drawn
  os : s'.os = s₂.os
theorem grm_none {X : List Addr} {P P' : Vw} {s s' : Shared} (g : GrM X P s P' s') {b : Addr} (h : P b = none ∧ ∃ o, s.heap.get? b = some o) : P' b = none ∧ ∃ o, s'.heap.get? b = some o := by
  obtain ⟨h1, o, ho⟩ := h
  refine ⟨?_, g.ext _ _ ho⟩
  cases q : P' b with
  | none => rfl
  | some o' =>
    rcases g.new b o' q with z | z
    · rw [h1] at z; cases z
    · rw [ho] at z; cases z
theorem LpM.gr {X : List Addr} {P₂ P' P'' : Vw} {s₂ s' s'' : Shared} {I C T : Addr} (x : LpM X P₂ s₂ I C T P' s') (g : GrM X P' s' P'' s'') : LpM X P₂ s₂ I C T P'' s'' where
  le := x.le.trans g.le
  inn := g.inn
  old := fun b o n m e => g.old b o m (x.old b o n m e)
  ext := fun b o e => let ⟨o', q⟩ := x.ext b o e; g.ext _ _ q
  new := fun b o e => (g.new b o e).elim (x.new b o) fun z => by
    cases q : s₂.heap.get? b with
    | none => exact .inr rfl
    | some o' => obtain ⟨o'', q'⟩ := x.ext b o' q; rw [z] at q'; cases q'
  hI := grm_none g x.hI
  hC := grm_none g x.hC
  hT := grm_none g x.hT
  gens := x.gens.trans g.gens
  drawn := g.drawn.trans x.drawn
  os := g.os.trans x.os
theorem LpM.set {X : List Addr} {P₂ P' : Vw} {s₂ s' : Shared} {I C T a : Addr} {h' : Heap} {tk : Nat} (x : LpM X P₂ s₂ I C T P' s') (ha : P' a = none) (hn : a = I ∨ s₂.heap.get? a = none) (hk : ∀ b o, b ≠ a → s'.heap.get? b = some o → h'.get? b = some o) (he : ∃ o, h'.get? a = some o) : LpM X P₂ s₂ I C T P' { s' with heap := h', toks := tk } where
  le := x.le
  inn := fun b o e => hk b o (fun q => by rw [q, ha] at e; cases e) (x.inn b o e)
  old := fun b o n m e => hk b o (fun q => by
    rcases hn with z | z
    · exact n (q.trans z)
    · rw [q, z] at e; cases e) (x.old b o n m e)
  ext := fun b o e => by
    obtain ⟨o', q⟩ := x.ext b o e
    by_cases hb : b = a
    · rw [hb]; exact he
    · exact ⟨o', hk _ _ hb q⟩
  new := x.new
  hI := ⟨x.hI.1, by
    obtain ⟨_, o, q⟩ := x.hI
    by_cases e : I = a
    · rw [e]; exact he
    · exact ⟨o, hk _ _ e q⟩⟩
  hC := ⟨x.hC.1, by
    obtain ⟨_, o, q⟩ := x.hC
    by_cases e : C = a
    · rw [e]; exact he
    · exact ⟨o, hk _ _ e q⟩⟩
  hT := ⟨x.hT.1, by
    obtain ⟨_, o, q⟩ := x.hT
    by_cases e : T = a
    · rw [e]; exact he
    · exact ⟨o, hk _ _ e q⟩⟩
  gens := x.gens
  drawn := x.drawn
  os := x.os
theorem Dv.move {P : Vw} {s s' : Shared} {Mx : List (Addr × MO)} (h : Dv P s Mx) (k : ∀ p ∈ Mx, ∀ o, s.heap.get? p.1 = some o → s'.heap.get? p.1 = some o) : Dv P s' Mx :=
  ⟨fun p hp => (h.has p hp).imp fun o hh => ⟨k p hp o hh.1, hh.2⟩, h.nd, h.off⟩
theorem comp_coreM {elt iter : Expr} {x : Str} {px : Pos} {scope : Scope} {pos : Pos} {cl : List (Str × Addr)} {its ds : List D} {Γ' : List (Str × D)} {Δ' : List (Str × List D)} {X : List Addr} (MM : Nat → List (Addr × MO))
    {A : Around} {S P : Vw} {s : Shared} {E : Value → Shared → Prop} {RR : Value → Addr → Result → Shared → Prop} (st : St W k A S P s) (hC : Cx S P env Γ Δ) (hraw : W.raws = []) (hM : ∀ i, ads (MM i) = X) (dv : Dv P s (MM 0)) (hoff : ∀ b ∈ X, S b = none)
    (hI : EvI W k env Γ Δ true iter its) (hlen : ds.length = its.length)
    (helt : ∀ (C : Addr) (i : Nat) (d d' : D), its[i]? = some d → ds[i]? = some d' → EvM W k (compEnvC scope cl C env) ((x, d) :: Γ') Δ' elt d' (MM i) (MM (i + 1)))
    (hΓ : ∀ p ∈ Γ', p ∈ Γ) (hΔ : ∀ p ∈ Δ', p ∈ Δ) (hthru : Thru env scope cl (Γ'.map (·.1) ++ Δ'.map (·.1)))
    (hcell : ∀ y ∈ scope.names, y.2 ≠ .cell) (hkind : scope.kind = .function) (hx : scope.names.lookup x = some .local) (hsz : its.length ≤ sizeLine)
    (hRR : ∀ T C ys P' s', GrM X P s P' s' → 1 ≤ s'.toks → Dv P' s' (MM its.length) → s.heap.get? T = none → P' T = none → s'.heap.get? T = some (LCg.lst ys) → IsAll P' ys ds → s.heap.get? C = none → P' C = none → C ≠ T → (∃ m, s'.heap.Ns C m) → RR (.ref T) C (.ok .next) s') :
    wpAny W.M A (eval iter env) (fun x₁ s₁ => wpAny W.M A (pyIter x₁) (fun it s₂ => wpAny W.M A (newList []) (fun acc s₃ => wpAny W.M A (newFunctionEnv scope env.globals cl [] env.qual none .none (some env)) (fun cenv s₄ =>
      codeAny W.M A (.compStart (.ListComp elt [⟨.Name x px, iter, [], 0⟩] scope pos) 0 it acc { cenv with scope := relabel scope env }) (RR acc cenv.locals) s₄) E s₃) E s₂) E s₁) E s := by
  refine hI A S P s E _ st hC fun I fp Pv Sx P₂ s₂ g₂ tk₂ hW hP hst₂ hIs hI0 hIx hfp => ?_
  have W' := hW A st.a.1
  have p₂ := g₂.inn
  have dv₂ := dv.gr g₂
  have hex : ∀ b ∈ X, ∃ o, s.heap.get? b = some o := fun b hb => by
    obtain ⟨p, hp, rfl⟩ := List.mem_map.mp ((hM 0).symm ▸ hb : b ∈ ads (MM 0))
    obtain ⟨o, q, _⟩ := dv.has p hp
    exact ⟨o, q⟩
  have hofP : ∀ {P' s'}, Dv P' s' (MM 0) → ∀ b ∈ X, P' b = none := fun dv b hb => by
    obtain ⟨p, hp, rfl⟩ := List.mem_map.mp ((hM 0).symm ▸ hb : b ∈ ads (MM 0))
    exact dv.off p hp
  have nX : ∀ b, s.heap.get? b = none → b ∉ X := fun b hb hm => by obtain ⟨o, q⟩ := hex b hm; rw [hb] at q; cases q
  have hIX : I ∉ X := nX I hIs
  have hfpX : ∀ b ∈ fp, b ∉ X := fun b hb hm => by
    by_cases z : b = I
    · exact hIX (z ▸ hm)
    · obtain ⟨o, _, q⟩ := hfp b hb z
      rw [hofP dv₂ b hm] at q
      cases q rfl
  obtain ⟨oI, hoI⟩ := hIx _ _ hst₂
  have hIlt : I < s₂.heap.objs.size := Heap.lt_size hoI
  refine wpAny_newObj_type (wpAny_newFunctionEnv hcell (by intro y hy; simp at hy) (fun h₁ hns₁ hsb₁ => ?_) hkind)
  dsimp only at hns₁ hsb₁ ⊢
  generalize hH2 : s₂.heap.push { cls := .type "list", dict := none, data := .seq ([] : List Value).toArray } = H2 at hns₁ hsb₁ ⊢
  have hCs : H2.objs.size = s₂.heap.objs.size + 1 := by rw [← hH2, Heap.size_push]
  have hDC : s₂.heap.objs.size ≠ H2.objs.size := by rw [hCs]; exact Nat.ne_of_lt (Nat.lt_succ_self _)
  have below : ∀ b, b < s₂.heap.objs.size → b ≠ H2.objs.size ∧ b ≠ s₂.heap.objs.size := fun b hb => ⟨by rw [hCs]; exact Nat.ne_of_lt (Nat.lt_succ_of_lt hb), Nat.ne_of_lt hb⟩
  have old : ∀ b o, s₂.heap.get? b = some o → h₁.get? b = some o := fun b o e => hsb₁.extBut b o (below b (Heap.lt_size e)).1 (Heap.get?_push_of_some _ (hH2 ▸ Heap.get?_push_of_some _ e))
  have hacc : h₁.get? s₂.heap.objs.size = some (LCg.lst []) := hsb₁.extBut _ _ hDC (Heap.get?_push_of_some _ (hH2 ▸ Heap.get?_push_size _ rfl))
  have fresh : ∀ a, s₂.heap.objs.size ≤ a → s₂.heap.get? a = none := fun a ha => Heap.get?_none_of_le ha
  have freshP : ∀ a, s₂.heap.objs.size ≤ a → P₂ a = none := fun a ha => none_of_in p₂ (fresh a ha)
  generalize hT : s₂.heap.objs.size = T at *
  generalize hCC : H2.objs.size = C at *
  have hIC : I ≠ C := (below I hIlt).1
  have hIT : I ≠ T := (below I hIlt).2
  have freshT : s₂.heap.get? T = none := fresh T (Nat.le_refl _)
  have freshC : s₂.heap.get? C = none := fresh C (by rw [hCs]; exact Nat.le_succ _)
  have hTX : T ∉ X := nX T (none_of_old g₂.old freshT)
  have hCX : C ∉ X := nX C (none_of_old g₂.old freshC)
  have hTf : T ∉ fp := fun hm => by
    obtain ⟨o, q, _⟩ := hfp T hm (Ne.symm hIT)
    rw [freshT] at q; cases q
  have hCf : C ∉ fp := fun hm => by
    obtain ⟨o, q, _⟩ := hfp C hm (Ne.symm hIC)
    rw [freshC] at q; cases q
  have hst₁ : Sx 0 h₁ := W'.frame _ _ _ hst₂ fun b _ o e => old b o e
  have L₀ : ∀ tk, LpM X P₂ s₂ I C T P₂ { s₂ with heap := h₁, toks := tk } := fun tk =>
    { le := Le.refl _, inn := fun b o e => old b o (p₂ b o e), old := fun b o _ _ e => old b o e, ext := fun b o e => ⟨o, old b o e⟩, new := fun b o e => .inl e, hI := ⟨hI0, oI, old _ _ hoI⟩,
      hC := ⟨freshP C (by rw [hCs]; exact Nat.le_succ _), by obtain ⟨o, _, _, q, _⟩ := hns₁; exact ⟨o, q⟩⟩, hT := ⟨freshP T (Nat.le_refl _), _, hacc⟩, gens := GG.refl _, drawn := rfl, os := rfl }
  have memX : ∀ {i : Nat} {p : Addr × MO}, p ∈ MM i → p.1 ∈ X := fun {i p} hp => (hM i) ▸ List.mem_map_of_mem hp
  have loop : ∀ s₃ : Shared, s₃ = { s₂ with heap := h₁, toks := s₂.toks + ([] : List (Str × Value)).length } →
      codeAny W.M A (.compLoop (.ListComp elt [⟨.Name x px, iter, [], 0⟩] scope pos) 0 (.ref I) (.ref T) (compEnvC scope cl C env)) (RR (.ref T) C) s₃ := by
    rintro s₃ rfl
    refine codeAny_compLoop_tests
      (fun j s' => ∃ i ys m' P', i ≤ its.length ∧ j = its.length + 1 - i ∧ Sx i s'.heap ∧ s'.heap.Ns C m' ∧ s'.heap.get? T = some (LCg.lst ys) ∧ IsAll P' ys (ds.take i) ∧ LpM X P₂ s₂ I C T P' s' ∧ Dv P' s' (MM i) ∧ 1 ≤ s'.toks) ?_ (its.length + 1)
      ⟨0, [], _, P₂, Nat.zero_le _, rfl, hst₁, hns₁, hacc, .nil, L₀ _, dv₂.move fun p hp o q => old _ _ q, Nat.le_trans tk₂ (Nat.le_add_right _ _)⟩
    rintro j s' ⟨i, ys, m', P', hi, rfl, hst', hn', hacc', hys, L', dv', tk'⟩
    by_cases hlt : i < its.length
    · refine wp_tk tk' (W'.item i s' _ _ hlt hst' fun v h₂ tk₂' hPv hst₂' hk₂ tkv => ?_)
      obtain ⟨d, hd, hid⟩ := hP i v hPv
      obtain ⟨d', hr⟩ : ∃ r, ds[i]? = some r := ⟨ds[i]'(by rw [hlen]; exact hlt), by rw [List.getElem?_eq_getElem]⟩
      have L₂ : LpM X P₂ s₂ I C T P' { s' with heap := h₂, toks := tk₂' } := L'.set L'.hI.1 (.inl rfl) (fun b o n e => hk₂ b o (by simpa using n) e) (hIx _ _ hst₂')
      refine wpAny_assign_Name (wpAny_storeName_local (lookup_relabel_local hx) (hn'.at' fun o e => hk₂ _ o (by simpa using Ne.symm hIC) e) (fun h₃ hn₃ hs₃ => ?_) (by simp [compEnvC, relabel, hkind]))
      have L₃ : LpM X P₂ s₂ I C T P' { s' with heap := h₃, toks := tk₂' + 1 } := L₂.set L'.hC.1 (.inr freshC) (fun b o n e => hs₃.extBut b o n e) (by obtain ⟨o, _, _, q, _⟩ := hn₃; exact ⟨o, q⟩)
      have hst₃ : Sx (i + 1) h₃ := W'.frame _ _ _ hst₂' fun b hb o e => hs₃.extBut b o (fun q => hCf (by have q' : b = C := q; rw [← q']; exact hb)) e
      have hacc₃ : h₃.get? T = some (LCg.lst ys) := hs₃.extBut _ _ hDC (hk₂ _ _ (by simpa using Ne.symm hIT) hacc')
      obtain ⟨oC, hoC, nsC⟩ := LCg.ns_obj hn₃
      have dv₃ : Dv P' { s' with heap := h₃, toks := tk₂' + 1 } (MM i) := dv'.move fun p hp o q => hs₃.extBut _ _ (fun z => hCX (by have z' : p.1 = C := z; exact z' ▸ memX hp)) (hk₂ _ _ (by simpa using fun z => hIX (by have z' : p.1 = I := z; exact z' ▸ memX hp)) q)
      have upS : Le S (offX X h₃) := fun b o e => by
        have nb : b ∉ X := fun hm => by rw [hoff b hm] at e; cases e
        exact offX_old nb (L₃.old b o (fun q => by have := st.sv _ _ e; rw [q, hIs] at this; cases this) nb (g₂.old _ _ (st.sv _ _ e)))
      have st₃ : St W k A (offX X h₃) P' { s' with heap := h₃, toks := tk₂' + 1 } := ⟨st.a, (st.b.up g₂.le).up L₃.le, offX_in, L₃.inn, Nat.le_trans tkv (Nat.le_succ _), fun p hp => by rw [hraw] at hp; cases hp⟩
      have C₃ : Cx (offX X h₃) P' (compEnvC scope cl C env) ((x, d) :: Γ') Δ' := by
        refine ⟨by simp [compEnvC, relabel, hkind], hC.gl, hC.bi, fun p hp => ?_, fun p hp => ?_⟩
        · rcases List.mem_cons.mp hp with rfl | hp
          · exact ⟨v, .loc (lookup_relabel_local hx) (offX_old hCX hoC) nsC (by simp), hid.mono L₃.le⟩
          · obtain ⟨u, n, q⟩ := hC.vars p (hΓ p hp)
            exact ⟨u, n.thru (hthru.mem p.1 (List.mem_append.mpr (.inl (List.mem_map_of_mem hp)))) upS, (q.mono g₂.le).mono L₃.le⟩
        · obtain ⟨a, vs, n, nm, q, r⟩ := hC.muts p (hΔ p hp)
          exact ⟨a, vs, n, nm.thru (hthru.mem p.1 (List.mem_append.mpr (.inr (List.mem_map_of_mem hp)))) upS, upS _ _ q, (r.mono g₂.le).mono L₃.le⟩
      refine wpAny_pure ?_
      rw [if_pos rfl]
      refine helt C i d d' hd hr A (offX X h₃) P' _ _ _ st₃ C₃ dv₃ (fun p hp => offX_none (memX hp)) fun y P₅ s₅ g₅ tk₅ dv₅ i₅ => ?_
      rw [hM i] at g₅
      have L₅ := L₃.gr g₅
      have hacc₅ : s₅.heap.get? T = some (LCg.lst ys) := g₅.old _ _ hTX hacc₃
      have hyl : ys.length ≤ i := by
        rw [hys.length, List.length_take]; exact Nat.min_le_left _ _
      refine append_at (hsz := by show ys.toArray.size ≤ sizeLine; exact ar_le3 hyl hlt hsz) hacc₅ fun h₆ hs₆ hD₆ => ?_
      have L₆ : LpM X P₂ s₂ I C T P₅ { s₅ with heap := h₆, toks := s₅.toks } := L₅.set L₅.hT.1 (.inr freshT) (fun b o n e => hs₆.extBut b o n e) ⟨_, hD₆⟩
      have hfm : ds.take (i + 1) = ds.take i ++ [d'] := by rw [List.take_add_one, hr]; rfl
      refine ⟨its.length + 1 - (i + 1), ar_step hlt, i + 1, ys ++ [y], _, P₅, hlt, rfl, ?_, ((hn₃.at' fun o e => g₅.old _ _ hCX e)).sameBut hs₆ (Ne.symm hDC), hD₆.trans (congrArg some (LCg.lst_snoc ys y)), ?_, L₆, dv₅.move fun p hp o q => hs₆.extBut _ _ (fun z => hTX (by have z' : p.1 = T := z; exact z' ▸ memX hp)) q, tk₅⟩
      · exact W'.frame _ _ h₆ hst₃ fun b hb o e => hs₆.extBut b o (fun q => hTf (q ▸ hb)) (g₅.old b o (hfpX b hb) e)
      · rw [hfm]
        exact (hys.mono g₅.le).append (.cons i₅ .nil)
    · obtain rfl : i = its.length := Nat.le_antisymm hi (Nat.not_lt.mp hlt)
      refine wp_tk tk' (W'.done s' _ _ hst' fun h₂ tk₂' hk₂ tkd => ?_)
      have hT' : h₂.get? T = some (LCg.lst ys) := hk₂ _ _ (by simpa using Ne.symm hIT) hacc'
      have up : ∀ b o, b ≠ I → s'.heap.get? b = some o → h₂.get? b = some o := fun b o n1 e => hk₂ b o (by simpa using n1) e
      have hf : ds.take its.length = ds := by rw [← hlen, List.take_length]
      have nI : ∀ b o, s.heap.get? b = some o → b ≠ I := fun b o e q => by rw [q, hIs] at e; cases e
      refine hRR T C ys P' _ ⟨g₂.le.trans L'.le, fun b o e => ?_, fun b o hb e => ?_, fun b o e => ?_, fun b o e => ?_, g₂.gens.trans L'.gens, L'.drawn.trans g₂.drawn, L'.os.trans g₂.os⟩ tkd (dv'.move fun p hp o q => up _ _ (fun z => hIX (by have z' : p.1 = I := z; exact z' ▸ memX hp)) q) (none_of_old g₂.old freshT) L'.hT.1 hT' ?_ (none_of_old g₂.old freshC) L'.hC.1 (Ne.symm hDC)
        ⟨m', hn'.at' fun o e => hk₂ _ o (by simpa using Ne.symm hIC) e⟩
      · exact up b o (fun q => by rw [q, L'.hI.1] at e; cases e) (L'.inn _ _ e)
      · exact up b o (nI b o e) (L'.old b o (nI b o e) hb (g₂.old _ _ e))
      · obtain ⟨o', q⟩ := L'.ext b o (g₂.old _ _ e)
        exact ⟨o', up b o' (nI b o e) q⟩
      · rcases L'.new b o e with z | z
        · exact g₂.new b o z
        · exact .inr (none_of_old g₂.old z)
      · rw [← hf]
        exact hys
  exact codeAny_compStart_list (loop _ rfl) (W'.self 0 _ _ _ hst₁ (loop _ rfl))
end
theorem GrM.add {X : List Addr} {P P' : Vw} {s s' : Shared} {a : Addr} {o : Obj} (g : GrM X P s P' s') (h0 : s.heap.get? a = none) (h1 : P' a = none) (h2 : s'.heap.get? a = some o) : GrM X P s (addV P' a o) s' :=
  ⟨g.le.trans (addV_le h1), addV_in g.inn h2, g.old, g.ext, fun b o' e => by
    by_cases hb : b = a
    · subst hb; exact .inr h0
    · rw [addV_ne hb] at e; exact g.new _ _ e, g.gens, g.drawn, g.os⟩
theorem GrM.but {X : List Addr} {P P' : Vw} {s s' : Shared} {C : Addr} {h' : Heap} (g : GrM X P s P' s') (h0 : s.heap.get? C = none) (h1 : P' C = none) (hs : Heap.SameBut C s'.heap h') : GrM X P s P' { s' with heap := h' } :=
  ⟨g.le, fun b o e => hs.extBut b o (fun q => by rw [q, h1] at e; cases e) (g.inn b o e), fun b o hb e => hs.extBut b o (fun q => by rw [q, h0] at e; cases e) (g.old b o hb e), fun b o e => (g.ext b o e).imp fun o' q => hs.extBut b o' (fun q => by rw [q, h0] at e; cases e) q, g.new, g.gens, g.drawn, g.os⟩
theorem Dv.add {P : Vw} {s s' : Shared} {Mx Mx' : List (Addr × MO)} {a : Addr} {o : Obj} (h : Dv P s' Mx') (h0 : Dv P s Mx → True) (ha : a ∉ ads Mx') (h1 : P a = none) : Dv (addV P a o) s' Mx' :=
  ⟨fun p hp => (h.has p hp).imp fun o' hh => ⟨hh.1, hh.2.mono (addV_le h1)⟩, h.nd, fun p hp => by rw [addV_ne (fun z : p.1 = a => ha (z ▸ List.mem_map_of_mem hp))]; exact h.off p hp⟩
section
variable {W : Wd} {k : Nat} {A : Around} {env : Env} {s₀ : Shared} {P₀ H : Vw} {Γ : List (Str × D)} {Δ : List (Str × List D)} {Mx Mx' rest : List (Addr × MO)} {P : Vw} {s : Shared} {E : Value → Shared → Prop} {Q : Flow → Shared → Prop}
theorem At.grM_own {P' : Vw} {s' : Shared} (X : At W k A env s₀ P₀ H Γ Δ (Mx ++ rest) P s) (g : GrM (ads Mx) P s P' s') (dv : Dv P' s' Mx') (ha : ads Mx' = ads Mx) : ∃ m cv ad, AtX env Γ Δ (Mx' ++ rest) H P' m cv ad s'.heap ∧ (∀ p ∈ Δ, s₀.heap.get? (ad p.1) = none) ∧ ∀ b, s.heap.get? b = none → b ∉ ownOf env Δ ad (Mx' ++ rest) := by
  obtain ⟨m, cv, ad, y, hn⟩ := X.mnew
  obtain ⟨n1, n2, n3, n4⟩ := X.nd y
  have ho : ownOf env Δ ad (Mx' ++ rest) = ownOf env Δ ad (Mx ++ rest) := by unfold ownOf; rw [List.map_append, List.map_append, show Mx'.map (·.1) = Mx.map (·.1) from ha]
  refine ⟨m, cv, ad, ⟨y.ns.at' fun o e => g.old _ _ n1 e, fun p hp => ?_, fun p hp => ?_, fun p hp => ?_, fun p hp => ?_, by rw [ho]; exact y.nd, y.cnd, fun b hb => ?_, fun b hb => ?_⟩, hn, fun b h hb => ?_⟩
  · obtain ⟨o, q, d⟩ := y.cells p hp; exact ⟨o, g.old _ _ (n2 p hp) q, d⟩
  · obtain ⟨v, e, i⟩ := y.vars p hp; exact ⟨v, e, i.mono g.le⟩
  · obtain ⟨vs, n, e, q, i⟩ := y.muts p hp; exact ⟨vs, n, e, g.old _ _ (n3 p hp) q, i.mono g.le⟩
  · rcases List.mem_append.mp hp with hp | hp
    · exact dv.has p hp
    · obtain ⟨o, q, i⟩ := y.raw p (List.mem_append_right _ hp); exact ⟨o, g.old _ _ (n4 p hp) q, i.mono g.le⟩
  · rw [ho] at hb; exact (grm_none g ⟨y.offP b hb, y.exist b hb⟩).1
  · rw [ho] at hb; exact y.offH b hb
  · rw [ho] at hb
    obtain ⟨o, q⟩ := y.exist b hb
    rw [h] at q; cases q
/-- an object that nobody has is owned -/
theorem At.take {a : Addr} {ob : Obj} {mo : MO} (X : At W k A env s₀ P₀ H Γ Δ Mx P s) (pa : P a = none) (qa : H a = none) (hno : ∃ m cv ad, AtX env Γ Δ Mx H P m cv ad s.heap ∧ a ∉ ownOf env Δ ad Mx) (ha : s.heap.get? a = some ob) (hi : MIs P ob mo) : At W k A env s₀ P₀ H Γ Δ ((a, mo) :: Mx) P s := by
  obtain ⟨m, cv, ad, y, hn⟩ := X.mnew
  have off : a ∉ ownOf env Δ ad Mx := by
    obtain ⟨m', cv', ad', y', h⟩ := hno
    rw [AtX.unique y y']; exact h
  have own : (ownOf env Δ ad ((a, mo) :: Mx)).Perm (a :: ownOf env Δ ad Mx) := by
    show (env.locals :: (env.cells.map (·.2) ++ (Δ.map (fun p => ad p.1) ++ (a :: Mx.map (·.1))))).Perm _
    refine List.Perm.trans (List.Perm.cons _ ?_) (List.Perm.swap _ _ _)
    rw [← List.append_assoc]
    refine List.Perm.trans List.perm_middle ?_
    rw [List.append_assoc]
  refine { X with mnew := ⟨m, cv, ad, ⟨y.ns, y.cells, y.vars, y.muts, fun p hp => ?_, own.nodup_iff.mpr (List.nodup_cons.mpr ⟨off, y.nd⟩), y.cnd, fun b hb => ?_, fun b hb => ?_⟩, hn⟩ }
  · rcases List.mem_cons.mp hp with rfl | hp
    · exact ⟨_, ha, hi⟩
    · exact y.raw p hp
  · rcases List.mem_cons.mp (own.subset hb) with rfl | hb
    · exact pa
    · exact y.offP b hb
  · rcases List.mem_cons.mp (own.subset hb) with rfl | hb
    · exact qa
    · exact y.offH b hb
/-- y = [elt for x in iter], where elt turns owned objects -/
theorem s_forCM {x y : Str} {px p pos cpos : Pos} {elt iter : Expr} {scope : Scope} {rest' : List Stmt} {cl : List (Str × Addr)} {its ds : List D} (MM : Nat → List (Addr × MO)) (Γ' : List (Str × D)) (Δ' : List (Str × List D))
    (X : At W k A env s₀ P₀ H Γ Δ (MM 0 ++ rest) P s) (hM : ∀ i, ads (MM i) = ads (MM 0)) (hI : EvI (W.at []) k env Γ Δ true iter its) (hlen : ds.length = its.length)
    (helt : ∀ (C : Addr) (i : Nat) (d d' : D), its[i]? = some d → ds[i]? = some d' → EvM (W.at []) k (compEnvC scope cl C env) ((x, d) :: Γ') Δ' elt d' (MM i) (MM (i + 1)))
    (hb : Bindable env y) (hyΓ : ∀ p ∈ Γ, p.1 ≠ y) (hyΔ : ∀ p ∈ Δ, p.1 ≠ y)
    (next : ∀ P' s', At W k A env s₀ P₀ H ((y, .list ds) :: Γ) Δ (MM its.length ++ rest) P' s' → wpAny W.M A (execs rest' env) Q E s')
    (hΓ : ∀ p ∈ Γ', p ∈ Γ := by trivial) (hΔ : ∀ p ∈ Δ', p ∈ Δ := by trivial)
    (hclos : closureFor scope env = pure cl := by rfl) (hthru : Thru env scope cl (Γ'.map (·.1) ++ Δ'.map (·.1)) := by repeat (first | exact True.intro | refine And.intro ⟨by first | exact .inl rfl | exact .inr rfl, by first | exact .inl rfl | exact .inr rfl, rfl⟩ ?_))
    (hcell : ∀ y ∈ scope.names, y.2 ≠ .cell := by decide) (hkind : scope.kind = .function := by rfl)
    (hnames : ∀ y ∈ scope.names, y.2 = .local → scope.names.lookup y.1 = some .local := by decide) (hx : scope.names.lookup x = some .local := by rfl)
    (hsz : Nat.ble its.length 16384 = true := by rfl)
    (hsw : swapsWith (.ListComp elt [⟨.Name x px, iter, [], 0⟩] scope cpos) (some (.Name y p)) pos.line env = pure true := by rfl)
    (hs : ∀ v, foldedSetIterable iter env v = pure v := by intro _; rfl) :
    wpAny W.M A (execs (.Assign [.Name y p] (.ListComp elt [⟨.Name x px, iter, [], 0⟩] scope cpos) pos :: rest') env) Q E s := by
  refine wpAny_execs_cons ?_
  rw [exec_Assign_Name_used _ _ _ _ hsw]
  refine wpAny_bind (wpAny_standAt (wpAny_bind ?_))
  show wpAny _ A (do let _ ← comprehension (.ListComp elt [⟨.Name x px, iter, [], 0⟩] scope cpos) scope env _ (newList []) false (eval iter env) (some (assign (.Name y p) env))) _ _ s
  refine wpAny_bind (wpAny_mono (wpAny_comprehension_free (use := some (assign (.Name y p) env)) (Q := fun _ s' => wpAny W.M A (execs rest' env) Q E s') rfl hs hclos hkind hnames
    (comp_coreM (W := W.at []) (X := ads (MM 0)) MM X.stM X.cxM rfl hM X.dvM (fun b hb => offX_none hb) hI hlen helt hΓ hΔ hthru hcell hkind hx (Nat.le_trans (Nat.le_of_ble_eq_true hsz) (by decide)) fun T C ys P' s' g tk dv h0 h1 h2 hi c0 c1 cT hm => ?_)) (fun _ s' hq => wpAny_pure (wpAny_pure hq)) fun _ _ e => e)
  obtain ⟨mC, hnC⟩ := hm
  have zT := X.none₀ h0
  have zC := X.none₀ c0
  obtain ⟨oC, qC, nC⟩ := LCg.ns_obj hnC
  show wpAny _ A (assign (.Name y p) env (.ref T)) _ _ _
  have hTm : T ∉ ads (MM its.length) := fun hm => by
    rw [hM] at hm
    obtain ⟨p, hp, e⟩ := List.mem_map.mp hm
    obtain ⟨o, q, _⟩ := X.dvM.has p hp
    rw [e, h0] at q; cases q
  have dv' : Dv (addV P' T (LCg.lst ys)) s' (MM its.length) := dv.add (s := s') (Mx := []) (fun _ => trivial) hTm h1
  have g' := g.add h0 h1 h2
  obtain ⟨m, cv, ad, w, hn, ho⟩ := X.grM_own g' dv' (hM _)
  have hCo := ho C c0
  refine wpAny_assign_Name (At.store (X.grM g' tk dv' (hM _)) w hn hb hyΓ hyΔ fun s'' g1 g2 g3 => ?_)
  refine ⟨mC, nC.ns (g3 _ _ hCo qC), fun h' hs' => ?_⟩
  have hi' : Is (addV P' T (LCg.lst ys)) (.ref T) (.list ds) := .list addV_at (hi.mono (addV_le h1))
  obtain ⟨X1, m', cv', ad', w', hw'⟩ := g1 _ hi'
  exact next _ _ (X1.but zC.1 (by rw [addV_ne cT]; exact c1) zC.2 ⟨m', cv', ad', w', fun q => hCo (hw' _ q)⟩ hs')
end
/-- e gives a new list and turns owned objects -/
noncomputable def EvMN (W : Wd) (k : Nat) (env : Env) (Γ : List (Str × D)) (Δ : List (Str × List D)) (e : Expr) (ds : List D) (Mx Mx' : List (Addr × MO)) : Prop :=
  ∀ (A : Around) (S P : Vw) (s : Shared) (E Q : Value → Shared → Prop), St W k A S P s → Cx S P env Γ Δ → Dv P s Mx → (∀ p ∈ Mx, S p.1 = none) →
    (∀ a vs n P' s', GrM (ads Mx) P s P' s' → 1 ≤ s'.toks → Dv P' s' Mx' → s.heap.get? a = none → P' a = none → s'.heap.get? a = some (listOf vs.toArray n) → IsAll P' vs ds → Q (.ref a) s') → wpAny W.M A (eval e env) Q E s
section
variable {W : Wd} {k : Nat} {env : Env} {Γ : List (Str × D)} {Δ : List (Str × List D)}
theorem evmn_for {elt iter : Expr} {x : Str} {px : Pos} {scope : Scope} {pos : Pos} {cl : List (Str × Addr)} {its ds : List D} (MM : Nat → List (Addr × MO)) (Γ' : List (Str × D)) (Δ' : List (Str × List D)) (hraw : W.raws = []) (hM : ∀ i, ads (MM i) = ads (MM 0))
    (hI : EvI W k env Γ Δ true iter its) (hlen : ds.length = its.length)
    (helt : ∀ (C : Addr) (i : Nat) (d d' : D), its[i]? = some d → ds[i]? = some d' → EvM W k (compEnvC scope cl C env) ((x, d) :: Γ') Δ' elt d' (MM i) (MM (i + 1)))
    (hΓ : ∀ p ∈ Γ', p ∈ Γ := by trivial) (hΔ : ∀ p ∈ Δ', p ∈ Δ := by trivial)
    (hclos : closureFor scope env = pure cl := by rfl) (hthru : Thru env scope cl (Γ'.map (·.1) ++ Δ'.map (·.1)) := by repeat (first | exact True.intro | refine And.intro ⟨by first | exact .inl rfl | exact .inr rfl, by first | exact .inl rfl | exact .inr rfl, rfl⟩ ?_))
    (hcell : ∀ y ∈ scope.names, y.2 ≠ .cell := by decide) (hkind : scope.kind = .function := by rfl)
    (hnames : ∀ y ∈ scope.names, y.2 = .local → scope.names.lookup y.1 = some .local := by decide) (hx : scope.names.lookup x = some .local := by rfl)
    (hsz : Nat.ble its.length 16384 = true := by rfl)
    (hs : ∀ v, foldedSetIterable iter env v = pure v := by intro _; rfl) :
    EvMN W k env Γ Δ (.ListComp elt [⟨.Name x px, iter, [], 0⟩] scope pos) ds (MM 0) (MM its.length) := fun A S P s E Q st hC dv hoff hQ => by
  rw [eval_ListComp]
  refine wpAny_comprehension_free (use := none) rfl hs hclos hkind hnames ?_
  refine comp_coreM (X := ads (MM 0)) MM st hC hraw hM dv (fun b hb => by obtain ⟨p, hp, rfl⟩ := List.mem_map.mp hb; exact hoff p hp) hI hlen helt hΓ hΔ hthru hcell hkind hx (Nat.le_trans (Nat.le_of_ble_eq_true hsz) (by decide)) fun T C ys P' s' g tk dv' h0 h1 h2 hi c0 c1 cT hm => ?_
  obtain ⟨m', hn'⟩ := hm
  refine ⟨m', hn', fun h' hs' => hQ T ys ys.length P' _ (g.but c0 c1 hs') tk (dv'.move fun p hp o q => hs'.extBut _ _ (fun z => ?_) q) h0 h1 (hs'.extBut _ _ (Ne.symm cT) h2) hi⟩
  have hm2 : p.1 ∈ ads (MM 0) := hM its.length ▸ List.mem_map_of_mem hp
  obtain ⟨p0, hp0, e0⟩ := List.mem_map.mp hm2
  obtain ⟨o0, q0, _⟩ := dv.has p0 hp0
  rw [e0, z, c0] at q0; cases q0
/-- the new list is data -/
theorem EvMN.m {e : Expr} {ds : List D} {Mx Mx' : List (Addr × MO)} (h : EvMN W k env Γ Δ e ds Mx Mx') (ha : ads Mx' = ads Mx) : EvM W k env Γ Δ e (.list ds) Mx Mx' := fun A S P s E Q st hC dv hoff hQ =>
  h A S P s E Q st hC dv hoff fun a vs n P' s' g tk dv' h0 h1 h2 i => by
    have hTm : a ∉ ads Mx' := fun hm => by
      rw [ha] at hm
      obtain ⟨p, hp, e⟩ := List.mem_map.mp hm
      obtain ⟨o, q, _⟩ := dv.has p hp
      rw [e, h0] at q; cases q
    exact hQ _ _ s' (g.add h0 h1 h2) tk (dv'.add (s := s') (Mx := []) (fun _ => trivial) hTm h1) (.list addV_at (i.mono (addV_le h1)))
end
end
section
section
variable {W : Wd} {k : Nat} {env : Env} {Γ : List (Str × D)} {Δ : List (Str × List D)}
/-- o.instream.read(1) -/
theorem evm_stream {o e : Expr} {p1 p2 pos : Pos} {pl : Sem Bool} {x C dx st al : Addr} {fs : List (Str × D)} {text : Str} {l : List (Addr × Obj)} {n : Nat} (h0 : Ev W (k + 1) env Γ Δ o (.inst x C dx)) (G : GetK W.K C "instream") (hl : fs.lookup ("instream" : Str) = some (.pack st l)) (hS : StreamOk W st al text l) (h1 : Ev W (k + 1) env Γ Δ e (.int 1)) (hp : [e].all plainE = true := by rfl) (hpe : plainE e = true := by rfl)
    (he1 : attrForm o "instream" p1 env := by with_unfolding_all rfl) (he2 : callForm (.Attribute o "instream" p1) "read" p2 pos [e] pl env := by rfl) :
    EvM W (k + 1) env Γ Δ (.Call (.Attribute (.Attribute o "instream" p1) "read" p2) [e] [] pos) (.str (sl1 text n)) [(dx, .dict fs), (al, .list [.int n])] [(dx, .dict fs), (al, .list [.int (n + 1 : Nat)])] := fun A S P s E Q st' hC dv hoff hQ => by
  obtain ⟨dd, fd0, hs, tk0, n0, rd, or, fd, m1, m2, m3, hd, hRd⟩ := hS.has
  refine MethodCall_ (Attribute_any_ (h0 A S P s E _ st' hC fun v P₁ s₁ g₁ tk₁ i₁ => ?_) he1) he2
  obtain ⟨rfl, hx⟩ := i₁.instI
  obtain ⟨ob, ho, hi⟩ := (dv.gr g₁).has _ List.mem_cons_self
  obtain ⟨es, nn, rfl, hf⟩ := hi.dictI
  obtain ⟨u, hu, hiu⟩ := hf.get hl
  obtain ⟨attr, ha, hn⟩ := G.at_
  refine get_value (Bs.frag (st'.b.up g₁.le) g₁.inn) (inst_at (g₁.inn _ _ hx) ho) G.ga (findObj_own G.hh ha hn (by rw [lookIn_dict]; exact hu)) (handed_of hiu) ?_
  obtain ⟨rfl, hl'⟩ := hiu.packI
  refine fn_getMethod (g₁.inn _ _ (hl' _ m1)) (g₁.inn _ _ (hl' _ m2)) (by rfl) rfl ?_
  have g2 : Gr P₁ s₁ P₁ { s₁ with toks := s₁.toks + 1 + 1 } := Gr.toks g₁.inn
  have g12 := g₁.trans g2
  have st2 := st'.next g12 (Nat.le_add_left _ _)
  refine callWith_function (o := or) (fd := fd) (evalArgs_ev' hp st2 (hC.up (Le.refl _) g12.le) (evs_cons h1 evs_nil hpe) (fun h => nomatch h) fun vs P₃ s₃ g₃ tk₃ i₃ => ⟨⟨g₃.inn _ _ (g₃.le _ _ (hl' _ m3)), hd⟩, ?_⟩)
  obtain ⟨v3, rfl, iv⟩ := i₃.oneI
  have dv3 := ((dv.gr g12).gr g₃).perm (N := [(al, .list [.int n]), (dx, .dict fs)]) (List.Perm.swap ..)
  refine wpAny_call (hRd k n A S P₃ s₃ _ v3 (st2.next g₃ tk₃) (fun p hp => g₃.le _ _ (hl' _ hp)) iv (Dv.app (R := [(dx, .dict fs)]) dv3).1 fun v4 P₄ s₄ g₄ tk₄ dv₄ i₄ => ?_)
  have dv5 := (Dv.frame (Mx := [(al, .list [.int n])]) (R := [(dx, .dict fs)]) dv3 g₄ dv₄ rfl).perm (N := [(dx, .dict fs), (al, .list [.int (n + 1 : Nat)])]) (List.Perm.swap ..)
  exact hQ v4 P₄ s₄ (((g12.trans g₃).m _).trans (g₄.wide fun b hb => by simp only [List.mem_singleton] at hb; subst hb; simp [ads])) tk₄ dv5 i₄
end
/-- a name of an instance of C that is a function of C's -/
structure BindK (K : Frag) (C : Addr) (name : Str) (f : Addr) : Prop where
  ga : findIn K (.ref C) "__getattribute__" = some (some (.builtin "object.__getattribute__"))
  gt : findIn K (.ref C) "__getattr__" = some none
  hh : hasDictIn K C = true
  ha : findIn K (.ref C) name = some (some (.ref f))
  hg : specialIn K (.ref f) "__get__" = some (some (.builtin "function.__get__"))
  ht : takesIn K (.ref f) = some false
  hc : copiedNames.contains name = false
  ty : typeIn K (.ref f) = some (.type "function")
theorem bindK {K K' : Frag} {C f : Addr} {name : Str} (hK : K' = K) (ga : findIn K (.ref C) "__getattribute__" = some (some (.builtin "object.__getattribute__")) := by rfl) (gt : findIn K (.ref C) "__getattr__" = some none := by rfl) (hh : hasDictIn K C = true := by rfl) (ha : findIn K (.ref C) name = some (some (.ref f)) := by rfl)
    (hg : specialIn K (.ref f) "__get__" = some (some (.builtin "function.__get__")) := by rfl) (ht : takesIn K (.ref f) = some false := by rfl) (hc : copiedNames.contains name = false := by rfl) (ty : typeIn K (.ref f) = some (.type "function") := by rfl) : BindK K' C name f := hK ▸ ⟨ga, gt, hh, ha, hg, ht, hc, ty⟩
section
variable {W : Wd} {k : Nat} {A : Around} {env : Env} {s₀ : Shared} {P₀ H : Vw} {Γ : List (Str × D)} {Δ : List (Str × List D)} {Mx : List (Addr × MO)} {P : Vw} {s : Shared} {E : Value → Shared → Prop} {Q : Flow → Shared → Prop}
/-- z = iter(o.m, '..') -/
theorem s_iter {z y : Str} {o : Expr} {name : Str} {pz p1 p2 p3 p4 pos : Pos} {k3 : Nat} {x C dx f : Addr} {fs : List (Str × D)} {rest' : List Stmt} (X : At W k A env s₀ P₀ H Γ Δ ((dx, .dict fs) :: Mx) P s) (n : NmB W env "iter" (.builtin "iter")) (ho : Ev (W.at ((dx, .dict fs) :: Mx)) k env Γ Δ o (.inst x C dx)) (B : BindK W.K C name f) (hl : fs.lookup name = none) (hb : Bindable env z)
    (next : ∀ ci m t P' s', P' m = some (methodObj (.ref f) (.ref x)) → At W k A env s₀ P₀ H ((z, .pack ci [(m, methodObj (.ref f) (.ref x))]) :: rm z Γ) (rm z Δ) ((ci, .obj (ciObj (.ref m) (.str y t) (.bool false))) :: (dx, .dict fs) :: Mx) P' s' → wpAny W.M A (execs rest' env) Q E s')
    (he : attrForm o name p2 env := by with_unfolding_all rfl)
    (hs : swapsWith (.Call (.Name "iter" p1) [.Attribute o name p2, .Constant (.str y) k3 p3] [] p4) (some (.Name z pz)) pos.line env = pure false := by rfl) :
    wpAny W.M A (execs (.Assign [.Name z pz] (.Call (.Name "iter" p1) [.Attribute o name p2, .Constant (.str y) k3 p3] [] p4) pos :: rest') env) Q E s := by
  refine wpAny_execs_cons (wpAny_Assign_Name (wpAny_Call_Name_kw (name_bi X.b X.inn X.cx n ?_ (by decide))) hs)
  have hp' : [Expr.Attribute o name p2, .Constant (.str y) k3 p3].all plainE = true := by rfl
  refine callWith_builtin (plain_any hp') ?_
  rw [starEach_cons rfl, starEach_cons rfl]
  refine evalArgs_plain (spliced_cons (Attribute_any_ (ho A _ P s E _ X.st X.cx fun v P₁ s₁ g₁ tk₁ i₁ => ?_) he))
  have X1 := X.gr g₁ tk₁
  obtain ⟨rfl, hx⟩ := i₁.instI
  obtain ⟨m0, cv, ad, yy, _⟩ := X1.mnew
  obtain ⟨ob, hob, hi⟩ := yy.raw _ List.mem_cons_self
  obtain ⟨es, nn, rfl, hf⟩ := hi.dictI
  refine get_bind (Bs.frag X1.b X1.inn) (inst_at (X1.inn _ _ hx) hob) B.ga (PySem.W.findObj_fn B.hh B.ha B.hg B.ht B.hc (by rw [lookIn_dict]; exact hf.miss hl)) B.gt ?_
  refine wpAny_call (fn_get (s := { s₁ with toks := s₁.toks + 1 }) (Bs.frag X1.b X1.inn) B.ty (handed_on rfl ?_))
  refine spliced_cons (Constant_str (k := k3) (pos := p3) (spliced_nil ?_))
  have f0 : s₁.heap.get? s₁.heap.objs.size = none := Heap.get?_none_of_le (Nat.le_refl _)
  have qm : (s₁.heap.push (methodObj (.ref f) (.ref x))).get? s₁.heap.objs.size = some (methodObj (.ref f) (.ref x)) := Heap.get?_push_size _ rfl
  refine call_iter2 ⟨_, qm, rfl⟩ ?_
  have gm : Gr P₁ s₁ (addV P₁ s₁.heap.objs.size (methodObj (.ref f) (.ref x))) { s₁ with heap := s₁.heap.push (methodObj (.ref f) (.ref x)), toks := s₁.toks + 1 + 1 } := Gr.add (Gr.pushed X1.inn) f0 (none_size X1.inn) qm
  have X2 := X1.gr gm (Nat.le_add_left _ _)
  have X3 := At.own (a := (s₁.heap.push (methodObj (.ref f) (.ref x))).objs.size) (h' := (s₁.heap.push (methodObj (.ref f) (.ref x))).push (ciObj (.ref s₁.heap.objs.size) (.str y (s₁.toks + 1)) (.bool false))) (tk' := s₁.toks + 1 + 1) X2 (fun b o e => Heap.get?_push_of_some _ e) (Nat.le_add_left _ _) (Heap.get?_push_size _ rfl) (Heap.get?_none_of_le (Nat.le_refl _)) (.obj _)
  exact X3.name (.pack (l := [(s₁.heap.objs.size, methodObj (.ref f) (.ref x))]) fun p hp => by rw [List.mem_singleton.mp hp]; exact addV_at) hb fun s' X4 => next _ _ _ _ s' addV_at X4
theorem At.packP {z : Str} {a : Addr} {l : List (Addr × Obj)} (X : At W k A env s₀ P₀ H Γ Δ Mx P s) (h : (z, D.pack a l) ∈ Γ) : ∀ p ∈ l, P p.1 = some p.2 := by
  obtain ⟨v, _, i⟩ := X.cx.vars _ h
  exact i.packI.2
theorem At.instP {z : Str} {x C dx : Addr} (X : At W k A env s₀ P₀ H Γ Δ Mx P s) (h : (z, D.inst x C dx) ∈ Γ) : P x = some (instObj C dx) := by
  obtain ⟨v, _, i⟩ := X.cx.vars _ h
  exact i.instI.2
/-- the next item of an iterator among the owned objects -/
noncomputable def NxM (W : Wd) (k : Nat) (A : Around) (P : Vw) (v : Value) (r : Option D) (Mx Mx' : List (Addr × MO)) : Prop :=
  ∀ (s : Shared) (E : Value → Shared → Prop) (Q : Option Value → Shared → Prop) (S : Vw), St W k A S P s → Dv P s Mx →
    (∀ r' P' s', GrM (ads Mx) P s P' s' → 1 ≤ s'.toks → Dv P' s' Mx' → (match r, r' with | some d, some u => Is P' u d | none, none => True | _, _ => False) → Q r' s') → wpAny W.M A (pyNext v) Q E s
/-- for x in z: .., z a callable iterator -/
theorem s_forM {x z : Str} {px pz pos : Pos} {body rest' : List Stmt} {ci : Addr} {lci : List (Addr × Obj)} {a0 b0 c0 : Value} (X : At W k A env s₀ P₀ H Γ Δ ((ci, .obj (ciObj a0 b0 c0)) :: Mx) P s) (hz : (z, D.pack ci lci) ∈ Γ) (hb : Bindable env x)
    (N : Nat) (J : Nat → Vw → List (Str × D) → List (Str × List D) → List (Addr × MO) → Prop) (hJ : J N P Γ Δ ((ci, .obj (ciObj a0 b0 c0)) :: Mx))
    (turn : ∀ n P' Γ' Δ' Mx' s', J n P' Γ' Δ' Mx' → At W k A env s₀ P₀ H Γ' Δ' Mx' P' s' → ∃ r M1 M2 R, Mx' = M1 ++ R ∧ ads M2 = ads M1 ∧ NxM (W.at []) k A P' (.ref ci) r M1 M2 ∧
      (match r with
      | none => ∀ P'' s'', Le P' P'' → At W k A env s₀ P₀ H Γ' Δ' (M2 ++ R) P'' s'' → wpAny W.M A (execs rest' env) Q E s''
      | some d => ∀ P'' s'' (E' : Value → Shared → Prop), Le P' P'' → At W k A env s₀ P₀ H ((x, d) :: rm x Γ') (rm x Δ') (M2 ++ R) P'' s'' → wpAny W.M A (execs body env) (ForMQ W k A env s₀ P₀ H Q J n) E' s''))
    (hd : (z == ("__debug__" : Str)) = false := by decide) (hn : (z == ("__classdict__" : Str)) = false := by decide) (hs : ∀ v, foldedSetIterable (.Name z pz) env v = pure v := by intro _; rfl) :
    wpAny W.M A (execs (.For (.Name x px) (.Name z pz) body [] pos :: rest') env) Q E s := by
  obtain ⟨v, nv0, iv0⟩ := X.cx.vars _ hz
  refine wpAny_execs_cons (wpAny_For (name_read X.fn X.st.sv nv0 ?_ hd hn) hs)
  obtain ⟨rfl, _⟩ := iv0.packI
  obtain ⟨m0, cv, ad, yy, _⟩ := X.mnew
  obtain ⟨ob, hob, hi⟩ := yy.raw _ List.mem_cons_self
  obtain rfl := hi.objI.symm
  refine pyIter_ci hob rfl ?_
  refine codeAny_forLoop (fun j s' => ∃ Γ' Δ' Mx' P', J j P' Γ' Δ' Mx' ∧ At W k A env s₀ P₀ H Γ' Δ' Mx' P' s') ?_ N ⟨Γ, Δ, _, P, hJ, X⟩
  rintro j s' ⟨Γ', Δ', Mx', P', hJ', X'⟩
  obtain ⟨r, M1, M2, R, rfl, ha, hnx, ht⟩ := turn j P' Γ' Δ' Mx' s' hJ' X'
  refine hnx s' _ _ _ X'.stM X'.dvM fun r' P'' s'' g tk dv h => ?_
  have X2 := X'.grM g tk dv ha
  cases r with
  | none =>
    cases r' with
    | some u => exact h.elim
    | none => exact wpAny_execs_nil (ht P'' s'' g.le X2)
  | some d =>
    cases r' with
    | none => exact h.elim
    | some u =>
      refine wpAny_assign_Name (X2.name h hb fun s3 X3 => ?_)
      refine wpAny_mono (ht P'' s3 _ g.le X3) (fun f s4 q => ?_) fun _ _ q => q
      cases f with
      | next => obtain ⟨n', Γ3, Δ3, M3, P3, h1, h2, h3⟩ := q; exact ⟨n', h1, Γ3, Δ3, M3, P3, h2, h3⟩
      | cont => obtain ⟨n', Γ3, Δ3, M3, P3, h1, h2, h3⟩ := q; exact ⟨n', h1, Γ3, Δ3, M3, P3, h2, h3⟩
      | brk => exact q.elim
      | ret v => exact q
end
end
section
/-! calls that give new owned objects -/
noncomputable abbrev OutT := D → List (Addr × MO) → List (Addr × MO) → Prop
noncomputable def KlX (W : Wd) (k : Nat) (f : Value) (ds : List D) (Mx : List (Addr × MO)) (Out : OutT) : Prop :=
  ∀ (A : Around) (S P : Vw) (s : Shared) (R : Result → Shared → Prop) (vs : List Value), St W k A S P s → IsAll P vs ds → Dv P s Mx →
    (∀ v P' s' d Mx' N, Out d Mx' N → ads Mx' = ads Mx → GrM (ads Mx) P s P' s' → 1 ≤ s'.toks → Dv P' s' (Mx' ++ N) → (∀ p ∈ N, s.heap.get? p.1 = none) → Is P' v d → R (.ok (.ret v)) s') → codeAny W.M A (.call f ⟨vs, []⟩) R s
noncomputable def ClX (W : Wd) (k : Nat) (f : Value) (ds : List D) (Mx : List (Addr × MO)) (Out : OutT) : Prop :=
  ∀ (A : Around) (S P : Vw) (s : Shared) (E Q : Value → Shared → Prop) (vs : List Value), St W k A S P s → IsAll P vs ds → Dv P s Mx →
    (∀ v P' s' d Mx' N, Out d Mx' N → ads Mx' = ads Mx → GrM (ads Mx) P s P' s' → 1 ≤ s'.toks → Dv P' s' (Mx' ++ N) → (∀ p ∈ N, s.heap.get? p.1 = none) → Is P' v d → Q v s') → wpAny W.M A (call f vs) Q E s
theorem KlX.cl {W : Wd} {k : Nat} {f : Value} {ds : List D} {Mx : List (Addr × MO)} {Out : OutT} (h : KlX W k f ds Mx Out) : ClX W k f ds Mx Out := fun A S P s E Q vs st i dv hQ =>
  wpAny_call (h A S P s _ vs st i dv fun v P' s' d Mx' N o a g tk dv' fr i' => hQ v P' s' d Mx' N o a g tk dv' fr i')
noncomputable def FinX (W : Wd) (k : Nat) (A : Around) (env : Env) (s₀ : Shared) (P₀ H : Vw) (Mx : List (Addr × MO)) (Out : OutT) (fl : Flow) (s' : Shared) : Prop :=
  ∃ P' Γ' Δ' Mx' N rest d, At W k A env s₀ P₀ H Γ' Δ' ((Mx' ++ N) ++ rest) P' s' ∧ Out d Mx' N ∧ ads Mx' = ads Mx ∧ (∀ p ∈ N, s₀.heap.get? p.1 = none) ∧ Is P' (match fl with | .ret v => v | _ => .none) d
theorem klx_fn {W : Wd} {k : Nat} {f : Addr} {fd : FuncData} {body : List Stmt} {names : List Str} {ds : List D} {Mx : List (Addr × MO)} {Out : OutT} (F : ∀ P, W.B P → FnIn W P f fd body names) (hl : ds.length = names.length)
    (hb : ∀ A L s₀ P₀ P s, Le P₀ P → At W k A (callEnvC fd L f) s₀ P₀ (offX (ads Mx) s₀.heap) (names.zip ds) [] Mx P s →
      wpAny W.M A (execs body (callEnvC fd L f)) (FinX W k A (callEnvC fd L f) s₀ P₀ (offX (ads Mx) s₀.heap) Mx Out) (fun _ _ => False) s) : KlX W (k + 1) (.ref f) ds Mx Out := by
  intro A S P s R vs st i dv hQ
  have F := F P st.b
  obtain ⟨o, ho, hd⟩ := F.has
  have T := st.b.top s.heap st.p
  refine codeAny_call_function (Nat.lt_of_le_of_lt (Nat.le_add_right _ _) st.a.2.1) (st.p _ _ ho) hd F.co F.gen F.body (codeRec_of (Bs.frag st.b st.p) F.code) ?_
  rw [F.bind vs (i.length.trans hl), F.clo]
  refine wpAny_pure (wp_tk st.tk (wpAny_newFunctionEnv_cells F.fn (fun x hx => ?_) fun env he s' x tk => ?_))
  · have hx1 := (List.of_mem_zip (a := x.1) (b := x.2) hx).1
    rcases F.kind x.1 hx1 with h | ⟨h, hc⟩
    · exact .inl h
    · refine .inr ⟨h, ?_⟩
      have := cellsFrom_names fd.scope.names (s.heap.objs.size + 1) []
      rw [List.map_nil, List.append_nil] at this
      obtain ⟨p, hp, hpe⟩ := List.mem_map.mp (this.mem_iff.mpr hc)
      have hcn := this.nodup_iff.mpr F.cnd
      rw [← hpe, lookup_of_mem hcn hp]; rfl
  · subst he
    refine ⟨T.nolimit.keeps x.toInCall.keep, codeAny_func (wpAny_mono (hb _ s.heap.objs.size s P P s' (Le.refl _) (at_enter F.pre st i hl dv tk x)) (fun fl s'' hf => ?_) fun _ _ h => h.elim)⟩
    obtain ⟨P', Γ', Δ', Mx', N, rest, d, Y, hO, ha, hN, hi⟩ := hf
    have g := Y.leaveH rfl
    obtain ⟨m, cv, ad, y, _⟩ := Y.mnew
    refine hQ _ P' s'' d Mx' N hO ha g Y.tk ⟨fun p hp => y.raw p (List.mem_append_left _ hp), ?_, fun p hp => y.offP p.1 ?_⟩ hN hi
    · have h1 := (List.nodup_append.mp (List.nodup_cons.mp y.nd).2).2.1
      have h2 := (List.nodup_append.mp h1).2.1
      rw [List.map_append] at h2
      exact (List.nodup_append.mp h2).1
    · exact List.mem_cons_of_mem _ (List.mem_append_right _ (List.mem_append_right _ (List.mem_map_of_mem (List.mem_append_left _ hp))))
section
variable {W : Wd} {k : Nat} {A : Around} {env : Env} {s₀ : Shared} {P₀ H : Vw} {Γ : List (Str × D)} {Δ : List (Str × List D)} {Mx Mx' rest : List (Addr × MO)} {P : Vw} {s : Shared} {E : Value → Shared → Prop} {Q : Flow → Shared → Prop}
theorem At.takeN {N : List (Addr × MO)} (X : At W k A env s₀ P₀ H Γ Δ Mx P s) (hno : ∃ m cv ad, AtX env Γ Δ Mx H P m cv ad s.heap ∧ ∀ p ∈ N, p.1 ∉ ownOf env Δ ad Mx) (nd : (ads N).Nodup) (pN : ∀ p ∈ N, P p.1 = none) (qN : ∀ p ∈ N, H p.1 = none) (has : ∀ p ∈ N, ∃ o, s.heap.get? p.1 = some o ∧ MIs P o p.2) :
    At W k A env s₀ P₀ H Γ Δ (N ++ Mx) P s := by
  obtain ⟨m, cv, ad, y, hn⟩ := X.mnew
  have off : ∀ p ∈ N, p.1 ∉ ownOf env Δ ad Mx := by
    obtain ⟨m', cv', ad', y', h⟩ := hno
    rw [AtX.unique y y']; exact h
  have own : (ownOf env Δ ad (N ++ Mx)).Perm (ads N ++ ownOf env Δ ad Mx) := by
    unfold ownOf ads
    rw [List.map_append]
    have : (env.locals :: (env.cells.map (·.2) ++ (Δ.map (fun p => ad p.1) ++ (N.map (·.1) ++ Mx.map (·.1))))) = (env.locals :: (env.cells.map (·.2) ++ Δ.map (fun p => ad p.1))) ++ (N.map (·.1) ++ Mx.map (·.1)) := by simp
    rw [this]
    have e2 : (env.locals :: (env.cells.map (·.2) ++ (Δ.map (fun p => ad p.1) ++ Mx.map (·.1)))) = (env.locals :: (env.cells.map (·.2) ++ Δ.map (fun p => ad p.1))) ++ Mx.map (·.1) := by simp
    rw [e2, ← List.append_assoc, ← List.append_assoc]
    exact List.Perm.append List.perm_append_comm (List.Perm.refl _)
  refine { X with mnew := ⟨m, cv, ad, ⟨y.ns, y.cells, y.vars, y.muts, fun p hp => ?_, own.nodup_iff.mpr (List.nodup_append.mpr ⟨nd, y.nd, fun a ha b hb e => ?_⟩), y.cnd, fun b hb => ?_, fun b hb => ?_⟩, hn⟩ }
  · rcases List.mem_append.mp hp with hp | hp
    · exact has p hp
    · exact y.raw p hp
  · obtain ⟨p, hp, rfl⟩ := List.mem_map.mp ha
    exact off p hp (e ▸ hb)
  · rcases List.mem_append.mp (own.subset hb) with hb | hb
    · obtain ⟨p, hp, rfl⟩ := List.mem_map.mp hb
      exact pN p hp
    · exact y.offP b hb
  · rcases List.mem_append.mp (own.subset hb) with hb | hb
    · obtain ⟨p, hp, rfl⟩ := List.mem_map.mp hb
      exact qN p hp
    · exact y.offH b hb
noncomputable def EvX (W : Wd) (k : Nat) (env : Env) (Γ : List (Str × D)) (Δ : List (Str × List D)) (e : Expr) (Mx : List (Addr × MO)) (Out : OutT) : Prop :=
  ∀ (A : Around) (S P : Vw) (s : Shared) (E Q : Value → Shared → Prop), St W k A S P s → Cx S P env Γ Δ → Dv P s Mx → (∀ p ∈ Mx, S p.1 = none) →
    (∀ v P' s' d Mx' N, Out d Mx' N → ads Mx' = ads Mx → GrM (ads Mx) P s P' s' → 1 ≤ s'.toks → Dv P' s' (Mx' ++ N) → (∀ p ∈ N, s.heap.get? p.1 = none) → Is P' v d → Q v s') → wpAny W.M A (eval e env) Q E s
theorem evx_callF {x : Str} {f : Addr} {p pos : Pos} {args : List Expr} {ds : List D} {Out : OutT} (n : NmG W env x (.ref f)) (F : FnK W.K f) (h : Evs W k env Γ Δ args ds) (hc : ClX W k (.ref f) ds Mx Out)
    (hA : args = [] → ds = [] := by intro h; first | rfl | cases h) (hp : args.all plainE = true := by rfl) (hd : (x == ("__debug__" : Str)) = false := by decide) : EvX W k env Γ Δ (.Call (.Name x p) args [] pos) Mx Out := fun A S P s E Q st hC dv hoff hQ => by
  refine wpAny_Call_Name_kw (name_gl st.b st.p hC n ?_ hd)
  exact callWith_fn F hp st hC h hA fun vs P₁ s₁ g₁ tk₁ i₁ => hc A S P₁ s₁ E Q vs (st.next g₁ tk₁) i₁ (dv.gr g₁) fun v P₂ s₂ d Mx' N o a g₂ tk₂ dv₂ fr i₂ => hQ v P₂ s₂ d Mx' N o a ((g₁.m _).trans g₂) tk₂ dv₂ (fun q hq => none_of_old g₁.old (fr q hq)) i₂
/-- C(e): e gives new owned objects, and so does the class -/
theorem evx_callC {x : Str} {C : Addr} {p pos : Pos} {e : Expr} {O1 : OutT} {O2 : D → OutT} (n : NmG W env x (.ref C)) (hk : keepIn W.K (.ref C) = true) (h : EvX W k env Γ Δ e Mx O1) (hc : ∀ d Mx' N, O1 d Mx' N → ClX W k (.ref C) [d] [] (O2 d))
    (hpe : plainE e = true := by rfl) (hd : (x == ("__debug__" : Str)) = false := by decide) : EvX W k env Γ Δ (.Call (.Name x p) [e] [] pos) Mx (fun d2 Mx' N => ∃ d1 N1 N2, O1 d1 Mx' N1 ∧ O2 d1 d2 [] N2 ∧ N = N2 ++ N1) := fun A S P s E Q st hC dv hoff hQ => by
  refine wpAny_Call_Name_kw (name_gl st.b st.p hC n ?_ hd)
  have he : starEach [e] env = (false, eval e env) :: starEach [] env := starEach_cons hpe
  refine callWith_K (h₀ := s.heap) (Bs.frag st.b st.p) hk ?_ he rfl
  rw [he]
  refine spliced_cons (h A S P s E _ st hC dv hoff fun v P₁ s₁ d Mx' N o ha g tk dv' fr i => spliced_nil ?_)
  refine ⟨Bs.frag (st.b.up g.le) g.inn, ?_⟩
  have nS : ∀ b o, S b = some o → b ∉ ads Mx := fun b o e hm => by
    obtain ⟨p, hp, rfl⟩ := List.mem_map.mp hm
    rw [hoff p hp] at e; cases e
  have st1 : St W k A S P₁ s₁ := ⟨st.a, st.b.up g.le, fun b o e => g.old b o (nS b o e) (st.sv _ _ e), g.inn, tk, fun p hp => (st.rw p hp).imp fun o hh => ⟨hh.1, hh.2.mono g.le⟩⟩
  refine hc d Mx' N o A S P₁ s₁ E Q [v] st1 (.cons i .nil) ⟨fun p hp => (nomatch hp), List.nodup_nil, fun p hp => (nomatch hp)⟩ fun v2 P₂ s₂ d2 M2 N2 o2 ha2 g2 tk2 dv2 fr2 i2 => ?_
  obtain rfl : M2 = [] := List.map_eq_nil_iff.mp ha2
  have gg := GrM.gr g2
  have dvA := dv'.gr gg
  have dvJ : Dv P₂ s₂ ((Mx' ++ N) ++ N2) := by
    refine ⟨fun q hq => ?_, ?_, fun q hq => ?_⟩
    · rcases List.mem_append.mp hq with hq | hq
      · exact dvA.has q hq
      · exact dv2.has q hq
    · unfold ads
      rw [List.map_append]
      refine List.nodup_append.mpr ⟨dvA.nd, dv2.nd, fun a ha b hb e => ?_⟩
      obtain ⟨q, hq, rfl⟩ := List.mem_map.mp ha
      obtain ⟨r, hr, rfl⟩ := List.mem_map.mp hb
      obtain ⟨o, z, _⟩ := dv'.has q hq
      rw [e, fr2 r hr] at z; cases z
    · rcases List.mem_append.mp hq with hq | hq
      · exact dvA.off q hq
      · exact dv2.off q hq
  refine hQ v2 P₂ s₂ d2 Mx' (N2 ++ N) ⟨d, N, N2, o, o2, rfl⟩ ha (g.trans (gg.m _)) tk2 (dvJ.perm ?_) (fun q hq => ?_) i2
  · rw [List.append_assoc]
    exact List.Perm.append (List.Perm.refl _) List.perm_append_comm
  · rcases List.mem_append.mp hq with hq | hq
    · cases e : s.heap.get? q.1 with
      | none => rfl
      | some o => obtain ⟨o', z⟩ := g.ext _ _ e; rw [fr2 q hq] at z; cases z
    · exact fr q hq
theorem s_setX {x : Str} {p pos : Pos} {e : Expr} {rest' : List Stmt} {Out : OutT} (X : At W k A env s₀ P₀ H Γ Δ (Mx ++ rest) P s) (hv : EvX (W.at []) k env Γ Δ e Mx Out) (hb : Bindable env x)
    (next : ∀ d Mx' N P' s', Out d Mx' N → ads Mx' = ads Mx → At W k A env s₀ P₀ H ((x, d) :: rm x Γ) (rm x Δ) (N ++ (Mx' ++ rest)) P' s' → wpAny W.M A (execs rest' env) Q E s')
    (hs : swapsWith e (some (.Name x p)) pos.line env = pure false := by rfl) : wpAny W.M A (execs (.Assign [.Name x p] e pos :: rest') env) Q E s :=
  wpAny_execs_cons (wpAny_Assign_Name (hv A _ P s E _ X.stM X.cxM X.dvM (fun p hp => offX_none (List.mem_map_of_mem hp)) fun v P' s' d Mx' N o ha g tk dv fr i => by
    have dv1 := dv.app
    have X1 := X.grM g tk dv1.1 ha
    obtain ⟨m, cv, ad, y, hn, ho⟩ := X.grM_own g dv1.1 ha
    have X2 := X1.takeN (N := N) ⟨m, cv, ad, y, fun q hq => ho _ (fr q hq)⟩ dv1.2.1.nd dv1.2.1.off (fun q hq => (X.none₀ (fr q hq)).2) dv1.2.1.has
    exact X2.name i hb fun s'' X'' => next d Mx' N P' s'' o ha X'') hs)
end
/-- a class is called: a new object whose fields turn -/
theorem clx_make {W : Wd} {k : Nat} {C f : Addr} {ds : List D} {Out0 : List (Str × D) → List (Addr × MO) → Prop} (hm : makesIn W.K C = true) (hi : findIn W.K (.ref C) "__init__" = some (some (.ref f))) (hf : typeIn W.K (.ref f) = some (.type "function"))
    (hc : ∀ x dx, KlX W k (.ref f) (.inst x C dx :: ds) [(dx, .dict [])] (fun d Mx' N => d = .none ∧ ∃ fs, Mx' = [(dx, .dict fs)] ∧ Out0 fs N)) : ClX W (k + 1) (.ref C) ds [] (fun d Mx' N => ∃ x dx fs N0, d = .inst x C dx ∧ Mx' = [] ∧ N = (dx, .dict fs) :: N0 ∧ Out0 fs N0) := fun A S P s E Q vs st i dv0 hQ => by
  have X := Bs.frag st.b st.p
  obtain ⟨hh, g, d, t, os⟩ := s
  refine wpAny_call (make_core (makes_of X hm) (looks_findIn X hi) (fun self => bind_fn X self hf) (.inl rfl) ?_)
  have hs1 : (hh.push emptyDict).objs.size = hh.objs.size + 1 := Heap.size_push ..
  have k1 : ∀ b o, hh.get? b = some o → ((hh.push emptyDict).push (instObj C hh.objs.size)).get? b = some o := fun b o e => Heap.get?_push_of_some _ (Heap.get?_push_of_some _ e)
  have hx : ((hh.push emptyDict).push (instObj C hh.objs.size)).get? (hh.objs.size + 1) = some (instObj C hh.objs.size) := by
    have := Heap.get?_push_size (hh.push emptyDict) (o := instObj C hh.objs.size) rfl
    rwa [hs1] at this
  have hd : ((hh.push emptyDict).push (instObj C hh.objs.size)).get? hh.objs.size = some emptyDict := Heap.get?_push_of_some _ (Heap.get?_push_size _ rfl)
  have f0 : hh.get? hh.objs.size = none := Heap.get?_none_of_le (Nat.le_refl _)
  have f1 : hh.get? (hh.objs.size + 1) = none := Heap.get?_none_of_le (Nat.le_succ _)
  have pn : ∀ b, hh.get? b = none → P b = none := fun b e => none_of_in (h := hh) st.p e
  have inn1 : In (addV P (hh.objs.size + 1) (instObj C hh.objs.size)) ((hh.push emptyDict).push (instObj C hh.objs.size)) := addV_in (fun b o e => k1 b o (st.p _ _ e)) hx
  have le1 : Le P (addV P (hh.objs.size + 1) (instObj C hh.objs.size)) := addV_le (pn _ f1)
  have hne : hh.objs.size ≠ hh.objs.size + 1 := Nat.ne_of_lt (Nat.lt_succ_self _)
  have st1 : St W k (A.under (.builtin "type.__call__" ⟨.ref C :: vs, []⟩)) S (addV P (hh.objs.size + 1) (instObj C hh.objs.size)) ⟨(hh.push emptyDict).push (instObj C hh.objs.size), g, d, t, os⟩ := by
    refine ⟨⟨st.a.1, ?_, ?_⟩, st.b.up le1, fun b o e => k1 b o (st.sv _ _ e), inn1, st.tk, fun p hp => (st.rw p hp).imp fun o hh => ⟨hh.1, hh.2.mono le1⟩⟩
    · have h1 := st.a.2.1
      have h2 : (Code.builtin "type.__call__" ⟨Value.ref C :: vs, []⟩).weight = 1 := by with_unfolding_all rfl
      show A.depth + (Code.builtin "type.__call__" ⟨Value.ref C :: vs, []⟩).weight + k < _
      rw [h2]; exact ar_depth h1
    · have h1 := st.a.2.2
      have h2 : (Code.builtin "type.__call__" ⟨Value.ref C :: vs, []⟩).cUnits = 1 := by with_unfolding_all rfl
      show A.units + (Code.builtin "type.__call__" ⟨Value.ref C :: vs, []⟩).cUnits + 8 * k + 64 < _
      rw [h2]; exact ar_units (by decide) h1
  refine hc (hh.objs.size + 1) hh.objs.size _ S _ _ _ (.ref (hh.objs.size + 1) :: vs) st1 (.cons (.inst addV_at) (i.mono le1)) ⟨fun p hp => ?_, by simp [ads], fun p hp => ?_⟩ fun v P' s' d' Mx' N hO ha g' tk' dv' fr' i' => ?_
  · cases List.mem_singleton.mp hp
    exact ⟨_, hd, .dict (es := []) (n := 0) .nil⟩
  · cases List.mem_singleton.mp hp
    show addV P (hh.objs.size + 1) (instObj C hh.objs.size) hh.objs.size = none
    rw [addV_ne hne]; exact pn _ f0
  · obtain ⟨rfl, fs, rfl, hO⟩ := hO
    obtain rfl := i'.noneI
    refine ⟨rfl, ?_⟩
    have key : ∀ b o, hh.get? b = some o → s'.heap.get? b = some o := fun b o e => g'.old b o (fun hb => by
      rw [List.mem_singleton.mp hb, f0] at e; cases e) (k1 b o e)
    refine hQ _ P' s' (.inst (hh.objs.size + 1) C hh.objs.size) [] ((hh.objs.size, .dict fs) :: N) ⟨_, _, fs, N, rfl, rfl, rfl, hO⟩ rfl ⟨le1.trans g'.le, g'.inn, fun b o _ e => key b o e, fun b o e => ⟨o, key b o e⟩, fun b o e => ?_, g'.gens, g'.drawn, g'.os⟩ tk' dv' (fun p hp => ?_) (.inst (g'.le _ _ addV_at))
    · rcases g'.new b o e with z | z
      · by_cases hb1 : b = hh.objs.size + 1
        · subst hb1; exact .inr f1
        · rw [addV_ne hb1] at z; exact .inl z
      · exact .inr (none_of_old k1 z)
    · rcases List.mem_cons.mp hp with rfl | hp
      · exact f0
      · exact none_of_old k1 (fr' p hp)
section
variable {W : Wd} {k : Nat} {A : Around} {env : Env} {s₀ : Shared} {P₀ H : Vw} {Γ : List (Str × D)} {Δ : List (Str × List D)} {Mx Mx' rest : List (Addr × MO)} {P : Vw} {s : Shared} {E : Value → Shared → Prop} {Q : Flow → Shared → Prop}
/-- self.x = [..], a list that turns -/
theorem s_setattrN {o : Expr} {name : Str} {p pos : Pos} {e : Expr} {rest' : List Stmt} {x C dx : Addr} {fs : List (Str × D)} {ds : List D} (X : At W k A env s₀ P₀ H Γ Δ ((dx, .dict fs) :: Mx) P s) (hv : EvN (W.at ((dx, .dict fs) :: Mx)) k env Γ Δ e ds) (ho : Ev (W.at ((dx, .dict fs) :: Mx)) k env Γ Δ o (.inst x C dx)) (G : SetK W.K C name)
    (next : ∀ a P' s', s₀.heap.get? a = none → At W k A env s₀ P₀ H Γ Δ ((dx, .dict (putF name (.raw a) fs)) :: (a, .list ds) :: Mx) P' s' → wpAny W.M A (execs rest' env) Q E s')
    (hz : Nat.ble fs.length 900 = true := by rfl) (hs : swapsWith e (some (.Attribute o name p)) pos.line env = pure false := by rfl) : wpAny W.M A (execs (.Assign [.Attribute o name p] e pos :: rest') env) Q E s := by
  refine wpAny_execs_cons (plainObj_wpAny_Assign_Attribute (hv A _ P s E _ X.st X.cx fun a vs n P1 s1 g1 tk1 h0 h1 h2 i1 => ho A _ P1 s1 E _ (X.st.next g1 tk1) (X.cx.up (Le.refl _) g1.le) fun ov P2 s2 g2 tk2 i2 => ?_) hs)
  have X2 := (X.gr g1 tk1).gr g2 tk2
  have pa := (gr_none g2 ⟨h1, _, h2⟩).1
  obtain ⟨m0, cv0, ad0, y0, _, ho0⟩ := X.gr_own (g1.trans g2)
  have X3 := (X2.take (mo := .list ds) pa (X.none₀ h0).2 ⟨m0, cv0, ad0, y0, ho0 a h0⟩ (g2.old _ _ h2) (.list (i1.mono g2.le))).permM (List.Perm.swap ..)
  obtain ⟨rfl, hx⟩ := i2.instI
  obtain ⟨m, cv, ad, y, hn⟩ := X3.mnew
  obtain ⟨ob, hq, hi⟩ := y.raw _ List.mem_cons_self
  obtain ⟨es, n, rfl, hf⟩ := hi.dictI
  refine set_raw (Bs.frag X2.b X2.inn) G (X2.inn _ _ hx) hq ?_ (by rw [hf.length]; exact Nat.le_of_ble_eq_true hz) fun hs' t h' n' hb he => ?_
  · cases q : fs.lookup name with
    | none => rw [hf.miss q]; rfl
    | some d' => obtain ⟨u, hu, _⟩ := hf.get q; rw [hu]; rfl
  · exact next a P2 _ (X.none₀ h0).1 (X3.turnR (o' := .dict (putF name (.raw a) fs)) (Nat.le_trans tk2 (Nat.le_add_right _ _)) (fun b o nb e => hb.extBut b o nb e) he (.dict (hf.put (.raw a))))
end
end
section
/-! lists reached through a field -/
section
variable {W : Wd} {k : Nat} {A : Around} {env : Env} {s₀ : Shared} {P₀ H : Vw} {Γ : List (Str × D)} {Δ : List (Str × List D)} {Mx : List (Addr × MO)} {P : Vw} {s : Shared} {E : Value → Shared → Prop} {Q : Flow → Shared → Prop}
theorem ts_rawlist {e : Expr} {a : Addr} {ds : List D} (h1 : Ev W k env Γ Δ e (.raw a)) (hm : (a, MO.list ds) ∈ W.raws) (hl : ds.length < 2 ^ 62) (hp : isTrue e env (eval e env) = (do let v ← eval e env; standAt e.pos; holding [v] (truthy v)) := by rfl) : Ts W k env Γ Δ e (!ds.isEmpty) :=
  ts_plain h1 (fun A S P s E Q v st i hQ => by
    obtain rfl := i.rawI
    obtain ⟨o, e, i⟩ := st.rw _ hm
    obtain ⟨vs, n, rfl, iv⟩ := i.listI
    have hl' : s.heap.IsList a vs.toArray := ⟨_, st.sv _ _ e, rfl, n, rfl⟩
    refine wpAny_truthy_list hl' (by rw [List.size_toArray, iv.length]; omega) ?_
    have : (!vs.toArray.isEmpty) = !ds.isEmpty := by
      have := iv.length
      cases vs <;> cases ds <;> simp_all
    rw [this]
    exact hQ P _ (Gr.toks st.p)) hp
theorem isAll_erase {vs : List Value} {ds : List D} (j : Nat) (h : IsAll P vs ds) : IsAll P (vs.eraseIdx j) (ds.eraseIdx j) := by
  induction vs generalizing ds j with
  | nil => rw [h.nilV]; exact .nil
  | cons v vs ih =>
    obtain ⟨e, es, rfl, a, r⟩ := h.consV
    cases j with
    | zero => exact r
    | succ j => exact .cons a (ih j r)
/-- return o.pop(i) -/
theorem s_retPop {o ie : Expr} {ap pos p : Pos} {rest' : List Stmt} {a : Addr} {ds : List D} {d : D} {i : Int} {j : Nat} (X : At W k A env s₀ P₀ H Γ Δ ((a, .list ds) :: Mx) P s) (ho : Ev (W.at ((a, .list ds) :: Mx)) k env Γ Δ o (.raw a)) (hi : Ev (W.at ((a, .list ds) :: Mx)) k env Γ Δ ie (.int i)) (hj : seqIndex? i ds.length = some j) (hd : ds[j]? = some d) (hsz : ds.length ≤ sizeLine) (hf : Builtin.List.listFitsIndex i = true := by decide)
    (next : ∀ v P' s', At W k A env s₀ P₀ H Γ Δ ((a, .list (ds.eraseIdx j)) :: Mx) P' s' → Is P' v d → Q (.ret v) s')
    (hp : plainE ie = true := by rfl) (hbase : attributeBase o "pop" env (eval o env) = eval o env := by rfl) (hline : (ap.endLine == pos.line) = true := by decide) :
    wpAny W.M A (execs (.Return (some (.Call (.Attribute o "pop" ap) [ie] [] pos)) p :: rest') env) Q E s := by
  refine wpAny_execs_cons (wpAny_Return_some ?_)
  have hpl : [ie].all plainE = true := by simp [hp]
  refine wpAny_Call_method hbase (few_ok hpl (by simp)) hline F.plainAttrs_list F.slot_list_pop F.type_list_pop (ho A _ P s E _ X.st X.cx fun v P1 s1 g1 tk1 i1 => ?_)
  obtain rfl := i1.rawI
  have X1 := X.gr g1 tk1
  obtain ⟨m, cv, ad, y, hnn⟩ := X1.mnew
  obtain ⟨ob, q, im⟩ := y.raw _ List.mem_cons_self
  obtain ⟨vs, n, rfl, iv⟩ := im.listI
  refine ⟨⟨_, q, rfl⟩, fun b hb => by cases hb; exact ⟨_, q, rfl⟩, ?_⟩
  refine callWith_builtin (plain_any hpl) ?_
  rw [starEach_cons hp]
  refine evalArgs_plain (spliced_cons (hi A _ P1 s1 E _ X1.st X1.cx fun u P2 s2 g2 tk2 i2 => spliced_nil ?_))
  obtain ⟨t, rfl⟩ := Is.intI i2
  have q2 := g2.old _ _ q
  have iv2 := iv.mono g2.le
  have hlen : vs.toArray.size = ds.length := by rw [List.size_toArray, iv.length]
  have hjl : j < vs.length := by rw [iv.length]; exact (List.getElem?_eq_some_iff.mp hd).1
  obtain ⟨v, hv, iv3⟩ := iv2.get hd
  refine call_meets (s := s2) F.slot_list_pop ⟨_, q2, rfl⟩ F.entry_list_pop (F.args_list_pop_2 _ _) (PySem.MeetsSeq.list_pop_at a vs.toArray n i t j v hf (by rw [hlen]; exact hj) (by simpa using hv) (by rw [hlen]; exact hsz)) ⟨q2, ?_⟩
  have hu := Heap.get?_update_self (Obj.mapSeq fun xs => xs.eraseIdxIfInBounds j) q2 (by simp [PySem.W.listOf, Obj.mapSeq, Obj.isFreed])
  have hobj : ∃ n', Obj.mapSeq (fun xs => xs.eraseIdxIfInBounds j) (listOf vs.toArray n) = listOf (vs.eraseIdx j).toArray n' := by
    refine ⟨if (vs.toArray.eraseIdxIfInBounds j).size == vs.toArray.size then n else n + 1, ?_⟩
    have e : vs.toArray.eraseIdxIfInBounds j = (vs.eraseIdx j).toArray := by simp [Array.eraseIdxIfInBounds, hjl]
    simp only [PySem.W.listOf, Obj.mapSeq]
    exact congrArg (fun ys => ({ cls := .type "list", data := .seq ys (if (vs.toArray.eraseIdxIfInBounds j).size == vs.toArray.size then n else n + 1) } : Obj)) e
  obtain ⟨n', hobj⟩ := hobj
  rw [hobj] at hu
  exact next v P2 _ (At.turnR (o' := .list (ds.eraseIdx j)) (X1.gr g2 tk2) tk2 (fun b o nb e => (Heap.SameBut.update ..).extBut b o nb e) hu (.list (isAll_erase j iv2))) iv3
/-- o.append(e) -/
theorem s_appendR {o e : Expr} {ap pos p : Pos} {rest' : List Stmt} {a : Addr} {ds : List D} {d : D} (X : At W k A env s₀ P₀ H Γ Δ ((a, .list ds) :: Mx) P s) (ho : Ev (W.at ((a, .list ds) :: Mx)) k env Γ Δ o (.raw a)) (hv : Ev (W.at ((a, .list ds) :: Mx)) k env Γ Δ e d) (hsz : ds.length ≤ sizeLine)
    (next : ∀ P' s', At W k A env s₀ P₀ H Γ Δ ((a, .list (ds ++ [d])) :: Mx) P' s' → wpAny W.M A (execs rest' env) Q E s')
    (hp : plainE e = true := by rfl) (hbase : attributeBase o "append" env (eval o env) = eval o env := by rfl) (hline : (ap.endLine == pos.line) = true := by decide)
    (hi : interactive env = false := by rfl) (hsw : swapsWith (.Call (.Attribute o "append" ap) [e] [] pos) none p.line env = pure false := by rfl) :
    wpAny W.M A (execs (.Expr (.Call (.Attribute o "append" ap) [e] [] pos) p :: rest') env) Q E s := by
  refine wpAny_execs_cons (wpAny_Expr ?_ hi hsw)
  have hpl : [e].all plainE = true := by simp [hp]
  refine wpAny_Call_method hbase (few_ok hpl (by simp)) hline F.plainAttrs_list F.slot_list_append F.type_list_append (ho A _ P s E _ X.st X.cx fun v P1 s1 g1 tk1 i1 => ?_)
  obtain rfl := i1.rawI
  have X1 := X.gr g1 tk1
  obtain ⟨m, cv, ad, y, hnn⟩ := X1.mnew
  obtain ⟨ob, q, im⟩ := y.raw _ List.mem_cons_self
  obtain ⟨vs, n, rfl, iv⟩ := im.listI
  refine ⟨⟨_, q, rfl⟩, fun b hb => by cases hb; exact ⟨_, q, rfl⟩, ?_⟩
  refine callWith_builtin (plain_any hpl) ?_
  rw [starEach_cons hp]
  refine evalArgs_plain (spliced_cons (hv A _ P1 s1 E _ X1.st X1.cx fun u P2 s2 g2 tk2 i2 => spliced_nil ?_))
  refine append_at (hsz := by rw [List.size_toArray, iv.length]; exact hsz) (g2.old _ _ q) fun h' hs' he' => ?_
  exact next P2 _ (At.turnR (o' := .list (ds ++ [d])) (X1.gr g2 tk2) tk2 (fun b o n e => hs'.extBut b o n e) he' (by
    have := (iv.mono g2.le).append (.cons i2 .nil)
    have e : ({ cls := .type "list", data := .seq (vs.toArray.push u) (n + 1) } : Obj) = listOf (vs ++ [u]).toArray (n + 1) := by simp [PySem.W.listOf]
    rw [e]; exact .list this))
/-- o.x op= e -/
theorem s_augattr {o e : Expr} {name : Str} {tp pos : Pos} {op : Operator} {rest' : List Stmt} {x C dx : Addr} {fs : List (Str × D)} {a b d : D} (X : At W k A env s₀ P₀ H Γ Δ ((dx, .dict fs) :: Mx) P s) (ho : Ev (W.at ((dx, .dict fs) :: Mx)) k env Γ Δ o (.inst x C dx)) (G : GetK W.K C name) (T : SetK W.K C name) (hl : fs.lookup name = some a) (hv : Ev (W.at ((dx, .dict fs) :: Mx)) k env Γ Δ e b) (hop : Op2 (W.at ((dx, .dict fs) :: Mx)) k (inplaceOp op) a b d)
    (next : ∀ P' s', At W k A env s₀ P₀ H Γ Δ ((dx, .dict (putF name d fs)) :: Mx) P' s' → wpAny W.M A (execs rest' env) Q E s') (hz : Nat.ble fs.length 900 = true := by rfl) :
    wpAny W.M A (execs (.AugAssign (.Attribute o name tp) op e pos :: rest') env) Q E s := by
  refine wpAny_execs_cons (wpAny_AugAssign_AttributeAny (ho A _ P s E _ X.st X.cx fun v P1 s1 g1 tk1 i1 => ?_))
  obtain ⟨rfl, hx⟩ := i1.instI
  have X1 := X.gr g1 tk1
  obtain ⟨m, cv, ad, y, hnn⟩ := X1.mnew
  obtain ⟨ob, q, im⟩ := y.raw _ List.mem_cons_self
  obtain ⟨es, n, rfl, hf⟩ := im.dictI
  obtain ⟨u, hu, hiu⟩ := hf.get hl
  obtain ⟨attr, ha, hn⟩ := G.at_
  refine get_value (Bs.frag X1.b X1.inn) (inst_at (X1.inn _ _ hx) q) G.ga (findObj_own G.hh ha hn (by rw [lookIn_dict]; exact hu)) (handed_of hiu) ?_
  have X2 := X1.gr (Gr.toks (tk := s1.toks + 1) X1.inn) (Nat.le_add_left _ _)
  refine hv A _ _ _ E _ X2.st X2.cx fun w P3 s3 g3 tk3 i3 => ?_
  have X3 := X2.gr g3 tk3
  refine wp_tk tk3 (hop A _ P3 s3 E _ u w X3.st (hiu.mono g3.le) i3 fun r P4 s4 g4 i4 tk4 => ?_)
  have X4 := X3.gr g4 tk4
  have q4 := g4.old _ _ (g3.old _ _ q)
  have hf4 := (hf.mono g3.le).mono g4.le
  refine set_raw (Bs.frag X4.b X4.inn) T (X4.inn _ _ (g4.le _ _ (g3.le _ _ hx))) q4 (by rw [(hf4.get hl).choose_spec.1]; rfl) (by rw [hf.length]; exact Nat.le_of_ble_eq_true hz) fun hs' t h' n' hb he => ?_
  exact next P4 _ (X4.turnR (o' := .dict (putF name d fs)) (Nat.le_trans tk4 (Nat.le_add_right _ _)) (fun b o nb e => hb.extBut b o nb e) he (.dict (hf4.put i4)))
end
theorem sl1_cons {text : Str} {n c : Nat} {r : List Nat} (h : text.cps.toList.drop n = c :: r) : sl1 text n = ⟨#[c]⟩ := by
  have hn : n < text.cps.toList.length := by
    refine Nat.lt_of_not_le fun q => ?_
    rw [List.drop_eq_nil_of_le q] at h; cases h
  have := slice_closes (x := text) (i := n) (j := (n : Int) + 1) ⟨by omega, by omega, by omega⟩
  rw [beq_iff_eq] at this
  unfold sl1
  rw [this]
  rw [show ((n : Int)).toNat = n from rfl, h, show ((n : Int) + 1 - n).toNat = 1 by omega]
  rfl
theorem sl1_nil {text : Str} {n : Nat} (h : text.cps.toList.drop n = []) : sl1 text n = "" := by
  have hn : text.cps.toList.length ≤ n := List.drop_eq_nil_iff.mp h
  have hl : text.length = text.cps.toList.length := by show text.cps.size = _; simp
  have h0 : ¬ (n : Int) < 0 := by omega
  have h1 : ¬ ((n : Int) + 1 < 0) := by omega
  have h3 : ¬ ((text.length : Int) < 0) := by omega
  have h2 : (1 : Int) > 0 := by decide
  have e2 : Txt.slice text (some (n : Int)) (some ((n : Int) + 1)) = Txt.slice text (some (text.length : Int)) (some (text.length : Int)) := by
    unfold Txt.slice
    have : Builtin.Str.strSliceIndices (some (n : Int)) (some ((n : Int) + 1)) 1 text.length = Builtin.Str.strSliceIndices (some (text.length : Int)) (some (text.length : Int)) 1 text.length := by
      simp only [Builtin.Str.strSliceIndices, h0, h1, h2, h3, if_false, if_true, Int.min_eq_right (show (text.length : Int) ≤ n by omega), Int.min_eq_right (show (text.length : Int) ≤ (n : Int) + 1 by omega), Int.min_self]
    rw [this]
  have := slice_closes (x := text) (i := text.length) (j := text.length) ⟨by omega, Int.le_refl _, by omega⟩
  rw [beq_iff_eq] at this
  unfold sl1
  rw [e2, this]
  simp
  rfl
end
section
set_option maxHeartbeats 4000000
/-! defs and lambdas in a frame; closures handed out -/
section
variable {W : Wd} {k : Nat} {A : Around} {env : Env} {s₀ : Shared} {P₀ H : Vw} {Γ : List (Str × D)} {Δ : List (Str × List D)} {Mx : List (Addr × MO)} {P : Vw} {s : Shared} {E : Value → Shared → Prop} {Q : Flow → Shared → Prop}
theorem At.redatum {x : Str} {d d' : D} (X : At W k A env s₀ P₀ H ((x, d) :: Γ) Δ Mx P s) (h : ∀ v, Is P v d → Is P v d') : At W k A env s₀ P₀ H ((x, d') :: Γ) Δ Mx P s := by
  obtain ⟨m, cv, ad, y, hn⟩ := X.mnew
  refine { X with mnew := ⟨m, cv, ad, { y with vars := fun p hp => ?_ }, hn⟩ }
  rcases List.mem_cons.mp hp with rfl | hp
  · obtain ⟨v, e, i⟩ := y.vars _ List.mem_cons_self
    exact ⟨v, e, h v i⟩
  · exact y.vars p (List.mem_cons_of_mem _ hp)
/-- an owned object is changed no more -/
theorem At.freezeM {a : Addr} {o : Obj} (X : At W k A env s₀ P₀ H Γ Δ ((a, .obj o) :: Mx) P s) (h0 : s₀.heap.get? a = none) : At W k A env s₀ P₀ H Γ Δ Mx (addV P a o) s := by
  obtain ⟨m, cv, ad, y, hn⟩ := X.mnew
  obtain ⟨ob, q, i⟩ := y.raw _ List.mem_cons_self
  obtain rfl := i.objI.symm
  have hmem : a ∈ ownOf env Δ ad ((a, .obj o) :: Mx) := List.mem_cons_of_mem _ (List.mem_append_right _ (List.mem_append_right _ List.mem_cons_self))
  have hP := y.offP _ hmem
  have hH := y.offH _ hmem
  have own : (ownOf env Δ ad ((a, .obj o) :: Mx)).Perm (a :: ownOf env Δ ad Mx) := by
    show (env.locals :: (env.cells.map (·.2) ++ (Δ.map (fun p => ad p.1) ++ (a :: Mx.map (·.1))))).Perm _
    refine List.Perm.trans (List.Perm.cons _ ?_) (List.Perm.swap _ _ _)
    rw [← List.append_assoc]
    refine List.Perm.trans List.perm_middle ?_
    rw [List.append_assoc]
  have nd := List.nodup_cons.mp (own.nodup_iff.mp y.nd)
  refine { X with
    b := X.b.up (addV_le hP)
    le := X.le.trans (addV_le hP)
    inn := addV_in X.inn q
    new := fun b o' e' => by
      by_cases hb : b = a
      · subst hb; exact .inr h0
      · rw [addV_ne hb] at e'; exact X.new _ _ e'
    newH := fun b o' e' => by
      by_cases hb : b = a
      · subst hb; exact .inr hH
      · rw [addV_ne hb] at e'; exact X.newH _ _ e'
    mnew := ⟨m, cv, ad, ⟨y.ns, y.cells, fun p hp => ?_, fun p hp => ?_, fun p hp => ?_, nd.2, y.cnd, fun b hb => ?_, fun b hb => y.offH b (own.symm.subset (List.mem_cons_of_mem _ hb))⟩, hn⟩ }
  · obtain ⟨v, e, i⟩ := y.vars p hp; exact ⟨v, e, i.mono (addV_le hP)⟩
  · obtain ⟨vs, n, e, q, i⟩ := y.muts p hp; exact ⟨vs, n, e, q, i.mono (addV_le hP)⟩
  · obtain ⟨o', q, i⟩ := y.raw p (List.mem_cons_of_mem _ hp); exact ⟨o', q, i.mono (addV_le hP)⟩
  · rw [addV_ne (fun z : b = a => nd.1 (z ▸ hb))]
    exact y.offP b (own.symm.subset (List.mem_cons_of_mem _ hb))
/-- a list that turns, apart from its name -/
theorem At.unlist {x : Str} {c : Addr} {ds : List D} (X : At W k A env s₀ P₀ H Γ ((x, ds) :: Δ) Mx P s) (hk : env.kindOf x = some .cell) (hc : env.cells.lookup x = some c) :
    ∃ a o, At W k A env s₀ P₀ H Γ Δ ((a, .list ds) :: Mx) P s ∧ s₀.heap.get? a = none ∧ s.heap.get? c = some o ∧ o.data = .cell (some (.ref a)) := by
  obtain ⟨m, cv, ad, y, hn⟩ := X.mnew
  obtain ⟨vs, n, e, q, i⟩ := y.muts _ List.mem_cons_self
  obtain ⟨o, ho, hd⟩ := y.cells _ (mem_of_lookup hc)
  have he : cv x = some (.ref (ad x)) := by
    unfold lookN at e
    rw [hk] at e
    dsimp only at e
    rw [hc] at e
    simpa using e
  have own : (ownOf env Δ ad ((ad x, .list ds) :: Mx)).Perm (ownOf env ((x, ds) :: Δ) ad Mx) := by
    show (env.locals :: (env.cells.map (·.2) ++ (Δ.map (fun p => ad p.1) ++ (ad x :: Mx.map (·.1))))).Perm (env.locals :: (env.cells.map (·.2) ++ ((ad x :: Δ.map (fun p => ad p.1)) ++ Mx.map (·.1))))
    exact List.Perm.cons _ (List.Perm.append (List.Perm.refl _) List.perm_middle)
  refine ⟨ad x, o, { X with mnew := ⟨m, cv, ad, ⟨y.ns, y.cells, y.vars, fun p hp => y.muts p (List.mem_cons_of_mem _ hp), fun p hp => ?_, own.nodup_iff.mpr y.nd, y.cnd, fun b hb => y.offP b (own.subset hb), fun b hb => y.offH b (own.subset hb)⟩, fun p hp => hn p (List.mem_cons_of_mem _ hp)⟩ }, hn _ List.mem_cons_self, ho, by rw [hd, he]⟩
  rcases List.mem_cons.mp hp with rfl | hp
  · exact ⟨_, q, .list i⟩
  · exact y.raw p hp
/-- what a cell holds -/
theorem At.cellv {x : Str} {c : Addr} {d : D} (X : At W k A env s₀ P₀ H Γ Δ Mx P s) (hx : (x, d) ∈ Γ) (hk : env.kindOf x = some .cell) (hc : env.cells.lookup x = some c) : ∃ o v, s.heap.get? c = some o ∧ o.data = .cell (some v) ∧ Is P v d := by
  obtain ⟨m, cv, ad, y, hn⟩ := X.mnew
  obtain ⟨v, e, i⟩ := y.vars _ hx
  obtain ⟨o, ho, hd⟩ := y.cells _ (mem_of_lookup hc)
  unfold lookN at e
  rw [hk] at e
  dsimp only at e
  rw [hc] at e
  exact ⟨o, v, ho, by rw [hd]; simpa using e, i⟩
theorem At.cellOff {c : Addr} {x : Str} (X : At W k A env s₀ P₀ H Γ Δ Mx P s) (hc : env.cells.lookup x = some c) : P c = none ∧ c ∉ ads Mx := by
  obtain ⟨m, cv, ad, y, hn⟩ := X.mnew
  have hm : c ∈ env.cells.map (·.2) := List.mem_map_of_mem (mem_of_lookup hc)
  have nd := List.nodup_append.mp (List.nodup_cons.mp y.nd).2
  refine ⟨y.offP _ (List.mem_cons_of_mem _ (List.mem_append_left _ hm)), fun h => nd.2.2 _ hm _ (List.mem_append_right _ h) rfl⟩
theorem top_bi {h : Heap} (T : Top W.pv W.loose W.mean W.mg W.mb h) {Tb : Addr} {ps : Array Value} (hT : h.get? Tb = some (tabObj ps)) : mainGlobals ≠ Tb ∧ h.BuiltinsAt W.mg Tb := by
  obtain ⟨bm, ob, b1, b2, b3, b4, b5, b6⟩ := T.bmain
  refine ⟨fun q => ?_, bm, ob, b1, b2, fun q => ?_, fun q => ?_, b3, b4, b5, b6⟩
  · obtain ⟨o, es, ep, e, hd, _⟩ := T.g
    rw [q, hT] at e; cases e; cases hd
  · obtain ⟨o, es, ep, e, hd, _⟩ := T.g
    rw [q, e] at b3; cases b3; rw [hd] at b6; cases b6
  · rw [q, hT] at b3; cases b3; cases b4
/-- x = lambda ..: .. -/
theorem s_lambda {x : Str} {p pos lpos : Pos} {params : Arguments} {body : Expr} {scope : Scope} {clos : List (Str × Addr)} {rest' : List Stmt} {c Tb : Addr} {ps : Array Value} (X : At W k A env s₀ P₀ H Γ Δ ([(Tb, .obj (tabObj ps))] ++ Mx) P s) (hcode : env.code = .ref c) (hC : codeHdIn W.K c Tb = true) (ht : TriplesOk ps.toList) (hnf : codeAmong lpos ps.toList = none)
    (hdef : defaultsOf params env = ([], [])) (hcl : closureFor scope env = pure clos) (hb : Bindable env x)
    (next : ∀ st fd c' P' s', s₀.heap.get? st = none → At W k A env s₀ P₀ H ((x, .raw st) :: rm x Γ) (rm x Δ) ((st, .obj (fnObj0 fd)) :: ([(Tb, .obj (tabObj (ps ++ #[rawInt lpos.line, rawInt lpos.col, .ref c'])))] ++ Mx)) P' s' → wpAny W.M A (execs rest' env) Q E s')
    (hs : swapsWith (.Lambda params body scope lpos) (some (.Name x p)) pos.line env = pure false := by rfl) :
    wpAny W.M A (execs (.Assign [.Name x p] (.Lambda params body scope lpos) pos :: rest') env) Q E s := by
  refine wpAny_execs_cons (wpAny_Assign_Name (kla_eval hdef (wp_tk X.tk ?_)) hs)
  obtain ⟨m, cv, ad, y, hn⟩ := X.mnew
  obtain ⟨ob, q, i⟩ := y.raw _ List.mem_cons_self
  obtain rfl := i.objI.symm
  have T := X.b.top s.heap X.inn
  obtain ⟨t1, t2⟩ := top_bi T q
  refine kla_makeFunction (mg := W.mg) hcl X.gl T.g hcode (codeHd_of_K (Bs.frag X.b X.inn) hC) q ht hnf t1 t2 fun c' ctv h' tk hx hge hlt hrec htb tk1 => ?_
  have fs : s.heap.get? h'.objs.size = none := Heap.get?_none_of_le (Nat.le_of_lt (Nat.lt_of_le_of_lt hge hlt))
  have pT : P Tb = none := y.offP _ (List.mem_cons_of_mem _ (List.mem_append_right _ (List.mem_append_right _ List.mem_cons_self)))
  generalize hob : kla_obj "<lambda>" (env.qual ++ "<lambda>") params body scope clos ((W.mg "__name__").getD .none) c' ctv = obj at tk1 ⊢
  have hfd : ∃ fd, obj = fnObj0 fd := ⟨_, hob.symm⟩
  obtain ⟨fd, rfl⟩ := hfd
  have g : GrM (ads [(Tb, MO.obj (tabObj ps))]) P s P { s with heap := h'.push (fnObj0 fd), toks := tk } :=
    ⟨Le.refl _, fun b o e => Heap.get?_push_of_some _ (hx b o (fun z => by rw [z, pT] at e; cases e) (X.inn _ _ e)), fun b o nb e => Heap.get?_push_of_some _ (hx b o (by simpa [ads] using nb) e), fun b o e => by
      by_cases z : b = Tb
      · rw [z]; exact ⟨_, Heap.get?_push_of_some _ htb⟩
      · exact ⟨o, Heap.get?_push_of_some _ (hx b o z e)⟩, fun b o e => .inl e, GG.refl _, rfl, rfl⟩
  have dv : Dv P { s with heap := h'.push (fnObj0 fd), toks := tk } [(Tb, .obj (tabObj (ps ++ #[rawInt lpos.line, rawInt lpos.col, .ref c'])))] := ⟨fun p hp => by rw [List.mem_singleton.mp hp]; exact ⟨_, Heap.get?_push_of_some _ htb, .obj _⟩, by simp [ads], fun p hp => by rw [List.mem_singleton.mp hp]; exact pT⟩
  have X1 := X.grM g tk1 dv rfl
  obtain ⟨m2, cv2, ad2, y2, _, ho2⟩ := X.grM_own g dv rfl
  have z0 := X.none₀ fs
  have X2 := X1.take (mo := .obj (fnObj0 fd)) (none_of_in X.inn fs) z0.2 ⟨m2, cv2, ad2, y2, ho2 _ fs⟩ (Heap.get?_push_size _ rfl) (.obj _)
  exact X2.name (.raw _) hb fun s'' X3 => next _ fd c' P s'' z0.1 X3
/-- def x(..): .. -/
theorem s_def {x : Str} {pos : Pos} {params : Arguments} {body : List Stmt} {scope : Scope} {clos : List (Str × Addr)} {rest' : List Stmt} {c Tb : Addr} {ps : Array Value} (X : At W k A env s₀ P₀ H Γ Δ ([(Tb, .obj (tabObj ps))] ++ Mx) P s) (hcode : env.code = .ref c) (hC : codeHdIn W.K c Tb = true) (ht : TriplesOk ps.toList) (hnf : codeAmong pos ps.toList = none)
    (hd0 : params.defaults = []) (hk0 : params.kw_defaults = []) (han : annTrees params none env = []) (hcl : closureFor scope env = pure clos) (hb : Bindable env x)
    (next : ∀ rd of c' oc vs t P' s', oc.data = .fields vs → vs[1]? = some (.str (qualnameIn env x x) t) → (∃ doc pm ctv, of = fnMade x (qualnameIn env x x) params body scope clos doc pm c' ctv) → At W k A env s₀ P₀ H ((x, .pack rd [(rd, of), (c', oc)]) :: rm x Γ) (rm x Δ) ([(Tb, .obj (tabObj (ps ++ #[rawInt pos.line, rawInt pos.col, .ref c'])))] ++ Mx) P' s' → wpAny W.M A (execs rest' env) Q E s') :
    wpAny W.M A (execs (.FunctionDef x params body [] none [] scope none x pos :: rest') env) Q E s := by
  refine wpAny_execs_cons (nestDef_K hd0 hk0 han (wp_tk X.tk ?_))
  obtain ⟨m, cv, ad, y, hn⟩ := X.mnew
  obtain ⟨ob, q, i⟩ := y.raw _ List.mem_cons_self
  obtain rfl := i.objI.symm
  have T := X.b.top s.heap X.inn
  obtain ⟨t1, t2⟩ := top_bi T q
  refine makeFunction_K (mg := W.mg) hcl X.gl T.g hcode (codeHd_of_K (Bs.frag X.b X.inn) hC) q ht hnf t1 t2 fun c' ctv doc h' tk hx hge hlt hrec htb tk1 => ?_
  obtain ⟨c2, oc, vs, t, ec, hoc, hdc, hq⟩ := hrec
  cases ec
  have fs : s.heap.get? h'.objs.size = none := Heap.get?_none_of_le (Nat.le_of_lt (Nat.lt_of_le_of_lt hge hlt))
  have fc : s.heap.get? c' = none := Heap.get?_none_of_le hge
  have pT : P Tb = none := y.offP _ (List.mem_cons_of_mem _ (List.mem_append_right _ (List.mem_append_right _ List.mem_cons_self)))
  have hTc : c' ≠ Tb := fun z => by rw [z, q] at fc; cases fc
  have hTs : h'.objs.size ≠ Tb := fun z => by rw [z, q] at fs; cases fs
  generalize hob : fnMade x (qualnameIn env x x) params body scope clos doc ((W.mg "__name__").getD .none) c' ctv = obj at tk1 ⊢
  have g : GrM (ads [(Tb, MO.obj (tabObj ps))]) P s P { s with heap := h'.push obj, toks := tk } :=
    ⟨Le.refl _, fun b o e => Heap.get?_push_of_some _ (hx b o (fun z => by rw [z, pT] at e; cases e) (X.inn _ _ e)), fun b o nb e => Heap.get?_push_of_some _ (hx b o (by simpa [ads] using nb) e), fun b o e => by
      by_cases z : b = Tb
      · rw [z]; exact ⟨_, Heap.get?_push_of_some _ htb⟩
      · exact ⟨o, Heap.get?_push_of_some _ (hx b o z e)⟩, fun b o e => .inl e, GG.refl _, rfl, rfl⟩
  have pc : P c' = none := none_of_in X.inn fc
  have ps' : addV P c' oc h'.objs.size = none := by rw [addV_ne (Nat.ne_of_gt hlt)]; exact none_of_in X.inn fs
  have hnew : (h'.push obj).get? h'.objs.size = some obj := Heap.get?_push_size _ (by rw [← hob]; rfl)
  have g2 := (g.add fc pc (Heap.get?_push_of_some _ hoc)).add fs ps' hnew
  have dv : Dv (addV (addV P c' oc) h'.objs.size obj) { s with heap := h'.push obj, toks := tk } [(Tb, .obj (tabObj (ps ++ #[rawInt pos.line, rawInt pos.col, .ref c'])))] := ⟨fun p hp => by rw [List.mem_singleton.mp hp]; exact ⟨_, Heap.get?_push_of_some _ htb, .obj _⟩, by simp [ads], fun p hp => by rw [List.mem_singleton.mp hp]; show addV _ _ _ Tb = none; rw [addV_ne (Ne.symm hTs), addV_ne (Ne.symm hTc)]; exact pT⟩
  have X1 := X.grM g2 tk1 dv rfl
  have iv : Is (addV (addV P c' oc) h'.objs.size obj) (.ref h'.objs.size) (.pack h'.objs.size [(h'.objs.size, obj), (c', oc)]) := .pack fun p hp => by
    simp only [List.mem_cons, List.not_mem_nil, or_false] at hp
    rcases hp with rfl | rfl
    · exact addV_at
    · show addV _ _ _ c' = _
      rw [addV_ne (Nat.ne_of_lt hlt)]; exact addV_at
  subst hob
  exact X1.name iv hb fun s'' X3 => next _ _ c' oc vs t _ s'' hdc hq ⟨doc, _, ctv, rfl⟩ X3
/-- x.read = y, x a function that nobody has looked at -/
theorem s_fnattr {x y : Str} {px pa py pos : Pos} {rest' : List Stmt} {st rd : Addr} {fd : FuncData} {ly : List (Addr × Obj)} (X : At W k A env s₀ P₀ H ((x, .raw st) :: Γ) Δ ([(st, .obj (fnObj0 fd))] ++ Mx) P s) (h0 : s₀.heap.get? st = none) (hy : (y, D.pack rd ly) ∈ Γ)
    (next : ∀ dd hs tk n P' s', At W k A env s₀ P₀ H ((x, .pack st ((st, fnObj dd fd) :: (dd, dictOf [⟨hs, .str "read" tk, .ref rd⟩] n) :: ly)) :: Γ) Δ Mx P' s' → wpAny W.M A (execs rest' env) Q E s')
    (hd : (x == ("__debug__" : Str)) = false := by decide) (hn : (x == ("__classdict__" : Str)) = false := by decide) (hd2 : (y == ("__debug__" : Str)) = false := by decide) (hn2 : (y == ("__classdict__" : Str)) = false := by decide)
    (hs : swapsWith (.Name y py) (some (.Attribute (.Name x px) "read" pa)) pos.line env = pure false := by rfl) :
    wpAny W.M A (execs (.Assign [.Attribute (.Name x px) "read" pa] (.Name y py) pos :: rest') env) Q E s := by
  obtain ⟨v, nv1, iv⟩ := X.cx.vars _ (List.mem_cons_of_mem _ hy)
  obtain ⟨u, nu1, iu⟩ := X.cx.vars _ List.mem_cons_self
  refine wpAny_execs_cons (plainObj_wpAny_Assign_Attribute (name_read X.fn X.st.sv nv1 (name_read X.fn X.st.sv nu1 ?_ hd hn) hd2 hn2) hs)
  obtain rfl := iu.rawI
  obtain ⟨rfl, hl⟩ := iv.packI
  obtain ⟨m, cv, ad, yy, hnn⟩ := X.mnew
  obtain ⟨ob, q, i⟩ := yy.raw _ List.mem_cons_self
  obtain rfl := i.objI.symm
  have pS : P st = none := yy.offP _ (List.mem_cons_of_mem _ (List.mem_append_right _ (List.mem_append_right _ List.mem_cons_self)))
  refine fn_setAttr q fun hs t h' n hk f0 h1 h2 => ?_
  have hne : s.heap.objs.size ≠ st := fun z => by rw [z, q] at f0; cases f0
  have g : GrM (ads [(st, MO.obj (fnObj0 fd))]) P s P { s with heap := h', toks := s.toks + 2 } :=
    ⟨Le.refl _, fun b o e => hk b o (fun z => by rw [z, pS] at e; cases e) (X.inn _ _ e), fun b o nb e => hk b o (by simpa [ads] using nb) e, fun b o e => by
      by_cases z : b = st
      · rw [z]; exact ⟨_, h1⟩
      · exact ⟨o, hk b o z e⟩, fun b o e => .inl e, GG.refl _, rfl, rfl⟩
  have g2 := g.add f0 (none_of_in X.inn f0) h2
  have dv : Dv (addV P s.heap.objs.size (dictOf [⟨hs, .str "read" t, .ref rd⟩] n)) { s with heap := h', toks := s.toks + 2 } [(st, .obj (fnObj s.heap.objs.size fd))] := ⟨fun p hp => by rw [List.mem_singleton.mp hp]; exact ⟨_, h1, .obj _⟩, by simp [ads], fun p hp => by rw [List.mem_singleton.mp hp]; show addV _ _ _ st = none; rw [addV_ne (Ne.symm hne)]; exact pS⟩
  have X1 := X.grM g2 (Nat.le_add_left _ _) dv rfl
  have hst : addV P s.heap.objs.size (dictOf [⟨hs, .str "read" t, .ref rd⟩] n) st = none := by rw [addV_ne (Ne.symm hne)]; exact pS
  have X2 := X1.freezeM h0
  refine next s.heap.objs.size hs t n _ _ (X2.redatum fun v' i' => ?_)
  obtain rfl := i'.rawI
  refine .pack fun p hp => ?_
  rcases List.mem_cons.mp hp with rfl | hp
  · exact addV_at
  rcases List.mem_cons.mp hp with rfl | hp
  · show addV _ _ _ s.heap.objs.size = _
    rw [addV_ne hne]; exact addV_at
  · exact addV_le hst _ _ (addV_le (none_of_in X.inn f0) _ _ (hl p hp))
end
noncomputable def addL : List (Addr × Obj) → Vw → Vw
  | [], P => P
  | p :: r, P => fun b => if b = p.1 then some p.2 else addL r P b
theorem addL_cons {p : Addr × Obj} {r : List (Addr × Obj)} {P : Vw} {b : Addr} : addL (p :: r) P b = if b = p.1 then some p.2 else addL r P b := rfl
theorem addL_le {l : List (Addr × Obj)} {P : Vw} (h : ∀ p ∈ l, P p.1 = none) : Le P (addL l P) := by
  induction l with
  | nil => exact Le.refl P
  | cons p r ih =>
    intro b o e
    have : b ≠ p.1 := fun z => by rw [z, h p List.mem_cons_self] at e; cases e
    rw [addL_cons, if_neg this]
    exact ih (fun q hq => h q (List.mem_cons_of_mem _ hq)) b o e
theorem addL_at {l : List (Addr × Obj)} {P : Vw} (nd : (l.map (·.1)).Nodup) : ∀ p ∈ l, addL l P p.1 = some p.2 := by
  induction l with
  | nil => intro p hp; cases hp
  | cons q r ih =>
    intro p hp
    rw [List.map_cons] at nd
    have nd := List.nodup_cons.mp nd
    rw [addL_cons]
    rcases List.mem_cons.mp hp with rfl | hp
    · rw [if_pos rfl]
    · rw [if_neg (fun z : p.1 = q.1 => nd.1 (z ▸ List.mem_map_of_mem hp))]; exact ih nd.2 p hp
theorem addL_inv {l : List (Addr × Obj)} {P : Vw} {b : Addr} {o : Obj} (e : addL l P b = some o) : (∃ p ∈ l, p.1 = b ∧ p.2 = o) ∨ P b = some o := by
  induction l with
  | nil => exact .inr e
  | cons p r ih =>
    rw [addL_cons] at e
    by_cases h : b = p.1
    · rw [if_pos h] at e
      exact .inl ⟨p, List.mem_cons_self, h.symm, Option.some.inj e⟩
    · rw [if_neg h] at e
      rcases ih e with ⟨q, hq, h⟩ | h
      · exact .inl ⟨q, List.mem_cons_of_mem _ hq, h⟩
      · exact .inr h
noncomputable def FinZ (W : Wd) (k : Nat) (A : Around) (env : Env) (s₀ : Shared) (P₀ H : Vw) (Mx : List (Addr × MO)) (Out : OutT) (fl : Flow) (s' : Shared) : Prop :=
  ∃ P' Γ' Δ' Mx' N rest d Fz, At W k A env s₀ P₀ H Γ' Δ' ((Mx' ++ N) ++ rest) P' s' ∧ Out d Mx' N ∧ ads Mx' = ads Mx ∧ (∀ p ∈ N, s₀.heap.get? p.1 = none) ∧ (Fz.map (·.1)).Nodup ∧ (∀ p ∈ Fz, s₀.heap.get? p.1 = none ∧ s'.heap.get? p.1 = some p.2 ∧ P' p.1 = none ∧ p.1 ∉ ads (Mx' ++ N)) ∧ Is (addL Fz P') (match fl with | .ret v => v | _ => .none) d
theorem klx_fnZ {W : Wd} {k : Nat} {f : Addr} {fd : FuncData} {body : List Stmt} {names : List Str} {ds : List D} {Mx : List (Addr × MO)} {Out : OutT} (F : ∀ P, W.B P → FnIn W P f fd body names) (hl : ds.length = names.length)
    (hb : ∀ A s₀ P₀ P s, Le P₀ P → At W k A (callEnvC fd s₀.heap.objs.size f) s₀ P₀ (offX (ads Mx) s₀.heap) (names.zip ds) [] Mx P s →
      wpAny W.M A (execs body (callEnvC fd s₀.heap.objs.size f)) (FinZ W k A (callEnvC fd s₀.heap.objs.size f) s₀ P₀ (offX (ads Mx) s₀.heap) Mx Out) (fun _ _ => False) s) : KlX W (k + 1) (.ref f) ds Mx Out := by
  intro A S P s R vs st i dv hQ
  have F := F P st.b
  obtain ⟨o, ho, hd⟩ := F.has
  have T := st.b.top s.heap st.p
  refine codeAny_call_function (Nat.lt_of_le_of_lt (Nat.le_add_right _ _) st.a.2.1) (st.p _ _ ho) hd F.co F.gen F.body (codeRec_of (Bs.frag st.b st.p) F.code) ?_
  rw [F.bind vs (i.length.trans hl), F.clo]
  refine wpAny_pure (wp_tk st.tk (wpAny_newFunctionEnv_cells F.fn (fun x hx => ?_) fun env he s' x tk => ?_))
  · have hx1 := (List.of_mem_zip (a := x.1) (b := x.2) hx).1
    rcases F.kind x.1 hx1 with h | ⟨h, hc⟩
    · exact .inl h
    · refine .inr ⟨h, ?_⟩
      have := cellsFrom_names fd.scope.names (s.heap.objs.size + 1) []
      rw [List.map_nil, List.append_nil] at this
      obtain ⟨p, hp, hpe⟩ := List.mem_map.mp (this.mem_iff.mpr hc)
      have hcn := this.nodup_iff.mpr F.cnd
      rw [← hpe, lookup_of_mem hcn hp]; rfl
  · subst he
    refine ⟨T.nolimit.keeps x.toInCall.keep, codeAny_func (wpAny_mono (hb _ s P P s' (Le.refl _) (at_enter F.pre st i hl dv tk x)) (fun fl s'' hf => ?_) fun _ _ h => h.elim)⟩
    obtain ⟨P', Γ', Δ', Mx', N, rest, d, Fz, Y, hO, ha, hN, hnd, hF, hi⟩ := hf
    have g := Y.leaveH rfl
    obtain ⟨m, cv, ad, y, _⟩ := Y.mnew
    have le := addL_le (P := P') fun p hp => (hF p hp).2.2.1
    refine hQ _ (addL Fz P') s'' d Mx' N hO ha ⟨g.le.trans le, fun b o e => ?_, g.old, g.ext, fun b o e => ?_, g.gens, g.drawn, g.os⟩ Y.tk ⟨fun p hp => ?_, ?_, fun p hp => ?_⟩ hN hi
    · rcases addL_inv e with ⟨p, hp, rfl, rfl⟩ | e
      · exact (hF p hp).2.1
      · exact g.inn _ _ e
    · rcases addL_inv e with ⟨p, hp, rfl, rfl⟩ | e
      · exact .inr (hF p hp).1
      · exact g.new _ _ e
    · obtain ⟨o, q, i⟩ := y.raw p (List.mem_append_left _ hp)
      exact ⟨o, q, i.mono le⟩
    · have h1 := (List.nodup_append.mp (List.nodup_cons.mp y.nd).2).2.1
      have h2 := (List.nodup_append.mp h1).2.1
      rw [List.map_append] at h2
      exact (List.nodup_append.mp h2).1
    · cases e : addL Fz P' p.1 with
      | none => rfl
      | some o =>
        rcases addL_inv e with ⟨q, hq, h1, _⟩ | e
        · exact ((hF q hq).2.2.2 (h1 ▸ List.mem_map_of_mem hp)).elim
        · rw [y.offP p.1 (List.mem_cons_of_mem _ (List.mem_append_right _ (List.mem_append_right _ (List.mem_map_of_mem (List.mem_append_left _ hp)))))] at e; cases e
end
section
set_option maxHeartbeats 4000000
/-! dicts with str keys and int values -/
noncomputable def kD (ks : List (Str × Int)) : List (PyData × PyData) := ks.map fun p => (.str p.1, .int p.2)
noncomputable def kget : List (Str × Int) → Str → Option Int
  | [], _ => none
  | (a, i) :: r, x => if a == x then some i else kget r x
theorem same_strB (a b : Str) : PySem.Spec.same (.str a) (.str b) = (a == b) := rfl
theorem lookup_kD (x : Str) : ∀ ks : List (Str × Int), PySem.Spec.lookup (.str x) (kD ks) = (kget ks x).map PyData.int
  | [] => rfl
  | (a, i) :: r => by
    show (if PySem.Spec.same (.str a) (.str x) then some (PyData.int i) else PySem.Spec.lookup (.str x) (kD r)) = _
    rw [same_strB, lookup_kD x r, kget]
    cases a == x <;> rfl
theorem putD_kD {x : Str} {i : Int} {ks : List (Str × Int)} (h : kget ks x = none) : PyProof.V.putD (.str x) (.int i) (kD ks) = kD (ks ++ [(x, i)]) := by
  have hn : (kD ks).any (fun p => PySem.Spec.same p.1 (.str x)) = false := by
    induction ks with
    | nil => rfl
    | cons p r ih =>
      obtain ⟨a, j⟩ := p
      rw [kget] at h
      cases q : a == x with
      | true => rw [q] at h; cases h
      | false =>
        rw [q] at h
        show (PySem.Spec.same (.str a) (.str x) || (kD r).any _) = false
        rw [same_strB, q, ih h]; rfl
  unfold PyProof.V.putD
  rw [hn]
  simp [kD]
noncomputable def DO (W : Wd) (o : Obj) (ks : List (Str × Int)) : Prop := ∃ kvs, o.IsDictOf (strKind W.prog W.w) kvs ∧ PyProof.V.FlatPairs PyData.str kvs (kD ks)
theorem DO.tab {W : Wd} {o : Obj} {ks : List (Str × Int)} {h : Heap} {d : Addr} (x : DO W o ks) (lo : (d == sysModules) = false) (ho : h.get? d = some o) : StrTab W.prog W.w h d (kD ks) :=
  let ⟨_, h1, h2⟩ := x; TabAt.ofObj lo ho h1 h2
theorem not_sys {W : Wd} {P : Vw} {h : Heap} (b : W.B P) (p : In P h) {d : Addr} (hd : h.objs.size ≤ d) : (d == sysModules) = false := by
  obtain ⟨mc, hn, _⟩ := (b.top h p).nodigits
  have : cStatics < h.objs.size := hn.lt
  have : (2 : Nat) < h.objs.size := this
  have e : sysModules = (1 : Nat) := rfl
  rw [e]
  have h3 : (2 : Nat) < d := Nat.lt_of_lt_of_le this hd
  exact beq_eq_false_iff_ne.mpr (Nat.ne_of_gt (Nat.lt_trans (Nat.lt_succ_self 1) h3))
section
variable {W : Wd} {k : Nat} {env : Env} {Γ : List (Str × D)} {Δ : List (Str × List D)}
theorem ts_notin {l r : Expr} {pos : Pos} {x : Str} {d : Addr} {o : Obj} {ks : List (Str × Int)} (h1 : Ev W k env Γ Δ l (.str x)) (h2 : Ev W k env Γ Δ r (.raw d)) (hm : (d, MO.obj o) ∈ W.raws) (hd : DO W o ks) (lo : (d == sysModules) = false) (hmk : behindInMarks .NotIn r = false := by with_unfolding_all rfl) :
    Ts W k env Γ Δ (.Compare l [.NotIn] [r] pos) (!(kget ks x).isSome) := ts_cmp h1 h2 (fun A S P s E Q u v st iu iv hQ => by
  obtain ⟨_, rfl⟩ := iu.strI; obtain rfl := iv.rawI
  obtain ⟨ob, e, i⟩ := st.rw _ hm
  obtain rfl := i.objI.symm
  refine notin_strTab (hd.tab lo (st.sv _ _ e)) ?_
  rw [lookup_kD, Option.isSome_map]
  exact hQ _ P _ (Gr.toks st.p) (.bool _)) hmk
/-- d.get(x, i) -/
theorem ev_dget {o e1 e2 : Expr} {apos pos : Pos} {pl : Sem Bool} {x : Str} {i : Int} {d : Addr} {ob : Obj} {ks : List (Str × Int)} (h0 : Ev W k env Γ Δ o (.raw d)) (h1 : Ev W k env Γ Δ e1 (.str x)) (h2 : Ev W k env Γ Δ e2 (.int i)) (hm : (d, MO.obj ob) ∈ W.raws) (hd : DO W ob ks) (lo : (d == sysModules) = false)
    (he : callForm o "get" apos pos [e1, e2] pl env := by rfl) (hp : [e1, e2].all plainE = true := by rfl) (hp1 : plainE e1 = true := by rfl) (hp2 : plainE e2 = true := by rfl) : Ev W k env Γ Δ (.Call (.Attribute o "get" apos) [e1, e2] [] pos) (.int ((kget ks x).getD i)) := .mk fun A S P s E Q st hC hQ => by
  refine MethodCall_ (h0 A S P s E _ st hC fun v P₁ s₁ g₁ tk₁ i₁ => ?_) he
  obtain rfl := i₁.rawI
  have st1 := st.next g₁ tk₁
  obtain ⟨o', e, im⟩ := st1.rw _ hm
  obtain rfl := im.objI.symm
  refine getMethod_strTab_get (hd.tab lo (st1.sv _ _ e)) ?_
  refine callWith_builtin (plain_any hp) (evalArgs_ev hp st1 (hC.up (Le.refl _) g₁.le) (evs_cons h1 (evs_cons h2 evs_nil hp2) hp1) fun vs P₂ s₂ g₂ tk₂ i₂ => ?_)
  obtain ⟨_, _, rfl, a, b⟩ := i₂.twoI; obtain ⟨t, rfl⟩ := a.strI; obtain ⟨t2, rfl⟩ := b.intI
  have st2 := st1.next g₂ tk₂
  refine call_get2_strTab (hd.tab lo (st2.sv _ _ e)) (PyProof.V.Flat.int i t2) fun v hv => ?_
  rw [lookup_kD] at hv
  have hv' : PyProof.V.Flat v (.int ((kget ks x).getD i)) := by
    cases q : kget ks x with
    | none => rw [q] at hv; exact hv
    | some j => rw [q] at hv; exact hv
  have iv : Is P₂ v (.int ((kget ks x).getD i)) := by
    cases hv' {} with | int _ t => exact .int _ _
  exact hQ v P₂ _ ((g₁.trans g₂).trans (Gr.toks g₂.inn)) iv
end
section
variable {W : Wd} {k : Nat} {A : Around} {env : Env} {s₀ : Shared} {P₀ H : Vw} {Γ : List (Str × D)} {Δ : List (Str × List D)} {Mx : List (Addr × MO)} {P : Vw} {s : Shared} {E : Value → Shared → Prop} {Q : Flow → Shared → Prop}
/-- x = {a: i} -/
theorem s_dict1 {x : Str} {p pos dpos : Pos} {ke ve : Expr} {rest' : List Stmt} {a : Str} {i : Int} (X : At W k A env s₀ P₀ H Γ Δ Mx P s) (h1 : Ev (W.at Mx) k env Γ Δ ke (.str a)) (h2 : Ev (W.at Mx) k env Γ Δ ve (.int i)) (hb : Bindable env x)
    (next : ∀ d o P' s', (d == sysModules) = false → DO W o [(a, i)] → At W k A env s₀ P₀ H ((x, .raw d) :: rm x Γ) (rm x Δ) ((d, .obj o) :: Mx) P' s' → wpAny W.M A (execs rest' env) Q E s')
    (hs : swapsWith (.Dict [some ke] [ve] dpos) (some (.Name x p)) pos.line env = pure false := by rfl) : wpAny W.M A (execs (.Assign [.Name x p] (.Dict [some ke] [ve] dpos) pos :: rest') env) Q E s := by
  refine wpAny_execs_cons (wpAny_Assign_Name (wpAny_Dict_walk (knd := strKind W.prog W.w) rfl rfl (by simp) (by simp) ?_) hs)
  have f0 : s.heap.get? s.heap.objs.size = none := Heap.get?_none_of_le (Nat.le_refl _)
  have hq : (s.heap.push { cls := .type "dict", data := .dict #[] }).get? s.heap.objs.size = some { cls := .type "dict", data := .dict #[] } := Heap.get?_push_size _ rfl
  have X0 := At.own (tk' := s.toks) (mo := .obj { cls := .type "dict", data := .dict #[] }) X (fun b o e => Heap.get?_push_of_some _ e) X.tk hq f0 (.obj _)
  have lo := not_sys X.b X.inn (Nat.le_refl s.heap.objs.size)
  have up : ∀ {e : Expr} {d : D}, Ev (W.at Mx) k env Γ Δ e d → Ev (W.at Mx) k env Γ Δ e d := id
  have stX : ∀ {P' : Vw} {s' : Shared}, At W k A env s₀ P₀ H Γ Δ ((s.heap.objs.size, .obj { cls := .type "dict", data := .dict #[] }) :: Mx) P' s' → St (W.at Mx) k A (fun b => s'.heap.get? b) P' s' := fun X => ⟨X.a, X.b, fun _ _ e => e, X.inn, X.tk, fun p hp => by obtain ⟨_, _, _, y, _⟩ := X.mnew; exact y.raw p (List.mem_cons_of_mem _ hp)⟩
  refine pairTrees_cons_walk (h1 A _ P _ E _ (stX X0) X0.cx fun kv P1 s1 g1 tk1 i1 => h2 A _ P1 s1 E _ (stX (X0.gr g1 tk1)) (X0.gr g1 tk1).cx fun vv P2 s2 g2 tk2 i2 => pairTrees_nil_walk ?_)
  have X2 := (X0.gr g1 tk1).gr g2 tk2
  obtain ⟨m, cv, ad, y, _⟩ := X2.mnew
  obtain ⟨ob, q, im⟩ := y.raw _ List.mem_cons_self
  obtain rfl := im.objI.symm
  obtain ⟨t, rfl⟩ := Is.strI i1
  obtain ⟨t2, rfl⟩ := Is.intI i2
  have hdo : s2.heap.DictOf (strKind W.prog W.w) s.heap.objs.size [] := Heap.dictOf_iff.mpr ⟨_, q, #[], 0, ⟨rfl, rfl, rfl⟩, rfl, fun _ he => by simp at he, Pairs.nil, List.nodup_nil⟩
  refine display_done_str (P := fun h' => _) (vs := [(.str a t, .int i t2)]) rfl (by simp [strPairs]) hdo fun h' hm hsb => ?_
  obtain ⟨o', ho', hd'⟩ := Heap.dictOf_iff.mp hm
  have X3 := At.turnR (o' := .obj o') (tk' := s2.toks + [(Value.str a t, Value.int i t2)].length) X2 (Nat.le_trans tk2 (Nat.le_add_right _ _)) (fun b o nb e => hsb.extBut b o nb e) ho' (.obj _)
  exact X3.name (.raw _) hb fun s'' X4 => next _ o' P2 s'' lo ⟨_, hd', .cons (PyProof.V.Flat.int i t2) .nil⟩ X4
/-- x[ke] = ve, a new key -/
theorem s_dictset {x : Expr} {p pos : Pos} {ke ve : Expr} {rest' : List Stmt} {a : Str} {i : Int} {d : Addr} {o : Obj} {ks : List (Str × Int)} (X : At W k A env s₀ P₀ H Γ Δ ((d, .obj o) :: Mx) P s) (hv : Ev (W.at ((d, .obj o) :: Mx)) k env Γ Δ ve (.int i)) (hx : Ev (W.at ((d, .obj o) :: Mx)) k env Γ Δ x (.raw d)) (hk : Ev (W.at ((d, .obj o) :: Mx)) k env Γ Δ ke (.str a)) (hd : DO W o ks) (hn : kget ks a = none) (hsz : ks.length ≤ 1000)
    (next : ∀ o' P' s', DO W o' (ks ++ [(a, i)]) → At W k A env s₀ P₀ H Γ Δ ((d, .obj o') :: Mx) P' s' → wpAny W.M A (execs rest' env) Q E s')
    (hs : swapsWith ve (some (.Subscript x ke p)) pos.line env = pure false := by rfl) : wpAny W.M A (execs (.Assign [.Subscript x ke p] ve pos :: rest') env) Q E s := by
  refine wpAny_execs_cons (wpAny_Assign_Subscript (hv A _ P s E _ X.st X.cx fun v P1 s1 g1 tk1 i1 => ?_) hs)
  have X1 := X.gr g1 tk1
  refine hx A _ P1 s1 E _ X1.st X1.cx fun u P2 s2 g2 tk2 i2 => ?_
  have X2 := X1.gr g2 tk2
  refine hk A _ P2 s2 E _ X2.st X2.cx fun w P3 s3 g3 tk3 i3 => ?_
  have X3 := X2.gr g3 tk3
  obtain rfl := i2.rawI
  obtain ⟨t, rfl⟩ := Is.strI i3
  obtain ⟨t2, rfl⟩ := Is.intI i1
  obtain ⟨m, cv, ad, y, _⟩ := X3.mnew
  obtain ⟨ob, q, im⟩ := y.raw _ List.mem_cons_self
  obtain rfl := im.objI.symm
  obtain ⟨kvs, hd1, hd2⟩ := hd
  have hl : kvs.length = ks.length := by rw [← hd2.length]; simp [kD]
  refine wpAny_setItem_pairs (hsz := by rw [hl]; exact Nat.le_trans hsz (by decide)) (k := a) (strKind_is W.prog W.w a t) (Heap.dictOf_iff.mpr ⟨_, q, hd1⟩) fun h' hm hsb => ?_
  obtain ⟨o', ho', hd'⟩ := Heap.dictOf_iff.mp hm
  have hf := hd2.stored PyProof.V.same_str a (PyProof.V.Flat.int i t2)
  rw [putD_kD hn] at hf
  exact next o' P3 _ ⟨_, hd', hf⟩ (At.turnR (o' := .obj o') (tk' := s3.toks + 1) X3 (Nat.le_add_left _ _) (fun b o nb e => hsb.extBut b o nb e) ho' (.obj _))
end
end
section
set_option maxHeartbeats 4000000
/-! entering the law: nothing is known of the tokens yet -/
theorem stLC1 {M : Model} {A : Around} {E : Value → Shared → Prop} {s₀ s : Shared} {m cm : Str → Option Value} {env : Env} {n : Str} {v : Value} {Q : Unit → Shared → Prop} (x : InCallC s₀ env.locals m env.cells cm s) (hk : env.scope.kind = .function) (hl : env.kindOf n = some .local)
    (h : ∀ s', 1 ≤ s'.toks → InCallC s₀ env.locals (fun y => if y = n then some v else m y) env.cells cm s' → Q () s') : wpAny M A (storeName env n v) Q E s := by
  refine wpAny_storeName_local hl x.toInCall.ns (fun h' hn' hs' => h _ (Nat.le_add_left _ _) ⟨⟨?_, hn', fun b o e => ?_, x.toInCall.fresh⟩, fun k c hc => ?_, x.apart, x.above⟩) (by rw [hk]; rfl)
  · obtain ⟨h₁, tk, rfl⟩ := x.toInCall.same
    exact ⟨h', _, rfl⟩
  · exact hs'.extBut b o (Nat.ne_of_lt (Nat.lt_of_lt_of_le (Heap.lt_size e) x.toInCall.fresh)) (x.toInCall.keep b o e)
  · exact (x.cell k c hc).sameBut hs' (Nat.ne_of_gt (x.above k c (mem_of_lookup hc)))
theorem newEnv1 {M : Model} {A : Around} {E : Value → Shared → Prop} {s : Shared} {scope : Scope} {globals : Addr} {x : Str} {v : Value} {qual : Str} {func : Option Addr} {code : Value} {builtins : Addr} {Q : Env → Shared → Prop}
    (hk : scope.kind = .function) (hl : scope.names.lookup x = some .local)
    (hQ : ∀ env, env = newEnv scope s.heap.objs.size globals (cellsFrom (s.heap.objs.size + 1) scope.names []) qual func code none builtins →
      ∀ s', 1 ≤ s'.toks → InCallC s env.locals (bindL env.kindOf [(x, v)] fun _ => none) env.cells (bindC env.kindOf [(x, v)] fun _ => none) s' → Q env s') :
    wpAny M A (newFunctionEnv scope globals [] [(x, v)] qual func code none builtins) Q E s := by
  simp only [newFunctionEnv, Option.isSome_none, Bool.false_eq_true, if_false]
  refine wpAny_bind (wpAny_alloc ?_)
  refine wpAny_bind (wpAny_layCells _ (fun name kind cells => by cases hkc : kind == NameKind.cell <;> simp [hkc]) _ _ _ _ ?_)
  have ok := cellsFrom_ok scope.names (s.heap.push { cls := .type "frame", data := .dict #[] }) (s.heap.objs.size + 1) [] ⟨fun _ _ hm => (nomatch hm), List.Pairwise.nil⟩ (by rw [Heap.size_push]; exact Nat.le_refl _)
  rw [Heap.size_push] at ok
  rw [show ({ s with heap := s.heap.push { cls := .type "frame", data := .dict #[] } } : Shared).heap.objs.size = s.heap.objs.size + 1 from Heap.size_push ..]
  have x0 : ∀ env, env = newEnv scope s.heap.objs.size globals (cellsFrom (s.heap.objs.size + 1) scope.names []) qual func code none builtins → InCallC s env.locals (fun _ => none) env.cells (fun _ => none) { s with heap := pushCells (s.heap.push { cls := .type "frame", data := .dict #[] }) scope.names } := fun env he => by
    subst he
    exact ⟨⟨⟨_, _, rfl⟩, (Heap.Ns.new s.heap (.type "frame")).keeps (pushCells_keeps _ _), fun b o e => pushCells_keeps _ _ b o (Heap.get?_push_of_some _ e), Nat.le_refl _⟩,
      fun n c hc => (ok.empty n c (mem_of_lookup hc)).1, ok.apart, fun n c hm => (ok.empty n c hm).2⟩
  have x1 := x0 _ rfl
  refine wpAny_bind ?_
  rw [List.forIn_cons]
  refine wpAny_bind (wpAny_bind (stLC1 x1 hk hl fun s' tk x' => ?_))
  refine wpAny_pure ?_
  dsimp only
  rw [List.forIn_nil]
  refine wpAny_pure (wpAny_pure (hQ _ rfl s' tk ?_))
  unfold bindL bindC bindL bindC
  have hl' : (newEnv scope s.heap.objs.size globals (cellsFrom (s.heap.objs.size + 1) scope.names []) qual func code none builtins).kindOf x = some .local := hl
  rw [if_pos hl', if_pos hl']; exact x'
/-- the call of a law, in a state of whose tokens nothing is known -/
noncomputable def Kl0 (W : Wd) (k : Nat) (f : Value) (ds : List D) (Mx : List (Addr × MO)) (Out : OutT) : Prop :=
  ∀ (A : Around) (P : Vw) (s : Shared) (R : Result → Shared → Prop) (vs : List Value), AOk k A → W.B P → In P s.heap → W.raws = [] → IsAll P vs ds → Dv P s Mx →
    (∀ v P' s' d Mx' N, Out d Mx' N → ads Mx' = ads Mx → GrM (ads Mx) P s P' s' → Dv P' s' (Mx' ++ N) → Is P' v d → R (.ok (.ret v)) s') → codeAny W.M A (.call f ⟨vs, []⟩) R s
theorem kl0_fn {W : Wd} {k : Nat} {f : Addr} {fd : FuncData} {body : List Stmt} {x : Str} {d0 : D} {Mx : List (Addr × MO)} {Out : OutT} (F : ∀ P, W.B P → FnIn W P f fd body [x]) (hl : fd.scope.names.lookup x = some .local)
    (hb : ∀ A L s₀ P₀ P s, Le P₀ P → At W k A (callEnvC fd L f) s₀ P₀ (offX (ads Mx) s₀.heap) [(x, d0)] [] Mx P s →
      wpAny W.M A (execs body (callEnvC fd L f)) (FinX W k A (callEnvC fd L f) s₀ P₀ (offX (ads Mx) s₀.heap) Mx Out) (fun _ _ => False) s) : Kl0 W (k + 1) (.ref f) [d0] Mx Out := by
  intro A P s R vs a b p hraw i dv hQ
  have F := F P b
  obtain ⟨o, ho, hd⟩ := F.has
  have T := b.top s.heap p
  obtain ⟨v, rfl, i0⟩ := i.oneI
  refine codeAny_call_function (Nat.lt_of_le_of_lt (Nat.le_add_right _ _) a.2.1) (p _ _ ho) hd F.co F.gen F.body (codeRec_of (Bs.frag b p) F.code) ?_
  rw [F.bind [v] rfl, F.clo]
  refine wpAny_pure (newEnv1 F.fn hl fun env he s' tk x => ?_)
  subst he
  have x' : InCallC { s with toks := 1 } (callEnvC fd s.heap.objs.size f).locals (bindL (callEnvC fd s.heap.objs.size f).kindOf ([_].zip [v]) fun _ => none) (callEnvC fd s.heap.objs.size f).cells (bindC (callEnvC fd s.heap.objs.size f).kindOf ([_].zip [v]) fun _ => none) s' :=
    ⟨⟨let ⟨h', t, e⟩ := x.toInCall.same; ⟨h', t, e⟩, x.toInCall.ns, x.toInCall.keep, x.toInCall.fresh⟩, x.cell, x.apart, x.above⟩
  have st : St W (k + 1) A (fun b => s.heap.get? b) P { s with toks := 1 } := ⟨a, b, fun _ _ e => e, p, Nat.le_refl _, fun q hq => by rw [hraw] at hq; cases hq⟩
  have dv' : Dv P { s with toks := 1 } Mx := ⟨dv.has, dv.nd, dv.off⟩
  refine ⟨T.nolimit.keeps x.toInCall.keep, codeAny_func (wpAny_mono (hb _ s.heap.objs.size { s with toks := 1 } P P s' (Le.refl _) (at_enter F.pre st (.cons i0 .nil) rfl dv' tk x')) (fun fl s'' hf => ?_) fun _ _ h => h.elim)⟩
  obtain ⟨P', Γ', Δ', Mx', N, rest, d, Y, hO, ha, hN, hi⟩ := hf
  have g := Y.leaveH rfl
  obtain ⟨m, cv, ad, y, _⟩ := Y.mnew
  refine hQ _ P' s'' d Mx' N hO ha ⟨g.le, g.inn, g.old, g.ext, g.new, g.gens, g.drawn, g.os⟩ ⟨fun p hp => y.raw p (List.mem_append_left _ hp), ?_, fun p hp => y.offP p.1 ?_⟩ hi
  · have h1 := (List.nodup_append.mp (List.nodup_cons.mp y.nd).2).2.1
    have h2 := (List.nodup_append.mp h1).2.1
    rw [List.map_append] at h2
    exact (List.nodup_append.mp h2).1
  · exact List.mem_cons_of_mem _ (List.mem_append_right _ (List.mem_append_right _ (List.mem_map_of_mem (List.mem_append_left _ hp))))
noncomputable def LawOut (Tb : Addr) : OutT := fun d Mx' N => d = .bool true ∧ ∃ ps, Mx' = [(Tb, .obj (tabObj ps))]
theorem wints_items {xs : List WData} : ∀ (h : WShape.hasItems [] xs .int = true), ∃ ns : List Int, xs = ns.map .int := by
  induction xs with
  | nil => exact fun _ => ⟨[], rfl⟩
  | cons x r ih =>
    intro h
    have h' : WShape.has [] x .int = true ∧ WShape.hasItems [] r .int = true := Bool.and_eq_true_iff.mp (by rw [WShape.hasItems] at h; exact h)
    obtain ⟨i, rfl⟩ := hasW_int h'.1
    obtain ⟨ns, rfl⟩ := ih h'.2
    exact ⟨i :: ns, rfl⟩
theorem well_ints {Pm : Params} {h : Heap} {P : Vw} : ∀ {ns : List Int} {vs : List Value}, WellAll Pm h vs (ns.map .int) → IsAll P vs (ns.map .int)
  | [], _, w => by cases w; exact .nil
  | n :: r, _, w => by cases w with | cons a b => cases a; exact .cons (.int _ _) (well_ints b)
theorem enter_law {l : OpenLaw} {q : Program} {loose : List Str} {XP : (Str → Option Value) → Heap → Prop} {Kf : Params → Frag} {as : List Addr} {e : ∀ P, as = (Kf P).map (·.1)} {f Tb c : Addr} {d : DefRec} {kwd : List (Str × Expr)} {k : Nat}
    (hm : l.most = some 63) (hk : k ≤ 600) (hf : ∀ Pm, nsIn (Kf Pm) mainGlobals d.name = some (some (.ref f))) (hc : ∀ Pm, codeHdIn (Kf Pm) c Tb = true) (hno : ∀ Pm, noTabs (Kf Pm) = true)
    (hlaw : ∀ (W : Wd) (Pm : Params), W.K = Kf Pm → W.prog = l.prog → W.raws = [] → ∀ ns : List Int, ns.length ≤ 63 → Kl0 W k (.ref f) [.list (ns.map .int)] [(Tb, .obj (tabObj #[]))] (LawOut Tb)) :
    WalkO q loose XP (kmHook Kf as e [Tb]).says l.row.toRowW d kwd fun f vs => PySem.call f vs := by
  intro w s₀ s₁ mg mb G Y fa o pm cd doc dV kV ho hd hcd hD hmg hg args vals as' hpre hlay hrd hwl hlo
  have KX := km_in_of Y
  have hT := km_tabs_of Y Tb List.mem_cons_self
  have hfa : fa = f := by
    have := mg_of KX G.T.g (hf w.params)
    rw [hmg] at this; cases this; rfl
  subst hfa
  have hsh := (pre_splitW hpre).1
  have hcond := (pre_splitW hpre).2
  obtain ⟨d0, r0, rfl, hd0, hr0⟩ := hasAllW_cons hsh
  cases hasAllW_nil hr0
  obtain ⟨xs, rfl, hx⟩ := hasW_list hd0
  obtain ⟨ns, rfl⟩ := wints_items hx
  have hlen : ns.length ≤ 63 := by
    have h1 : l.pre.holds [] { args := [.list (ns.map .int)] } = true := hcond
    unfold OpenLaw.pre at h1
    rw [hm] at h1
    have h2 := (holds_andW h1).1
    by_cases hz : ns.length ≤ 63
    · exact hz
    · exfalso
      have : (63 : Int) < ns.length := Int.ofNat_lt.mpr (Nat.lt_of_not_le hz)
      simp [WTm.holds, WTm.value, PySem.W.less?, PySem.W.Num.less?, this] at h2
  have hCd := codeHd_of_K KX (hc w.params)
  have hTabs : TabsAt [(c, Tb)] s₁.heap := fun q hq => by
    rw [List.mem_singleton.mp hq]; exact ⟨hCd, hT⟩
  have T := ghost_top hTabs G.T
  have gk : ∀ b o, (ghostOf s₁.heap [(c, Tb)]).get? b = some o → s₁.heap.get? b = some o := fun b o e => of_hideAll _ e
  obtain ⟨W, hW1, hW2, hW3, hW4, hW5⟩ : ∃ W : Wd, W.K = Kf w.params ∧ W.prog = l.prog ∧ W.w = w ∧ W.raws = [] ∧ W.B (fun b => (ghostOf s₁.heap [(c, Tb)]).get? b) :=
    ⟨⟨l.prog, w, Kf w.params, _, _, _, _, _, []⟩, rfl, rfl, rfl, rfl, ⟨ghost_K hTabs KX (hno w.params), fun h hp => T.keeps hp⟩⟩
  have hM : W.M = model l.row.toRowW.prog w := by unfold Wd.M; rw [hW2, hW3]; rfl
  cases hwl with | cons wl1 wl2 =>
  cases wl2
  cases wl1 with | list hw1 hw2 =>
  rename_i a vs
  have hP : (ghostOf s₁.heap [(c, Tb)]).get? a = some (listOf vs.toArray 0) := ghost_get hTabs hw1 (fun z => by cases z)
  rw [← hM]
  refine wpAny_call (hlaw W w.params hW1 hW2 hW4 ns hlen callerA (fun b => (ghostOf s₁.heap [(c, Tb)]).get? b) s₁ _ [.ref a] ⟨rfl, ?_, ?_⟩ hW5 gk hW4 (.cons (.list hP (well_ints hw2)) .nil) ⟨?_, ?_, ?_⟩ ?_)
  · show 1 + 300 + k < 1000; omega
  · show 4 + 8 * k + 64 < 9900; omega
  · intro p hp
    rw [List.mem_singleton.mp hp]
    exact ⟨_, hT, .obj _⟩
  · exact List.nodup_cons.mpr ⟨List.not_mem_nil, List.nodup_nil⟩
  · intro p hp
    rw [List.mem_singleton.mp hp]
    exact hideAll_none _ (List.mem_cons_self)
  · rintro v P' s' d Mx' N ⟨rfl, ps, rfl⟩ _ g dv' i
    obtain rfl := i.boolI
    obtain ⟨o', ho', io⟩ := dv'.has (Tb, .obj (tabObj ps)) (List.mem_append_left _ List.mem_cons_self)
    obtain rfl := io.objI.symm
    refine ⟨.inl ⟨_, .bool true, [], rfl, fun cls => rfl, .bool _, ?_, fun _ => ⟨List.nodup_nil, fun a ha => nomatch ha⟩⟩, ⟨fun b o hb => ?_, fun b o hb => g.ext b o hb⟩, g.os, g.gens.2 fun y hy => ?_⟩
    · show (WShape.has [] (.bool true) .bool && WTm.holds [] (.eq .res (.lit (.bool true))) _) = true
      simp [WShape.has, WShape.arms, WTm.holds, WTm.value, PySem.W.same]
    · by_cases hbT : b = Tb
      · subst hbT
        obtain ⟨oc, vsc, _, _, _, _, _, _, _, q1, q2, q3, q4, _⟩ := hCd
        rw [hT] at hb; cases hb
        refine .inr (.inl ⟨⟨c, oc, vsc, q1, q2, q3, q4⟩, rfl, #[], ps, rfl, ?_⟩)
        rw [ho']; simp [tabObj]
      · exact .inl (g.old b o (fun q => hbT (List.mem_singleton.mp q)) hb)
    · rw [hg] at hy; simp at hy
end
section
set_option maxHeartbeats 4000000
theorem cl_joinStr {W : Wd} {k : Nat} {x y : Str} (hok : JoinOk x (signs y) = true) : Cl W k (.builtin "str.join") [.str x, .str y] (.str (Txt.join x (signs y))) := cl_2s fun A S P s E Q t u st hQ => SC.joinStr st.a.1 hok fun h' kk t' hk => hQ _ P _ (Gr.keep (tk := kk) st.p hk) (.str _ _)
section
variable {W : Wd} {k : Nat} {env : Env} {Γ : List (Str × D)} {Δ : List (Str × List D)}
/-- C(e, ..), a class upon data -/
theorem ev_callC {x : Str} {C : Addr} {p pos : Pos} {e : Expr} {d1 d : D} (n : NmG W env x (.ref C)) (hk : keepIn W.K (.ref C) = true) (h : Ev W k env Γ Δ e d1) (hc : Cl W k (.ref C) [d1] d)
    (hpe : plainE e = true := by rfl) (hd : (x == ("__debug__" : Str)) = false := by decide) : Ev W k env Γ Δ (.Call (.Name x p) [e] [] pos) d := fun A S P s E Q st hC hQ => by
  refine wp_tk st.tk (wpAny_Call_Name_kw (name_gl st.b st.p hC n ?_ hd))
  have he : starEach [e] env = (false, eval e env) :: starEach [] env := starEach_cons hpe
  refine callWith_K (h₀ := s.heap) (Bs.frag st.b st.p) hk ?_ he rfl
  rw [he]
  refine spliced_cons (h A S P s E _ st hC fun v P₁ s₁ g tk i => spliced_nil ?_)
  refine ⟨Bs.frag (st.b.up g.le) g.inn, ?_⟩
  exact hc A S P₁ s₁ E _ [v] (st.next g tk) (.cons i .nil) fun v2 P₂ s₂ g2 i2 tk2 => hQ v2 P₂ s₂ (g.trans g2) tk2 i2
end
end
section
/-! loop rules by state functions of one index -/
noncomputable abbrev ForSQ (W : Wd) (k : Nat) (A : Around) (env : Env) (s₀ : Shared) (P' H' : Vw) (Q : Flow → Shared → Prop) (B : List (Str × D) → List (Str × List D) → List (Addr × MO) → Prop) {α : Type} (G : α → List (Str × D)) (D : α → List (Str × List D)) (M : α → List (Addr × MO)) (I : α → Prop) : Flow → Shared → Prop := fun f s'' => match f with
  | .ret v => Q (.ret v) s''
  | .brk => ∃ Γ'' Δ'' Mx'' P'', B Γ'' Δ'' Mx'' ∧ At W k A env s₀ P' H' Γ'' Δ'' Mx'' P'' s''
  | _ => ∃ a P'', I a ∧ At W k A env s₀ P' H' (G a) (D a) (M a) P'' s''
noncomputable abbrev ForMSQ (W : Wd) (k : Nat) (A : Around) (env : Env) (s₀ : Shared) (P₀ H : Vw) (Q : Flow → Shared → Prop) {α : Type} (N : α → Nat) (G : α → List (Str × D)) (D : α → List (Str × List D)) (M : α → List (Addr × MO)) (I : α → Prop) (n : Nat) : Flow → Shared → Prop := fun f s3 => match f with
  | .ret v => Q (.ret v) s3
  | .brk => False
  | _ => ∃ a P3, N a < n ∧ I a ∧ At W k A env s₀ P₀ H (G a) (D a) (M a) P3 s3
noncomputable abbrev JoinSQ (W : Wd) (k : Nat) (A : Around) (env : Env) (s₀ : Shared) (P₀ H : Vw) (Q : Flow → Shared → Prop) {α : Type} (G : α → List (Str × D)) (D : α → List (Str × List D)) (M : α → List (Addr × MO)) (I : α → Prop) : Flow → Shared → Prop := fun f s'' => match f with
  | .next => ∃ a P'', I a ∧ At W k A env s₀ P₀ H (G a) (D a) (M a) P'' s''
  | f => Q f s''
noncomputable def Sx3 {α : Type} (G : α → List (Str × D)) (Dl : α → List (Str × List D)) (M : α → List (Addr × MO)) (I : α → Prop) (Γ : List (Str × D)) (Δ : List (Str × List D)) (Mx : List (Addr × MO)) : Prop := ∃ a, I a ∧ Γ = G a ∧ Δ = Dl a ∧ Mx = M a
section
variable {W : Wd} {k : Nat} {A : Around} {env : Env} {s₀ : Shared} {P₀ H : Vw} {Γ : List (Str × D)} {Δ : List (Str × List D)} {Mx : List (Addr × MO)} {P : Vw} {s : Shared} {E : Value → Shared → Prop} {Q : Flow → Shared → Prop} {α : Type}
theorem At.delta {Δ' : List (Str × List D)} (X : At W k A env s₀ P₀ H Γ Δ Mx P s) (e : Δ = Δ') : At W k A env s₀ P₀ H Γ Δ' Mx P s := e ▸ X
theorem At.mem {Mx' : List (Addr × MO)} (X : At W k A env s₀ P₀ H Γ Δ Mx P s) (e : Mx = Mx') : At W k A env s₀ P₀ H Γ Δ Mx' P s := e ▸ X
theorem s_forS {x : Str} {px pos : Pos} {iter : Expr} {body rest : List Stmt} {its : List D} (X : At W k A env s₀ P₀ H Γ Δ Mx P s) (hI : EvI (W.at Mx) k env Γ Δ true iter its) (hb : Bindable env x)
    (G : Nat → α → List (Str × D)) (Dl : Nat → α → List (Str × List D)) (M : Nat → α → List (Addr × MO)) (I : Nat → α → Prop) (B : List (Str × D) → List (Str × List D) → List (Addr × MO) → Prop) (a : α) (ha : I 0 a) (eG : Γ = G 0 a) (eD : Δ = Dl 0 a) (eM : Mx = M 0 a)
    (hJx : ∀ i a, (∀ p ∈ G i a, p.1 ≠ x) ∧ (∀ p ∈ Dl i a, p.1 ≠ x))
    (turn : ∀ i d H' a P' s' (E' : Value → Shared → Prop), its[i]? = some d → I i a → At W k A env s₀ P' H' ((x, d) :: G i a) (Dl i a) (M i a) P' s' →
      (∀ Γ'' Δ'' Mx'' P'' s'', At W k A env s₀ P' H' Γ'' Δ'' Mx'' P'' s'' → At W k A env s₀ P₀ H Γ'' Δ'' Mx'' P'' s'') →
      wpAny W.M A (execs body env) (ForSQ W k A env s₀ P' H' Q B (G (i + 1)) (Dl (i + 1)) (M (i + 1)) (I (i + 1))) E' s')
    (done : ∀ a P' s', I its.length a → At W k A env s₀ P₀ H (G its.length a) (Dl its.length a) (M its.length a) P' s' → wpAny W.M A (execs rest env) Q E s')
    (broke : ∀ Γ' Δ' Mx' P' s', B Γ' Δ' Mx' → At W k A env s₀ P₀ H Γ' Δ' Mx' P' s' → wpAny W.M A (execs rest env) Q E s')
    (hs : ∀ v, foldedSetIterable iter env v = pure v := by intro _; rfl) : wpAny W.M A (execs (.For (.Name x px) iter body [] pos :: rest) env) Q E s := by
  refine s_for X hI hb (fun i => Sx3 (G i) (Dl i) (M i) (I i)) B ⟨a, ha, eG, eD, eM⟩ ?_ ?_ ?_ hs
  · rintro i Γ' Δ' Mx' ⟨a, _, rfl, rfl, rfl⟩
    exact hJx i a
  · rintro i d H' Γ' Δ' Mx' P' s' E' hd ⟨a, ia, rfl, rfl, rfl⟩ X back
    refine wpAny_mono (turn i d H' a P' s' E' hd ia X back) (fun f s'' h => ?_) fun _ _ h => h
    cases f with
    | next => exact h.elim fun a h => h.elim fun P'' h => ⟨_, _, _, P'', ⟨a, h.1, rfl, rfl, rfl⟩, h.2⟩
    | cont => exact h.elim fun a h => h.elim fun P'' h => ⟨_, _, _, P'', ⟨a, h.1, rfl, rfl, rfl⟩, h.2⟩
    | _ => exact h
  · rintro Γ' Δ' Mx' P' s' (⟨a, ia, rfl, rfl, rfl⟩ | h) X
    · exact done a P' s' ia X
    · exact broke _ _ _ _ _ h X
theorem s_forMS {x z : Str} {px pz pos : Pos} {body rest' : List Stmt} {ci : Addr} {lci : List (Addr × Obj)} {a0 b0 c0 : Value} (X : At W k A env s₀ P₀ H Γ Δ ((ci, .obj (ciObj a0 b0 c0)) :: Mx) P s) (hz : (z, D.pack ci lci) ∈ Γ) (hb : Bindable env x)
    (N : α → Nat) (G : α → List (Str × D)) (Dl : α → List (Str × List D)) (M : α → List (Addr × MO)) (I : α → Prop) (a : α) (ha : I a) (eG : Γ = G a) (eD : Δ = Dl a) (eM : (ci, .obj (ciObj a0 b0 c0)) :: Mx = M a)
    (turn : ∀ a P' s', I a → At W k A env s₀ P₀ H (G a) (Dl a) (M a) P' s' → ∃ r M1 M2 R, M a = M1 ++ R ∧ ads M2 = ads M1 ∧ NxM (W.at []) k A P' (.ref ci) r M1 M2 ∧
      (match r with
      | none => ∀ P'' s'', Le P' P'' → At W k A env s₀ P₀ H (G a) (Dl a) (M2 ++ R) P'' s'' → wpAny W.M A (execs rest' env) Q E s''
      | some d => ∀ P'' s'' (E' : Value → Shared → Prop), Le P' P'' → At W k A env s₀ P₀ H ((x, d) :: rm x (G a)) (rm x (Dl a)) (M2 ++ R) P'' s'' → wpAny W.M A (execs body env) (ForMSQ W k A env s₀ P₀ H Q N G Dl M I (N a)) E' s''))
    (hd : (z == ("__debug__" : Str)) = false := by decide) (hn : (z == ("__classdict__" : Str)) = false := by decide) (hs : ∀ v, foldedSetIterable (.Name z pz) env v = pure v := by intro _; rfl) :
    wpAny W.M A (execs (.For (.Name x px) (.Name z pz) body [] pos :: rest') env) Q E s := by
  refine s_forM X hz hb (N a) (fun n _ Γ Δ Mx => ∃ a, I a ∧ N a = n ∧ Γ = G a ∧ Δ = Dl a ∧ Mx = M a) ⟨a, ha, rfl, eG, eD, eM⟩ ?_ hd hn hs
  rintro n P' Γ' Δ' Mx' s' ⟨a, ia, rfl, rfl, rfl, rfl⟩ X
  obtain ⟨r, M1, M2, R, h1, h2, h3, h4⟩ := turn a P' s' ia X
  refine ⟨r, M1, M2, R, h1, h2, h3, ?_⟩
  cases r with
  | none => exact h4
  | some d =>
    intro P'' s'' E' l Y
    refine wpAny_mono (h4 P'' s'' E' l Y) (fun f s3 h => ?_) fun _ _ h => h
    cases f with
    | next => exact h.elim fun a h => h.elim fun P3 h => ⟨_, _, _, _, P3, h.1, ⟨a, h.2.1, rfl, rfl, rfl, rfl⟩, h.2.2⟩
    | cont => exact h.elim fun a h => h.elim fun P3 h => ⟨_, _, _, _, P3, h.1, ⟨a, h.2.1, rfl, rfl, rfl, rfl⟩, h.2.2⟩
    | _ => exact h
end
end
section
/-! a loop whose state depends on the turn's number alone -/
noncomputable abbrev ForIQ (W : Wd) (k : Nat) (A : Around) (env : Env) (s₀ : Shared) (P₀ H : Vw) (Q : Flow → Shared → Prop) (Γ : List (Str × D)) (Δ : List (Str × List D)) (Mx : List (Addr × MO)) : Flow → Shared → Prop := fun f s'' => match f with
  | .ret v => Q (.ret v) s''
  | .brk => False
  | _ => ∃ P'', At W k A env s₀ P₀ H Γ Δ Mx P'' s''
section
variable {W : Wd} {k : Nat} {A : Around} {env : Env} {s₀ : Shared} {P₀ H : Vw} {Γ : List (Str × D)} {Δ : List (Str × List D)} {Mx : List (Addr × MO)} {P : Vw} {s : Shared} {E : Value → Shared → Prop} {Q : Flow → Shared → Prop}
theorem s_forI {x : Str} {px pos : Pos} {iter : Expr} {body rest : List Stmt} {its : List D} (X : At W k A env s₀ P₀ H Γ Δ Mx P s) (hI : EvI (W.at Mx) k env Γ Δ true iter its) (hb : Bindable env x)
    (G : Nat → List (Str × D)) (Dl : Nat → List (Str × List D)) (eG : Γ = G 0) (eD : Δ = Dl 0)
    (hJx : ∀ i, (∀ p ∈ G i, p.1 ≠ x) ∧ (∀ p ∈ Dl i, p.1 ≠ x))
    (turn : ∀ i d H' P' s' (E' : Value → Shared → Prop), its[i]? = some d → At W k A env s₀ P' H' ((x, d) :: G i) (Dl i) Mx P' s' →
      wpAny W.M A (execs body env) (ForIQ W k A env s₀ P' H' Q (G (i + 1)) (Dl (i + 1)) Mx) E' s')
    (done : ∀ P' s', At W k A env s₀ P₀ H (G its.length) (Dl its.length) Mx P' s' → wpAny W.M A (execs rest env) Q E s')
    (hs : ∀ v, foldedSetIterable iter env v = pure v := by intro _; rfl) : wpAny W.M A (execs (.For (.Name x px) iter body [] pos :: rest) env) Q E s := by
  refine s_forS (α := Unit) X hI hb (fun i _ => G i) (fun i _ => Dl i) (fun _ _ => Mx) (fun _ _ => True) (fun _ _ _ => False) () trivial eG eD rfl (fun i _ => hJx i) (fun i d H' a P' s' E' hd _ X back => wpAny_mono (turn i d H' P' s' E' hd X) (fun f s'' h => ?_) fun _ _ h => h) (fun _ P s _ X => done P s X) (fun _ _ _ _ _ h _ => h.elim) hs
  cases f with
  | next => exact h.elim fun P Y => ⟨(), P, trivial, Y⟩
  | cont => exact h.elim fun P Y => ⟨(), P, trivial, Y⟩
  | brk => exact h.elim
  | ret _ => exact h
/-- if test: (no else), the test false -/
theorem s_if0 {test : Expr} {body rest : List Stmt} {pos : Pos} {b : Bool} (X : At W k A env s₀ P₀ H Γ Δ Mx P s) (ht : Ts (W.at Mx) k env Γ Δ test b) (hb : b = false)
    (next : ∀ P' s', At W k A env s₀ P₀ H Γ Δ Mx P' s' → wpAny W.M A (execs rest env) Q E s') : wpAny W.M A (execs (.If test body [] pos :: rest) env) Q E s := by
  subst hb
  exact s_if X ht fun P s X => s_nil (next P s X)
/-- a name of the function's own -/
theorem bl {x : Str} (h : env.kindOf x = some .local) : Bindable env x := .inl h
theorem bc {x : Str} (h : env.kindOf x = some .cell) (c : (env.cells.lookup x).isSome = true) : Bindable env x := .inr ⟨h, c⟩
/-- y = [elt for x in iter], y the function's own and not turning -/
theorem s_forC0 {x y : Str} {px p pos cpos : Pos} {elt iter : Expr} {scope : Scope} {rest : List Stmt} {cl : List (Str × Addr)} {its ds : List D} {b : Bool} (Γ' : List (Str × D)) (Δ' : List (Str × List D))
    (X : At W k A env s₀ P₀ H Γ Δ Mx P s) (hI : EvI (W.at Mx) k env Γ Δ b iter its) (hlen : ds.length = its.length)
    (helt : ∀ (C : Addr) (i : Nat) (d d' : D), its[i]? = some d → ds[i]? = some d' → Ev (W.at Mx) k (compEnvC scope cl C env) ((x, d) :: Γ') Δ' elt d')
    (hb : Bindable env y) (hyΓ : ∀ p ∈ Γ, p.1 ≠ y) (hyΔ : ∀ p ∈ Δ, p.1 ≠ y)
    (next : ∀ P' s', At W k A env s₀ P₀ H ((y, .list ds) :: Γ) Δ Mx P' s' → wpAny W.M A (execs rest env) Q E s')
    (hΓ : ∀ p ∈ Γ', p ∈ Γ := by trivial) (hΔ : ∀ p ∈ Δ', p ∈ Δ := by trivial)
    (hclos : closureFor scope env = pure cl := by rfl) (hthru : Thru env scope cl (Γ'.map (·.1) ++ Δ'.map (·.1)) := by repeat (first | exact True.intro | refine And.intro ⟨by first | exact .inl rfl | exact .inr rfl, by first | exact .inl rfl | exact .inr rfl, rfl⟩ ?_))
    (hcell : ∀ y ∈ scope.names, y.2 ≠ .cell := by decide) (hkind : scope.kind = .function := by rfl)
    (hnames : ∀ y ∈ scope.names, y.2 = .local → scope.names.lookup y.1 = some .local := by decide) (hx : scope.names.lookup x = some .local := by rfl)
    (hsz : Nat.ble its.length 16384 = true := by rfl)
    (hsw : swapsWith (.ListComp elt [⟨.Name x px, iter, [], 0⟩] scope cpos) (some (.Name y p)) pos.line env = pure true := by rfl)
    (hs : ∀ v, foldedSetIterable iter env v = pure v := by intro _; rfl) :
    wpAny W.M A (execs (.Assign [.Name y p] (.ListComp elt [⟨.Name x px, iter, [], 0⟩] scope cpos) pos :: rest) env) Q E s :=
  s_forC false Γ' Δ' X hI hlen helt hb hyΓ hyΔ next hΓ hΔ hclos hthru hcell hkind hnames hx hsz hsw hs
end
end
section
open PySem PySem.W PyProof.Rows
set_option maxHeartbeats 8000000
noncomputable def qv : Program := { PySem.Challenge.pw_ul0022_01 with main := { PySem.Challenge.pw_ul0022_01.main with body := PySem.Challenge.pw_ul0022_01.main.body.drop 19 } }
noncomputable def lsv : List Str := ["_wall", "_iter_escaped_chars", "_strip_quoted_realnames", "_check_parenthesis", "ELLIPSIS_MARKER", "_ellipsis_match", "_strip_exception_details", "_netrclex", "Whitespace", "_law_stream", "_law_spelled", "_law_steps", "_law_determinant", "_law_holds"]
theorem said01 : (PySem.Challenge.rw_ul0022_01).wellSaid = true := by
  unfold OpenLaw.wellSaid OpenRow.wellSaid OpenRow.partSaid looksOpen
  repeat' (with_reducible refine look_both ?_ ?_)
  all_goals kernel_rfl
local macro_rules | `(tactic| o_law) => `(tactic| refine holds_law said01 fun _ => ?_)
set_option hygiene false in
local macro_rules | `(tactic| o_head $H) => `(tactic| (
    refine holds_open (q := qv) (loose := lsv) (Xt := fun s => xlAt qv [] s && recOk [] s) (XP := XL qv []) (Yf := Hook.obs $H) (Ya := Hook.val $H) (YP := Hook.says $H) (N := 2600) ?hl (Hook.of $H) (Hook.keeps $H) (fun s e => xl_of s (Bool.and_eq_true_iff.mp e).1) XL.keeps (by rfl) (by rfl) (by rfl) (fun s e => recFacts_of (Bool.and_eq_true_iff.mp e).2) (by rfl) (by first | assumption | decide +kernel) (by decide +kernel) ⟨rfl, rfl, rfl, rfl, rfl, by decide +kernel⟩ ?hw ?hc
    case hl => exact LeftO.of_split "special-get-raises" (fun w => by kernel_rfl)))
open_top hd01 for PySem.Challenge.rw_ul0022_01
end
section
variable {W : Wd} {Pm : Params} (hW : W.K = hd01.heap_1 Pm)
include hW
noncomputable def sed (x : Str) : Str :=
  let e : Int := x.length
  let i := Txt.find x "\n"
  let e := if 0 ≤ i then i else e
  let i := find4 x ":" 0 e
  let e := if 0 ≤ i then i else e
  let i := rfind4 x "." 0 e
  let b := if 0 ≤ i then i + 1 else 0
  Txt.slice x (some b) (some e)
theorem cl56 {k : Nat} {x : Str} (hx : x.length ≤ sizeLine) : Cl W (k + 1) (.ref 56) [.str x] (.str (sed x)) := by
  refine cl_fn (names := ["msg"]) (fun P b => ⟨⟨_, b.k _ _ (by rw [hW]; rfl), rfl⟩, by rw [hW]; rfl, rfl, fun vs h => ?_, rfl, ?_, by decide, by decide, rfl, rfl, rfl, rfl, rfl⟩) rfl ?_
  · obtain ⟨v, rfl⟩ := len1 h; rfl
  · decide
  intro A L s₀ P₀ H P s X
  replace X : At W k A _ s₀ P₀ H [("msg", .str x)] [] [] P s := X
  refine s_pair' X (ev_tuple (evs_cons ev_int (evs_cons (ev_callB (nmB hW) (evs_cons nv evs_nil) (cl_len_str (Nat.lt_of_le_of_lt hx (by decide)))) evs_nil))) (.inl rfl) (.inl rfl) fun P s X => ?_
  refine s_set X (ev_smeth nv (evs_cons ev_str evs_nil) F.slot_str_find F.type_str_find cl_find) (.inl rfl) fun P s X => ?_
  refine s_ifset (d' := .int (if 0 ≤ Txt.find x "\n" then Txt.find x "\n" else x.length)) X (ts_cmp nv ev_int op_ge_int) (by trivial) (fun h => ?_) (fun h => ?_) (.inl rfl) fun P s X => ?_
  · rw [if_pos (of_decide_eq_true h)]; exact nv
  · rw [if_neg (of_decide_eq_false h)]
  generalize he1 : (if 0 ≤ Txt.find x "\n" then Txt.find x "\n" else (x.length : Int)) = e1 at X
  refine s_set X (ev_smeth nv (evs_cons ev_str (evs_cons ev_int (evs_cons nv evs_nil))) F.slot_str_find F.type_str_find cl_find4) (.inl rfl) fun P s X => ?_
  refine s_ifset (d' := .int (if 0 ≤ find4 x ":" 0 e1 then find4 x ":" 0 e1 else e1)) X (ts_cmp nv ev_int op_ge_int) (by trivial) (fun h => ?_) (fun h => ?_) (.inl rfl) fun P s X => ?_
  · rw [if_pos (of_decide_eq_true h)]; exact nv
  · rw [if_neg (of_decide_eq_false h)]
  generalize he2 : (if 0 ≤ find4 x ":" 0 e1 then find4 x ":" 0 e1 else e1) = e2 at X
  refine s_set X (ev_smeth nv (evs_cons ev_str (evs_cons ev_int (evs_cons nv evs_nil))) F.slot_str_rfind F.type_str_rfind cl_rfind4) (.inl rfl) fun P s X => ?_
  refine s_ifset (d' := .int (if 0 ≤ rfind4 x "." 0 e2 then rfind4 x "." 0 e2 + 1 else 0)) X (ts_cmp nv ev_int op_ge_int) (by trivial) (fun h => ?_) (fun h => ?_) (.inl rfl) fun P s X => ?_
  · rw [if_pos (of_decide_eq_true h)]; exact ev_bin nv ev_int op_add_int
  · rw [if_neg (of_decide_eq_false h)]
  refine s_ret X (ev_slice_str nv (evo_some nv) (evo_some nv) ?_) fun v P s X i => ⟨P, _, _, _, X, ?_⟩
  · exact hx
  · subst he1; subst he2; exact i
end
section
noncomputable def ellLoop (got : Str) (e : Int) : List Str → Int → Bool
  | [], _ => true
  | w :: r, sp => if find4 got w sp e < 0 then false else ellLoop got e r (find4 got w sp e + w.length)
noncomputable def ellTail (got : Str) (ws : List Str) (sp : Int) : Bool :=
  let w := ws.getLastD Str.empty
  if w.length = 0 then (if sp > got.length then false else ellLoop got got.length ws sp)
  else if Txt.endswith got w then (if sp > (got.length : Int) - w.length then false else ellLoop got ((got.length : Int) - w.length) ws.dropLast sp) else false
noncomputable def ellm (want got : Str) : Bool :=
  if !inS "..." want then want == got
  else
    let ws := cut want "..."
    let w := ws.headD Str.empty
    if w.length = 0 then ellTail got ws 0
    else if Txt.startswith got w then ellTail got ws.tail w.length else false
noncomputable def ellOk (want got : Str) : Bool := (!inS "..." want || (cutOk want "..." && decide (2 ≤ (cut want "...").length) && decide ((cut want "...").length ≤ 64) && (cut want "...").all fun w => decide (w.length ≤ 16384))) && decide (got.length ≤ 16384)
theorem getLastD_mem {a d : Str} : ∀ {r : List Str}, (a :: r).getLastD d ∈ a :: r
  | [] => List.mem_cons_self
  | b :: r => List.mem_cons_of_mem _ (getLastD_mem (a := b) (d := b) (r := r))
theorem at_last {ws : List Str} (h : 0 < ws.length) : at? (ws.map D.str) (-1) = some (.str (ws.getLastD Str.empty)) := by
  unfold at?
  rw [if_neg (by decide), if_pos (by simp; omega)]
  have : ((-1 : Int) + ((ws.map D.str).length : Int)).toNat = ws.length - 1 := by rw [List.length_map]; exact az_m1 _
  rw [this, List.getElem?_map]
  cases ws with
  | nil => simp at h
  | cons a r => simp [List.getLastD_eq_getLast?, List.getLast?_eq_getElem?]
theorem erase_last {ws : List Str} : (ws.map D.str).eraseIdx (ws.length - 1) = ws.dropLast.map D.str := by
  rw [List.map_dropLast, List.dropLast_eq_take, List.eraseIdx_eq_take_drop_succ, List.length_map]
  rw [List.drop_eq_nil_of_le (by rw [List.length_map]; omega), List.append_nil]
theorem drop_cons {α : Type} {l : List α} {i : Nat} {a : α} (h : l[i]? = some a) : l.drop i = a :: l.drop (i + 1) := by
  obtain ⟨hi, e⟩ := List.getElem?_eq_some_iff.mp h
  rw [List.drop_eq_getElem_cons hi, e]
theorem two_le {α : Type} : ∀ {l : List α}, 2 ≤ l.length → ∃ a b r, l = a :: b :: r
  | a :: b :: r, _ => ⟨a, b, r, rfl⟩
  | [a], h => absurd h (by simp)
  | [], h => absurd h (by simp)
variable {W : Wd} {Pm : Params} (hW : W.K = hd01.heap_1 Pm)
include hW
theorem cl49 {k : Nat} {want got : Str} (hok : ellOk want got = true) : Cl W (k + 1) (.ref 49) [.str want, .str got] (.bool (ellm want got)) := by
  refine cl_fn (names := ["want", "got"]) (fun P b => ⟨⟨_, b.k _ _ (by rw [hW]; rfl), rfl⟩, by rw [hW]; rfl, rfl, fun vs h => ?_, rfl, ?_, by decide, by decide, rfl, rfl, rfl, rfl, rfl⟩) rfl ?_
  · obtain ⟨v, u, rfl⟩ := len2 h; rfl
  · decide
  intro A L s₀ P₀ H P s X
  replace X : At W k A _ s₀ P₀ H [("want", .str want), ("got", .str got)] [] [] P s := X
  unfold ellOk at hok
  rw [Bool.and_eq_true, decide_eq_true_eq] at hok
  obtain ⟨hok, hgot⟩ := hok
  have hgot' : got.length < 2 ^ 62 := Nat.lt_of_le_of_lt hgot (by decide)
  refine s_if X (ts_cmp (ev_gstr (nmG hW)) nv op_notin_str) fun P s X => ?_
  generalize hres : ellm want got = res
  unfold ellm at hres
  cases hin : inS "..." want with
  | false =>
    rw [hin] at hres
    refine s_ret X (ev_cmp nv nv op_eq_str) fun v P s X i => ⟨P, _, _, _, X, ?_⟩
    subst hres; exact i
  | true =>
  refine s_nil ?_
  rw [hin] at hok hres
  simp only [Bool.not_true, Bool.false_or, Bool.and_eq_true, decide_eq_true_eq, List.all_eq_true] at hok
  obtain ⟨⟨⟨hcut, h2⟩, h64⟩, hlen⟩ := hok
  simp only [Bool.not_true, Bool.false_eq_true, if_false] at hres
  refine s_setN X (evn_split nv (ev_gstr (nmG hW)) hcut) (.inl rfl) fun P s X => ?_
  generalize cut want "..." = ws at *
  obtain ⟨w0, w1, r, rfl⟩ := two_le h2
  have hw : ∀ w ∈ w0 :: w1 :: r, w.length < 2 ^ 62 := fun w hm => Nat.lt_of_le_of_lt (hlen w hm) (by decide)
  have hl : ((w0 :: w1 :: r).map D.str).length = r.length + 2 := by simp
  have h64' : r.length + 2 ≤ 64 := by simpa using h64
  refine s_assert' X (ts_cmp (ev_callBL (nmB hW) nm (cl_len_list (by rw [hl]; omega))) ev_int op_ge_int) (by rw [hl]; exact decide_eq_true (by omega)) fun P s X => ?_
  refine s_pair' X (ev_tuple (evs_cons ev_int (evs_cons (ev_callB (nmB hW) (evs_cons nv evs_nil) (cl_len_str hgot')) evs_nil))) (.inl rfl) (.inl rfl) fun P s X => ?_
  refine s_set X (ev_item_list nm ev_int (by rfl)) (.inl rfl) fun P s X => ?_
  have hw0 := hw w0 List.mem_cons_self
  change (if w0.length = 0 then ellTail got (w0 :: w1 :: r) 0 else if Txt.startswith got w0 = true then ellTail got (w1 :: r) w0.length else false) = res at hres
  refine s_ifJ X (ts_str nv hw0) (fun Γ' Δ' Mx' => ∃ ws sp, Eq3 Γ' Δ' Mx' [("startpos", .int sp), ("endpos", .int got.length), ("got", .str got)] [("ws", ws.map .str)] [] ∧ res = ellTail got ws sp ∧ 0 < ws.length ∧ ws.length ≤ 64 ∧ ∀ w ∈ ws, w.length ≤ 16384)
    (fun P s X => ?_) (fun Γ' Δ' Mx' P s hJ X => ?_)
  · cases hb : ((w0.length : Int) != 0) with
    | false =>
      have h0 : w0.length = 0 := by simpa using hb
      rw [if_pos h0] at hres
      refine s_nil (.inl ⟨rfl, _, _, _, P, ⟨w0 :: w1 :: r, 0, ⟨rfl, rfl, rfl⟩, hres.symm, by simp, h64, hlen⟩, X.forget (by trivial)⟩)
    | true =>
      have h0 : w0.length ≠ 0 := by simpa using hb
      rw [if_neg h0] at hres
      refine s_if X (ts_bool (ev_smeth nv (evs_cons nv evs_nil) F.slot_str_startswith F.type_str_startswith cl_startswith)) fun P s X => ?_
      cases hs : Txt.startswith got w0 with
      | false =>
        rw [hs, if_neg Bool.false_ne_true] at hres
        refine s_ret X ev_bool fun v P s X i => .inr ⟨nofun, P, _, _, _, X, ?_⟩
        subst hres; exact i
      | true =>
        rw [hs, if_pos rfl] at hres
        refine s_set X (ev_callB (nmB hW) (evs_cons nv evs_nil) (cl_len_str hw0)) (.inl rfl) fun P s X => ?_
        refine s_del X ev_int (j := 0) (by rw [seqIndex_nn (by decide)]; rfl; simp; omega) (by decide) (by rw [hl]; exact Nat.le_trans h64' (by decide)) fun P s X => ?_
        refine s_nil (s_nil (.inl ⟨rfl, _, _, _, P, ⟨w1 :: r, w0.length, ⟨rfl, rfl, rfl⟩, hres.symm, by simp, by simp at h64 ⊢; omega, fun w hm => hlen w (List.mem_cons_of_mem _ hm)⟩, X.forget (by trivial)⟩))
  obtain ⟨ws, sp, ⟨rfl, rfl, rfl⟩, rfl, hne, h64, hlen⟩ := hJ
  have hgl : ws.getLastD Str.empty ∈ ws := by
    cases ws with
    | nil => simp at hne
    | cons a r => exact getLastD_mem
  refine s_set X (ev_item_list nm (ev_un ev_int op_neg) (at_last hne)) (.inl rfl) fun P s X => ?_
  unfold ellTail
  generalize ws.getLastD Str.empty = w at *
  have hwl := hlen w hgl
  have hwl' : w.length < 2 ^ 62 := Nat.lt_of_le_of_lt hwl (by decide)
  dsimp only
  generalize hres2 : (if w.length = 0 then if sp > (got.length : Int) then false else ellLoop got got.length ws sp
    else if Txt.endswith got w = true then if sp > (got.length : Int) - w.length then false else ellLoop got ((got.length : Int) - w.length) ws.dropLast sp else false) = res at *
  refine s_ifJ X (ts_str nv hwl') (fun Γ' Δ' Mx' => ∃ ws e, Eq3 Γ' Δ' Mx' [("startpos", .int sp), ("endpos", .int e), ("got", .str got)] [("ws", ws.map .str)] [] ∧ res = (if sp > e then false else ellLoop got e ws sp) ∧ ws.length ≤ 64 ∧ ∀ w ∈ ws, w.length ≤ 16384)
    (fun P s X => ?_) (fun Γ' Δ' Mx' P s hJ X => ?_)
  · cases hb : ((w.length : Int) != 0) with
    | false =>
      have h0 : w.length = 0 := by simpa using hb
      rw [if_pos h0] at hres2
      refine s_nil (.inl ⟨rfl, _, _, _, P, ⟨ws, got.length, ⟨rfl, rfl, rfl⟩, hres2.symm, h64, hlen⟩, X.forget (by trivial)⟩)
    | true =>
      have h0 : w.length ≠ 0 := by simpa using hb
      rw [if_neg h0] at hres2
      refine s_if X (ts_bool (ev_smeth nv (evs_cons nv evs_nil) F.slot_str_endswith F.type_str_endswith cl_endswith)) fun P s X => ?_
      cases hs : Txt.endswith got w with
      | false =>
        rw [hs, if_neg Bool.false_ne_true] at hres2
        refine s_ret X ev_bool fun v P s X i => .inr ⟨nofun, P, _, _, _, X, ?_⟩
        subst hres2; exact i
      | true =>
        rw [hs, if_pos rfl] at hres2
        refine s_aug X (by trivial) (ev_callB (nmB hW) (evs_cons nv evs_nil) (cl_len_str hwl')) op_isub_int (.inl rfl) fun P s X => ?_
        have hlm : (ws.map D.str).length = ws.length := List.length_map ..
        refine s_del X (ev_un ev_int op_neg) (j := ws.length - 1) (by rw [hlm, seqIndex_neg (by decide) (by omega)]; exact congrArg some (az_m1 _)) (by decide) (by rw [hlm]; exact Nat.le_trans h64 (by decide)) fun P s X => ?_
        refine s_nil (s_nil (.inl ⟨rfl, _, _, _, P, ⟨ws.dropLast, (got.length : Int) - w.length, ⟨rfl, ?_, rfl⟩, hres2.symm, by simp; omega, fun w hm => hlen w (List.dropLast_subset _ hm)⟩, X.forget (by trivial)⟩))
        rw [erase_last]; rfl
  clear hres2 hlen h64
  obtain ⟨ws, e, ⟨rfl, rfl, rfl⟩, rfl, h64, hlen⟩ := hJ
  refine s_if X (ts_cmp nv nv op_gt_int) fun P s X => ?_
  cases hgt : decide (e < sp) with
  | true =>
    have : sp > e := by simpa using hgt
    refine s_ret X ev_bool fun v P s X i => ⟨P, _, _, _, X, ?_⟩
    rw [if_pos this]; exact i
  | false =>
  have : ¬ sp > e := by simpa using hgt
  refine s_nil ?_
  rw [if_neg this]
  obtain ⟨P, X⟩ := X.freeze
  replace X := X.forget (Γ' := [("ws", .list (ws.map .str)), ("startpos", .int sp), ("endpos", .int e), ("got", .str got)]) (by trivial)
  generalize hres : ellLoop got e ws sp = res
  refine s_for X (evi_listP nv) (.inl rfl) (fun i Γ' Δ' Mx' => ∃ sp, Eq3 Γ' Δ' Mx' [("ws", .list (ws.map .str)), ("startpos", .int sp), ("endpos", .int e), ("got", .str got)] [] [] ∧ res = ellLoop got e (ws.drop i) sp) (fun _ _ _ => False) ?_ ?_ ?_ ?_
  · exact ⟨sp, ⟨rfl, rfl, rfl⟩, hres.symm⟩
  · rintro i Γ' Δ' Mx' ⟨sp, ⟨rfl, rfl, rfl⟩, _⟩
    exact ⟨by trivial, by trivial⟩
  · rintro i d H' Γ' Δ' Mx' P' s' E' hd ⟨sp, ⟨rfl, rfl, rfl⟩, hr⟩ X back
    obtain ⟨w, hw, rfl⟩ : ∃ w, ws[i]? = some w ∧ d = .str w := by
      rw [List.getElem?_map] at hd
      obtain ⟨w, hw, e⟩ := Option.map_eq_some_iff.mp hd
      exact ⟨w, hw, e.symm⟩
    have hwl : w.length < 2 ^ 62 := Nat.lt_of_le_of_lt (hlen w (List.mem_of_getElem? hw)) (by decide)
    rw [drop_cons hw, ellLoop] at hr
    refine s_set X (ev_smeth nv (evs_cons nv (evs_cons nv (evs_cons nv evs_nil))) F.slot_str_find F.type_str_find cl_find4) (.inl rfl) fun P s X => ?_
    refine s_if X (ts_cmp nv ev_int op_lt_int) fun P s X => ?_
    cases hlt : decide (find4 got w sp e < 0) with
    | true =>
      rw [if_pos (of_decide_eq_true hlt)] at hr
      refine s_ret X ev_bool fun v P s X i => ⟨P, _, _, _, back _ _ _ _ _ X, ?_⟩
      subst hr; exact i
    | false =>
      rw [if_neg (of_decide_eq_false hlt)] at hr
      refine s_nil (s_aug X (by trivial) (ev_callB (nmB hW) (evs_cons nv evs_nil) (cl_len_str hwl)) op_iadd_int (.inl rfl) fun P s X => s_nil ?_)
      exact ⟨_, _, _, P, ⟨_, ⟨rfl, rfl, rfl⟩, hr⟩, X.forget (by trivial)⟩
  · rintro Γ' Δ' Mx' P' s' (⟨sp, ⟨rfl, rfl, rfl⟩, hr⟩ | h) X
    · refine s_ret X ev_bool fun v P s X i => ⟨P, _, _, _, X, ?_⟩
      rw [List.length_map, List.drop_length, ellLoop] at hr
      subst hr; exact i
    · exact h.elim
end
section
/-! Whitespace -/
structure Wst where
  count : List Int
  b : Nat
  n : Nat
  nt : Nat
noncomputable def wsGrow (l : List Int) (b : Nat) : List Int := if l.length ≤ b then l ++ List.replicate (b - l.length + 1) 0 else l
noncomputable def wsT (st : Wst) : Wst := { count := (wsGrow st.count st.b).set st.b ((wsGrow st.count st.b).getD st.b 0 + 1), b := 0, n := st.n + 1, nt := st.nt + 1 }
theorem wsGrow_len (l : List Int) (b : Nat) : b < (wsGrow l b).length ∧ (wsGrow l b).length ≤ max l.length (b + 1) := by
  unfold wsGrow
  split
  · rename_i h
    have e : (l ++ List.replicate (b - l.length + 1) (0 : Int)).length = b + 1 := by rw [List.length_append, List.length_replicate, ← Nat.add_assoc, Nat.add_sub_of_le h]
    rw [e]
    exact ⟨Nat.lt_succ_self b, Nat.le_max_right _ _⟩
  · rename_i h
    exact ⟨Nat.lt_of_not_le h, Nat.le_max_left _ _⟩
noncomputable def wsLoop : List Nat → Wst → Wst
  | [], st => st
  | c :: r, st => if (⟨#[c]⟩ : Str) == " " then wsLoop r { st with n := st.n + 1, b := st.b + 1 } else if (⟨#[c]⟩ : Str) == "\t" then wsLoop r (wsT st) else st
noncomputable def wsOf (x : Str) : Wst := wsLoop x.cps.toList ⟨[], 0, 0, 0⟩
noncomputable def wsFields (x : Str) (st : Wst) : List (Str × D) := [("raw", .str x), ("n", .int st.n), ("nt", .int st.nt), ("norm", .tup [.tup (st.count.map .int), .int st.b]), ("is_simple", .bool (decide ((st.count.length : Int) ≤ 1)))]
noncomputable def wsBnd (st : Wst) (i : Nat) : Prop := st.count.length ≤ i ∧ st.b ≤ i
theorem ints_set {l : List Int} {i : Nat} {a : Int} : (l.map D.int).set i (.int a) = (l.set i a).map D.int := by rw [List.map_set]
theorem chars_get {x : Str} {i : Nat} {d : D} (h : (chars x)[i]? = some d) : ∃ c, x.cps.toList[i]? = some c ∧ d = .str ⟨#[c]⟩ := by
  unfold chars at h
  rw [List.getElem?_map] at h
  obtain ⟨c, hc, e⟩ := Option.map_eq_some_iff.mp h
  exact ⟨c, hc, e.symm⟩
theorem drop_consN {l : List Nat} {i : Nat} {a : Nat} (h : l[i]? = some a) : l.drop i = a :: l.drop (i + 1) := by
  obtain ⟨hi, e⟩ := List.getElem?_eq_some_iff.mp h
  rw [List.drop_eq_getElem_cons hi, e]
theorem at_nat {ds : List D} {n : Nat} {d : D} (h : ds[n]? = some d) : at? ds (n : Int) = some d := by
  unfold at?
  rw [if_pos (Int.natCast_nonneg n)]
  simpa using h
variable {W : Wd} {Pm : Params} (hW : W.K = hd01.heap_1 Pm)
include hW
theorem kl115 {k : Nat} {x : Str} {o dx : Addr} (hx : x.cps.size ≤ 16000) : KlM W (k + 1) (.ref 115) [.inst o 160 dx, .str x] .none [(dx, .dict [])] [(dx, .dict (wsFields x (wsOf x)))] := by
  refine klm_fn (names := ["self", "ws"]) (fun P b => ⟨⟨_, b.k _ _ (by rw [hW]; rfl), rfl⟩, by rw [hW]; rfl, rfl, fun vs h => ?_, rfl, ?_, by decide, by decide, rfl, rfl, rfl, rfl, rfl⟩) rfl rfl ?_
  · obtain ⟨v, u, rfl⟩ := len2 h; rfl
  · decide
  intro A L s₀ P₀ P s _ X
  replace X : At W k A _ s₀ P₀ _ [("self", .inst o 160 dx), ("ws", .str x)] [] [(dx, .dict [])] P s := X
  refine s_setattr X nv nv (setK hW) fun P s X => ?_
  refine s_pair' X (ev_tuple (evs_cons (at_attrC hW (nmG hW)) (evs_cons (at_attrC hW (nmG hW)) evs_nil))) (.inl rfl) (.inl rfl) fun P s X => ?_
  refine s_setN X (evn_list evs_nil) (.inl rfl) fun P s X => ?_
  refine s_three X ev_int (.inl rfl) (.inl rfl) (.inl rfl) fun P s X => ?_
  replace X := X.forget (Γ' := [("n", .int 0), ("nt", .int 0), ("b", .int 0), ("S", .str " "), ("T", .str "\t"), ("self", .inst o 160 dx)]) (by trivial)
  replace X : At W k A _ s₀ P₀ _ _ [("count", (([] : List Int)).map .int)] [(dx, .dict [("raw", .str x)])] P s := X
  refine s_for X (evi_str (ev_attrI nv (by trivial) (getK hW) rfl)) (.inl rfl)
    (fun i Γ' Δ' Mx' => ∃ (st : Wst) (n nt b : Int), (n = st.n ∧ nt = st.nt ∧ b = st.b) ∧ Eq3 Γ' Δ' Mx' [("n", .int n), ("nt", .int nt), ("b", .int b), ("S", .str " "), ("T", .str "\t"), ("self", .inst o 160 dx)] [("count", st.count.map .int)] [(dx, .dict [("raw", .str x)])] ∧ wsOf x = wsLoop (x.cps.toList.drop i) st ∧ wsBnd st i)
    (fun Γ' Δ' Mx' => Eq3 Γ' Δ' Mx' [("n", .int (wsOf x).n), ("nt", .int (wsOf x).nt), ("b", .int (wsOf x).b), ("S", .str " "), ("T", .str "\t"), ("self", .inst o 160 dx)] [("count", (wsOf x).count.map .int)] [(dx, .dict [("raw", .str x)])] ∧ (wsOf x).count.length ≤ x.cps.size) ?_ ?_ ?_ ?_
  · exact ⟨⟨[], 0, 0, 0⟩, 0, 0, 0, ⟨rfl, rfl, rfl⟩, ⟨rfl, rfl, rfl⟩, rfl, Nat.le_refl _, Nat.le_refl _⟩
  · rintro i Γ' Δ' Mx' ⟨st, n, nt, b, _, ⟨rfl, rfl, rfl⟩, _⟩
    exact ⟨by trivial, by trivial⟩
  · rintro i d H' Γ' Δ' Mx' P' s' E' hd ⟨st, _, _, _, ⟨rfl, rfl, rfl⟩, ⟨rfl, rfl, rfl⟩, hst, hb⟩ X back
    obtain ⟨c, hc, rfl⟩ := chars_get hd
    rw [drop_consN hc, wsLoop] at hst
    refine s_if X (ts_cmp nv nv op_eq_str) fun P s X => ?_
    cases h1 : ((⟨#[c]⟩ : Str) == " ") with
    | true =>
      rw [h1, if_pos rfl] at hst
      refine s_set X (ev_bin nv ev_int op_add_int) (.inl rfl) fun P s X => ?_
      refine s_set X (ev_bin nv ev_int op_add_int) (.inl rfl) fun P s X => ?_
      refine s_nil (s_nil ⟨_, _, _, P, ⟨{ st with n := st.n + 1, b := st.b + 1 }, st.n + 1, st.nt, st.b + 1, ⟨rfl, rfl, rfl⟩, ⟨rfl, rfl, rfl⟩, hst, ?_, ?_⟩, X.forget (Γ' := [("n", .int (st.n + 1)), ("nt", .int st.nt), ("b", .int (st.b + 1)), ("S", .str " "), ("T", .str "\t"), ("self", .inst o 160 dx)]) (by trivial)⟩)
      · exact Nat.le_succ_of_le hb.1
      · exact Nat.succ_le_succ hb.2
    | false =>
      rw [h1, if_neg Bool.false_ne_true] at hst
      refine s_if X (ts_cmp nv nv op_eq_str) fun P s X => ?_
      cases h2 : ((⟨#[c]⟩ : Str) == "\t") with
      | true =>
        rw [h2, if_pos rfl] at hst
        have hi : i < x.cps.size := by
          have := (List.getElem?_eq_some_iff.mp hc).1
          simpa using this
        have hcl : st.count.length ≤ 16000 := Nat.le_trans hb.1 (Nat.le_trans (Nat.le_of_lt hi) hx)
        have hbl : st.b ≤ 16000 := Nat.le_trans hb.2 (Nat.le_trans (Nat.le_of_lt hi) hx)
        have hml : (st.count.map D.int).length = st.count.length := List.length_map ..
        refine s_set X (ev_bin nv ev_int op_add_int) (.inl rfl) fun P s X => ?_
        refine s_set X (ev_bin nv ev_int op_add_int) (.inl rfl) fun P s X => ?_
        replace X := X.forget (Γ' := [("n", .int (st.n + 1)), ("nt", .int (st.nt + 1)), ("b", .int st.b), ("S", .str " "), ("T", .str "\t"), ("self", .inst o 160 dx)]) (by trivial)
        replace X : At W k A _ s₀ _ _ _ [("count", st.count.map .int)] [(dx, .dict [("raw", .str x)])] P s := X
        refine s_ifJ X (ts_cmp nv (ev_callBL (nmB hW) nm (cl_len_list (by rw [hml]; omega))) op_ge_int)
          (fun Γ' Δ' Mx' => Eq3 Γ' Δ' Mx' [("n", .int (st.n + 1)), ("nt", .int (st.nt + 1)), ("b", .int st.b), ("S", .str " "), ("T", .str "\t"), ("self", .inst o 160 dx)] [("count", (wsGrow st.count st.b).map .int)] [(dx, .dict [("raw", .str x)])])
          (fun P s X => ?_) (fun Γ' Δ' Mx' P s hJ X => ?_)
        · rw [hml]
          cases h3 : decide ((st.count.length : Int) ≤ st.b) with
          | true =>
            have h3' : st.count.length ≤ st.b := by simpa using h3
            refine s_setN X (evn_add nm (EvN.l (evn_mul1 (EvN.l (evn_list (evs_cons ev_int evs_nil))) (ev_bin (ev_bin nv (ev_callBL (nmB hW) nm (cl_len_list (by rw [hml]; omega))) op_sub_int) ev_int op_add_int) (by rw [hml]; omega) (by rw [hml]; omega))) (by rw [hml, List.length_replicate, PySem.sizeLine_eq]; omega)) (.inl rfl) fun P s X => ?_
            refine s_nil (.inl ⟨rfl, _, _, _, P, ⟨rfl, ?_, rfl⟩, X.forget (by trivial)⟩)
            show [(Str.ofString "count", _)] = _
            unfold wsGrow
            rw [if_pos h3', List.map_append, List.map_replicate, hml, az_sub1 h3']
          | false =>
            have h3' : ¬ st.count.length ≤ st.b := by simpa using h3
            refine s_nil (.inl ⟨rfl, _, _, _, P, ⟨rfl, ?_, rfl⟩, X⟩)
            unfold wsGrow
            rw [if_neg h3']
        obtain ⟨rfl, rfl, rfl⟩ := hJ
        have hg := wsGrow_len st.count st.b
        have hgl : ((wsGrow st.count st.b).map D.int).length = (wsGrow st.count st.b).length := List.length_map ..
        refine s_setitem X (ev_bin (ev_item_list nm nv (at_nat (d := .int ((wsGrow st.count st.b).getD st.b 0)) ?_) (by omega)) ev_int op_add_int) nv (Int.natCast_nonneg _) (by rw [hgl]; omega) (by omega) fun P s X => ?_
        · rw [List.getElem?_map, List.getElem?_eq_getElem hg.1, List.getD_eq_getElem?_getD, List.getElem?_eq_getElem hg.1]; rfl
        refine s_set X ev_int (.inl rfl) fun P s X => s_nil (s_nil (s_nil ?_))
        refine ⟨_, _, _, P, ⟨wsT st, st.n + 1, st.nt + 1, 0, ⟨rfl, rfl, rfl⟩, ⟨rfl, ?_, rfl⟩, hst, ?_, Nat.zero_le _⟩, X.forget (Γ' := [("n", .int (st.n + 1)), ("nt", .int (st.nt + 1)), ("b", .int 0), ("S", .str " "), ("T", .str "\t"), ("self", .inst o 160 dx)]) (by trivial)⟩
        · show [(Str.ofString "count", _)] = _
          rw [ints_set, show ((st.b : Nat) : Int).toNat = st.b from rfl]; rfl
        · show ((wsGrow st.count st.b).set _ _).length ≤ _
          rw [List.length_set]
          exact Nat.le_trans hg.2 (Nat.max_le.mpr ⟨Nat.le_succ_of_le hb.1, Nat.succ_le_succ hb.2⟩)
      | false =>
        rw [h2, if_neg Bool.false_ne_true] at hst
        refine s_break ⟨_, _, _, P, ⟨⟨?_, ?_, rfl⟩, ?_⟩, X.forget (Γ' := [("n", .int st.n), ("nt", .int st.nt), ("b", .int st.b), ("S", .str " "), ("T", .str "\t"), ("self", .inst o 160 dx)]) (by trivial)⟩
        · rw [hst]
        · rw [hst]
        · rw [hst]
          refine Nat.le_trans hb.1 ?_
          have := (List.getElem?_eq_some_iff.mp hc).1
          exact Nat.le_of_lt (by simpa using this)
  · intro Γ' Δ' Mx' P' s' hJ X
    obtain ⟨⟨rfl, rfl, rfl⟩, hl⟩ : Eq3 Γ' Δ' Mx' [("n", .int (wsOf x).n), ("nt", .int (wsOf x).nt), ("b", .int (wsOf x).b), ("S", .str " "), ("T", .str "\t"), ("self", .inst o 160 dx)] [("count", (wsOf x).count.map .int)] [(dx, .dict [("raw", .str x)])] ∧ (wsOf x).count.length ≤ x.cps.size := by
      rcases hJ with ⟨st, _, _, _, ⟨rfl, rfl, rfl⟩, ⟨rfl, rfl, rfl⟩, hst, hb⟩ | h
      · rw [show (chars x).length = x.cps.toList.length by simp [chars], List.drop_length, wsLoop] at hst
        rw [hst]
        refine ⟨⟨rfl, rfl, rfl⟩, ?_⟩
        have := hb.1
        simpa [chars] using this
      · exact h
    have hml : ((wsOf x).count.map D.int).length = (wsOf x).count.length := List.length_map ..
    refine s_setattr X nv nv (setK hW) fun P s X => ?_
    refine s_setattr X nv nv (setK hW) fun P s X => ?_
    refine s_setattr X (ev_tuple (evs_cons (ev_tupleOf (nmB hW) nm (by rw [hml, PySem.sizeLine_eq]; omega)) (evs_cons nv evs_nil))) nv (setK hW) fun P s X => ?_
    refine s_setattr X (ev_cmp (ev_callBL (nmB hW) nm (cl_len_list (by rw [hml]; omega))) ev_int op_le_int) nv (setK hW) fun P s X => s_nil ?_
    rw [hml] at X
    exact ⟨P, _, _, [], X, .none⟩
theorem cl160 {k : Nat} {x : Str} (hx : x.cps.size ≤ 16000) : Cl W (k + 2) (.ref 160) [.str x] (.obj 160 (wsFields x (wsOf x))) :=
  cl_make (by rw [hW]; rfl) (by rw [hW]; rfl) (by rw [hW]; rfl) fun o dx => kl115 hW hx
end
section
noncomputable def wsOk (st : Wst) : Bool := decide (st.count.length ≤ 64) && decide (st.b ≤ 64) && st.count.all fun c => decide (0 ≤ c) && decide (c ≤ 64)
noncomputable def lrs (st : Wst) : Int := if (st.b : Int) > (st.count.length : Int) - 1 then st.b else (st.count.length : Int) - 1
noncomputable def indIl (count : List Int) (ts : Nat) : Nat → Int
  | 0 => 0
  | j + 1 => indIl count ts j + Int.fdiv ((ts + j : Nat) : Int) (ts : Nat) * count.getD (ts + j) 0
noncomputable def ind (st : Wst) (ts : Nat) : Int := st.b + ts * (indIl st.count ts (st.count.length - ts) + st.nt)
noncomputable def lessLoop (a b : Wst) : Nat → Nat → Bool
  | 0, _ => true
  | j + 1, ts => if ind b ts ≤ ind a ts then false else lessLoop a b j (ts + 1)
noncomputable def wsMax (a b : Wst) : Int := if lrs b > lrs a then lrs b else lrs a
noncomputable def wsLess (a b : Wst) : Bool :=
  if b.n ≤ a.n then false
  else if decide (a.count.length ≤ 1) && decide (b.count.length ≤ 1) then decide (a.nt ≤ b.nt)
  else lessLoop a b (wsMax a b).toNat 2
variable {W : Wd} {Pm : Params} (hW : W.K = hd01.heap_1 Pm)
include hW
theorem cl122 {k : Nat} {x : Str} {st : Wst} (hok : wsOk st = true) : Cl W (k + 1) (.ref 122) [.obj 160 (wsFields x st)] (.int (lrs st)) := by
  refine cl_fn (names := ["self"]) (fun P b => ⟨⟨_, b.k _ _ (by rw [hW]; rfl), rfl⟩, by rw [hW]; rfl, rfl, fun vs h => ?_, rfl, ?_, by decide, by decide, rfl, rfl, rfl, rfl, rfl⟩) rfl ?_
  · obtain ⟨v, rfl⟩ := len1 h; rfl
  · decide
  intro A L s₀ P₀ H P s X
  replace X : At W k A _ s₀ P₀ H [("self", .obj 160 (wsFields x st))] [] [] P s := X
  simp only [wsOk, Bool.and_eq_true, decide_eq_true_eq] at hok
  obtain ⟨⟨h1, h2⟩, h3⟩ := hok
  have hml : (st.count.map D.int).length = st.count.length := List.length_map ..
  refine s_pair X (ev_attrO nv (getK hW) (by rfl)) (.inl rfl) (.inl rfl) fun P s X => ?_
  refine s_ret X (ev_callB (nmB hW) (evs_cons (ev_bin (ev_callB (nmB hW) (evs_cons nv evs_nil) (cl_len_tup (by rw [hml]; omega))) ev_int op_sub_int) (evs_cons nv evs_nil)) cl_max_two) fun v P s X i => ⟨P, _, _, _, X, ?_⟩
  rw [hml] at i
  exact i
theorem cl129 {k : Nat} {x : Str} {st : Wst} {ts : Nat} (hok : wsOk st = true) (ht0 : 1 ≤ ts) (ht : ts ≤ 1000) : Cl W (k + 1) (.ref 129) [.obj 160 (wsFields x st), .int ts] (.int (ind st ts)) := by
  refine cl_fn (names := ["self", "tabsize"]) (fun P b => ⟨⟨_, b.k _ _ (by rw [hW]; rfl), rfl⟩, by rw [hW]; rfl, rfl, fun vs h => ?_, rfl, ?_, by decide, by decide, rfl, rfl, rfl, rfl, rfl⟩) rfl ?_
  · obtain ⟨v, u, rfl⟩ := len2 h; rfl
  · decide
  intro A L s₀ P₀ H P s X
  replace X : At W k A _ s₀ P₀ H [("self", .obj 160 (wsFields x st)), ("tabsize", .int ts)] [] [] P s := X
  simp only [wsOk, Bool.and_eq_true, decide_eq_true_eq] at hok
  obtain ⟨⟨h1, h2⟩, h3⟩ := hok
  have hml : (st.count.map D.int).length = st.count.length := List.length_map ..
  refine s_pair X (ev_attrO nv (getK hW) (by rfl)) (.inl rfl) (.inl rfl) fun P s X => ?_
  refine s_set X ev_int (.inl rfl) fun P s X => ?_
  replace X := X.forget (Γ' := [("il", .int 0), ("count", .tup (st.count.map .int)), ("trailing", .int st.b), ("self", .obj 160 (wsFields x st)), ("tabsize", .int ts)]) (by trivial)
  refine s_for X (evi_range2 (n := st.count.length - ts) (nmB hW) nv (ev_callB (nmB hW) (evs_cons nv evs_nil) (cl_len_tup (by rw [hml]; omega))) (by omega) (by rw [hml]; omega) (by rw [hml]; exact az_sub _ _)) (.inl rfl)
    (fun i Γ' Δ' Mx' => ∃ il : Int, il = indIl st.count ts i ∧ Eq3 Γ' Δ' Mx' [("il", .int il), ("count", .tup (st.count.map .int)), ("trailing", .int st.b), ("self", .obj 160 (wsFields x st)), ("tabsize", .int ts)] [] []) (fun _ _ _ => False) ?_ ?_ ?_ ?_
  · exact ⟨0, rfl, rfl, rfl, rfl⟩
  · rintro i Γ' Δ' Mx' ⟨il, _, rfl, rfl, rfl⟩
    exact ⟨by trivial, by trivial⟩
  · rintro i d H' Γ' Δ' Mx' P' s' E' hd ⟨il, hil, rfl, rfl, rfl⟩ X back
    obtain ⟨hi, rfl⟩ := rngs_get hd
    have hlt : ts + i < st.count.length := by omega
    have hc := List.all_eq_true.mp h3 _ (List.getElem_mem hlt)
    simp only [Bool.and_eq_true, decide_eq_true_eq] at hc
    have hg : st.count.getD (ts + i) 0 = st.count[ts + i] := by simp [List.getD_eq_getElem?_getD, List.getElem?_eq_getElem hlt]
    refine s_set X (ev_bin nv (ev_bin (ev_bin nv nv (op_div_int (by omega) (by omega))) (ev_item_tup (d := .int (st.count.getD (ts + i) 0)) (j := ts + i) nv nv (by rw [hml, seqIndex_nn (by omega) (by omega)]; congr 1) (by rw [List.getElem?_map, List.getElem?_eq_getElem hlt, hg]; rfl) (by omega)) (op_mul_int (IntMulOk.of_right (intBits_le_64 (by rw [hg]; omega) (by rw [hg]; omega))))) op_add_int) (.inl rfl) fun P s X => s_nil ?_
    exact ⟨_, _, _, P, ⟨il + Int.fdiv (ts + i) ts * st.count.getD (ts + i) 0, by rw [indIl, ← hil]; push_cast; rfl, rfl, rfl, rfl⟩, X.forget (by trivial)⟩
  · rintro Γ' Δ' Mx' P' s' (⟨il, hil, rfl, rfl, rfl⟩ | h) X
    · rw [rngs_len] at hil
      subst hil
      refine s_ret X (ev_bin nv (ev_bin nv (ev_bin nv (ev_attrO nv (getK hW) (by rfl)) op_add_int) (op_mul_int (IntMulOk.of_left (intBits_le_64 (by omega) (by omega))))) op_add_int) fun v P s X i => ⟨P, _, _, _, X, ?_⟩
      exact i
    · exact h.elim
theorem cl150 {k : Nat} {x y : Str} {a b : Wst} (ha : wsOk a = true) (hb : wsOk b = true) : Cl W (k + 2) (.ref 150) [.obj 160 (wsFields x a), .obj 160 (wsFields y b)] (.bool (wsLess a b)) := by
  refine cl_fn (names := ["self", "other"]) (fun P b => ⟨⟨_, b.k _ _ (by rw [hW]; rfl), rfl⟩, by rw [hW]; rfl, rfl, fun vs h => ?_, rfl, ?_, by decide, by decide, rfl, rfl, rfl, rfl, rfl⟩) rfl ?_
  · obtain ⟨v, u, rfl⟩ := len2 h; rfl
  · decide
  intro A L s₀ P₀ H P s X
  replace X : At W (k + 1) A _ s₀ P₀ H [("self", .obj 160 (wsFields x a)), ("other", .obj 160 (wsFields y b))] [] [] P s := X
  generalize hres : wsLess a b = res
  unfold wsLess at hres
  refine s_if X (ts_cmp (ev_attrO nv (getK hW) (by rfl)) (ev_attrO nv (getK hW) (by rfl)) op_ge_int) fun P s X => ?_
  cases h1 : decide ((b.n : Int) ≤ a.n) with
  | true =>
    have h1' : b.n ≤ a.n := by simpa using h1
    rw [if_pos h1'] at hres
    refine s_ret X ev_bool fun v P s X i => ⟨P, _, _, _, X, ?_⟩
    subst hres; exact i
  | false =>
  have h1' : ¬ b.n ≤ a.n := by simpa using h1
  rw [if_neg h1'] at hres
  refine s_nil ?_
  refine s_if X (ts_and2 (ts_bool (ev_attrO nv (getK hW) (by rfl))) fun _ => ts_bool (ev_attrO nv (getK hW) (by rfl))) fun P s X => ?_
  rw [show decide ((a.count.length : Int) ≤ 1) = decide (a.count.length ≤ 1) from az_dle, show decide ((b.count.length : Int) ≤ 1) = decide (b.count.length ≤ 1) from az_dle]
  cases h2 : (decide (a.count.length ≤ 1) && decide (b.count.length ≤ 1)) with
  | true =>
    rw [h2, if_pos rfl] at hres
    refine s_ret X (ev_cmp (ev_attrO nv (getK hW) (by rfl)) (ev_attrO nv (getK hW) (by rfl)) op_le_int) fun v P s X i => ⟨P, _, _, _, X, ?_⟩
    subst hres
    rw [show decide ((a.nt : Int) ≤ b.nt) = decide (a.nt ≤ b.nt) from az_dle] at i
    exact i
  | false =>
  rw [h2, if_neg Bool.false_ne_true] at hres
  refine s_nil ?_
  have ha' := ha
  have hb' := hb
  simp only [wsOk, Bool.and_eq_true, decide_eq_true_eq] at ha' hb'
  refine s_set X (ev_bin (ev_callB (nmB hW) (evs_cons (ev_methO (d := .int (lrs a)) nv (methK hW) (fnK hW) (by rfl) evs_nil (cl122 (W := W.at []) hW ha)) (evs_cons (ev_methO (d := .int (lrs b)) nv (methK hW) (fnK hW) (by rfl) evs_nil (cl122 (W := W.at []) hW hb)) evs_nil)) cl_max_two) ev_int op_add_int) (.inl rfl) fun P s X => ?_
  have hm : -1 ≤ wsMax a b ∧ wsMax a b ≤ 64 := by
    unfold wsMax lrs
    constructor <;> (repeat' split) <;> omega
  change At W (k + 1) A _ s₀ P₀ H ((_, D.int (wsMax a b + 1)) :: _) _ _ P s at X
  replace X := X.forget (Γ' := [("n", .int (wsMax a b + 1)), ("self", .obj 160 (wsFields x a)), ("other", .obj 160 (wsFields y b))]) (by trivial)
  refine s_for X (evi_range2 (n := (wsMax a b).toNat) (nmB hW) ev_int (ev_bin nv ev_int op_add_int) (by decide) (by omega) (az_w _)) (.inl rfl)
    (fun i Γ' Δ' Mx' => Eq3 Γ' Δ' Mx' [("n", .int (wsMax a b + 1)), ("self", .obj 160 (wsFields x a)), ("other", .obj 160 (wsFields y b))] [] [] ∧ i ≤ 64 ∧ res = lessLoop a b ((wsMax a b).toNat - i) (2 + i)) (fun _ _ _ => False) ?_ ?_ ?_ ?_
  · exact ⟨⟨rfl, rfl, rfl⟩, Nat.zero_le _, by rw [hres.symm]; rfl⟩
  · rintro i Γ' Δ' Mx' ⟨⟨rfl, rfl, rfl⟩, _⟩
    exact ⟨by trivial, by trivial⟩
  · rintro i d H' Γ' Δ' Mx' P' s' E' hd ⟨⟨rfl, rfl, rfl⟩, hi64, hr⟩ X back
    obtain ⟨hi, rfl⟩ := rngs_get hd
    rw [show (2 : Int) + (i : Int) = ((2 + i : Nat) : Int) from rfl] at X
    rw [show (wsMax a b).toNat - i = ((wsMax a b).toNat - (i + 1)) + 1 from (Nat.sub_one_add_one (Nat.sub_ne_zero_of_lt hi)).symm, lessLoop] at hr
    refine s_if X (ts_cmp (ev_methO (d := .int (ind a (2 + i))) nv (methK hW) (fnK hW) (by rfl) (evs_cons nv evs_nil) (cl129 (W := W.at []) (ts := 2 + i) hW ha (by omega) (by omega))) (ev_methO (d := .int (ind b (2 + i))) nv (methK hW) (fnK hW) (by rfl) (evs_cons nv evs_nil) (cl129 (W := W.at []) (ts := 2 + i) hW hb (by omega) (by omega))) op_ge_int) fun P s X => ?_
    cases h3 : decide (ind b (2 + i) ≤ ind a (2 + i)) with
    | true =>
      rw [if_pos (of_decide_eq_true h3)] at hr
      refine s_ret X ev_bool fun v P s X i => ⟨P, _, _, _, back _ _ _ _ _ X, ?_⟩
      subst hr; exact i
    | false =>
      rw [if_neg (of_decide_eq_false h3)] at hr
      refine s_nil (s_nil ⟨_, _, _, P, ⟨⟨rfl, rfl, rfl⟩, by omega, hr⟩, X.forget (by trivial)⟩)
  · rintro Γ' Δ' Mx' P' s' (⟨⟨rfl, rfl, rfl⟩, _, hr⟩ | h) X
    · refine s_ret X ev_bool fun v P s X i => ⟨P, _, _, _, X, ?_⟩
      rw [rngs_len, Nat.sub_self, lessLoop] at hr
      subst hr; exact i
    · exact h.elim
end
section
/-! _law_determinant -/
noncomputable def small (i : Int) : Bool := decide (i.natAbs < 1073741824)
noncomputable def dg (rows : List (List Int)) (i j : Nat) : Int := (rows.getD i []).getD j 0
noncomputable def rowsOk (rows : List (List Int)) : Bool := decide (rows.length = 5) && rows.all fun r => decide (r.length = 5) && r.all small
noncomputable def dRow (rows : List (List Int)) (down k : Nat) (last : Int) : List Int := (List.range 5).map fun c => Int.fdiv (dg rows down c * dg rows k k - dg rows down k * dg rows k c) last
noncomputable def dElim (k : Nat) (last : Int) : Nat → List (List Int) → Option (List (List Int))
  | 0, rows => some rows
  | j + 1, rows => if rowsOk (rows.set (4 - j) (dRow rows (4 - j) k last)) then dElim k last j (rows.set (4 - j) (dRow rows (4 - j) k last)) else none
noncomputable def dSpots (rows : List (List Int)) (k : Nat) : List Nat := (List.range' k (5 - k)).filter fun s => dg rows s k != 0
noncomputable def dSwap (rows : List (List Int)) (k s : Nat) : List (List Int) := if s = k then rows else (rows.set k (rows.getD s [])).set s (rows.getD k [])
noncomputable def dGo : Nat → List (List Int) → Int → Int → Option Int
  | 0, rows, sign, _ => some (sign * dg rows 4 4)
  | n + 1, rows, sign, last => match dSpots rows (3 - n) with
    | [] => some 0
    | s :: _ => match dElim (3 - n) last (n + 1) (dSwap rows (3 - n) s) with
      | none => none
      | some rows2 => if dg rows2 (3 - n) (3 - n) != 0 then dGo n rows2 (if s = 3 - n then sign else -sign) (dg rows2 (3 - n) (3 - n)) else none
noncomputable def dRows (rows : List (List Int)) : List D := rows.map fun r => .list (r.map .int)
theorem rowsOk_get {rows : List (List Int)} (h : rowsOk rows = true) {i : Nat} (hi : i < 5) : rows[i]? = some (rows.getD i []) ∧ (rows.getD i []).length = 5 ∧ ∀ j, j < 5 → (rows.getD i [])[j]? = some (dg rows i j) ∧ (dg rows i j).natAbs < 1073741824 := by
  unfold rowsOk at h
  rw [Bool.and_eq_true, decide_eq_true_eq] at h
  have hl : i < rows.length := by omega
  have e : rows.getD i [] = rows[i] := by simp [List.getD_eq_getElem?_getD, List.getElem?_eq_getElem hl]
  have hr := List.all_eq_true.mp h.2 _ (List.getElem_mem hl)
  rw [Bool.and_eq_true, decide_eq_true_eq] at hr
  refine ⟨by rw [e]; exact List.getElem?_eq_getElem hl, by rw [e]; exact hr.1, fun j hj => ?_⟩
  unfold dg
  rw [e]
  have hj' : j < rows[i].length := by omega
  have e2 : rows[i].getD j 0 = rows[i][j] := by simp [List.getD_eq_getElem?_getD, List.getElem?_eq_getElem hj']
  rw [e2]
  have := List.all_eq_true.mp hr.2 _ (List.getElem_mem hj')
  exact ⟨List.getElem?_eq_getElem hj', by simpa [small] using this⟩
theorem rowsOk_row {rows : List (List Int)} (h : rowsOk rows = true) {i : Nat} (hi : i < 5) : (decide ((rows.getD i []).length = 5) && (rows.getD i []).all small) = true := by
  unfold rowsOk at h
  rw [Bool.and_eq_true, decide_eq_true_eq] at h
  have hl : i < rows.length := by omega
  have e : rows.getD i [] = rows[i] := by simp [List.getD_eq_getElem?_getD, List.getElem?_eq_getElem hl]
  rw [e]
  exact List.all_eq_true.mp h.2 _ (List.getElem_mem hl)
theorem rowsOk_set {rows : List (List Int)} (h : rowsOk rows = true) {i : Nat} {r : List Int} (hr : (decide (r.length = 5) && r.all small) = true) : rowsOk (rows.set i r) = true := by
  unfold rowsOk at h ⊢
  rw [Bool.and_eq_true, decide_eq_true_eq] at h ⊢
  refine ⟨by rw [List.length_set]; exact h.1, List.all_eq_true.mpr fun x hx => ?_⟩
  rcases List.mem_or_eq_of_mem_set hx with hx | rfl
  · exact List.all_eq_true.mp h.2 x hx
  · exact hr
theorem dRows_get {rows : List (List Int)} (h : rowsOk rows = true) {i : Nat} (hi : i < 5) : (dRows rows)[i]? = some (.list ((rows.getD i []).map .int)) := by
  unfold dRows
  rw [List.getElem?_map, (rowsOk_get h hi).1]; rfl
theorem ints_get {l : List Int} {j : Nat} {a : Int} (h : l[j]? = some a) : (l.map D.int)[j]? = some (.int a) := by rw [List.getElem?_map, h]; rfl
theorem dRows_len {rows : List (List Int)} (h : rowsOk rows = true) : (dRows rows).length = 5 := by
  unfold rowsOk at h
  rw [Bool.and_eq_true, decide_eq_true_eq] at h
  unfold dRows
  rw [List.length_map]; exact h.1
theorem mulS {a b : Int} (h : b.natAbs < 1073741824) : IntMulOk a b := IntMulOk.of_right (intBits_le_64 (by omega) (by omega))
theorem dg_small {rows : List (List Int)} (h : rowsOk rows = true) {i j : Nat} (hi : i < 5) (hj : j < 5) : (dg rows i j).natAbs < 1073741824 := ((rowsOk_get h hi).2.2 j hj).2
theorem n62' : ∀ i : Nat, i < 5 → -2 ^ 62 ≤ (i : Int) ∧ (i : Int) < 2 ^ 62 := by decide
theorem n62 {i : Nat} (h : i < 5) : -2 ^ 62 ≤ (i : Int) ∧ (i : Int) < 2 ^ 62 := n62' i h
theorem sw3' : ∀ i : Nat, i < 5 → 0 ≤ (i : Int) ∧ (i : Int) < ((5 : Nat) : Int) ∧ (i : Int) < 2 ^ 63 := by decide
theorem sw3 {i n : Nat} (h : i < 5) (e : n = 5) : 0 ≤ (i : Int) ∧ (i : Int) < (n : Int) ∧ (i : Int) < 2 ^ 63 := e ▸ sw3' i h
theorem ra1' : ∀ i : Nat, i < 4 → (0 ≤ (i : Int) ∧ (i : Int) < 2 ^ 61) ∧ ((5 : Int) - (i : Int)).toNat = 5 - i ∧ 5 - i ≤ 16384 := by decide
theorem ra1 {i : Nat} (h : i < 4) : (0 ≤ (i : Int) ∧ (i : Int) < 2 ^ 61) ∧ ((5 : Int) - (i : Int)).toNat = 5 - i ∧ 5 - i ≤ 16384 := ra1' i h
theorem ra2' : ∀ i : Nat, i < 4 → (0 ≤ (i : Int) + 1 ∧ (i : Int) + 1 < 2 ^ 61) ∧ ((5 : Int) - ((i : Int) + 1)).toNat = 4 - i := by decide
theorem ra2 {i : Nat} (h : i < 4) : (0 ≤ (i : Int) + 1 ∧ (i : Int) + 1 < 2 ^ 61) ∧ ((5 : Int) - ((i : Int) + 1)).toNat = 4 - i := ra2' i h
theorem cast3 (i j : Nat) : (i : Int) + 1 + (j : Int) = ((i + 1 + j : Nat) : Int) := rfl
theorem sub4' : ∀ i : Nat, i < 4 → ∀ j, j < 4 - i → 4 - i - j = (3 - i - j) + 1 ∧ 4 - (3 - i - j) = i + 1 + j ∧ 4 - i - (j + 1) = 3 - i - j ∧ i + 1 + j < 5 := by decide
theorem sub4 {i j : Nat} (hi : i < 4) (hj : j < 4 - i) : 4 - i - j = (3 - i - j) + 1 ∧ 4 - (3 - i - j) = i + 1 + j ∧ 4 - i - (j + 1) = 3 - i - j ∧ i + 1 + j < 5 := sub4' i hi j hj
theorem sub1 : ∀ i : Nat, i < 4 → 4 - i = (3 - i) + 1 ∧ 3 - (3 - i) = i ∧ 4 - i - 0 = 3 - i + 1 ∧ 4 - (i + 1) = 3 - i := by decide
theorem sub2 : ∀ i : Nat, i < 4 → ∀ j, j < 5 - i → i + j < 5 := by decide
section
variable {W : Wd} {k : Nat} {env : Env} {Γ : List (Str × D)} {Δ : List (Str × List D)}
/-- xs[i][j], of rows of ints -/
theorem ev_dg {v1 e1 e2 : Expr} {p pos : Pos} {rows : List (List Int)} {i j : Nat} (h : EvL W k env Γ Δ v1 (dRows rows)) (h1 : Ev W k env Γ Δ e1 (.int i)) (h2 : Ev W k env Γ Δ e2 (.int j)) (hr : rowsOk rows = true) (hi : i < 5) (hj : j < 5)
    (hs : ∀ (a : Addr) (u : Tok), subscripted e1 false (.ref a) (.int i u) = operate [.ref a, .int i u] (getItem (.ref a) (.int i u)) := by intro _ _; with_unfolding_all rfl)
    (hs2 : ∀ (a : Addr) (u : Tok), subscripted e2 false (.ref a) (.int j u) = operate [.ref a, .int j u] (getItem (.ref a) (.int j u)) := by intro _ _; with_unfolding_all rfl) : Ev W k env Γ Δ (.Subscript (.Subscript v1 e1 p) e2 pos) (.int (dg rows i j)) :=
  ev_item_list (Ev.list (ev_item_list h h1 (at_nat (dRows_get hr hi)) (n62 hi) hs)) h2 (at_nat (ints_get ((rowsOk_get hr hi).2.2 j hj).1)) (n62 hj) hs2
end
variable {W : Wd} {Pm : Params} (hW : W.K = hd01.heap_1 Pm)
include hW
theorem cl186 {k : Nat} {t : List (List Int)} {r : Int} (hok : rowsOk t = true) (hr : dGo 4 t 1 1 = some r) : Cl W (k + 1) (.ref 186) [.list (dRows t)] (.int r) := by
  refine cl_fn (names := ["table"]) (fun P b => ⟨⟨_, b.k _ _ (by rw [hW]; rfl), rfl⟩, by rw [hW]; rfl, rfl, fun vs h => ?_, rfl, ?_, by decide, by decide, rfl, rfl, rfl, rfl, rfl⟩) rfl ?_
  · obtain ⟨v, rfl⟩ := len1 h; rfl
  · decide
  intro A L s₀ P₀ H P s X
  replace X : At W k A _ s₀ P₀ H [("table", .list (dRows t))] [] [] P s := X
  have hlen5 : t.length = 5 := by unfold rowsOk at hok; simp at hok; exact hok.1
  refine s_setN X (evn_for [] [] (ds := dRows t) (evi_listP nv) rfl (fun C i d d' h1 h2 => ?_) (hsz := by rw [dRows_len hok]; rfl)) (.inr ⟨rfl, rfl⟩) fun P s X => ?_
  · rw [h1] at h2
    cases h2
    have hi : i < 5 := by have := (List.getElem?_eq_some_iff.mp h1).1; rw [dRows_len hok] at this; exact this
    rw [dRows_get hok hi] at h1
    cases h1
    exact EvN.ev (evn_listOf (nmB hW) (Ev.list nv) (by rw [List.length_map, (rowsOk_get hok hi).2.1]; decide))
  refine s_set X ev_int (.inl rfl) fun P s X => ?_
  refine s_set X ev_int (.inr ⟨rfl, rfl⟩) fun P s X => ?_
  replace X := X.forget (Γ' := [("sign", .int 1), ("last", .int 1)]) (by trivial)
  replace X : At W k A _ s₀ P₀ H _ [("rows", dRows t)] [] P s := X
  refine s_for X (evi_range1 (n := 4) (nmB hW) ev_int (by decide)) (.inr ⟨rfl, rfl⟩)
    (fun i Γ' Δ' Mx' => ∃ rows sign last, Eq3 Γ' Δ' Mx' [("sign", .int sign), ("last", .int last)] [("rows", dRows rows)] [] ∧ rowsOk rows = true ∧ last ≠ 0 ∧ last.natAbs < 1073741824 ∧ dGo (4 - i) rows sign last = some r) (fun _ _ _ => False) ?_ ?_ ?_ ?_
  · exact ⟨t, 1, 1, ⟨rfl, rfl, rfl⟩, hok, by decide, by decide, hr⟩
  · rintro i Γ' Δ' Mx' ⟨rows, sign, last, ⟨rfl, rfl, rfl⟩, _⟩
    exact ⟨by trivial, by trivial⟩
  · rintro i d H' Γ' Δ' Mx' P' s' E' hd ⟨rows, sign, last, ⟨rfl, rfl, rfl⟩, hok, hl0, hl1, hr⟩ X back
    obtain ⟨hi, rfl⟩ := rngs_get hd
    rw [Int.zero_add] at X
    have i5 : i < 5 := Nat.lt_succ_of_lt hi
    obtain ⟨y1, y2, y3, y4⟩ := sub1 i hi
    rw [y1, dGo, y2] at hr
    refine s_forifC false [("k", .int i)] [("rows", dRows rows)] (fun d => match d with | .int s => dg rows s.toNat i != 0 | _ => false) (fun d => d) X (evi_range2 (n := 5 - i) (nmB hW) nv ev_int (ra1 hi).1 (by decide) (ra1 hi).2.1) (fun C d hd => ?_) (fun C d hd hp => ?_) (.inl rfl) (by trivial) (by trivial) (fun P s X => ?_) (hsz := by rw [rngs_len]; exact Nat.ble_eq.mpr (ra1 hi).2.2)
    · obtain ⟨j, hj⟩ := List.mem_iff_getElem?.mp hd
      obtain ⟨hj5, rfl⟩ := rngs_get hj
      rw [show (i : Int) + (j : Int) = ((i + j : Nat) : Int) from rfl]
      exact ts_cmp (ev_dg (i := i + j) (j := i) nm nv nv hok (sub2 i hi j hj5) i5) ev_int op_ne_int
    · obtain ⟨j, hj⟩ := List.mem_iff_getElem?.mp hd
      obtain ⟨hj5, rfl⟩ := rngs_get hj
      exact nv
    have hsp : (((rngs i (5 - i)).filter fun d => match d with | .int s => dg rows s.toNat i != 0 | _ => false).map fun d => d) = ((dSpots rows i).map fun s => ((s : Nat) : Int)).map D.int := by
      unfold rngs dSpots
      rw [List.map_id', List.range'_eq_map_range, List.filter_map, List.filter_map, List.map_map, List.map_map]
      congr 1
    rw [hsp] at X
    simp only [Bool.false_eq_true, if_false] at X
    cases hs : dSpots rows i with
    | nil =>
      rw [hs] at X hr
      cases hr
      rw [List.map_nil, List.map_nil] at X
      refine s_if X (ts_cmp nv (ev_list evs_nil) op_eq_nil) fun P s X => ?_
      refine s_ret X ev_int fun v P s X i => ⟨P, _, _, _, back _ _ _ _ _ X, i⟩
    | cons s0 sr =>
      rw [hs] at X hr
      refine s_if X (ts_cmp nv (ev_list evs_nil) (op_eq_ints (ns := ((s0 :: sr).map fun s => ((s : Nat) : Int))) (ms := []))) fun P s X => ?_
      rw [show decide (((s0 :: sr).map fun s => ((s : Nat) : Int)) = []) = false from rfl]
      refine s_nil ?_
      have hs0 : i ≤ s0 ∧ s0 < 5 := by
        have : s0 ∈ dSpots rows i := by rw [hs]; exact List.mem_cons_self
        unfold dSpots at this
        have := List.mem_range'_1.mp ((List.mem_filter.mp this).1)
        exact az_r this (by omega)
      have hsw : rowsOk (dSwap rows i s0) = true := by
        unfold dSwap
        split
        · exact hok
        · exact rowsOk_set (rowsOk_set hok (rowsOk_row hok hs0.2)) (rowsOk_row hok i5)
      refine s_ifJ X (ts_cmp (ev_item_list (d := .int s0) (Ev.list nv) ev_int (by rfl)) nv op_ne_int) (fun Γ' Δ' Mx' => Eq3 Γ' Δ' Mx' [("k", .int i), ("sign", .int (if s0 = i then sign else -sign)), ("last", .int last)] [("rows", dRows (dSwap rows i s0))] [])
        (fun P s X => ?_) (fun Γ' Δ' Mx' P s hJ X => ?_)
      · cases hne : ((s0 : Int) != (i : Int)) with
        | false =>
          have he : s0 = i := Int.ofNat.inj (by simpa using hne)
          rw [if_pos he]
          refine s_nil (.inl ⟨rfl, _, _, _, P, ⟨rfl, ?_, rfl⟩, X.forget (by trivial)⟩)
          unfold dSwap; rw [if_pos he]
        | true =>
          have he : s0 ≠ i := fun q => by rw [q] at hne; simp at hne
          rw [if_neg he]
          refine s_swap X (ev_tuple (evs_cons (d := .list ((rows.getD s0 []).map .int)) (ev_item_list nm (ev_item_list (d := .int s0) (Ev.list nv) ev_int (by rfl)) (at_nat (dRows_get hok hs0.2)) (n62 hs0.2)) (evs_cons (ev_item_list nm nv (at_nat (dRows_get hok i5)) (n62 i5)) evs_nil))) nv (ev_item_list (d := .int s0) (Ev.list nv) ev_int (by rfl)) (sw3 i5 (dRows_len hok)) (sw3 hs0.2 (dRows_len hok)) fun P s X => ?_
          refine s_set X (ev_un nv op_neg) (.inl rfl) fun P s X => s_nil (.inl ⟨rfl, _, _, _, P, ⟨rfl, ?_, rfl⟩, X.forget (by trivial)⟩)
          unfold dSwap dRows; rw [if_neg he, List.map_set, List.map_set]; rfl
      obtain ⟨rfl, rfl, rfl⟩ := hJ
      clear hs hsp
      dsimp only at hr
      generalize (if s0 = i then sign else -sign) = sign' at *
      generalize dSwap rows i s0 = rows1 at *
      refine s_for X (evi_range2 (n := 4 - i) (nmB hW) (ev_bin nv ev_int op_add_int) ev_int (ra2 hi).1 (by decide) (ra2 hi).2) (.inr ⟨rfl, rfl⟩)
        (fun j Γ' Δ' Mx' => ∃ rows2, Eq3 Γ' Δ' Mx' [("k", .int i), ("sign", .int sign'), ("last", .int last)] [("rows", dRows rows2)] [] ∧ rowsOk rows2 = true ∧ dElim i last (4 - i - j) rows2 = dElim i last (3 - i + 1) rows1) (fun _ _ _ => False) ?_ ?_ ?_ ?_
      · exact ⟨rows1, ⟨rfl, rfl, rfl⟩, hsw, by rw [y3]⟩
      · rintro j Γ' Δ' Mx' ⟨rows2, ⟨rfl, rfl, rfl⟩, _⟩
        exact ⟨by trivial, by trivial⟩
      · rintro j d H'' Γ' Δ' Mx' P'' s'' E'' hd ⟨rows2, ⟨rfl, rfl, rfl⟩, hok2, hE⟩ X back2
        obtain ⟨hj, rfl⟩ := rngs_get hd
        obtain ⟨z1, z2, z3, d5⟩ := sub4 hi hj
        rw [cast3] at X
        rw [z1, dElim, z2] at hE
        have hok3 : rowsOk (rows2.set (i + 1 + j) (dRow rows2 (i + 1 + j) i last)) = true := by
          cases h : rowsOk (rows2.set (i + 1 + j) (dRow rows2 (i + 1 + j) i last)) with
          | true => rfl
          | false =>
            rw [h, if_neg Bool.false_ne_true] at hE
            rw [← hE] at hr
            cases hr
        rw [hok3, if_pos rfl] at hE
        refine s_setitem X (d := .list ((dRow rows2 (i + 1 + j) i last).map .int)) (EvN.ev (evn_for [("down", .int ((i + 1 + j : Nat) : Int)), ("k", .int i), ("last", .int last)] [("rows", dRows rows2)] (evi_range1 (n := 5) (nmB hW) ev_int (by decide)) (by rw [List.length_map, rngs_len]; unfold dRow; simp) (fun C c d d' h1 h2 => ?_) (hsz := by rw [rngs_len]; rfl))) nv (sw3 d5 (dRows_len hok2)).1 (sw3 d5 (dRows_len hok2)).2.1 (sw3 d5 (dRows_len hok2)).2.2 fun P s X => s_nil ⟨_, _, _, P, ⟨rows2.set (i + 1 + j) (dRow rows2 (i + 1 + j) i last), ⟨rfl, ?_, rfl⟩, hok3, ?_⟩, X.forget (by trivial)⟩
        · obtain ⟨hc, rfl⟩ := rngs_get h1
          have e : (dRow rows2 (i + 1 + j) i last)[c]? = some (Int.fdiv (dg rows2 (i + 1 + j) c * dg rows2 i i - dg rows2 (i + 1 + j) i * dg rows2 i c) last) := by
            unfold dRow
            rw [List.getElem?_map, List.getElem?_range hc]; rfl
          rw [ints_get e] at h2
          cases h2
          rw [Int.zero_add]
          exact ev_bin (ev_bin (ev_bin (ev_dg nm nv nv hok2 d5 hc) (ev_dg nm nv nv hok2 i5 i5) (op_mul_int (mulS (dg_small hok2 i5 i5)))) (ev_bin (ev_dg nm nv nv hok2 d5 i5) (ev_dg nm nv nv hok2 i5 hc) (op_mul_int (mulS (dg_small hok2 i5 hc)))) op_sub_int) nv (op_div_int hl0 hl1)
        · unfold dRows; rw [List.map_set]; rfl
        · rw [z3]; exact hE
      · rintro Γ' Δ' Mx' P'' s'' (⟨rows2, ⟨rfl, rfl, rfl⟩, hok2, hE⟩ | h) X
        · rw [rngs_len, Nat.sub_self, dElim] at hE
          rw [← hE] at hr
          dsimp only at hr
          refine s_set X (ev_dg nm nv nv hok2 i5 i5) (.inr ⟨rfl, rfl⟩) fun P s X => s_nil ?_
          have hnz : dg rows2 i i ≠ 0 := by
            intro h0
            rw [h0] at hr
            cases hr
          rw [if_pos (by simpa using hnz)] at hr
          exact ⟨_, _, _, P, ⟨rows2, sign', dg rows2 i i, ⟨rfl, rfl, rfl⟩, hok2, hnz, dg_small hok2 i5 i5, by rw [y4]; exact hr⟩, X.forget (by trivial)⟩
        · exact h.elim
  · rintro Γ' Δ' Mx' P' s' (⟨rows, sign, last, ⟨rfl, rfl, rfl⟩, hok, hl0, hl1, hr⟩ | h) X
    · rw [rngs_len, Nat.sub_self, dGo] at hr
      cases hr
      refine s_ret X (ev_bin nv (ev_dg (i := 4) (j := 4) nm ev_int ev_int hok (by decide) (by decide)) (op_mul_int (mulS (dg_small hok (by decide) (by decide))))) fun v P s X i => ⟨P, _, _, _, X, i⟩
    · exact h.elim
end
section
/-! _law_holds -/
noncomputable def leadD (l : Str × Wst) : D := .obj 160 (wsFields l.1 l.2)
noncomputable def lessAt (ls : List (Str × Wst)) (one two : Nat) : Bool := wsLess (ls.getD one ("", ⟨[], 0, 0, 0⟩)).2 (ls.getD two ("", ⟨[], 0, 0, 0⟩)).2
noncomputable def holdsRow (ls : List (Str × Wst)) (one : Nat) : Nat → List Bool
  | 0 => (List.range 5).map fun two => ((two : Nat) : Int) == ((one : Nat) : Int)
  | j + 1 => (holdsRow ls one j).set (one + 1 + j) ((holdsRow ls one j).getD (one + j) false && lessAt ls one (one + 1 + j))
noncomputable def holdsOf (ls : List (Str × Wst)) : List (List Bool) := (List.range 5).map fun one => holdsRow ls one (4 - one)
noncomputable def boolsD (r : List Bool) : D := .list (r.map .bool)
theorem holdsRow_len (ls : List (Str × Wst)) (one : Nat) : ∀ j, (holdsRow ls one j).length = 5
  | 0 => by simp [holdsRow]
  | j + 1 => by rw [holdsRow, List.length_set]; exact holdsRow_len ls one j
variable {W : Wd} {Pm : Params} (hW : W.K = hd01.heap_1 Pm)
include hW
theorem cl191 {k : Nat} {ls : List (Str × Wst)} (hl : ls.length = 5) (hok : ls.all (fun l => wsOk l.2) = true) : Cl W (k + 3) (.ref 191) [.list (ls.map leadD)] (.list ((holdsOf ls).map boolsD)) := by
  refine cl_fn (names := ["leads"]) (fun P b => ⟨⟨_, b.k _ _ (by rw [hW]; rfl), rfl⟩, by rw [hW]; rfl, rfl, fun vs h => ?_, rfl, ?_, by decide, by decide, rfl, rfl, rfl, rfl, rfl⟩) rfl ?_
  · obtain ⟨v, rfl⟩ := len1 h; rfl
  · decide
  intro A L s₀ P₀ H P s X
  replace X : At W (k + 2) A _ s₀ P₀ H [("leads", .list (ls.map leadD))] [] [] P s := X
  have getL : ∀ i, i < 5 → (ls.map leadD)[i]? = some (leadD (ls.getD i ("", ⟨[], 0, 0, 0⟩))) ∧ wsOk (ls.getD i ("", ⟨[], 0, 0, 0⟩)).2 = true := fun i hi => by
    have hi' : i < ls.length := by omega
    have e : ls.getD i ("", ⟨[], 0, 0, 0⟩) = ls[i] := by simp [List.getD_eq_getElem?_getD, List.getElem?_eq_getElem hi']
    rw [e]
    exact ⟨by rw [List.getElem?_map, List.getElem?_eq_getElem hi']; rfl, List.all_eq_true.mp hok _ (List.getElem_mem hi')⟩
  refine s_setN X (evn_list evs_nil) (.inl rfl) fun P s X => ?_
  replace X := X.forget (Γ' := [("leads", .list (ls.map leadD))]) (by trivial)
  replace X : At W (k + 2) A _ s₀ P₀ H _ [("holds", (((List.range 0).map fun one => holdsRow ls one (4 - one)).map boolsD))] [] P s := X
  refine s_for X (evi_range1 (n := 5) (nmB hW) ev_int (by decide)) (.inr ⟨rfl, rfl⟩)
    (fun i Γ' Δ' Mx' => Eq3 Γ' Δ' Mx' [("leads", .list (ls.map leadD))] [("holds", (((List.range i).map fun one => holdsRow ls one (4 - one)).map boolsD))] []) (fun _ _ _ => False) ?_ ?_ ?_ ?_
  · exact ⟨rfl, rfl, rfl⟩
  · rintro i Γ' Δ' Mx' ⟨rfl, rfl, rfl⟩
    exact ⟨by trivial, by trivial⟩
  · rintro one d H' Γ' Δ' Mx' P' s' E' hd ⟨rfl, rfl, rfl⟩ X back
    obtain ⟨hi, rfl⟩ := rngs_get hd
    rw [Int.zero_add] at X
    refine s_forC true [("one", .int one)] [] X (evi_range1 (n := 5) (nmB hW) ev_int (by decide)) (ds := (holdsRow ls one 0).map .bool) (by rw [List.length_map, holdsRow_len, rngs_len]) (fun C c d d' h1 h2 => ?_) (.inl rfl) (by trivial) (by trivial) (fun P s X => ?_) (hsz := by rw [rngs_len]; rfl)
    · obtain ⟨hc, rfl⟩ := rngs_get h1
      rw [holdsRow, List.map_map, List.getElem?_map, List.getElem?_range hc] at h2
      cases h2
      rw [Int.zero_add]
      exact ev_cmp nv nv op_eq_int
    simp only [if_true] at X
    replace X := X.forget (Γ' := [("one", .int one), ("leads", .list (ls.map leadD))]) (by trivial)
    refine s_for X (evi_range2 (n := 4 - one) (nmB hW) (ev_bin nv ev_int op_add_int) ev_int (by omega) (by decide) (az_54 hi)) (.inl rfl)
      (fun j Γ' Δ' Mx' => Eq3 Γ' Δ' Mx' [("one", .int one), ("leads", .list (ls.map leadD))] [("row", (holdsRow ls one j).map .bool), ("holds", (((List.range one).map fun one => holdsRow ls one (4 - one)).map boolsD))] []) (fun _ _ _ => False) ?_ ?_ ?_ ?_
    · exact ⟨rfl, rfl, rfl⟩
    · rintro i Γ' Δ' Mx' ⟨rfl, rfl, rfl⟩
      exact ⟨by trivial, by trivial⟩
    · rintro j d H'' Γ' Δ' Mx' P'' s'' E'' hd ⟨rfl, rfl, rfl⟩ X back2
      obtain ⟨hj, rfl⟩ := rngs_get hd
      rw [show (one : Int) + 1 + (j : Int) = ((one + 1 + j : Nat) : Int) from rfl] at X
      have hrl := holdsRow_len ls one j
      have hrm : ((holdsRow ls one j).map D.bool).length = 5 := by rw [List.length_map]; exact hrl
      have hg : ((holdsRow ls one j).map D.bool)[one + j]? = some (.bool ((holdsRow ls one j).getD (one + j) false)) := by
        rw [List.getElem?_map, List.getElem?_eq_getElem (by omega), List.getD_eq_getElem?_getD, List.getElem?_eq_getElem (by omega)]; rfl
      refine s_setitem X (d := .bool ((holdsRow ls one j).getD (one + j) false && lessAt ls one (one + 1 + j))) (ev_andB (ev_item_list nm (ev_bin nv ev_int op_sub_int) (by rw [show ((one + 1 + j : Nat) : Int) - 1 = ((one + j : Nat) : Int) by omega]; exact at_nat hg) (by omega)) (fun hb => ?_) (fun hb => ?_)) nv (by omega) (by rw [hrm]; omega) (by omega) fun P s X => s_nil ⟨_, _, _, P, ⟨rfl, ?_, rfl⟩, X.forget (by trivial)⟩
      · rw [hb, Bool.true_and]
        exact ev_methO (C := 160) (fs := wsFields _ _) (ev_item_list (Ev.list nv) nv (at_nat (getL one hi).1) (by omega)) (methK hW) (fnK hW) (by rfl) (evs_cons (ev_item_list (Ev.list nv) nv (at_nat (getL (one + 1 + j) (by omega)).1) (by omega)) evs_nil) (cl150 (W := W.at []) hW (getL one hi).2 (getL (one + 1 + j) (by omega)).2)
      · rw [hb]; rfl
      · rw [holdsRow, List.map_set]; rfl
    · rintro Γ' Δ' Mx' P'' s'' (⟨rfl, rfl, rfl⟩ | h) X
      · rw [rngs_len] at X
        obtain ⟨P, X⟩ := X.freeze
        refine s_append X nv (by rw [List.length_map, List.length_map, List.length_range, PySem.sizeLine_eq]; omega) fun P s X => s_nil ⟨_, _, _, P, ⟨rfl, ?_, rfl⟩, X.forget (by trivial)⟩
        rw [List.range_succ, List.map_append, List.map_append]; rfl
      · exact h.elim
  · rintro Γ' Δ' Mx' P' s' (⟨rfl, rfl, rfl⟩ | h) X
    · rw [rngs_len] at X
      obtain ⟨P, X⟩ := X.freeze
      refine s_ret X nv fun v P s X i => ⟨P, _, _, _, X, ?_⟩
      exact i
    · exact h.elim
end
section
/-! _law_spelled -/
noncomputable def spA (row : Str) : Str := Txt.replace row "\"" "\\\""
noncomputable def spB1 (row : Str) : Str := Txt.replace row " " "\\ "
noncomputable def spB2 (row : Str) : Str := Txt.replace (spB1 row) "\t" "\\\t"
noncomputable def spC (row : Str) : Str := Txt.join "" (row.cps.toList.map fun c => ("\\" : Str) ++ ⟨#[c]⟩)
noncomputable def spelled (row : Str) (way : Int) : Str :=
  if way == 0 then (("\"" : Str) ++ spA row) ++ "\""
  else if way == 1 then Txt.replace (spB2 row) "\n" "\\\n"
  else (("\"" : Str) ++ spC row) ++ "\""
noncomputable def spOk (row : Str) : Bool := decide (row.length ≤ 1000) && decide ((spA row).length ≤ 10000) && decide ((spB1 row).length ≤ 10000) && decide ((spB2 row).length ≤ 10000) && JoinOk "" (row.cps.toList.map fun c => ("\\" : Str) ++ ⟨#[c]⟩) && decide ((spC row).length ≤ 10000)
theorem base_const {c : Const} {k : Nat} {p : Pos} {a : Str} {env : Env} {w : Sem Value} : attributeBase (.Constant c k p) a env w = w := rfl
variable {W : Wd} {Pm : Params} (hW : W.K = hd01.heap_1 Pm)
include hW
theorem cl176 {k : Nat} {row : Str} {way : Int} (hok : spOk row = true) : Cl W (k + 1) (.ref 176) [.str row, .int way] (.str (spelled row way)) := by
  refine cl_fn (names := ["row", "way"]) (fun P b => ⟨⟨_, b.k _ _ (by rw [hW]; rfl), rfl⟩, by rw [hW]; rfl, rfl, fun vs h => ?_, rfl, ?_, by decide, by decide, rfl, rfl, rfl, rfl, rfl⟩) rfl ?_
  · obtain ⟨v, u, rfl⟩ := len2 h; rfl
  · decide
  intro A L s₀ P₀ H P s X
  replace X : At W k A _ s₀ P₀ H [("row", .str row), ("way", .int way)] [] [] P s := X
  simp only [spOk, Bool.and_eq_true, decide_eq_true_eq] at hok
  obtain ⟨⟨⟨⟨⟨h1, h2⟩, h3⟩, h4⟩, h5⟩, h6⟩ := hok
  have l1 : (("\"" : Str)).length = 1 := by decide
  have l2 : (("\\" : Str)).length = 1 := by decide
  have la : ∀ a b : Str, (a ++ b).length = a.length + b.length := fun a b => by show (a.cps ++ b.cps).size = _; rw [Array.size_append]; rfl
  have hrl : row.cps.toList.length = row.length := by show _ = row.cps.size; simp
  generalize hres : spelled row way = res
  unfold spelled at hres
  refine s_if X (ts_cmp nv ev_int op_eq_int) fun P s X => ?_
  cases hw0 : way == 0 with
  | true =>
    rw [hw0, if_pos rfl] at hres
    refine s_ret X (ev_bin (ev_bin ev_str (ev_replaceC nv (by decide) (by omega)) (op_add_str (by rw [l1]; show 1 + (spA row).length ≤ _; rw [PySem.sizeLine_eq]; omega))) ev_str (op_add_str (by rw [la, l1]; show 1 + (spA row).length + 1 ≤ _; rw [PySem.sizeLine_eq]; omega))) fun v P s X i => ⟨P, _, _, _, X, ?_⟩
    subst hres; exact i
  | false =>
  rw [hw0, if_neg Bool.false_ne_true] at hres
  refine s_nil (s_if X (ts_cmp nv ev_int op_eq_int) fun P s X => ?_)
  cases hw1 : way == 1 with
  | true =>
    rw [hw1, if_pos rfl] at hres
    refine s_ret X (ev_replaceC (ev_replaceC (ev_replaceC nv (by decide) (by omega)) (by decide) (by show (spB1 row).length ≤ _; omega)) (by decide) (by show (spB2 row).length ≤ _; omega)) fun v P s X i => ⟨P, _, _, _, X, ?_⟩
    subst hres; exact i
  | false =>
  rw [hw1, if_neg Bool.false_ne_true] at hres
  refine s_nil (s_ret (d := .str ((("\"" : Str) ++ spC row) ++ "\"")) X ?_ fun v P s X i => ⟨P, _, _, _, X, by subst hres; exact i⟩)
  refine ev_bin (a := .str (("\"" : Str) ++ spC row)) (b := .str "\"") ?_ ev_str (op_add_str (by rw [la, l1, PySem.sizeLine_eq]; omega))
  refine ev_bin (a := .str "\"") (b := .str (spC row)) ev_str ?_ (op_add_str (by rw [l1, PySem.sizeLine_eq]; omega))
  have hj : Cl (W.at []) k (.builtin "str.join") [.str "", .list ((row.cps.toList.map fun c => ("\\" : Str) ++ ⟨#[c]⟩).map .str)] (.str (spC row)) := by unfold spC; exact cl_join h5
  refine (fun h => ev_smeth (name := Str.ofString "join") (id := "str.join") (x := "") (ds := [.list ((row.cps.toList.map fun c => ("\\" : Str) ++ ⟨#[c]⟩).map .str)]) ev_str h F.slot_str_join F.type_str_join hj (hbase := base_const)) ?_
  refine evs_cons (EvN.ev ?_) evs_nil
  refine evn_for [] [] (evi_str nv) (by rw [List.length_map, List.length_map]; simp [chars]) (fun C i d d' h1 h2 => ?_) (hsz := by rw [show (chars row).length = row.length by simp [chars]; exact hrl]; exact Nat.ble_eq.mpr (by omega))
  obtain ⟨c, hc, rfl⟩ := chars_get h1
  rw [List.map_map, List.getElem?_map, hc] at h2
  cases h2
  exact ev_bin ev_str nv (op_add_str (by rw [l2]; show 1 + 1 ≤ _; decide))
end
section
variable {W : Wd} {Pm : Params} (hW : W.K = hd01.heap_1 Pm)
include hW
theorem eval_enum {k : Nat} {A : Around} {env : Env} {s₀ : Shared} {P₀ H : Vw} {Γ : List (Str × D)} {P : Vw} {s : Shared} {E Q : Value → Shared → Prop} {p p1 p2 : Pos} {x : Str} {z : Str} (X : At W k A env s₀ P₀ H Γ [] [] P s) (hz : (z, D.str x) ∈ Γ)
    (h : ∀ s' t oi, iterO x t 0 oi → At W k A env s₀ P₀ H Γ [] [(s.heap.objs.size + 1, .obj (enumO s.heap.objs.size 0 .none)), (s.heap.objs.size, .obj oi)] P s' → Q (.ref (s.heap.objs.size + 1)) s') (hd : (z == ("__debug__" : Str)) = false := by decide) (hn : (z == ("__classdict__" : Str)) = false := by decide) (kind : env.kindOf "enumerate" = some .globalImplicit := by rfl) : wpAny W.M A (eval (.Call (.Name (Str.ofString "enumerate") p) [.Name z p1] [] p2) env) Q E s := by
  refine wpAny_Call_Name_kw (name_bi X.st.b X.st.p X.cx (nmB hW (kind := kind)) ?_ (by decide))
  have hp' : [Expr.Name z p1].all plainE = true := by rfl
  refine PySem.callWith_type (plain_any hp') ?_
  obtain ⟨v, nm, i⟩ := X.cx.vars _ hz
  rw [starEach_cons rfl]
  refine evalArgs_plain (spliced_cons (name_read X.fn X.st.sv nm (spliced_nil ?_) hd hn))
  obtain ⟨t, rfl⟩ := Is.strI i
  refine call_enumerate_str fun h' he hit hsz hk => ?_
  have f1 : s.heap.get? s.heap.objs.size = none := Heap.get?_none_of_le (Nat.le_refl _)
  have f2 : s.heap.get? (s.heap.objs.size + 1) = none := Heap.get?_none_of_le (Nat.le_succ _)
  obtain ⟨oi, q1, q2, q3⟩ := hit
  exact h _ t oi ⟨q2, q3⟩ (At.own2 X hk he q1 f2 f1 (Nat.succ_ne_self _))
theorem gen28 : ∃ fd body, (∀ P, W.B P → FnPre W P 28 fd body ["addr"]) ∧ fd.scope.isGenerator = true ∧ (∀ L, (callEnvC fd L 28).cells = []) ∧
    ∀ x : Str, x.cps.all (· < 128) = true → GenSegs W fd body 28 "addr" x ((escItems x).map itemD) := by
  refine ⟨_, _, fun P b => ⟨⟨_, b.k _ _ (by rw [hW]; rfl), rfl⟩, by rw [hW]; rfl, rfl, fun vs h => ?_, rfl, ?_, by decide, by decide, rfl, rfl, rfl, rfl⟩, rfl, fun L => rfl, ?_⟩
  · obtain ⟨v, rfl⟩ := len1 h; rfl
  · decide
  intro x hx8 A L Pb s₁ hA X
  rw [List.length_map]
  let k : Nat := 0
  have hA : AOk (k + 2) A := hA
  replace X : At W (k + 2) A (callEnvC _ L 28) s₁ Pb (offX [L] s₁.heap) [("addr", .str x)] [] [] Pb s₁ := X
  generalize k = k at *
  refine seg_func (seg_execs_cons (seg_stmt (wpAny_Assign_Name (wpAny_Constant_int ?_))))
  have hBp : W.B Pb := X.b
  have a1 : ∀ b e, AOk (k + 1) (A.over (.func b e) []) := fun b e => aok_func hA
  have X1 := X.same (h' := s₁.heap) (tk' := s₁.toks + 1) (fun _ _ e => e) (Nat.le_succ_of_le X.tk)
  refine At.nameZ (X1.around (a1 _ _)) (.int 0 s₁.toks) rfl fun s₂ X2 z2 => ?_
  refine seg_execs_cons (seg_stmt (wpAny_Assign_Name (wpAny_of_eq (a := .bool false) (by rfl) ?_)))
  refine At.nameZ X2 (.bool false) rfl fun s₃ X3 z3 => ?_
  refine seg_execs_cons (seg_For ?_)
  refine eval_enum (hW := hW) X3 (z := Str.ofString "addr") (List.mem_cons_of_mem _ (List.mem_cons_of_mem _ List.mem_cons_self)) fun s₄ t oi hoi X4 => ?_
  have hz : s₃.heap.objs.size = s₁.heap.objs.size := z3.trans z2
  rw [hz] at X4 ⊢
  have hoff : offX [L] s₁.heap = offX [L, s₁.heap.objs.size + 1, s₁.heap.objs.size] s₁.heap := by
    funext b
    unfold offX
    by_cases h1 : b = L
    · simp [h1]
    · by_cases h2 : b = s₁.heap.objs.size + 1
      · subst h2; simp [Heap.get?_none_of_le (Nat.le_succ _)]
      · by_cases h3 : b = s₁.heap.objs.size
        · subst h3; simp [Heap.get?_none_of_le (Nat.le_refl _)]
        · simp [h1, h2, h3]
  rw [hoff] at X4
  obtain ⟨m0, cv0, ad0, y0, _⟩ := X4.mnew
  obtain ⟨oe, qe, ie⟩ := y0.raw _ List.mem_cons_self
  cases ie
  refine wpAny_pyIter_enum (it := s₁.heap.objs.size) (i := 0) (old := .none) qe fun p => ?_
  replace X4 := X4.around hA
  refine seg_ind x.cps.size (fun i n s₀ s => ∃ pre P last esc old oi, escItems x = pre ++ escLoop (x.cps.toList.drop i) i esc last ∧ n = (escLoop (x.cps.toList.drop i) i esc last).length ∧ iterO x t i oi ∧
    At W (k + 2) A (callEnvC _ L 28) s₀ Pb (offX [L, s₁.heap.objs.size + 1, s₁.heap.objs.size] s₀.heap) [("escape", .bool esc), ("pos", .int last), ("addr", .str x)] [] [(s₁.heap.objs.size + 1, .obj (enumO s₁.heap.objs.size i old)), (s₁.heap.objs.size, .obj oi)] P s) ?_ ?_ ⟨[], _, 0, false, .none, oi, rfl, rfl, hoi, X4⟩
  · rintro i n s₀ s hi ih ⟨pre, P, last, esc, old, oi, hpre, rfl, hoi, X⟩
    refine seg_forLoop ?_
    apply enum_item (X.around (aok_loop hA)) hoi hi
    intro c T v P' s' oi' old' hc hv iv hoi' hlet
    subst hv
    refine hlet _ fun P2 s2 X2 iv2 => ?_
    obtain ⟨T', v1, v2, nn, eT, q, i1, i2⟩ := tup2 iv2
    cases eT
    refine wpAny_assign_Tuple X2.a.1 ⟨_, X2.inn _ _ q, rfl, nn, rfl⟩ rfl rfl fun h3 hk3 => ?_
    have X3 := X2.same (ext_keep hk3) X2.tk
    refine assignInOrder_cons (assign_Name (X3.name i1 (.inl rfl) fun s4 X4 => assignInOrder_cons (assign_Name (X4.name i2 (.inl rfl) fun s5 X5 => assignInOrder_nil ?_))))
    replace X5 : At W (k + 1) _ (callEnvC _ L 28) s₀ Pb _ [("ch", .str ⟨#[c]⟩), ("pos", .int i), ("escape", .bool esc), ("addr", .str x)] [] _ P2 s5 := X5
    have hl : x.cps.toList[i]? = some c := by simpa using hc
    have hd : x.cps.toList.drop i = c :: x.cps.toList.drop (i + 1) := by
      obtain ⟨h1, h2⟩ := List.getElem?_eq_some_iff.mp hl
      rw [← h2]; exact List.drop_eq_getElem_cons h1
    refine seg_execs_cons (seg_If ?_)
    refine ts_bool (W := W.at [(s₁.heap.objs.size + 1, .obj (enumO s₁.heap.objs.size (i + 1 : Nat) old')), (s₁.heap.objs.size, .obj oi')]) (nv (d := .bool esc)) (by rfl) _ _ P2 s5 _ _ X5.st X5.cx fun P6 s6 g6 tk6 => ?_
    have X6 := X5.gr g6 tk6
    cases esc with
    | true =>
      have he : escLoop (x.cps.toList.drop i) i true last = (i, ("\\" : Str) ++ ⟨#[c]⟩) :: escLoop (x.cps.toList.drop (i + 1)) (i + 1) false i := by rw [hd]; rfl
      rw [he] at hpre ⊢
      refine seg_execs_cons (seg_Expr_Yield rfl rfl rfl ?_)
      refine ev_tuple (W := W.at [(s₁.heap.objs.size + 1, .obj (enumO s₁.heap.objs.size (i + 1 : Nat) old')), (s₁.heap.objs.size, .obj oi')]) (evs_cons (nv (d := .int i)) (evs_cons (ev_bin ev_str (nv (d := .str ⟨#[c]⟩)) (op_add_str (Nat.le_of_ble_eq_true rfl))) evs_nil)) (by rfl) _ _ P6 s6 _ _ X6.st X6.cx fun v P7 s7 g7 tk7 iv7 kap hkap => ?_
      have X7 := X6.gr g7 tk7
      have own7 := (At.leaveH X7 rfl).q
      refine ⟨P7, itemD (i, ("\\" : Str) ++ (⟨#[c]⟩ : Str)), ?_, own7, tk7, iv7, ?_, ?_, fun s8 inn8 tk8 same8 => hkap .none s8 ?_⟩
      · rw [hpre, List.map_append, List.map_cons]
        have := rev_at (pre := pre.map itemD) (rem := (escLoop (x.cps.toList.drop (i + 1)) (i + 1) false i).map itemD) (d := itemD (i, ("\\" : Str) ++ ⟨#[c]⟩))
        rw [List.length_map] at this
        exact this
      · obtain ⟨m7, cv7, ad7, y7, _⟩ := X7.mnew
        exact y7.offP
      · obtain ⟨m7, cv7, ad7, y7, _⟩ := X7.mnew
        exact y7.exist
      · have off7 : ∀ b ∈ [L, s₁.heap.objs.size + 1, s₁.heap.objs.size], Pb b = none := by
          obtain ⟨m7, cv7, ad7, y7, _⟩ := X7.mnew
          intro b hb
          cases qq : Pb b with
          | none => rfl
          | some o => have := y7.offP b hb; rw [X7.le _ _ qq] at this; cases this
        have X8 := At.wake X7 rfl (by simp [flatD]) (by simp [objM]) X7.a hBp inn8 tk8 same8 off7
        refine seg_execs_cons (seg_stmt (wpAny_Assign_Name (wpAny_of_eq (a := .bool false) (by rfl) ?_)))
        refine At.nameZ X8 (.bool false) rfl fun s9 X9 _ => ?_
        refine seg_execs_nil (seg_again rfl (ih _ s8 s9 ⟨pre ++ [(i, ("\\" : Str) ++ (⟨#[c]⟩ : Str))], _, i, false, old', oi', ?_, rfl, hoi', (X9.less "ch").around hA⟩))
        rw [hpre, List.append_assoc]; rfl
    | false =>
      refine seg_execs_cons (seg_If ?_)
      refine ts_cmp (W := W.at [(s₁.heap.objs.size + 1, .obj (enumO s₁.heap.objs.size (i + 1 : Nat) old')), (s₁.heap.objs.size, .obj oi')]) (nv (d := .str ⟨#[c]⟩)) ev_str (op_eq_str (a := ⟨#[c]⟩) (b := "\\")) (by with_unfolding_all rfl) _ _ P6 s6 _ _ X6.st X6.cx fun PB sB gB tkB => ?_
      have XB := X6.gr gB tkB
      cases hq : ((⟨#[c]⟩ : Str) == Str.ofString "\\") with
      | true =>
        have he : escLoop (x.cps.toList.drop i) i false last = escLoop (x.cps.toList.drop (i + 1)) (i + 1) true i := by rw [hd]; show (if false = true then _ else _) = _; simp [hq]
        rw [he] at hpre ⊢
        refine seg_execs_cons (seg_stmt (wpAny_Assign_Name (wpAny_of_eq (a := .bool true) (by rfl) ?_)))
        refine At.nameZ XB (.bool true) rfl fun s9 X9 _ => ?_
        exact seg_execs_nil (seg_execs_nil (seg_again rfl (ih _ _ s9 ⟨pre, _, i, true, old', oi', hpre, rfl, hoi', (X9.less "ch").around hA⟩)))
      | false =>
        have he : escLoop (x.cps.toList.drop i) i false last = (i, ⟨#[c]⟩) :: escLoop (x.cps.toList.drop (i + 1)) (i + 1) false i := by rw [hd]; show (if false = true then _ else _) = _; simp [hq]
        rw [he] at hpre ⊢
        refine seg_execs_cons (seg_Expr_Yield rfl rfl rfl ?_)
        refine ev_tuple (W := W.at [(s₁.heap.objs.size + 1, .obj (enumO s₁.heap.objs.size (i + 1 : Nat) old')), (s₁.heap.objs.size, .obj oi')]) (evs_cons (nv (d := .int i)) (evs_cons (nv (d := .str ⟨#[c]⟩)) evs_nil)) (by rfl) _ _ PB sB _ _ XB.st XB.cx fun v P7 s7 g7 tk7 iv7 kap hkap => ?_
        have X7 := XB.gr g7 tk7
        have own7 := (At.leaveH X7 rfl).q
        refine ⟨P7, itemD (i, (⟨#[c]⟩ : Str)), ?_, own7, tk7, iv7, ?_, ?_, fun s8 inn8 tk8 same8 => hkap .none s8 ?_⟩
        · rw [hpre, List.map_append, List.map_cons]
          have := rev_at (pre := pre.map itemD) (rem := (escLoop (x.cps.toList.drop (i + 1)) (i + 1) false i).map itemD) (d := itemD (i, ⟨#[c]⟩))
          rw [List.length_map] at this
          exact this
        · obtain ⟨m7, cv7, ad7, y7, _⟩ := X7.mnew
          exact y7.offP
        · obtain ⟨m7, cv7, ad7, y7, _⟩ := X7.mnew
          exact y7.exist
        · have off7 : ∀ b ∈ [L, s₁.heap.objs.size + 1, s₁.heap.objs.size], Pb b = none := by
            obtain ⟨m7, cv7, ad7, y7, _⟩ := X7.mnew
            intro b hb
            cases qq : Pb b with
            | none => rfl
            | some o => have := y7.offP b hb; rw [X7.le _ _ qq] at this; cases this
          have X8 := At.wake X7 rfl (by simp [flatD]) (by simp [objM]) X7.a hBp inn8 tk8 same8 off7
          refine seg_execs_nil (seg_again rfl (ih _ s8 s8 ⟨pre ++ [(i, (⟨#[c]⟩ : Str))], _, i, false, old', oi', ?_, rfl, hoi', (X8.vsub (by simp)).around hA⟩))
          rw [hpre, List.append_assoc]; rfl
  · rintro n s₀ s ⟨pre, P, last, esc, old, oi, hpre, rfl, hoi, X⟩
    obtain ⟨m, cv, ad, y, _⟩ := X.mnew
    obtain ⟨o1, q1, i1⟩ := y.raw _ List.mem_cons_self
    obtain ⟨o2, q2, i2⟩ := y.raw _ (List.mem_cons_of_mem _ List.mem_cons_self)
    obtain rfl := i1.objI.symm; obtain rfl := i2.objI.symm
    have hty : strIterType x = "str_ascii_iterator" := by unfold strIterType; rw [hx8]; rfl
    refine seg_forLoop (enum_over (by exact hA.1) q1 ⟨_, q2, hty ▸ hoi.1, hoi.2⟩ (by simp) fun h' hx' hit' => ?_)
    obtain ⟨o3, q3⟩ := hit'
    have X1 := (At.turnR (tk' := s.toks) (o' := .obj o3) (X.permM (List.Perm.swap ..)) X.tk (fun b o n e => hx' b o n e) q3 (.obj _)).permM (List.Perm.swap ..)
    have hdn : x.cps.toList.drop x.cps.size = [] := List.drop_eq_nil_of_le (by simp)
    rw [hdn] at hpre ⊢
    refine seg_leaf (.ok .next) ?_
    refine seg_execs_cons (seg_If ?_)
    refine ts_bool (W := W.at [(s₁.heap.objs.size + 1, .obj (enumO s₁.heap.objs.size x.cps.size old)), (s₁.heap.objs.size, .obj o3)]) (nv (d := .bool esc)) (by rfl) _ _ P _ _ _ (X1.around (a1 _ _)).st X1.cx fun P6 s6 g6 tk6 => ?_
    have X6 := X1.gr g6 tk6
    have offB : ∀ b ∈ [L, s₁.heap.objs.size + 1, s₁.heap.objs.size], Pb b = none := fun b hb => by
      cases qq : Pb b with
      | none => rfl
      | some o => have := y.offP b hb; rw [X.le _ _ qq] at this; cases this
    cases esc with
    | false =>
      refine seg_execs_nil (seg_execs_nil ?_)
      obtain ⟨m7, cv7, ad7, y7, _⟩ := X6.mnew
      exact seg_end (.ok (.ret .none)) ⟨rfl, rfl, P6, (At.leaveH X6 rfl).q, tk6, y7.offP⟩
    | true =>
      refine seg_execs_cons (seg_Expr_Yield rfl rfl rfl ?_)
      refine ev_tuple (W := W.at [(s₁.heap.objs.size + 1, .obj (enumO s₁.heap.objs.size x.cps.size old)), (s₁.heap.objs.size, .obj o3)]) (evs_cons (nv (d := .int last)) (evs_cons (ev_str (x := "\\")) evs_nil)) (by rfl) _ _ P6 s6 _ _ (X6.around (a1 _ _)).st X6.cx fun v P7 s7 g7 tk7 iv7 kap hkap => ?_
      have X7 := X6.gr g7 tk7
      obtain ⟨m7, cv7, ad7, y7, _⟩ := X7.mnew
      refine ⟨P7, itemD (last, "\\"), ?_, (At.leaveH X7 rfl).q, tk7, iv7, y7.offP, y7.exist, fun s8 inn8 tk8 same8 => hkap .none s8 ?_⟩
      · rw [hpre, List.map_append]
        exact rev_at (pre := pre.map itemD) (rem := []) (d := itemD (last, "\\"))
      · refine seg_execs_nil (seg_execs_nil ?_)
        exact seg_end (.ok (.ret .none)) ⟨rfl, rfl, Pb, ⟨Le.refl _, inn8, fun _ _ _ e => e, fun _ _ e => .inl e, GG.refl _, rfl, rfl⟩, tk8, offB⟩
end
section
/-! _strip_quoted_realnames, _check_parenthesis -/
noncomputable def sqLoop (addr : Str) : List (Nat × Str) → Option Nat → Nat → List Str → Nat × List Str
  | [], _, st, res => (st, res)
  | (pos, ch) :: r, op, st, res =>
    if ch == "\"" then
      match op with
      | none => sqLoop addr r (some pos) st res
      | some o => sqLoop addr r none (pos + 1) (if (st : Int) != o then res ++ [Txt.slice addr (some st) (some o)] else res)
    else sqLoop addr r op st res
theorem sqLoop_cons (addr : Str) (pos : Nat) (ch : Str) (r : List (Nat × Str)) (op : Option Nat) (st : Nat) (res : List Str) : sqLoop addr ((pos, ch) :: r) op st res = if ch == "\"" then (match op with | none => sqLoop addr r (some pos) st res | some o => sqLoop addr r none (pos + 1) (if (st : Int) != o then res ++ [Txt.slice addr (some st) (some o)] else res)) else sqLoop addr r op st res := by cases op <;> rfl
noncomputable def sqRes (addr : Str) : List Str :=
  let p := sqLoop addr (escItems addr) none 0 []
  if (p.1 : Int) < addr.length then p.2 ++ [Txt.slice addr (some p.1) none] else p.2
noncomputable def strq (addr : Str) : Str := if !inS "\"" addr then addr else Txt.join "" (sqRes addr)
noncomputable def sqOk (addr : Str) : Bool := addr.cps.all (· < 128) && decide (addr.length ≤ 16000) && JoinOk "" (sqRes addr)
noncomputable def ckLoop : List (Nat × Str) → Int → Option Int
  | [], o => some o
  | (_, ch) :: r, o => if ch == "(" then ckLoop r (o + 1) else if ch == ")" then (if o - 1 < 0 then none else ckLoop r (o - 1)) else ckLoop r o
noncomputable def ckpar (addr : Str) : Bool := match ckLoop (escItems (strq addr)) 0 with | none => false | some o => o == 0
noncomputable def ckOk (addr : Str) : Bool := sqOk addr && (strq addr).cps.all (· < 128)
noncomputable def opD : Option Nat → D
  | none => .none
  | some n => .int n
theorem escLoop_len : ∀ (l : List Nat) (i : Nat) (e : Bool) (n : Nat), (escLoop l i e n).length ≤ l.length + 1
  | [], i, e, n => by cases e <;> simp [escLoop]
  | c :: r, i, e, n => by
    unfold escLoop
    split
    · have := escLoop_len r (i + 1) false i; simp; omega
    · split
      · have := escLoop_len r (i + 1) true i; simp; omega
      · have := escLoop_len r (i + 1) false i; simp; omega
theorem itemD_is {x : Str} : ∀ d ∈ (escItems x).map itemD, ∃ d1 d2, d = D.tup [d1, d2] := fun d hd => by
  obtain ⟨p, _, rfl⟩ := List.mem_map.mp hd
  exact ⟨_, _, rfl⟩
theorem itemD_get {x : Str} {i : Nat} {d1 d2 : D} (h : ((escItems x).map itemD)[i]? = some (.tup [d1, d2])) : ∃ pos ch, (escItems x)[i]? = some (pos, ch) ∧ d1 = .int (pos : Nat) ∧ d2 = .str ch := by
  rw [List.getElem?_map] at h
  obtain ⟨p, hp, e⟩ := Option.map_eq_some_iff.mp h
  cases e
  exact ⟨p.1, p.2, hp, rfl, rfl⟩
theorem drop_consP {α : Type} {l : List α} {i : Nat} {a : α} (h : l[i]? = some a) : l.drop i = a :: l.drop (i + 1) := by
  obtain ⟨hi, e⟩ := List.getElem?_eq_some_iff.mp h
  rw [List.drop_eq_getElem_cons hi, e]
variable {W : Wd} {Pm : Params} (hW : W.K = hd01.heap_1 Pm)
include hW
theorem cl35 {k : Nat} {addr : Str} (hok : sqOk addr = true) : Cl W (k + 4) (.ref 35) [.str addr] (.str (strq addr)) := by
  refine cl_fn (names := ["addr"]) (fun P b => ⟨⟨_, b.k _ _ (by rw [hW]; rfl), rfl⟩, by rw [hW]; rfl, rfl, fun vs h => ?_, rfl, ?_, by decide, by decide, rfl, rfl, rfl, rfl, rfl⟩) rfl ?_
  · obtain ⟨v, rfl⟩ := len1 h; rfl
  · decide
  intro A L s₀ P₀ H P s X
  replace X : At W (k + 3) A _ s₀ P₀ H [("addr", .str addr)] [] [] P s := X
  simp only [sqOk, Bool.and_eq_true, decide_eq_true_eq] at hok
  obtain ⟨⟨h8, hlen⟩, hj⟩ := hok
  generalize hres : strq addr = res
  unfold strq at hres
  refine s_if X (ts_cmp ev_str nv op_notin_str) fun P s X => ?_
  cases hin : inS "\"" addr with
  | false =>
    rw [hin] at hres
    refine s_ret X nv fun v P s X i => ⟨P, _, _, _, X, ?_⟩
    subst hres; exact i
  | true =>
  rw [hin] at hres
  simp only [Bool.not_true, Bool.false_eq_true, if_false] at hres
  refine s_nil ?_
  refine s_set X ev_int (.inl rfl) fun P s X => ?_
  refine s_set (d := opD none) X ev_none (.inl rfl) fun P s X => ?_
  refine s_setN X (evn_list evs_nil) (.inl rfl) fun P s X => ?_
  replace X := X.forget (Γ' := [("open_pos", opD none), ("start", .int 0), ("addr", .str addr)]) (by trivial)
  obtain ⟨fd, body, FF, hgen, hcl, hS⟩ := gen28 (W := W.at []) hW
  generalize hlp : sqLoop addr (escItems addr) none 0 [] = lp
  refine s_forG X (evg_call (nmG hW) (fnK hW) FF hgen hcl (hS addr h8) nv) (.inl rfl) (.inl rfl)
    (fun i Γ' Δ' Mx' => ∃ op st r, Eq3 Γ' Δ' Mx' [("open_pos", opD op), ("start", .int (st : Nat)), ("addr", .str addr)] [("result", r.map .str)] [] ∧ lp = sqLoop addr ((escItems addr).drop i) op st r ∧ r.length ≤ i) (fun _ _ _ => False) ?_ itemD_is ?_ ?_
  · exact ⟨none, 0, [], ⟨rfl, rfl, rfl⟩, hlp.symm, Nat.le_refl _⟩
  · rintro i d1 d2 s₁ H' Γ' Δ' Mx' P' s' E' hd ⟨op, st, r, ⟨rfl, rfl, rfl⟩, hst, hr⟩ X back
    obtain ⟨pos, ch, hd', rfl, rfl⟩ := itemD_get hd
    have hi : i < (escItems addr).length := (List.getElem?_eq_some_iff.mp hd').1
    have hi2 : i ≤ 16000 := by
      have := escLoop_len addr.cps.toList 0 false 0
      have h3 : addr.cps.toList.length = addr.length := by show _ = addr.cps.size; simp
      unfold escItems at hi
      omega
    rw [drop_consP hd', sqLoop_cons] at hst
    replace X : At W (k + 3) A _ s₁ _ _ [("ch", .str ch), ("pos", .int pos), ("open_pos", opD op), ("start", .int st), ("addr", .str addr)] [("result", r.map .str)] [] P' s' := X
    refine s_if X (ts_cmp nv ev_str op_eq_str) fun P s X => ?_
    cases hq : (ch == "\"") with
    | false =>
      rw [hq, if_neg Bool.false_ne_true] at hst
      refine s_nil (s_nil ⟨_, _, _, P, ⟨op, st, r, ⟨rfl, rfl, rfl⟩, hst, Nat.le_succ_of_le hr⟩, X.forget (by trivial)⟩)
    | true =>
      rw [hq, if_pos rfl] at hst
      cases op with
      | none =>
        refine s_if X (ts_cmp (nv (d := opD none)) ev_none op_is_none_none) fun P s X => ?_
        refine s_set (d := opD (some pos)) X (nv (d := .int pos)) (.inl rfl) fun P s X => s_nil (s_nil (s_nil ?_))
        exact ⟨_, _, _, P, ⟨some pos, st, r, ⟨rfl, rfl, rfl⟩, hst, Nat.le_succ_of_le hr⟩, X.forget (by trivial)⟩
      | some o =>
        refine s_if X (ts_cmp (nv (d := opD (some o))) ev_none (op_is_int_none (i := o))) fun P s X => ?_
        have hrl : (r.map D.str).length = r.length := List.length_map ..
        refine s_ifJ X (ts_cmp nv (nv (d := opD (some o))) (op_ne_int (b := o))) (fun Γ' Δ' Mx' => Eq3 Γ' Δ' Mx' [("ch", .str ch), ("pos", .int pos), ("open_pos", opD (some o)), ("start", .int st), ("addr", .str addr)] [("result", (if (st : Int) != o then r ++ [Txt.slice addr (some st) (some o)] else r).map .str)] [])
          (fun P s X => ?_) (fun Γ' Δ' Mx' P s hJ X => ?_)
        · cases hne : ((st : Int) != o) with
          | false => exact s_nil (.inl ⟨rfl, _, _, _, P, ⟨rfl, rfl, rfl⟩, X⟩)
          | true =>
            refine s_append X (ev_slice_str nv (evo_some nv) (evo_some (i := (o : Int)) (nv (d := opD (some o)))) (by rw [PySem.sizeLine_eq]; omega)) (by rw [hrl, PySem.sizeLine_eq]; omega) fun P s X => ?_
            refine s_nil (.inl ⟨rfl, _, _, _, P, ⟨rfl, ?_, rfl⟩, X⟩)
            rw [if_pos rfl, List.map_append]; rfl
        obtain ⟨rfl, rfl, rfl⟩ := hJ
        refine s_set (d := .int (pos + 1 : Nat)) X (ev_bin nv ev_int op_add_int) (.inl rfl) fun P s X => ?_
        refine s_set (d := opD none) X ev_none (.inl rfl) fun P s X => s_nil (s_nil (s_nil ?_))
        refine ⟨_, _, _, P, ⟨none, pos + 1, _, ⟨rfl, rfl, rfl⟩, hst, ?_⟩, X.forget (by trivial)⟩
        split
        · simp; omega
        · omega
  · rintro Γ' Δ' Mx' P s (⟨op, st, r, ⟨rfl, rfl, rfl⟩, hst, hr⟩ | h) X
    · rw [List.length_map, List.drop_length, sqLoop] at hst
      have hrl : (r.map D.str).length = r.length := List.length_map ..
      have hr2 : r.length ≤ 16001 := by
        have := escLoop_len addr.cps.toList 0 false 0
        have h3 : addr.cps.toList.length = addr.length := by show _ = addr.cps.size; simp
        rw [List.length_map] at hr
        unfold escItems at hr
        omega
      have hsq : sqRes addr = if (st : Int) < addr.length then r ++ [Txt.slice addr (some st) none] else r := by
        unfold sqRes; rw [hlp, hst]
      refine s_ifJ X (ts_cmp nv (ev_callB (nmB hW) (evs_cons nv evs_nil) (cl_len_str (by omega))) op_lt_int) (fun Γ' Δ' Mx' => Eq3 Γ' Δ' Mx' [("open_pos", opD op), ("start", .int st), ("addr", .str addr)] [("result", (sqRes addr).map .str)] [])
        (fun P s X => ?_) (fun Γ' Δ' Mx' P s hJ X => ?_)
      · cases hlt : decide ((st : Int) < addr.length) with
        | false =>
          have : ¬ (st : Int) < addr.length := by simpa using hlt
          rw [if_neg this] at hsq
          exact s_nil (.inl ⟨rfl, _, _, _, P, ⟨rfl, by rw [hsq], rfl⟩, X⟩)
        | true =>
          have : (st : Int) < addr.length := by simpa using hlt
          rw [if_pos this] at hsq
          refine s_append X (ev_slice_str nv (evo_some nv) evo_none (by rw [PySem.sizeLine_eq]; omega)) (by rw [hrl, PySem.sizeLine_eq]; omega) fun P s X => ?_
          refine s_nil (.inl ⟨rfl, _, _, _, P, ⟨rfl, ?_, rfl⟩, X⟩)
          rw [hsq, List.map_append]; rfl
      obtain ⟨rfl, rfl, rfl⟩ := hJ
      obtain ⟨P, X⟩ := X.freeze
      refine s_ret X (ev_smeth (name := Str.ofString "join") (id := "str.join") (x := "") ev_str (evs_cons (nv (d := .list ((sqRes addr).map .str))) evs_nil) F.slot_str_join F.type_str_join (cl_join hj) (hbase := base_const)) fun v P s X i => ⟨P, _, _, _, X, ?_⟩
      subst hres; exact i
    · exact h.elim
theorem cl42 {k : Nat} {addr : Str} (hok : ckOk addr = true) : Cl W (k + 5) (.ref 42) [.str addr] (.bool (ckpar addr)) := by
  refine cl_fn (names := ["addr"]) (fun P b => ⟨⟨_, b.k _ _ (by rw [hW]; rfl), rfl⟩, by rw [hW]; rfl, rfl, fun vs h => ?_, rfl, ?_, by decide, by decide, rfl, rfl, rfl, rfl, rfl⟩) rfl ?_
  · obtain ⟨v, rfl⟩ := len1 h; rfl
  · decide
  intro A L s₀ P₀ H P s X
  replace X : At W (k + 4) A _ s₀ P₀ H [("addr", .str addr)] [] [] P s := X
  simp only [ckOk, Bool.and_eq_true] at hok
  generalize hres : ckpar addr = res
  unfold ckpar at hres
  refine s_set X (ev_callF (nmG hW) (fnK hW) (evs_cons nv evs_nil) (cl35 (W := W.at []) hW hok.1)) (.inl rfl) fun P s X => ?_
  have h8 := hok.2
  generalize strq addr = x at *
  refine s_set X ev_int (.inl rfl) fun P s X => ?_
  replace X := X.forget (Γ' := [("opens", .int 0), ("addr", .str x)]) (by trivial)
  obtain ⟨fd, body, FF, hgen, hcl, hS⟩ := gen28 (W := W.at []) hW
  generalize hlp : ckLoop (escItems x) 0 = lp at *
  refine s_forG X (evg_call (nmG hW) (fnK hW) FF hgen hcl (hS x h8) nv) (.inl rfl) (.inl rfl)
    (fun i Γ' Δ' Mx' => ∃ o : Int, Eq3 Γ' Δ' Mx' [("opens", .int o), ("addr", .str x)] [] [] ∧ lp = ckLoop ((escItems x).drop i) o) (fun _ _ _ => False) ?_ itemD_is ?_ ?_
  · exact ⟨0, ⟨rfl, rfl, rfl⟩, hlp.symm⟩
  · rintro i d1 d2 s₁ H' Γ' Δ' Mx' P' s' E' hd ⟨o, ⟨rfl, rfl, rfl⟩, hst⟩ X back
    obtain ⟨pos, ch, hd', rfl, rfl⟩ := itemD_get hd
    rw [drop_consP hd', ckLoop] at hst
    replace X : At W (k + 4) A _ s₁ _ _ [("ch", .str ch), ("pos", .int pos), ("opens", .int o), ("addr", .str x)] [] [] P' s' := X
    refine s_if X (ts_cmp nv ev_str op_eq_str) fun P s X => ?_
    cases hq : (ch == "(") with
    | true =>
      rw [hq, if_pos rfl] at hst
      refine s_aug X (by trivial) ev_int op_iadd_int (.inl rfl) fun P s X => s_nil (s_nil ?_)
      exact ⟨_, _, _, P, ⟨o + 1, ⟨rfl, rfl, rfl⟩, hst⟩, X.forget (by trivial)⟩
    | false =>
      rw [hq, if_neg Bool.false_ne_true] at hst
      refine s_if X (ts_cmp nv ev_str op_eq_str) fun P s X => ?_
      cases hq : (ch == ")") with
      | false =>
        rw [hq, if_neg Bool.false_ne_true] at hst
        exact s_nil (s_nil (s_nil ⟨_, _, _, P, ⟨o, ⟨rfl, rfl, rfl⟩, hst⟩, X.forget (by trivial)⟩))
      | true =>
        rw [hq, if_pos rfl] at hst
        refine s_aug X (by trivial) ev_int op_isub_int (.inl rfl) fun P s X => ?_
        refine s_if X (ts_cmp nv ev_int op_lt_int) fun P s X => ?_
        cases hlt : decide (o - 1 < 0) with
        | true =>
          have : o - 1 < 0 := by simpa using hlt
          rw [if_pos this] at hst
          refine s_ret X ev_bool fun v P s X i => ⟨P, _, _, _, back _ _ _ _ _ X, ?_⟩
          rw [hst] at hres
          subst hres; exact i
        | false =>
          have : ¬ o - 1 < 0 := by simpa using hlt
          rw [if_neg this] at hst
          exact s_nil (s_nil (s_nil (s_nil ⟨_, _, _, P, ⟨o - 1, ⟨rfl, rfl, rfl⟩, hst⟩, X.forget (by trivial)⟩)))
  · rintro Γ' Δ' Mx' P s (⟨o, ⟨rfl, rfl, rfl⟩, hst⟩ | h) X
    · rw [List.length_map, List.drop_length, ckLoop] at hst
      refine s_ret X (ev_cmp nv ev_int op_eq_int) fun v P s X i => ⟨P, _, _, _, X, ?_⟩
      rw [hst] at hres
      subst hres; exact i
    · exact h.elim
end
section
/-! the lexer -/
noncomputable def lnc (c : Nat) (ln : Int) : Int := if (⟨#[c]⟩ : Str) == "\n" then ln + 1 else ln
noncomputable def wsc (c : Nat) : Bool := inS ⟨#[c]⟩ "\n\t\r "
noncomputable def lexQ : List Nat → Str → Int → Nat → Str × List Nat × Int × Nat
  | [], tok, ln, n => (tok, [], ln, n + 1)
  | c :: r, tok, ln, n =>
    if (⟨#[c]⟩ : Str) == "\"" then (tok, r, lnc c ln, n + 1)
    else if (⟨#[c]⟩ : Str) == "\\" then
      match r with
      | [] => (tok ++ ("" : Str), [], lnc c ln, n + 3)
      | c2 :: r2 => lexQ r2 (tok ++ (⟨#[c2]⟩ : Str)) (lnc c2 (lnc c ln)) (n + 2)
    else lexQ r (tok ++ (⟨#[c]⟩ : Str)) (lnc c ln) (n + 1)
noncomputable def lexB : List Nat → Str → Int → Nat → Str × List Nat × Int × Nat
  | [], tok, ln, n => (tok, [], ln, n + 1)
  | c :: r, tok, ln, n =>
    if wsc c then (tok, r, lnc c ln, n + 1)
    else if (⟨#[c]⟩ : Str) == "\\" then
      match r with
      | [] => (tok ++ ("" : Str), [], lnc c ln, n + 3)
      | c2 :: r2 => lexB r2 (tok ++ (⟨#[c2]⟩ : Str)) (lnc c2 (lnc c ln)) (n + 2)
    else lexB r (tok ++ (⟨#[c]⟩ : Str)) (lnc c ln) (n + 1)
noncomputable def lexT : List Nat → Int → Nat → Str × List Nat × Int × Nat
  | [], ln, n => ("", [], ln, n + 1)
  | c :: r, ln, n =>
    if wsc c then lexT r (lnc c ln) (n + 1)
    else if (⟨#[c]⟩ : Str) == "\"" then lexQ r "" (lnc c ln) (n + 1)
    else if (⟨#[c]⟩ : Str) == "\\" then
      match r with
      | [] => (("" : Str) ++ ("" : Str), [], lnc c ln, n + 3)
      | c2 :: r2 => lexB r2 (("" : Str) ++ (⟨#[c2]⟩ : Str)) (lnc c2 (lnc c ln)) (n + 2)
    else lexB r (("" : Str) ++ (⟨#[c]⟩ : Str)) (lnc c ln) (n + 1)
noncomputable def lexF (st : Addr) (l : List (Addr × Obj)) (line : Int) (pb : Addr) : List (Str × D) := [("lineno", .int line), ("instream", .pack st l), ("whitespace", .str "\n\t\r "), ("pushback", .raw pb)]
noncomputable abbrev lexM (dx pb al st : Addr) (l : List (Addr × Obj)) (line : Int) (pbs : List D) (n : Nat) : List (Addr × MO) := [(dx, .dict (lexF st l line pb)), (pb, .list pbs), (al, .list [.int n])]
noncomputable def lnS (ch : Str) (ln : Int) : Int := if ch == "\n" then ln + 1 else ln
variable {W : Wd} {Pm : Params} (hW : W.K = hd01.heap_1 Pm)
include hW
theorem kl77 {k n : Nat} {x dx pb al st : Addr} {l : List (Addr × Obj)} {text : Str} {line : Int} (hS : StreamOk (W.at []) st al text l) : KlM W (k + 2) (.ref 77) [.inst x 94 dx] (.str (sl1 text n)) [(dx, .dict (lexF st l line pb)), (al, .list [.int n])] [(dx, .dict (lexF st l (lnS (sl1 text n) line) pb)), (al, .list [.int (n + 1 : Nat)])] := by
  refine klm_fn (names := ["self"]) (fun P b => ⟨⟨_, b.k _ _ (by rw [hW]; rfl), rfl⟩, by rw [hW]; rfl, rfl, fun vs h => ?_, rfl, ?_, by decide, by decide, rfl, rfl, rfl, rfl, rfl⟩) rfl rfl ?_
  · obtain ⟨v, rfl⟩ := len1 h; rfl
  · decide
  intro A L s₀ P₀ P s _ X
  replace X : At W (k + 1) A _ s₀ P₀ _ [("self", .inst x 94 dx)] [] ([(dx, .dict (lexF st l line pb)), (al, .list [.int n])] ++ []) P s := X
  refine s_setM X (evm_stream nv (getK hW) rfl hS ev_int) rfl (.inl rfl) fun P s X => ?_
  replace X : At W (k + 1) A _ s₀ P₀ _ [("ch", .str (sl1 text n)), ("self", .inst x 94 dx)] [] [(dx, .dict (lexF st l line pb)), (al, .list [.int (n + 1 : Nat)])] P s := X
  refine s_if X (ts_cmp nv ev_str op_eq_str) fun P s X => ?_
  unfold lnS
  cases hq : (sl1 text n == "\n") with
  | false =>
    refine s_nil (s_ret X nv fun v P s X i => ⟨P, _, _, [], X, i⟩)
  | true =>
    refine s_augattr X nv (getK hW) (setK hW) (by rfl) ev_int op_iadd_int (fun P s X => ?_)
    refine s_nil (s_ret X nv fun v P s X i => ⟨P, _, _, [], X, i⟩)
theorem kl70 {k : Nat} {x dx st : Addr} {l : List (Addr × Obj)} : KlX W (k + 1) (.ref 70) [.inst x 94 dx, .pack st l] [(dx, .dict [])] (fun d Mx' N => d = .none ∧ ∃ fs, Mx' = [(dx, .dict fs)] ∧ ∃ pb, fs = lexF st l 1 pb ∧ N = [(pb, .list [])]) := by
  refine klx_fn (names := ["self", "fp"]) (fun P b => ⟨⟨_, b.k _ _ (by rw [hW]; rfl), rfl⟩, by rw [hW]; rfl, rfl, fun vs h => ?_, rfl, ?_, by decide, by decide, rfl, rfl, rfl, rfl, rfl⟩) rfl ?_
  · obtain ⟨v, u, rfl⟩ := len2 h; rfl
  · decide
  intro A L s₀ P₀ P s _ X
  replace X : At W k A _ s₀ P₀ _ [("self", .inst x 94 dx), ("fp", .pack st l)] [] [(dx, .dict [])] P s := X
  refine s_setattr X ev_int nv (setK hW) fun P s X => ?_
  refine s_setattr X nv nv (setK hW) fun P s X => ?_
  refine s_setattr X ev_str nv (setK hW) fun P s X => ?_
  refine s_setattrN X (evn_list evs_nil) nv (setK hW) fun pb P s hpb X => s_nil ?_
  exact ⟨P, _, _, [(dx, .dict (lexF st l 1 pb))], [(pb, .list [])], [], .none, X, ⟨rfl, _, rfl, pb, rfl, rfl⟩, rfl, fun p hp => by rw [List.mem_singleton.mp hp]; exact hpb, .none⟩
theorem cl94 {k : Nat} {st : Addr} {l : List (Addr × Obj)} : ClX W (k + 2) (.ref 94) [.pack st l] [] (fun d Mx' N => ∃ x dx fs N0, d = .inst x 94 dx ∧ Mx' = [] ∧ N = (dx, .dict fs) :: N0 ∧ ∃ pb, fs = lexF st l 1 pb ∧ N0 = [(pb, .list [])]) :=
  clx_make (by rw [hW]; rfl) (by rw [hW]; rfl) (by rw [hW]; rfl) fun x dx => kl70 hW
theorem kl91 {k : Nat} {x dx pb al st : Addr} {l : List (Addr × Obj)} {line : Int} {pbs : List D} {d : D} {n : Nat} (hsz : pbs.length ≤ 16384) : KlM W (k + 1) (.ref 91) [.inst x 94 dx, d] .none (lexM dx pb al st l line pbs n) (lexM dx pb al st l line (pbs ++ [d]) n) := by
  refine klm_fn (names := ["self", "token"]) (fun P b => ⟨⟨_, b.k _ _ (by rw [hW]; rfl), rfl⟩, by rw [hW]; rfl, rfl, fun vs h => ?_, rfl, ?_, by decide, by decide, rfl, rfl, rfl, rfl, rfl⟩) rfl rfl ?_
  · obtain ⟨v, u, rfl⟩ := len2 h; rfl
  · decide
  intro A L s₀ P₀ P s _ X
  replace X : At W k A _ s₀ P₀ _ [("self", .inst x 94 dx), ("token", d)] [] (lexM dx pb al st l line pbs n) P s := X
  replace X := X.permM (Mx' := [(pb, .list pbs), (dx, .dict (lexF st l line pb)), (al, .list [.int n])]) (List.Perm.swap ..)
  refine s_appendR X (ev_attrI nv (by trivial) (getK hW) (by rfl)) nv (Nat.le_trans hsz (by decide)) fun P s X => s_nil ?_
  exact ⟨P, _, _, [], X.permM (List.Perm.swap ..), .none⟩
theorem kl84p {k : Nat} {x dx pb al st : Addr} {l : List (Addr × Obj)} {line : Int} {pbs : List D} {d : D} {n : Nat} (hsz : pbs.length ≤ 16384) : KlM W (k + 1) (.ref 84) [.inst x 94 dx] d (lexM dx pb al st l line (d :: pbs) n) (lexM dx pb al st l line pbs n) := by
  refine klm_fn (names := ["self"]) (fun P b => ⟨⟨_, b.k _ _ (by rw [hW]; rfl), rfl⟩, by rw [hW]; rfl, rfl, fun vs h => ?_, rfl, ?_, by decide, by decide, rfl, rfl, rfl, rfl, rfl⟩) rfl rfl ?_
  · obtain ⟨v, rfl⟩ := len1 h; rfl
  · decide
  intro A L s₀ P₀ P s _ X
  replace X : At W k A _ s₀ P₀ _ [("self", .inst x 94 dx)] [] (lexM dx pb al st l line (d :: pbs) n) P s := X
  refine s_if X (ts_rawlist (ev_attrI nv (by trivial) (getK hW) (by rfl)) (by trivial) (by simp; omega)) fun P s X => ?_
  replace X := X.permM (Mx' := [(pb, .list (d :: pbs)), (dx, .dict (lexF st l line pb)), (al, .list [.int n])]) (List.Perm.swap ..)
  refine s_retPop (j := 0) (d := d) X (ev_attrI nv (by trivial) (getK hW) (by rfl)) ev_int (by rw [seqIndex_nn (by decide) (by simp)]; rfl) rfl (by rw [List.length_cons, PySem.sizeLine_eq]; omega) (next := fun v P s X i => ?_)
  exact ⟨P, _, _, [], X.permM (List.Perm.swap ..), i⟩
end
section
theorem GrM.upd {X : List Addr} {P P' : Vw} {s s' : Shared} {a : Addr} {h' : Heap} {o : Obj} (g : GrM X P s P' s') (ha : a ∈ X) (hp : P' a = none) (hk : Heap.ExtBut a s'.heap h') (he : h'.get? a = some o) : GrM X P s P' { s' with heap := h' } :=
  ⟨g.le, fun b o e => hk b o (fun z => by rw [z, hp] at e; cases e) (g.inn _ _ e), fun b o hb e => hk b o (fun z => hb (z ▸ ha)) (g.old b o hb e), fun b o e => by
    obtain ⟨o', q⟩ := g.ext b o e
    by_cases hb : b = a
    · rw [hb]; exact ⟨_, he⟩
    · exact ⟨o', hk b o' hb q⟩, g.new, g.gens, g.drawn, g.os⟩
variable {W : Wd} {Pm : Params} (hW : W.K = hd01.heap_1 Pm)
include hW
theorem nx_go {k n : Nat} {A : Around} {P : Vw} {ci m x dx pb al st : Addr} {t : Tok} {l : List (Addr × Obj)} {text : Str} {line : Int} {r : Option D} {oc : Obj} (hS : StreamOk (W.at []) st al text l) (hm : P m = some (methodObj (.ref 77) (.ref x))) (hx : P x = some (instObj 94 dx))
    (h1 : sl1 text n = "" → r = none ∧ oc = ciObj .none .none (.bool true)) (h2 : sl1 text n ≠ "" → r = some (.str (sl1 text n)) ∧ oc = ciObj (.ref m) (.str "" t) (.bool false)) :
    NxM (W.at []) (k + 3) A P (.ref ci) r [(ci, .obj (ciObj (.ref m) (.str "" t) (.bool false))), (dx, .dict (lexF st l line pb)), (al, .list [.int n])] [(ci, .obj oc), (dx, .dict (lexF st l (lnS (sl1 text n) line) pb)), (al, .list [.int (n + 1 : Nat)])] := by
  intro s E Q S st' dv hQ
  obtain ⟨o1, q1, i1⟩ := dv.has _ List.mem_cons_self
  obtain rfl := i1.objI.symm
  have hK : (W.at []).K = hd01.heap_1 Pm := hW
  have hf : s.heap.get? 77 = _ := Bs.frag st'.b st'.p 77 _ (by rw [hK]; rfl)
  refine pyNext_ci st'.a.1 q1 (st'.p _ _ hm) hf rfl ?_
  have dv2 := dv.perm (N := [(dx, .dict (lexF st l line pb)), (al, .list [.int n])] ++ [(ci, .obj (ciObj (.ref m) (.str "" t) (.bool false)))]) List.perm_append_comm
  have hci : P ci = none := dv.off _ List.mem_cons_self
  refine (KlM.frame (kl77 (W := W.at []) (k := k) hK hS) rfl [(ci, .obj (ciObj (.ref m) (.str "" t) (.bool false)))]) A.in1 S P s _ [.ref x] { st' with a := aok_in1 st'.a } (.cons (.inst hx) .nil) dv2 fun v P' s' g tk dv' i => ?_
  have dv3 : Dv P' s' [(ci, .obj (ciObj (.ref m) (.str "" t) (.bool false))), (dx, .dict (lexF st l (lnS (sl1 text n) line) pb)), (al, .list [.int (n + 1 : Nat)])] := dv'.perm (N := [(ci, .obj (ciObj (.ref m) (.str "" t) (.bool false)))] ++ [(dx, .dict (lexF st l (lnS (sl1 text n) line) pb)), (al, .list [.int (n + 1 : Nat)])]) List.perm_append_comm
  obtain ⟨o2, q2, i2⟩ := dv3.has _ List.mem_cons_self
  obtain rfl := i2.objI.symm
  have hci' : P' ci = none := dv3.off _ List.mem_cons_self
  have g' : GrM (ads [(ci, .obj (ciObj (.ref m) (.str "" t) (.bool false))), (dx, .dict (lexF st l line pb)), (al, .list [.int n])]) P s P' s' := g.wide fun b hb => by simp [ads] at hb ⊢; rcases hb with h | h | h <;> simp [h]
  obtain ⟨t', rfl⟩ := i.strI
  refine ⟨_, t', rfl, q2, g.inn _ _ (g.le _ _ hm), g.inn _ _ (g.le _ _ (st'.b.k 77 _ (by rw [hK]; rfl))), fun e h' hk he => ?_, fun e => ?_⟩
  · have e' : sl1 text n = "" := (eq_of_beq e).symm
    obtain ⟨rfl, rfl⟩ := h1 e'
    refine hQ none P' _ (g'.upd (by simp [ads]) hci' hk he) tk ⟨fun p hp => ?_, dv3.nd, fun p hp => ?_⟩ trivial
    rcases List.mem_cons.mp hp with rfl | hp
    · exact ⟨_, he, .obj _⟩
    · obtain ⟨o, q, i⟩ := dv3.has p (List.mem_cons_of_mem _ hp)
      refine ⟨o, hk _ _ (fun z => ?_) q, i⟩
      have nd : ci ∉ ads [(dx, MO.dict (lexF st l (lnS (sl1 text n) line) pb)), (al, .list [.int (n + 1 : Nat)])] := (List.nodup_cons.mp dv3.nd).1
      have hp2 : p.1 ∈ ads [(dx, MO.dict (lexF st l (lnS (sl1 text n) line) pb)), (al, .list [.int (n + 1 : Nat)])] := List.mem_map_of_mem hp
      rw [show p.1 = ci from z] at hp2
      exact nd hp2
    · rcases List.mem_cons.mp hp with rfl | hp
      · exact hci'
      · exact dv3.off p (List.mem_cons_of_mem _ hp)
  · have e' : sl1 text n ≠ "" := fun z => by rw [z] at e; cases e
    obtain ⟨rfl, rfl⟩ := h2 e'
    exact hQ _ P' s' g' tk dv3 (.str _ _)
theorem nx_item {k n c : Nat} {rs : List Nat} {A : Around} {P : Vw} {ci m x dx pb al st : Addr} {t : Tok} {l : List (Addr × Obj)} {text : Str} {line : Int} (hS : StreamOk (W.at []) st al text l) (hm : P m = some (methodObj (.ref 77) (.ref x))) (hx : P x = some (instObj 94 dx)) (h : text.cps.toList.drop n = c :: rs) :
    NxM (W.at []) (k + 3) A P (.ref ci) (some (.str ⟨#[c]⟩)) [(ci, .obj (ciObj (.ref m) (.str "" t) (.bool false))), (dx, .dict (lexF st l line pb)), (al, .list [.int n])] [(ci, .obj (ciObj (.ref m) (.str "" t) (.bool false))), (dx, .dict (lexF st l (lnc c line) pb)), (al, .list [.int (n + 1 : Nat)])] := by
  have e := sl1_cons h
  have := nx_go (k := k) (A := A) (ci := ci) (t := t) (line := line) (pb := pb) (n := n) (r := some (.str ⟨#[c]⟩)) (oc := ciObj (.ref m) (.str "" t) (.bool false)) hW hS hm hx (fun z => by rw [e] at z; cases z) (fun _ => by rw [e]; exact ⟨rfl, rfl⟩)
  rw [e] at this
  exact this
theorem nx_end {k n : Nat} {A : Around} {P : Vw} {ci m x dx pb al st : Addr} {t : Tok} {l : List (Addr × Obj)} {text : Str} {line : Int} (hS : StreamOk (W.at []) st al text l) (hm : P m = some (methodObj (.ref 77) (.ref x))) (hx : P x = some (instObj 94 dx)) (h : text.cps.toList.drop n = []) :
    NxM (W.at []) (k + 3) A P (.ref ci) none [(ci, .obj (ciObj (.ref m) (.str "" t) (.bool false))), (dx, .dict (lexF st l line pb)), (al, .list [.int n])] [(ci, .obj (ciObj .none .none (.bool true))), (dx, .dict (lexF st l line pb)), (al, .list [.int (n + 1 : Nat)])] := by
  have e := sl1_nil h
  have := nx_go (k := k) (A := A) (ci := ci) (t := t) (line := line) (pb := pb) (n := n) (r := none) (oc := ciObj .none .none (.bool true)) hW hS hm hx (fun _ => ⟨rfl, rfl⟩) (fun z => (z e).elim)
  rw [e] at this
  exact this
omit hW in
theorem nx_ended {k : Nat} {A : Around} {P : Vw} {ci : Addr} : NxM (W.at []) k A P (.ref ci) none [(ci, .obj (ciObj .none .none (.bool true)))] [(ci, .obj (ciObj .none .none (.bool true)))] := by
  intro s E Q S st' dv hQ
  obtain ⟨o1, q1, i1⟩ := dv.has _ List.mem_cons_self
  obtain rfl := i1.objI.symm
  refine pyNext_ciE st'.a.1 q1 fun h' hk => ?_
  have g : Gr P s P { s with heap := h' } := Gr.keep (tk := s.toks) st'.p hk
  exact hQ none P _ (g.m _) st'.tk (dv.gr g) trivial
end
section
set_option maxHeartbeats 4000000
theorem gt_perm {α : Type} {a b c d : α} : ([b, d, c] ++ [a]).Perm [a, b, c, d] := List.perm_append_comm.trans (List.Perm.cons _ (List.Perm.cons _ (List.Perm.swap ..)))
theorem rd_perm {α : Type} {a b c d : α} : ([b, c] ++ [a, d]).Perm [a, b, c, d] := (List.perm_append_comm (l₁ := [b, c]) (l₂ := [a, d])).trans (List.Perm.cons _ ((List.Perm.swap ..).trans (List.Perm.cons _ (List.Perm.swap ..))))
theorem rd_perm' {α : Type} {a b c d : α} : [a, b, c, d].Perm ([b, c] ++ [a, d]) := rd_perm.symm
theorem drop_tail {l : List Nat} {n c : Nat} {r : List Nat} (h : l.drop n = c :: r) : l.drop (n + 1) = r := by
  rw [← List.drop_drop, h]; rfl
theorem drop_nil1 {l : List Nat} {n : Nat} (h : l.drop n = []) : l.drop (n + 1) = [] := by
  rw [← List.drop_drop, h]; rfl
noncomputable abbrev ciM (ended : Bool) (m : Addr) (t : Tok) : MO := .obj (if ended then ciObj .none .none (.bool true) else ciObj (.ref m) (.str "" t) (.bool false))
noncomputable abbrev gtM (ended : Bool) (ci m dx pb al st : Addr) (t : Tok) (l : List (Addr × Obj)) (ln : Int) (n : Nat) : List (Addr × MO) := [(ci, ciM ended m t), (dx, .dict (lexF st l ln pb)), (al, .list [.int n]), (pb, .list [])]
noncomputable abbrev gtG (tk : Str) (ci m x dx : Addr) : List (Str × D) := [("token", .str tk), ("fiter", .pack ci [(m, methodObj (.ref 77) (.ref x))]), ("self", .inst x 94 dx)]
theorem len_add (a b : Str) : (a ++ b).length = a.length + b.length := by show (a.cps ++ b.cps).size = _; rw [Array.size_append]; rfl
noncomputable def nxc (c : Nat) (r : List Nat) (ln : Int) (n : Nat) : Str × List Nat × Int × Nat := if (⟨#[c]⟩ : Str) == "\\" then (match r with | [] => ("", [], ln, n + 1) | c2 :: r2 => ((⟨#[c2]⟩ : Str), r2, lnc c2 ln, n + 1)) else ((⟨#[c]⟩ : Str), r, ln, n)
theorem lexQ_cons (c : Nat) (r : List Nat) (tok : Str) (ln : Int) (n : Nat) : lexQ (c :: r) tok ln n = if (⟨#[c]⟩ : Str) == "\"" then (tok, r, lnc c ln, n + 1) else lexQ (nxc c r (lnc c ln) (n + 1)).2.1 (tok ++ (nxc c r (lnc c ln) (n + 1)).1) (nxc c r (lnc c ln) (n + 1)).2.2.1 (nxc c r (lnc c ln) (n + 1)).2.2.2 := by
  unfold nxc
  cases h : ((⟨#[c]⟩ : Str) == "\\") <;> cases r <;> simp only [lexQ, h, if_true, Bool.false_eq_true, if_false]
theorem lexB_cons (c : Nat) (r : List Nat) (tok : Str) (ln : Int) (n : Nat) : lexB (c :: r) tok ln n = if wsc c then (tok, r, lnc c ln, n + 1) else lexB (nxc c r (lnc c ln) (n + 1)).2.1 (tok ++ (nxc c r (lnc c ln) (n + 1)).1) (nxc c r (lnc c ln) (n + 1)).2.2.1 (nxc c r (lnc c ln) (n + 1)).2.2.2 := by
  unfold nxc
  cases h : ((⟨#[c]⟩ : Str) == "\\") <;> cases r <;> simp only [lexB, h, if_true, Bool.false_eq_true, if_false]
theorem lexT_cons (c : Nat) (r : List Nat) (ln : Int) (n : Nat) : lexT (c :: r) ln n = if wsc c then lexT r (lnc c ln) (n + 1) else if (⟨#[c]⟩ : Str) == "\"" then lexQ r "" (lnc c ln) (n + 1) else lexB (nxc c r (lnc c ln) (n + 1)).2.1 (("" : Str) ++ (nxc c r (lnc c ln) (n + 1)).1) (nxc c r (lnc c ln) (n + 1)).2.2.1 (nxc c r (lnc c ln) (n + 1)).2.2.2 := by
  unfold nxc
  cases h : ((⟨#[c]⟩ : Str) == "\\") <;> cases r <;> simp only [lexT, lexB, h, if_true, Bool.false_eq_true, if_false]
theorem nxc_len (c : Nat) (r : List Nat) (ln : Int) (n : Nat) : (nxc c r ln n).1.length ≤ 1 ∧ (nxc c r ln n).2.1.length ≤ r.length := by
  unfold nxc
  split
  · cases r with
    | nil => exact ⟨Nat.zero_le _, Nat.le_refl _⟩
    | cons a r => exact ⟨Nat.le_refl 1, Nat.le_succ _⟩
  · exact ⟨Nat.le_refl 1, Nat.le_refl _⟩
noncomputable def I84 (text : Str) (R : Str × List Nat × Int × Nat) (a : Bool × Str × List Nat × Int × Nat) : Prop := (a.1 = true → a.2 = R) ∧ (a.1 = false → a.2.1 = "" ∧ text.cps.toList.drop a.2.2.2.2 = a.2.2.1 ∧ a.2.2.1.length ≤ 30000 ∧ lexT a.2.2.1 a.2.2.2.1 a.2.2.2.2 = R)
noncomputable def I84L (f : List Nat → Str → Int → Nat → Str × List Nat × Int × Nat) (text : Str) (R : Str × List Nat × Int × Nat) (a : Str × List Nat × Int × Nat) : Prop := text.cps.toList.drop a.2.2.2 = a.2.1 ∧ a.1.length + a.2.1.length ≤ 30000 ∧ f a.2.1 a.1 a.2.2.1 a.2.2.2 = R
theorem I84L.step {f : List Nat → Str → Int → Nat → Str × List Nat × Int × Nat} {text : Str} {R : Str × List Nat × Int × Nat} {tk : Str} {c : Nat} {r : List Nat} {ln : Int} {n : Nat} (hl : tk.length + (c :: r).length ≤ 30000) (hq : f (nxc c r (lnc c ln) (n + 1)).2.1 (tk ++ (nxc c r (lnc c ln) (n + 1)).1) (nxc c r (lnc c ln) (n + 1)).2.2.1 (nxc c r (lnc c ln) (n + 1)).2.2.2 = R)
    (hd : text.cps.toList.drop (nxc c r (lnc c ln) (n + 1)).2.2.2 = (nxc c r (lnc c ln) (n + 1)).2.1) : I84L f text R (tk ++ (nxc c r (lnc c ln) (n + 1)).1, (nxc c r (lnc c ln) (n + 1)).2.1, (nxc c r (lnc c ln) (n + 1)).2.2.1, (nxc c r (lnc c ln) (n + 1)).2.2.2) := by
  have h := nxc_len c r (lnc c ln) (n + 1)
  refine ⟨hd, ?_, hq⟩
  show (tk ++ (nxc c r (lnc c ln) (n + 1)).1).length + (nxc c r (lnc c ln) (n + 1)).2.1.length ≤ 30000
  rw [len_add]
  rw [List.length_cons] at hl
  omega
theorem lnS_one (c : Nat) (ln : Int) : lnS ⟨#[c]⟩ ln = lnc c ln := rfl
theorem sz84 {tk : Str} {c : Nat} {r : List Nat} {ln : Int} {n : Nat} (hl : tk.length + (c :: r).length ≤ 30000) : tk.length + (nxc c r ln n).1.length ≤ sizeLine := by
  rw [PySem.sizeLine_eq]
  exact Nat.le_trans (Nat.add_le_add_left (Nat.le_trans (nxc_len c r ln n).1 (Nat.succ_le_succ (Nat.zero_le _))) _) (Nat.le_trans hl (by decide))
variable {W : Wd} {Pm : Params} (hW : W.K = hd01.heap_1 Pm)
include hW
/-- an escape: the mark is read over, the next sign takes its place -/
theorem esc84 {k n c : Nat} {A : Around} {env : Env} {s₀ : Shared} {P₀ H : Vw} {ci m x dx pb al st : Addr} {t : Tok} {tk : Str} {l : List (Addr × Obj)} {text : Str} {ln : Int} {r : List Nat} {P : Vw} {s : Shared} {Q : Flow → Shared → Prop} {E : Value → Shared → Prop} {rest : List Stmt} {p1 p2 p3 p4 p5 p6 p7 p8 p9 : Pos}
    (hS : StreamOk (W.at []) st al text l) (hd : text.cps.toList.drop (n + 1) = r)
    (X : At W (k + 3) A env s₀ P₀ H (("ch", .str ⟨#[c]⟩) :: gtG tk ci m x dx) [] (gtM false ci m dx pb al st t l ln (n + 1)) P s)
    (next : text.cps.toList.drop (nxc c r ln (n + 1)).2.2.2 = (nxc c r ln (n + 1)).2.1 → ∀ P s, At W (k + 3) A env s₀ P₀ H (("ch", .str (nxc c r ln (n + 1)).1) :: gtG tk ci m x dx) [] (gtM false ci m dx pb al st t l (nxc c r ln (n + 1)).2.2.1 (nxc c r ln (n + 1)).2.2.2) P s → wpAny W.M A (execs rest env) Q E s)
    (hb : Bindable env "ch") {pl : Sem Bool} (he : callForm (.Name "self" p5) "_read_char" p6 p7 [] pl env) :
    wpAny W.M A (execs (.If (.Compare (.Name "ch" p1) [.Eq] [.Constant (.str "\\") 0 p2] p3) [.Assign [.Name "ch" p4] (.Call (.Attribute (.Name "self" p5) "_read_char" p6) [] [] p7) p8] [] p9 :: rest) env) Q E s := by
  have hK : (W.at []).K = hd01.heap_1 Pm := hW
  have mK77 : MethK (W.at []).K 94 "_read_char" 77 := methK hK
  have fK77 : FnK (W.at []).K 77 := fnK hK
  refine s_if X (ts_cmp nv ev_str op_eq_str) fun P s X => ?_
  unfold nxc at next
  cases h2 : ((⟨#[c]⟩ : Str) == "\\") with
  | false =>
    rw [h2, if_neg Bool.false_ne_true] at next
    exact s_nil (next hd P s X)
  | true =>
    rw [h2, if_pos rfl] at next
    refine s_setM (Mx := [(dx, .dict (lexF st l ln pb)), (al, .list [.int (n + 1 : Nat)])]) (rest := [(ci, ciM false m t), (pb, .list [])]) (X.permM rd_perm) (evm_meth nv mK77 fK77 List.mem_cons_self rfl evs_nil (kl77 (k := k + 1) hK hS).cl (he := he)) rfl hb fun P s X => s_nil ?_
    replace X : At W (k + 3) A _ s₀ P₀ _ (("ch", .str (sl1 text (n + 1))) :: gtG tk ci m x dx) [] (gtM false ci m dx pb al st t l (lnS (sl1 text (n + 1)) ln) (n + 1 + 1)) P s := X.permM rd_perm'
    cases r with
    | nil =>
      rw [sl1_nil hd] at X
      exact next (drop_nil1 hd) P s X
    | cons c2 r2 =>
      rw [sl1_cons hd, lnS_one] at X
      exact next (drop_tail hd) P s X
theorem kl84 {k n : Nat} {x dx pb al st : Addr} {l : List (Addr × Obj)} {text : Str} {line : Int} (hS : StreamOk (W.at []) st al text l) (hlen : text.length ≤ 30000) :
    KlM W (k + 4) (.ref 84) [.inst x 94 dx] (.str (lexT (text.cps.toList.drop n) line n).1) (lexM dx pb al st l line [] n) (lexM dx pb al st l (lexT (text.cps.toList.drop n) line n).2.2.1 [] (lexT (text.cps.toList.drop n) line n).2.2.2) := by
  refine klm_fn (names := ["self"]) (fun P b => ⟨⟨_, b.k _ _ (by rw [hW]; rfl), rfl⟩, by rw [hW]; rfl, rfl, fun vs h => ?_, rfl, ?_, by decide, by decide, rfl, rfl, rfl, rfl, rfl⟩) rfl rfl ?_
  · obtain ⟨v, rfl⟩ := len1 h; rfl
  · decide
  intro A L s₀ P₀ P s _ X
  replace X : At W (k + 3) A _ s₀ P₀ _ [("self", .inst x 94 dx)] [] (lexM dx pb al st l line [] n) P s := X
  have hrl : (text.cps.toList.drop n).length ≤ 30000 := by
    have h3 : text.cps.toList.length = text.length := by show _ = text.cps.size; simp
    rw [List.length_drop, h3]; exact Nat.le_trans (Nat.sub_le _ _) hlen
  generalize hres : lexT (text.cps.toList.drop n) line n = R
  have fin : ∀ {env : Env} {ended : Bool} {ci m : Addr} {t : Tok} {Γ : List (Str × D)} {v : Value} {P : Vw} {s : Shared} {a : Str × List Nat × Int × Nat}, a = R → At W (k + 3) A env s₀ P₀ (offX (ads (lexM dx pb al st l line [] n)) s₀.heap) Γ [] (gtM ended ci m dx pb al st t l a.2.2.1 a.2.2.2) P s → Is P v (.str a.1) → FinM W (k + 3) A env s₀ P₀ (offX (ads (lexM dx pb al st l line [] n)) s₀.heap) (lexM dx pb al st l R.2.2.1 [] R.2.2.2) (.str R.1) (.ret v) s := fun {env ended ci m t Γ v P s a} e X i => by
    subst e
    exact ⟨P, Γ, [], [(ci, ciM ended m t)], X.permM gt_perm, i⟩
  refine s_if X (ts_rawlist (ev_attrI nv (by trivial) (getK hW) (by rfl)) (by trivial) (by decide)) fun P s X => s_nil ?_
  refine s_set X ev_str (.inl rfl) fun P s X => ?_
  refine s_iter X (nmB hW) nv (bindK hW) rfl (.inl rfl) fun ci m t P s hm X => ?_
  replace X := X.forget (Γ' := gtG "" ci m x dx) (by trivial)
  replace X : At W (k + 3) A _ s₀ P₀ _ (gtG "" ci m x dx) [] (gtM false ci m dx pb al st t l line n) P s := X.permM (List.Perm.cons _ (List.Perm.cons _ (List.Perm.swap ..)))
  refine s_forMS X (z := "fiter") (ci := ci) (lci := [(m, methodObj (.ref 77) (.ref x))]) (by trivial) (.inl rfl)
    (fun a : Bool × Str × List Nat × Int × Nat => bif a.1 then 0 else a.2.2.1.length + 1) (fun a => gtG a.2.1 ci m x dx) (fun _ => []) (fun a => gtM a.1 ci m dx pb al st t l a.2.2.2.1 a.2.2.2.2) (I84 text R) (false, "", text.cps.toList.drop n, line, n) ⟨(fun h => nomatch h), fun _ => ⟨rfl, rfl, hrl, hres⟩⟩ rfl rfl rfl ?_
  clear X hm
  rintro ⟨ended, tk, rest, ln, n⟩ P s hq X
  have hm := X.packP (z := "fiter") (a := ci) (l := [(m, methodObj (.ref 77) (.ref x))]) (by trivial) _ List.mem_cons_self
  have hx := X.instP (z := "self") (x := x) (C := 94) (dx := dx) (by trivial)
  cases ended with
  | true =>
    refine ⟨none, [(ci, ciM true m t)], [(ci, ciM true m t)], [(dx, .dict (lexF st l ln pb)), (al, .list [.int n]), (pb, .list [])], rfl, rfl, nx_ended, ?_⟩
    exact fun P s _ X => s_ret X nv fun v P s X i => fin (hq.1 rfl) X i
  | false =>
    replace hq := hq.2 rfl
    cases rest with
    | nil =>
      refine ⟨none, [(ci, ciM false m t), (dx, .dict (lexF st l ln pb)), (al, .list [.int n])], [(ci, ciM true m t), (dx, .dict (lexF st l ln pb)), (al, .list [.int (n + 1 : Nat)])], [(pb, .list [])], rfl, rfl, nx_end (k := k) hW hS hm hx hq.2.1, ?_⟩
      exact fun P s _ X => s_ret X nv fun v P s X i => fin (a := ("", [], ln, n + 1)) hq.2.2.2 X (hq.1 ▸ i)
    | cons c r =>
      refine ⟨some (.str ⟨#[c]⟩), [(ci, ciM false m t), (dx, .dict (lexF st l ln pb)), (al, .list [.int n])], [(ci, ciM false m t), (dx, .dict (lexF st l (lnc c ln) pb)), (al, .list [.int (n + 1 : Nat)])], [(pb, .list [])], rfl, rfl, nx_item (k := k) hW hS hm hx hq.2.1, ?_⟩
      intro P s E' _ X
      obtain ⟨h0, hd, hl, hq⟩ := hq
      change tk = "" at h0
      subst h0
      replace hd : text.cps.toList.drop (n + 1) = r := drop_tail hd
      replace hl : r.length < 30000 := hl
      replace hq : lexT (c :: r) ln n = R := hq
      rw [lexT_cons] at hq
      replace X : At W (k + 3) A _ s₀ P₀ _ (("ch", .str ⟨#[c]⟩) :: gtG "" ci m x dx) [] (gtM false ci m dx pb al st t l (lnc c ln) (n + 1)) P s := X
      refine s_if X (ts_cmp nv (ev_attrI nv (by trivial) (getK hW) (by rfl)) op_in_str) fun P s X => ?_
      unfold wsc at hq
      cases h1 : inS ⟨#[c]⟩ "\n\t\r " with
      | true =>
        rw [h1, if_pos rfl] at hq
        exact s_continue ⟨(false, "", r, lnc c ln, n + 1), P, Nat.lt_succ_self _, ⟨(fun h => nomatch h), fun _ => ⟨rfl, hd, Nat.le_of_lt hl, hq⟩⟩, X.forget (by trivial)⟩
      | false =>
        rw [h1, if_neg Bool.false_ne_true] at hq
        refine s_nil (s_if X (ts_cmp nv ev_str op_eq_str) fun P s X => ?_)
        cases h2 : ((⟨#[c]⟩ : Str) == "\"") with
        | true =>
          rw [h2, if_pos rfl] at hq
          replace X := X.forget (Γ' := gtG "" ci m x dx) (by trivial)
          refine s_forMS X (z := "fiter") (ci := ci) (lci := [(m, methodObj (.ref 77) (.ref x))]) (by trivial) (.inl rfl)
            (fun a : Str × List Nat × Int × Nat => a.2.1.length + 1) (fun a => gtG a.1 ci m x dx) (fun _ => []) (fun a => gtM false ci m dx pb al st t l a.2.2.1 a.2.2.2) (I84L lexQ text R) ("", r, lnc c ln, n + 1) ⟨hd, by show 0 + r.length ≤ _; rw [Nat.zero_add]; exact Nat.le_of_lt hl, hq⟩ rfl rfl rfl ?_
          clear X hm hx hd hl hq h1 h2
          rintro ⟨tk, rest, ln, n⟩ P s ⟨hd, hl, hq⟩ X
          have hm := X.packP (z := "fiter") (a := ci) (l := [(m, methodObj (.ref 77) (.ref x))]) (by trivial) _ List.mem_cons_self
          have hx := X.instP (z := "self") (x := x) (C := 94) (dx := dx) (by trivial)
          cases rest with
          | nil =>
            refine ⟨none, [(ci, ciM false m t), (dx, .dict (lexF st l ln pb)), (al, .list [.int n])], [(ci, ciM true m t), (dx, .dict (lexF st l ln pb)), (al, .list [.int (n + 1 : Nat)])], [(pb, .list [])], rfl, rfl, nx_end (k := k) hW hS hm hx hd, ?_⟩
            exact fun P s _ X => s_nil (s_nil ⟨(true, tk, [], ln, n + 1), P, Nat.succ_pos _, ⟨fun _ => hq, (fun h => nomatch h)⟩, X⟩)
          | cons c r =>
            refine ⟨some (.str ⟨#[c]⟩), [(ci, ciM false m t), (dx, .dict (lexF st l ln pb)), (al, .list [.int n])], [(ci, ciM false m t), (dx, .dict (lexF st l (lnc c ln) pb)), (al, .list [.int (n + 1 : Nat)])], [(pb, .list [])], rfl, rfl, nx_item (k := k) hW hS hm hx hd, ?_⟩
            intro P s E' _ X
            replace X : At W (k + 3) A _ s₀ P₀ _ (("ch", .str ⟨#[c]⟩) :: gtG tk ci m x dx) [] (gtM false ci m dx pb al st t l (lnc c ln) (n + 1)) P s := X
            replace hq := (lexQ_cons c r tk ln n).symm.trans hq
            refine s_if X (ts_cmp nv ev_str op_eq_str) fun P s X => ?_
            cases h1 : ((⟨#[c]⟩ : Str) == "\"") with
            | true =>
              rw [h1, if_pos rfl] at hq
              exact s_ret X nv fun v P s X i => fin hq X i
            | false =>
              rw [h1, if_neg Bool.false_ne_true] at hq
              refine esc84 hW hS (drop_tail hd) X (fun hd P s X => s_nil ?_) (.inl rfl) (he := by rfl)
              refine s_aug X (by trivial) nv (op_iadd_str (sz84 hl)) (.inl rfl) fun P s X => s_nil ?_
              exact ⟨(tk ++ (nxc c r (lnc c ln) (n + 1)).1, (nxc c r (lnc c ln) (n + 1)).2.1, (nxc c r (lnc c ln) (n + 1)).2.2.1, (nxc c r (lnc c ln) (n + 1)).2.2.2), P, Nat.succ_lt_succ (Nat.lt_succ_of_le (nxc_len c r (lnc c ln) (n + 1)).2), I84L.step hl hq hd, X.forget (by trivial)⟩
        | false =>
          rw [h2, if_neg Bool.false_ne_true] at hq
          refine esc84 hW hS hd X (fun hd P s X => ?_) (.inl rfl) (he := by rfl)
          have hl2 := nxc_len c r (lnc c ln) (n + 1)
          refine s_aug X (by trivial) nv (op_iadd_str (by rw [PySem.sizeLine_eq]; exact Nat.le_trans (Nat.add_le_add_left hl2.1 _) (by decide))) (.inl rfl) fun P s X => ?_
          replace X := X.forget (Γ' := gtG (("" : Str) ++ (nxc c r (lnc c ln) (n + 1)).1) ci m x dx) (by trivial)
          refine s_forMS X (z := "fiter") (ci := ci) (lci := [(m, methodObj (.ref 77) (.ref x))]) (by trivial) (.inl rfl)
            (fun a : Str × List Nat × Int × Nat => a.2.1.length + 1) (fun a => gtG a.1 ci m x dx) (fun _ => []) (fun a => gtM false ci m dx pb al st t l a.2.2.1 a.2.2.2) (I84L lexB text R) (_, _, _, _) (I84L.step (by show 0 + (r.length + 1) ≤ _; rw [Nat.zero_add]; exact hl) hq hd) rfl rfl rfl ?_
          clear X hm hx hd hl hq h1 h2 hl2
          rintro ⟨tk, rest, ln, n⟩ P s ⟨hd, hl, hq⟩ X
          have hm := X.packP (z := "fiter") (a := ci) (l := [(m, methodObj (.ref 77) (.ref x))]) (by trivial) _ List.mem_cons_self
          have hx := X.instP (z := "self") (x := x) (C := 94) (dx := dx) (by trivial)
          cases rest with
          | nil =>
            refine ⟨none, [(ci, ciM false m t), (dx, .dict (lexF st l ln pb)), (al, .list [.int n])], [(ci, ciM true m t), (dx, .dict (lexF st l ln pb)), (al, .list [.int (n + 1 : Nat)])], [(pb, .list [])], rfl, rfl, nx_end (k := k) hW hS hm hx hd, ?_⟩
            exact fun P s _ X => s_nil (s_nil ⟨(true, tk, [], ln, n + 1), P, Nat.succ_pos _, ⟨fun _ => hq, (fun h => nomatch h)⟩, X⟩)
          | cons c r =>
            refine ⟨some (.str ⟨#[c]⟩), [(ci, ciM false m t), (dx, .dict (lexF st l ln pb)), (al, .list [.int n])], [(ci, ciM false m t), (dx, .dict (lexF st l (lnc c ln) pb)), (al, .list [.int (n + 1 : Nat)])], [(pb, .list [])], rfl, rfl, nx_item (k := k) hW hS hm hx hd, ?_⟩
            intro P s E' _ X
            replace X : At W (k + 3) A _ s₀ P₀ _ (("ch", .str ⟨#[c]⟩) :: gtG tk ci m x dx) [] (gtM false ci m dx pb al st t l (lnc c ln) (n + 1)) P s := X
            replace hq := (lexB_cons c r tk ln n).symm.trans hq
            refine s_if X (ts_cmp nv (ev_attrI nv (by trivial) (getK hW) (by rfl)) op_in_str) fun P s X => ?_
            unfold wsc at hq
            cases h1 : inS ⟨#[c]⟩ "\n\t\r " with
            | true =>
              rw [h1, if_pos rfl] at hq
              exact s_ret X nv fun v P s X i => fin hq X i
            | false =>
              rw [h1, if_neg Bool.false_ne_true] at hq
              refine esc84 hW hS (drop_tail hd) X (fun hd P s X => s_nil ?_) (.inl rfl) (he := by rfl)
              refine s_aug X (by trivial) nv (op_iadd_str (sz84 hl)) (.inl rfl) fun P s X => s_nil ?_
              exact ⟨(tk ++ (nxc c r (lnc c ln) (n + 1)).1, (nxc c r (lnc c ln) (n + 1)).2.1, (nxc c r (lnc c ln) (n + 1)).2.2.1, (nxc c r (lnc c ln) (n + 1)).2.2.2), P, Nat.succ_lt_succ (Nat.lt_succ_of_le (nxc_len c r (lnc c ln) (n + 1)).2), I84L.step hl hq hd, X.forget (by trivial)⟩
end
section
set_option maxHeartbeats 4000000
/-! _law_stream -/
noncomputable def StreamOut (W : Wd) (Tb : Addr) (text : Str) : OutT := fun d Mx' N => ∃ st l al ps', d = .pack st l ∧ StreamOk W st al text l ∧ Mx' = [(Tb, .obj (tabObj ps'))] ∧ N = [(al, .list [.int (0 : Nat)])]
variable {W : Wd} {Pm : Params} (hW : W.K = hd01.heap_1 Pm)
include hW
theorem kl171 {k : Nat} {text : Str} (hlen : text.length ≤ 30000) : KlX W (k + 1) (.ref 171) [.str text] [(166, .obj (tabObj #[]))] (StreamOut (W.at []) 166 text) := by
  refine klx_fnZ (names := ["text"]) (fun P b => ⟨⟨_, b.k _ _ (by rw [hW]; rfl), rfl⟩, by rw [hW]; rfl, rfl, fun vs h => ?_, rfl, ?_, by decide, by decide, rfl, rfl, rfl, rfl, rfl⟩) rfl ?_
  · obtain ⟨v, rfl⟩ := len1 h; rfl
  · decide
  intro A s₀ P₀ P s _ X
  replace X : At W k A _ s₀ P₀ _ [("text", .str text)] [] [(166, .obj (tabObj #[]))] P s := X
  refine s_setN X (evn_list (evs_cons ev_int evs_nil)) (.inr ⟨rfl, rfl⟩) fun P s X => ?_
  refine s_lambda (ps := #[]) (Mx := []) X rfl (by rw [hW]; rfl) trivial rfl rfl rfl (.inl rfl) fun st fd c1 P s h0 X => ?_
  replace X : At W k A _ s₀ P₀ _ _ _ ([(166, .obj (tabObj (#[] ++ #[rawInt 193, rawInt 13, .ref c1])))] ++ [(st, .obj (fnObj0 fd))]) P s := X.permM List.perm_append_comm
  refine s_def X rfl (by rw [hW]; rfl) trivial rfl rfl rfl rfl rfl (.inl rfl) fun rd of c2 oc vs t P s hv1 hv2 hof X => ?_
  obtain ⟨doc, pm, ctv, hof⟩ := hof
  replace X := X.forget (Γ' := [("stream", .raw st), ("read", .pack rd [(rd, of), (c2, oc)]), ("text", .str text)]) (by trivial)
  replace X := X.permM List.perm_append_comm
  refine s_fnattr X h0 (by trivial) fun dd hs tk n P s X => ?_
  refine s_ret X nv fun v P s X i => ?_
  obtain ⟨oc2, vt, hc2, hd2, it⟩ := X.cellv (x := "text") (by trivial) rfl rfl
  obtain ⟨al, oc1, X2, hal0, hc1, hd1⟩ := X.unlist rfl rfl
  have o1 := X2.cellOff (x := "at") rfl
  have o2 := X2.cellOff (x := "text") rfl
  obtain ⟨tt, rfl⟩ := Is.strI it
  obtain ⟨rfl, hl⟩ := i.packI
  have X3 : At W k A _ s₀ P₀ _ _ _ (([(166, .obj (tabObj (#[] ++ #[rawInt 193, rawInt 13, .ref c1] ++ #[rawInt 195, rawInt 4, .ref c2])))] ++ [(al, .list [.int (0 : Nat)])]) ++ []) P s := X2.permM (List.Perm.swap ..)
  have e1 : s.heap.get? (s₀.heap.objs.size + 2) = some oc1 := hc1
  have e2 : s.heap.get? (s₀.heap.objs.size + 1) = some oc2 := hc2
  have z1 : s₀.heap.get? (s₀.heap.objs.size + 2) = none := Heap.get?_none_of_le (by omega)
  have z2 : s₀.heap.get? (s₀.heap.objs.size + 1) = none := Heap.get?_none_of_le (by omega)
  have o1' : P (s₀.heap.objs.size + 2) = none ∧ s₀.heap.objs.size + 2 ∉ ads [(al, MO.list [.int (0 : Nat)]), (166, .obj (tabObj (#[] ++ #[rawInt 193, rawInt 13, .ref c1] ++ #[rawInt 195, rawInt 4, .ref c2])))] := o1
  have o2' : P (s₀.heap.objs.size + 1) = none ∧ s₀.heap.objs.size + 1 ∉ ads [(al, MO.list [.int (0 : Nat)]), (166, .obj (tabObj (#[] ++ #[rawInt 193, rawInt 13, .ref c1] ++ #[rawInt 195, rawInt 4, .ref c2])))] := o2
  have sw : ∀ b, b ∉ ads [(al, MO.list [.int (0 : Nat)]), (166, .obj (tabObj (#[] ++ #[rawInt 193, rawInt 13, .ref c1] ++ #[rawInt 195, rawInt 4, .ref c2])))] → b ∉ ads ([(166, MO.obj (tabObj (#[] ++ #[rawInt 193, rawInt 13, .ref c1] ++ #[rawInt 195, rawInt 4, .ref c2])))] ++ [(al, .list [.int (0 : Nat)])]) := fun b hb hm => hb (((List.Perm.swap ..).map _).subset hm)
  let lz : List (Addr × Obj) := [(s₀.heap.objs.size + 2, oc1), (s₀.heap.objs.size + 1, oc2)]
  let ll : List (Addr × Obj) := (st, fnObj dd fd) :: (dd, dictOf [⟨hs, .str "read" tk, .ref rd⟩] n) :: (rd, of) :: (c2, oc) :: lz
  have hP : ∀ p ∈ lz, P p.1 = none := fun p hp => by
    simp only [lz, List.mem_cons, List.not_mem_nil, or_false] at hp
    rcases hp with rfl | rfl
    · exact o1'.1
    · exact o2'.1
  have hnd : (lz.map (·.1)).Nodup := by
    show [s₀.heap.objs.size + 2, s₀.heap.objs.size + 1].Nodup
    simp
  refine ⟨P, _, _, _, _, [], .pack st ll, lz, X3, ⟨st, ll, al, _, rfl, ⟨dd, fd, hs, tk, n, rd, of, _, by simp [ll], by simp [ll], by simp [ll], by rw [hof], ?_⟩, rfl, rfl⟩, rfl, fun p hp => by rw [List.mem_singleton.mp hp]; exact hal0, hnd, fun p hp => ?_, .pack fun p hp => ?_⟩
  · exact rd_ok (W := W.at []) (c1 := s₀.heap.objs.size + 2) (c2 := s₀.heap.objs.size + 1) (cc := c2) (o := of) (tt := tt) (oc1 := oc1) (oc2 := oc2) (occ := oc) (vs := vs) (tq := t) (by rw [PySem.sizeLine_eq]; omega) rfl (by simp [ll]) (by rw [hof]) (by simp [ll, lz]) hd1 (by simp [ll, lz]) hd2 (by simp [ll]) hv1 hv2 rfl rfl rfl rfl rfl rfl rfl (fun v => rfl)
  · simp only [lz, List.mem_cons, List.not_mem_nil, or_false] at hp
    rcases hp with rfl | rfl
    · exact ⟨z1, e1, o1'.1, sw _ o1'.2⟩
    · exact ⟨z2, e2, o2'.1, sw _ o2'.2⟩
  · have hp' : p ∈ [(st, fnObj dd fd), (dd, dictOf [⟨hs, .str "read" tk, .ref rd⟩] n), (rd, of), (c2, oc)] ++ lz := hp
    rcases List.mem_append.mp hp' with h | h
    · exact addL_le hP _ _ (hl p h)
    · exact addL_at hnd p h
end
section
set_option maxHeartbeats 4000000
/-! _law_steps -/
noncomputable def isort (ns : List Int) : List Int := ns.mergeSort (fun a b => decide (a ≤ b))
theorem isort_only {ns ms : List Int} (h : ms.Perm ns) (hs : ms.Pairwise (· ≤ ·)) : ms = isort ns := by
  have p : (isort ns).Perm ns := List.mergeSort_perm ..
  have q : (isort ns).Pairwise (fun a b => decide (a ≤ b) = true) := List.pairwise_mergeSort (le := fun a b => decide (a ≤ b)) (fun a b c h1 h2 => by simp at *; omega) (fun a b => by simp; omega) ns
  refine List.Perm.eq_of_pairwise (le := (· ≤ ·)) (fun a b _ _ h1 h2 => Int.le_antisymm h1 h2) hs (q.imp fun {a b} h => by simpa using h) (h.trans p.symm)
noncomputable def stTie (w : Str) (st : List (Str × Int) × List Str) (tie : Str) : List (Str × Int) × List Str :=
  if ((Txt.replace tie (Txt.item w 0) "").length : Int) == 1 && !(kget st.1 (Txt.replace tie (Txt.item w 0) "")).isSome then (st.1 ++ [(Txt.replace tie (Txt.item w 0) "", (w.length : Int))], st.2 ++ [Txt.replace tie (Txt.item w 0) "" ++ Txt.mul "." w.length]) else st
noncomputable def stGo (ties : List Str) : Nat → List (Str × Int) → List Str → List Int → Option (List (Str × Int) × List Str × List Int)
  | 0, ks, q, came => some (ks, q, came)
  | j + 1, ks, q, came => match q with
    | [] => none
    | w :: q => if decide (1 ≤ w.length) && decide (w.length ≤ 50) && !(Txt.item w 0 == "") && decide (ks.length ≤ 200) && decide (q.length ≤ 200) && decide (came.length ≤ 50) && ties.all (fun t => decide ((Txt.replace t (Txt.item w 0) "").length ≤ 1000)) then stGo ties j (ties.foldl (stTie w) (ks, q)).1 (ties.foldl (stTie w) (ks, q)).2 (came ++ [(w.length : Int) - 1]) else none
noncomputable def stInts (ks : List (Str × Int)) : List Int := [(kget ks "a").getD 0, (kget ks "b").getD 0, (kget ks "c").getD 0, (kget ks "d").getD 0, (kget ks "e").getD 0]
noncomputable def tiesOk (ties : List Str) : Bool := decide (ties.length ≤ 64) && ties.all fun t => decide (t.length ≤ 1000)
noncomputable def stAns (ties : List Str) (start : Str) : Option (List Int × Bool × List Str) := (stGo ties 5 [(start, 0)] [start] []).map fun r => (stInts r.1, decide (r.2.2 = isort r.2.2), r.2.1)
theorem mulDots : ∀ n : Nat, n < 51 → MulOk "." n := by unfold MulOk; decide +kernel
theorem mulDots_len : ∀ n : Nat, n < 51 → (Txt.mul "." n).length ≤ 1000 := by decide +kernel
noncomputable abbrev stG (d x dx : Addr) (ties : List Str) (start : Str) : List (Str × D) := [("steps", .raw d), ("line", .inst x 94 dx), ("ties", .list (ties.map .str)), ("start", .str start)]
noncomputable abbrev stM (dx pb al st : Addr) (l : List (Addr × Obj)) (line : Int) (n : Nat) (d : Addr) (q : List Str) (o : Obj) : List (Addr × MO) := lexM dx pb al st l line (q.map .str) n ++ [(d, .obj o)]
noncomputable def I181 (W : Wd) (ties : List Str) (R : List (Str × Int) × List Str × List Int) (i : Nat) (a : List (Str × Int) × List Str × List Int × Obj) : Prop := DO W a.2.2.2 a.1 ∧ stGo ties (5 - i) a.1 a.2.1 a.2.2.1 = some R ∧ a.2.2.1.length = i
noncomputable def I181b (W : Wd) (ties : List Str) (w : Str) (fin : List (Str × Int) × List Str) (j : Nat) (a : List (Str × Int) × List Str × Obj) : Prop := DO W a.2.2 a.1 ∧ (ties.drop j).foldl (stTie w) (a.1, a.2.1) = fin ∧ a.1.length ≤ 200 + j ∧ a.2.1.length ≤ 200 + j
theorem stGo_step {ties : List Str} {i : Nat} {ks : List (Str × Int)} {q : List Str} {came : List Int} {R : List (Str × Int) × List Str × List Int} (hi : i < 5) (h : stGo ties (5 - i) ks q came = some R) : ∃ w q0, q = w :: q0 ∧ 1 ≤ w.length ∧ w.length ≤ 50 ∧ (Txt.item w 0 == "") = false ∧ ks.length ≤ 200 ∧ q0.length ≤ 200 ∧ (∀ t ∈ ties, (Txt.replace t (Txt.item w 0) "").length ≤ 1000) ∧ stGo ties (5 - (i + 1)) (ties.foldl (stTie w) (ks, q0)).1 (ties.foldl (stTie w) (ks, q0)).2 (came ++ [(w.length : Int) - 1]) = some R := by
  rw [az_5' hi] at h
  rw [az_5]
  cases q with
  | nil => rw [stGo] at h; cases h
  | cons w q =>
    rw [stGo] at h
    split at h
    · rename_i hc
      simp only [Bool.and_eq_true, decide_eq_true_eq, Bool.not_eq_true', List.all_eq_true] at hc
      exact ⟨w, q, rfl, hc.1.1.1.1.1.1, hc.1.1.1.1.1.2, hc.1.1.1.1.2, hc.1.1.1.2, hc.1.1.2, hc.2, h⟩
    · cases h
variable {W : Wd} {Pm : Params} (hW : W.K = hd01.heap_1 Pm)
include hW
theorem kl181 {k n : Nat} {x dx pb al st : Addr} {l : List (Addr × Obj)} {line : Int} {ties : List Str} {start : Str} {nis : List Int} {b : Bool} {q' : List Str} (hok : tiesOk ties = true) (h : stAns ties start = some (nis, b, q')) :
    KlM W (k + 2) (.ref 181) [.inst x 94 dx, .list (ties.map .str), .str start] (.tup [.list (nis.map .int), .bool b]) (lexM dx pb al st l line [] n) (lexM dx pb al st l line (q'.map .str) n) := by
  refine klm_fn (names := ["line", "ties", "start"]) (fun P b => ⟨⟨_, b.k _ _ (by rw [hW]; rfl), rfl⟩, by rw [hW]; rfl, rfl, fun vs h => ?_, rfl, ?_, by decide, by decide, rfl, rfl, rfl, rfl, rfl⟩) rfl rfl ?_
  · obtain ⟨v, u, w, rfl⟩ := len3 h; rfl
  · decide
  intro A L s₀ P₀ P s _ X
  have hK : (W.at []).K = hd01.heap_1 Pm := hW
  replace X : At W (k + 1) A _ s₀ P₀ _ [("line", .inst x 94 dx), ("ties", .list (ties.map .str)), ("start", .str start)] [] (lexM dx pb al st l line [] n) P s := X
  unfold stAns at h
  obtain ⟨R, hgo, he⟩ := Option.map_eq_some_iff.mp h
  have e1 : nis = stInts R.1 := congrArg Prod.fst he.symm
  have e2 : b = decide (R.2.2 = isort R.2.2) := congrArg (fun z => z.2.1) he.symm
  have e3 : q' = R.2.1 := congrArg (fun z => z.2.2) he.symm
  subst e1 e2 e3
  clear he h
  simp only [tiesOk, Bool.and_eq_true, decide_eq_true_eq, List.all_eq_true] at hok
  have mG : MethK (W.at []).K 94 "get_token" 84 := methK hK
  have mP : MethK (W.at []).K 94 "push_token" 91 := methK hK
  have fG : FnK (W.at []).K 84 := fnK hK
  have fP : FnK (W.at []).K 91 := fnK hK
  refine s_dict1 X nv ev_int (.inr ⟨rfl, rfl⟩) fun d o P s lo hd X => ?_
  replace X : At W (k + 1) A _ s₀ P₀ _ (stG d x dx ties start) [] (lexM dx pb al st l line [] n ++ [(d, .obj o)]) P s := X.permM List.perm_append_comm
  refine s_exprM X (evm_meth nv mP fP List.mem_cons_self rfl (evs_cons nv evs_nil) (kl91 (W := W.at []) hK (by simp)).cl) rfl fun P s X => ?_
  refine s_setN X (evn_list evs_nil) (.inl rfl) fun P s X => ?_
  replace X : At W (k + 1) A _ s₀ P₀ _ (stG d x dx ties start) [("came", ([] : List Int).map .int)] (stM dx pb al st l line n d [start] o) P s := X
  refine s_forS X (evi_range1 (n := 5) (nmB hW) ev_int (by decide)) (.inl rfl)
    (fun _ _ => stG d x dx ties start) (fun _ a => [("came", a.2.2.1.map .int)]) (fun _ a => stM dx pb al st l line n d a.2.1 a.2.2.2) (I181 W ties R) (fun _ _ _ => False) ([(start, 0)], [start], [], o) ⟨hd, hgo, rfl⟩ rfl rfl rfl (fun _ _ => ⟨by trivial, by trivial⟩) ?_ ?_ (fun _ _ _ _ _ h _ => h.elim)
  · clear X hgo hd
    rintro i dd H' ⟨ks, q, came, o⟩ P' s' E' hdd ⟨hd, hst, hcl⟩ X back
    have hi := (rngs_get hdd).1
    obtain ⟨w, q, rfl, hw1, hw2, hw3, hk2, hq2, hrp, hst⟩ := stGo_step hi hst
    clear hdd back
    replace hcl : came.length = i := hcl
    have hw62 : w.length < 2 ^ 62 := Nat.lt_of_le_of_lt hw2 (by decide)
    refine s_setM X (evm_meth nv mG fG List.mem_cons_self rfl evs_nil (kl84p (W := W.at []) hK (by rw [List.length_map]; exact Nat.le_trans hq2 (by decide))).cl) rfl (.inl rfl) fun P s X => ?_
    refine s_append X (ev_bin (ev_callB (nmB hW) (evs_cons nv evs_nil) (cl_len_str (x := w) hw62)) ev_int op_sub_int) (by rw [List.length_map, hcl, PySem.sizeLine_eq]; exact Nat.le_trans (Nat.le_of_lt hi) (by decide)) fun P s X => ?_
    replace X := X.forget (Γ' := ("word", .str w) :: stG d x dx ties start) (by trivial)
    replace X := X.delta (Δ' := [("came", (came ++ [(w.length : Int) - 1]).map .int)]) (by rw [List.map_append]; rfl)
    generalize hfin : ties.foldl (stTie w) (ks, q) = fin at hst
    refine s_forS X (evi_listP nv) (.inl rfl)
      (fun _ _ => ("word", .str w) :: stG d x dx ties start) (fun _ _ => [("came", (came ++ [(w.length : Int) - 1]).map .int)]) (fun _ a => stM dx pb al st l line n d a.2.1 a.2.2) (I181b W ties w fin) (fun _ _ _ => False) (ks, q, o) ⟨hd, hfin, hk2, hq2⟩ rfl rfl rfl (fun _ _ => ⟨by trivial, by trivial⟩) ?_ ?_ (fun _ _ _ _ _ h _ => h.elim)
    · clear X hfin hst hk2 hq2 hd hcl hi
      rintro j td H2 ⟨ks, q, o⟩ P2 s2 E2 htd ⟨hd, hf, hk3, hq3⟩ X back2
      rw [List.getElem?_map] at htd
      obtain ⟨tie, ht, rfl⟩ := Option.map_eq_some_iff.mp htd
      clear htd back2
      replace hf : (ties.drop j).foldl (stTie w) (ks, q) = fin := hf
      rw [drop_consP ht, List.foldl_cons] at hf
      have htm := List.mem_of_getElem? ht
      have hj : j ≤ 64 := Nat.le_trans (Nat.le_of_lt (List.getElem?_eq_some_iff.mp ht).1) hok.1
      have hk4 : ks.length ≤ 300 := Nat.le_trans (Nat.le_trans hk3 (Nat.add_le_add_left hj 200)) (by decide)
      have hq4 : q.length ≤ 300 := Nat.le_trans (Nat.le_trans hq3 (Nat.add_le_add_left hj 200)) (by decide)
      have htl := hok.2 tie htm
      refine s_set X (ev_replaceI (y := w) (i := 0) nv nv ev_int (by decide) (by omega) (by omega) hw3 (by omega)) (.inl rfl) fun P s X => ?_
      have hol := hrp tie htm
      unfold stTie at hf
      generalize Txt.replace tie (Txt.item w 0) "" = oth at X hol hf
      replace X : At W (k + 1) A _ s₀ _ _ (("other", .str oth) :: ("word", .str w) :: stG d x dx ties start) [("came", (came ++ [(w.length : Int) - 1]).map .int)] (stM dx pb al st l line n d q o) P s := X.forget (by trivial)
      refine s_if X (ts_and2 (ts_cmp (ev_callB (nmB hW) (evs_cons nv evs_nil) (cl_len_str (Nat.lt_of_le_of_lt hol (by decide)))) ev_int op_eq_int) fun _ => ts_notin nv nv (by simp) hd lo) fun P s X => ?_
      cases hb : ((oth.length : Int) == 1 && !(kget ks oth).isSome) with
      | false =>
        rw [hb, if_neg Bool.false_ne_true] at hf
        exact s_nil (s_nil ⟨(ks, q, o), P, ⟨hd, hf, Nat.le_succ_of_le hk3, Nat.le_succ_of_le hq3⟩, X.forget (by trivial)⟩)
      | true =>
        rw [hb, if_pos rfl] at hf
        rw [Bool.and_eq_true, Bool.not_eq_true', Option.isSome_eq_false_iff, Option.isNone_iff_eq_none] at hb
        replace X := X.permM (Mx' := (d, .obj o) :: lexM dx pb al st l line (q.map .str) n) (List.perm_append_comm (l₁ := [(d, MO.obj o)]))
        refine s_dictset X (ev_callB (nmB hW) (evs_cons nv evs_nil) (cl_len_str (x := w) hw62)) nv nv hd hb.2 (Nat.le_trans hk4 (by decide)) fun o' P s hd' X => ?_
        replace X : At W (k + 1) A _ s₀ _ _ _ _ (stM dx pb al st l line n d q o') P s := X.permM List.perm_append_comm
        refine s_exprM X (evm_meth nv mP fP List.mem_cons_self rfl (evs_cons (ev_bin nv (ev_bin ev_str (ev_callB (nmB hW) (evs_cons nv evs_nil) (cl_len_str (x := w) hw62)) (op_mul_str ?_)) (op_add_str ?_)) evs_nil) (kl91 (W := W.at []) hK (by rw [List.length_map]; exact Nat.le_trans hq4 (by decide))).cl) rfl fun P s X => ?_
        · exact mulDots _ (Nat.lt_succ_of_le hw2)
        · rw [PySem.sizeLine_eq]
          exact Nat.le_trans (Nat.add_le_add hol (mulDots_len w.length (Nat.lt_succ_of_le hw2))) (by decide)
        refine s_nil (s_nil ⟨(ks ++ [(oth, (w.length : Int))], q ++ [oth ++ Txt.mul "." w.length], o'), P, ⟨hd', hf, by rw [List.length_append]; exact Nat.succ_le_succ hk3, by rw [List.length_append]; exact Nat.succ_le_succ hq3⟩, ?_⟩)
        exact (X.forget (by trivial)).mem (by show lexM _ _ _ _ _ _ _ _ ++ _ = lexM _ _ _ _ _ _ _ _ ++ _; rw [List.map_append]; rfl)
    · rintro ⟨ks, q, o⟩ P s ⟨hd, hf, _⟩ X
      rw [List.length_map, List.drop_length, List.foldl_nil] at hf
      subst hf
      exact s_nil ⟨(ks, q, _, o), P, ⟨hd, hst, by rw [List.length_append, hcl]; rfl⟩, X.forget (by trivial)⟩
  · clear X hgo hd
    rintro ⟨ks, q, came, o⟩ P s ⟨hd, hst, hcl⟩ X
    rw [rngs_len, Nat.sub_self, stGo] at hst
    have hst := Option.some.inj hst
    subst hst
    obtain ⟨P, X⟩ := X.freeze
    refine s_ret (d := .tup [.list ((stInts ks).map .int), .bool (decide (came = isort came))]) X (ev_tuple (evs_cons (EvN.ev ?_) (evs_cons ?_ evs_nil))) fun v P s X i => ⟨P, _, _, [(d, .obj o)], X, i⟩
    · refine evn_for [("steps", .raw d)] [] (evi_str (x := "abcde") ev_str) rfl (fun C i d1 d2 h1 h2 => ?_)
      obtain ⟨c, hc, rfl⟩ := chars_get h1
      have e : d2 = .int ((kget ks ⟨#[c]⟩).getD 0) := by
        rw [List.getElem?_map] at h2
        obtain ⟨z, hz, rfl⟩ := Option.map_eq_some_iff.mp h2
        rw [show stInts ks = ("abcde" : Str).cps.toList.map (fun c => (kget ks ⟨#[c]⟩).getD 0) from rfl, List.getElem?_map, hc] at hz
        exact congrArg D.int (Option.some.inj hz).symm
      subst e
      exact ev_dget nv nv ev_int (by simp) hd lo
    · refine ev_cmp nv (EvN.ev (evn_sorted (ms := isort came) (nmB hW) (Ev.list nv) ?_ fun ms p q => isort_only p q)) op_eq_ints
      rw [hcl, rngs_len]; decide
end
section
set_option maxHeartbeats 4000000
/-! what law computes -/
noncomputable def drs (ns : List Int) : List Int := (ns.take 4).map (fun x => Int.fmod x 1000000) ++ ([38, 97, 12, 37] : List Int).drop (ns.take 4).length
noncomputable def hLast (h : List Str) : Str := h.getLastD Str.empty
noncomputable def hPre (h : List Str) (x : Int) : Str := Txt.slice (hLast h) none (some (1 + Int.fmod x (hLast h).length))
noncomputable def hStep (h : List Str) (x : Int) : List Str := h ++ [hPre h x ++ Txt.item "abcde" h.length]
noncomputable def hOk (h : List Str) (x : Int) : Bool := decide (1 ≤ h.length) && decide (h.length ≤ 4) && decide (1 ≤ (hLast h).length) && decide ((hLast h).length ≤ 100) && decide ((hPre h x).length + (Txt.item "abcde" h.length).length ≤ 1000)
noncomputable def hungN (dr : List Int) (i : Nat) : List Str := (dr.take i).foldl hStep ["a"]
noncomputable def chIx (c : Nat) : Int := Txt.find "abcde" ⟨#[c]⟩ - 1
noncomputable def chOk (c : Nat) : Bool := !(Builtin.Str.occurrences "abcde" ⟨#[c]⟩ 0 5 1).isEmpty && decide (0 ≤ chIx c) && decide (chIx c < 4)
noncomputable def tailOf (row : Str) : Str := Txt.slice row (some 1) none
noncomputable def stepsOf (dr : List Int) (row : Str) : List Int := (tailOf row).cps.toList.map fun c => Int.fmod (Int.fdiv (dr.getD (chIx c).toNat 0) 12) 3
noncomputable def leadPart (place : Nat) (t : Int) : Str := (["\t", " \t", Txt.mul " " (2 + (place : Int))] : List Str).getD t.toNat ""
noncomputable def leadParts (sts : List Int) : List Str := (List.range sts.length).map fun i => leadPart i (sts.getD i 0)
noncomputable def leadOf (sts : List Int) : Str := Txt.join "" (leadParts sts)
noncomputable def leadOk (sts : List Int) : Bool := decide (sts.length ≤ 40) && sts.all (fun t => decide (0 ≤ t) && decide (t < 3)) && JoinOk "" (leadParts sts)
noncomputable def sepOf (r : Nat) : Str := ([":\n", "\n:"] : List Str).getD (r % 2) ""
noncomputable def drawnRow (dr : List Int) (hu : Str) (r : Nat) : Str := ((leadOf (stepsOf dr hu) ++ Txt.join "." (signs hu)) ++ sepOf r) ++ ".\""
noncomputable def rowOk (dr : List Int) (hu : Str) (r : Nat) : Bool := decide (hu.length ≤ 100) && (tailOf hu).cps.toList.all chOk && leadOk (stepsOf dr hu) && JoinOk "." (signs hu) && decide ((leadOf (stepsOf dr hu)).length ≤ 1000) && decide ((Txt.join "." (signs hu)).length ≤ 1000) && decide ((drawnRow dr hu r).length ≤ 1000)
noncomputable def drawnOf (dr : List Int) (hu : List Str) : List Str := (List.range 5).map fun r => drawnRow dr (hu.getD r "") r
noncomputable def kindsOf (dr : List Int) : List Int := [Int.fmod (Int.fdiv dr.sum 24) 3] ++ dr.map fun x => Int.fmod (Int.fdiv x 36) 3
noncomputable def textPart (drawn : List Str) (kinds : List Int) (r : Nat) : Str := spelled (drawn.getD r "") (kinds.getD r 0) ++ Txt.slice " \t\r\n" (some r) (some ((r : Int) + 1))
noncomputable def textParts (drawn : List Str) (kinds : List Int) : List Str := (List.range 5).map (textPart drawn kinds)
noncomputable def textOf (drawn : List Str) (kinds : List Int) : Str := Txt.join "" (textParts drawn kinds)
noncomputable def textOk (drawn : List Str) (kinds : List Int) : Bool := ((List.range 5).all fun r => spOk (drawn.getD r "") && decide ((spelled (drawn.getD r "") (kinds.getD r 0)).length ≤ 10000)) && JoinOk "" (textParts drawn kinds) && decide ((textOf drawn kinds).length ≤ 30000)
noncomputable def lexR (text : Str) (s : Int × Nat) : Str × List Nat × Int × Nat := lexT (text.cps.toList.drop s.2) s.1 s.2
noncomputable def lexSt (text : Str) : Nat → Int × Nat
  | 0 => (1, 0)
  | i + 1 => ((lexR text (lexSt text i)).2.2.1, (lexR text (lexSt text i)).2.2.2)
noncomputable def lexTok (text : Str) (i : Nat) : Str := (lexR text (lexSt text i)).1
structure LexOk (text : Str) (drawn : List Str) : Prop where
  toks : ∀ i, i < 5 → lexTok text i = drawn.getD i ""
  end_ : lexTok text 5 = ""
  ln5 : (lexSt text 5).1 = 7
  ln6 : (lexSt text 6).1 = 7
noncomputable def dotIx (row : Str) (r : Nat) : Int := Txt.find row (Txt.item ":\n" ((r % 2 : Nat) : Int))
noncomputable def dotOf (row : Str) (r : Nat) : Str := Txt.slice row (some ((wsOf row).n : Int)) (some (dotIx row r))
noncomputable def dotOk (row : Str) (r : Nat) : Bool := decide (row.cps.size ≤ 1000) && wsOk (wsOf row) && !(Builtin.Str.occurrences row (Txt.item ":\n" ((r % 2 : Nat) : Int)) 0 row.length 1).isEmpty && decide ((dotOf row r).length ≤ 1000)
noncomputable def dotsOf (drawn : List Str) : List Str := (List.range 5).map fun r => dotOf (drawn.getD r "") r
noncomputable def tieOf (dot row : Str) : Str := sed (Txt.slice dot none (some (-2))) ++ sed row
noncomputable def tieOk (dot row : Str) : Bool := decide ((Txt.slice dot none (some (-2))).length ≤ 1000) && decide ((sed (Txt.slice dot none (some (-2)))).length ≤ 100) && decide ((sed row).length ≤ 100)
noncomputable def tiesOf (drawn dots : List Str) : List Str := (List.range 4).map fun j => tieOf (dots.getD (j + 1) "") (drawn.getD (j + 1) "")
noncomputable def nameAt (i : Nat) : Str := (["a", "b", "c", "d", "e"] : List Str).getD i ""
noncomputable def leadsOf (drawn : List Str) : List (Str × Wst) := drawn.map fun r => (r, wsOf r)
noncomputable def hiddens : List Str := ["", "\\)", "\\\"\"a(\"", "\"", "\"\\\")\"", "\\\\"]
noncomputable def closedN (hu : List Str) (r : Nat) : Int := ((hu.getD r "").length : Int) - ((hu.getD (r + 1) "").length : Int) + 1
noncomputable def closedOf (hu : List Str) : List Str := (List.range 4).map fun r => Txt.mul ")" (closedN hu r)
noncomputable def mulOk (x : Str) (n : Int) : Bool := decide (-1000 ≤ n) && decide (n ≤ 1000) && decide (x.length ≤ 1000) && decide (x.length * n.toNat ≤ 10000)
theorem mulOk_ok {x : Str} {n : Int} (h : mulOk x n = true) : MulOk x n := by
  simp only [mulOk, Bool.and_eq_true, decide_eq_true_eq] at h
  obtain ⟨⟨⟨h1, h2⟩, h3⟩, h4⟩ := h
  refine ⟨?_, fun h4 _ h5 => ?_, fun h4 _ => ?_⟩
  · simp; omega
  · have h6 : (1000 : Int) ≤ (2 ^ 63 - 1 : Int) / n := by
      rw [Int.le_ediv_iff_mul_le (by omega)]; omega
    omega
  · simp only [PySem.Builtin.Str.tooLong, decide_eq_false_iff_not, PySem.sizeLine_eq]
    omega
noncomputable def closedOk (hu : List Str) : Bool := (List.range 4).all fun r => mulOk ")" (closedN hu r) && decide ((hu.getD r "").length ≤ 1000) && decide ((hu.getD (r + 1) "").length ≤ 1000)
noncomputable def holdAt (hol : List (List Bool)) (one two : Nat) : Bool := (hol.getD one []).getD two false
noncomputable def aheadOf (hol : List (List Bool)) (one two : Nat) : Int := ((hol.filter fun r => r.getD one false && !r.getD two false).length : Nat)
noncomputable def ellWant (d1 e : Str) : Str := (d1 ++ "...") ++ e
noncomputable def ellPair (dots : List Str) (hol : List (List Bool)) (one two : Nat) (e : Str) : Bool := decide (e.length ≤ 100) && ellOk (ellWant (dots.getD one "") e) (dots.getD two "") && (ellm (ellWant (dots.getD one "") e) (dots.getD two "") == holdAt hol one two)
noncomputable def tabAt (t : List (List Int)) (i j : Nat) : Int := dg t i j
noncomputable def tabPair (t : List (List Int)) (hol : List (List Bool)) (one two : Nat) : Bool := decide (tabAt t one two = aheadOf hol one two + aheadOf hol two one) && decide (tabAt t two one = aheadOf hol one two + aheadOf hol two one)
noncomputable def pieceOf (hid : Str) (spot : Int) (one two : Nat) : Str := Txt.mul hid (if (((one : Nat) : Int) == spot) && (((two : Nat) : Int) == spot + 1) then 1 else 0)
noncomputable def betweenOf (closed : List Str) (piece : Str) (one two : Nat) : Str := ((piece ++ Txt.join "(" ((closed.drop one).take (two - one))) ++ "(") ++ Txt.mul piece (if piece != "\"" then 1 else 0)
noncomputable def brackets (a b : Int) (mid : Str) : Str := (Txt.mul "(" a ++ mid) ++ Txt.mul ")" b
noncomputable def maxZ (a : Int) : Int := if (0 : Int) > a then 0 else a
noncomputable def brOk (a b : Int) (mid : Str) (want : Bool) : Bool := mulOk "(" a && mulOk ")" b && decide ((Txt.mul "(" a).length ≤ 100) && decide ((Txt.mul ")" b).length ≤ 100) && ckOk (brackets a b mid) && (ckpar (brackets a b mid) == want)
noncomputable def midOk (hid : Str) (spot : Int) (closed : List Str) (one two : Nat) : Bool := mulOk hid (if (((one : Nat) : Int) == spot) && (((two : Nat) : Int) == spot + 1) then 1 else 0) && decide ((pieceOf hid spot one two).length ≤ 100) && JoinOk "(" ((closed.drop one).take (two - one)) && decide ((Txt.join "(" ((closed.drop one).take (two - one))).length ≤ 1000) && mulOk (pieceOf hid spot one two) (if pieceOf hid spot one two != "\"" then 1 else 0) && decide ((betweenOf closed (pieceOf hid spot one two) one two).length ≤ 2000) && decide ((Txt.mul (pieceOf hid spot one two) (if pieceOf hid spot one two != "\"" then 1 else 0)).length ≤ 100)
noncomputable def parPair (hid : Str) (spot : Int) (closed : List Str) (hol : List (List Bool)) (one two : Nat) : Bool :=
  midOk hid spot closed one two && brOk (aheadOf hol one two) (aheadOf hol two one) (betweenOf closed (pieceOf hid spot one two) one two) true && brOk (maxZ (aheadOf hol one two - 1)) (aheadOf hol two one - 1) (betweenOf closed (pieceOf hid spot one two) one two) false
noncomputable def selfOk (way : Str) : Bool := decide (1 ≤ way.length) && decide (way.length ≤ 1000) && ellOk (ellWant way (Txt.item way (-1))) way && !(ellm (ellWant way (Txt.item way (-1))) way)
/-- all that law asks -/
structure LawOk (dr : List Int) : Prop where
  len : dr.length = 4
  hung : ∀ i x, dr[i]? = some x → hOk (hungN dr i) x = true
  row : ∀ r, r < 5 → rowOk dr ((hungN dr 4).getD r "") r = true
  text : textOk (drawnOf dr (hungN dr 4)) (kindsOf dr) = true
  lex : LexOk (textOf (drawnOf dr (hungN dr 4)) (kindsOf dr)) (drawnOf dr (hungN dr 4))
  sok : strsOk (drawnOf dr (hungN dr 4)) = true
  dot : ∀ r, r < 5 → dotOk ((drawnOf dr (hungN dr 4)).getD r "") r = true
  tie : ∀ j, j < 4 → tieOk ((dotsOf (drawnOf dr (hungN dr 4))).getD (j + 1) "") ((drawnOf dr (hungN dr 4)).getD (j + 1) "") = true
  ties : tiesOk (tiesOf (drawnOf dr (hungN dr 4)) (dotsOf (drawnOf dr (hungN dr 4)))) = true
  tab : ∃ t : List (List Int), t.length = 5 ∧ (∀ i, i < 5 → stAns (tiesOf (drawnOf dr (hungN dr 4)) (dotsOf (drawnOf dr (hungN dr 4)))) (nameAt i) = some (t.getD i [], true, [])) ∧ rowsOk t = true ∧ dGo 4 t 1 1 = some 32 ∧
    ∀ one two, one < two → two < 5 → tabPair t (holdsOf (leadsOf (drawnOf dr (hungN dr 4)))) one two = true
  closed : closedOk (hungN dr 4) = true
  ell : ∀ one two, one < two → two < 5 → 1 ≤ ((dotsOf (drawnOf dr (hungN dr 4))).getD two "").length ∧ ellPair (dotsOf (drawnOf dr (hungN dr 4))) (holdsOf (leadsOf (drawnOf dr (hungN dr 4)))) one two "" = true ∧
    ellPair (dotsOf (drawnOf dr (hungN dr 4))) (holdsOf (leadsOf (drawnOf dr (hungN dr 4)))) one two (Txt.item ((dotsOf (drawnOf dr (hungN dr 4))).getD two "") (-1)) = true
  par : ∀ one two, one < two → two < 5 → parPair (hiddens.getD (Int.fmod dr.sum 6).toNat "") (Int.fmod (Int.fdiv dr.sum 6) 4) (closedOf (hungN dr 4)) (holdsOf (leadsOf (drawnOf dr (hungN dr 4)))) one two = true
  self : ∀ r, r < 5 → selfOk ((dotsOf (drawnOf dr (hungN dr 4))).getD r "") = true
end
section
set_option maxHeartbeats 4000000
/-! law -/
theorem pick_ints {ns : List Int} : pick (ns.map D.int) none (some 4) = (ns.take 4).map .int := by
  have h1 : kms_lo none (ns.map D.int).length = 0 := rfl
  have h2 : kms_hi (some 4) (ns.map D.int).length = min 4 (ns.map D.int).length := by
    simp [kms_hi]
  unfold pick
  rw [h1, h2, List.drop_zero, Nat.sub_zero, ← List.map_take, List.length_map]
  congr 1
  rw [List.take_eq_take_iff]; exact az_min _
theorem pick_drop {ns : List Int} {n : Nat} (h : n ≤ ns.length) : pick (ns.map D.int) (some (n : Int)) none = (ns.drop n).map .int := by
  have h1 : kms_lo (some (n : Int)) (ns.map D.int).length = n := by
    simp [kms_lo]; rw [if_neg (by omega)]; omega
  have h2 : kms_hi none (ns.map D.int).length = ns.length := by
    simp [kms_hi]
  unfold pick
  rw [h1, h2, List.map_drop]
  rw [List.take_of_length_le (by simp)]
theorem at_ints {l : List Int} {i : Int} (h0 : 0 ≤ i) (h1 : i < l.length) : at? (l.map D.int) i = some (.int (l.getD i.toNat 0)) := by
  unfold at?
  rw [if_pos h0, List.getElem?_map, List.getD_eq_getElem?_getD, List.getElem?_eq_getElem (by omega)]; rfl
theorem at_strs {l : List Str} {i : Int} (h0 : 0 ≤ i) (h1 : i < l.length) : at? (l.map D.str) i = some (.str (l.getD i.toNat "")) := by
  unfold at?
  rw [if_pos h0, List.getElem?_map, List.getD_eq_getElem?_getD, List.getElem?_eq_getElem (by omega)]; rfl
theorem at_strsN {l : List Str} {i : Nat} (h1 : i < l.length) : at? (l.map D.str) (i : Int) = some (.str (l.getD i "")) := at_strs (by omega) (by omega)
theorem at_intsN {l : List Int} {i : Nat} (h1 : i < l.length) : at? (l.map D.int) (i : Int) = some (.int (l.getD i 0)) := at_ints (by omega) (by omega)
theorem bI {i : Nat} (h : i ≤ 100000) : -2 ^ 62 ≤ ((i : Nat) : Int) ∧ ((i : Nat) : Int) < 2 ^ 62 := az_ints h
theorem Ts.eq {W : Wd} {k : Nat} {env : Env} {Γ : List (Str × D)} {Δ : List (Str × List D)} {e : Expr} {b b' : Bool} (h : Ts W k env Γ Δ e b) (q : b = b') : Ts W k env Γ Δ e b' := q ▸ h
theorem Ev.eq {W : Wd} {k : Nat} {env : Env} {Γ : List (Str × D)} {Δ : List (Str × List D)} {e : Expr} {d d' : D} (h : Ev W k env Γ Δ e d) (q : d = d') : Ev W k env Γ Δ e d' := q ▸ h
theorem hungN_len {dr : List Int} (h : dr.length = 4) : (hungN dr 4).length = 5 := by
  obtain ⟨a, b, c, d, rfl⟩ : ∃ a b c d, dr = [a, b, c, d] := by
    cases dr with
    | nil => exact nomatch h
    | cons a r => obtain ⟨b, c, d, rfl⟩ := len3 (Nat.succ.inj h); exact ⟨a, b, c, d, rfl⟩
  simp [hungN, hStep]
theorem drawnOf_len {dr : List Int} {hu : List Str} : (drawnOf dr hu).length = 5 := by simp [drawnOf]
theorem rmod2 (r : Nat) : Int.fmod ((r : Nat) : Int) 2 = ((r % 2 : Nat) : Int) := by
  rw [Int.fmod_eq_emod_of_nonneg _ (by decide)]; omega
theorem getD_at {l : List Str} {i : Nat} (h : i < l.length) : l[i]? = some (l.getD i "") := by
  rw [List.getD_eq_getElem?_getD, List.getElem?_eq_getElem h]; rfl
theorem getD_range {α : Type} {f : Nat → α} {n i : Nat} {d : α} (h : i < n) : ((List.range n).map f).getD i d = f i := by
  rw [List.getD_eq_getElem?_getD, List.getElem?_map, List.getElem?_range h]; rfl
theorem at_rng {α : Type} {f : Nat → α} {n i : Nat} {d' : D} {g : α → D} (h : i < n) (e : (((List.range n).map f).map g)[i]? = some d') : d' = g (f i) := by
  rw [List.map_map, List.getElem?_map, List.getElem?_range h] at e
  cases e; rfl
noncomputable def agP (i : Nat) : List D := ([.str "a", .str "a"] : List D).drop i
noncomputable def agS (p5 p6 : Int × Nat) (i : Nat) : Int × Nat := if i < 3 then p5 else p6
theorem lexSt6 (tx : Str) : lexSt tx 6 = ((lexR tx (lexSt tx 5)).2.2.1, (lexR tx (lexSt tx 5)).2.2.2) := by
  rw [show (6 : Nat) = 5 + 1 from rfl, lexSt]
theorem lexTok5 (tx : Str) : lexTok tx 5 = (lexR tx (lexSt tx 5)).1 := rfl
noncomputable abbrev LawEnd (W : Wd) (k : Nat) (A : Around) (env : Env) (s₀ : Shared) (P₀ H : Vw) : Flow → Shared → Prop := FinX W k A env s₀ P₀ H [(166, .obj (tabObj #[]))] (LawOut 166)
theorem ltL {α : Type} {l : List α} {n i : Nat} (e : l.length = n) (h : i < n) : i < l.length := e ▸ h
theorem bI5 {i : Nat} (h : i < 5) : -2 ^ 62 ≤ ((i : Nat) : Int) ∧ ((i : Nat) : Int) < 2 ^ 62 := bI (by omega)
theorem sz2 {a b : Nat} (h1 : a ≤ 4000) (h2 : b ≤ 4000) : a + b ≤ sizeLine := by rw [PySem.sizeLine_eq]; omega
theorem sz3 {x y : Str} {b : Nat} (h1 : x.length ≤ 4000) (h2 : y.length ≤ 4000) (h3 : b ≤ 4000) : (x ++ y).length + b ≤ sizeLine := by rw [len_add, PySem.sizeLine_eq]; omega
theorem sz4 {x y z : Str} {b : Nat} (h1 : x.length ≤ 4000) (h2 : y.length ≤ 4000) (h3 : z.length ≤ 4000) (h4 : b ≤ 4000) : (x ++ y ++ z).length + b ≤ sizeLine := by rw [len_add, len_add, PySem.sizeLine_eq]; omega
theorem l1 {a : Nat} (h : a ≤ 100) : a ≤ 4000 := Nat.le_trans h (by omega)
theorem l2 {a : Nat} (h : a ≤ 1000) : a ≤ 4000 := Nat.le_trans h (by omega)
theorem l3 {a : Nat} (h : a ≤ 2000) : a ≤ 4000 := Nat.le_trans h (by omega)
theorem dots3' : ("..." : Str).length ≤ 4000 := by show 3 ≤ 4000; omega
theorem one4 {x : Str} (h : x.length = 1) : x.length ≤ 4000 := by omega
theorem nz {n : Nat} (h : 1 ≤ n) : (n : Int) ≠ 0 := by omega
theorem szl {n : Nat} (h : Nat.ble n 16777216 = true) : n ≤ sizeLine := by rw [PySem.sizeLine_eq]; exact Nat.le_of_ble_eq_true h
theorem le4 : ∀ n : Nat, n ≤ 4 → fitsSsize (n : Int) = true ∧ (-5 : Int) ≤ (n : Int) ∧ (n : Int) < 5 := by decide
theorem lt62 {a : Nat} (h : a ≤ 1000) : a < 2 ^ 62 := by omega
section
variable {W : Wd} {k : Nat} {env : Env} {Γ : List (Str × D)} {Δ : List (Str × List D)}
theorem ev_itS {value slice : Expr} {pos : Pos} {l : List Str} {n i : Nat} (h1 : Ev W k env Γ Δ value (.list (l.map .str))) (h2 : Ev W k env Γ Δ slice (.int (i : Int))) (e : l.length = n) (h : i < n) (hn : n ≤ 64 := by decide)
    (hs : ∀ (a : Addr) (u : Tok), subscripted slice false (.ref a) (.int (i : Int) u) = operate [.ref a, .int (i : Int) u] (getItem (.ref a) (.int (i : Int) u)) := by intro _ _; with_unfolding_all rfl) : Ev W k env Γ Δ (.Subscript value slice pos) (.str (l.getD i "")) :=
  ev_item_list (Ev.list h1) h2 (at_strsN (ltL e h)) (bI (by omega)) hs
theorem ev_itZ {value slice : Expr} {pos : Pos} {l : List Int} {n i : Nat} (h1 : Ev W k env Γ Δ value (.list (l.map .int))) (h2 : Ev W k env Γ Δ slice (.int (i : Int))) (e : l.length = n) (h : i < n) (hn : n ≤ 64 := by decide)
    (hs : ∀ (a : Addr) (u : Tok), subscripted slice false (.ref a) (.int (i : Int) u) = operate [.ref a, .int (i : Int) u] (getItem (.ref a) (.int (i : Int) u)) := by intro _ _; with_unfolding_all rfl) : Ev W k env Γ Δ (.Subscript value slice pos) (.int (l.getD i 0)) :=
  ev_item_list (Ev.list h1) h2 (at_intsN (ltL e h)) (bI (by omega)) hs
theorem ev_itB {value slice : Expr} {pos : Pos} {r : List Bool} {n i : Nat} (h1 : Ev W k env Γ Δ value (boolsD r)) (h2 : Ev W k env Γ Δ slice (.int (i : Int))) (e : r.length = n) (h : i < n) (hn : n ≤ 64 := by decide)
    (hs : ∀ (a : Addr) (u : Tok), subscripted slice false (.ref a) (.int (i : Int) u) = operate [.ref a, .int (i : Int) u] (getItem (.ref a) (.int (i : Int) u)) := by intro _ _; with_unfolding_all rfl) : Ev W k env Γ Δ (.Subscript value slice pos) (.bool (r.getD i false)) :=
  ev_item_list (Ev.list (ds := r.map D.bool) h1) h2 (at_nat (by rw [List.getElem?_map, List.getElem?_eq_getElem (ltL e h), List.getD_eq_getElem?_getD, List.getElem?_eq_getElem (ltL e h)]; rfl)) (bI (by omega)) hs
theorem ev_itD {value slice : Expr} {pos : Pos} {hol : List (List Bool)} {n i : Nat} (h1 : Ev W k env Γ Δ value (.list (hol.map boolsD))) (h2 : Ev W k env Γ Δ slice (.int (i : Int))) (e : hol.length = n) (h : i < n) (hn : n ≤ 64 := by decide)
    (hs : ∀ (a : Addr) (u : Tok), subscripted slice false (.ref a) (.int (i : Int) u) = operate [.ref a, .int (i : Int) u] (getItem (.ref a) (.int (i : Int) u)) := by intro _ _; with_unfolding_all rfl) : Ev W k env Γ Δ (.Subscript value slice pos) (boolsD (hol.getD i [])) :=
  ev_item_list (Ev.list h1) h2 (at_nat (by rw [List.getElem?_map, List.getElem?_eq_getElem (ltL e h), List.getD_eq_getElem?_getD, List.getElem?_eq_getElem (ltL e h)]; rfl)) (bI (by omega)) hs
end
end
section
set_option maxHeartbeats 4000000
/-! the brackets and the ellipses -/
theorem holdsOf_len (ls : List (Str × Wst)) : (holdsOf ls).length = 5 := by simp [holdsOf]
theorem bool_at {r : List Bool} {i : Nat} (h : i < r.length) : (r.map D.bool)[i]? = some (.bool (r.getD i false)) := by
  rw [List.getElem?_map, List.getElem?_eq_getElem h, List.getD_eq_getElem?_getD, List.getElem?_eq_getElem h]; rfl
noncomputable def bGet : D → Nat → Bool
  | .list ds, i => match ds.getD i .none with | .bool b => b | _ => false
  | _, _ => false
theorem bGet_bools {r : List Bool} {i : Nat} (h : i < r.length) : bGet (boolsD r) i = r.getD i false := by
  unfold bGet boolsD
  dsimp only
  rw [List.getD_eq_getElem?_getD, bool_at h]; rfl
theorem filter_len {hol : List (List Bool)} {p : D → Bool} {q : List Bool → Bool} (h : ∀ r ∈ hol, p (boolsD r) = q r) : (((hol.map boolsD).filter p).map id).length = (hol.filter q).length := by
  rw [List.map_id, List.filter_map, List.length_map]
  congr 1
  exact List.filter_congr fun r hr => h r hr
theorem pick_mid {l : List Str} {a b : Nat} (h1 : a ≤ b) (h2 : b ≤ l.length) : pick (l.map D.str) (some (a : Int)) (some (b : Int)) = ((l.drop a).take (b - a)).map .str := by
  have e1 : kms_lo (some (a : Int)) (l.map D.str).length = a := by
    simp [kms_lo]; rw [if_neg (by omega)]; omega
  have e2 : kms_hi (some (b : Int)) (l.map D.str).length = b := by
    simp [kms_hi]; rw [if_neg (by omega)]; omega
  unfold pick
  rw [e1, e2, List.map_take, List.map_drop]
theorem neg1 {n : Nat} (h : 1 ≤ n) : -(n : Int) ≤ -1 := Int.neg_le_neg (Int.ofNat_le.mpr h)
theorem neg2 {n : Nat} (h : 1 ≤ n) : (-1 : Int) < n := Int.lt_of_lt_of_le (by decide) (Int.natCast_nonneg n)
/-- what the parts' conditions give -/
theorem brOk_out {a b : Int} {mid : Str} {w : Bool} (h : brOk a b mid w = true) : MulOk "(" a ∧ MulOk ")" b ∧ (Txt.mul "(" a).length ≤ 4000 ∧ (Txt.mul ")" b).length ≤ 4000 ∧ ckOk (brackets a b mid) = true ∧ ckpar (brackets a b mid) = w := by
  simp only [brOk, Bool.and_eq_true, decide_eq_true_eq, beq_iff_eq] at h
  exact ⟨mulOk_ok h.1.1.1.1.1, mulOk_ok h.1.1.1.1.2, l1 h.1.1.1.2, l1 h.1.1.2, h.1.2, h.2⟩
theorem midOk_out {hid : Str} {spot : Int} {closed : List Str} {one two : Nat} (h : midOk hid spot closed one two = true) : MulOk hid (if (((one : Nat) : Int) == spot) && (((two : Nat) : Int) == spot + 1) then 1 else 0) ∧ (pieceOf hid spot one two).length ≤ 4000 ∧ JoinOk "(" ((closed.drop one).take (two - one)) = true ∧ (Txt.join "(" ((closed.drop one).take (two - one))).length ≤ 4000 ∧ MulOk (pieceOf hid spot one two) (if pieceOf hid spot one two != "\"" then 1 else 0) ∧ (betweenOf closed (pieceOf hid spot one two) one two).length ≤ 4000 ∧ (Txt.mul (pieceOf hid spot one two) (if pieceOf hid spot one two != "\"" then 1 else 0)).length ≤ 4000 := by
  unfold midOk at h
  obtain ⟨h, m7⟩ := Bool.and_eq_true_iff.mp h
  obtain ⟨h, m6⟩ := Bool.and_eq_true_iff.mp h
  obtain ⟨h, m5⟩ := Bool.and_eq_true_iff.mp h
  obtain ⟨h, m4⟩ := Bool.and_eq_true_iff.mp h
  obtain ⟨h, m3⟩ := Bool.and_eq_true_iff.mp h
  obtain ⟨m1, m2⟩ := Bool.and_eq_true_iff.mp h
  exact ⟨mulOk_ok m1, l1 (of_decide_eq_true m2), m3, l2 (of_decide_eq_true m4), mulOk_ok m5, l3 (of_decide_eq_true m6), l1 (of_decide_eq_true m7)⟩
theorem ellPair_out {dots : List Str} {hol : List (List Bool)} {one two : Nat} {e : Str} (h : ellPair dots hol one two e = true) : e.length ≤ 4000 ∧ ellOk (ellWant (dots.getD one "") e) (dots.getD two "") = true ∧ ellm (ellWant (dots.getD one "") e) (dots.getD two "") = (hol.getD one []).getD two false := by
  simp only [ellPair, Bool.and_eq_true, decide_eq_true_eq, beq_iff_eq] at h
  exact ⟨l1 h.1.1, h.1.2, h.2⟩
theorem tabPair_out {t : List (List Int)} {hol : List (List Bool)} {one two : Nat} (h : tabPair t hol one two = true) : dg t one two = aheadOf hol one two + aheadOf hol two one ∧ dg t two one = aheadOf hol one two + aheadOf hol two one := by
  simp only [tabPair, Bool.and_eq_true, decide_eq_true_eq] at h
  exact h
theorem selfOk_out {way : Str} (h : selfOk way = true) : 1 ≤ way.length ∧ way.length ≤ 4000 ∧ ellOk (ellWant way (Txt.item way (-1))) way = true ∧ ellm (ellWant way (Txt.item way (-1))) way = false := by
  simp only [selfOk, Bool.and_eq_true, decide_eq_true_eq, Bool.not_eq_true'] at h
  exact ⟨h.1.1.1, l2 h.1.1.2, h.1.2, h.2⟩
theorem dotOk_out {row : Str} {r : Nat} (h : dotOk row r = true) : wsOk (wsOf row) = true ∧ (dotOf row r).length ≤ 4000 := by
  simp only [dotOk, Bool.and_eq_true, decide_eq_true_eq] at h
  exact ⟨h.1.1.2, l2 h.2⟩
theorem isnot_eq {a b : Bool} (h : a = b) : (!(a == b)) = false := by rw [h]; cases b <;> rfl
theorem nenor {a b c : Int} (h1 : a = c) (h2 : b = c) : ((a != c) || (b != c)) = false := by rw [h1, h2]; simp
theorem fmod_in {a n : Int} (h : 0 < n) : 0 ≤ Int.fmod a n ∧ Int.fmod a n < n := ⟨Int.fmod_nonneg_of_pos _ h, Int.fmod_lt_of_pos _ h⟩
theorem closedOk_out {hu : List Str} (h : closedOk hu = true) {i : Nat} (hi : i < 4) : MulOk ")" (closedN hu i) ∧ (hu.getD i "").length ≤ 1000 ∧ (hu.getD (i + 1) "").length ≤ 1000 := by
  have hk := List.all_eq_true.mp h i (List.mem_range.mpr hi)
  simp only [Bool.and_eq_true, decide_eq_true_eq] at hk
  exact ⟨mulOk_ok hk.1.1, hk.1.2, hk.2⟩
noncomputable def stmtsOf (fd : FuncData) : List Stmt := match fd.body with | .stmts b => b | _ => []
noncomputable def forB : List Stmt → List Stmt
  | .For _ _ b _ _ :: _ => b
  | _ => []
noncomputable def lawF (Pm : Params) : Option FuncData := match (hd01.heap_1 Pm).lookup 196 with
  | some o => match o.data with | .func fd => some fd | _ => none
  | none => none
noncomputable def pairB (fd : FuncData) : List Stmt := forB (forB ((stmtsOf fd).drop 23))
noncomputable abbrev gE (hol : List (List Bool)) (t : List (List Int)) (dots clo : List Str) (hid : Str) (spt : Int) : List (Str × D) := [("spot", .int spt), ("closed", .list (clo.map .str)), ("hidden", .str hid), ("holds", .list (hol.map boolsD)), ("table", .list (dRows t)), ("dotted", .list (dots.map .str))]
section
variable {W : Wd} {k : Nat} {env : Env} {Γ : List (Str × D)} {Δ : List (Str × List D)}
/-- len([row for row in holds if ..]) -/
theorem ev_count {x y : Str} {px p pos pos2 ey : Pos} {test iter : Expr} {scope : Scope} {cl : List (Str × Addr)} {hol : List (List Bool)} (Γ' : List (Str × D)) (q : List Bool → Bool) (p' : D → Bool) (n : NmB W env y (.builtin "len")) (hol5 : hol.length = 5) (hpq : ∀ r ∈ hol, p' (boolsD r) = q r)
    (hI : EvI W k env Γ Δ true iter (hol.map boolsD))
    (ht : ∀ (C : Addr) (r : List Bool), r ∈ hol → Ts W k (compEnvC scope cl C env) ((x, boolsD r) :: Γ') [] test (q r))
    (hΓ : ∀ p ∈ Γ', p ∈ Γ := by trivial)
    (hclos : closureFor scope env = pure cl := by rfl) (hthru : Thru env scope cl (Γ'.map (·.1) ++ ([] : List (Str × List D)).map (·.1)) := by repeat (first | exact True.intro | refine And.intro ⟨by first | exact .inl rfl | exact .inr rfl, by first | exact .inl rfl | exact .inr rfl, rfl⟩ ?_))
    (hcell : ∀ y ∈ scope.names, y.2 ≠ .cell := by decide) (hkind : scope.kind = .function := by rfl)
    (hnames : ∀ y ∈ scope.names, y.2 = .local → scope.names.lookup y.1 = some .local := by decide) (hx : scope.names.lookup x = some .local := by rfl)
    (hs : ∀ v, foldedSetIterable iter env v = pure v := by intro _; rfl) (hd : (y == ("__debug__" : Str)) = false := by decide) (hd' : (x == ("__debug__" : Str)) = false := by decide) (hn' : (x == ("__classdict__" : Str)) = false := by decide) :
    Ev W k env Γ Δ (.Call (.Name y p) [.ListComp (.Name x ey) [⟨.Name x px, iter, [test], 0⟩] scope pos] [] pos2) (.int ((hol.filter q).length : Nat)) := by
  refine Ev.eq (ev_callBL n (EvN.l (evn_forif Γ' [] p' id hI (fun C d hd => ?_) (fun C d hd he => nv List.mem_cons_self hd' hn') hΓ sub_nil hclos hthru hcell hkind hnames hx (by rw [Nat.ble_eq, List.length_map, hol5]; decide) hs)) (cl_len_list ?_) rfl hd) ?_
  · obtain ⟨r, hr, rfl⟩ := List.mem_map.mp hd
    rw [hpq r hr]; exact ht C r hr
  · rw [filter_len hpq]
    exact Nat.lt_of_le_of_lt (Nat.le_trans (List.length_filter_le ..) (Nat.le_of_eq hol5)) (by decide)
  · rw [filter_len hpq]
end
variable {W : Wd} {Pm : Params} (hW : W.K = hd01.heap_1 Pm)
include hW
theorem segP3 {k : Nat} {A : Around} {L : Addr} {s₀ : Shared} {P₀ H P : Vw} {s : Shared} {fd : FuncData} {Mx : List (Addr × MO)} {Q : Flow → Shared → Prop} {E : Value → Shared → Prop} {G : List (Str × D)} {ah be : Int} {bt : Str} {d2 : D} (hf : lawF Pm = some fd) (hb1 : brOk ah be bt true = true) (hb2 : brOk (maxZ (ah - 1)) (be - 1) bt false = true) (hl : bt.length ≤ 4000)
    (X : At W (k + 12) A (callEnvC fd L 196) s₀ P₀ H (("between", .str bt) :: ("behind", .int be) :: ("ahead", .int ah) :: ("two", d2) :: G) [] Mx P s) :
    wpAny W.M A (execs ((pairB fd).drop 6) (callEnvC fd L 196)) (ForIQ W (k + 12) A (callEnvC fd L 196) s₀ P₀ H Q G [] Mx) E s := by
  obtain rfl : _ = fd := Option.some.inj hf
  replace hb1 := brOk_out hb1
  replace hb2 := brOk_out hb2
  refine s_if0 X (ts_cmp (ev_callF (nmG hW) (fnK hW) (evs_cons (ev_bin (ev_bin (ev_bin ev_str nv (op_mul_str hb1.1)) nv (op_add_str (sz2 hb1.2.2.1 hl))) (ev_bin ev_str nv (op_mul_str hb1.2.1)) (op_add_str (sz3 hb1.2.2.1 hl hb1.2.2.2.1))) evs_nil) (cl42 (W := W.at Mx) hW hb1.2.2.2.2.1)) ev_bool op_isnot_bool) (isnot_eq hb1.2.2.2.2.2) fun P s X => ?_
  refine s_if0 X (ts_cmp (ev_callF (nmG hW) (fnK hW) (evs_cons (ev_bin (ev_bin (ev_bin ev_str (ev_callB (nmB hW) (evs_cons (ev_bin nv ev_int op_sub_int) (evs_cons ev_int evs_nil)) cl_max_two) (op_mul_str hb2.1)) nv (op_add_str (sz2 hb2.2.2.1 hl))) (ev_bin ev_str (ev_bin nv ev_int op_sub_int) (op_mul_str hb2.2.1)) (op_add_str (sz3 hb2.2.2.1 hl hb2.2.2.2.1))) evs_nil) (cl42 (W := W.at Mx) hW hb2.2.2.2.2.1)) ev_bool op_isnot_bool) (isnot_eq hb2.2.2.2.2.2) fun P s X => ?_
  exact s_nil ⟨_, X.forget fun p h => .tail _ (.tail _ (.tail _ (.tail _ h)))⟩
theorem segP2 {k : Nat} {A : Around} {L : Addr} {s₀ : Shared} {P₀ H P : Vw} {s : Shared} {fd : FuncData} {Mx : List (Addr × MO)} {Q : Flow → Shared → Prop} {E : Value → Shared → Prop} {hol : List (List Bool)} {t : List (List Int)} {dots clo : List Str} {hid : Str} {spt : Int} {one two : Nat} (hf : lawF Pm = some fd) (hc4 : clo.length = 4) (h12 : one < two) (h25 : two < 5) (hp : parPair hid spt clo hol one two = true)
    (X : At W (k + 12) A (callEnvC fd L 196) s₀ P₀ H (("behind", .int (aheadOf hol two one)) :: ("ahead", .int (aheadOf hol one two)) :: ("two", .int two) :: ("one", .int one) :: gE hol t dots clo hid spt) [] Mx P s) :
    wpAny W.M A (execs ((pairB fd).drop 4) (callEnvC fd L 196)) (ForIQ W (k + 12) A (callEnvC fd L 196) s₀ P₀ H Q (("one", .int one) :: gE hol t dots clo hid spt) [] Mx) E s := by
  have hf' := hf
  obtain rfl : _ = fd := Option.some.inj hf
  obtain ⟨hp, hb2⟩ := Bool.and_eq_true_iff.mp hp
  obtain ⟨hm, hb1⟩ := Bool.and_eq_true_iff.mp hp
  replace hm := midOk_out hm
  refine s_set (d := .str (pieceOf hid spt one two)) X (ev_bin nv (ev_callT (nmB hW) (evs_cons (ev_andB (d := .bool ((((one : Nat) : Int) == spt) && (((two : Nat) : Int) == spt + 1))) (ev_cmp nv nv op_eq_int) (fun hb => ?_) (fun hb => ?_)) evs_nil) cl_int_bool) (op_mul_str hm.1)) (bl rfl) fun P s X => ?_
  · rw [hb, Bool.true_and]; exact ev_cmp nv (ev_bin nv ev_int op_add_int) op_eq_int
  · rw [hb]; rfl
  refine s_set (d := .str (betweenOf clo (pieceOf hid spt one two) one two)) X (ev_bin (ev_bin (ev_bin nv (ev_smeth (name := Str.ofString "join") (id := "str.join") (x := "(") (ds := [.list (((clo.drop one).take (two - one)).map .str)]) ev_str (evs_cons (EvN.ev (by rw [← pick_mid (Nat.le_of_lt h12) (hc4 ▸ Nat.le_of_lt_succ h25)]; exact evn_slice_list (Ev.list nv) (evo_some nv) (evo_some nv) (by rw [List.length_map, hc4, PySem.sizeLine_eq]; decide))) evs_nil) F.slot_str_join F.type_str_join (cl_join hm.2.2.1) (hbase := base_const)) (op_add_str (sz2 hm.2.1 hm.2.2.2.1))) ev_str (op_add_str (sz3 hm.2.1 hm.2.2.2.1 (one4 rfl)))) (ev_bin nv (ev_callT (nmB hW) (evs_cons (ev_cmp nv ev_str op_ne_str) evs_nil) cl_int_bool) (op_mul_str hm.2.2.2.2.1)) (op_add_str (sz4 hm.2.1 hm.2.2.2.1 (one4 rfl) hm.2.2.2.2.2.2))) (bl rfl) fun P s X => ?_
  exact segP3 hW hf' hb1 hb2 hm.2.2.2.2.2.1 (X.forget (by trivial))
theorem segP1 {k : Nat} {A : Around} {L : Addr} {s₀ : Shared} {P₀ H P : Vw} {s : Shared} {fd : FuncData} {Mx : List (Addr × MO)} {Q : Flow → Shared → Prop} {E : Value → Shared → Prop} {hol : List (List Bool)} {t : List (List Int)} {dots clo : List Str} {hid : Str} {spt : Int} {one two : Nat} (hf : lawF Pm = some fd) (hc4 : clo.length = 4) (h12 : one < two) (h25 : two < 5) (hp : parPair hid spt clo hol one two = true)
    (hro : rowsOk t = true) (htp : tabPair t hol one two = true) (hol5 : hol.length = 5) (holr : ∀ r ∈ hol, r.length = 5) (hdt5 : dots.length = 5) (hd1 : (dots.getD one "").length ≤ 4000)
    (hel : 1 ≤ (dots.getD two "").length ∧ ellPair dots hol one two "" = true ∧ ellPair dots hol one two (Txt.item (dots.getD two "") (-1)) = true)
    (X : At W (k + 12) A (callEnvC fd L 196) s₀ P₀ H (("two", .int two) :: ("one", .int one) :: gE hol t dots clo hid spt) [] Mx P s) :
    wpAny W.M A (execs (pairB fd) (callEnvC fd L 196)) (ForIQ W (k + 12) A (callEnvC fd L 196) s₀ P₀ H Q (("one", .int one) :: gE hol t dots clo hid spt) [] Mx) E s := by
  have hf' := hf
  obtain rfl : _ = fd := Option.some.inj hf
  have o5 : one < 5 := Nat.lt_trans h12 h25
  have hrw : (hol.getD one []).length = 5 := holr _ (by rw [List.getD_eq_getElem?_getD, List.getElem?_eq_getElem (ltL hol5 o5)]; exact List.getElem_mem _)
  replace htp := tabPair_out htp
  refine s_forI X (evi_listP (ds := (["", Txt.item (dots.getD two "") (-1)] : List Str).map .str) (ev_list (evs_cons ev_str (evs_cons (ev_item_str (ev_itS nv nv hdt5 h25) (ev_un ev_int op_neg) rfl (neg1 hel.1) (neg2 hel.1)) evs_nil)))) (bl rfl)
    (fun _ => ("two", .int two) :: ("one", .int one) :: gE hol t dots clo hid spt) (fun _ => []) rfl rfl (fun _ => ⟨by trivial, by trivial⟩) (fun i d H' P s E' hd X => ?_) (fun P s X => ?_)
  · obtain ⟨e, he, rfl⟩ : ∃ e, ellPair dots hol one two e = true ∧ d = .str e := by
      match i, hd with
      | 0, hd => cases hd; exact ⟨_, hel.2.1, rfl⟩
      | 1, hd => cases hd; exact ⟨_, hel.2.2, rfl⟩
    replace he := ellPair_out he
    refine s_if0 X (ts_cmp (ev_callF (nmG hW) (fnK hW) (evs_cons (ev_bin (ev_bin (ev_itS nv nv hdt5 o5) ev_str (op_add_str (sz2 hd1 dots3'))) nv (op_add_str (sz3 hd1 dots3' he.1))) (evs_cons (ev_itS nv nv hdt5 h25) evs_nil)) (cl49 (W := W.at Mx) hW he.2.1)) (ev_itB (ev_itD nv nv hol5 o5) nv hrw h25) op_isnot_bool) (isnot_eq he.2.2) fun P s X => ?_
    exact s_nil ⟨_, X.forget fun p h => .tail _ h⟩
  refine s_set (d := .int (aheadOf hol one two)) X (ev_count [("one", .int one), ("two", .int two)] (fun r => r.getD one false && !r.getD two false) (fun d => bGet d one && !bGet d two) (nmB hW) hol5 (fun r hr => by rw [bGet_bools (ltL (holr r hr) o5), bGet_bools (ltL (holr r hr) h25)]) (evi_listP nv)
    (fun C r hr => ts_and2 (ts_bool (ev_itB nv nv (holr r hr) o5)) fun _ => ts_not (ts_bool (ev_itB nv nv (holr r hr) h25)))) (bl rfl) fun P s X => ?_
  refine s_set (d := .int (aheadOf hol two one)) X (ev_count [("one", .int one), ("two", .int two)] (fun r => r.getD two false && !r.getD one false) (fun d => bGet d two && !bGet d one) (nmB hW) hol5 (fun r hr => by rw [bGet_bools (ltL (holr r hr) o5), bGet_bools (ltL (holr r hr) h25)]) (evi_listP nv)
    (fun C r hr => ts_and2 (ts_bool (ev_itB nv nv (holr r hr) h25)) fun _ => ts_not (ts_bool (ev_itB nv nv (holr r hr) o5)))) (bl rfl) fun P s X => ?_
  replace X := X.forget (Γ' := ("behind", .int (aheadOf hol two one)) :: ("ahead", .int (aheadOf hol one two)) :: ("two", .int two) :: ("one", .int one) :: gE hol t dots clo hid spt) (by trivial)
  refine s_if0 X (ts_or2 (ts_cmp (ev_dg (Ev.list nv) nv nv hro o5 h25) (ev_bin nv nv op_add_int) op_ne_int) (fun _ => ts_cmp (ev_dg (Ev.list nv) nv nv hro h25 o5) (ev_bin nv nv op_add_int) op_ne_int)) (nenor htp.1 htp.2) fun P s X => ?_
  exact segP2 hW hf' hc4 h12 h25 hp X
theorem segF {k : Nat} {A : Around} {L : Addr} {s₀ : Shared} {P₀ H P : Vw} {s : Shared} {fd : FuncData} {M : List (Addr × MO)} {ps : Array Value} {hol : List (List Bool)} {t : List (List Int)} {dots clo : List Str} {hid : Str} {spt : Int} (hf : lawF Pm = some fd) (hc4 : clo.length = 4)
    (hp : ∀ one two, one < two → two < 5 → parPair hid spt clo hol one two = true)
    (hro : rowsOk t = true) (htp : ∀ one two, one < two → two < 5 → tabPair t hol one two = true) (hol5 : hol.length = 5) (holr : ∀ r ∈ hol, r.length = 5) (hdt5 : dots.length = 5) (hd1 : ∀ i, i < 5 → (dots.getD i "").length ≤ 4000)
    (hel : ∀ one two, one < two → two < 5 → 1 ≤ (dots.getD two "").length ∧ ellPair dots hol one two "" = true ∧ ellPair dots hol one two (Txt.item (dots.getD two "") (-1)) = true)
    (hse : ∀ r, r < 5 → selfOk (dots.getD r "") = true)
    (X : At W (k + 12) A (callEnvC fd L 196) s₀ P₀ H (gE hol t dots clo hid spt) [] (M ++ [(166, .obj (tabObj ps))]) P s) :
    wpAny W.M A (execs ((stmtsOf fd).drop 23) (callEnvC fd L 196)) (LawEnd W (k + 12) A (callEnvC fd L 196) s₀ P₀ H) (fun _ _ => False) s := by
  have hf' := hf
  obtain rfl : _ = fd := Option.some.inj hf
  refine s_forI X (evi_range1 (n := 4) (nmB hW) ev_int (by decide)) (bc rfl rfl) (fun _ => gE hol t dots clo hid spt) (fun _ => []) rfl rfl (fun _ => ⟨by trivial, by trivial⟩) (fun one d H' P s E' hd X => ?_) (fun P s X => ?_)
  · obtain ⟨h1, rfl⟩ := rngs_get hd
    rw [Int.zero_add] at X
    refine s_forI X (evi_range2 (n := 4 - one) (nmB hW) (ev_bin nv ev_int op_add_int) ev_int (az_q1 h1) (by decide) (az_q2 h1)) (bc rfl rfl) (fun _ => ("one", .int one) :: gE hol t dots clo hid spt) (fun _ => []) rfl rfl (fun _ => ⟨by trivial, by trivial⟩) (fun j d H' P s E' hd X => ?_) (fun P s X => ?_)
    · obtain ⟨hj, rfl⟩ := rngs_get hd
      have h12 : one < one + 1 + j := Nat.lt_of_lt_of_le (Nat.lt_succ_self _) (Nat.le_add_right ..)
      have h25 : one + 1 + j < 5 := az_q3 hj
      exact segP1 hW hf' hc4 h12 h25 (hp _ _ h12 h25) hro (htp _ _ h12 h25) hol5 holr hdt5 (hd1 _ (Nat.lt_trans h12 h25)) (hel _ _ h12 h25) X
    · exact s_nil ⟨_, X.forget fun p h => .tail _ h⟩
  · refine s_ret (d := .bool true) X (ev_cmp (Ev.eq (d' := .list []) (EvN.ev (evn_forif [] [] (fun _ => false) id (evi_listP nv) (fun C d hd => ?_) (fun C d hd he => nomatch he) (hsz := by rw [Nat.ble_eq, List.length_map, hdt5]; decide))) (by rw [List.filter_eq_nil_iff.mpr (fun _ _ => Bool.false_ne_true)]; rfl)) (ev_list evs_nil) op_eq_nil) fun v P s X i => ⟨P, _, _, [(166, .obj (tabObj ps))], [], M, _, X.permM List.perm_append_comm, ⟨rfl, ps, rfl⟩, rfl, (fun p hp => nomatch hp), i⟩
    obtain ⟨way, hw, rfl⟩ := List.mem_map.mp hd
    obtain ⟨r, hr, e⟩ := List.mem_iff_getElem.mp hw
    have hk := hse r (hdt5 ▸ hr)
    rw [List.getD_eq_getElem?_getD, List.getElem?_eq_getElem hr, e] at hk
    change selfOk way = true at hk
    replace hk := selfOk_out hk
    exact Ts.eq (ts_cmp (ev_callF (nmG hW) (fnK hW) (evs_cons (ev_bin (ev_bin nv ev_str (op_add_str (sz2 hk.2.1 dots3'))) (ev_item_str nv (ev_un ev_int op_neg) rfl (neg1 hk.1) (neg2 hk.1)) (op_add_str (sz3 hk.2.1 dots3' (one4 (x := Txt.item way (-1)) rfl)))) (evs_cons nv evs_nil)) (cl49 (W := W.at (M ++ [(166, .obj (tabObj ps))])) hW hk.2.2.1)) ev_bool op_isnot_bool) (isnot_eq hk.2.2.2)
theorem segE' {k : Nat} {dr : List Int} {A : Around} {L : Addr} {s₀ : Shared} {P₀ H P : Vw} {s : Shared} {fd : FuncData} {M : List (Addr × MO)} {ps : Array Value} {t : List (List Int)} {hu dots : List Str} {ls : List (Str × Wst)} (hf : lawF Pm = some fd) (hu5 : hu.length = 5) (hcl : closedOk hu = true) (hll : ls.length = 5) (hlk : ls.all (fun l => wsOk l.2) = true)
    (hp : ∀ one two, one < two → two < 5 → parPair (hiddens.getD (Int.fmod dr.sum 6).toNat "") (Int.fmod (Int.fdiv dr.sum 6) 4) (closedOf hu) (holdsOf ls) one two = true)
    (hro : rowsOk t = true) (htp : ∀ one two, one < two → two < 5 → tabPair t (holdsOf ls) one two = true) (hdt5 : dots.length = 5) (hd1 : ∀ i, i < 5 → (dots.getD i "").length ≤ 4000)
    (hel : ∀ one two, one < two → two < 5 → 1 ≤ (dots.getD two "").length ∧ ellPair dots (holdsOf ls) one two "" = true ∧ ellPair dots (holdsOf ls) one two (Txt.item (dots.getD two "") (-1)) = true)
    (hse : ∀ r, r < 5 → selfOk (dots.getD r "") = true)
    (X : At W (k + 12) A (callEnvC fd L 196) s₀ P₀ H [("table", .list (dRows t)), ("dotted", .list (dots.map .str)), ("leads", .list (ls.map leadD)), ("hung", .list (hu.map .str)), ("draws", .list (dr.map .int))] [] (M ++ [(166, .obj (tabObj ps))]) P s) :
    wpAny W.M A (execs ((stmtsOf fd).drop 19) (callEnvC fd L 196)) (LawEnd W (k + 12) A (callEnvC fd L 196) s₀ P₀ H) (fun _ _ => False) s := by
  have hf' := hf
  obtain rfl : _ = fd := Option.some.inj hf
  refine s_set X (ev_callF (nmG hW) (fnK hW) (evs_cons nv evs_nil) (cl191 (W := W.at (M ++ [(166, .obj (tabObj ps))])) hW hll hlk)) (bl rfl) fun P s X => ?_
  refine s_set X (ev_item_list (EvN.l (evn_list (ds := hiddens.map .str) (evs_cons ev_str (evs_cons ev_str (evs_cons ev_str (evs_cons ev_str (evs_cons ev_str (evs_cons ev_str evs_nil)))))))) (ev_bin (ev_callB (nmB hW) (evs_cons nv evs_nil) cl_sum) ev_int (op_mod_int (by decide))) (at_strs (fmod_in (by decide)).1 (fmod_in (n := 6) (by decide)).2) (az_q4 (fmod_in (by decide)))) (bl rfl) fun P s X => ?_
  replace X := X.forget (Γ' := [("hidden", .str (hiddens.getD (Int.fmod dr.sum 6).toNat "")), ("holds", .list ((holdsOf ls).map boolsD)), ("table", .list (dRows t)), ("dotted", .list (dots.map .str)), ("hung", .list (hu.map .str)), ("draws", .list (dr.map .int))]) (by trivial)
  have hc4 : (closedOf hu).length = 4 := by rw [closedOf, List.length_map, List.length_range]
  refine s_forC0 (ds := (closedOf hu).map .str) [("hung", .list (hu.map .str))] [] X (evi_range1 (n := 4) (nmB hW) ev_int (by decide)) (by rw [List.length_map, hc4, rngs_len]) (fun C i d d' h1 h2 => ?_) (bl rfl) (by trivial) (by trivial) (fun P s X => ?_) (hsz := by rw [rngs_len]; rfl)
  · obtain ⟨hi, rfl⟩ := rngs_get h1
    rw [Int.zero_add]
    obtain rfl := at_rng hi h2
    have hk := closedOk_out hcl hi
    exact ev_bin ev_str (ev_bin (ev_bin (ev_callB (nmB hW) (evs_cons (ev_itS nv nv hu5 (Nat.lt_succ_of_lt hi)) evs_nil) (cl_len_str (lt62 hk.2.1))) (ev_callB (nmB hW) (evs_cons (ev_itS (i := i + 1) nv (ev_bin nv ev_int op_add_int) hu5 (Nat.succ_lt_succ hi)) evs_nil) (cl_len_str (lt62 hk.2.2))) op_sub_int) ev_int op_add_int) (op_mul_str hk.1)
  refine s_set X (ev_bin (ev_bin (ev_callB (nmB hW) (evs_cons nv evs_nil) cl_sum) ev_int (op_div_int (by decide) (by decide))) ev_int (op_mod_int (by decide))) (bl rfl) fun P s X => ?_
  exact segF hW hf' hc4 hp hro htp (holdsOf_len ls) (fun r hr => by obtain ⟨i, _, rfl⟩ := List.mem_map.mp hr; exact holdsRow_len _ _ _) hdt5 hd1 hel hse (X.forget (by trivial))
theorem segE {k : Nat} {dr : List Int} {A : Around} {L : Addr} {s₀ : Shared} {P₀ H P : Vw} {s : Shared} {fd : FuncData} {M : List (Addr × MO)} {ps : Array Value} {t : List (List Int)} (hf : lawF Pm = some fd) (Fx : LawOk dr)
    (hro : rowsOk t = true) (htp : ∀ one two, one < two → two < 5 → tabPair t (holdsOf (leadsOf (drawnOf dr (hungN dr 4)))) one two = true)
    (X : At W (k + 12) A (callEnvC fd L 196) s₀ P₀ H [("table", .list (dRows t)), ("dotted", .list ((dotsOf (drawnOf dr (hungN dr 4))).map .str)), ("leads", .list ((leadsOf (drawnOf dr (hungN dr 4))).map leadD)), ("hung", .list ((hungN dr 4).map .str)), ("draws", .list (dr.map .int))] [] (M ++ [(166, .obj (tabObj ps))]) P s) :
    wpAny W.M A (execs ((stmtsOf fd).drop 19) (callEnvC fd L 196)) (LawEnd W (k + 12) A (callEnvC fd L 196) s₀ P₀ H) (fun _ _ => False) s := by
  have hll : (leadsOf (drawnOf dr (hungN dr 4))).length = 5 := by rw [leadsOf, List.length_map, drawnOf_len]
  refine segE' hW hf (hungN_len Fx.len) Fx.closed hll (List.all_eq_true.mpr fun l hl => ?_) Fx.par hro htp (by rw [dotsOf, List.length_map, List.length_range]) (fun i hi => ?_) Fx.ell Fx.self X
  · obtain ⟨r, hr, rfl⟩ := List.mem_map.mp hl
    obtain ⟨i, hi, rfl⟩ := List.mem_iff_getElem.mp hr
    have hdi := (dotOk_out (Fx.dot i (drawnOf_len ▸ hi))).1
    rw [List.getD_eq_getElem?_getD, List.getElem?_eq_getElem hi] at hdi
    exact hdi
  · rw [dotsOf, getD_range hi]; exact (dotOk_out (Fx.dot i hi)).2
end
section
set_option maxHeartbeats 4000000
theorem dotOk_out4 {row : Str} {r : Nat} (h : dotOk row r = true) : row.cps.size ≤ 1000 ∧ (Builtin.Str.occurrences row (Txt.item ":\n" ((r % 2 : Nat) : Int)) 0 row.length 1).isEmpty = false ∧ (dotOf row r).length ≤ 1000 := by
  simp only [dotOk, Bool.and_eq_true, decide_eq_true_eq, Bool.not_eq_true'] at h
  exact ⟨h.1.1.1, h.1.2, h.2⟩
theorem tieOk_out {dot row : Str} (h : tieOk dot row = true) : (Txt.slice dot none (some (-2))).length ≤ 1000 ∧ (sed (Txt.slice dot none (some (-2)))).length ≤ 100 ∧ (sed row).length ≤ 100 := by
  simp only [tieOk, Bool.and_eq_true, decide_eq_true_eq] at h
  exact ⟨h.1.1, h.1.2, h.2⟩
theorem m2fits {r : Nat} : fitsSsize (Int.fmod ((r : Nat) : Int) 2) = true := by
  rw [rmod2]; rcases Nat.mod_two_eq_zero_or_one r with h | h <;> rw [h] <;> rfl
theorem lead_pair {dn : List Str} {i : Nat} {d d' : D} (h1 : (dn.map D.str)[i]? = some d) (h2 : ((leadsOf dn).map leadD)[i]? = some d') (hd5 : dn.length = 5) (hdo : ∀ r, r < 5 → dotOk (dn.getD r "") r = true) : ∃ row, d = .str row ∧ d' = leadD (row, wsOf row) ∧ row.cps.size ≤ 1000 := by
  rw [List.getElem?_map] at h1
  obtain ⟨row, hr, rfl⟩ := Option.map_eq_some_iff.mp h1
  rw [leadsOf, List.map_map, List.getElem?_map, hr] at h2
  refine ⟨row, rfl, (Option.some.inj h2).symm, ?_⟩
  have hk := (dotOk_out4 (hdo i (hd5 ▸ (List.getElem?_eq_some_iff.mp hr).1))).1
  rw [List.getD_eq_getElem?_getD, hr] at hk
  exact hk
theorem lead_atD {dn : List Str} {i : Nat} (h : i < dn.length) : at? ((leadsOf dn).map leadD) (i : Int) = some (leadD (dn.getD i "", wsOf (dn.getD i ""))) := by
  refine at_nat ?_
  rw [leadsOf, List.map_map, List.getElem?_map, getD_at h]; rfl
theorem nameAt_of {i c : Nat} (h : ("abcde" : Str).cps.toList[i]? = some c) : nameAt i = ⟨#[c]⟩ := by
  rw [show nameAt i = (("abcde" : Str).cps.toList.map fun c => (⟨#[c]⟩ : Str)).getD i "" from rfl, List.getD_eq_getElem?_getD, List.getElem?_map, h]; rfl
theorem nil_of {ds : List D} : D.list ((ds.filter fun _ => false).map id) = .list [] := by
  rw [List.filter_eq_nil_iff.mpr (fun _ _ => Bool.false_ne_true)]; rfl
noncomputable abbrev walkD (r : List Int) : D := .tup [.list (r.map .int), .bool true]
variable {W : Wd} {Pm : Params} (hW : W.K = hd01.heap_1 Pm)
include hW
theorem segD1 {k : Nat} {A : Around} {L : Addr} {s₀ : Shared} {P₀ H P : Vw} {s : Shared} {fd : FuncData} {Mx : List (Addr × MO)} {Q : Flow → Shared → Prop} {E : Value → Shared → Prop} {dn : List Str} {d1 d2 d3 : D} (hf : lawF Pm = some fd) (hd5 : dn.length = 5) (hdo : ∀ r, r < 5 → dotOk (dn.getD r "") r = true)
    (hti : ∀ j, j < 4 → tieOk ((dotsOf dn).getD (j + 1) "") (dn.getD (j + 1) "") = true)
    (X : At W (k + 12) A (callEnvC fd L 196) s₀ P₀ H [("rows", .list (dn.map .str)), ("lexer", d1), ("hung", d2), ("draws", d3)] [] Mx P s)
    (next : ∀ P s, At W (k + 12) A (callEnvC fd L 196) s₀ P₀ H [("ties", .list ((tiesOf dn (dotsOf dn)).map .str)), ("dotted", .list ((dotsOf dn).map .str)), ("leads", .list ((leadsOf dn).map leadD)), ("lexer", d1), ("hung", d2), ("draws", d3)] [] Mx P s → wpAny W.M A (execs ((stmtsOf fd).drop 16) (callEnvC fd L 196)) Q E s) :
    wpAny W.M A (execs ((stmtsOf fd).drop 13) (callEnvC fd L 196)) Q E s := by
  obtain rfl : _ = fd := Option.some.inj hf
  have hWx : (W.at Mx).K = hd01.heap_1 Pm := hW
  have hdl : (dn.map D.str).length = 5 := (List.length_map ..).trans hd5
  have hdt5 : (dotsOf dn).length = 5 := by rw [dotsOf, List.length_map, List.length_range]
  refine s_set (d := .list ((leadsOf dn).map leadD)) X (EvN.ev (evn_for [] [] (evi_listP nv) (by rw [List.length_map, leadsOf, List.length_map, List.length_map]) (fun C i d d' h1 h2 => ?_) (hsz := by rw [hdl]; rfl))) (bc rfl rfl) fun P s X => ?_
  · obtain ⟨row, rfl, rfl, hk⟩ := lead_pair h1 h2 hd5 hdo
    exact ev_callC (nmG hW) (by rw [hWx]; rfl) nv (cl160 (W := W.at Mx) hW (Nat.le_trans hk (by decide)))
  refine s_set (d := .list ((dotsOf dn).map .str)) X (EvN.ev (evn_for [("rows", .list (dn.map .str)), ("leads", .list ((leadsOf dn).map leadD))] [] (evi_range1 (n := 5) (nmB hW) ev_int (by decide)) (by rw [List.length_map, hdt5, rngs_len]) (fun C i d d' h1 h2 => ?_) (hsz := by rw [rngs_len]; rfl))) (bc rfl rfl) fun P s X => ?_
  · obtain ⟨hi, rfl⟩ := rngs_get h1
    rw [Int.zero_add]
    obtain rfl := at_rng hi h2
    have hk := dotOk_out4 (hdo i hi)
    exact ev_slice_str (ev_itS nv nv hd5 hi) (evo_some (ev_attrO (ev_item_list (Ev.list nv) nv (lead_atD (ltL hd5 hi)) (bI5 hi)) (getK hWx) rfl)) (evo_some (ev_smeth (ev_itS nv nv hd5 hi) (evs_cons (ev_item_str ev_str (ev_bin nv ev_int (op_mod_int (by decide))) m2fits (Int.le_trans (by decide) (fmod_in (by decide)).1) (fmod_in (n := 2) (by decide)).2) evs_nil) F.slot_str_index F.type_str_index (by rw [rmod2]; exact cl_index hk.2.1))) (Nat.le_trans hk.1 (szl (by decide)))
  refine s_set (d := .list ((tiesOf dn (dotsOf dn)).map .str)) X (EvN.ev (evn_for [("rows", .list (dn.map .str)), ("dotted", .list ((dotsOf dn).map .str))] [] (evi_range2 (n := 4) (nmB hW) ev_int ev_int (by decide) (by decide) rfl) (by rw [List.length_map, tiesOf, List.length_map, List.length_range, rngs_len]) (fun C i d d' h1 h2 => ?_) (hsz := by rw [rngs_len]; rfl))) (bc rfl rfl) fun P s X => ?_
  · obtain ⟨hi, rfl⟩ := rngs_get h1
    rw [show (1 : Int) + (i : Int) = ((i + 1 : Nat) : Int) from Int.add_comm ..]
    obtain rfl := at_rng hi h2
    have hk := tieOk_out (hti i hi)
    have hi' : i + 1 < 5 := Nat.succ_lt_succ hi
    have hdi := dotOk_out4 (hdo (i + 1) hi')
    exact ev_bin (ev_callF (nmG hW) (fnK hW) (evs_cons (ev_slice_str (ev_itS nv nv hdt5 hi') evo_none (evo_some (ev_un ev_int op_neg)) (by rw [dotsOf, getD_range hi']; exact Nat.le_trans hdi.2.2 (szl (by decide)))) evs_nil) (cl56 (W := W.at Mx) hW (Nat.le_trans hk.1 (szl (by decide))))) (ev_callF (nmG hW) (fnK hW) (evs_cons (ev_itS nv nv hd5 hi') evs_nil) (cl56 (W := W.at Mx) hW (Nat.le_trans hdi.1 (szl (by decide))))) (op_add_str (Nat.le_trans (Nat.add_le_add hk.2.1 hk.2.2) (szl (by decide))))
  exact next P s (X.forget (by trivial))
theorem segD2 {k : Nat} {A : Around} {L : Addr} {s₀ : Shared} {P₀ H P : Vw} {s : Shared} {fd : FuncData} {Q : Flow → Shared → Prop} {E : Value → Shared → Prop} {x dx pb al st : Addr} {l : List (Addr × Obj)} {ln : Int} {n : Nat} {ps : Array Value} {t : List (List Int)} {ties : List Str} {d1 d2 d3 d4 : D} (hf : lawF Pm = some fd) (hts : tiesOk ties = true) (ht5 : t.length = 5)
    (hst : ∀ i, i < 5 → stAns ties (nameAt i) = some (t.getD i [], true, [])) (hro : rowsOk t = true) (hdg : dGo 4 t 1 1 = some 32)
    (X : At W (k + 12) A (callEnvC fd L 196) s₀ P₀ H [("ties", .list (ties.map .str)), ("dotted", d1), ("leads", d2), ("lexer", .inst x 94 dx), ("hung", d3), ("draws", d4)] [] (lexM dx pb al st l ln [] n ++ [(166, .obj (tabObj ps))]) P s)
    (next : ∀ P s, At W (k + 12) A (callEnvC fd L 196) s₀ P₀ H [("table", .list (dRows t)), ("dotted", d1), ("leads", d2), ("hung", d3), ("draws", d4)] [] (lexM dx pb al st l ln [] n ++ [(166, .obj (tabObj ps))]) P s → wpAny W.M A (execs ((stmtsOf fd).drop 19) (callEnvC fd L 196)) Q E s) :
    wpAny W.M A (execs ((stmtsOf fd).drop 16) (callEnvC fd L 196)) Q E s := by
  obtain rfl : _ = fd := Option.some.inj hf
  have htl : (t.map walkD).length = 5 := (List.length_map ..).trans ht5
  refine s_forCM (ds := t.map walkD) (fun _ => lexM dx pb al st l ln [] n) [("lexer", .inst x 94 dx), ("ties", .list (ties.map .str))] [] X (fun _ => rfl) (evi_str (x := "abcde") ev_str) (by rw [htl]; rfl) (fun C i d d' h1 h2 => ?_) (bl rfl) (by trivial) (by trivial) (fun P s X => ?_) (hsz := by rfl)
  · rw [List.getElem?_map] at h2
    obtain ⟨r, hr, rfl⟩ := Option.map_eq_some_iff.mp h2
    obtain ⟨c, hc, rfl⟩ := chars_get h1
    have hs := hst i (ht5 ▸ (List.getElem?_eq_some_iff.mp hr).1)
    rw [List.getD_eq_getElem?_getD, hr, nameAt_of hc] at hs
    exact evm_callF (nmG hW) (fnK hW) (evs_cons nv (evs_cons nv (evs_cons nv evs_nil))) (kl181 (W := W.at []) hW hts hs).cl
  refine s_forC0 (ds := dRows t) [] [] X (evi_listP nv) (by rw [dRows, List.length_map, List.length_map]) (fun C i d d' h1 h2 => ?_) (bl rfl) (by trivial) (by trivial) (fun P s X => ?_) (hsz := by rw [htl]; rfl)
  · rw [List.getElem?_map] at h1
    obtain ⟨r, hr, rfl⟩ := Option.map_eq_some_iff.mp h1
    rw [dRows, List.getElem?_map, hr] at h2
    obtain rfl := Option.some.inj h2
    exact ev_item_tup nv ev_int (j := 0) rfl rfl
  refine s_if0 X (ts_or2 (ts_cmp (ev_callF (nmG hW) (fnK hW) (evs_cons nv evs_nil) (cl186 (W := W.at (lexM dx pb al st l ln [] n ++ [(166, .obj (tabObj ps))])) hW hro hdg)) ev_int op_ne_int) (fun _ => ts_cmp (Ev.eq (EvN.ev (evn_forif [] [] (fun _ => false) id (evi_listP nv) (fun C d hd => ?_) (fun C d hd he => nomatch he) (hsz := by rw [htl]; rfl))) nil_of) (ev_list evs_nil) op_ne_nil)) rfl fun P s X => ?_
  · obtain ⟨r, hr, rfl⟩ := List.mem_map.mp hd
    exact ts_not (ts_bool (b := true) (ev_item_tup nv ev_int (j := 1) rfl rfl))
  exact next P s (X.forget (by trivial))
theorem segD {k : Nat} {dr : List Int} {A : Around} {L : Addr} {s₀ : Shared} {P₀ H P : Vw} {s : Shared} {fd : FuncData} {x dx pb al st : Addr} {l : List (Addr × Obj)} {ln : Int} {n : Nat} {ps : Array Value} (hf : lawF Pm = some fd) (Fx : LawOk dr)
    (X : At W (k + 12) A (callEnvC fd L 196) s₀ P₀ H [("rows", .list ((drawnOf dr (hungN dr 4)).map .str)), ("lexer", .inst x 94 dx), ("hung", .list ((hungN dr 4).map .str)), ("draws", .list (dr.map .int))] [] (lexM dx pb al st l ln [] n ++ [(166, .obj (tabObj ps))]) P s) :
    wpAny W.M A (execs ((stmtsOf fd).drop 13) (callEnvC fd L 196)) (LawEnd W (k + 12) A (callEnvC fd L 196) s₀ P₀ H) (fun _ _ => False) s := by
  obtain ⟨t, ht5, hst, hro, hdg, htp⟩ := Fx.tab
  exact segD1 hW hf drawnOf_len Fx.dot Fx.tie X fun P s X => segD2 hW hf Fx.ties ht5 hst hro hdg X fun P s X => segE hW hf Fx hro htp X
end
section
set_option maxHeartbeats 4000000
theorem textOk_out {dn : List Str} {ks : List Int} (h : textOk dn ks = true) : (∀ i, i < 5 → spOk (dn.getD i "") = true ∧ (spelled (dn.getD i "") (ks.getD i 0)).length ≤ 10000) ∧ JoinOk "" (textParts dn ks) = true ∧ (textOf dn ks).length ≤ 30000 := by
  simp only [textOk, Bool.and_eq_true, decide_eq_true_eq, List.all_eq_true] at h
  exact ⟨fun i hi => h.1.1 i (List.mem_range.mpr hi), h.1.2, h.2⟩
theorem slc_len {i : Nat} (h : i < 5) : (Txt.slice " \t\r\n" (some (i : Int)) (some ((i : Int) + 1))).length ≤ 10 := by
  revert i; decide +kernel
theorem or3F {a b : List Str} {n m : Int} (h : n = m) : ((!decide (a = a)) || (!decide (b = b)) || (n != m)) = false := by
  rw [h]; simp
variable {W : Wd} {Pm : Params} (hW : W.K = hd01.heap_1 Pm)
include hW
theorem segC1 {k : Nat} {A : Around} {L : Addr} {s₀ : Shared} {P₀ H P : Vw} {s : Shared} {fd : FuncData} {Mx : List (Addr × MO)} {Q : Flow → Shared → Prop} {E : Value → Shared → Prop} {dr : List Int} {dn : List Str} {d1 : D} (hf : lawF Pm = some fd) (hl4 : dr.length = 4) (hd5 : dn.length = 5) (htx : textOk dn (kindsOf dr) = true)
    (X : At W (k + 12) A (callEnvC fd L 196) s₀ P₀ H [("drawn", .list (dn.map .str)), ("hung", d1), ("draws", .list (dr.map .int))] [] Mx P s)
    (next : ∀ P s, At W (k + 12) A (callEnvC fd L 196) s₀ P₀ H [("text", .str (textOf dn (kindsOf dr))), ("drawn", .list (dn.map .str)), ("hung", d1), ("draws", .list (dr.map .int))] [] Mx P s → wpAny W.M A (execs ((stmtsOf fd).drop 7) (callEnvC fd L 196)) Q E s) :
    wpAny W.M A (execs ((stmtsOf fd).drop 5) (callEnvC fd L 196)) Q E s := by
  obtain rfl : _ = fd := Option.some.inj hf
  have hmI : (dr.map D.int).length = 4 := (List.length_map ..).trans hl4
  have hk5 : (kindsOf dr).length = 5 := by rw [kindsOf, List.length_append, List.length_map, hl4]; rfl
  replace htx := textOk_out htx
  refine s_set (d := .list ((kindsOf dr).map .int)) X (EvN.ev ?_) (bc rfl rfl) fun P s X => ?_
  · rw [kindsOf, List.map_append]
    refine evn_add (EvN.l (evn_list (evs_cons (ev_bin (ev_bin (ev_callB (nmB hW) (evs_cons nv evs_nil) cl_sum) ev_int (op_div_int (by decide) (by decide))) ev_int (op_mod_int (by decide))) evs_nil))) (EvN.l (evn_for [] [] (evi_listP nv) (by rw [List.length_map, List.length_map, List.length_map]) (fun C i d d' h1 h2 => ?_) (hsz := by rw [hmI]; rfl))) (by rw [List.length_map, List.length_map, List.length_map, hl4]; exact szl rfl)
    rw [List.map_map, List.getElem?_map] at h2
    rw [List.getElem?_map] at h1
    obtain ⟨x, hx, rfl⟩ := Option.map_eq_some_iff.mp h1
    rw [hx] at h2
    obtain rfl := Option.some.inj h2
    exact ev_bin (ev_bin nv ev_int (op_div_int (by decide) (by decide))) ev_int (op_mod_int (by decide))
  refine s_set (d := .str (textOf dn (kindsOf dr))) X (ev_smeth (name := Str.ofString "join") (id := "str.join") (x := "") (ds := [.list ((textParts dn (kindsOf dr)).map .str)]) ev_str (evs_cons (EvN.ev (evn_for [("drawn", .list (dn.map .str)), ("kinds", .list ((kindsOf dr).map .int))] [] (evi_range1 (n := 5) (nmB hW) ev_int (by decide)) (by rw [List.length_map, textParts, List.length_map, List.length_range, rngs_len]) (fun C i d d' h1 h2 => ?_) (hsz := by rw [rngs_len]; rfl))) evs_nil) F.slot_str_join F.type_str_join (cl_join htx.2.1) (hbase := base_const)) (bl rfl) fun P s X => ?_
  · obtain ⟨hi, rfl⟩ := rngs_get h1
    rw [Int.zero_add]
    obtain rfl := at_rng hi h2
    have u := htx.1 i hi
    exact ev_bin (ev_callF (nmG hW) (fnK hW) (evs_cons (ev_itS nv nv hd5 hi) (evs_cons (ev_itZ nv nv hk5 hi) evs_nil)) (cl176 (W := W.at Mx) hW u.1)) (ev_slice_str ev_str (evo_some nv) (evo_some (ev_bin nv ev_int op_add_int)) (szl (by decide))) (op_add_str (Nat.le_trans (Nat.add_le_add u.2 (slc_len hi)) (szl (by decide))))
  exact next P s (X.forget (by trivial))
theorem segC2 {k : Nat} {A : Around} {L : Addr} {s₀ : Shared} {P₀ H P : Vw} {s : Shared} {fd : FuncData} {Q : Flow → Shared → Prop} {E : Value → Shared → Prop} {tx : Str} {d0 d1 d2 : D} (hf : lawF Pm = some fd) (htx : tx.length ≤ 30000)
    (X : At W (k + 12) A (callEnvC fd L 196) s₀ P₀ H [("text", .str tx), ("drawn", d0), ("hung", d1), ("draws", d2)] [] [(166, .obj (tabObj #[]))] P s)
    (next : ∀ x dx pb al st l ps P s, StreamOk (W.at []) st al tx l → At W (k + 12) A (callEnvC fd L 196) s₀ P₀ H [("lexer", .inst x 94 dx), ("drawn", d0), ("hung", d1), ("draws", d2)] [] (lexM dx pb al st l (lexSt tx 0).1 [] (lexSt tx 0).2 ++ [(166, .obj (tabObj ps))]) P s → wpAny W.M A (execs ((stmtsOf fd).drop 8) (callEnvC fd L 196)) Q E s) :
    wpAny W.M A (execs ((stmtsOf fd).drop 7) (callEnvC fd L 196)) Q E s := by
  obtain rfl : _ = fd := Option.some.inj hf
  refine s_setX (Mx := [(166, .obj (tabObj #[]))]) (rest := []) X (evx_callC (C := 94) (O1 := StreamOut (W.at []) 166 tx) (O2 := fun d1 d2 M' N => ∃ st l, d1 = .pack st l ∧ ∃ x dx fs N0, d2 = .inst x 94 dx ∧ M' = [] ∧ N = (dx, .dict fs) :: N0 ∧ ∃ pb, fs = lexF st l 1 pb ∧ N0 = [(pb, .list [])]) (nmG hW) (by rw [hW]; rfl) (evx_callF (nmG hW) (fnK hW) (evs_cons nv evs_nil) (kl171 (W := W.at []) hW htx).cl) (fun d Mx' N hO => ?_)) (bc rfl rfl) fun d Mx' N P s hO ha X => ?_
  · obtain ⟨st, l, al, ps', rfl, _⟩ := hO
    intro A S P s E Q vs hst i dv hQ
    exact (cl94 (W := W.at []) hW (k := k + 10)) A S P s E Q vs hst i dv fun v P' s' d Mx' N ho => hQ v P' s' d Mx' N ⟨st, l, rfl, ho⟩
  obtain ⟨d1, N1, N2, ⟨st, l, al, ps, rfl, hS, rfl, rfl⟩, ⟨_, _, e, x, dx, fs, N0, rfl, _, rfl, pb, rfl, rfl⟩, rfl⟩ := hO
  obtain ⟨rfl, rfl⟩ := D.pack.inj e
  exact next x dx pb al _ _ ps P s hS (X.forget (by trivial))
theorem segC3 {k : Nat} {A : Around} {L : Addr} {s₀ : Shared} {P₀ H P : Vw} {s : Shared} {fd : FuncData} {Q : Flow → Shared → Prop} {E : Value → Shared → Prop} {tx : Str} {dn : List Str} {d1 d2 : D} {x dx pb al st : Addr} {l : List (Addr × Obj)} {ps : Array Value} (hf : lawF Pm = some fd) (htx : tx.length ≤ 30000) (hd5 : dn.length = 5) (hlx : LexOk tx dn) (hso : strsOk dn = true) (hS : StreamOk (W.at []) st al tx l)
    (X : At W (k + 12) A (callEnvC fd L 196) s₀ P₀ H [("lexer", .inst x 94 dx), ("drawn", .list (dn.map .str)), ("hung", d1), ("draws", d2)] [] (lexM dx pb al st l (lexSt tx 0).1 [] (lexSt tx 0).2 ++ [(166, .obj (tabObj ps))]) P s)
    (next : ∀ ln n P s, At W (k + 12) A (callEnvC fd L 196) s₀ P₀ H [("rows", .list (dn.map .str)), ("lexer", .inst x 94 dx), ("hung", d1), ("draws", d2)] [] (lexM dx pb al st l ln [] n ++ [(166, .obj (tabObj ps))]) P s → wpAny W.M A (execs ((stmtsOf fd).drop 13) (callEnvC fd L 196)) Q E s) :
    wpAny W.M A (execs ((stmtsOf fd).drop 8) (callEnvC fd L 196)) Q E s := by
  obtain rfl : _ = fd := Option.some.inj hf
  have hmS : (dn.map D.str).length = 5 := (List.length_map ..).trans hd5
  have mG : MethK (W.at []).K 94 "get_token" 84 := methK hW
  have mP : MethK (W.at []).K 94 "push_token" 91 := methK hW
  have fG : FnK (W.at []).K 84 := fnK hW
  have fP : FnK (W.at []).K 91 := fnK hW
  refine s_setM X (EvMN.m (ds := dn.map .str) (evmn_for (fun i => lexM dx pb al st l (lexSt tx i).1 [] (lexSt tx i).2) [("lexer", .inst x 94 dx)] [] rfl (fun _ => rfl) (evi_listP nv) rfl (fun C i d d' h1 h2 => ?_) (hsz := by rw [hmS]; rfl)) rfl) rfl (bc rfl rfl) fun P s X => ?_
  · rw [List.getElem?_map] at h2
    obtain ⟨w, hw, rfl⟩ := Option.map_eq_some_iff.mp h2
    have hi : i < 5 := hd5 ▸ (List.getElem?_eq_some_iff.mp hw).1
    rw [getD_at (ltL hd5 hi), ← hlx.toks i hi] at hw
    obtain rfl := Option.some.inj hw
    exact evm_meth nv mG fG List.mem_cons_self rfl evs_nil (kl84 (W := W.at []) hW hS htx).cl
  rw [hmS] at X
  have he := hlx.end_
  have hl6 := hlx.ln6
  rw [lexTok5] at he
  rw [lexSt6] at hl6
  generalize lexSt tx 5 = p5 at X he hl6
  replace X : At W (k + 12) A _ s₀ P₀ H _ [] (lexM dx pb al st l p5.1 [] p5.2 ++ [(166, .obj (tabObj ps))]) P s := X
  refine s_exprM X (evm_meth nv mP fP List.mem_cons_self rfl (evs_cons ev_str evs_nil) (kl91 (W := W.at []) hW (by decide)).cl) rfl fun P s X => ?_
  refine s_exprM X (evm_meth nv mP fP List.mem_cons_self rfl (evs_cons ev_str evs_nil) (kl91 (W := W.at []) hW (by decide)).cl) rfl fun P s X => ?_
  replace X := X.forget (Γ' := [("rows", .list (dn.map .str)), ("lexer", .inst x 94 dx), ("drawn", .list (dn.map .str)), ("hung", d1), ("draws", d2)]) (by trivial)
  refine s_forCM (ds := (["a", "a", ""] : List Str).map .str) (fun i => lexM dx pb al st l (agS p5 ((lexR tx p5).2.2.1, (lexR tx p5).2.2.2) i).1 (agP i) (agS p5 ((lexR tx p5).2.2.1, (lexR tx p5).2.2.2) i).2) [("lexer", .inst x 94 dx)] [] X (fun _ => rfl) (evi_range1 (n := 3) (nmB hW) ev_int (by decide)) (by rw [rngs_len]; rfl) (fun C i d d' h1 h2 => ?_) (bl rfl) (by trivial) (by trivial) (fun P s X => ?_) (hsz := by rw [rngs_len]; rfl)
  · obtain ⟨hi, rfl⟩ := rngs_get h1
    match i, hi with
    | 0, _ =>
      obtain rfl := Option.some.inj h2
      show EvM _ _ _ _ _ _ _ (lexM dx pb al st l (p5).1 [.str "a", .str "a"] (p5).2) (lexM dx pb al st l (p5).1 [.str "a"] (p5).2)
      exact evm_meth nv mG fG List.mem_cons_self rfl evs_nil (kl84p (W := W.at []) hW (by decide)).cl
    | 1, _ =>
      obtain rfl := Option.some.inj h2
      show EvM _ _ _ _ _ _ _ (lexM dx pb al st l (p5).1 [.str "a"] (p5).2) (lexM dx pb al st l (p5).1 [] (p5).2)
      exact evm_meth nv mG fG List.mem_cons_self rfl evs_nil (kl84p (W := W.at []) hW (by decide)).cl
    | 2, _ =>
      obtain rfl : D.str "" = d' := Option.some.inj h2
      show EvM _ _ _ _ _ _ _ (lexM dx pb al st l (p5).1 [] (p5).2) (lexM dx pb al st l (lexR tx p5).2.2.1 [] (lexR tx p5).2.2.2)
      rw [← he]
      exact evm_meth nv mG fG List.mem_cons_self rfl evs_nil (kl84 (W := W.at []) hW hS htx).cl
  rw [rngs_len] at X
  replace X : At W (k + 12) A _ s₀ P₀ H _ [] (lexM dx pb al st l (lexR tx p5).2.2.1 [] (lexR tx p5).2.2.2 ++ [(166, .obj (tabObj ps))]) P s := X
  refine s_if0 X (ts_or3 (ts_cmp nv nv (op_ne_strs hso hso)) (fun _ => ts_cmp nv (ev_list (ds := (["a", "a", ""] : List Str).map .str) (evs_cons ev_str (evs_cons ev_str (evs_cons ev_str evs_nil)))) (op_ne_strs (by decide +kernel) (by decide +kernel))) (fun _ _ => ts_cmp (ev_attrI nv List.mem_cons_self (getK (W := W.at (lexM dx pb al st l (lexR tx p5).2.2.1 [] (lexR tx p5).2.2.2 ++ [(166, .obj (tabObj ps))])) hW) rfl) ev_int op_ne_int)) (or3F hl6) fun P s X => ?_
  exact next _ _ P s (X.forget (by trivial))
theorem segC {k : Nat} {dr : List Int} {A : Around} {L : Addr} {s₀ : Shared} {P₀ H P : Vw} {s : Shared} {fd : FuncData} (hf : lawF Pm = some fd) (Fx : LawOk dr)
    (X : At W (k + 12) A (callEnvC fd L 196) s₀ P₀ H [("drawn", .list ((drawnOf dr (hungN dr 4)).map .str)), ("hung", .list ((hungN dr 4).map .str)), ("draws", .list (dr.map .int))] [] [(166, .obj (tabObj #[]))] P s) :
    wpAny W.M A (execs ((stmtsOf fd).drop 5) (callEnvC fd L 196)) (LawEnd W (k + 12) A (callEnvC fd L 196) s₀ P₀ H) (fun _ _ => False) s :=
  segC1 hW hf Fx.len drawnOf_len Fx.text X fun P s X => segC2 hW hf (textOk_out Fx.text).2.2 X fun x dx pb al st l ps P s hS X => segC3 hW hf (textOk_out Fx.text).2.2 drawnOf_len Fx.lex Fx.sok hS X fun ln n P s X => segD hW hf Fx X
end
section
set_option maxHeartbeats 4000000
theorem hOk_out {h : List Str} {x : Int} (k : hOk h x = true) : 1 ≤ h.length ∧ h.length ≤ 4 ∧ 1 ≤ (h.getLastD Str.empty).length ∧ (h.getLastD Str.empty).length ≤ 100 ∧ (hPre h x).length + (Txt.item "abcde" h.length).length ≤ 1000 := by
  simp only [hOk, Bool.and_eq_true, decide_eq_true_eq] at k
  exact ⟨k.1.1.1.1, k.1.1.1.2, k.1.1.2, k.1.2, k.2⟩
theorem leadOk_out {sts : List Int} (k : leadOk sts = true) : sts.length ≤ 40 ∧ (∀ t ∈ sts, 0 ≤ t ∧ t < 3) ∧ JoinOk "" (leadParts sts) = true := by
  simp only [leadOk, Bool.and_eq_true, decide_eq_true_eq, List.all_eq_true] at k
  exact ⟨k.1.1, k.1.2, k.2⟩
theorem chOk_out {c : Nat} (k : chOk c = true) : (Builtin.Str.occurrences "abcde" ⟨#[c]⟩ 0 5 1).isEmpty = false ∧ 0 ≤ chIx c ∧ chIx c < 4 := by
  simp only [chOk, Bool.and_eq_true, decide_eq_true_eq, Bool.not_eq_true'] at k
  exact ⟨k.1.1, k.1.2, k.2⟩
theorem rowOk_out {dr : List Int} {hu : Str} {r : Nat} (k : rowOk dr hu r = true) : hu.length ≤ 100 ∧ (∀ c ∈ (tailOf hu).cps.toList, chOk c = true) ∧ leadOk (stepsOf dr hu) = true ∧ JoinOk "." (signs hu) = true ∧ (leadOf (stepsOf dr hu)).length ≤ 1000 ∧ (Txt.join "." (signs hu)).length ≤ 1000 ∧ (drawnRow dr hu r).length ≤ 1000 := by
  simp only [rowOk, Bool.and_eq_true, decide_eq_true_eq, List.all_eq_true] at k
  exact ⟨k.1.1.1.1.1.1, k.1.1.1.1.1.2, k.1.1.1.1.2, k.1.1.1.2, k.1.1.2, k.1.2, k.2⟩
theorem sepLen {r : Nat} : (sepOf r).length = 2 := by
  unfold sepOf
  rcases Nat.mod_two_eq_zero_or_one r with h | h <;> rw [h] <;> rfl
theorem sep_at {r : Nat} : at? (([":\n", "\n:"] : List Str).map D.str) (Int.fmod ((r : Nat) : Int) 2) = some (.str (sepOf r)) := by
  rw [rmod2]; exact at_strsN (l := [":\n", "\n:"]) (Nat.mod_lt _ (by decide))
theorem lead_mul {sts : List Int} {i : Nat} (h : i < sts.length) (h40 : sts.length ≤ 40) : MulOk " " (2 + (i : Int)) := by
  refine mulOk_ok ?_
  simp only [mulOk, Bool.and_eq_true, decide_eq_true_eq, show (" " : Str).length = 1 from rfl]
  exact az_lead (Nat.lt_of_lt_of_le h h40)
theorem len_take4 {ns : List Int} : (ns.take 4).length ≤ 4 := by rw [List.length_take]; exact Nat.min_le_left ..
theorem ble_of {n m : Nat} (h : n ≤ m) : Nat.ble n m = true := Nat.ble_eq_true_of_le h
theorem lenI (l : List Int) : (l.length : Int) = ((l.map D.int).length : Int) := by rw [List.length_map]
theorem szA {a b : Nat} (h1 : a ≤ 1000) (h2 : b ≤ 1000) : a + b ≤ sizeLine := Nat.le_trans (Nat.add_le_add h1 h2) (szl (by decide))
theorem szB {x y : Str} {b : Nat} (h1 : x.length ≤ 1000) (h2 : y.length ≤ 1000) (h3 : b ≤ 1000) : (x ++ y).length + b ≤ sizeLine := by rw [len_add]; exact Nat.le_trans (Nat.add_le_add (Nat.add_le_add h1 h2) h3) (szl (by decide))
theorem szC {x y z : Str} {b : Nat} (h1 : x.length ≤ 1000) (h2 : y.length ≤ 1000) (h3 : z.length ≤ 1000) (h4 : b ≤ 1000) : ((x ++ y) ++ z).length + b ≤ sizeLine := by rw [len_add, len_add]; exact Nat.le_trans (Nat.add_le_add (Nat.add_le_add (Nat.add_le_add h1 h2) h3) h4) (szl (by decide))
variable {W : Wd} {Pm : Params} (hW : W.K = hd01.heap_1 Pm)
include hW
/-- one row is drawn -/
theorem segB1 {k : Nat} {A : Around} {L : Addr} {s₀ : Shared} {P₀ H P : Vw} {s : Shared} {fd : FuncData} {Mx : List (Addr × MO)} {Q : Flow → Shared → Prop} {E : Value → Shared → Prop} {dr : List Int} {hu rows : List Str} {h : Str} {r : Nat} (hf : lawF Pm = some fd) (hl4 : dr.length = 4) (hr : r < 5) (hur : (hu.map D.str)[r]? = some (.str h)) (hk : rowOk dr h r = true) (hrl : rows.length ≤ 5)
    (X : At W (k + 12) A (callEnvC fd L 196) s₀ P₀ H [("row", .int r), ("hung", .list (hu.map .str)), ("draws", .list (dr.map .int))] [("drawn", rows.map .str)] Mx P s) :
    wpAny W.M A (execs (forB ((stmtsOf fd).drop 4)) (callEnvC fd L 196)) (ForIQ W (k + 12) A (callEnvC fd L 196) s₀ P₀ H Q [("hung", .list (hu.map .str)), ("draws", .list (dr.map .int))] [("drawn", (rows ++ [drawnRow dr h r]).map .str)] Mx) E s := by
  obtain rfl : _ = fd := Option.some.inj hf
  replace hk := rowOk_out hk
  have hld := leadOk_out hk.2.2.1
  have hcl : (chars (tailOf h)).length = (stepsOf dr h).length := (List.length_map ..).trans (List.length_map ..).symm
  refine s_set (d := .list ((stepsOf dr h).map .int)) X (EvN.ev (evn_for [("draws", .list (dr.map .int))] [] (evi_str (ev_slice_str (ev_item_list (Ev.list nv) nv (at_nat hur) (bI5 hr)) (evo_some ev_int) evo_none (Nat.le_trans hk.1 (szl (by decide))))) ((List.length_map ..).trans hcl.symm) (fun C i d d' h1 h2 => ?_) (hsz := ble_of (Nat.le_trans (Nat.le_of_eq hcl) (Nat.le_trans hld.1 (by decide)))))) (bc rfl rfl) fun P s X => ?_
  · obtain ⟨c, hc, rfl⟩ := chars_get h1
    rw [stepsOf, List.map_map, List.getElem?_map, show (tailOf h).cps.toList[i]? = some c from hc] at h2
    obtain rfl := Option.some.inj h2
    have kc := chOk_out (hk.2.1 c (List.mem_of_getElem? hc))
    exact ev_bin (ev_bin (ev_item_list (Ev.list nv) (ev_bin (ev_smeth (name := Str.ofString "index") (id := "str.index") (x := "abcde") ev_str (evs_cons nv evs_nil) F.slot_str_index F.type_str_index (cl_index kc.1) (hbase := base_const)) ev_int op_sub_int) (d := .int (dr.getD (chIx c).toNat 0)) (at_ints kc.2.1 (hl4 ▸ kc.2.2)) ⟨Int.le_trans (by decide) kc.2.1, Int.lt_trans kc.2.2 (by decide)⟩) ev_int (op_div_int (by decide) (by decide))) ev_int (op_mod_int (by decide))
  refine s_set (d := .str (leadOf (stepsOf dr h))) X (ev_smeth (name := Str.ofString "join") (id := "str.join") (x := "") (ds := [.list ((leadParts (stepsOf dr h)).map .str)]) ev_str (evs_cons (EvN.ev (evn_for [("steps", .list ((stepsOf dr h).map .int))] [] (evi_range1 (n := (stepsOf dr h).length) (nmB hW) (by rw [lenI]; exact ev_callBL (nmB hW) (Ev.list nv) (cl_len_list (by rw [List.length_map]; exact lt62 (Nat.le_trans hld.1 (by decide))))) (Nat.lt_of_le_of_lt hld.1 (by decide))) (by rw [List.length_map, leadParts, List.length_map, List.length_range, rngs_len]) (fun C i d d' h1 h2 => ?_) (hsz := by rw [rngs_len]; exact ble_of (Nat.le_trans hld.1 (by decide))))) evs_nil) F.slot_str_join F.type_str_join (cl_join hld.2.2) (hbase := base_const)) (bl rfl) fun P s X => ?_
  · obtain ⟨hi, rfl⟩ := rngs_get h1
    rw [Int.zero_add]
    rw [leadParts, List.map_map, List.getElem?_map, List.getElem?_range hi] at h2
    obtain rfl := Option.some.inj h2
    have hs := hld.2.1 ((stepsOf dr h).getD i 0) (by rw [List.getD_eq_getElem?_getD, List.getElem?_eq_getElem hi]; exact List.getElem_mem hi)
    exact ev_item_list (EvN.l (evn_list (ds := (["\t", " \t", Txt.mul " " (2 + (i : Int))] : List Str).map .str) (evs_cons ev_str (evs_cons ev_str (evs_cons (ev_bin ev_str (ev_bin ev_int nv op_add_int) (op_mul_str (lead_mul hi hld.1))) evs_nil))))) (ev_item_list (Ev.list nv) nv (at_intsN hi) (bI (Nat.le_trans (Nat.le_of_lt hi) (Nat.le_trans hld.1 (by decide))))) (at_strs hs.1 hs.2) ⟨Int.le_trans (by decide) hs.1, Int.lt_trans hs.2 (by decide)⟩
  refine s_append X (d := .str (drawnRow dr h r)) (ev_bin (ev_bin (ev_bin nv (ev_smeth (name := Str.ofString "join") (id := "str.join") (x := ".") (ds := [.str h]) ev_str (evs_cons (ev_item_list (Ev.list nv) nv (at_nat hur) (bI5 hr)) evs_nil) F.slot_str_join F.type_str_join (cl_joinStr hk.2.2.2.1) (hbase := base_const)) (op_add_str (szA hk.2.2.2.2.1 hk.2.2.2.2.2.1))) (ev_item_list (EvN.l (evn_list (ds := ([":\n", "\n:"] : List Str).map .str) (evs_cons ev_str (evs_cons ev_str evs_nil)))) (ev_bin nv ev_int (op_mod_int (by decide))) sep_at ⟨Int.le_trans (by decide) (fmod_in (by decide)).1, Int.lt_trans (fmod_in (n := 2) (by decide)).2 (by decide)⟩) (op_add_str (szB hk.2.2.2.2.1 hk.2.2.2.2.2.1 (sepLen ▸ (by decide))))) ev_str (op_add_str (szC hk.2.2.2.2.1 hk.2.2.2.2.2.1 (sepLen ▸ (by decide)) (by decide)))) (by rw [List.length_map]; exact Nat.le_trans hrl (szl (by decide))) fun P s X => s_nil ⟨P, ?_⟩
  exact (X.forget (Γ' := [("hung", .list (hu.map .str)), ("draws", .list (dr.map .int))]) (by trivial)).delta (by rw [List.map_append]; rfl)
theorem segB {k : Nat} {A : Around} {L : Addr} {s₀ : Shared} {P₀ H P : Vw} {s : Shared} {fd : FuncData} {Mx : List (Addr × MO)} {Q : Flow → Shared → Prop} {E : Value → Shared → Prop} {dr : List Int} {hu : List Str} (hf : lawF Pm = some fd) (hl4 : dr.length = 4) (hu5 : hu.length = 5) (hrow : ∀ r, r < 5 → rowOk dr (hu.getD r "") r = true)
    (X : At W (k + 12) A (callEnvC fd L 196) s₀ P₀ H [("hung", .list (hu.map .str)), ("draws", .list (dr.map .int))] [] Mx P s)
    (next : ∀ P s, At W (k + 12) A (callEnvC fd L 196) s₀ P₀ H [("drawn", .list ((drawnOf dr hu).map .str)), ("hung", .list (hu.map .str)), ("draws", .list (dr.map .int))] [] Mx P s → wpAny W.M A (execs ((stmtsOf fd).drop 5) (callEnvC fd L 196)) Q E s) :
    wpAny W.M A (execs ((stmtsOf fd).drop 3) (callEnvC fd L 196)) Q E s := by
  have hf' := hf
  obtain rfl : _ = fd := Option.some.inj hf
  refine s_setN X (evn_list evs_nil) (bc rfl rfl) fun P s X => ?_
  refine s_forI X (evi_range1 (n := 5) (nmB hW) ev_int (by decide)) (bl rfl) (fun _ => [("hung", .list (hu.map .str)), ("draws", .list (dr.map .int))]) (fun i => [("drawn", (((List.range i).map fun r => drawnRow dr (hu.getD r "") r).map .str))]) rfl rfl (fun _ => ⟨by trivial, by trivial⟩) (fun r d H' P s E' hd X => ?_) fun P s X => ?_
  · obtain ⟨hr, rfl⟩ := rngs_get hd
    rw [Int.zero_add] at X
    rw [List.range_succ, List.map_append]
    exact segB1 hW hf' hl4 hr (by rw [List.getElem?_map, getD_at (ltL hu5 hr)]; rfl) (hrow r hr) (by rw [List.length_map, List.length_range]; exact Nat.le_of_lt hr) X
  · rw [rngs_len] at X
    obtain ⟨P, X⟩ := X.freeze
    exact next P s X
theorem segA {k : Nat} {A : Around} {L : Addr} {s₀ : Shared} {P₀ H P : Vw} {s : Shared} {fd : FuncData} {Mx : List (Addr × MO)} {Q : Flow → Shared → Prop} {E : Value → Shared → Prop} {dr : List Int} (hf : lawF Pm = some fd) (hl4 : dr.length = 4) (hh : ∀ i x, dr[i]? = some x → hOk (hungN dr i) x = true)
    (X : At W (k + 12) A (callEnvC fd L 196) s₀ P₀ H [("draws", .list (dr.map .int))] [] Mx P s)
    (next : ∀ P s, At W (k + 12) A (callEnvC fd L 196) s₀ P₀ H [("hung", .list ((hungN dr 4).map .str)), ("draws", .list (dr.map .int))] [] Mx P s → wpAny W.M A (execs ((stmtsOf fd).drop 3) (callEnvC fd L 196)) Q E s) :
    wpAny W.M A (execs ((stmtsOf fd).drop 1) (callEnvC fd L 196)) Q E s := by
  obtain rfl : _ = fd := Option.some.inj hf
  refine s_setN X (evn_list (evs_cons ev_str evs_nil)) (bc rfl rfl) fun P s X => ?_
  refine s_forI X (evi_listP nv) (bl rfl) (fun _ => [("draws", .list (dr.map .int))]) (fun i => [("hung", (hungN dr i).map .str)]) rfl rfl (fun _ => ⟨by trivial, by trivial⟩) (fun i d H' P s E' hd X => ?_) fun P s X => ?_
  · rw [List.getElem?_map] at hd
    obtain ⟨x, hx, rfl⟩ := Option.map_eq_some_iff.mp hd
    have hk := hOk_out (hh i x hx)
    rw [show hungN dr (i + 1) = hStep (hungN dr i) x by unfold hungN; rw [List.take_add_one, hx, List.foldl_append]; rfl]
    generalize hungN dr i = hi at X hk
    have hml : (hi.map D.str).length = hi.length := List.length_map ..
    have h4 := le4 _ hk.2.1
    rw [← hml] at h4
    refine s_append X (ev_bin (ev_slice_str (ev_item_list nm (ev_un ev_int op_neg) (at_last hk.1)) evo_none (evo_some (ev_bin ev_int (ev_bin nv (ev_callB (nmB hW) (evs_cons (ev_item_list nm (ev_un ev_int op_neg) (at_last hk.1)) evs_nil) (cl_len_str (lt62 (Nat.le_trans hk.2.2.2.1 (by decide))))) (op_mod_int (nz hk.2.2.1))) op_add_int)) (Nat.le_trans hk.2.2.2.1 (szl (by decide)))) (ev_item_str ev_str (ev_callBL (nmB hW) nm (cl_len_list (hml ▸ lt62 (Nat.le_trans hk.2.1 (by decide))))) h4.1 h4.2.1 h4.2.2) (op_add_str (by rw [hml]; exact Nat.le_trans hk.2.2.2.2 (szl (by decide))))) (by rw [hml]; exact Nat.le_trans hk.2.1 (szl (by decide))) fun P s X => s_nil ⟨P, ?_⟩
    exact (X.forget fun p h => .tail _ h).delta (by rw [hml, hStep, List.map_append]; rfl)
  · rw [List.length_map, hl4] at X
    obtain ⟨P, X⟩ := X.freeze
    exact next P s X
theorem kl196 {k : Nat} {ns : List Int} (hlen : ns.length ≤ 63) (Fx : LawOk (drs ns)) : Kl0 W (k + 13) (.ref 196) [.list (ns.map .int)] [(166, .obj (tabObj #[]))] (LawOut 166) := by
  refine kl0_fn (x := "script") (fun P b => ⟨⟨_, b.k _ _ (by rw [hW]; rfl), rfl⟩, by rw [hW]; rfl, rfl, fun vs h => ?_, rfl, ?_, by decide, by decide, rfl, rfl, rfl, rfl, rfl⟩) rfl ?_
  · obtain ⟨v, rfl⟩ := len1 h; rfl
  · decide
  intro A L s₀ P₀ P s _ X
  have hsz : (ns.map D.int).length ≤ 63 := (List.length_map ..).symm ▸ hlen
  have h4 : (ns.take 4).length ≤ 4 := len_take4
  replace X : At W (k + 12) A _ s₀ P₀ _ [("script", .list (ns.map .int))] [] [(166, .obj (tabObj #[]))] P s := X
  refine s_set (d := .list ((drs ns).map .int)) X (EvN.ev ?_) (bc rfl rfl) fun P s X => ?_
  · rw [drs, List.map_append]
    refine evn_add (EvN.l ?_) (EvN.l ?_) ?_
    · refine evn_for (its := (ns.take 4).map .int) [] [] (evi_list (EvN.l (by rw [← pick_ints]; exact evn_slice_list (Ev.list nv) evo_none (evo_some ev_int) (Nat.le_trans hsz (szl (by decide)))))) (by rw [List.length_map, List.length_map, List.length_map]) (fun C i d d' h1 h2 => ?_) (hsz := ble_of (by rw [List.length_map]; exact Nat.le_trans h4 (by decide)))
      rw [List.map_map, List.getElem?_map] at h2
      rw [List.getElem?_map] at h1
      obtain ⟨x, hx, rfl⟩ := Option.map_eq_some_iff.mp h1
      rw [hx] at h2
      obtain rfl := Option.some.inj h2
      exact ev_bin nv ev_int (op_mod_int (by decide))
    · rw [← pick_drop h4]
      refine evn_slice_list (EvN.l (evn_list (ds := ([38, 97, 12, 37] : List Int).map .int) (evs_cons ev_int (evs_cons ev_int (evs_cons ev_int (evs_cons ev_int evs_nil)))))) (evo_some ?_) evo_none (by decide)
      rw [lenI]
      exact ev_callBL (nmB hW) (EvN.l (by rw [← pick_ints]; exact evn_slice_list (Ev.list nv) evo_none (evo_some ev_int) (Nat.le_trans hsz (szl (by decide))))) (cl_len_list (by rw [List.length_map]; exact lt62 (Nat.le_trans h4 (by decide))))
    · rw [List.length_map, List.length_map, List.length_map, List.length_drop]
      exact Nat.le_trans (Nat.add_le_add h4 (Nat.sub_le ..)) (szl (by decide))
  exact segA hW rfl Fx.len Fx.hung (X.forget (Γ' := [("draws", .list ((drs ns).map .int))]) (by trivial)) fun P s X => segB hW rfl Fx.len (hungN_len Fx.len) Fx.row X fun P s X => segC hW rfl Fx X
end
section
set_option maxHeartbeats 4000000
/-! text, sign by sign -/
theorem sx {a b : Str} (h : a.cps.toList = b.cps.toList) : a = b := by
  cases a; cases b; simp only [Str.mk.injEq]; exact Array.toList_inj.mp h
theorem cpsA (a b : Str) : (a ++ b).cps.toList = a.cps.toList ++ b.cps.toList := by
  rw [Str.cps_append, Array.toList_append]
theorem beq1 (a c : Nat) : ((⟨#[a]⟩ : Str) == ⟨#[c]⟩) = decide (a = c) := one_beq
theorem q34 (c : Nat) : ((⟨#[c]⟩ : Str) == "\"") = decide (c = 34) := beq1 c 34
theorem q92 (c : Nat) : ((⟨#[c]⟩ : Str) == "\\") = decide (c = 92) := beq1 c 92
theorem q10 (c : Nat) : ((⟨#[c]⟩ : Str) == "\n") = decide (c = 10) := beq1 c 10
theorem wsc_eq (c : Nat) : wsc c = decide (c ∈ [10, 9, 13, 32]) := StrLaws.found_one "\n\t\r " c
theorem lnc_eq (c : Nat) (ln : Int) : lnc c ln = if c = 10 then ln + 1 else ln := by
  unfold lnc; rw [q10]; simp
noncomputable def subs (c : Nat) (z : List Nat) (l : List Nat) : List Nat := l.flatMap fun d => if d = c then z else [d]
theorem subs_append (c : Nat) (z a b : List Nat) : subs c z (a ++ b) = subs c z a ++ subs c z b := List.flatMap_append
theorem subs_free (c : Nat) (z : List Nat) : ∀ l : List Nat, c ∉ l → subs c z l = l
  | [], _ => rfl
  | k :: r, h => by
    have h1 : ¬ k = c := fun e => h (e ▸ List.mem_cons_self ..)
    have ih := subs_free c z r fun m => h (List.mem_cons_of_mem _ m)
    unfold subs at ih ⊢
    rw [List.flatMap_cons, if_neg h1, ih]; rfl
theorem subs_join (c : Nat) (z : Str) : ∀ parts : List Str, (∀ p ∈ parts, c ∉ p.cps.toList) → subs c z.cps.toList (Str.join ⟨#[c]⟩ parts).cps.toList = (Str.join z parts).cps.toList
  | [], _ => rfl
  | [p], h => subs_free c _ _ (h p (List.mem_singleton.mpr rfl))
  | p :: q :: r, h => by
    have ih := subs_join c z (q :: r) fun a ha => h a (List.mem_cons_of_mem _ ha)
    show subs c _ (p ++ ⟨#[c]⟩ ++ Str.join ⟨#[c]⟩ (q :: r)).cps.toList = (p ++ z ++ Str.join z (q :: r)).cps.toList
    simp only [Str.cps_append, Array.toList_append]
    rw [subs_append, subs_append, ih, subs_free c _ _ (h p (List.mem_cons_self ..))]
    congr 2
    simp [subs]
theorem repl (x z : Str) (c : Nat) : (Txt.replace x ⟨#[c]⟩ z).cps.toList = subs c z.cps.toList x.cps.toList := by
  rw [StrLaws.replace_one, ← subs_join c z _ (StrLaws.split_free x c), StrLaws.join_split]
theorem joinE : ∀ l : List Str, (Txt.join "" l).cps.toList = l.flatMap fun x => x.cps.toList := by
  intro l
  have e : Txt.join "" l = Str.join ⟨#[]⟩ l := StrLaws.glued_eq_join _ _
  rw [e]; clear e
  induction l with
  | nil => rfl
  | cons a r ih =>
    rw [List.flatMap_cons, ← ih, join_nil_cons, cpsA]
noncomputable def lnL (l : List Nat) (ln : Int) : Int := l.foldl (fun a c => lnc c a) ln
theorem lnL_count (l : List Nat) (ln : Int) : lnL l ln = ln + (l.count 10 : Nat) := by
  induction l generalizing ln with
  | nil => simp [lnL]
  | cons c r ih =>
    have : lnL (c :: r) ln = lnL r (lnc c ln) := rfl
    rw [this, ih, lnc_eq, List.count_cons]
    by_cases h : c = 10
    · simp [h]; omega
    · simp [h]
theorem lexT_k (c : Nat) (r : List Nat) (ln : Int) (n : Nat) : lexT (c :: r) ln n = if wsc c then lexT r (lnc c ln) (n + 1) else if (⟨#[c]⟩ : Str) == "\"" then lexQ r "" (lnc c ln) (n + 1) else if (⟨#[c]⟩ : Str) == "\\" then (match r with | [] => (("" : Str) ++ ("" : Str), [], lnc c ln, n + 3) | c2 :: r2 => lexB r2 (("" : Str) ++ (⟨#[c2]⟩ : Str)) (lnc c2 (lnc c ln)) (n + 2)) else lexB r (("" : Str) ++ (⟨#[c]⟩ : Str)) (lnc c ln) (n + 1) := by cases r <;> rfl
theorem lexQ_k (c : Nat) (r : List Nat) (tok : Str) (ln : Int) (n : Nat) : lexQ (c :: r) tok ln n = if (⟨#[c]⟩ : Str) == "\"" then (tok, r, lnc c ln, n + 1) else if (⟨#[c]⟩ : Str) == "\\" then (match r with | [] => (tok ++ ("" : Str), [], lnc c ln, n + 3) | c2 :: r2 => lexQ r2 (tok ++ (⟨#[c2]⟩ : Str)) (lnc c2 (lnc c ln)) (n + 2)) else lexQ r (tok ++ (⟨#[c]⟩ : Str)) (lnc c ln) (n + 1) := by cases r <;> rfl
theorem lexB_k (c : Nat) (r : List Nat) (tok : Str) (ln : Int) (n : Nat) : lexB (c :: r) tok ln n = if wsc c then (tok, r, lnc c ln, n + 1) else if (⟨#[c]⟩ : Str) == "\\" then (match r with | [] => (tok ++ ("" : Str), [], lnc c ln, n + 3) | c2 :: r2 => lexB r2 (tok ++ (⟨#[c2]⟩ : Str)) (lnc c2 (lnc c ln)) (n + 2)) else lexB r (tok ++ (⟨#[c]⟩ : Str)) (lnc c ln) (n + 1) := by cases r <;> rfl
theorem lexQ_c (c : Nat) (r : List Nat) (tok : Str) (ln : Int) (n : Nat) : lexQ (c :: r) tok ln n = if c = 34 then (tok, r, lnc c ln, n + 1) else if c = 92 then (match r with | [] => (tok ++ ("" : Str), [], lnc c ln, n + 3) | c2 :: r2 => lexQ r2 (tok ++ (⟨#[c2]⟩ : Str)) (lnc c2 (lnc c ln)) (n + 2)) else lexQ r (tok ++ (⟨#[c]⟩ : Str)) (lnc c ln) (n + 1) := by
  rw [lexQ_k, q34, q92]; simp only [decide_eq_true_eq] <;> rfl
theorem lexB_c (c : Nat) (r : List Nat) (tok : Str) (ln : Int) (n : Nat) : lexB (c :: r) tok ln n = if c ∈ [10, 9, 13, 32] then (tok, r, lnc c ln, n + 1) else if c = 92 then (match r with | [] => (tok ++ ("" : Str), [], lnc c ln, n + 3) | c2 :: r2 => lexB r2 (tok ++ (⟨#[c2]⟩ : Str)) (lnc c2 (lnc c ln)) (n + 2)) else lexB r (tok ++ (⟨#[c]⟩ : Str)) (lnc c ln) (n + 1) := by
  rw [lexB_k, wsc_eq, q92]; simp only [decide_eq_true_eq] <;> rfl
theorem lexT_c (c : Nat) (r : List Nat) (ln : Int) (n : Nat) : lexT (c :: r) ln n = if c ∈ [10, 9, 13, 32] then lexT r (lnc c ln) (n + 1) else if c = 34 then lexQ r "" (lnc c ln) (n + 1) else if c = 92 then (match r with | [] => (("" : Str) ++ ("" : Str), [], lnc c ln, n + 3) | c2 :: r2 => lexB r2 (("" : Str) ++ (⟨#[c2]⟩ : Str)) (lnc c2 (lnc c ln)) (n + 2)) else lexB r (("" : Str) ++ (⟨#[c]⟩ : Str)) (lnc c ln) (n + 1) := by
  rw [lexT_k, wsc_eq, q34, q92]; simp only [decide_eq_true_eq] <;> rfl
theorem tokA (tok : Str) (c : Nat) (l : List Nat) : (tok ++ (⟨#[c]⟩ : Str)) ++ (⟨l.toArray⟩ : Str) = tok ++ (⟨(c :: l).toArray⟩ : Str) := sx (by simp [cpsA])
theorem tokE (tok : Str) : tok ++ (⟨([] : List Nat).toArray⟩ : Str) = tok := sx (by simp [cpsA])
/-- marks ahead of quotation marks -/
theorem lexQ_0 {rest : List Nat} : ∀ {l : List Nat} {tok : Str} {ln : Int} {n : Nat}, 92 ∉ l → ∃ n', lexQ (subs 34 [92, 34] l ++ 34 :: rest) tok ln n = (tok ++ (⟨l.toArray⟩ : Str), rest, lnL l ln, n')
  | [], tok, ln, n, _ => by
    refine ⟨n + 1, ?_⟩
    show lexQ (34 :: rest) tok ln n = _
    rw [lexQ_c, if_pos rfl, tokE]; rfl
  | c :: l, tok, ln, n, h => by
    have h1 : ¬ c = 92 := fun e => h (e ▸ List.mem_cons_self ..)
    have h2 : 92 ∉ l := fun m => h (List.mem_cons_of_mem _ m)
    by_cases hc : c = 34
    · subst hc
      obtain ⟨n', e⟩ := lexQ_0 (rest := rest) (l := l) (tok := tok ++ (⟨#[34]⟩ : Str)) (ln := lnc 34 (lnc 92 ln)) (n := n + 2) h2
      refine ⟨n', ?_⟩
      have : subs 34 [92, 34] (34 :: l) = 92 :: 34 :: subs 34 [92, 34] l := rfl
      rw [this, List.cons_append, List.cons_append, lexQ_c, if_neg (by decide), if_pos rfl]
      dsimp only
      rw [e, tokA]
      rfl
    · obtain ⟨n', e⟩ := lexQ_0 (rest := rest) (l := l) (tok := tok ++ (⟨#[c]⟩ : Str)) (ln := lnc c ln) (n := n + 1) h2
      refine ⟨n', ?_⟩
      have : subs 34 [92, 34] (c :: l) = c :: subs 34 [92, 34] l := by
        unfold subs; rw [List.flatMap_cons, if_neg hc]; rfl
      rw [this, List.cons_append, lexQ_c, if_neg hc, if_neg h1, e, tokA]
      rfl
/-- marks ahead of all -/
theorem lexQ_2 {rest : List Nat} : ∀ {l : List Nat} {tok : Str} {ln : Int} {n : Nat}, ∃ n', lexQ ((l.flatMap fun d => [92, d]) ++ 34 :: rest) tok ln n = (tok ++ (⟨l.toArray⟩ : Str), rest, lnL l ln, n')
  | [], tok, ln, n => by
    refine ⟨n + 1, ?_⟩
    show lexQ (34 :: rest) tok ln n = _
    rw [lexQ_c, if_pos rfl, tokE]; rfl
  | c :: l, tok, ln, n => by
    obtain ⟨n', e⟩ := lexQ_2 (rest := rest) (l := l) (tok := tok ++ (⟨#[c]⟩ : Str)) (ln := lnc c (lnc 92 ln)) (n := n + 2)
    refine ⟨n', ?_⟩
    rw [List.flatMap_cons]
    show lexQ (92 :: c :: ((l.flatMap fun d => [92, d]) ++ 34 :: rest)) tok ln n = _
    rw [lexQ_c, if_neg (by decide), if_pos rfl]
    dsimp only
    rw [e, tokA]
    rfl
noncomputable def escW (l : List Nat) : List Nat := l.flatMap fun d => if d = 32 ∨ d = 9 ∨ d = 10 then [92, d] else [d]
theorem escW_cons (c : Nat) (l : List Nat) : escW (c :: l) = (if c = 32 ∨ c = 9 ∨ c = 10 then [92, c] else [c]) ++ escW l := rfl
/-- bare: up to a blank, or to the end -/
theorem lexB_1 {tl : List Nat} {f : Str → Int → List Nat × Int} (ht : ∀ tok ln n, ∃ n', lexB tl tok ln n = (tok, (f tok ln).1, (f tok ln).2, n')) (hf : ∀ tok tok' ln, f tok ln = f tok' ln) : ∀ {l : List Nat} {tok : Str} {ln : Int} {n : Nat}, 92 ∉ l → 13 ∉ l → ∃ n', lexB (escW l ++ tl) tok ln n = (tok ++ (⟨l.toArray⟩ : Str), (f "" (lnL l ln)).1, (f "" (lnL l ln)).2, n')
  | [], tok, ln, n, _, _ => by
    obtain ⟨n', e⟩ := ht tok ln n
    exact ⟨n', by show lexB tl tok ln n = _; rw [e, tokE, hf tok ""]; rfl⟩
  | c :: l, tok, ln, n, h, h' => by
    have h1 : ¬ c = 92 := fun e => h (e ▸ List.mem_cons_self ..)
    have h3 : ¬ c = 13 := fun e => h' (e ▸ List.mem_cons_self ..)
    have h2 : 92 ∉ l := fun m => h (List.mem_cons_of_mem _ m)
    have h4 : 13 ∉ l := fun m => h' (List.mem_cons_of_mem _ m)
    rw [escW_cons]
    by_cases hc : c = 32 ∨ c = 9 ∨ c = 10
    · obtain ⟨n', e⟩ := lexB_1 ht hf (l := l) (tok := tok ++ (⟨#[c]⟩ : Str)) (ln := lnc c (lnc 92 ln)) (n := n + 2) h2 h4
      refine ⟨n', ?_⟩
      rw [if_pos hc]
      show lexB (92 :: c :: (escW l ++ tl)) tok ln n = _
      rw [lexB_c, if_neg (by decide), if_pos rfl]
      dsimp only
      rw [e, tokA]
      rfl
    · obtain ⟨n', e⟩ := lexB_1 ht hf (l := l) (tok := tok ++ (⟨#[c]⟩ : Str)) (ln := lnc c ln) (n := n + 1) h2 h4
      refine ⟨n', ?_⟩
      rw [if_neg hc]
      show lexB (c :: (escW l ++ tl)) tok ln n = _
      rw [lexB_c, if_neg (by simp; exact ⟨fun e => hc (.inr (.inr e)), fun e => hc (.inr (.inl e)), h3, fun e => hc (.inl e)⟩), if_neg h1, e, tokA]
      rfl
end
section
set_option maxHeartbeats 4000000
noncomputable def spL (l : List Nat) (way : Int) : List Nat := if way = 0 then 34 :: (subs 34 [92, 34] l ++ [34]) else if way = 1 then escW l else 34 :: ((l.flatMap fun d => [92, d]) ++ [34])
theorem esc3 : ∀ l : List Nat, subs 10 [92, 10] (subs 9 [92, 9] (subs 32 [92, 32] l)) = escW l
  | [] => rfl
  | c :: l => by
    have ih := esc3 l
    have e : c :: l = [c] ++ l := rfl
    rw [e, subs_append, subs_append, subs_append, ih]
    show _ = (if c = 32 ∨ c = 9 ∨ c = 10 then [92, c] else [c]) ++ escW l
    congr 1
    by_cases h1 : c = 32
    · subst h1; rfl
    · by_cases h2 : c = 9
      · subst h2; rfl
      · by_cases h3 : c = 10
        · subst h3; rfl
        · simp [subs, h1, h2, h3]
theorem spelled_cps (row : Str) (way : Int) : (spelled row way).cps.toList = spL row.cps.toList way := by
  unfold spelled spL
  by_cases h0 : way = 0
  · subst h0
    rw [if_pos (show ((0 : Int) == 0) = true from rfl), if_pos rfl, cpsA, cpsA]
    have : (spA row).cps.toList = subs 34 [92, 34] row.cps.toList := repl row "\\\"" 34
    rw [this]; rfl
  · rw [if_neg (by simpa using h0), if_neg h0]
    by_cases h1 : way = 1
    · subst h1
      rw [if_pos (show ((1 : Int) == 1) = true from rfl), if_pos rfl]
      have e1 : (spB1 row).cps.toList = subs 32 [92, 32] row.cps.toList := repl row "\\ " 32
      have e2 : (spB2 row).cps.toList = subs 9 [92, 9] (spB1 row).cps.toList := repl (spB1 row) "\\\t" 9
      have e3 : (Txt.replace (spB2 row) "\n" "\\\n").cps.toList = subs 10 [92, 10] (spB2 row).cps.toList := repl (spB2 row) "\\\n" 10
      rw [e3, e2, e1, esc3]
    · rw [if_neg (by simpa using h1), if_neg h1, cpsA, cpsA]
      have : (spC row).cps.toList = row.cps.toList.flatMap fun d => [92, d] := by
        unfold spC
        rw [joinE, List.flatMap_map]
        rfl
      rw [this]; rfl
structure RowL (l : List Nat) : Prop where
  b : 92 ∉ l
  r : 13 ∉ l
  h : ∃ c t, l = c :: t ∧ c ≠ 34
theorem tok_bare {l tl : List Nat} {f : Str → Int → List Nat × Int} (ht : ∀ tok ln n, ∃ n', lexB tl tok ln n = (tok, (f tok ln).1, (f tok ln).2, n')) (hf : ∀ tok tok' ln, f tok ln = f tok' ln) (h : RowL l) (ln : Int) (n : Nat) :
    ∃ n', lexT (escW l ++ tl) ln n = ((⟨l.toArray⟩ : Str), (f "" (lnL l ln)).1, (f "" (lnL l ln)).2, n') := by
  obtain ⟨c, t, rfl, hc⟩ := h.h
  have h1 : ¬ c = 92 := fun e => h.b (e ▸ List.mem_cons_self ..)
  have h2 : ¬ c = 13 := fun e => h.r (e ▸ List.mem_cons_self ..)
  have h3 : 92 ∉ t := fun m => h.b (List.mem_cons_of_mem _ m)
  have h4 : 13 ∉ t := fun m => h.r (List.mem_cons_of_mem _ m)
  have tz : ∀ t : List Nat, (("" : Str) ++ (⟨#[c]⟩ : Str)) ++ (⟨t.toArray⟩ : Str) = (⟨(c :: t).toArray⟩ : Str) := fun t => sx (by simp [cpsA]; rfl)
  rw [escW_cons]
  by_cases hw : c = 32 ∨ c = 9 ∨ c = 10
  · obtain ⟨n', e⟩ := lexB_1 ht hf (l := t) (tok := ("" : Str) ++ (⟨#[c]⟩ : Str)) (ln := lnc c (lnc 92 ln)) (n := n + 2) h3 h4
    refine ⟨n', ?_⟩
    rw [if_pos hw]
    show lexT (92 :: c :: (escW t ++ tl)) ln n = _
    rw [lexT_c, if_neg (by decide), if_neg (by decide), if_pos rfl]
    dsimp only
    rw [e, tz]
    rfl
  · obtain ⟨n', e⟩ := lexB_1 ht hf (l := t) (tok := ("" : Str) ++ (⟨#[c]⟩ : Str)) (ln := lnc c ln) (n := n + 1) h3 h4
    refine ⟨n', ?_⟩
    rw [if_neg hw]
    show lexT (c :: (escW t ++ tl)) ln n = _
    rw [lexT_c, if_neg (by simp; omega), if_neg hc, if_neg h1, e, tz]
    rfl
theorem tok_quoted {body rest : List Nat} {l : List Nat} (h : ∀ tok ln n, ∃ n', lexQ (body ++ 34 :: rest) tok ln n = (tok ++ (⟨l.toArray⟩ : Str), rest, lnL l ln, n')) (ln : Int) (n : Nat) : ∃ n', lexT (34 :: (body ++ [34]) ++ rest) ln n = ((⟨l.toArray⟩ : Str), rest, lnL l ln, n') := by
  obtain ⟨n', e⟩ := h "" (lnc 34 ln) (n + 1)
  refine ⟨n', ?_⟩
  rw [show 34 :: (body ++ [34]) ++ rest = 34 :: (body ++ 34 :: rest) by simp, lexT_c, if_neg (by decide), if_pos rfl, e]
  exact congrArg (fun x => (x, rest, lnL l ln, n')) (sx (by simp [cpsA]; rfl))
theorem tok_mid {l R : List Nat} {c : Nat} (way : Int) (h : RowL l) (hc : c ∈ [10, 9, 13, 32]) (ln : Int) (n : Nat) : ∃ pend ln1 n', lexT (spL l way ++ c :: R) ln n = ((⟨l.toArray⟩ : Str), pend ++ R, ln1, n') ∧ (pend = [] ∨ pend = [c]) ∧ lnL pend ln1 = lnc c (lnL l ln) := by
  unfold spL
  split
  · obtain ⟨n', e⟩ := tok_quoted (rest := c :: R) (fun tok ln n => lexQ_0 (rest := c :: R) (l := l) h.b) ln n
    exact ⟨[c], _, n', e, .inr rfl, rfl⟩
  · split
    · obtain ⟨n', e⟩ := tok_bare (tl := c :: R) (f := fun _ ln => (R, lnc c ln)) (fun tok ln n => ⟨n + 1, by rw [lexB_c, if_pos hc]⟩) (fun _ _ _ => rfl) h ln n
      exact ⟨[], _, n', e, .inl rfl, rfl⟩
    · obtain ⟨n', e⟩ := tok_quoted (rest := c :: R) (fun tok ln n => lexQ_2 (rest := c :: R) (l := l)) ln n
      exact ⟨[c], _, n', e, .inr rfl, rfl⟩
theorem tok_end {l : List Nat} (way : Int) (h : RowL l) (ln : Int) (n : Nat) : ∃ n', lexT (spL l way) ln n = ((⟨l.toArray⟩ : Str), [], lnL l ln, n') := by
  unfold spL
  split
  · have := tok_quoted (rest := []) (fun tok ln n => lexQ_0 (rest := []) (l := l) h.b) ln n
    rwa [List.append_nil] at this
  · split
    · have := tok_bare (tl := []) (f := fun _ ln => ([], ln)) (fun tok ln n => ⟨n + 1, rfl⟩) (fun _ _ _ => rfl) h ln n
      rwa [List.append_nil] at this
    · have := tok_quoted (rest := []) (fun tok ln n => lexQ_2 (rest := []) (l := l)) ln n
      rwa [List.append_nil] at this
/-! what is left is what lies behind the place -/
theorem dropS {L r : List Nat} {c n : Nat} (h : L.drop n = c :: r) : L.drop (n + 1) = r := drop_tail h
theorem dropN {L : List Nat} {n : Nat} (h : L.drop n = []) (k : Nat) : L.drop (n + k) = [] := by
  rw [← List.drop_drop, h, List.drop_nil]
theorem lexQ_drop (L : List Nat) : ∀ (l : List Nat) (tok : Str) (ln : Int) (n : Nat), L.drop n = l → L.drop (lexQ l tok ln n).2.2.2 = (lexQ l tok ln n).2.1
  | [], tok, ln, n, h => dropN h 1
  | [c], tok, ln, n, h => by
    have h1 := dropS h
    rw [lexQ_c]
    split
    · exact h1
    · split
      · exact dropN h1 2
      · exact lexQ_drop L [] _ _ _ h1
  | c :: c2 :: r, tok, ln, n, h => by
    have h1 := dropS h
    have h2 := dropS h1
    rw [lexQ_c]
    split
    · exact h1
    · split
      · exact lexQ_drop L r _ _ _ h2
      · exact lexQ_drop L (c2 :: r) _ _ _ h1
theorem lexB_drop (L : List Nat) : ∀ (l : List Nat) (tok : Str) (ln : Int) (n : Nat), L.drop n = l → L.drop (lexB l tok ln n).2.2.2 = (lexB l tok ln n).2.1
  | [], tok, ln, n, h => dropN h 1
  | [c], tok, ln, n, h => by
    have h1 := dropS h
    rw [lexB_c]
    split
    · exact h1
    · split
      · exact dropN h1 2
      · exact lexB_drop L [] _ _ _ h1
  | c :: c2 :: r, tok, ln, n, h => by
    have h1 := dropS h
    have h2 := dropS h1
    rw [lexB_c]
    split
    · exact h1
    · split
      · exact lexB_drop L r _ _ _ h2
      · exact lexB_drop L (c2 :: r) _ _ _ h1
theorem lexT_drop (L : List Nat) : ∀ (l : List Nat) (ln : Int) (n : Nat), L.drop n = l → L.drop (lexT l ln n).2.2.2 = (lexT l ln n).2.1
  | [], ln, n, h => dropN h 1
  | [c], ln, n, h => by
    have h1 := dropS h
    rw [lexT_c]
    split
    · exact lexT_drop L [] _ _ h1
    · split
      · exact lexQ_drop L [] _ _ _ h1
      · split
        · exact dropN h1 2
        · exact lexB_drop L [] _ _ _ h1
  | c :: c2 :: r, ln, n, h => by
    have h1 := dropS h
    have h2 := dropS h1
    rw [lexT_c]
    split
    · exact lexT_drop L (c2 :: r) _ _ h1
    · split
      · exact lexQ_drop L (c2 :: r) _ _ _ h1
      · split
        · exact lexB_drop L r _ _ _ h2
        · exact lexB_drop L (c2 :: r) _ _ _ h1
/-- ahead of the i-th token: R is to be read, behind at most one blank; the line is ln behind that -/
noncomputable def LexI (text : Str) (i : Nat) (R : List Nat) (ln : Int) : Prop := ∃ pend : List Nat, (pend = [] ∨ ∃ c, pend = [c] ∧ c ∈ [10, 9, 13, 32]) ∧ text.cps.toList.drop (lexSt text i).2 = pend ++ R ∧ lnL pend (lexSt text i).1 = ln
theorem LexI.start (text : Str) : LexI text 0 text.cps.toList 1 := ⟨[], .inl rfl, rfl, rfl⟩
theorem LexI.go {text : Str} {i : Nat} {R : List Nat} {ln : Int} (h : LexI text i R ln) : ∃ n0, lexR text (lexSt text i) = lexT R ln n0 := by
  obtain ⟨pend, hp, hd, hl⟩ := h
  unfold lexR
  rw [hd]
  rcases hp with rfl | ⟨c, rfl, hc⟩
  · rw [← hl]; exact ⟨_, rfl⟩
  · rw [← hl]
    show ∃ n0, lexT (c :: R) _ _ = _
    rw [lexT_c, if_pos hc]
    exact ⟨_, rfl⟩
theorem LexI.dropE {text : Str} {i : Nat} : text.cps.toList.drop (lexSt text (i + 1)).2 = (lexR text (lexSt text i)).2.1 := by
  rw [lexSt]; exact lexT_drop _ _ _ _ rfl
theorem LexI.mid {text : Str} {i : Nat} {l R : List Nat} {c : Nat} {way ln : Int} (h : LexI text i (spL l way ++ c :: R) ln) (hr : RowL l) (hc : c ∈ [10, 9, 13, 32]) : lexTok text i = (⟨l.toArray⟩ : Str) ∧ LexI text (i + 1) R (lnc c (lnL l ln)) := by
  obtain ⟨n0, e⟩ := h.go
  obtain ⟨pend, ln1, n', e2, hp, hl⟩ := tok_mid (R := R) way hr hc ln n0
  rw [e2] at e
  have hd := LexI.dropE (text := text) (i := i)
  rw [e] at hd
  refine ⟨by unfold lexTok; rw [e], pend, ?_, hd, ?_⟩
  · rcases hp with rfl | rfl
    · exact .inl rfl
    · exact .inr ⟨c, rfl, hc⟩
  · rw [lexSt, e]; exact hl
theorem LexI.last {text : Str} {i : Nat} {l : List Nat} {way ln : Int} (h : LexI text i (spL l way) ln) (hr : RowL l) : lexTok text i = (⟨l.toArray⟩ : Str) ∧ lexTok text (i + 1) = "" ∧ (lexSt text (i + 1)).1 = lnL l ln ∧ (lexSt text (i + 2)).1 = lnL l ln := by
  obtain ⟨n0, e⟩ := h.go
  obtain ⟨n', e2⟩ := tok_end way hr ln n0
  rw [e2] at e
  have hd := LexI.dropE (text := text) (i := i)
  rw [e] at hd
  have hs : (lexSt text (i + 1)).1 = lnL l ln := by rw [lexSt, e]
  have hR : lexR text (lexSt text (i + 1)) = (("" : Str), [], (lexSt text (i + 1)).1, (lexSt text (i + 1)).2 + 1) := by
    unfold lexR
    rw [hd]; rfl
  refine ⟨by unfold lexTok; rw [e], by unfold lexTok; rw [hR], hs, ?_⟩
  rw [show i + 2 = (i + 1) + 1 from rfl, lexSt, hR]; exact hs
end
section
set_option maxHeartbeats 4000000
theorem slen (x : Str) : x.length = x.cps.toList.length := by simp [Str.length]
theorem joinOk_of {sep : Str} {texts : List Str} (M : Nat) (h : ∀ t ∈ texts, t.length ≤ M) (hs : sep.length ≤ 2) (hn : texts.length * (M + 2) ≤ 16777216) : JoinOk sep texts = true := by
  have key : ∀ (l : List Str) (a : Nat), (∀ t ∈ l, t.length ≤ M) → l.foldl (fun (x : Nat) (t : Str) => x + t.length + sep.length) a ≤ a + l.length * (M + 2) := by
    intro l
    induction l with
    | nil => intro a _; simp
    | cons t r ih =>
      intro a h
      have h1 := h t List.mem_cons_self
      have h2 := ih (a + t.length + sep.length) fun t ht => h t (List.mem_cons_of_mem _ ht)
      rw [List.foldl_cons, List.length_cons, Nat.succ_mul]
      omega
  have e := key texts 0 h
  unfold JoinOk
  rw [List.foldl_toArray]
  simp only [PySem.Builtin.Str.tooLong, Bool.not_eq_true', decide_eq_false_iff_not, PySem.sizeLine_eq]
  omega
theorem flat_len {α β : Type} {f : α → List β} {k : Nat} (h : ∀ a, (f a).length ≤ k) : ∀ l : List α, (l.flatMap f).length ≤ k * l.length
  | [] => by simp
  | a :: r => by
    have := flat_len h r
    have := h a
    rw [List.flatMap_cons, List.length_append, List.length_cons, Nat.mul_succ]; omega
theorem flat_lenM {α β : Type} {f : α → List β} {k : Nat} : ∀ (l : List α), (∀ a ∈ l, (f a).length ≤ k) → (l.flatMap f).length ≤ k * l.length
  | [], _ => by simp
  | a :: r, h => by
    have := flat_lenM r fun b hb => h b (List.mem_cons_of_mem _ hb)
    have := h a List.mem_cons_self
    rw [List.flatMap_cons, List.length_append, List.length_cons, Nat.mul_succ]; omega
theorem subs_len (c d : Nat) (l : List Nat) : (subs c [92, d] l).length ≤ 2 * l.length := flat_len (fun a => by split <;> simp) l
theorem spOk_of {row : Str} (h : row.length ≤ 1000) : spOk row = true := by
  have h0 : row.cps.toList.length ≤ 1000 := by rw [← slen]; exact h
  have e0 : (spA row).cps.toList = subs 34 [92, 34] row.cps.toList := repl row "\\\"" 34
  have e1 : (spB1 row).cps.toList = subs 32 [92, 32] row.cps.toList := repl row "\\ " 32
  have e2 : (spB2 row).cps.toList = subs 9 [92, 9] (spB1 row).cps.toList := repl (spB1 row) "\\\t" 9
  have l0 : (spA row).length ≤ 10000 := by
    rw [slen, e0]; have := subs_len 34 34 row.cps.toList; omega
  have l1 : (spB1 row).cps.toList.length ≤ 2000 := by
    rw [e1]; have := subs_len 32 32 row.cps.toList; omega
  have l2 : (spB2 row).length ≤ 10000 := by
    rw [slen, e2]; have := subs_len 9 9 (spB1 row).cps.toList; omega
  have l3 : (spC row).length ≤ 10000 := by
    rw [slen, spC, joinE, List.flatMap_map]
    have := flat_len (f := fun a : Nat => (("\\" : Str) ++ (⟨#[a]⟩ : Str)).cps.toList) (k := 2) (fun a => Nat.le_of_eq rfl) row.cps.toList
    omega
  have j : JoinOk "" (row.cps.toList.map fun c => ("\\" : Str) ++ ⟨#[c]⟩) = true := by
    refine joinOk_of 2 (fun t ht => ?_) (by decide) ?_
    · obtain ⟨c, _, rfl⟩ := List.mem_map.mp ht
      exact Nat.le_of_eq rfl
    · rw [List.length_map]; omega
  unfold spOk
  simp only [Bool.and_eq_true, decide_eq_true_eq]
  exact ⟨⟨⟨⟨⟨h, l0⟩, by rw [slen]; omega⟩, l2⟩, j⟩, l3⟩
theorem spL_len {l : List Nat} {way : Int} : (spL l way).length ≤ 2 * l.length + 2 := by
  unfold spL
  split
  · have := subs_len 34 34 l; simp; omega
  · split
    · have := flat_len (f := fun d => if d = 32 ∨ d = 9 ∨ d = 10 then [92, d] else [d]) (k := 2) (fun a => by split <;> simp) l
      unfold escW; omega
    · have := flat_len (f := fun d : Nat => [92, d]) (k := 2) (fun a => by simp) l
      rw [List.length_cons, List.length_append]; simp at this ⊢; omega
noncomputable def sepL (r : Nat) : List Nat := ([[32], [9], [13], [10], []] : List (List Nat)).getD r []
theorem sep_cps : ∀ r : Nat, r < 5 → (Txt.slice " \t\r\n" (some (r : Int)) (some ((r : Int) + 1))).cps.toList = sepL r := by decide +kernel
theorem sepL_len : ∀ r : Nat, r < 5 → (sepL r).length ≤ 1 := by decide
theorem part_cps {drawn : List Str} {kinds : List Int} {r : Nat} (h : r < 5) : (textPart drawn kinds r).cps.toList = spL (drawn.getD r "").cps.toList (kinds.getD r 0) ++ sepL r := by
  rw [textPart, cpsA, spelled_cps, sep_cps r h]
theorem text_cps {drawn : List Str} {kinds : List Int} : (textOf drawn kinds).cps.toList = spL (drawn.getD 0 "").cps.toList (kinds.getD 0 0) ++ 32 :: (spL (drawn.getD 1 "").cps.toList (kinds.getD 1 0) ++ 9 :: (spL (drawn.getD 2 "").cps.toList (kinds.getD 2 0) ++ 13 :: (spL (drawn.getD 3 "").cps.toList (kinds.getD 3 0) ++ 10 :: spL (drawn.getD 4 "").cps.toList (kinds.getD 4 0)))) := by
  rw [textOf, joinE]
  have e : textParts drawn kinds = [textPart drawn kinds 0, textPart drawn kinds 1, textPart drawn kinds 2, textPart drawn kinds 3, textPart drawn kinds 4] := rfl
  rw [e]
  simp only [List.flatMap_cons, List.flatMap_nil, List.append_nil]
  rw [part_cps (by decide), part_cps (by decide), part_cps (by decide), part_cps (by decide), part_cps (by decide)]
  simp [sepL]
structure RowG (row : Str) : Prop where
  l : RowL row.cps.toList
  c : row.cps.toList.count 10 = 1
theorem lnG {row : Str} (h : RowG row) (ln : Int) : lnL row.cps.toList ln = ln + 1 := by rw [lnL_count, h.c]; rfl
theorem back (x : Str) : (⟨x.cps.toList.toArray⟩ : Str) = x := sx (by simp)
theorem lexOk_of {drawn : List Str} {kinds : List Int} (h : ∀ r, r < 5 → RowG (drawn.getD r "")) : LexOk (textOf drawn kinds) drawn := by
  have g0 := h 0 (by decide)
  have g1 := h 1 (by decide)
  have g2 := h 2 (by decide)
  have g3 := h 3 (by decide)
  have g4 := h 4 (by decide)
  have i0 := LexI.start (textOf drawn kinds)
  rw [text_cps] at i0
  obtain ⟨t0, i1⟩ := i0.mid g0.l (by decide)
  obtain ⟨t1, i2⟩ := i1.mid g1.l (by decide)
  obtain ⟨t2, i3⟩ := i2.mid g2.l (by decide)
  obtain ⟨t3, i4⟩ := i3.mid g3.l (by decide)
  obtain ⟨t4, t5, l5, l6⟩ := i4.last g4.l
  rw [lnG g0, lnG g1, lnG g2, lnG g3, lnG g4] at l5 l6
  rw [back] at t0 t1 t2 t3 t4
  simp only [lnc_eq] at l5 l6
  rw [show 4 + 1 = 5 from rfl] at l5 t5
  rw [show 4 + 2 = 6 from rfl] at l6
  have z5 := l5.trans (show _ = (7 : Int) by decide)
  have z6 := l6.trans (show _ = (7 : Int) by decide)
  refine ⟨fun i hi => ?_, t5, z5, z6⟩
  exact az_of5 (p := fun i => lexTok (textOf drawn kinds) i = drawn.getD i "") t0 t1 t2 t3 t4 hi
theorem textOk_of {drawn : List Str} {kinds : List Int} (h : ∀ r, r < 5 → (drawn.getD r "").length ≤ 1000) : textOk drawn kinds = true := by
  have hsp : ∀ r, r < 5 → (spelled (drawn.getD r "") (kinds.getD r 0)).length ≤ 2002 := fun r hr => by
    rw [slen, spelled_cps]
    have := spL_len (l := (drawn.getD r "").cps.toList) (way := kinds.getD r 0)
    have := h r hr
    rw [slen] at this
    omega
  have hpt : ∀ t ∈ textParts drawn kinds, t.length ≤ 2003 := fun t ht => by
    obtain ⟨r, hr, rfl⟩ := List.mem_map.mp ht
    have hr := List.mem_range.mp hr
    have h1 := hsp r hr
    rw [slen, spelled_cps] at h1
    rw [slen, part_cps hr, List.length_append]
    have h2 := sepL_len r hr
    omega
  have hl : (textParts drawn kinds).length = 5 := by simp [textParts]
  unfold textOk
  simp only [Bool.and_eq_true, decide_eq_true_eq, List.all_eq_true]
  refine ⟨⟨fun r hr => ?_, joinOk_of 2003 hpt (Nat.zero_le 2) (by omega)⟩, ?_⟩
  · have hr := List.mem_range.mp hr
    exact ⟨spOk_of (h r hr), Nat.le_trans (hsp r hr) (by omega)⟩
  · rw [slen, textOf, joinE]
    have := flat_lenM (f := fun x : Str => x.cps.toList) (k := 2003) (textParts drawn kinds) fun t ht => by rw [← slen]; exact hpt t ht
    rw [hl] at this
    omega
end
section
set_option maxHeartbeats 4000000
/-! finding one sign -/
open PySem.Builtin PySem.Builtin.Str PySem.StrLaws in
theorem at1 {x : Str} {c hi i : Nat} (hh : hi ≤ x.length) : StrLaws.At x ⟨#[c]⟩ hi i ↔ i < hi ∧ x.cps.toList[i]? = some c := by
  have e : (⟨#[c]⟩ : Str).length = 1 := rfl
  constructor
  · intro h
    have h1 : i + 1 ≤ hi := h.1
    exact ⟨h1, (subAt_one x c i).mp ⟨by rw [e]; omega, h.2⟩⟩
  · intro h
    exact ⟨by rw [e]; omega, ((subAt_one x c i).mpr h.2).2⟩
open PySem.Builtin PySem.Builtin.Str PySem.StrLaws in
theorem occ_hit {x : Str} {c hi : Nat} {p q : List Nat} (hx : x.cps.toList = p ++ c :: q) (hp : c ∉ p) (h1 : p.length < hi) (h2 : hi ≤ x.length) : ∃ r, occurrences x ⟨#[c]⟩ 0 hi 1 = p.length :: r := by
  have hat : StrLaws.At x ⟨#[c]⟩ hi p.length := (at1 h2).mpr ⟨h1, by rw [hx]; simp⟩
  have hno : ∀ i, i < p.length → ¬ StrLaws.At x ⟨#[c]⟩ hi i := fun i hi' h => by
    have := ((at1 h2).mp h).2
    rw [hx, List.getElem?_append_left hi'] at this
    exact hp (List.mem_of_getElem? this)
  rw [occ_eq]
  rcases occ_first x ⟨#[c]⟩ hi 1 (Nat.le_refl 1) (List.range' 0 (hi + 1 - 0)) 0 (fun _ _ => Nat.zero_le _) with ⟨_, h⟩ | ⟨pre, a, post, hl, h0, ha, hb⟩
  · exact absurd hat (h _ (by simp [List.mem_range']; omega))
  · have : a = p.length := by
      rcases Nat.lt_trichotomy a p.length with q | q | q
      · exact absurd ha (hno a q)
      · exact q
      · exfalso
        have hm : p.length ∈ pre ++ a :: post := by rw [← hl]; simp [List.mem_range']; omega
        have hs : (pre ++ a :: post).Pairwise (· < ·) := by rw [← hl]; exact List.pairwise_lt_range'
        rcases List.mem_append.mp hm with hm | hm
        · exact hb _ hm hat
        · rcases List.mem_cons.mp hm with rfl | hm
          · omega
          · have := (List.pairwise_cons.mp (List.pairwise_append.mp hs).2.1).1 _ hm
            omega
    subst this
    cases hz : (forIn (List.range' 0 (hi + 1 - 0)) ((#[] : Array Nat), 0) (occBody x ⟨#[c]⟩ hi 1)).run.fst.toList with
    | nil =>
      rw [← Array.getElem?_toList, hz] at h0; cases h0
    | cons b r =>
      rw [← Array.getElem?_toList, hz] at h0; cases h0
      exact ⟨r, rfl⟩
open PySem.Builtin PySem.Builtin.Str PySem.StrLaws in
theorem occ_miss {x : Str} {c hi : Nat} (hp : c ∉ x.cps.toList.take hi) (h2 : hi ≤ x.length) : occurrences x ⟨#[c]⟩ 0 hi 1 = [] := by
  rw [occ_eq]
  rcases occ_first x ⟨#[c]⟩ hi 1 (Nat.le_refl 1) (List.range' 0 (hi + 1 - 0)) 0 (fun _ _ => Nat.zero_le _) with ⟨h, _⟩ | ⟨pre, a, post, hl, h0, ha, hb⟩
  · rw [h]
  · exfalso
    have := (at1 h2).mp ha
    refine hp (List.mem_of_getElem? (i := a) ?_)
    rw [List.getElem?_take_of_lt this.1]; exact this.2
theorem find_hit {x : Str} {c : Nat} {p q : List Nat} (hx : x.cps.toList = p ++ c :: q) (hp : c ∉ p) : Txt.find x ⟨#[c]⟩ = (p.length : Int) ∧ (Builtin.Str.occurrences x ⟨#[c]⟩ 0 x.length 1).isEmpty = false := by
  obtain ⟨r, e⟩ := occ_hit (hi := x.length) hx hp (by rw [slen, hx]; simp) (Nat.le_refl _)
  unfold Txt.find
  rw [e]
  exact ⟨rfl, rfl⟩
theorem find_miss {x : Str} {c : Nat} (hp : c ∉ x.cps.toList) : Txt.find x ⟨#[c]⟩ = -1 := by
  unfold Txt.find
  rw [occ_miss (fun h => hp (List.mem_of_mem_take h)) (Nat.le_refl _)]
theorem from0 (n : Nat) : fromIndex n 0 = 0 := by unfold fromIndex; simp
theorem fromN {n e : Nat} (h : e ≤ n) : min (fromIndex n (e : Int)) n = e := by unfold fromIndex; rw [if_neg (by omega)]; exact az_from h
theorem find4_hit {x : Str} {c e : Nat} {p q : List Nat} (hx : x.cps.toList = p ++ c :: q) (hp : c ∉ p) (h1 : p.length < e) (h2 : e ≤ x.length) : find4 x ⟨#[c]⟩ 0 (e : Int) = (p.length : Int) := by
  unfold find4
  rw [from0, fromN h2]
  obtain ⟨r, e'⟩ := occ_hit (hi := e) hx hp h1 h2
  rw [e']
theorem find4_miss {x : Str} {c e : Nat} (hp : c ∉ x.cps.toList.take e) (h2 : e ≤ x.length) : find4 x ⟨#[c]⟩ 0 (e : Int) = -1 := by
  unfold find4
  rw [from0, fromN h2, occ_miss hp h2]
open PySem.Builtin PySem.Builtin.Str PySem.StrLaws in
theorem last_hi (x y : Str) (hi : Nat) : (lastOccurrence x y 0 hi = none ∧ ∀ i, ¬ StrLaws.At x y hi i) ∨ ∃ i, lastOccurrence x y 0 hi = some i ∧ StrLaws.At x y hi i ∧ ∀ k, i < k → ¬ StrLaws.At x y hi k := by
  rw [last_eq]
  have key := last_run x y hi (List.range' 0 (hi + 1 - 0)) [] none (fun _ h => nomatch h) (fun _ h => nomatch h) (by simpa using List.pairwise_lt_range' (s := 0) (n := hi + 1 - 0))
  have mem : ∀ i, StrLaws.At x y hi i → i ∈ [] ++ List.range' 0 (hi + 1 - 0) := fun i hi => by have := hi.1; simp [List.mem_range'] <;> omega
  cases hr : (forIn (List.range' 0 (hi + 1 - 0)) none (lastBody x y hi)).run with
  | none => rw [hr] at key; exact .inl ⟨rfl, fun i hi => key i (mem i hi) hi⟩
  | some a => rw [hr] at key; exact .inr ⟨a, rfl, key.1, fun k hk hA => key.2 k (mem k hA) hk hA⟩
open PySem.StrLaws in
theorem rfind4_hit {x : Str} {c : Nat} {p q : List Nat} {e : Nat} (hx : x.cps.toList.take e = p ++ c :: q) (hq : c ∉ q) (h2 : e ≤ x.length) : rfind4 x ⟨#[c]⟩ 0 (e : Int) = (p.length : Int) := by
  have hlen : (x.cps.toList.take e).length = e := by rw [List.length_take, ← slen]; omega
  have hp1 : p.length < e := by rw [← hlen, hx]; simp
  have hg : ∀ i, i < e → x.cps.toList[i]? = (p ++ c :: q)[i]? := fun i hi => by rw [← hx, List.getElem?_take_of_lt hi]
  have hat : StrLaws.At x ⟨#[c]⟩ e p.length := (at1 h2).mpr ⟨hp1, by rw [hg _ hp1]; simp⟩
  unfold rfind4
  rw [from0, fromN h2]
  rcases last_hi x ⟨#[c]⟩ e with ⟨_, h⟩ | ⟨i, h, ha, hb⟩
  · exact absurd hat (h _)
  · rw [h]
    have : i = p.length := by
      rcases Nat.lt_trichotomy i p.length with z | z | z
      · exact absurd hat (hb _ z)
      · exact z
      · exfalso
        obtain ⟨h3, h4⟩ := (at1 h2).mp ha
        rw [hg i h3, List.getElem?_append_right (by omega)] at h4
        obtain ⟨m, hm⟩ : ∃ m, i - p.length = m + 1 := ⟨i - p.length - 1, (Nat.sub_one_add_one (Nat.sub_ne_zero_of_lt z)).symm⟩
        rw [hm, List.getElem?_cons_succ] at h4
        exact hq (List.mem_of_getElem? h4)
    rw [this]
open PySem.StrLaws in
theorem rfind4_miss {x : Str} {c e : Nat} (hp : c ∉ x.cps.toList.take e) (h2 : e ≤ x.length) : rfind4 x ⟨#[c]⟩ 0 (e : Int) = -1 := by
  unfold rfind4
  rw [from0, fromN h2]
  rcases last_hi x ⟨#[c]⟩ e with ⟨h, _⟩ | ⟨i, h, ha, hb⟩
  · rw [h]
  · exfalso
    obtain ⟨h3, h4⟩ := (at1 h2).mp ha
    exact hp (List.mem_of_getElem? (i := i) (by rw [List.getElem?_take_of_lt h3]; exact h4))
theorem slice_ab (x : Str) {a b : Nat} (hab : a ≤ b) (hb : b ≤ x.length) : (Txt.slice x (some (a : Int)) (some (b : Int))).cps.toList = (x.cps.toList.drop a).take (b - a) := by
  have : Txt.slice x (some (a : Int)) (some (b : Int)) = ⟨((x.cps.toList.drop a).take (b - a)).toArray⟩ := StrLaws.sliceText_nat x hab hb
  rw [this]
/-- the bare name: behind the last dot of what stands ahead of a colon or a line's end -/
theorem sed_core {x : Str} {p t d s : List Nat} (hx : x.cps.toList = p ++ t) (h10 : 10 ∉ p) (h58 : 58 ∉ p) (ht : t = [] ∨ (∃ r, t = 58 :: 10 :: r) ∨ ∃ r, t = 10 :: r) (hp : p = d ++ s) (hd : d = [] ∨ ∃ d', d = d' ++ [46]) (hs : 46 ∉ s) : (sed x).cps.toList = s := by
  have hlen : x.length = p.length + t.length := by rw [slen, hx, List.length_append]
  have htake : x.cps.toList.take p.length = p := by rw [hx, List.take_left]
  have hr : rfind4 x "." 0 (p.length : Int) = (d.length : Int) - 1 := by
    rcases hd with rfl | ⟨d', rfl⟩
    · have := rfind4_miss (x := x) (c := 46) (e := p.length) (by rw [htake, hp]; exact hs) (by omega)
      exact this
    · have := rfind4_hit (x := x) (c := 46) (e := p.length) (p := d') (q := s) (by rw [htake, hp]; simp) hs (by omega)
      rw [List.length_append]
      show rfind4 x ⟨#[46]⟩ 0 _ = _
      rw [this]; simp
  have hb : (if (0 : Int) ≤ (d.length : Int) - 1 then (d.length : Int) - 1 + 1 else 0) = (d.length : Int) := by
    split <;> omega
  have hfin : (Txt.slice x (some (d.length : Int)) (some (p.length : Int))).cps.toList = s := by
    rw [slice_ab x (by rw [hp, List.length_append]; omega) (by omega), hx, hp, List.append_assoc, List.drop_left, List.length_append]
    rw [Nat.add_sub_cancel_left, List.take_left]
  unfold sed
  rcases ht with rfl | ⟨r, rfl⟩ | ⟨r, rfl⟩
  · have e1 : Txt.find x "\n" = -1 := find_miss (c := 10) (by rw [hx, List.append_nil]; exact h10)
    have hl2 : x.length = p.length := by rw [hlen]; simp
    have e2 : find4 x ":" 0 (p.length : Int) = -1 := find4_miss (c := 58) (by rw [htake]; exact h58) (by omega)
    simp only [e1, hl2, e2, hr, hb, show ¬ ((0 : Int) ≤ -1) by decide, if_false]
    exact hfin
  · have e1 : Txt.find x "\n" = ((p.length + 1 : Nat) : Int) := by
      have := (find_hit (x := x) (c := 10) (p := p ++ [58]) (q := r) (by rw [hx]; simp) (by simp [h10])).1
      rw [List.length_append] at this
      exact this
    have e2 : find4 x ":" 0 ((p.length + 1 : Nat) : Int) = (p.length : Int) := find4_hit (c := 58) (p := p) (q := 10 :: r) hx h58 (by omega) (by rw [hlen]; simp)
    have z1 : (0 : Int) ≤ ((p.length + 1 : Nat) : Int) := by omega
    have z2 : (0 : Int) ≤ (p.length : Int) := by omega
    simp only [e1, if_pos z1, e2, if_pos z2, hr, hb]
    exact hfin
  · have e1 : Txt.find x "\n" = (p.length : Int) := (find_hit (x := x) (c := 10) (p := p) (q := r) hx h10).1
    have e2 : find4 x ":" 0 (p.length : Int) = -1 := find4_miss (c := 58) (by rw [htake]; exact h58) (by omega)
    have z2 : (0 : Int) ≤ (p.length : Int) := by omega
    simp only [e1, if_pos z2, e2, hr, hb, show ¬ ((0 : Int) ≤ -1) by decide, if_false]
    exact hfin
end
section
set_option maxHeartbeats 4000000
/-! a row of the page -/
noncomputable def jl : List Nat → List Nat
  | [] => []
  | [c] => [c]
  | c :: d :: r => c :: 46 :: jl (d :: r)
theorem join_dotL : ∀ l : List Nat, (Str.join "." (l.map fun n => (⟨#[n]⟩ : Str))).cps.toList = jl l
  | [] => rfl
  | [c] => rfl
  | c :: d :: r => by
    have ih := join_dotL (d :: r)
    show (((⟨#[c]⟩ : Str) ++ "." ++ Str.join "." ((d :: r).map fun n => (⟨#[n]⟩ : Str)))).cps.toList = _
    rw [cpsA, ih]; rfl
noncomputable def dotW (w : Str) : Str := Txt.join "." (signs w)
theorem dotW_cps (w : Str) : (dotW w).cps.toList = jl w.cps.toList := by
  have : dotW w = Str.join "." (signs w) := StrLaws.glued_eq_join _ _
  rw [this]; exact join_dotL _
theorem jl_snoc (c : Nat) : ∀ w : List Nat, w ≠ [] → jl (w ++ [c]) = jl w ++ [46, c]
  | [], h => absurd rfl h
  | [a], _ => rfl
  | a :: b :: r, _ => by
    have ih := jl_snoc c (b :: r) (by simp)
    show a :: 46 :: jl ((b :: r) ++ [c]) = _
    rw [ih]; rfl
theorem jl_mem : ∀ (w : List Nat) (x : Nat), x ∈ jl w → x ∈ w ∨ x = 46
  | [], x, h => nomatch h
  | [c], x, h => .inl h
  | c :: d :: r, x, h => by
    rcases List.mem_cons.mp h with h | h
    · exact .inl (h ▸ List.mem_cons_self)
    · rcases List.mem_cons.mp h with h | h
      · exact .inr h
      · exact (jl_mem (d :: r) x h).imp (List.mem_cons_of_mem _) id
theorem jl_len : ∀ w : List Nat, (jl w).length ≤ 2 * w.length
  | [] => Nat.le_refl _
  | [c] => by simp [jl]
  | c :: d :: r => by
    have := jl_len (d :: r)
    simp only [jl, List.length_cons] at this ⊢; omega
noncomputable def sep2 (r : Nat) : List Nat := if r % 2 = 0 then [58, 10] else [10, 58]
noncomputable def Let (w : List Nat) : Prop := ∀ c ∈ w, 97 ≤ c ∧ c ≤ 101
noncomputable def Wsp (l : List Nat) : Prop := ∀ c ∈ l, c = 9 ∨ c = 32
structure RowT (row : Str) (lead w : List Nat) (r : Nat) : Prop where
  e : row.cps.toList = lead ++ (jl w ++ (sep2 r ++ [46, 34]))
  lw : Wsp lead
  let_ : Let w
  ne : w ≠ []
  ll : lead.length ≤ 100
  wl : w.length ≤ 20
  one : w.length = 1 → lead = []
theorem jl_no {w : List Nat} (h : Let w) {x : Nat} (h1 : x < 97) (h2 : x ≠ 46) : x ∉ jl w := fun hm => by
  rcases jl_mem w x hm with q | q
  · have := (h x q).1; omega
  · exact h2 q
theorem ws_no {l : List Nat} (h : Wsp l) {x : Nat} (h1 : x ≠ 9) (h2 : x ≠ 32) : x ∉ l := fun hm => (h x hm).elim h1 h2
section
variable {row : Str} {lead w : List Nat} {r : Nat}
theorem sep2_cases (r : Nat) : (r % 2 = 0 ∧ sep2 r = [58, 10]) ∨ (r % 2 = 1 ∧ sep2 r = [10, 58]) := by
  unfold sep2
  rcases Nat.mod_two_eq_zero_or_one r with h | h
  · exact .inl ⟨h, if_pos h⟩
  · exact .inr ⟨h, if_neg (by omega)⟩
theorem RowT.len (h : RowT row lead w r) : row.length ≤ 200 := by
  have h1 := jl_len w
  have h2 := h.ll
  have h3 := h.wl
  have h4 : (sep2 r).length = 2 := by rcases sep2_cases r with ⟨_, e⟩ | ⟨_, e⟩ <;> rw [e] <;> rfl
  rw [slen, h.e]
  simp only [List.length_append, List.length_cons, List.length_nil]
  omega
theorem RowT.g (h : RowT row lead w r) : RowG row := by
  have hs : 92 ∉ sep2 r ++ [46, 34] ∧ 13 ∉ sep2 r ++ [46, 34] ∧ (sep2 r ++ [46, 34]).count 10 = 1 := by
    rcases sep2_cases r with ⟨_, e⟩ | ⟨_, e⟩ <;> rw [e] <;> decide
  refine ⟨⟨?_, ?_, ?_⟩, ?_⟩
  · rw [h.e, List.mem_append, List.mem_append]
    exact fun q => q.elim (ws_no h.lw (by decide) (by decide)) fun q => q.elim (jl_no h.let_ (by decide) (by decide)) hs.1
  · rw [h.e, List.mem_append, List.mem_append]
    exact fun q => q.elim (ws_no h.lw (by decide) (by decide)) fun q => q.elim (jl_no h.let_ (by decide) (by decide)) hs.2.1
  · rw [h.e]
    cases lead with
    | cons c t =>
      refine ⟨c, _, rfl, ?_⟩
      rcases h.lw c List.mem_cons_self with rfl | rfl <;> decide
    | nil =>
      cases w with
      | nil => exact absurd rfl h.ne
      | cons c t =>
        have := (h.let_ c List.mem_cons_self).1
        have h34 : c ≠ 34 := by omega
        cases t with
        | nil => exact ⟨c, _, rfl, h34⟩
        | cons d t => exact ⟨c, _, rfl, h34⟩
  · rw [h.e, List.count_append, List.count_append, hs.2.2, List.count_eq_zero_of_not_mem (ws_no h.lw (by decide) (by decide)), List.count_eq_zero_of_not_mem (jl_no h.let_ (by decide) (by decide))]
theorem RowT.ok (h : RowT row lead w r) : PyData.strOk row = true := by
  unfold PyData.strOk
  rw [← Array.all_toList, h.e, List.all_eq_true]
  intro c hc
  rw [decide_eq_true_eq]
  rcases List.mem_append.mp hc with q | q
  · rcases h.lw c q with rfl | rfl <;> decide
  · rcases List.mem_append.mp q with q | q
    · rcases jl_mem w c q with q | q
      · have := (h.let_ c q).2; omega
      · omega
    · have : c ≤ 58 := by
        rcases sep2_cases r with ⟨_, e⟩ | ⟨_, e⟩ <;> rw [e] at q <;> simp at q <;> omega
      omega
theorem b32 (c : Nat) : ((⟨#[c]⟩ : Str) == " ") = decide (c = 32) := beq1 c 32
theorem b9 (c : Nat) : ((⟨#[c]⟩ : Str) == "\t") = decide (c = 9) := beq1 c 9
theorem wsLoop_stop {c : Nat} {t : List Nat} (h1 : c ≠ 32) (h2 : c ≠ 9) : ∀ (l : List Nat) (st : Wst), wsLoop (l ++ c :: t) st = wsLoop l st
  | [], st => by
    show wsLoop (c :: t) st = st
    rw [wsLoop, b32, b9, decide_eq_false h1, decide_eq_false h2]; rfl
  | d :: l, st => by
    show wsLoop (d :: (l ++ c :: t)) st = _
    rw [wsLoop, wsLoop, wsLoop_stop h1 h2 l, wsLoop_stop h1 h2 l]
theorem wsLoop_n : ∀ (l : List Nat) (st : Wst), Wsp l → (wsLoop l st).n = st.n + l.length
  | [], st, _ => rfl
  | d :: l, st, h => by
    have h' : Wsp l := fun c hc => h c (List.mem_cons_of_mem _ hc)
    rw [wsLoop, b32, b9]
    rcases h d List.mem_cons_self with rfl | rfl
    · show (wsLoop l (wsT st)).n = _
      rw [wsLoop_n l _ h', List.length_cons]
      show st.n + 1 + _ = _
      omega
    · show (wsLoop l _).n = _
      rw [wsLoop_n l _ h', List.length_cons]
      show st.n + 1 + _ = _
      omega
theorem jl_head (h : Let w) (ne : w ≠ []) : ∃ c t, jl w = c :: t ∧ 97 ≤ c := by
  cases w with
  | nil => exact absurd rfl ne
  | cons c t =>
    have := (h c List.mem_cons_self).1
    cases t with
    | nil => exact ⟨c, _, rfl, this⟩
    | cons d t => exact ⟨c, _, rfl, this⟩
theorem RowT.ws (h : RowT row lead w r) : wsOf row = wsOf ⟨lead.toArray⟩ ∧ (wsOf row).n = lead.length := by
  obtain ⟨c, t, e, hc⟩ := jl_head h.let_ h.ne
  have e1 : wsOf row = wsLoop lead ⟨[], 0, 0, 0⟩ := by
    unfold wsOf
    rw [h.e, e]
    exact wsLoop_stop (by omega) (by omega) lead _
  have e2 : wsOf ⟨lead.toArray⟩ = wsLoop lead ⟨[], 0, 0, 0⟩ := rfl
  refine ⟨e1.trans e2.symm, ?_⟩
  rw [e1, wsLoop_n lead _ h.lw]
  exact Nat.zero_add _
theorem item_sep (r : Nat) : Txt.item ":\n" ((r % 2 : Nat) : Int) = if r % 2 = 0 then (⟨#[58]⟩ : Str) else ⟨#[10]⟩ := by
  rcases Nat.mod_two_eq_zero_or_one r with h | h <;> rw [h] <;> rfl
theorem RowT.dotix (h : RowT row lead w r) : dotIx row r = ((lead.length + (jl w).length : Nat) : Int) ∧ (Builtin.Str.occurrences row (Txt.item ":\n" ((r % 2 : Nat) : Int)) 0 row.length 1).isEmpty = false := by
  unfold dotIx
  rw [item_sep]
  rcases sep2_cases r with ⟨h0, e⟩ | ⟨h0, e⟩
  · rw [if_pos h0]
    have := find_hit (x := row) (c := 58) (p := lead ++ jl w) (q := 10 :: [46, 34]) (by rw [h.e, e]; simp) (by rw [List.mem_append]; exact fun q => q.elim (ws_no h.lw (by decide) (by decide)) (jl_no h.let_ (by decide) (by decide)))
    rw [List.length_append] at this
    exact this
  · rw [if_neg (by omega)]
    have := find_hit (x := row) (c := 10) (p := lead ++ jl w) (q := 58 :: [46, 34]) (by rw [h.e, e]; simp) (by rw [List.mem_append]; exact fun q => q.elim (ws_no h.lw (by decide) (by decide)) (jl_no h.let_ (by decide) (by decide)))
    rw [List.length_append] at this
    exact this
theorem RowT.dot (h : RowT row lead w r) : dotOf row r = ⟨(jl w).toArray⟩ := by
  refine sx ?_
  unfold dotOf
  rw [h.dotix.1, h.ws.2, slice_ab row (by omega) (by rw [slen, h.e]; simp only [List.length_append]; omega), h.e, List.drop_left]
  rw [Nat.add_sub_cancel_left, List.take_left]
theorem snoc_of {w : List Nat} (h : w ≠ []) : ∃ w' c, w = w' ++ [c] := ⟨w.dropLast, w.getLast h, (List.dropLast_concat_getLast h).symm⟩
theorem sed_parts {w : List Nat} (hl : Let w) {lead w' : List Nat} {c : Nat} (e : w = w' ++ [c]) (h1 : w' = [] → lead = []) : ∃ d, lead ++ jl w = d ++ [c] ∧ (d = [] ∨ ∃ d', d = d' ++ [46]) := by
  subst e
  cases w' with
  | nil => rw [h1 rfl]; exact ⟨[], rfl, .inl rfl⟩
  | cons a t =>
    refine ⟨lead ++ jl (a :: t) ++ [46], ?_, .inr ⟨_, rfl⟩⟩
    rw [jl_snoc c _ (by simp)]; simp
theorem RowT.sedR (h : RowT row lead w r) {w' : List Nat} {c : Nat} (e : w = w' ++ [c]) : sed row = ⟨#[c]⟩ := by
  obtain ⟨d, hd, hd'⟩ := sed_parts h.let_ e (lead := lead) (fun q => h.one (by rw [e, q]; rfl))
  have hc := h.let_ c (by rw [e]; simp)
  refine sx (sed_core (p := lead ++ jl w) (t := sep2 r ++ [46, 34]) (by rw [h.e, List.append_assoc]) ?_ ?_ ?_ hd hd' (by simp; omega))
  · rw [List.mem_append]; exact fun q => q.elim (ws_no h.lw (by decide) (by decide)) (jl_no h.let_ (by decide) (by decide))
  · rw [List.mem_append]; exact fun q => q.elim (ws_no h.lw (by decide) (by decide)) (jl_no h.let_ (by decide) (by decide))
  · rcases sep2_cases r with ⟨_, e⟩ | ⟨_, e⟩
    · exact .inr (.inl ⟨_, by rw [e]; rfl⟩)
    · exact .inr (.inr ⟨_, by rw [e]; rfl⟩)
end
theorem slice_neg2 {x : Str} {p : List Nat} {a b : Nat} (h : x.cps.toList = p ++ [a, b]) : (Txt.slice x none (some (-2))).cps.toList = p := by
  have hl : x.length = p.length + 2 := by rw [slen, h]; simp
  have e : Txt.slice x none (some (-2)) = Txt.slice x (some ((0 : Nat) : Int)) (some ((p.length : Nat) : Int)) := by
    show StrLaws.sliceText x none (some (-2)) = StrLaws.sliceText x (some ((0 : Nat) : Int)) (some ((p.length : Nat) : Int))
    have q : Builtin.Str.strSliceIndices none (some (-2)) 1 x.length = Builtin.Str.strSliceIndices (some ((0 : Nat) : Int)) (some ((p.length : Nat) : Int)) 1 x.length := by
      rw [StrLaws.sliceIdx_none_lo, hl]
      unfold Builtin.Str.strSliceIndices
      have h1 : ¬ ((p.length : Int) < 0) := by omega
      have h2 : (-2 : Int) + ((p.length + 2 : Nat) : Int) = (p.length : Int) := by omega
      simp [h1, h2]
      rw [show (-2 : Int) + ((p.length : Int) + 2) = p.length by omega]
    unfold StrLaws.sliceText
    rw [q]
  rw [e, slice_ab x (Nat.zero_le _) (by omega), h, List.drop_zero, Nat.sub_zero, List.take_left]
theorem sedP {dot : Str} {w' : List Nat} {b c : Nat} (h : dot.cps.toList = jl (w' ++ [b] ++ [c])) (hl : Let (w' ++ [b] ++ [c])) : sed (Txt.slice dot none (some (-2))) = ⟨#[b]⟩ := by
  rw [jl_snoc c _ (by simp)] at h
  have hs := slice_neg2 h
  have hl' : Let (w' ++ [b]) := fun x hx => hl x (List.mem_append_left _ hx)
  have hb := hl' b (by simp)
  obtain ⟨d, hd, hd'⟩ := sed_parts (lead := []) hl' rfl (fun _ => rfl)
  rw [List.nil_append] at hd
  refine sx (sed_core (p := jl (w' ++ [b])) (t := []) (by rw [hs, List.append_nil]) (jl_no hl' (by decide) (by decide)) (jl_no hl' (by decide) (by decide)) (.inl rfl) hd hd' (by simp; omega))
end
section
set_option maxHeartbeats 4000000
/-! leads -/
noncomputable def trits : Nat → List (List Int)
  | 0 => [[]]
  | n + 1 => (trits n).flatMap fun l => [0 :: l, 1 :: l, 2 :: l]
noncomputable def Tri (l : List Int) : Prop := ∀ t ∈ l, t = 0 ∨ t = 1 ∨ t = 2
theorem mem_trits : ∀ {l : List Int}, Tri l → l ∈ trits l.length
  | [], _ => List.mem_singleton.mpr rfl
  | t :: l, h => by
    have ih := mem_trits (l := l) fun x hx => h x (List.mem_cons_of_mem _ hx)
    refine List.mem_flatMap.mpr ⟨l, ih, ?_⟩
    rcases h t List.mem_cons_self with rfl | rfl | rfl <;> simp
noncomputable def wsL (sts : List Int) : Wst := wsOf (leadOf sts)
noncomputable def lessT (a b : List Int) : Bool := wsLess (wsL a) (wsL b)
noncomputable def wspB (l : List Nat) : Bool := l.all fun c => c == 9 || c == 32
noncomputable def leadFact (sts : List Int) : Bool := leadOk sts && wspB (leadOf sts).cps.toList && Nat.ble (leadOf sts).cps.toList.length 100 && wsOk (wsL sts)
noncomputable def allT (p : List Int → Bool) : Bool := (trits 0).all p && (trits 1).all p && (trits 2).all p && (trits 3).all p && (trits 4).all p
theorem allT_at {p : List Int → Bool} (h : allT p = true) {l : List Int} (ht : Tri l) (hl : l.length ≤ 4) : p l = true := by
  simp only [allT, Bool.and_eq_true, List.all_eq_true] at h
  obtain ⟨⟨⟨⟨h0, h1⟩, h2⟩, h3⟩, h4⟩ := h
  have hm := mem_trits ht
  rcases az_le5 hl with e | e | e | e | e <;> rw [e] at hm
  · exact h0 l hm
  · exact h1 l hm
  · exact h2 l hm
  · exact h3 l hm
  · exact h4 l hm
theorem leadU : allT leadFact = true := by decide +kernel
theorem tabI : allT (fun l => (List.range l.length).all fun m => lessT (l.take m) l) = true := by decide +kernel
theorem tabII : allT (fun l => (List.range l.length).all fun m => ([0, 1, 2] : List Int).all fun t => !lessT l (l.take m ++ [t])) = true := by decide +kernel
end
section
set_option maxHeartbeats 4000000
/-! who holds whom -/
theorem getD_set {α : Type} {l : List α} {i j : Nat} {a d : α} (h : i < l.length) : (l.set i a).getD j d = if j = i then a else l.getD j d := by
  rw [List.getD_eq_getElem?_getD, List.getElem?_set, List.getD_eq_getElem?_getD]
  by_cases q : i = j
  · subst q; rw [if_pos rfl, if_pos h, if_pos rfl]; rfl
  · rw [if_neg q, if_neg fun e => q e.symm]
theorem holds_row {ls : List (Str × Wst)} {E : Nat → Nat → Bool} {one : Nat} (h1 : one < 5) (h0 : E one one = true) (hlt : ∀ two, two < one → E one two = false)
    (h2 : ∀ two, one < two → two < 5 → E one (two - 1) = true → lessAt ls one two = E one two) (h3 : ∀ two, one < two → two < 5 → E one (two - 1) = false → E one two = false) :
    ∀ j, one + j < 5 → ∀ two, two < 5 → (holdsRow ls one j).getD two false = if two ≤ one + j then E one two else false
  | 0, _, two, h5 => by
    rw [holdsRow, getD_range h5]
    by_cases q : two = one
    · subst q; simp [h0]
    · have : ((((two : Nat) : Int)) == ((one : Nat) : Int)) = false := by simp; omega
      rw [this]
      split
      · exact (hlt two (by omega)).symm
      · rfl
  | j + 1, hj, two, h5 => by
    have ih := holds_row h1 h0 hlt h2 h3 j (by omega)
    rw [holdsRow, getD_set (by rw [holdsRow_len]; omega)]
    by_cases q : two = one + 1 + j
    · subst q
      rw [if_pos rfl, if_pos (by omega), ih (one + j) (by omega), if_pos (Nat.le_refl _)]
      have e : one + 1 + j - 1 = one + j := by omega
      cases hE : E one (one + j) with
      | true => rw [Bool.true_and, h2 (one + 1 + j) (by omega) (by omega) (by rw [e]; exact hE)]
      | false => rw [Bool.false_and, h3 (one + 1 + j) (by omega) (by omega) (by rw [e]; exact hE)]
    · rw [if_neg q, ih two h5]
      by_cases z : two ≤ one + j
      · rw [if_pos z, if_pos (by omega)]
      · rw [if_neg z, if_neg (by omega)]
theorem holds_eq {ls : List (Str × Wst)} {E : Nat → Nat → Bool} (h0 : ∀ one, one < 5 → E one one = true) (hlt : ∀ one two, two < one → E one two = false)
    (h2 : ∀ one two, one < two → two < 5 → E one (two - 1) = true → lessAt ls one two = E one two) (h3 : ∀ one two, one < two → two < 5 → E one (two - 1) = false → E one two = false) :
    holdsOf ls = (List.range 5).map fun one => (List.range 5).map fun two => E one two := by
  unfold holdsOf
  refine List.map_congr_left fun one h => ?_
  have h1 := List.mem_range.mp h
  have hl := holdsRow_len ls one (4 - one)
  refine List.ext_getElem (by simp [hl]) fun two ha hb => ?_
  have h5 : two < 5 := by omega
  have key := holds_row h1 (h0 one h1) (hlt one) (h2 one) (h3 one) (4 - one) (by omega) two h5
  rw [if_pos (by omega), List.getD_eq_getElem?_getD, List.getElem?_eq_getElem ha] at key
  rw [List.getElem_map, List.getElem_range]
  exact key
noncomputable def trit (x : Int) : Int := Int.fmod (Int.fdiv x 12) 3
noncomputable def trF (st : List Int) (c : Nat) : Int := st.getD (chIx c).toNat 0
theorem tail_cps {w : Str} (h : 1 ≤ w.cps.toList.length) : (tailOf w).cps.toList = w.cps.toList.drop 1 := by
  have : tailOf w = ⟨((w.cps.toList.drop (1 : Int).toNat).take ((w.cps.toList.length : Int) - 1).toNat).toArray⟩ := StrLaws.sliceText_from (i := 1) ⟨by decide, by omega⟩
  rw [this]
  show (w.cps.toList.drop 1).take _ = _
  exact List.take_of_length_le (by rw [List.length_drop]; omega)
theorem steps_eq {dr : List Int} {w : Str} (h : 1 ≤ w.cps.toList.length) : stepsOf dr w = (w.cps.toList.drop 1).map (trF (dr.map trit)) := by
  unfold stepsOf
  rw [tail_cps h]
  refine List.map_congr_left fun c _ => ?_
  unfold trF
  rw [List.getD_eq_getElem?_getD, List.getD_eq_getElem?_getD, List.getElem?_map]
  cases dr[(chIx c).toNat]? with
  | none => rfl
  | some x => rfl
theorem trit_tri (x : Int) : trit x = 0 ∨ trit x = 1 ∨ trit x = 2 := by
  have h1 : 0 ≤ trit x := Int.fmod_nonneg_of_pos _ (by decide)
  have h2 : trit x < 3 := Int.fmod_lt_of_pos _ (by decide)
  omega
theorem trF_tri (dr : List Int) (c : Nat) : trF (dr.map trit) c = 0 ∨ trF (dr.map trit) c = 1 ∨ trF (dr.map trit) c = 2 := by
  unfold trF
  rw [List.getD_eq_getElem?_getD, List.getElem?_map]
  cases dr[(chIx c).toNat]? with
  | none => exact .inl rfl
  | some x => exact trit_tri x
theorem tri_map {f : Nat → Int} (hf : ∀ c, f c = 0 ∨ f c = 1 ∨ f c = 2) (l : List Nat) : Tri (l.map f) := fun t ht => by
  obtain ⟨c, _, rfl⟩ := List.mem_map.mp ht
  exact hf c
theorem less_pre {f : Nat → Int} (hf : ∀ c, f c = 0 ∨ f c = 1 ∨ f c = 2) {a x : List Nat} (hx : x ≠ []) (hl : (a ++ x).length ≤ 4) : lessT (a.map f) ((a ++ x).map f) = true := by
  have hlen : ((a ++ x).map f).length = (a ++ x).length := List.length_map ..
  have h := allT_at tabI (tri_map hf (a ++ x)) (by rw [hlen]; exact hl)
  have := List.all_eq_true.mp h a.length (List.mem_range.mpr (by
    rw [hlen, List.length_append]
    have : 1 ≤ x.length := by cases x with
      | nil => exact absurd rfl hx
      | cons _ _ => simp
    omega))
  rwa [← List.map_take, List.take_left] at this
theorem less_side {f : Nat → Int} (hf : ∀ c, f c = 0 ∨ f c = 1 ∨ f c = 2) {a : List Nat} {m y : Nat} (hm : m < a.length) (hl : a.length ≤ 4) : lessT (a.map f) ((a.take m ++ [y]).map f) = false := by
  have h := allT_at tabII (tri_map hf a) (by rw [List.length_map]; exact hl)
  have h2 := List.all_eq_true.mp h m (List.mem_range.mpr (by rw [List.length_map]; exact hm))
  have h3 := List.all_eq_true.mp h2 (f y) (by rcases hf y with e | e | e <;> rw [e] <;> simp)
  rw [List.map_append, List.map_take]
  simpa using h3
/-! the shapes -/
noncomputable def nextSh (h : List Str) : List (List Str) := (List.range (hLast h).length).map fun (r : Nat) => h ++ [Txt.slice (hLast h) none (some (1 + (r : Int))) ++ Txt.item "abcde" h.length]
noncomputable def shapes : Nat → List (List Str)
  | 0 => [["a"]]
  | n + 1 => (shapes n).flatMap nextSh
noncomputable def wy (hu : List Str) (i : Nat) : List Nat := (hu.getD i "").cps.toList
noncomputable def preE (hu : List Str) (one two : Nat) : Bool := decide (one ≤ two) && (wy hu one).isPrefixOf (wy hu two)
noncomputable def holdsE (hu : List Str) : List (List Bool) := (List.range 5).map fun one => (List.range 5).map fun two => preE hu one two
noncomputable def prs : List (Nat × Nat) := [(0,1),(0,2),(0,3),(0,4),(1,2),(1,3),(1,4),(2,3),(2,4),(3,4)]
theorem prs_mem' : ∀ b : Nat, b < 5 → ∀ a : Nat, a < b → (a, b) ∈ prs := by decide
theorem prs_mem {a b : Nat} (h1 : a < b) (h2 : b < 5) : (a, b) ∈ prs := prs_mem' b h2 a h1
noncomputable def sideB (a b : List Nat) : Bool := (List.range (a.length - 1)).any fun m => b.drop 1 == (a.drop 1).take m ++ [b.getLastD 0]
noncomputable def shB (hu : List Str) : Bool := prs.all fun p => if preE hu p.1 (p.2 - 1) then (if preE hu p.1 p.2 then Nat.blt (wy hu p.1).length (wy hu p.2).length else sideB (wy hu p.1) (wy hu p.2)) else !preE hu p.1 p.2
noncomputable def letB (l : List Nat) : Bool := l.all fun c => Nat.ble 97 c && Nat.ble c 101
noncomputable def tlB (l : List Nat) : Bool := (l.drop 1).all fun c => Nat.ble 98 c && Nat.ble c 101
noncomputable def wayB (hu : List Str) : Bool := (hu.length == 5) && (List.range 5).all fun i => Nat.ble 1 (wy hu i).length && Nat.ble (wy hu i).length 5 && letB (wy hu i) && tlB (wy hu i) && (preE hu i i) && (i == 0 || Nat.ble 2 (wy hu i).length)
noncomputable def hChk (h : List Str) : Bool := decide (1 ≤ h.length) && decide (h.length ≤ 4) && decide (1 ≤ (hLast h).length) && decide ((hLast h).length ≤ 100) && (List.range (hLast h).length).all fun (r : Nat) => decide ((Txt.slice (hLast h) none (some (1 + (r : Int)))).length + (Txt.item "abcde" h.length).length ≤ 1000)
theorem shapesH : ((shapes 0).all hChk && (shapes 1).all hChk && (shapes 2).all hChk && (shapes 3).all hChk) = true := by decide +kernel
theorem hChk_at {i : Nat} (hi : i < 4) {h : List Str} (hm : h ∈ shapes i) : hChk h = true := by
  have := shapesH
  simp only [Bool.and_eq_true, List.all_eq_true] at this
  obtain ⟨⟨⟨h0, h1⟩, h2⟩, h3⟩ := this
  exact az_of4 (p := fun i => h ∈ shapes i → hChk h = true) (h0 h) (h1 h) (h2 h) (h3 h) hi hm
theorem hStep_mem {h : List Str} (x : Int) (hc : hChk h = true) : hStep h x ∈ nextSh h ∧ hOk h x = true := by
  simp only [hChk, Bool.and_eq_true, decide_eq_true_eq, List.all_eq_true] at hc
  obtain ⟨⟨⟨⟨c1, c2⟩, c3⟩, c4⟩, c5⟩ := hc
  have f1 : 0 ≤ Int.fmod x (hLast h).length := Int.fmod_nonneg_of_pos _ (by omega)
  have f2 : Int.fmod x (hLast h).length < (hLast h).length := Int.fmod_lt_of_pos _ (by omega)
  have e : ((Int.fmod x (hLast h).length).toNat : Int) = Int.fmod x (hLast h).length := by omega
  have hr : (Int.fmod x (hLast h).length).toNat ∈ List.range (hLast h).length := List.mem_range.mpr (by omega)
  refine ⟨List.mem_map.mpr ⟨_, hr, ?_⟩, ?_⟩
  · rw [hStep, hPre, e]
  · have := c5 _ hr
    rw [e] at this
    simp only [hOk, Bool.and_eq_true, decide_eq_true_eq]
    exact ⟨⟨⟨⟨c1, c2⟩, c3⟩, c4⟩, this⟩
theorem hung_mem {dr : List Int} : ∀ {i : Nat}, i ≤ dr.length → i ≤ 4 → hungN dr i ∈ shapes i
  | 0, _, _ => by
    have : hungN dr 0 = (["a"] : List Str) := by unfold hungN; rw [List.take_zero]; rfl
    rw [this]; exact List.mem_singleton.mpr rfl
  | i + 1, h1, h2 => by
    have ih := hung_mem (dr := dr) (i := i) (by omega) (by omega)
    have hn : hungN dr (i + 1) = hStep (hungN dr i) dr[i] := by
      unfold hungN
      rw [List.take_add_one, List.getElem?_eq_getElem (by omega), List.foldl_append]; rfl
    rw [hn]
    exact List.mem_flatMap.mpr ⟨_, ih, (hStep_mem _ (hChk_at (by omega) ih)).1⟩
end
section
set_option maxHeartbeats 4000000
/-! what is asked of each shape -/
noncomputable def dotsE (hu : List Str) : List Str := (List.range 5).map fun i => (⟨(jl (wy hu i)).toArray⟩ : Str)
noncomputable def tiesE (hu : List Str) : List Str := (List.range 4).map fun j => (⟨((wy hu (j + 1)).drop ((wy hu (j + 1)).length - 2)).toArray⟩ : Str)
noncomputable def goOk (ties : List Str) (i : Nat) (r : List Int) : Bool := match stGo ties 5 [(nameAt i, 0)] [nameAt i] [] with | some (ks, q, came) => (stInts ks == r) && q.isEmpty && decide (came.Pairwise (· ≤ ·)) | none => false
structure SD where
  hu : List Str
  dots : List Str
  ties : List Str
  tab : List (List Int)
  hol : List (List Bool)
  clo : List Str
noncomputable def sds0 : List SD := [
  ⟨[⟨#[97]⟩, ⟨#[97, 98]⟩, ⟨#[97, 99]⟩, ⟨#[97, 100]⟩, ⟨#[97, 101]⟩], [⟨#[97]⟩, ⟨#[97, 46, 98]⟩, ⟨#[97, 46, 99]⟩, ⟨#[97, 46, 100]⟩, ⟨#[97, 46, 101]⟩], [⟨#[97, 98]⟩, ⟨#[97, 99]⟩, ⟨#[97, 100]⟩, ⟨#[97, 101]⟩], [[0, 1, 1, 1, 1], [1, 0, 2, 2, 2], [1, 2, 0, 2, 2], [1, 2, 2, 0, 2], [1, 2, 2, 2, 0]], [[true, true, true, true, true], [false, true, false, false, false], [false, false, true, false, false], [false, false, false, true, false], [false, false, false, false, true]], [⟨#[]⟩, ⟨#[41]⟩, ⟨#[41]⟩, ⟨#[41]⟩]⟩,
  ⟨[⟨#[97]⟩, ⟨#[97, 98]⟩, ⟨#[97, 99]⟩, ⟨#[97, 100]⟩, ⟨#[97, 100, 101]⟩], [⟨#[97]⟩, ⟨#[97, 46, 98]⟩, ⟨#[97, 46, 99]⟩, ⟨#[97, 46, 100]⟩, ⟨#[97, 46, 100, 46, 101]⟩], [⟨#[97, 98]⟩, ⟨#[97, 99]⟩, ⟨#[97, 100]⟩, ⟨#[100, 101]⟩], [[0, 1, 1, 1, 2], [1, 0, 2, 2, 3], [1, 2, 0, 2, 3], [1, 2, 2, 0, 1], [2, 3, 3, 1, 0]], [[true, true, true, true, true], [false, true, false, false, false], [false, false, true, false, false], [false, false, false, true, true], [false, false, false, false, true]], [⟨#[]⟩, ⟨#[41]⟩, ⟨#[41]⟩, ⟨#[]⟩]⟩]
noncomputable def sds1 : List SD := [
  ⟨[⟨#[97]⟩, ⟨#[97, 98]⟩, ⟨#[97, 99]⟩, ⟨#[97, 99, 100]⟩, ⟨#[97, 101]⟩], [⟨#[97]⟩, ⟨#[97, 46, 98]⟩, ⟨#[97, 46, 99]⟩, ⟨#[97, 46, 99, 46, 100]⟩, ⟨#[97, 46, 101]⟩], [⟨#[97, 98]⟩, ⟨#[97, 99]⟩, ⟨#[99, 100]⟩, ⟨#[97, 101]⟩], [[0, 1, 1, 2, 1], [1, 0, 2, 3, 2], [1, 2, 0, 1, 2], [2, 3, 1, 0, 3], [1, 2, 2, 3, 0]], [[true, true, true, true, true], [false, true, false, false, false], [false, false, true, true, false], [false, false, false, true, false], [false, false, false, false, true]], [⟨#[]⟩, ⟨#[41]⟩, ⟨#[]⟩, ⟨#[41, 41]⟩]⟩,
  ⟨[⟨#[97]⟩, ⟨#[97, 98]⟩, ⟨#[97, 99]⟩, ⟨#[97, 99, 100]⟩, ⟨#[97, 99, 101]⟩], [⟨#[97]⟩, ⟨#[97, 46, 98]⟩, ⟨#[97, 46, 99]⟩, ⟨#[97, 46, 99, 46, 100]⟩, ⟨#[97, 46, 99, 46, 101]⟩], [⟨#[97, 98]⟩, ⟨#[97, 99]⟩, ⟨#[99, 100]⟩, ⟨#[99, 101]⟩], [[0, 1, 1, 2, 2], [1, 0, 2, 3, 3], [1, 2, 0, 1, 1], [2, 3, 1, 0, 2], [2, 3, 1, 2, 0]], [[true, true, true, true, true], [false, true, false, false, false], [false, false, true, true, true], [false, false, false, true, false], [false, false, false, false, true]], [⟨#[]⟩, ⟨#[41]⟩, ⟨#[]⟩, ⟨#[41]⟩]⟩]
noncomputable def sds2 : List SD := [
  ⟨[⟨#[97]⟩, ⟨#[97, 98]⟩, ⟨#[97, 99]⟩, ⟨#[97, 99, 100]⟩, ⟨#[97, 99, 100, 101]⟩], [⟨#[97]⟩, ⟨#[97, 46, 98]⟩, ⟨#[97, 46, 99]⟩, ⟨#[97, 46, 99, 46, 100]⟩, ⟨#[97, 46, 99, 46, 100, 46, 101]⟩], [⟨#[97, 98]⟩, ⟨#[97, 99]⟩, ⟨#[99, 100]⟩, ⟨#[100, 101]⟩], [[0, 1, 1, 2, 3], [1, 0, 2, 3, 4], [1, 2, 0, 1, 2], [2, 3, 1, 0, 1], [3, 4, 2, 1, 0]], [[true, true, true, true, true], [false, true, false, false, false], [false, false, true, true, true], [false, false, false, true, true], [false, false, false, false, true]], [⟨#[]⟩, ⟨#[41]⟩, ⟨#[]⟩, ⟨#[]⟩]⟩,
  ⟨[⟨#[97]⟩, ⟨#[97, 98]⟩, ⟨#[97, 98, 99]⟩, ⟨#[97, 100]⟩, ⟨#[97, 101]⟩], [⟨#[97]⟩, ⟨#[97, 46, 98]⟩, ⟨#[97, 46, 98, 46, 99]⟩, ⟨#[97, 46, 100]⟩, ⟨#[97, 46, 101]⟩], [⟨#[97, 98]⟩, ⟨#[98, 99]⟩, ⟨#[97, 100]⟩, ⟨#[97, 101]⟩], [[0, 1, 2, 1, 1], [1, 0, 1, 2, 2], [2, 1, 0, 3, 3], [1, 2, 3, 0, 2], [1, 2, 3, 2, 0]], [[true, true, true, true, true], [false, true, true, false, false], [false, false, true, false, false], [false, false, false, true, false], [false, false, false, false, true]], [⟨#[]⟩, ⟨#[]⟩, ⟨#[41, 41]⟩, ⟨#[41]⟩]⟩]
noncomputable def sds3 : List SD := [
  ⟨[⟨#[97]⟩, ⟨#[97, 98]⟩, ⟨#[97, 98, 99]⟩, ⟨#[97, 100]⟩, ⟨#[97, 100, 101]⟩], [⟨#[97]⟩, ⟨#[97, 46, 98]⟩, ⟨#[97, 46, 98, 46, 99]⟩, ⟨#[97, 46, 100]⟩, ⟨#[97, 46, 100, 46, 101]⟩], [⟨#[97, 98]⟩, ⟨#[98, 99]⟩, ⟨#[97, 100]⟩, ⟨#[100, 101]⟩], [[0, 1, 2, 1, 2], [1, 0, 1, 2, 3], [2, 1, 0, 3, 4], [1, 2, 3, 0, 1], [2, 3, 4, 1, 0]], [[true, true, true, true, true], [false, true, true, false, false], [false, false, true, false, false], [false, false, false, true, true], [false, false, false, false, true]], [⟨#[]⟩, ⟨#[]⟩, ⟨#[41, 41]⟩, ⟨#[]⟩]⟩,
  ⟨[⟨#[97]⟩, ⟨#[97, 98]⟩, ⟨#[97, 98, 99]⟩, ⟨#[97, 98, 100]⟩, ⟨#[97, 101]⟩], [⟨#[97]⟩, ⟨#[97, 46, 98]⟩, ⟨#[97, 46, 98, 46, 99]⟩, ⟨#[97, 46, 98, 46, 100]⟩, ⟨#[97, 46, 101]⟩], [⟨#[97, 98]⟩, ⟨#[98, 99]⟩, ⟨#[98, 100]⟩, ⟨#[97, 101]⟩], [[0, 1, 2, 2, 1], [1, 0, 1, 1, 2], [2, 1, 0, 2, 3], [2, 1, 2, 0, 3], [1, 2, 3, 3, 0]], [[true, true, true, true, true], [false, true, true, true, false], [false, false, true, false, false], [false, false, false, true, false], [false, false, false, false, true]], [⟨#[]⟩, ⟨#[]⟩, ⟨#[41]⟩, ⟨#[41, 41]⟩]⟩]
noncomputable def sds4 : List SD := [
  ⟨[⟨#[97]⟩, ⟨#[97, 98]⟩, ⟨#[97, 98, 99]⟩, ⟨#[97, 98, 100]⟩, ⟨#[97, 98, 101]⟩], [⟨#[97]⟩, ⟨#[97, 46, 98]⟩, ⟨#[97, 46, 98, 46, 99]⟩, ⟨#[97, 46, 98, 46, 100]⟩, ⟨#[97, 46, 98, 46, 101]⟩], [⟨#[97, 98]⟩, ⟨#[98, 99]⟩, ⟨#[98, 100]⟩, ⟨#[98, 101]⟩], [[0, 1, 2, 2, 2], [1, 0, 1, 1, 1], [2, 1, 0, 2, 2], [2, 1, 2, 0, 2], [2, 1, 2, 2, 0]], [[true, true, true, true, true], [false, true, true, true, true], [false, false, true, false, false], [false, false, false, true, false], [false, false, false, false, true]], [⟨#[]⟩, ⟨#[]⟩, ⟨#[41]⟩, ⟨#[41]⟩]⟩,
  ⟨[⟨#[97]⟩, ⟨#[97, 98]⟩, ⟨#[97, 98, 99]⟩, ⟨#[97, 98, 100]⟩, ⟨#[97, 98, 100, 101]⟩], [⟨#[97]⟩, ⟨#[97, 46, 98]⟩, ⟨#[97, 46, 98, 46, 99]⟩, ⟨#[97, 46, 98, 46, 100]⟩, ⟨#[97, 46, 98, 46, 100, 46, 101]⟩], [⟨#[97, 98]⟩, ⟨#[98, 99]⟩, ⟨#[98, 100]⟩, ⟨#[100, 101]⟩], [[0, 1, 2, 2, 3], [1, 0, 1, 1, 2], [2, 1, 0, 2, 3], [2, 1, 2, 0, 1], [3, 2, 3, 1, 0]], [[true, true, true, true, true], [false, true, true, true, true], [false, false, true, false, false], [false, false, false, true, true], [false, false, false, false, true]], [⟨#[]⟩, ⟨#[]⟩, ⟨#[41]⟩, ⟨#[]⟩]⟩]
noncomputable def sds5 : List SD := [
  ⟨[⟨#[97]⟩, ⟨#[97, 98]⟩, ⟨#[97, 98, 99]⟩, ⟨#[97, 98, 99, 100]⟩, ⟨#[97, 101]⟩], [⟨#[97]⟩, ⟨#[97, 46, 98]⟩, ⟨#[97, 46, 98, 46, 99]⟩, ⟨#[97, 46, 98, 46, 99, 46, 100]⟩, ⟨#[97, 46, 101]⟩], [⟨#[97, 98]⟩, ⟨#[98, 99]⟩, ⟨#[99, 100]⟩, ⟨#[97, 101]⟩], [[0, 1, 2, 3, 1], [1, 0, 1, 2, 2], [2, 1, 0, 1, 3], [3, 2, 1, 0, 4], [1, 2, 3, 4, 0]], [[true, true, true, true, true], [false, true, true, true, false], [false, false, true, true, false], [false, false, false, true, false], [false, false, false, false, true]], [⟨#[]⟩, ⟨#[]⟩, ⟨#[]⟩, ⟨#[41, 41, 41]⟩]⟩,
  ⟨[⟨#[97]⟩, ⟨#[97, 98]⟩, ⟨#[97, 98, 99]⟩, ⟨#[97, 98, 99, 100]⟩, ⟨#[97, 98, 101]⟩], [⟨#[97]⟩, ⟨#[97, 46, 98]⟩, ⟨#[97, 46, 98, 46, 99]⟩, ⟨#[97, 46, 98, 46, 99, 46, 100]⟩, ⟨#[97, 46, 98, 46, 101]⟩], [⟨#[97, 98]⟩, ⟨#[98, 99]⟩, ⟨#[99, 100]⟩, ⟨#[98, 101]⟩], [[0, 1, 2, 3, 2], [1, 0, 1, 2, 1], [2, 1, 0, 1, 2], [3, 2, 1, 0, 3], [2, 1, 2, 3, 0]], [[true, true, true, true, true], [false, true, true, true, true], [false, false, true, true, false], [false, false, false, true, false], [false, false, false, false, true]], [⟨#[]⟩, ⟨#[]⟩, ⟨#[]⟩, ⟨#[41, 41]⟩]⟩]
noncomputable def sds6 : List SD := [
  ⟨[⟨#[97]⟩, ⟨#[97, 98]⟩, ⟨#[97, 98, 99]⟩, ⟨#[97, 98, 99, 100]⟩, ⟨#[97, 98, 99, 101]⟩], [⟨#[97]⟩, ⟨#[97, 46, 98]⟩, ⟨#[97, 46, 98, 46, 99]⟩, ⟨#[97, 46, 98, 46, 99, 46, 100]⟩, ⟨#[97, 46, 98, 46, 99, 46, 101]⟩], [⟨#[97, 98]⟩, ⟨#[98, 99]⟩, ⟨#[99, 100]⟩, ⟨#[99, 101]⟩], [[0, 1, 2, 3, 3], [1, 0, 1, 2, 2], [2, 1, 0, 1, 1], [3, 2, 1, 0, 2], [3, 2, 1, 2, 0]], [[true, true, true, true, true], [false, true, true, true, true], [false, false, true, true, true], [false, false, false, true, false], [false, false, false, false, true]], [⟨#[]⟩, ⟨#[]⟩, ⟨#[]⟩, ⟨#[41]⟩]⟩,
  ⟨[⟨#[97]⟩, ⟨#[97, 98]⟩, ⟨#[97, 98, 99]⟩, ⟨#[97, 98, 99, 100]⟩, ⟨#[97, 98, 99, 100, 101]⟩], [⟨#[97]⟩, ⟨#[97, 46, 98]⟩, ⟨#[97, 46, 98, 46, 99]⟩, ⟨#[97, 46, 98, 46, 99, 46, 100]⟩, ⟨#[97, 46, 98, 46, 99, 46, 100, 46, 101]⟩], [⟨#[97, 98]⟩, ⟨#[98, 99]⟩, ⟨#[99, 100]⟩, ⟨#[100, 101]⟩], [[0, 1, 2, 3, 4], [1, 0, 1, 2, 3], [2, 1, 0, 1, 2], [3, 2, 1, 0, 1], [4, 3, 2, 1, 0]], [[true, true, true, true, true], [false, true, true, true, true], [false, false, true, true, true], [false, false, false, true, true], [false, false, false, false, true]], [⟨#[]⟩, ⟨#[]⟩, ⟨#[]⟩, ⟨#[]⟩]⟩]
noncomputable def sds : List SD := sds0 ++ (sds1 ++ (sds2 ++ (sds3 ++ (sds4 ++ (sds5 ++ (sds6))))))
noncomputable def sdB (d : SD) : Bool := (dotsE d.hu == d.dots) && (tiesE d.hu == d.ties) && (holdsE d.hu == d.hol) && (closedOf d.hu == d.clo) && closedOk d.hu && wayB d.hu && shB d.hu
theorem sdsHu : shapes 4 = sds.map (·.hu) := by decide +kernel
theorem sdsB : sds.all sdB = true := by decide +kernel
noncomputable def tabB (d : SD) : Bool := tiesOk d.ties && ((List.range 5).all fun i => goOk d.ties i (d.tab.getD i [])) && rowsOk d.tab && (dGo 4 d.tab 1 1 == some 32) && (d.tab.length == 5) && prs.all fun p => tabPair d.tab d.hol p.1 p.2
theorem sdsTab : sds.all tabB = true := by decide +kernel
noncomputable def ellB (d : SD) : Bool := (prs.all fun p => decide (1 ≤ (d.dots.getD p.2 "").length) && ellPair d.dots d.hol p.1 p.2 "" && ellPair d.dots d.hol p.1 p.2 (Txt.item (d.dots.getD p.2 "") (-1))) && (List.range 5).all fun r => selfOk (d.dots.getD r "")
theorem sdsEll0 : sds0.all ellB = true := by decide +kernel
theorem sdsEll1 : sds1.all ellB = true := by decide +kernel
theorem sdsEll2 : sds2.all ellB = true := by decide +kernel
theorem sdsEll3 : sds3.all ellB = true := by decide +kernel
theorem sdsEll4 : sds4.all ellB = true := by decide +kernel
theorem sdsEll5 : sds5.all ellB = true := by decide +kernel
theorem sdsEll6 : sds6.all ellB = true := by decide +kernel
theorem sdsEll : sds.all ellB = true := by
  simp only [sds, List.all_append, sdsEll0, sdsEll1, sdsEll2, sdsEll3, sdsEll4, sdsEll5, sdsEll6, Bool.and_self]
/-- the brackets, of a piece -/
noncomputable def parC (closed : List Str) (hol : List (List Bool)) (one two : Nat) (pc : Str) : Bool :=
  decide (pc.length ≤ 100) && JoinOk "(" ((closed.drop one).take (two - one)) && decide ((Txt.join "(" ((closed.drop one).take (two - one))).length ≤ 1000) && mulOk pc (if pc != "\"" then 1 else 0) && decide ((betweenOf closed pc one two).length ≤ 2000) && decide ((Txt.mul pc (if pc != "\"" then 1 else 0)).length ≤ 100) &&
  brOk (aheadOf hol one two) (aheadOf hol two one) (betweenOf closed pc one two) true && brOk (maxZ (aheadOf hol one two - 1)) (aheadOf hol two one - 1) (betweenOf closed pc one two) false
noncomputable def parB (d : SD) : Bool := prs.all fun p => (if p.2 = p.1 + 1 then hiddens else [""]).all fun pc => parC d.clo d.hol p.1 p.2 pc
theorem sdsPar0 : sds0.all parB = true := by decide +kernel
theorem sdsPar1 : sds1.all parB = true := by decide +kernel
theorem sdsPar2 : sds2.all parB = true := by decide +kernel
theorem sdsPar3 : sds3.all parB = true := by decide +kernel
theorem sdsPar4 : sds4.all parB = true := by decide +kernel
theorem sdsPar5 : sds5.all parB = true := by decide +kernel
theorem sdsPar6 : sds6.all parB = true := by decide +kernel
theorem sdsPar : sds.all parB = true := by
  simp only [sds, List.all_append, sdsPar0, sdsPar1, sdsPar2, sdsPar3, sdsPar4, sdsPar5, sdsPar6, Bool.and_self]
theorem mulHid : hiddens.all (fun h => mulOk h 0 && mulOk h 1 && (Txt.mul h 0 == "") && (Txt.mul h 1 == h)) = true := by decide +kernel
theorem parPair_of {d : SD} {hid : Str} {spot : Int} {one two : Nat} (hh : hid ∈ hiddens) (hp : parB d = true) (h1 : one < two) (h2 : two < 5) : parPair hid spot d.clo d.hol one two = true := by
  have hm := List.all_eq_true.mp mulHid hid hh
  simp only [Bool.and_eq_true, beq_iff_eq] at hm
  obtain ⟨⟨⟨m0, m1⟩, e0⟩, e1⟩ := hm
  have hq := List.all_eq_true.mp hp _ (prs_mem h1 h2)
  rw [List.all_eq_true] at hq
  have key : mulOk hid (if (((one : Nat) : Int) == spot) && (((two : Nat) : Int) == spot + 1) then 1 else 0) = true ∧ parC d.clo d.hol one two (pieceOf hid spot one two) = true := by
    unfold pieceOf
    split
    · rename_i hc
      rw [Bool.and_eq_true, beq_iff_eq, beq_iff_eq] at hc
      rw [e1]
      refine ⟨m1, hq hid ?_⟩
      dsimp only
      rw [if_pos (by omega)]; exact hh
    · rw [e0]
      refine ⟨m0, hq "" ?_⟩
      dsimp only
      split
      · exact List.mem_cons_self
      · exact List.mem_cons_self
  obtain ⟨k1, k2⟩ := key
  unfold parC at k2
  obtain ⟨k2, b2⟩ := Bool.and_eq_true_iff.mp k2
  obtain ⟨k2, b1⟩ := Bool.and_eq_true_iff.mp k2
  obtain ⟨k2, a6⟩ := Bool.and_eq_true_iff.mp k2
  obtain ⟨k2, a5⟩ := Bool.and_eq_true_iff.mp k2
  obtain ⟨k2, a4⟩ := Bool.and_eq_true_iff.mp k2
  obtain ⟨k2, a3⟩ := Bool.and_eq_true_iff.mp k2
  obtain ⟨a1, a2⟩ := Bool.and_eq_true_iff.mp k2
  unfold parPair midOk
  rw [k1, a1, a2, a3, a4, a5, a6, b1, b2]; rfl
end
section
set_option maxHeartbeats 4000000
/-! law's page, for all scripts -/
section
variable {dr : List Int} {hu : List Str}
theorem wayB_at (h : wayB hu = true) {i : Nat} (hi : i < 5) : hu.length = 5 ∧ 1 ≤ (wy hu i).length ∧ (wy hu i).length ≤ 5 ∧ Let (wy hu i) ∧ (∀ c ∈ (wy hu i).drop 1, 98 ≤ c ∧ c ≤ 101) ∧ preE hu i i = true ∧ (1 ≤ i → 2 ≤ (wy hu i).length) := by
  unfold wayB at h
  obtain ⟨h5, h⟩ := Bool.and_eq_true_iff.mp h
  have h := List.all_eq_true.mp h i (List.mem_range.mpr hi)
  simp only [Bool.and_eq_true, Bool.or_eq_true, beq_iff_eq, Nat.ble_eq, letB, tlB, List.all_eq_true] at h h5
  obtain ⟨⟨⟨⟨⟨a, b⟩, c⟩, d⟩, e⟩, f⟩ := h
  exact ⟨h5, a, b, c, d, e, fun q => f.elim (fun z => by omega) id⟩
theorem chOkAll : ([98, 99, 100, 101] : List Nat).all chOk = true := by decide +kernel
theorem chOk_of {c : Nat} (h : 98 ≤ c ∧ c ≤ 101) : chOk c = true := by
  have : c = 98 ∨ c = 99 ∨ c = 100 ∨ c = 101 := by omega
  exact List.all_eq_true.mp chOkAll c (by rcases this with rfl | rfl | rfl | rfl <;> decide)
noncomputable def stsOf (dr : List Int) (hu : List Str) (i : Nat) : List Int := ((wy hu i).drop 1).map (trF (dr.map trit))
theorem sts_lead (h : wayB hu = true) {i : Nat} (hi : i < 5) : leadFact (stsOf dr hu i) = true := by
  obtain ⟨_, h1, h2, _⟩ := wayB_at h hi
  exact allT_at leadU (tri_map (trF_tri dr) _) (by unfold stsOf; rw [List.length_map, List.length_drop]; omega)
theorem getD_wy (i : Nat) : (hu.getD i "").cps.toList = wy hu i := rfl
theorem sepOf_cps (r : Nat) : (sepOf r).cps.toList = sep2 r := by
  unfold sepOf sep2
  rcases Nat.mod_two_eq_zero_or_one r with h | h <;> rw [h] <;> rfl
theorem drawn_rowT (h : wayB hu = true) {r : Nat} (hr : r < 5) : RowT (drawnRow dr (hu.getD r "") r) (leadOf (stsOf dr hu r)).cps.toList (wy hu r) r := by
  obtain ⟨_, h1, h2, h3, h4, _, h6⟩ := wayB_at h hr
  have hf := sts_lead (dr := dr) h hr
  simp only [leadFact, Bool.and_eq_true, wspB, List.all_eq_true, Bool.or_eq_true, beq_iff_eq, Nat.ble_eq] at hf
  obtain ⟨⟨⟨f1, f2⟩, f3⟩, f4⟩ := hf
  refine ⟨?_, f2, h3, fun q => by rw [q] at h1; simp at h1, f3, by omega, fun q => ?_⟩
  · have e : stepsOf dr (hu.getD r "") = stsOf dr hu r := steps_eq (by rw [getD_wy]; exact h1)
    unfold drawnRow
    have ed := dotW_cps (hu.getD r "")
    unfold dotW at ed
    rw [e, cpsA, cpsA, cpsA, ed, sepOf_cps, getD_wy]
    simp only [List.append_assoc]
    rfl
  · have : (wy hu r).drop 1 = [] := List.drop_eq_nil_of_le (by omega)
    unfold stsOf
    rw [this]; rfl
theorem drawn_at {r : Nat} (hr : r < 5) : (drawnOf dr hu).getD r "" = drawnRow dr (hu.getD r "") r := by
  rw [drawnOf, getD_range hr]
theorem drawnT (h : wayB hu = true) {r : Nat} (hr : r < 5) : RowT ((drawnOf dr hu).getD r "") (leadOf (stsOf dr hu r)).cps.toList (wy hu r) r := by
  rw [drawn_at hr]; exact drawn_rowT h hr
theorem rowOk_all (h : wayB hu = true) {r : Nat} (hr : r < 5) : rowOk dr (hu.getD r "") r = true := by
  obtain ⟨_, h1, h2, h3, h4, _, h6⟩ := wayB_at h hr
  have hf := sts_lead (dr := dr) h hr
  simp only [leadFact, Bool.and_eq_true, Nat.ble_eq] at hf
  obtain ⟨⟨⟨f1, f2⟩, f3⟩, f4⟩ := hf
  have e : stepsOf dr (hu.getD r "") = stsOf dr hu r := steps_eq (by rw [getD_wy]; exact h1)
  have hl : (hu.getD r "").length ≤ 5 := by rw [slen, getD_wy]; exact h2
  unfold rowOk
  simp only [Bool.and_eq_true, decide_eq_true_eq, List.all_eq_true]
  refine ⟨⟨⟨⟨⟨⟨by omega, fun c hc => ?_⟩, ?_⟩, ?_⟩, ?_⟩, ?_⟩, ?_⟩
  · rw [tail_cps (by rw [getD_wy]; exact h1), getD_wy] at hc
    exact chOk_of (h4 c hc)
  · rw [e]; exact f1
  · refine joinOk_of 1 (fun t ht => ?_) (Nat.le_succ 1) ?_
    · obtain ⟨c, _, rfl⟩ := List.mem_map.mp ht
      exact Nat.le_refl 1
    · rw [signs_length]; omega
  · rw [e, slen]; omega
  · have ed := dotW_cps (hu.getD r "")
    unfold dotW at ed
    have := jl_len (wy hu r)
    rw [slen, ed, getD_wy]; omega
  · exact Nat.le_trans (drawn_rowT h hr).len (by omega)
theorem dots_eq (h : wayB hu = true) : dotsOf (drawnOf dr hu) = dotsE hu := by
  unfold dotsOf dotsE
  refine List.map_congr_left fun r hr => ?_
  exact (drawnT h (List.mem_range.mp hr)).dot
theorem dotsE_at {r : Nat} (hr : r < 5) : (dotsE hu).getD r "" = (⟨(jl (wy hu r)).toArray⟩ : Str) := by
  rw [dotsE, getD_range hr]
theorem two_last {w : List Nat} (h : 2 ≤ w.length) : ∃ w' b c, w = w' ++ [b] ++ [c] ∧ w.drop (w.length - 2) = [b, c] := by
  obtain ⟨v, c, rfl⟩ := snoc_of (w := w) (by rintro rfl; simp at h)
  obtain ⟨w', b, rfl⟩ := snoc_of (w := v) (by rintro rfl; simp at h)
  refine ⟨w', b, c, rfl, ?_⟩
  have : (w' ++ [b] ++ [c]).length - 2 = w'.length := by simp
  rw [this, List.append_assoc, List.drop_left]; rfl
theorem tie_at (h : wayB hu = true) {j : Nat} (hj : j < 4) : ∃ b c, (wy hu (j + 1)).drop ((wy hu (j + 1)).length - 2) = [b, c] ∧ sed (Txt.slice ((dotsE hu).getD (j + 1) "") none (some (-2))) = ⟨#[b]⟩ ∧ sed ((drawnOf dr hu).getD (j + 1) "") = ⟨#[c]⟩ := by
  obtain ⟨_, h1, h2, h3, h4, _, h6⟩ := wayB_at h (i := j + 1) (by omega)
  obtain ⟨w', b, c, e, ed⟩ := two_last (h6 (by omega))
  refine ⟨b, c, ed, ?_, (drawnT h (by omega)).sedR e⟩
  rw [dotsE_at (by omega)]
  rw [e] at h3
  exact sedP (w' := w') (b := b) (c := c) (by rw [e]) h3
theorem ties_eq (h : wayB hu = true) : tiesOf (drawnOf dr hu) (dotsE hu) = tiesE hu := by
  unfold tiesOf tiesE
  refine List.map_congr_left fun j hj => ?_
  obtain ⟨b, c, e1, e2, e3⟩ := tie_at (dr := dr) h (List.mem_range.mp hj)
  rw [tieOf, e2, e3, e1]; rfl
theorem tieOk_all (h : wayB hu = true) {j : Nat} (hj : j < 4) : tieOk ((dotsE hu).getD (j + 1) "") ((drawnOf dr hu).getD (j + 1) "") = true := by
  obtain ⟨b, c, e1, e2, e3⟩ := tie_at (dr := dr) h hj
  obtain ⟨_, h1, h2, h3, h4, _, h6⟩ := wayB_at h (i := j + 1) (by omega)
  unfold tieOk
  rw [e2, e3]
  have hl : (Txt.slice ((dotsE hu).getD (j + 1) "") none (some (-2))).length ≤ 1000 := by
    obtain ⟨w', b, c, e, _⟩ := two_last (h6 (by omega))
    have hd : ((dotsE hu).getD (j + 1) "").cps.toList = jl (w' ++ [b]) ++ [46, c] := by
      rw [dotsE_at (by omega)]
      show jl (wy hu (j + 1)) = _
      rw [e, jl_snoc c _ (by simp)]
    rw [slen, slice_neg2 hd]
    have := jl_len (w' ++ [b])
    have : (w' ++ [b]).length ≤ 5 := by rw [e] at h2; simp at h2 ⊢; omega
    omega
  simp only [Bool.and_eq_true, decide_eq_true_eq]
  exact ⟨⟨hl, Nat.le_trans (Nat.le_refl 1) (by omega)⟩, Nat.le_trans (Nat.le_refl 1) (by omega)⟩
theorem dotOk_all (h : wayB hu = true) {r : Nat} (hr : r < 5) : dotOk ((drawnOf dr hu).getD r "") r = true := by
  have T := drawnT (dr := dr) h hr
  have hf := sts_lead (dr := dr) h hr
  simp only [leadFact, Bool.and_eq_true] at hf
  obtain ⟨_, h1, h2, _⟩ := wayB_at h hr
  have hj := jl_len (wy hu r)
  unfold dotOk
  have e1 := T.dotix.2
  have e2 : wsOk (wsOf ((drawnOf dr hu).getD r "")) = true := by
    rw [T.ws.1, back]; exact hf.2
  rw [e1, e2, T.dot]
  have hl : (⟨(jl (wy hu r)).toArray⟩ : Str).length ≤ 1000 := by
    rw [slen]; show (jl (wy hu r)).length ≤ 1000; omega
  have hc : ((drawnOf dr hu).getD r "").cps.size ≤ 1000 := Nat.le_trans T.len (by omega)
  simp only [Bool.and_eq_true, decide_eq_true_eq, Bool.not_false, and_true]
  exact ⟨hc, hl⟩
theorem lead_at (h : wayB hu = true) {i : Nat} (hi : i < 5) : ((leadsOf (drawnOf dr hu)).getD i ("", ⟨[], 0, 0, 0⟩)).2 = wsL (stsOf dr hu i) := by
  have e : (drawnOf dr hu)[i]? = some ((drawnOf dr hu).getD i "") := getD_at (by rw [drawnOf_len]; exact hi)
  rw [leadsOf, List.getD_eq_getElem?_getD, List.getElem?_map, e]
  show wsOf _ = _
  rw [(drawnT h hi).ws.1, back]; rfl
theorem holds_all (h : wayB hu = true) (hs : shB hu = true) : holdsOf (leadsOf (drawnOf dr hu)) = holdsE hu := by
  refine holds_eq (E := preE hu) (fun one h1 => (wayB_at h h1).2.2.2.2.2.1) (fun one two h1 => ?_) (fun one two h1 h2 he => ?_) (fun one two h1 h2 he => ?_)
  · unfold preE; rw [decide_eq_false (by omega)]; rfl
  · have hp := List.all_eq_true.mp hs _ (prs_mem h1 h2)
    dsimp only at hp
    rw [he, if_pos rfl] at hp
    obtain ⟨_, a1, a2, _⟩ := wayB_at h (i := one) (by omega)
    obtain ⟨_, b1, b2, _⟩ := wayB_at h (i := two) h2
    have hl : lessAt (leadsOf (drawnOf dr hu)) one two = lessT (stsOf dr hu one) (stsOf dr hu two) := by
      unfold lessAt lessT
      rw [lead_at h (by omega), lead_at h h2]
    rw [hl]
    cases hE : preE hu one two with
    | true =>
      rw [hE, if_pos rfl, Nat.blt_eq] at hp
      unfold preE at hE
      obtain ⟨x, hx⟩ := List.isPrefixOf_iff_prefix.mp (Bool.and_eq_true_iff.mp hE).2
      have ex : (wy hu two).drop 1 = (wy hu one).drop 1 ++ x := by
        rw [← hx, List.drop_append_of_le_length a1]
      unfold stsOf
      rw [ex]
      refine less_pre (trF_tri dr) (fun q => ?_) ?_
      · rw [q, List.append_nil] at hx
        rw [hx] at hp; omega
      · rw [← ex, List.length_drop]; omega
    | false =>
      rw [hE, if_neg Bool.false_ne_true] at hp
      obtain ⟨m, hm, e⟩ := List.any_eq_true.mp hp
      have hm := List.mem_range.mp hm
      have e := beq_iff_eq.mp e
      unfold stsOf
      rw [e]
      exact less_side (trF_tri dr) (by rw [List.length_drop]; exact hm) (by rw [List.length_drop]; omega)
  · have hp := List.all_eq_true.mp hs _ (prs_mem h1 h2)
    dsimp only at hp
    rw [he, if_neg Bool.false_ne_true] at hp
    simpa using hp
end
theorem hiddens_mem {i : Int} (h : 0 ≤ i ∧ i < 6) : hiddens.getD i.toNat "" ∈ hiddens := by
  have : i.toNat < hiddens.length := by show _ < 6; omega
  rw [List.getD_eq_getElem?_getD, List.getElem?_eq_getElem this]
  exact List.getElem_mem this
theorem lawOk_all {dr : List Int} (hlen : dr.length = 4) : LawOk dr := by
  have hm := hung_mem (dr := dr) (i := 4) (by omega) (by omega)
  rw [sdsHu] at hm
  obtain ⟨d, hd, he⟩ := List.mem_map.mp hm
  have hB := List.all_eq_true.mp sdsB d hd
  have hT := List.all_eq_true.mp sdsTab d hd
  have hE := List.all_eq_true.mp sdsEll d hd
  have hP := List.all_eq_true.mp sdsPar d hd
  simp only [sdB, Bool.and_eq_true, beq_iff_eq] at hB
  obtain ⟨⟨⟨⟨⟨⟨b1, b2⟩, b3⟩, b4⟩, b5⟩, b6⟩, b7⟩ := hB
  rw [he] at b1 b2 b3 b4 b5 b6 b7
  have e1 : dotsOf (drawnOf dr (hungN dr 4)) = d.dots := (dots_eq b6).trans b1
  have e2 : tiesOf (drawnOf dr (hungN dr 4)) (dotsOf (drawnOf dr (hungN dr 4))) = d.ties := by rw [dots_eq b6, ties_eq b6, b2]
  have e3 : holdsOf (leadsOf (drawnOf dr (hungN dr 4))) = d.hol := (holds_all b6 b7).trans b3
  simp only [tabB, Bool.and_eq_true, beq_iff_eq, List.all_eq_true] at hT
  obtain ⟨⟨⟨⟨⟨t1, t2⟩, t3⟩, t4⟩, t5⟩, t6⟩ := hT
  simp only [ellB, Bool.and_eq_true, List.all_eq_true, decide_eq_true_eq] at hE
  obtain ⟨l1, l2⟩ := hE
  have hm6 : 0 ≤ Int.fmod dr.sum 6 ∧ Int.fmod dr.sum 6 < 6 := ⟨Int.fmod_nonneg_of_pos _ (by decide), Int.fmod_lt_of_pos _ (by decide)⟩
  refine ⟨hlen, fun i x hx => ?_, fun r hr => rowOk_all b6 hr, textOk_of fun r hr => Nat.le_trans (drawnT b6 hr).len (by omega), lexOk_of fun r hr => (drawnT b6 hr).g, ?_, fun r hr => dotOk_all b6 hr, fun j hj => ?_, ?_, ?_, b5, ?_, ?_, ?_⟩
  · have hi := (List.getElem?_eq_some_iff.mp hx).1
    exact (hStep_mem x (hChk_at (by omega) (hung_mem (by omega) (by omega)))).2
  · unfold strsOk
    rw [List.all_eq_true]
    intro t ht
    obtain ⟨i, hi, rfl⟩ := List.mem_iff_getElem.mp ht
    have := (drawnT (dr := dr) b6 (r := i) (by rw [drawnOf_len] at hi; exact hi)).ok
    rw [List.getD_eq_getElem?_getD, List.getElem?_eq_getElem hi] at this
    exact this
  · rw [dots_eq b6]; exact tieOk_all b6 hj
  · rw [e2]; exact t1
  · rw [e2, e3]
    refine ⟨d.tab, t5, fun i hi => ?_, t3, t4, fun one two h1 h2 => t6 _ (prs_mem h1 h2)⟩
    have := t2 i (List.mem_range.mpr hi)
    unfold goOk at this
    unfold stAns
    split at this
    · rename_i ks q came hq
      rw [hq]
      simp only [Bool.and_eq_true, beq_iff_eq, List.isEmpty_iff, decide_eq_true_eq] at this
      obtain ⟨⟨g1, g2⟩, g3⟩ := this
      have := isort_only (List.Perm.refl came) g3
      show some (stInts ks, decide (came = isort came), q) = _
      rw [g1, g2, ← this]; simp
    · cases this
  · rw [e1, e3]
    intro one two h1 h2
    obtain ⟨⟨c1, c2⟩, c3⟩ := l1 _ (prs_mem h1 h2)
    exact ⟨c1, c2, c3⟩
  · rw [e3, b4]
    exact fun one two h1 h2 => parPair_of (hiddens_mem hm6) hP h1 h2
  · rw [e1]
    exact fun r hr => l2 r (List.mem_range.mpr hr)
theorem drs_len (ns : List Int) : (drs ns).length = 4 := by
  unfold drs
  rw [List.length_append, List.length_map, List.length_drop]
  have h1 : (ns.take 4).length ≤ 4 := by rw [List.length_take]; omega
  have h2 : ([38, 97, 12, 37] : List Int).length = 4 := rfl
  omega
end
section
set_option maxHeartbeats 4000000
theorem end01 : PySem.Challenge.rw_ul0022_01.Holds :=
  hd01 (enter_law (l := PySem.Challenge.rw_ul0022_01) (f := 196) (Tb := 166) (c := 170) (k := 13) rfl (by decide) (fun _ => rfl) (fun _ => rfl) (fun _ => rfl)
    fun W Pm hK _ _ ns hn => kl196 (W := W) (k := 0) hK hn (lawOk_all (drs_len ns)))
end
end Mine
theorem PySem.Challenge.cw_ul0022_01_holds : PySem.Challenge.rw_ul0022_01.Holds :=
  Mine.end01
