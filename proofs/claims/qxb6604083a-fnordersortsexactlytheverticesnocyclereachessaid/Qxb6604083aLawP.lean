import Derived.Test.Qxb6604083aZO
/-! THE LAW OF 'order', PLAIN -/
set_option linter.unusedVariables false
namespace Go.Proofs.Qxb6604083a.Base
open Go.ChangeShapes Go.WideShapes Go.ChangeAt Go.RowKit
open Go.Proofs.Qxb6604083a.G

theorem MV.look_run {w : World} {b : Nat} {ks : List Int} {F : Int → Value} (h : MV w b ks F) (t e : TypeId) (ht : Try.prog.underlying t = some (.map 3 e)) (z : Value) (hz : (zeroValue e).run Try.prog w = .ok z w) {k : Int} (hk : W64 k) (v : Value) (hv : lookV ks F z k = v) :
    (Instr.lookup t (.map (some b)) (.int .i64 k) false).run Try.prog w = .ok v w := by
  obtain ⟨D, h, i⟩ := h
  obtain ⟨v', ps, hrun, hv'⟩ := h.lookup law ht hz (show tok z = some (.held z, []) from rfl) (keyAt hk)
  have e1 : v' = v := by
    simp only [tok, Option.some.injEq, Prod.mk.injEq] at hv'
    rw [← hv]
    unfold lookV
    split
    · rename_i hm'
      rw [i.at' k hm'] at hv'
      exact DataW.held.inj hv'.1
    · rename_i hm'
      rw [Maps.atKey_of_not_has (by rw [i.has k]; simpa using hm')] at hv'
      exact DataW.held.inj hv'.1
  subst e1
  exact hrun

/-- How many of the first j are placed. -/
def cf (Q P : List Int) (j : Nat) : Nat := (Q.take j).countP (fun x => decide (x ∈ P))
theorem fn_get {Q : List Int} {j : Nat} (h : j < Q.length) : Q[j]? = some (fn Q j) := by
  simp [fn, List.getD_eq_getElem?_getD, List.getElem?_eq_getElem h]
theorem cf_succ {Q P : List Int} {j : Nat} (h : j < Q.length) : cf Q P (j + 1) = cf Q P j + (if fn Q j ∈ P then 1 else 0) := by
  unfold cf
  rw [List.take_add_one, fn_get h, List.countP_append]
  simp [List.countP_cons]
theorem cf_in {Q P : List Int} {j : Nat} (h : j < Q.length) (hx : fn Q j ∈ P) : cf Q P (j + 1) = cf Q P j + 1 := by rw [cf_succ h, if_pos hx]
theorem cf_out {Q P : List Int} {j : Nat} (h : j < Q.length) (hx : fn Q j ∉ P) : cf Q P (j + 1) = cf Q P j := by rw [cf_succ h, if_neg hx, Nat.add_zero]
theorem cf_le (Q P : List Int) (j : Nat) : cf Q P j ≤ Q.length := by
  unfold cf
  refine Nat.le_trans List.countP_le_length ?_
  simp; omega
theorem cf_end {Q P : List Int} (hq : Q.Nodup) (hp : P.Nodup) (hs : ∀ x ∈ P, x ∈ Q) : cf Q P Q.length = P.length := by
  unfold cf
  rw [List.take_length, List.countP_eq_length_filter]
  refine List.Perm.length_eq ((List.perm_ext_iff_of_nodup (hq.filter _) hp).2 (fun y => ?_))
  simp
  exact hs y

theorem idx_get {P : List Int} (nd : P.Nodup) {j : Nat} {y : Int} (h : P[j]? = some y) : P.idxOf y = j := by
  have hm := List.mem_of_getElem? h
  have hl := List.idxOf_lt_length_of_mem hm
  refine get_inj nd (x := y) ?_ h
  rw [List.getElem?_eq_getElem hl, List.getElem_idxOf]
theorem idx_lt {P : List Int} {y : Int} (h : y ∈ P) : P.idxOf y < P.length := List.idxOf_lt_length_of_mem h
theorem idx_inj {P : List Int} {x y : Int} (hx : x ∈ P) (hy : y ∈ P) (e : P.idxOf x = P.idxOf y) : x = y := by
  have h1 := List.getElem_idxOf (idx_lt hx)
  have h2 := List.getElem_idxOf (idx_lt hy)
  rw [← h1, ← h2]
  simp only [e]

/-- What the law asks of the order. -/
structure OF (adj : Int → List Int) (Q C D P : List Int) (bb : Bool) : Prop where
  ok : bb = true ↔ C.length = 0
  pl : ∀ x ∈ Q, (x ∈ P ↔ x ∉ D)
  nd : P.Nodup
  sub : ∀ x ∈ P, x ∈ Q
  ord : ∀ x y, y ∈ adj x → y ∉ D → x ∈ P ∧ y ∈ P ∧ x ∉ D ∧ P.idxOf x < P.idxOf y
  num : cf Q P Q.length = P.length

theorem tg_in {adj : Int → List Int} {ks Q : List Int} (g : Gr adj ks Q) {x y : Int} (h : TG adj x y) : y ∈ Q := by
  cases h with
  | single e => exact g.dst e
  | tail _ e => exact g.dst e

theorem of_kin {adj : Int → List Int} {ks Q C D P IK : List Int} {bb : Bool} (g : Gr adj ks Q) (hC : ∀ y, y ∈ C ↔ ∃ k, k < Q.length ∧ fn Q k = y ∧ TG adj y y) (hD : ∀ y, y ∈ D ↔ ∃ s, (∃ k, k < C.length ∧ fn C k = s) ∧ RT adj s y)
    (g' : Gr adj ks IK) (hk : Kin adj ks IK P [] (cnt adj ks P)) (hbb : bb = true ↔ P.length = IK.length) : OF adj Q C D P bb := by
  have hC' : ∀ y, y ∈ C ↔ TG adj y y := fun y => by
    rw [hC y]
    constructor
    · rintro ⟨_, _, _, h⟩; exact h
    · intro h
      obtain ⟨k, hk⟩ := List.mem_iff_getElem?.1 (tg_in g h)
      obtain ⟨hl, _⟩ := List.getElem?_eq_some_iff.1 hk
      rw [fn_get hl] at hk
      exact ⟨k, hl, Option.some.inj hk, h⟩
  have hD' : ∀ y, y ∈ D ↔ Blocked adj y := fun y => by
    rw [hD y]
    constructor
    · rintro ⟨s, ⟨k, hl, e⟩, h⟩
      exact ⟨s, (hC' s).1 (by rw [← e]; exact fn_mem hl), h⟩
    · rintro ⟨s, hs, h⟩
      obtain ⟨k, hk⟩ := List.mem_iff_getElem?.1 ((hC' s).2 hs)
      obtain ⟨hl, _⟩ := List.getElem?_eq_some_iff.1 hk
      rw [fn_get hl] at hk
      exact ⟨s, ⟨k, hl, Option.some.inj hk⟩, h⟩
  have hIQ : ∀ y, y ∈ IK ↔ y ∈ Q := fun y => by rw [g.mem, g'.mem]
  have nd : P.Nodup := by have := hk.nd; rwa [List.append_nil] at this
  have sub : ∀ x ∈ P, x ∈ Q := fun x hx => (hIQ x).1 (hk.subV x hx)
  have pl : ∀ x ∈ Q, (x ∈ P ↔ x ∉ D) := fun x hx => by rw [hk.placed g' x ((hIQ x).2 hx), hD' x]
  refine ⟨?_, pl, nd, sub, ?_, cf_end g.ndv nd sub⟩
  · rw [hbb, hk.all g', List.length_eq_zero_iff, List.eq_nil_iff_forall_not_mem]
    constructor
    · intro h y hy
      have t := (hC' y).1 hy
      exact h y (tg_in g' t) t
    · intro h y _ t
      exact h y ((hC' y).2 t)
  · intro x y hxy hy
    have hyQ := g.dst hxy
    have hyP := (pl y hyQ).2 hy
    obtain ⟨j, hj⟩ := List.mem_iff_getElem?.1 hyP
    obtain ⟨i, hij, hi⟩ := hk.ord j y hj x hxy
    have hxP := List.mem_of_getElem? hi
    refine ⟨hxP, hyP, (pl x (sub x hxP)).1 hxP, ?_⟩
    rw [idx_get nd hi, idx_get nd hj]
    exact hij

theorem look_pI {P : List Int} {x : Int} (h : x ∈ P) : lookV P (pI P) (.int .i64 0) x = .int .i64 (P.idxOf x) := by unfold lookV; rw [if_pos h]; rfl
end Go.Proofs.Qxb6604083a.Base
