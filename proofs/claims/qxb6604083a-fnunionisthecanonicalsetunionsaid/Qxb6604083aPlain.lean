import Derived.Test.Qxb6604083aRuns
/-! 'union' -/
set_option linter.unusedVariables false
namespace Go.Proofs.Qxb6604083a.Base
open Go.ChangeShapes Go.WideShapes Go.ChangeAt Go.RowKit

/-! ### THE PLAIN PART: runs as a list of pairs -/
def WFL (U : List (Int × Int)) : Prop := (∀ p ∈ U, p.1 < p.2) ∧ U.Pairwise (fun p q => p.2 < q.1)
def memL (U : List (Int × Int)) (x : Int) : Prop := ∃ p ∈ U, p.1 ≤ x ∧ x < p.2
def flat (U : List (Int × Int)) : List Value := U.flatMap fun p => [.int .i64 p.1, .int .i64 p.2]

/-- i runs of s and j runs of t have been taken in. -/
structure Inv (ns : Nat) (sf se : Nat → Int) (nt : Nat) (tf te : Nat → Int) (i j : Nat) (U : List (Int × Int)) : Prop where
  wf : WFL U
  mem : ∀ x, memL U x ↔ (∃ a, a < i ∧ sf a ≤ x ∧ x < se a) ∨ ∃ b, b < j ∧ tf b ≤ x ∧ x < te b
  lst : ∀ V p q, U = V ++ [(p, q)] → (i < ns → p ≤ sf i) ∧ (j < nt → p ≤ tf j)
  len : U.length ≤ i + j

theorem memL_snoc (V : List (Int × Int)) (a b x : Int) : memL (V ++ [(a, b)]) x ↔ memL V x ∨ (a ≤ x ∧ x < b) := by
  simp [memL, or_and_right, exists_or]
theorem WFL_push {U : List (Int × Int)} {a b : Int} (h : WFL U) (hab : a < b) (hl : ∀ V p q, U = V ++ [(p, q)] → q < a) : WFL (U ++ [(a, b)]) := by
  refine ⟨fun p hp => ?_, ?_⟩
  · rcases List.mem_append.1 hp with h1 | h1
    · exact h.1 p h1
    · simp at h1; subst h1; exact hab
  · rw [List.pairwise_append]
    refine ⟨h.2, by simp, fun p hp q hq => ?_⟩
    simp at hq
    subst hq
    rcases List.eq_nil_or_concat U with rfl | ⟨V, ⟨p', q'⟩, rfl⟩
    · simp at hp
    · have hq' := hl V p' q' (by simp)
      simp only [List.concat_eq_append] at hp h
      rcases List.mem_append.1 hp with h1 | h1
      · have h2 := (List.pairwise_append.1 h.2).2.2 p h1 (p', q') (by simp)
        have h3 := h.1 (p', q') (by simp)
        simp only at h2 h3 ⊢
        omega
      · simp at h1; subst h1; exact hq'
theorem WFL_merge {V : List (Int × Int)} {p q m : Int} (h : WFL (V ++ [(p, q)])) (hm : q ≤ m) : WFL (V ++ [(p, m)]) := by
  have hpq := h.1 (p, q) (by simp)
  simp only at hpq
  refine ⟨fun r hr => ?_, ?_⟩
  · rcases List.mem_append.1 hr with h1 | h1
    · exact h.1 r (by simp [h1])
    · simp at h1; subst h1; simp only; omega
  · have h2 := List.pairwise_append.1 h.2
    rw [List.pairwise_append]
    refine ⟨h2.1, by simp, fun r hr s hs => ?_⟩
    simp at hs
    subst hs
    exact h2.2.2 r hr (p, q) (by simp)

section
variable {ns : Nat} {sf se : Nat → Int} {nt : Nat} {tf te : Nat → Int} {i j : Nat} {U : List (Int × Int)}
theorem lt_succ_or (P : Nat → Prop) (i : Nat) : (∃ a, a < i + 1 ∧ P a) ↔ (∃ a, a < i ∧ P a) ∨ P i := by
  constructor
  · rintro ⟨a, h, p⟩
    by_cases e : a = i
    · subst e; exact .inr p
    · exact .inl ⟨a, by omega, p⟩
  · rintro (⟨a, h, p⟩ | p)
    · exact ⟨a, by omega, p⟩
    · exact ⟨i, by omega, p⟩

/-- The run (sf i, se i) is taken, and pushed. -/
theorem Inv.pushS (h : Inv ns sf se nt tf te i j U) (hs : WF ns sf se) (hi : i < ns) (hmin : j < nt → sf i ≤ tf j) (hl : ∀ V p q, U = V ++ [(p, q)] → q < sf i) : Inv ns sf se nt tf te (i + 1) j (U ++ [(sf i, se i)]) := by
  refine ⟨WFL_push h.wf (hs i hi).1 hl, fun x => ?_, fun V p q e => ?_, ?_⟩
  · rw [memL_snoc, h.mem x, lt_succ_or (fun a => sf a ≤ x ∧ x < se a)]
    constructor
    · rintro ((a | a) | a)
      · exact .inl (.inl a)
      · exact .inr a
      · exact .inl (.inr a)
    · rintro ((a | a) | a)
      · exact .inl (.inl a)
      · exact .inr a
      · exact .inl (.inr a)
  · obtain ⟨_, h2⟩ := List.append_inj' e rfl
    simp at h2
    obtain ⟨rfl, rfl⟩ := h2
    exact ⟨fun hi' => hs.first (Nat.le_succ i) hi', hmin⟩
  · have := h.len; simp; omega
theorem Inv.pushT (h : Inv ns sf se nt tf te i j U) (ht : WF nt tf te) (hj : j < nt) (hmin : i < ns → tf j ≤ sf i) (hl : ∀ V p q, U = V ++ [(p, q)] → q < tf j) : Inv ns sf se nt tf te i (j + 1) (U ++ [(tf j, te j)]) := by
  refine ⟨WFL_push h.wf (ht j hj).1 hl, fun x => ?_, fun V p q e => ?_, ?_⟩
  · rw [memL_snoc, h.mem x, lt_succ_or (fun a => tf a ≤ x ∧ x < te a), or_assoc]
  · obtain ⟨_, h2⟩ := List.append_inj' e rfl
    simp at h2
    obtain ⟨rfl, rfl⟩ := h2
    exact ⟨hmin, fun hj' => ht.first (Nat.le_succ j) hj'⟩
  · have := h.len; simp; omega
/-- The run is taken, and merged into the last. -/
theorem Inv.mergeS {V : List (Int × Int)} {p q : Int} (h : Inv ns sf se nt tf te i j (V ++ [(p, q)])) (hs : WF ns sf se) (hi : i < ns) (hq : sf i ≤ q) : Inv ns sf se nt tf te (i + 1) j (V ++ [(p, max q (se i))]) := by
  have hp := (h.lst V p q rfl).1 hi
  have hpq := h.wf.1 (p, q) (by simp)
  simp only at hpq
  have hse := (hs i hi).1
  refine ⟨WFL_merge h.wf (by omega), fun x => ?_, fun V' p' q' e => ?_, ?_⟩
  · have hm := h.mem x
    rw [memL_snoc] at hm
    rw [memL_snoc, lt_succ_or (fun a => sf a ≤ x ∧ x < se a)]
    constructor
    · rintro (a | a)
      · rcases hm.1 (.inl a) with b | b
        · exact .inl (.inl b)
        · exact .inr b
      · by_cases l : x < q
        · rcases hm.1 (.inr ⟨a.1, l⟩) with b | b
          · exact .inl (.inl b)
          · exact .inr b
        · exact .inl (.inr ⟨by omega, by omega⟩)
    · rintro ((a | a) | a)
      · rcases hm.2 (.inl a) with b | b
        · exact .inl b
        · exact .inr ⟨b.1, by omega⟩
      · exact .inr ⟨by omega, by omega⟩
      · rcases hm.2 (.inr a) with b | b
        · exact .inl b
        · exact .inr ⟨b.1, by omega⟩
  · obtain ⟨_, h2⟩ := List.append_inj' e rfl
    simp at h2
    obtain ⟨rfl, _⟩ := h2
    exact ⟨fun hi' => by have := hs.first (i := i) (j := i + 1) (by omega) hi'; omega, (h.lst V p q rfl).2⟩
  · have := h.len; simp at this ⊢; omega
theorem Inv.mergeT {V : List (Int × Int)} {p q : Int} (h : Inv ns sf se nt tf te i j (V ++ [(p, q)])) (ht : WF nt tf te) (hj : j < nt) (hq : tf j ≤ q) : Inv ns sf se nt tf te i (j + 1) (V ++ [(p, max q (te j))]) := by
  have hp := (h.lst V p q rfl).2 hj
  have hpq := h.wf.1 (p, q) (by simp)
  simp only at hpq
  have hte := (ht j hj).1
  refine ⟨WFL_merge h.wf (by omega), fun x => ?_, fun V' p' q' e => ?_, ?_⟩
  · have hm := h.mem x
    rw [memL_snoc] at hm
    rw [memL_snoc, lt_succ_or (fun a => tf a ≤ x ∧ x < te a)]
    constructor
    · rintro (a | a)
      · rcases hm.1 (.inl a) with b | b
        · exact .inl b
        · exact .inr (.inl b)
      · by_cases l : x < q
        · rcases hm.1 (.inr ⟨a.1, l⟩) with b | b
          · exact .inl b
          · exact .inr (.inl b)
        · exact .inr (.inr ⟨by omega, by omega⟩)
    · rintro (a | (a | a))
      · rcases hm.2 (.inl a) with b | b
        · exact .inl b
        · exact .inr ⟨b.1, by omega⟩
      · rcases hm.2 (.inr a) with b | b
        · exact .inl b
        · exact .inr ⟨b.1, by omega⟩
      · exact .inr ⟨by omega, by omega⟩
  · obtain ⟨_, h2⟩ := List.append_inj' e rfl
    simp at h2
    obtain ⟨rfl, _⟩ := h2
    exact ⟨(h.lst V p q rfl).1, fun hj' => by have := ht.first (i := j) (j := j + 1) (by omega) hj'; omega⟩
  · have := h.len; simp at this ⊢; omega
theorem Inv.start : Inv ns sf se nt tf te 0 0 [] :=
  ⟨⟨fun p hp => by simp at hp, List.Pairwise.nil⟩, fun x => by simp [memL], fun V p q e => by simp at e, by simp⟩
end

theorem getD_get (U : List (Int × Int)) (k : Nat) (h : k < U.length) : U.getD k (0, 0) = U[k] := by
  rw [List.getD_eq_getElem?_getD, List.getElem?_eq_getElem h]
  rfl
theorem flat_length (U : List (Int × Int)) : (flat U).length = U.length * 2 := by
  induction U with
  | nil => rfl
  | cons p U ih => simp [flat] at ih ⊢; omega
theorem flat_snoc (U : List (Int × Int)) (a b : Int) : flat (U ++ [(a, b)]) = flat U ++ [.int .i64 a, .int .i64 b] := by simp [flat]
theorem flat_get (U : List (Int × Int)) (j : Nat) (h : j < U.length) : (flat U)[j * 2]? = some (.int .i64 (U.getD j (0, 0)).1) ∧ (flat U)[j * 2 + 1]? = some (.int .i64 (U.getD j (0, 0)).2) := by
  induction U generalizing j with
  | nil => simp at h
  | cons p U ih =>
    cases j with
    | zero => simp [flat]
    | succ j =>
      have := ih j (by simpa using h)
      rw [show (j + 1) * 2 = j * 2 + 2 by omega, show j * 2 + 2 + 1 = (j * 2 + 1) + 2 by omega]
      simpa [flat] using this
theorem flat_set (V : List (Int × Int)) (p q m : Int) : (flat (V ++ [(p, q)])).set (V.length * 2 + 1) (.int .i64 m) = flat (V ++ [(p, m)]) := by
  rw [flat_snoc, flat_snoc, ← flat_length, List.set_append_right _ _ (by omega)]
  simp

/-- What the union has to be: well-formed, and holding what either holds. -/
theorem Inv.done {ns : Nat} {sf se : Nat → Int} {nt : Nat} {tf te : Nat → Int} {U : List (Int × Int)} (h : Inv ns sf se nt tf te ns nt U) :
    WF U.length (fun k => (U.getD k (0, 0)).1) (fun k => (U.getD k (0, 0)).2) ∧ ∀ x, AgreeAt ns sf se nt tf te U.length (fun k => (U.getD k (0, 0)).1) (fun k => (U.getD k (0, 0)).2) x := by
  refine ⟨fun k hk => ⟨?_, fun h0 => ?_⟩, fun x => ?_⟩
  · simp only
    rw [getD_get _ _ hk]
    exact h.wf.1 _ (List.getElem_mem hk)
  · simp only
    rw [getD_get _ _ hk, getD_get _ _ (show k - 1 < U.length by omega)]
    exact List.pairwise_iff_getElem.1 h.wf.2 (k - 1) k (by omega) hk (by omega)
  · unfold AgreeAt
    rw [Bool.eq_iff_iff, Bool.or_eq_true, hasB_iff, hasB_iff, hasB_iff, ← h.mem x]
    constructor
    · rintro ⟨k, hk, a, b⟩
      rw [getD_get _ _ hk] at a b
      exact ⟨_, List.getElem_mem hk, a, b⟩
    · rintro ⟨r, hr, a, b⟩
      obtain ⟨k, hk, rfl⟩ := List.mem_iff_getElem.1 hr
      exact ⟨k, hk, by rw [getD_get _ _ hk]; exact a, by rw [getD_get _ _ hk]; exact b⟩
end Go.Proofs.Qxb6604083a.Base
