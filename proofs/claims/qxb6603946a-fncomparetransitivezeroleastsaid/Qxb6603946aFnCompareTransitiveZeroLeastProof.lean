import Derived.Test.Qxb6603946aCompare
import Derived.Test.Qxb6603946aRows
import Derived.WalkKit
import Derived.ProofKit
import Derived.OpenShut
import Derived.ShutString
namespace Go.Proofs.Qxb6603946a.fnCompareTransitiveZeroLeast
open Go.ChangeShapes Go.WideShapes Go.ChangeAt Go.RowKit
open Go.ChangeMaps (open_string shut_string)
set_option linter.unusedVariables false      -- a walk need not use every 'w<i>' (that an integer argument fits its kind)

theorem own : ownKnob Try.prog.godebug = none := by kernel_rfl

theorem cmp_cases (t i u j : Int) : (cmpB t i u j = -1 ∧ t * 4294967296 + i < u * 4294967296 + j) ∨ (cmpB t i u j = 0 ∧ t * 4294967296 + i = u * 4294967296 + j) ∨ (cmpB t i u j = 1 ∧ u * 4294967296 + j < t * 4294967296 + i) := by
  unfold cmpB
  by_cases l : t * 4294967296 + i < u * 4294967296 + j
  · exact Or.inl ⟨if_pos l, l⟩
  · by_cases g : u * 4294967296 + j < t * 4294967296 + i
    · exact Or.inr (Or.inr ⟨by rw [if_neg l, if_pos g], g⟩)
    · exact Or.inr (Or.inl ⟨by rw [if_neg l, if_neg g], by omega⟩)
theorem cmp_lt {t i u j : Int} (h : t * 4294967296 + i < u * 4294967296 + j) : cmpB t i u j = -1 := if_pos h
theorem cmp_eq {t i u j : Int} (h : t * 4294967296 + i = u * 4294967296 + j) : cmpB t i u j = 0 := by
  unfold cmpB; rw [if_neg (by omega), if_neg (by omega)]
/-- The seven ways through the three tests. -/
theorem ways (a b c d e f : Int) :
    (cmpB a b c d = 1) ∨ (cmpB a b c d = 0 ∧ cmpB c d e f = 1) ∨ (cmpB a b c d = -1 ∧ cmpB c d e f = 1) ∨
    (cmpB a b c d = 0 ∧ cmpB c d e f = 0 ∧ cmpB a b e f = 0) ∨ (cmpB a b c d = 0 ∧ cmpB c d e f = -1 ∧ cmpB a b e f = -1) ∨
    (cmpB a b c d = -1 ∧ cmpB c d e f = 0 ∧ cmpB a b e f = -1) ∨ (cmpB a b c d = -1 ∧ cmpB c d e f = -1 ∧ cmpB a b e f = -1) := by
  rcases cmp_cases a b c d with ⟨h, g⟩ | ⟨h, g⟩ | ⟨h, g⟩ <;> rcases cmp_cases c d e f with ⟨k, l⟩ | ⟨k, l⟩ | ⟨k, l⟩
  · exact .inr (.inr (.inr (.inr (.inr (.inr ⟨h, k, cmp_lt (by omega)⟩)))))
  · exact .inr (.inr (.inr (.inr (.inr (.inl ⟨h, k, cmp_lt (by omega)⟩)))))
  · exact .inr (.inr (.inl ⟨h, k⟩))
  · exact .inr (.inr (.inr (.inr (.inl ⟨h, k, cmp_lt (by omega)⟩))))
  · exact .inr (.inr (.inr (.inl ⟨h, k, cmp_eq (by omega)⟩)))
  · exact .inr (.inl ⟨h, k⟩)
  · exact .inl h
  · exact .inl h
  · exact .inl h

/-! ### STEP 1: THE WALK: the Go text returns true. 'Grown w w'': the world has at most new blocks (Derived/RowKit3.lean). Part the cases AHEAD of 'go_enter' where a test parts the walk; take each callee by a contract of your own. -/
set_option maxHeartbeats 4000000 in
theorem walk (a0 : Int) (a1 : Int) (a2 : Int) (a3 : Int) (a4 : Int) (a5 : Int) (w0 : (Lit.int .u32 a0).wf = true) (w1 : (Lit.int .u32 a1).wf = true) (w2 : (Lit.int .u32 a2).wf = true) (w3 : (Lit.int .u32 a3).wf = true) (w4 : (Lit.int .u32 a4).wf = true) (w5 : (Lit.int .u32 a5).wf = true) (w : World) :
    Calls Try.prog 5 #[.int .u32 a0, .int .u32 a1, .int .u32 a2, .int .u32 a3, .int .u32 a4, .int .u32 a5] w fun e w' => e = .returned (.bool true) ∧ Grown w w' := by
  obtain ⟨b0, c0⟩ := wf_u32 w0
  obtain ⟨b1, c1⟩ := wf_u32 w1
  obtain ⟨b2, c2⟩ := wf_u32 w2
  obtain ⟨b3, c3⟩ := wf_u32 w3
  obtain ⟨b4, c4⟩ := wf_u32 w4
  obtain ⟨b5, c5⟩ := wf_u32 w5
  clear w0 w1 w2 w3 w4 w5
  obtain ⟨ez, e0, e1⟩ | ⟨ez, e0⟩ | ⟨ez, e0, e1⟩ : (cmpB 0 0 a0 a1 = 0 ∧ (a0 == 0) = true ∧ (a1 == 0) = true) ∨ (cmpB 0 0 a0 a1 = -1 ∧ (a0 == 0) = false) ∨ (cmpB 0 0 a0 a1 = -1 ∧ (a0 == 0) = true ∧ (a1 == 0) = false) := by
    by_cases h0 : a0 = 0
    · by_cases h1 : a1 = 0
      · exact .inl ⟨cmp_eq (by omega), by simpa using h0, by simpa using h1⟩
      · exact .inr (.inr ⟨cmp_lt (by omega), by simpa using h0, by simpa using h1⟩)
    · exact .inr (.inl ⟨cmp_lt (by omega), by simpa using h0⟩)
  all_goals
    rcases ways a0 a1 a2 a3 a4 a5 with eab | ⟨eab, ebc⟩ | ⟨eab, ebc⟩ | ⟨eab, ebc, eac⟩ | ⟨eab, ebc, eac⟩ | ⟨eab, ebc, eac⟩ | ⟨eab, ebc, eac⟩
    all_goals
      go_enter Try.func5, Try.ntmps5
      go_wp2_with (first
        | (go_at_call_of 7 (#[Value.agg #[.int .u32 a0, .int .u32 a1], Value.agg #[.int .u32 a2, .int .u32 a3]]); refine (compare_any a0 a1 a2 a3 b0 c0 b1 c1 b2 c2 b3 c3 _).mono ?_; rintro e w' ⟨rfl, o1, o2, o3, o4, rfl⟩)
        | (go_at_call_of 7 (#[Value.agg #[.int .u32 a2, .int .u32 a3], Value.agg #[.int .u32 a4, .int .u32 a5]]); refine (compare_any a2 a3 a4 a5 b2 c2 b3 c3 b4 c4 b5 c5 _).mono ?_; rintro e w' ⟨rfl, o1, o2, o3, o4, rfl⟩)
        | (go_at_call_of 7 (#[Value.agg #[.int .u32 a0, .int .u32 a1], Value.agg #[.int .u32 a4, .int .u32 a5]]); refine (compare_any a0 a1 a4 a5 b0 c0 b1 c1 b4 c4 b5 c5 _).mono ?_; rintro e w' ⟨rfl, o1, o2, o3, o4, rfl⟩)
        | (go_at_call_of 7 (#[Value.agg #[.int .u32 0, .int .u32 0], Value.agg #[.int .u32 a0, .int .u32 a1]]); refine (compare_any 0 0 a0 a1 (by omega) (by omega) (by omega) (by omega) b0 c0 b1 c1 _).mono ?_; rintro e w' ⟨rfl, o1, o2, o3, o4, rfl⟩))
      go_ret
      exact ⟨rfl, by repeat (with_reducible (first | exact Grown.refl _ | apply Grown.drew | apply Grown.alloc))⟩

/-! ### THE ROW's STEP: WRITTEN OUT: LEAVE IT -/
set_option maxRecDepth 100000 in
theorem lifted (os : Os) (started : os.Started) (H : Type) (enc : TypeId × Value → H) :
    ReturnsInHanded {} Try.checked os 5 .any (Rows.fnCompareTransitiveZeroLeastSpec.pre6 enc Try.prog Try.f5 Rows.fnCompareTransitiveZeroLeastRow.domain false) (Rows.fnCompareTransitiveZeroLeastSpec.post enc Try.prog Try.f5 false true false false) := by
  refine returnsInHanded_of_change (C := Try.checked) own started (by kernel_rfl) Try.func5
    (ChangeSpec.witness6 (enc := enc) (C := Try.checked) false ⟨#[], #[.int .u32 0, .int .u32 0, .int .u32 0, .int .u32 0, .int .u32 0, .int .u32 0], []⟩ 8 (by kernel_rfl) (by kernel_rfl) (by kernel_rfl) (by kernel_rfl)) ?_
  intro W base args ds gs before hval0 hW hcnd _
  have hval : ∀ (j : Nat) t v, Try.f5.params[j]? = some t → args[j]? = some v → Value.okWide Try.prog W .any base t v := hval0
  have hW' := hW
  obtain ⟨p, q, hA0, hV, rfl, hfz, hnd⟩ := hW
  have hA : DataW.TrodAll enc Try.prog W 0 (fun _ => true) true Try.f5.params.toList args.toList ds p := hA0
  rw [Try.params5] at hA hval
  obtain ⟨v0, vs0, d0, ds0, p0, q0, hargs, rfl, rfl, h0, r0⟩ := trodAll_cons hA
  obtain ⟨v1, vs1, d1, ds1, p1, q1, rfl, rfl, rfl, h1, r1⟩ := trodAll_cons r0
  obtain ⟨v2, vs2, d2, ds2, p2, q2, rfl, rfl, rfl, h2, r2⟩ := trodAll_cons r1
  obtain ⟨v3, vs3, d3, ds3, p3, q3, rfl, rfl, rfl, h3, r3⟩ := trodAll_cons r2
  obtain ⟨v4, vs4, d4, ds4, p4, q4, rfl, rfl, rfl, h4, r4⟩ := trodAll_cons r3
  obtain ⟨v5, vs5, d5, ds5, p5, q5, rfl, rfl, rfl, h5, r5⟩ := trodAll_cons r4
  obtain ⟨rfl, rfl, rfl⟩ := trodAll_nil r5
  obtain rfl : args = #[v0, v1, v2, v3, v4, v5] := by cases args; simp_all
  obtain ⟨rfl, rfl⟩ := trodVars_none hV
  obtain ⟨a0, rfl, rfl, rfl, w0⟩ := open_int Try.underlying22 (hval 0 22 v0 rfl rfl) h0
  obtain ⟨a1, rfl, rfl, rfl, w1⟩ := open_int Try.underlying22 (hval 1 22 v1 rfl rfl) h1
  obtain ⟨a2, rfl, rfl, rfl, w2⟩ := open_int Try.underlying22 (hval 2 22 v2 rfl rfl) h2
  obtain ⟨a3, rfl, rfl, rfl, w3⟩ := open_int Try.underlying22 (hval 3 22 v3 rfl rfl) h3
  obtain ⟨a4, rfl, rfl, rfl, w4⟩ := open_int Try.underlying22 (hval 4 22 v4 rfl rfl) h4
  obtain ⟨a5, rfl, rfl, rfl, w5⟩ := open_int Try.underlying22 (hval 5 22 v5 rfl rfl) h5
  clear hA0 hval0
  simp only [List.append_nil] at hW'
  refine (walk a0 a1 a2 a3 a4 a5 w0 w1 w2 w3 w4 w5 W).mono fun e W' ⟨he, hg⟩ => ?_
  subst he
  exact ⟨_, rfl, post_of_same (pa := []) (pv := []) hW' (fun _ _ _ => (trodAll_cons_mk (shut_bool Try.underlying4 _) trodAll_mk0)) (fun sp _ => (trodAll_cons_mk (shut_int Try.underlying22 w0) (trodAll_cons_mk (shut_int Try.underlying22 w1) (trodAll_cons_mk (shut_int Try.underlying22 w2) (trodAll_cons_mk (shut_int Try.underlying22 w3) (trodAll_cons_mk (shut_int Try.underlying22 w4) (trodAll_cons_mk (shut_int Try.underlying22 w5) trodAll_mk0))))))) (fun _ _ => rfl) rfl
    (hg.frame _) hg.2.1 (ok_one (by kernel_rfl) rfl (okWide_bool_mk Try.underlying4 _))⟩

theorem over : Rows.fnCompareTransitiveZeroLeastRow.holds Try.pinned (OpenSpec.ofChange Rows.fnCompareTransitiveZeroLeastSpec) :=
  OpenClaim.holds_of_wide 5 Try.f5 rfl rfl rfl rfl rfl rfl rfl ⟨rfl, rfl, rfl, rfl, rfl⟩ rfl rfl rfl rfl rfl (by kernel_rfl) Try.func5 (by kernel_rfl)
    (of_decide_eq_true (by kernel_rfl)) (by unfold Func.isWrapper; first | (rw [if_pos (by decide +kernel)]; kernel_rfl) | (rw [if_neg (by decide +kernel)]; exact ⟨rfl, rfl⟩))
    (fun os started H enc _ => lifted os started H enc)

/-- ████ THE STATEMENT ████ -/
theorem proved : Rows.FnCompareTransitiveZeroLeastSaid :=
  over
end Go.Proofs.Qxb6603946a.fnCompareTransitiveZeroLeast
