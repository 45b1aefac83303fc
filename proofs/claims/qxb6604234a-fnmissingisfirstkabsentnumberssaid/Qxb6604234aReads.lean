import Derived.Test.Qxb6604234aBase
import Derived.Test.Qxb6604234aPlain
/-! 'validRuns', 'missingUpTo' -/
set_option linter.unusedVariables false
namespace Go.Proofs.Qxb6604234a.Base
open Go.ChangeShapes Go.WideShapes Go.ChangeAt Go.RowKit
open Go.Proofs.Qxb6604234a.Plain

theorem dn1 (w : World) (m n : Nat) : ∃ k, (w.drewN m).drewN n = w.drewN k := ⟨_, World.drewN_drewN _ _ _⟩
theorem dn2 (w : World) (m n p : Nat) : ∃ k, ((w.drewN m).drewN n).drewN p = w.drewN k := ⟨_, by rw [World.drewN_drewN, World.drewN_drewN]⟩
theorem below_drewN {B : Nat} {w w2 : World} (h : Below B w w2) (n : Nat) : Below B w (w2.drewN n) := ⟨h.os, h.tape, h.output, h.size, h.block⟩
theorem ret_bool {a b : Bool} (h : a = b) : Ending.returned (.bool a) = .returned (.bool b) := by rw [h]
theorem ret_int {k : IntKind} {a b : Int} (h : a = b) : Ending.returned (.int k a) = .returned (.int k b) := by rw [h]
theorem wf_i64 {a : Int} (h : (Lit.int .i64 a).wf = true) : -9223372036854775808 ≤ a ∧ a ≤ 9223372036854775807 := by
  simp [Lit.wf, IntKind.min, IntKind.max, IntKind.signed, IntKind.bits] at h
  omega

theorem zb_any (a0 a1 : Option Addr) (n0 n1 c0 c1 : Nat) (h k : Int) (w : World) :
    Calls Try.prog 6 #[.slice a0 n0 c0, .slice a1 n1 c1, .int .i64 h, .int .i64 k] w fun e w' => ∃ b, e = .returned (.bool b) ∧ w' = w := by
  go_enter Try.func6, Try.ntmps6
  go_wp2
  all_goals (go_ret; exact ⟨_, rfl, rfl⟩)

def validB (n : Nat) (lo hi : Nat → Int) : Bool := (List.range n).all fun i => decide (1 ≤ lo i) && decide (lo i ≤ hi i) && (i == 0 || decide (hi (i - 1) < lo i))
theorem validB_iff (n : Nat) (lo hi : Nat → Int) : validB n lo hi = true ↔ Valid n lo hi := by
  unfold validB Valid
  rw [List.all_eq_true]
  constructor
  · intro h i hi
    have := h i (List.mem_range.2 hi)
    simp at this
    exact ⟨this.1.1, this.1.2, fun h0 => by rcases this.2 with h | h; · omega
                                            · exact h⟩
  · intro h i hi
    have := h i (List.mem_range.1 hi)
    simp
    refine ⟨⟨this.1, this.2.1⟩, ?_⟩
    rcases Nat.eq_zero_or_pos i with h0 | h0
    · exact .inl h0
    · exact .inr (this.2.2 h0)
theorem validB_false {n : Nat} {lo hi : Nat → Int} (k : Nat) (hk : k < n) (h : ¬ (1 ≤ lo k ∧ lo k ≤ hi k ∧ (0 < k → hi (k - 1) < lo k))) : validB n lo hi = false := by
  cases hh : validB n lo hi
  · rfl
  · exact absurd ((validB_iff n lo hi).1 hh k hk) h

set_option maxHeartbeats 1000000 in
theorem valid_any (a b : Option Addr) (n c d : Nat) (lo hi : Nat → Int) (w : World) (hn : n ≤ 1048576) (hf : Rd w a n lo) (he : Rd w b n hi) :
    Calls Try.prog 7 #[.slice a n c, .slice b n d] w fun r w' => r = .returned (.bool (validB n lo hi)) ∧ ∃ m, w' = w.drewN m := by
  have HF := hide hf
  have HE := hide he
  clear hf he
  go_enter Try.func7, Try.ntmps7
  go_wp2
  go_loopw [5] (fun i wr => (∃ k : Nat, k ≤ n ∧ i = .int .i64 k ∧ Hid (∀ j, j < k → 1 ≤ lo j ∧ lo j ≤ hi j ∧ (0 < j → hi (j - 1) < lo j))) ∧ ∃ m, wr = w.drewN m) (fun i _ => n - (intOf i).toNat)
  case atStart => exact ⟨⟨0, Nat.zero_le _, rfl, fun j h => absurd h (Nat.not_lt_zero _)⟩, 0, rfl⟩
  case round =>
    obtain ⟨⟨k, hk, rfl, hz⟩, m, rfl⟩ := hrel
    by_cases hlt : k < n
    · obtain ⟨x, rfl, hcx⟩ := HF.out k hlt
      obtain ⟨y, rfl, hcy⟩ := HE.out k hlt
      by_cases h0 : 1 ≤ lo k
      · have g0 : decide (lo k < 1) = false := by simp; omega
        by_cases h1 : lo k ≤ hi k
        · have g1 : decide (hi k < lo k) = false := by simp; omega
          by_cases hk0 : 0 < k
          · obtain ⟨y', ey, hcy'⟩ := HE.out (k - 1) (by omega)
            cases ey
            have hp1 : (0 : Int) ≤ (k : Int) - 1 := by omega
            have hp2 : (k : Int) - 1 < (n : Int) := by omega
            have hp3 : ((k : Int) - 1).toNat = k - 1 := by omega
            have hwr : IntKind.i64.wrap ((k : Int) - 1) = (k : Int) - 1 := by rw [IntKind.wrap_i64]; omega
            have hd0 : decide ((0 : Int) < (k : Int)) = true := by simp; omega
            by_cases h2 : hi (k - 1) < lo k
            · have g2 : decide (lo k ≤ hi (k - 1)) = false := by simp; omega
              have HZ : Hid (∀ j, j < k + 1 → 1 ≤ lo j ∧ lo j ≤ hi j ∧ (0 < j → hi (j - 1) < lo j)) := fun j hj => by
                by_cases ej : j < k
                · exact hz.out j ej
                · obtain rfl : j = k := by omega
                  exact ⟨h0, h1, fun _ => h2⟩
              go_wp2
              go_quiet (fail)
              go_wp2
              go_quiet (fail)
              go_wp2
              go_roundw
              case rel => exact ⟨⟨k + 1, by omega, by go_num, HZ⟩, _, rfl⟩
              case measure => simp [intOf]; omega
            · have hb := validB_false (n := n) (lo := lo) (hi := hi) k hlt (fun h => h2 (h.2.2 hk0))
              have g2 : decide (lo k ≤ hi (k - 1)) = true := by simp; omega
              go_wp2
              go_quiet (fail)
              go_wp2
              go_quiet (fail)
              go_wp2
              go_ret
              exact ⟨ret_bool hb.symm, dn2 _ _ _ _⟩
          · obtain rfl : k = 0 := by omega
            have hcx0 : w.cell? x = some (.int .i64 (lo 0)) := by simpa [Addr.add] using hcx
            have hcy0 : w.cell? y = some (.int .i64 (hi 0)) := by simpa [Addr.add] using hcy
            have hd0 : decide ((0 : Int) < ((0 : Nat) : Int)) = false := by simp
            have HZ : Hid (∀ j, j < 0 + 1 → 1 ≤ lo j ∧ lo j ≤ hi j ∧ (0 < j → hi (j - 1) < lo j)) := fun j hj => by
              obtain rfl : j = 0 := by omega
              exact ⟨h0, h1, fun h => absurd h (Nat.lt_irrefl _)⟩
            go_wp2
            go_quiet (fail)
            go_wp2
            go_quiet (fail)
            go_wp2
            go_roundw
            case rel => exact ⟨⟨0 + 1, by omega, by go_num, HZ⟩, _, rfl⟩
            case measure => simp [intOf]; omega
        · have hb := validB_false (n := n) (lo := lo) (hi := hi) k hlt (fun h => h1 h.2.1)
          have g1 : decide (hi k < lo k) = true := by simp; omega
          go_wp2
          go_quiet (fail)
          go_wp2
          go_ret
          exact ⟨ret_bool hb.symm, dn1 _ _ _⟩
      · have hb := validB_false (n := n) (lo := lo) (hi := hi) k hlt (fun h => h0 h.1)
        have g0 : decide (lo k < 1) = true := by simp; omega
        go_wp2
        go_quiet (fail)
        go_wp2
        go_ret
        exact ⟨ret_bool hb.symm, dn1 _ _ _⟩
    · have hb : validB n lo hi = true := (validB_iff n lo hi).2 (fun j hj => hz.out j (by omega))
      go_wp2
      go_ret
      exact ⟨ret_bool hb.symm, _, rfl⟩

set_option maxHeartbeats 1000000 in
theorem upto_any (a b : Option Addr) (n c d : Nat) (lo hi : Nat → Int) (m : Int) (w : World) (hn : n ≤ 1048576) (hm : m ≤ 9223372036854775807) (hf : Rd w a n lo) (he : Rd w b n hi) (v : Valid n lo hi) :
    Calls Try.prog 10 #[.slice a n c, .slice b n d, .int .i64 m] w fun r w' => r = .returned (.int .i64 (C n lo hi m)) ∧ w' = w := by
  have HF := hide hf
  have HE := hide he
  have V := hide v
  clear hf he v
  by_cases hm1 : m < 1
  · have hC := C_low n lo hi m hm1
    go_enter Try.func10, Try.ntmps10
    go_wp2
    go_ret
    exact ⟨ret_int hC.symm, rfl⟩
  have hC : Hid (C n lo hi m = m - P lo hi m n) := by refine hide ?_; unfold C; rw [if_neg hm1]
  have hm1d : decide (m < 1) = false := by simpa using hm1
  have hm1' : 1 ≤ m := by omega
  go_enter Try.func10, Try.ntmps10
  go_wp2
  go_loop [7, 8] (fun s i => ∃ k : Nat, k ≤ n ∧ i = .int .i64 k ∧ s = .int .i64 (P lo hi m k)) (fun _ i => n - (intOf i).toNat)
  case atStart => exact ⟨0, Nat.zero_le _, rfl, rfl⟩
  case round =>
    obtain ⟨k, hk, rfl, rfl⟩ := hrel
    have p0 := P_nonneg V.out m k hk
    have p1 := P_le V.out m hm1' k hk
    by_cases hlt : k < n
    · obtain ⟨x, rfl, hcx⟩ := HF.out k hlt
      obtain ⟨y, rfl, hcy⟩ := HE.out k hlt
      have v1 := (V.out k hlt).1
      have v2 := (V.out k hlt).2.1
      have p3 := P_le V.out m hm1' (k + 1) hlt
      have hstep : Hid (P lo hi m (k + 1) = P lo hi m k + cov lo hi m k) := rfl
      by_cases h1 : m < lo k
      · have hc : Hid (cov lo hi m k = 0) := hide (if_pos h1)
        go_wp2
        go_round
        case rel => exact ⟨k + 1, by omega, by go_num, by rw [hstep.out, hc.out, Int.add_zero]⟩
        case measure => simp [intOf]; omega
      · by_cases h2 : m < hi k
        · have hc : Hid (cov lo hi m k = m - lo k + 1) := by refine hide ?_; unfold cov; rw [if_neg h1, if_pos h2]
          have p4 : P lo hi m k + (m - lo k + 1) ≤ m := by rw [hstep.out, hc.out] at p3; exact p3
          clear p3
          go_wp2
          go_round
          case rel => exact ⟨k + 1, by omega, by go_num, by rw [hstep.out, hc.out]⟩
          case measure => simp [intOf]; omega
        · have hc : Hid (cov lo hi m k = hi k - lo k + 1) := by refine hide ?_; unfold cov; rw [if_neg h1, if_neg h2]
          have p4 : P lo hi m k + (hi k - lo k + 1) ≤ m := by rw [hstep.out, hc.out] at p3; exact p3
          clear p3
          go_wp2
          go_round
          case rel => exact ⟨k + 1, by omega, by go_num, by rw [hstep.out, hc.out]⟩
          case measure => simp [intOf]; omega
    · obtain rfl : k = n := by omega
      go_wp2
      go_ret
      exact ⟨ret_int hC.out.symm, rfl⟩
end Go.Proofs.Qxb6604234a.Base
