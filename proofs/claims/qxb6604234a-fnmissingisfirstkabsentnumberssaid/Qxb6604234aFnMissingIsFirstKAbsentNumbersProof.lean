import Derived.Test.Qxb6604234aMissing
import Derived.Test.Qxb6604234aRows
import Derived.WalkKit
import Derived.ProofKit
import Derived.OpenShut
import Derived.ShutString
import Derived.ChangeOld
import Derived.Below
namespace Go.Proofs.Qxb6604234a.fnMissingIsFirstKAbsentNumbers
open Go.ChangeShapes Go.WideShapes Go.ChangeAt Go.RowKit
open Go.ChangeMaps (open_string shut_string)
set_option linter.unusedVariables false

theorem own : ownKnob Try.prog.godebug = none := by kernel_rfl
theorem laidOut : laidOutB Try.prog = true := by kernel_rfl

/-- WHAT THE WALK IS TOLD OF A SLICE OF INTEGERS THAT CAME IN: it is nil; or it leads to a row of 'cap' cells, the numbers 'zs' (the first 'len' are its elements, the rest its spare room), each fitting its kind. -/
def IsRow (k : IntKind) (w : World) (a : Option Addr) (len cap : Nat) (zs : List Int) : Prop :=
  (a = none ∧ len = 0 ∧ cap = 0 ∧ zs = []) ∨
  ∃ x, a = some x ∧ len ≤ cap ∧ cap ≤ maxLen ∧ zs.length = cap ∧ (∀ i, i < zs.length → w.cell? (x.add i) = some (.int k (zs.getD i 0))) ∧ ∀ n ∈ zs, (Lit.int k n).wf = true

open Go.Proofs.Qxb6604234a.Base
open Go.Proofs.Qxb6604234a.Plain

theorem rd_row {w : World} {a : Option Addr} {len cap : Nat} {zs : List Int} (h : IsRow .i64 w a len cap zs) : Rd w a len (fun i => zs.getD i 0) ∧ ∀ i, i < len → zs.getD i 0 ≤ 9223372036854775807 := by
  rcases h with ⟨rfl, rfl, rfl, rfl⟩ | ⟨x, rfl, h1, h2, h3, h4, h5⟩
  · exact ⟨Rd.zero, fun i h => absurd h (Nat.not_lt_zero _)⟩
  · refine ⟨fun i hi => ⟨x, rfl, h4 i (by omega)⟩, fun i hi => (wf_i64 (h5 _ ?_)).2⟩
    rw [List.getD_eq_getElem?_getD, List.getElem?_eq_getElem (show i < zs.length by omega)]
    exact List.getElem_mem _

/-- What the answer is, place by place. -/
structure At (n : Nat) (lo hi : Nat → Int) (highest : Int) (N : Nat) (f : Nat → Int) : Prop where
  mem : ∀ i, i < N → 1 ≤ f i ∧ f i ≤ highest ∧ ∀ j, j < n → ¬ (lo j ≤ f i ∧ f i ≤ hi j)
  srt : ∀ i j, i < j → j < N → f i < f j
  lst : 0 < N → C n lo hi (f (N - 1)) = (N : Int)
theorem getD_at (L : List Int) (i : Nat) (h : i < L.length) : L.getD i 0 = L[i] := by
  rw [List.getD_eq_getElem?_getD, List.getElem?_eq_getElem h]; rfl
theorem at_of {n : Nat} {lo hi : Nat → Int} {highest k : Int} {L : List Int} (h : Ans n lo hi highest k L) : At n lo hi highest L.length (fun i => L.getD i 0) := by
  refine ⟨fun i hi => ?_, fun i j hij hj => ?_, fun h0 => ?_⟩
  · rw [getD_at L i hi]
    exact h.mem _ (List.getElem_mem hi)
  · rw [getD_at L i (by omega), getD_at L j hj]
    exact List.pairwise_iff_getElem.1 h.srt i j (by omega) hj hij
  · rcases List.eq_nil_or_concat L with rfl | ⟨V, x, rfl⟩
    · simp at h0
    · rw [getD_at _ _ (by simp)]
      have := h.lst V x (by simp)
      simp
      omega
theorem C_bd {n : Nat} {lo hi : Nat → Int} (v : Valid n lo hi) (m : Int) (hm : m ≤ 9223372036854775807) : 0 ≤ C n lo hi m ∧ C n lo hi m ≤ 9223372036854775807 := by
  unfold C
  split
  · omega
  · have := P_le v m (by omega) n (Nat.le_refl _)
    have := P_nonneg v m n (Nat.le_refl _)
    omega

set_option maxRecDepth 100000 in
set_option maxHeartbeats 8000000 in
theorem walk_eq (a0 : Option Addr) (n cap0 : Nat) (a1 : Option Addr) (cap1 : Nat) (highest k : Int) (lo hi : Nat → Int) (w : World) (R0 : Rd w a0 n lo) (R1 : Rd w a1 n hi) (hhi : ∀ i, i < n → hi i ≤ 9223372036854775807)
    (b0 : n ≤ 65536) (bk : k ≤ 65536) (hh : highest ≤ 9223372036854775807) :
    Calls Try.prog 3 #[.slice a0 n cap0, .slice a1 n cap1, .int .i64 highest, .int .i64 k] w fun e w' => e = .returned (.bool true) ∧ Below w.heap.size w w' := by
  have hn0 : ((n : Int) != (n : Int)) = false := by simp
  have hR0 := hide R0
  have hR1 := hide R1
  have HH := hide hhi
  have q := q22
  clear R0 R1 hhi
  cases s1 : validB n lo hi
  · skip
    go_enter Try.func3, Try.ntmps3
    go_wp2_with fail
    refine (zb_any _ _ _ _ _ _ _ _ _).mono ?_
    rintro e w' ⟨bb, rfl, rfl⟩
    cases bb
    · go_wp2
      go_ret
      exact ⟨rfl, Below.refl _ _⟩
    go_wp2_with fail
    refine (valid_any a0 a1 n cap0 cap1 lo hi _ (by omega) hR0.out hR1.out).mono ?_
    rintro e w1 ⟨rfl, m1, rfl⟩
    go_wp2
    go_ret
    exact ⟨rfl, below_drewN (Below.refl _ _) _⟩
  have V := hide ((validB_iff _ _ _).1 s1)
  have hcb := C_bd V.out highest hh
  go_enter Try.func3, Try.ntmps3
  go_wp2_with fail
  refine (zb_any _ _ _ _ _ _ _ _ _).mono ?_
  rintro e w' ⟨bb, rfl, rfl⟩
  cases bb
  · go_wp2
    go_ret
    exact ⟨rfl, Below.refl _ _⟩
  go_wp2_with fail
  refine (valid_any a0 a1 n cap0 cap1 lo hi _ (by omega) hR0.out hR1.out).mono ?_
  rintro e w1 ⟨rfl, m1, rfl⟩
  have HB0 := hide (below_drewN (Below.refl w'.heap.size w') m1)
  go_wp2_with fail
  refine (copy_any a0 n cap0 lo _ (by omega) (by exact hR0.out)).mono ?_
  rintro e w1 ⟨c0, d0, rfl, hb1, hr0⟩
  have HB1 := hide (HB0.out.trans (hb1.mono (Nat.le_refl _)))
  have HR0 := hide hr0
  have HR1 := hide (Rd.below (a := a1) (n := n) (f := hi) (by exact hR1.out) hb1 (Nat.le_refl _))
  clear hb1 hr0
  go_wp2_with fail
  refine (copy_any a1 n cap1 hi _ (by omega) HR1.out).mono ?_
  rintro e w2 ⟨c1, d1, rfl, hb2, hr1⟩
  have HB2 := hide (HB1.out.trans (hb2.mono HB1.out.size))
  have JR0 := hide (HR0.out.below hb2 (Nat.le_refl _))
  have JR1 := hide hr1
  clear hb2 hr1
  go_wp2_with fail
  refine (zzmissing_any c0 c1 n d0 d1 lo hi highest k _ (by omega) hh (by omega) JR0.out JR1.out V.out HH.out).mono ?_
  rintro e w5 ⟨ao, co, L, rfl, hb5, hro, hnil, hans⟩
  have HB5 := hide (HB2.out.trans (hb5.mono HB2.out.size))
  have MR0 := hide (JR0.out.below hb5 (Nat.le_refl _))
  have MR1 := hide (JR1.out.below hb5 (Nat.le_refl _))
  have MR2 := hide hro
  have HNIL := hide hnil
  have HA := hide (at_of hans)
  have hlen := hans.len
  clear hb5 hro hnil hans HR0 HR1 JR0 JR1 HB0 HB1 HB2
  go_wp2_with fail
  refine (upto_any c0 c1 n d0 d1 lo hi highest _ (by omega) hh MR0.out MR1.out V.out).mono ?_
  rintro e w6 ⟨rfl, rfl⟩
  generalize C n lo hi highest = cH at hlen hcb ⊢
  generalize (fun i => L.getD i 0) = f at MR2 HA
  generalize L.length = N at hlen HNIL MR2 HA ⊢
  have hN : N ≤ 1048576 := by omega
  rcases Nat.eq_zero_or_pos N with hN0 | hN0
  · subst hN0
    obtain rfl := HNIL.out rfl
    by_cases h1 : k < cH
    · have g1 : decide (k < cH) = true := by simpa using h1
      by_cases h2 : k < 0
      · have g2 : decide (k < 0) = true := by simpa using h2
        clear hlen
        go_wp2
        go_ret
        exact ⟨rfl, HB5.out⟩
      · obtain rfl : k = 0 := by omega
        clear hlen
        go_wp2
        go_ret
        exact ⟨rfl, HB5.out⟩
    · have g1 : decide (k < cH) = false := by simpa using h1
      obtain rfl : cH = 0 := by omega
      clear hlen
      go_wp2
      go_ret
      exact ⟨rfl, HB5.out⟩
  · have gN : ((N : Int) == 0) = false := by simp; omega
    have gNN : ((N : Int) != (N : Int)) = false := by simp
    have gN0 : decide ((N : Int) < 0) = false := by simp
    have hlst := hide (HA.out.lst hN0)
    by_cases h1 : k < cH
    · obtain rfl : k = (N : Int) := by omega
      have g1 : decide ((N : Int) < cH) = true := by simpa using h1
      clear hlen
      go_wp2
      go_loop [11, 12] (fun s11 s12 => ∃ i j : Nat, i ≤ N ∧ j ≤ n ∧ s12 = .int .i64 i ∧ s11 = .int .i64 j ∧ Hid (∀ t, t < j → ∀ s, i ≤ s → s < N → hi t < f s)) (fun _ s12 => N - (intOf s12).toNat)
      case atStart => exact ⟨0, 0, Nat.zero_le _, Nat.zero_le _, rfl, rfl, fun t h => absurd h (Nat.not_lt_zero _)⟩
      case round =>
        obtain ⟨i, j, hi1, hj1, rfl, rfl, hz⟩ := hrel
        by_cases hlt : i < N
        · obtain ⟨x, rfl, hcx⟩ := MR2.out i hlt
          have hx1 := (HA.out.mem i hlt).1
          have hx2 := (HA.out.mem i hlt).2.1
          have hx1b : decide (f i < 1) = false := by simp; omega
          have hx2b : decide (highest < f i) = false := by simp; omega
          by_cases hi0 : 0 < i
          · obtain ⟨x', ex, hcx'⟩ := MR2.out (i - 1) (by omega)
            cases ex
            have hsr := HA.out.srt (i - 1) i (by omega) hlt
            have hp1 : (0 : Int) ≤ (i : Int) - 1 := by omega
            have hp2 : (i : Int) - 1 < (N : Int) := by omega
            have hp3 : ((i : Int) - 1).toNat = i - 1 := by omega
            have hd0 : decide ((0 : Int) < (i : Int)) = true := by simp; omega
            have hd1 : decide (f i ≤ f (i - 1)) = false := by simp; omega
            go_wp2
            go_loop [11] (fun s11 => ∃ j' : Nat, j ≤ j' ∧ j' ≤ n ∧ s11 = .int .i64 j' ∧ Hid (∀ t, t < j' → hi t < f i)) (fun s11 => n - (intOf s11).toNat)
            case atStart => exact ⟨j, Nat.le_refl _, hj1, rfl, fun t h => hz.out t h i (Nat.le_refl _) hlt⟩
            case round =>
              obtain ⟨j', hj2, hj3, rfl, hz2⟩ := hrel
              by_cases hjn : j' < n
              · obtain ⟨y, rfl, hcy⟩ := MR1.out j' hjn
                by_cases hc : hi j' < f i
                · have hz3 : Hid (∀ t, t < j' + 1 → hi t < f i) := fun t h => by
                    by_cases e : t < j'
                    · exact hz2.out t e
                    · obtain rfl : t = j' := by omega
                      exact hc
                  go_wp2
                  go_round
                  case rel => exact ⟨j' + 1, by omega, by omega, by go_num, hz3⟩
                  case measure => simp [intOf]; omega
                · obtain ⟨z, rfl, hcz⟩ := MR0.out j' hjn
                  have hcd : decide (hi j' < f i) = false := by simp; omega
                  have hlo : f i < lo j' := by
                    have := (HA.out.mem i hlt).2.2 j' hjn
                    omega
                  have hlod : decide (lo j' ≤ f i) = false := by simp; omega
                  have hz4 : Hid (∀ t, t < j' → ∀ s, i + 1 ≤ s → s < N → hi t < f s) := fun t h s h1 h2 => by
                    have := hz2.out t h
                    have := HA.out.srt i s (by omega) h2
                    omega
                  go_wp2
                  go_round
                  case rel => exact ⟨i + 1, j', by omega, by omega, by go_num, rfl, hz4⟩
                  case measure => simp [intOf]; omega
              · obtain rfl : j' = n := by omega
                have hz4 : Hid (∀ t, t < j' → ∀ s, i + 1 ≤ s → s < N → hi t < f s) := fun t h s h1 h2 => by
                  have := hz2.out t h
                  have := HA.out.srt i s (by omega) h2
                  omega
                go_wp2
                go_round
                case rel => exact ⟨i + 1, j', by omega, by omega, by go_num, rfl, hz4⟩
                case measure => simp [intOf]; omega

          · obtain rfl : i = 0 := by omega
            have hcx0 : w6.cell? x = some (.int .i64 (f 0)) := by simpa [Addr.add] using hcx
            go_wp2
            go_loop [11] (fun s11 => ∃ j' : Nat, j ≤ j' ∧ j' ≤ n ∧ s11 = .int .i64 j' ∧ Hid (∀ t, t < j' → hi t < f 0)) (fun s11 => n - (intOf s11).toNat)
            case atStart => exact ⟨j, Nat.le_refl _, hj1, rfl, fun t h => hz.out t h 0 (Nat.le_refl _) hlt⟩
            case round =>
              obtain ⟨j', hj2, hj3, rfl, hz2⟩ := hrel
              by_cases hjn : j' < n
              · obtain ⟨y, rfl, hcy⟩ := MR1.out j' hjn
                by_cases hc : hi j' < f 0
                · have hz3 : Hid (∀ t, t < j' + 1 → hi t < f 0) := fun t h => by
                    by_cases e : t < j'
                    · exact hz2.out t e
                    · obtain rfl : t = j' := by omega
                      exact hc
                  go_wp2
                  go_round
                  case rel => exact ⟨j' + 1, by omega, by omega, by go_num, hz3⟩
                  case measure => simp [intOf]; omega
                · obtain ⟨z, rfl, hcz⟩ := MR0.out j' hjn
                  have hcd : decide (hi j' < f 0) = false := by simp; omega
                  have hlo : f 0 < lo j' := by
                    have := (HA.out.mem 0 hlt).2.2 j' hjn
                    omega
                  have hlod : decide (lo j' ≤ f 0) = false := by simp; omega
                  have hz4 : Hid (∀ t, t < j' → ∀ s, 0 + 1 ≤ s → s < N → hi t < f s) := fun t h s h1 h2 => by
                    have := hz2.out t h
                    have := HA.out.srt 0 s (by omega) h2
                    omega
                  go_wp2
                  go_round
                  case rel => exact ⟨0 + 1, j', by omega, by omega, by go_num, rfl, hz4⟩
                  case measure => simp [intOf]; omega
              · obtain rfl : j' = n := by omega
                have hz4 : Hid (∀ t, t < j' → ∀ s, 0 + 1 ≤ s → s < N → hi t < f s) := fun t h s h1 h2 => by
                  have := hz2.out t h
                  have := HA.out.srt 0 s (by omega) h2
                  omega
                go_wp2
                go_round
                case rel => exact ⟨0 + 1, j', by omega, by omega, by go_num, rfl, hz4⟩
                case measure => simp [intOf]; omega

        · obtain rfl : i = N := by omega
          obtain ⟨x, rfl, hcx⟩ := MR2.out (i - 1) (by omega)
          have hp1 : (0 : Int) ≤ (i : Int) - 1 := by omega
          have hp2 : (i : Int) - 1 < (i : Int) := by omega
          have hp3 : ((i : Int) - 1).toNat = i - 1 := by omega
          have hx2 := (HA.out.mem (i - 1) (by omega)).2.1
          have hfin := HA.out.lst hN0
          have hfin2 : ((i : Int) == (i : Int)) = true := by simp
          go_wp2_with fail
          refine (upto_any c0 c1 n d0 d1 lo hi (f (i - 1)) _ (by omega) (by omega) MR0.out MR1.out V.out).mono ?_
          rintro e w6 ⟨rfl, rfl⟩
          go_wp2
          go_ret
          exact ⟨rfl, HB5.out⟩

    · have g1 : decide (k < cH) = false := by simpa using h1
      obtain rfl : cH = (N : Int) := by omega
      clear hlen
      go_wp2
      go_loop [11, 12] (fun s11 s12 => ∃ i j : Nat, i ≤ N ∧ j ≤ n ∧ s12 = .int .i64 i ∧ s11 = .int .i64 j ∧ Hid (∀ t, t < j → ∀ s, i ≤ s → s < N → hi t < f s)) (fun _ s12 => N - (intOf s12).toNat)
      case atStart => exact ⟨0, 0, Nat.zero_le _, Nat.zero_le _, rfl, rfl, fun t h => absurd h (Nat.not_lt_zero _)⟩
      case round =>
        obtain ⟨i, j, hi1, hj1, rfl, rfl, hz⟩ := hrel
        by_cases hlt : i < N
        · obtain ⟨x, rfl, hcx⟩ := MR2.out i hlt
          have hx1 := (HA.out.mem i hlt).1
          have hx2 := (HA.out.mem i hlt).2.1
          have hx1b : decide (f i < 1) = false := by simp; omega
          have hx2b : decide (highest < f i) = false := by simp; omega
          by_cases hi0 : 0 < i
          · obtain ⟨x', ex, hcx'⟩ := MR2.out (i - 1) (by omega)
            cases ex
            have hsr := HA.out.srt (i - 1) i (by omega) hlt
            have hp1 : (0 : Int) ≤ (i : Int) - 1 := by omega
            have hp2 : (i : Int) - 1 < (N : Int) := by omega
            have hp3 : ((i : Int) - 1).toNat = i - 1 := by omega
            have hd0 : decide ((0 : Int) < (i : Int)) = true := by simp; omega
            have hd1 : decide (f i ≤ f (i - 1)) = false := by simp; omega
            go_wp2
            go_loop [11] (fun s11 => ∃ j' : Nat, j ≤ j' ∧ j' ≤ n ∧ s11 = .int .i64 j' ∧ Hid (∀ t, t < j' → hi t < f i)) (fun s11 => n - (intOf s11).toNat)
            case atStart => exact ⟨j, Nat.le_refl _, hj1, rfl, fun t h => hz.out t h i (Nat.le_refl _) hlt⟩
            case round =>
              obtain ⟨j', hj2, hj3, rfl, hz2⟩ := hrel
              by_cases hjn : j' < n
              · obtain ⟨y, rfl, hcy⟩ := MR1.out j' hjn
                by_cases hc : hi j' < f i
                · have hz3 : Hid (∀ t, t < j' + 1 → hi t < f i) := fun t h => by
                    by_cases e : t < j'
                    · exact hz2.out t e
                    · obtain rfl : t = j' := by omega
                      exact hc
                  go_wp2
                  go_round
                  case rel => exact ⟨j' + 1, by omega, by omega, by go_num, hz3⟩
                  case measure => simp [intOf]; omega
                · obtain ⟨z, rfl, hcz⟩ := MR0.out j' hjn
                  have hcd : decide (hi j' < f i) = false := by simp; omega
                  have hlo : f i < lo j' := by
                    have := (HA.out.mem i hlt).2.2 j' hjn
                    omega
                  have hlod : decide (lo j' ≤ f i) = false := by simp; omega
                  have hz4 : Hid (∀ t, t < j' → ∀ s, i + 1 ≤ s → s < N → hi t < f s) := fun t h s h1 h2 => by
                    have := hz2.out t h
                    have := HA.out.srt i s (by omega) h2
                    omega
                  go_wp2
                  go_round
                  case rel => exact ⟨i + 1, j', by omega, by omega, by go_num, rfl, hz4⟩
                  case measure => simp [intOf]; omega
              · obtain rfl : j' = n := by omega
                have hz4 : Hid (∀ t, t < j' → ∀ s, i + 1 ≤ s → s < N → hi t < f s) := fun t h s h1 h2 => by
                  have := hz2.out t h
                  have := HA.out.srt i s (by omega) h2
                  omega
                go_wp2
                go_round
                case rel => exact ⟨i + 1, j', by omega, by omega, by go_num, rfl, hz4⟩
                case measure => simp [intOf]; omega

          · obtain rfl : i = 0 := by omega
            have hcx0 : w6.cell? x = some (.int .i64 (f 0)) := by simpa [Addr.add] using hcx
            go_wp2
            go_loop [11] (fun s11 => ∃ j' : Nat, j ≤ j' ∧ j' ≤ n ∧ s11 = .int .i64 j' ∧ Hid (∀ t, t < j' → hi t < f 0)) (fun s11 => n - (intOf s11).toNat)
            case atStart => exact ⟨j, Nat.le_refl _, hj1, rfl, fun t h => hz.out t h 0 (Nat.le_refl _) hlt⟩
            case round =>
              obtain ⟨j', hj2, hj3, rfl, hz2⟩ := hrel
              by_cases hjn : j' < n
              · obtain ⟨y, rfl, hcy⟩ := MR1.out j' hjn
                by_cases hc : hi j' < f 0
                · have hz3 : Hid (∀ t, t < j' + 1 → hi t < f 0) := fun t h => by
                    by_cases e : t < j'
                    · exact hz2.out t e
                    · obtain rfl : t = j' := by omega
                      exact hc
                  go_wp2
                  go_round
                  case rel => exact ⟨j' + 1, by omega, by omega, by go_num, hz3⟩
                  case measure => simp [intOf]; omega
                · obtain ⟨z, rfl, hcz⟩ := MR0.out j' hjn
                  have hcd : decide (hi j' < f 0) = false := by simp; omega
                  have hlo : f 0 < lo j' := by
                    have := (HA.out.mem 0 hlt).2.2 j' hjn
                    omega
                  have hlod : decide (lo j' ≤ f 0) = false := by simp; omega
                  have hz4 : Hid (∀ t, t < j' → ∀ s, 0 + 1 ≤ s → s < N → hi t < f s) := fun t h s h1 h2 => by
                    have := hz2.out t h
                    have := HA.out.srt 0 s (by omega) h2
                    omega
                  go_wp2
                  go_round
                  case rel => exact ⟨0 + 1, j', by omega, by omega, by go_num, rfl, hz4⟩
                  case measure => simp [intOf]; omega
              · obtain rfl : j' = n := by omega
                have hz4 : Hid (∀ t, t < j' → ∀ s, 0 + 1 ≤ s → s < N → hi t < f s) := fun t h s h1 h2 => by
                  have := hz2.out t h
                  have := HA.out.srt 0 s (by omega) h2
                  omega
                go_wp2
                go_round
                case rel => exact ⟨0 + 1, j', by omega, by omega, by go_num, rfl, hz4⟩
                case measure => simp [intOf]; omega

        · obtain rfl : i = N := by omega
          obtain ⟨x, rfl, hcx⟩ := MR2.out (i - 1) (by omega)
          have hp1 : (0 : Int) ≤ (i : Int) - 1 := by omega
          have hp2 : (i : Int) - 1 < (i : Int) := by omega
          have hp3 : ((i : Int) - 1).toNat = i - 1 := by omega
          have hx2 := (HA.out.mem (i - 1) (by omega)).2.1
          have hfin := HA.out.lst hN0
          have hfin2 : ((i : Int) == (i : Int)) = true := by simp
          go_wp2_with fail
          refine (upto_any c0 c1 n d0 d1 lo hi (f (i - 1)) _ (by omega) (by omega) MR0.out MR1.out V.out).mono ?_
          rintro e w6 ⟨rfl, rfl⟩
          go_wp2
          go_ret
          exact ⟨rfl, HB5.out⟩

/-! ### STEP 1: THE WALK: the Go text returns true, AND WRITES NOTHING THAT WAS THERE: 'Below w.heap.size w w'' (Derived/Below.lean: '.refl', '.alloc', '.drew', '.setCell' at a new block, '.trans'). Open each 'IsRow' by 'rcases' AHEAD of 'go_enter'; part every test ahead of the walk. -/
set_option maxHeartbeats 2000000 in
theorem walk (a0 : Option Addr) (len0 cap0 : Nat) (z0 : List Int) (a1 : Option Addr) (len1 cap1 : Nat) (z1 : List Int) (a2 : Int) (a3 : Int) (w : World) (w0 : IsRow .i64 w a0 len0 cap0 z0) (w1 : IsRow .i64 w a1 len1 cap1 z1) (w2 : (Lit.int .i64 a2).wf = true) (w3 : (Lit.int .i64 a3).wf = true) :
    Calls Try.prog 3 #[.slice a0 len0 cap0, .slice a1 len1 cap1, .int .i64 a2, .int .i64 a3] w fun e w' => e = .returned (.bool true) ∧ Below w.heap.size w w' := by
  obtain ⟨R0, _⟩ := rd_row w0
  obtain ⟨R1, B1⟩ := rd_row w1
  have hh := (wf_i64 w2).2
  clear w0 w1 w2 w3
  generalize (fun i => z0.getD i 0) = f0 at R0
  obtain ⟨f1, hf1⟩ : ∃ f1 : Nat → Int, f1 = (fun i => z1.getD i 0) := ⟨_, rfl⟩
  rw [← hf1] at R1
  have B1' : ∀ i, i < len1 → f1 i ≤ 9223372036854775807 := fun i hi => by rw [hf1]; exact B1 i hi
  clear B1 hf1
  by_cases b0 : len0 ≤ 65536
  · by_cases b1 : len1 ≤ 65536
    · by_cases bk : a3 ≤ 65536
      · by_cases e0 : len1 = len0
        · subst e0
          exact walk_eq _ _ _ _ _ a2 a3 f0 f1 w R0 R1 B1' b0 bk hh
        · have h0 : ((len0 : Int) != (len1 : Int)) = true := by simp; omega
          clear R0 R1 B1'
          go_enter Try.func3, Try.ntmps3
          go_wp2_with fail
          refine (zb_any _ _ _ _ _ _ _ _ _).mono ?_
          rintro e w' ⟨bb, rfl, rfl⟩
          cases bb
          all_goals
            go_wp2
            go_ret
            exact ⟨rfl, Below.refl _ _⟩

      · clear R0 R1 B1'
        go_enter Try.func3, Try.ntmps3
        go_wp2_with fail
        refine (zb_any _ _ _ _ _ _ _ _ _).mono ?_
        rintro e w' ⟨bb, rfl, rfl⟩
        cases bb
        all_goals
          go_wp2
          go_ret
          exact ⟨rfl, Below.refl _ _⟩

    · clear R0 R1 B1'
      go_enter Try.func3, Try.ntmps3
      go_wp2_with fail
      refine (zb_any _ _ _ _ _ _ _ _ _).mono ?_
      rintro e w' ⟨bb, rfl, rfl⟩
      cases bb
      all_goals
        go_wp2
        go_ret
        exact ⟨rfl, Below.refl _ _⟩

  · clear R0 R1 B1'
    go_enter Try.func3, Try.ntmps3
    go_wp2_with fail
    refine (zb_any _ _ _ _ _ _ _ _ _).mono ?_
    rintro e w' ⟨bb, rfl, rfl⟩
    cases bb
    all_goals
      go_wp2
      go_ret
      exact ⟨rfl, Below.refl _ _⟩

/-! ### THE ROW's STEP: WRITTEN OUT: LEAVE IT -/
set_option maxRecDepth 100000 in
theorem lifted (os : Os) (started : os.Started) (H : Type) (enc : TypeId × Value → H) :
    ReturnsInHanded {} Try.checked os 3 .any (Rows.fnMissingIsFirstKAbsentNumbersSpec.pre6 enc Try.prog Try.f3 Rows.fnMissingIsFirstKAbsentNumbersRow.domain false) (Rows.fnMissingIsFirstKAbsentNumbersSpec.post enc Try.prog Try.f3 false true false false) := by
  refine returnsInHanded_of_change (C := Try.checked) own started (by kernel_rfl) Try.func3
    (ChangeSpec.witness6 (enc := enc) (C := Try.checked) false ⟨#[], #[.slice none 0 0, .slice none 0 0, .int .i64 0, .int .i64 0], []⟩ 8 (by kernel_rfl) (by kernel_rfl) (by kernel_rfl) (by kernel_rfl)) ?_
  intro W base args ds gs before hval0 hW hcnd _
  have hval : ∀ (j : Nat) t v, Try.f3.params[j]? = some t → args[j]? = some v → Value.okWide Try.prog W .any base t v := hval0
  have hW' := hW
  obtain ⟨p, q, hA0, hV, rfl, hfz, hnd⟩ := hW
  have hA : DataW.TrodAll enc Try.prog W 0 (fun _ => true) true Try.f3.params.toList args.toList ds p := hA0
  rw [Try.params3] at hA hval
  obtain ⟨v0, vs0, d0, ds0, p0, q0, hargs, rfl, rfl, h0, r0⟩ := trodAll_cons hA
  obtain ⟨v1, vs1, d1, ds1, p1, q1, rfl, rfl, rfl, h1, r1⟩ := trodAll_cons r0
  obtain ⟨v2, vs2, d2, ds2, p2, q2, rfl, rfl, rfl, h2, r2⟩ := trodAll_cons r1
  obtain ⟨v3, vs3, d3, ds3, p3, q3, rfl, rfl, rfl, h3, r3⟩ := trodAll_cons r2
  obtain ⟨rfl, rfl, rfl⟩ := trodAll_nil r3
  obtain rfl : args = #[v0, v1, v2, v3] := by cases args; simp_all
  obtain ⟨rfl, rfl⟩ := trodVars_none hV
  obtain ⟨a0, len0, cap0, rfl⟩ := okWide_slice Try.underlying22 (hval 0 22 v0 rfl rfl)
  have k0 := h0
  have lt0 : ∀ x ∈ p0, x.block < W.heap.size := by obtain ⟨m, hm⟩ := k0; exact DataW.trod_lt m _ _ _ hm
  obtain ⟨z0, w0⟩ : ∃ zs, IsRow .i64 W a0 len0 cap0 zs := by
    obtain ⟨fuel, hf⟩ := h0
    rcases open_ints Try.underlying22 Try.underlying2 (by kernel_rfl) hf with ⟨hcs, _⟩ | ⟨x, l, c, zs, hcs, _, hl, hm, hz, _, hcell, hwz⟩
    · simp [Value.cells] at hcs
      obtain ⟨rfl, rfl, rfl⟩ := hcs
      exact ⟨[], .inl ⟨rfl, rfl, rfl, rfl⟩⟩
    · simp [Value.cells] at hcs
      obtain ⟨rfl, rfl, rfl⟩ := hcs
      exact ⟨zs, .inr ⟨_, rfl, hl, hm, by simpa using hz, hcell, hwz⟩⟩
  obtain ⟨a1, len1, cap1, rfl⟩ := okWide_slice Try.underlying22 (hval 1 22 v1 rfl rfl)
  have k1 := h1
  have lt1 : ∀ x ∈ p1, x.block < W.heap.size := by obtain ⟨m, hm⟩ := k1; exact DataW.trod_lt m _ _ _ hm
  obtain ⟨z1, w1⟩ : ∃ zs, IsRow .i64 W a1 len1 cap1 zs := by
    obtain ⟨fuel, hf⟩ := h1
    rcases open_ints Try.underlying22 Try.underlying2 (by kernel_rfl) hf with ⟨hcs, _⟩ | ⟨x, l, c, zs, hcs, _, hl, hm, hz, _, hcell, hwz⟩
    · simp [Value.cells] at hcs
      obtain ⟨rfl, rfl, rfl⟩ := hcs
      exact ⟨[], .inl ⟨rfl, rfl, rfl, rfl⟩⟩
    · simp [Value.cells] at hcs
      obtain ⟨rfl, rfl, rfl⟩ := hcs
      exact ⟨zs, .inr ⟨_, rfl, hl, hm, by simpa using hz, hcell, hwz⟩⟩
  obtain ⟨a2, rfl, rfl, rfl, w2⟩ := open_int Try.underlying2 (hval 2 2 v2 rfl rfl) h2
  obtain ⟨a3, rfl, rfl, rfl, w3⟩ := open_int Try.underlying3 (hval 3 3 v3 rfl rfl) h3
  clear hA0 hval0
  refine (walk a0 len0 cap0 z0 a1 len1 cap1 z1 a2 a3 W w0 w1 w2 w3).mono fun e W' ⟨he, bel⟩ => ?_
  subst he
  exact ⟨_, rfl, _, _, _, [], _, [], hW', trodAll_mk1 (shut_bool Try.underlying4 _), (trodAll_cons_mk (Below.trod laidOut (by kernel_rfl) (of_decide_eq_true (by kernel_rfl)) k0 bel lt0) (trodAll_cons_mk (Below.trod laidOut (by kernel_rfl) (of_decide_eq_true (by kernel_rfl)) k1 bel lt1) (trodAll_cons_mk (shut_int Try.underlying2 w2) (trodAll_cons_mk (shut_int Try.underlying3 w3) trodAll_mk0)))), rfl, bel.frame _, fun h => by cases h⟩

theorem over : Rows.fnMissingIsFirstKAbsentNumbersRow.holds Try.pinned (OpenSpec.ofChange Rows.fnMissingIsFirstKAbsentNumbersSpec) :=
  OpenClaim.holds_of_wide 3 Try.f3 rfl rfl rfl rfl rfl rfl rfl ⟨rfl, rfl, rfl, rfl, rfl⟩ rfl rfl rfl rfl rfl (by kernel_rfl) Try.func3 (by kernel_rfl)
    (of_decide_eq_true (by kernel_rfl)) (by unfold Func.isWrapper; first | (rw [if_pos (by decide +kernel)]; kernel_rfl) | (rw [if_neg (by decide +kernel)]; exact ⟨rfl, rfl⟩))
    (fun os started H enc _ => lifted os started H enc)

/-- ████ THE STATEMENT ████ -/
theorem proved : Rows.FnMissingIsFirstKAbsentNumbersSaid := over
end Go.Proofs.Qxb6604234a.fnMissingIsFirstKAbsentNumbers
