import Derived.Test.Qxb6604083aUnion
/-! 'union' as one contract, 'ZZUnion' -/
set_option linter.unusedVariables false
namespace Go.Proofs.Qxb6604083a.Base
open Go.ChangeShapes Go.WideShapes Go.ChangeAt Go.RowKit

theorem hasB_zero (f e : Nat → Int) (x : Int) : hasB 0 f e x = false := rfl

theorem union_any (a b : Option Addr) (ns nt : Nat) (sf se tf te : Nat → Int) (w : World) (hns : ns ≤ 1048576) (hnt : nt ≤ 1048576) (hs : RRd w a ns sf se) (ht : RRd w b nt tf te) (ws : WF ns sf se) (wt : WF nt tf te) :
    Calls Try.prog 22 #[.slice a ns ns, .slice b nt nt] w fun r w' => ∃ a' nu c uf ue, r = .returned (.slice a' nu c) ∧ Below w.heap.size w w' ∧ RRd w' a' nu uf ue ∧ nu ≤ ns + nt ∧ WF nu uf ue ∧ ∀ x, AgreeAt ns sf se nt tf te nu uf ue x := by
  rcases Nat.eq_zero_or_pos nt with rfl | hnt0
  · refine (union_nt a b ns ns 0 0 w).mono ?_
    rintro r w' ⟨rfl, rfl⟩
    exact ⟨_, _, _, sf, se, rfl, Below.refl _ _, hs, Nat.le_refl _, ws, fun x => by simp [AgreeAt, hasB_zero]⟩
  rcases Nat.eq_zero_or_pos ns with rfl | hns0
  · refine (union_ns a b nt 0 nt hnt0 w).mono ?_
    rintro r w' ⟨rfl, rfl⟩
    exact ⟨_, _, _, tf, te, rfl, Below.refl _ _, ht, by omega, wt, fun x => by simp [AgreeAt, hasB_zero]⟩
  rcases hs with h | ⟨gs, os, rfl, hs⟩
  · omega
  rcases ht with h | ⟨gt, ot, rfl, ht⟩
  · omega
  refine (union_both gs os gt ot ns nt sf se tf te w hns0 hnt0 hns hnt hs ht ws wt).mono ?_
  rintro r w' ⟨U, rfl, hb, hin, ho⟩
  exact ⟨_, _, _, _, _, rfl, hb, RRd.own ho (fun j hj => flat_get U j hj), hin.len, hin.done.1, hin.done.2⟩

set_option maxHeartbeats 2000000 in
theorem zzunion_any (a0 a1 a2 a3 : Option Addr) (ns nt c0 c1 c2 c3 : Nat) (sf se tf te : Nat → Int) (w : World) (hns : ns ≤ 500000) (hnt : nt ≤ 500000)
    (h0 : Rd w a0 ns sf) (h1 : Rd w a1 ns se) (h2 : Rd w a2 nt tf) (h3 : Rd w a3 nt te) (ws : WF ns sf se) (wt : WF nt tf te) :
    Calls Try.prog 16 #[.slice a0 ns c0, .slice a1 ns c1, .slice a2 nt c2, .slice a3 nt c3] w fun r w' => ∃ a' b' nu c d uf ue, r = .returned (.tuple #[.slice a' nu c, .slice b' nu d]) ∧ Below w.heap.size w w' ∧ Rd w' a' nu uf ∧ Rd w' b' nu ue ∧ nu ≤ ns + nt ∧ WF nu uf ue ∧ ∀ x, AgreeAt ns sf se nt tf te nu uf ue x := by
  obtain ⟨i0, hi, hz0, hz1, hz2⟩ := info_parts info3
  have H0 := hide h0; have H1 := hide h1; have H2 := hide h2; have H3 := hide h3; have WS := hide ws; have WT := hide wt
  clear h0 h1 h2 h3 ws wt
  go_enter Try.func16, Try.ntmps16
  go_wp2_with fail
  refine (runs_any a0 a1 ns c0 c1 sf se _ (by omega) H0.out H1.out).mono ?_
  rintro r w1 ⟨sa, rfl, hb1, hr1⟩
  have HB1 := hide hb1
  have HR1 := hide hr1
  clear hb1 hr1
  go_wp2_with fail
  refine (runs_any a2 a3 nt c2 c3 tf te _ (by omega) (H2.out.below HB1.out (Nat.le_refl _)) (H3.out.below HB1.out (Nat.le_refl _))).mono ?_
  rintro r w2 ⟨ta, rfl, hb2, hr2⟩
  have HB2 := hide hb2
  have HR2 := hide hr2
  clear hb2 hr2
  go_wp2_with fail
  refine (union_any sa ta ns nt sf se tf te _ (by omega) (by omega) (HR1.out.below HB2.out (Nat.le_refl _)) HR2.out WS.out WT.out).mono ?_
  rintro r w3 ⟨ua, nu, c, uf, ue, rfl, hb3, hr3, hnu, hwf, hag⟩
  have HB3 := hide ((HB1.out.trans (HB2.out.mono HB1.out.size)).trans (hb3.mono (Nat.le_trans HB1.out.size HB2.out.size)))
  have HR3 := hide hr3
  have HWF := hide hwf
  have HAG := hide hag
  have hsz3 := HB3.out.size
  clear hb3 hr3 hwf hag HB1 HB2 HR1 HR2
  go_wp2_with (at_make; refine wpList_make_full _ rfl (.tmp 22) (.tmp 22) 22 rfl w3.heap.size 3 i0 (.int .i64 0) 1 Try.underlying22 hi hz0 hz1 _ _ _ _ nu rfl rfl (by omega) (by omega) (by rw [hz2]; omega) (by unfold maxLen; omega) (Nat.le_refl _) ?_)
  intro w4 ho4 hg4
  have hsz4 : w3.heap.size < w4.heap.size := (ho4.lt w3.heap.size rfl).2
  go_wp2_with (at_make; refine wpList_make_full _ rfl (.tmp 25) (.tmp 25) 22 rfl w3.heap.size 3 i0 (.int .i64 0) 1 Try.underlying22 hi hz0 hz1 _ _ _ _ nu rfl rfl (by omega) (by omega) (by rw [hz2]; omega) (by unfold maxLen; omega) (by omega) ?_)
  intro w5 ho5 hg5
  have ho4' := ho4.kept hg5 (.inr (by simp [Value.ownBlock]))
  have hsz5 : w4.heap.size < w5.heap.size := (ho5.lt w4.heap.size rfl).2
  have hb5 : Below w3.heap.size w3 w5 := ((Below.refl _ _).grown hg4 (Nat.le_refl _) (fun k h => by cases h)).grown hg5 (by omega) (fun k h => by cases h)
  clear ho4 hg4 hg5
  have hne : w3.heap.size ≠ w4.heap.size := by omega
  go_wp2
  go_loopw [29] (fun i wr => ∃ k : Nat, k ≤ nu ∧ i = .int .i64 k ∧ Hid (Below w3.heap.size w3 wr) ∧
      Hid (wr.ownsRow w3.heap.size 3 1 (.slice (some ⟨w3.heap.size, 0, none⟩) nu nu) nu (cellsOf uf k ++ List.replicate (nu - k) (.int .i64 0))) ∧
      Hid (wr.ownsRow w3.heap.size 3 1 (.slice (some ⟨w4.heap.size, 0, none⟩) nu nu) nu (cellsOf ue k ++ List.replicate (nu - k) (.int .i64 0)))) (fun i _ => nu - (intOf i).toNat)
  case atStart => exact ⟨0, Nat.zero_le _, rfl, hb5, by rw [toList_madeCells_one] at ho4'; refine hide ?_; simpa [cellsOf] using ho4', by rw [toList_madeCells_one] at ho5; refine hide ?_; simpa [cellsOf] using ho5⟩
  case round =>
    obtain ⟨k, hk, rfl, hb, ho1, ho2⟩ := hrel
    by_cases hlt : k < nu
    · rcases HR3.out with h | ⟨g, o, rfl, hr⟩
      · omega
      obtain ⟨hc1, hc2⟩ := hr k hlt
      have hg : g < w3.heap.size := World.block_lt_of_cell? _ _ hc1
      have hc1' : wr.cell? ⟨g, o + k * 2, none⟩ = some (.int .i64 (uf k)) := by rw [hb.out.cell (by exact hg)]; exact hc1
      have hc2' : wr.cell? ⟨g, o + k * 2 + 1, none⟩ = some (.int .i64 (ue k)) := by rw [hb.out.cell (by exact hg)]; exact hc2
      have hd1 : wr.cell? ⟨w3.heap.size, k, none⟩ = some (.int .i64 0) := by
        rw [ho1.out.cellAt k (by omega), List.getElem?_append_right (by rw [cellsOf_length]; omega), List.getElem?_replicate, if_pos (by rw [cellsOf_length]; omega)]
      have hd2 : wr.cell? ⟨w4.heap.size, k, none⟩ = some (.int .i64 0) := by
        rw [ho2.out.cellAt k (by omega), List.getElem?_append_right (by rw [cellsOf_length]; omega), List.getElem?_replicate, if_pos (by rw [cellsOf_length]; omega)]
      have hf1 := ho1.out.frozenAt k
      have hf2 := ho2.out.frozenAt k
      clear hc1 hc2 hr
      have s1 := ho1.out.stored k (.int .i64 (uf k))
      have t1 := ho2.out.kept s1.2 (.inr (by simp [Value.ownBlock]; omega))
      have s2 := t1.stored k (.int .i64 (ue k))
      have t2 := s1.1.kept s2.2 (.inr (by simp [Value.ownBlock]; omega))
      rw [row_step uf nu k hlt] at t2
      have s3 := s2.1
      rw [row_step ue nu k hlt] at s3
      have HN1 := hide t2
      have HN2 := hide s3
      have HBB := hide ((hb.out.setCell (p := ⟨w3.heap.size, k, none⟩) (Nat.le_refl _) (.int .i64 (uf k))).setCell (p := ⟨w4.heap.size, k, none⟩) (Nat.le_of_lt hsz4) (.int .i64 (ue k)))
      clear s1 t1 s2 t2 s3
      go_wp2
      go_roundw
      case rel => exact ⟨k + 1, by omega, by go_num, HBB, HN1, HN2⟩
      case measure => simp [intOf]; omega
    · obtain rfl : k = nu := by omega
      have HN1 := hide ho1.out
      have HN2 := hide ho2.out
      go_wp2
      go_ret2
      have e1 := HN1.out
      have e2 := HN2.out
      simp only [Nat.sub_self, List.replicate_zero, List.append_nil] at e1 e2
      exact ⟨_, _, k, _, _, uf, ue, rfl, HB3.out.trans (hb.out.mono hsz3), Rd.own e1, Rd.own e2, hnu, HWF.out, HAG.out⟩
end Go.Proofs.Qxb6604083a.Base
