import Derived.Test.Qxb6604083aPlain
set_option linter.unusedVariables false
namespace Go.Proofs.Qxb6604083a.Base
open Go.ChangeShapes Go.WideShapes Go.ChangeAt Go.RowKit

def slLen : Value → Nat | .slice _ n _ => n | _ => 0
/-- The new 'next': its two cells; what was there stands. -/
theorem next_made {w wr : World} {B g n c : Nat} {v : Value} {xs : List Value} (hb : Below B w wr) (hB : B ≤ wr.heap.size) (ho : wr.ownsRow B 54 2 v n xs) (hg : v.ownBlock = some g) (nq : Nat) (a b : Int) :
    ∃ w2, ((((wr.alloc (Obj.cells #[Value.int IntKind.i64 0, Value.int IntKind.i64 0] 54)).drewN nq).setCell ⟨wr.heap.size, 0, none⟩ (.int .i64 a)).setCell ⟨wr.heap.size, 1, none⟩ (.int .i64 b)) = w2 ∧
      w2.cell? ⟨wr.heap.size, 0, none⟩ = some (.int .i64 a) ∧ w2.cell? ⟨wr.heap.size, 1, none⟩ = some (.int .i64 b) ∧ Below B w w2 ∧ w2.ownsRow B 54 2 v n xs ∧ wr.heap.size < w2.heap.size := by
  refine ⟨_, rfl, ?_, ?_, ?_, ?_, ?_⟩
  · simp [go_sem]
  · simp [go_sem]
  · exact (((hb.alloc hB _).trans (b := wr.alloc _) (c := (wr.alloc _).drewN nq) ⟨rfl, rfl, rfl, Nat.le_refl _, fun _ _ => rfl⟩).setCell (p := ⟨wr.heap.size, 0, none⟩) hB _).setCell (p := ⟨wr.heap.size, 1, none⟩) hB _
  · have hlt := (ho.lt g hg).2
    refine ho.kept (row := some wr.heap.size) ⟨rfl, rfl, rfl, ?_, fun k hk hne => ?_⟩ (.inr ?_)
    · simp [World.setCell]
    · rw [Below.heap_setCell _ _ _ _ (by intro e; exact hne (by rw [e])), Below.heap_setCell _ _ _ _ (by intro e; exact hne (by rw [e]))]
      exact Below.heap_alloc wr _ k hk
    · rw [hg]; intro e; simp at e; omega
  · simp [World.setCell]
theorem two_new (w : World) (h : Nat) (hh : h = w.heap.size) (a b : Int) : ∀ (j : Nat) (u : Value), [Value.int IntKind.i64 a, Value.int IntKind.i64 b][j]? = some u →
    (w.alloc (Obj.cells #[Value.int IntKind.i64 a, Value.int IntKind.i64 b] 54)).cell? ((⟨h, 0, none⟩ : Addr).add j) = some u := by
  subst hh
  intro j u hu
  match j, hu with
  | 0, hu => simp at hu; subst hu; simp [Addr.add]
  | 1, hu => simp at hu; subst hu; simp [Addr.add]
theorem two_one (a b : Int) : ∀ u ∈ [Value.int IntKind.i64 a, Value.int IntKind.i64 b], u.oneCell' = true := by
  intro u hu
  simp at hu
  rcases hu with rfl | rfl <;> rfl
theorem below_drewN {B : Nat} {w w2 : World} (h : Below B w w2) (n : Nat) : Below B w (w2.drewN n) := ⟨h.os, h.tape, h.output, h.size, h.block⟩
theorem merged {w w2 : World} {V : List (Int × Int)} {p q b : Int} {c : Nat} (hb : Below w.heap.size w w2) (ho : w2.ownsRow w.heap.size 54 2 (.slice (some ⟨w.heap.size, 0, none⟩) (V.length + 1) c) (V.length + 1) (flat (V ++ [(p, q)]))) (n : Nat) :
    ∃ w3, ((w2.drewN n).setCell ⟨w.heap.size, V.length * 2 + 1, none⟩ (.int .i64 (if q < b then b else q))) = w3 ∧ Below w.heap.size w w3 ∧
      w3.ownsRow w.heap.size 54 2 (.slice (some ⟨w.heap.size, 0, none⟩) (V ++ [(p, max q b)]).length c) (V ++ [(p, max q b)]).length (flat (V ++ [(p, max q b)])) := by
  refine ⟨_, rfl, (below_drewN hb n).setCell (p := ⟨w.heap.size, _, none⟩) (Nat.le_refl _) _, ?_⟩
  have h : (w2.drewN n).ownsRow w.heap.size 54 2 (.slice (some ⟨w.heap.size, 0, none⟩) (V.length + 1) c) (V.length + 1) (flat (V ++ [(p, q)])) := ho
  have h2 := (h.stored (V.length * 2 + 1) (.int .i64 (max q b))).1
  rw [flat_set] at h2
  have e : (if q < b then b else q) = max q b := by split <;> omega
  rw [e]
  simpa using h2
theorem row_push {w' : World} {B n c g : Nat} {U : List (Int × Int)} {a b : Int} (h : w'.ownsRow B 54 2 (.slice (some ⟨g, 0, none⟩) n c) n (flat U ++ [.int .i64 a, .int .i64 b])) (hn : n = (U ++ [(a, b)]).length) :
    w'.ownsRow B 54 2 (.slice (some ⟨g, 0, none⟩) (U ++ [(a, b)]).length c) (U ++ [(a, b)]).length (flat (U ++ [(a, b)])) := by
  rw [flat_snoc, ← hn]; exact h
theorem union_nt (a b : Option Addr) (ns c d e : Nat) (w : World) :
    Calls Try.prog 22 #[.slice a ns c, .slice b 0 d] w fun r w' => r = .returned (.slice a ns c) ∧ w' = w := by
  go_enter Try.func22, Try.ntmps22
  go_wp2
  go_ret
  exact ⟨rfl, rfl⟩
theorem union_ns (a b : Option Addr) (nt c d : Nat) (h : 0 < nt) (w : World) :
    Calls Try.prog 22 #[.slice a 0 c, .slice b nt d] w fun r w' => r = .returned (.slice b nt d) ∧ w' = w := by
  have h1 : ((nt : Int) == 0) = false := by simp; omega
  go_enter Try.func22, Try.ntmps22
  go_wp2
  go_ret
  exact ⟨rfl, rfl⟩

set_option maxRecDepth 100000 in
set_option maxHeartbeats 4000000 in
theorem union_both (gs os gt ot ns nt : Nat) (sf se tf te : Nat → Int) (w : World) (hs0 : 0 < ns) (ht0 : 0 < nt) (hns : ns ≤ 1048576) (hnt : nt ≤ 1048576)
    (hs : ∀ i, i < ns → w.cell? ⟨gs, os + i * 2, none⟩ = some (.int .i64 (sf i)) ∧ w.cell? ⟨gs, os + i * 2 + 1, none⟩ = some (.int .i64 (se i)))
    (ht : ∀ i, i < nt → w.cell? ⟨gt, ot + i * 2, none⟩ = some (.int .i64 (tf i)) ∧ w.cell? ⟨gt, ot + i * 2 + 1, none⟩ = some (.int .i64 (te i)))
    (ws : WF ns sf se) (wt : WF nt tf te) :
    Calls Try.prog 22 #[.slice (some ⟨gs, os, none⟩) ns ns, .slice (some ⟨gt, ot, none⟩) nt nt] w fun r w' =>
      ∃ U, r = .returned (.slice (some ⟨w.heap.size, 0, none⟩) U.length (ns + nt)) ∧ Below w.heap.size w w' ∧ Inv ns sf se nt tf te ns nt U ∧
        w'.ownsRow w.heap.size 54 2 (.slice (some ⟨w.heap.size, 0, none⟩) U.length (ns + nt)) U.length (flat U) := by
  obtain ⟨i0, hi, hz0, hz1, hz2⟩ := info_parts info54
  have h1 : ((nt : Int) == 0) = false := by simp; omega
  have h2 : ((ns : Int) == 0) = false := by simp; omega
  have HS := hide hs
  have HT := hide ht
  have WS := hide ws
  have WT := hide wt
  clear hs ht ws wt
  go_enter Try.func22, Try.ntmps22
  go_wp2_with (at_make; refine wpList_make_own _ rfl _ _ 50 rfl w.heap.size 54 i0 (.agg #[.int .i64 0, .int .i64 0]) 2 Try.underlying50 hi hz0 hz1 _ _ _ (ns + nt) rfl rfl (by omega) (by rw [hz2]; omega) (by unfold maxLen; omega) (Nat.le_refl _) ?_)
  intro w1 hown hgrow
  have hb1 : Below w.heap.size w w1 := (Below.refl _ _).grown hgrow (Nat.le_refl _) (fun k h => by cases h)
  clear hgrow
  go_wp2
  go_loopw [0, 1, 5] (fun s t u wr => ∃ (i ri j rj : Nat) (sa ta : Option Addr) (U : List (Int × Int)), ri ≤ ns ∧ rj ≤ nt ∧ Hid (i + ri = ns) ∧ Hid (j + rj = nt) ∧ s = .slice sa ri ri ∧ t = .slice ta rj rj ∧
      u = .slice (some ⟨w.heap.size, 0, none⟩) U.length (ns + nt) ∧ Hid (0 < ri → sa = some ⟨gs, os + i * 2, none⟩) ∧ Hid (0 < rj → ta = some ⟨gt, ot + j * 2, none⟩) ∧ Hid (Below w.heap.size w wr) ∧
      Hid (Inv ns sf se nt tf te i j U) ∧ Hid (wr.ownsRow w.heap.size 54 2 (.slice (some ⟨w.heap.size, 0, none⟩) U.length (ns + nt)) U.length (flat U)))
    (fun s t _ _ => slLen s + slLen t)
  case atStart => exact ⟨0, ns, 0, nt, _, _, [], Nat.le_refl _, Nat.le_refl _, Nat.zero_add _, Nat.zero_add _, rfl, rfl, rfl, fun _ => by simp, fun _ => by simp, hb1, Inv.start, hown⟩
  case round =>
    obtain ⟨i, ri, j, rj, sa, ta, U, hri, hrj, hei, hej, rfl, rfl, rfl, hsa, hta, hb, hin, ho⟩ := hrel
    have hsz : w.heap.size < wr.heap.size := (ho.out.lt w.heap.size rfl).2
    cases ri with
    | zero =>
      cases rj with
      | zero =>
        obtain rfl : i = ns := hei.out
        obtain rfl : j = nt := hej.out
        have HO := hide ho.out
        go_wp2
        go_ret
        exact ⟨U, rfl, hb.out, hin.out, HO.out⟩
      | succ rj =>
        obtain rfl := hta.out (Nat.succ_pos _)
        have hj1 : j < nt := by have := hej.out; omega
        obtain ⟨hd1, hd2⟩ := HT.out j hj1
        have hgt : gt < w.heap.size := World.block_lt_of_cell? _ _ hd1
        have hgt2 : gt < wr.heap.size := by omega
        have hd1' : wr.cell? ⟨gt, ot + j * 2, none⟩ = some (.int .i64 (tf j)) := by rw [hb.out.cell (by exact hgt)]; exact hd1
        have hd2' : wr.cell? ⟨gt, ot + j * 2 + 1, none⟩ = some (.int .i64 (te j)) := by rw [hb.out.cell (by exact hgt)]; exact hd2
        clear hd1 hd2
        have hg1 : ((rj : Int) + 1 == 0) = false := by simp; omega
        have hg2 : decide ((0 : Int) < 0) = false := by simp
        go_wp2
        go_quiet (fail)
        go_wp2
        go_region
        generalize hsa' : (if rj = 0 then some (⟨gt, ot + j * 2, none⟩ : Addr) else some ⟨gt, ot + j * 2 + 2, none⟩) = ta'
        obtain ⟨w2, hw2, hA0, hA1, hb2, ho2, hsz2⟩ := next_made (n := U.length) (c := ns + nt) hb.out (by omega) ho.out rfl (nq + 1) (tf j) (te j)
        rw [hw2]
        have HSA : Hid (0 < rj → ta' = some ⟨gt, ot + (j + 1) * 2, none⟩) := by
          refine hide (fun h => ?_)
          rw [← hsa', if_neg (by omega), show ot + j * 2 + 2 = ot + (j + 1) * 2 by omega]
        have HB2 := hide hb2
        have HO2 := hide ho2
        have hul : U.length + 1 ≤ ns + nt := by have := hin.out.len; have := hei.out; have := hej.out; omega
        clear hsa' hw2 hb2 ho2 ho hb
        rcases List.eq_nil_or_concat U with rfl | ⟨V, ⟨p, q⟩, rfl⟩
        · skip
          have HIN := hide (hin.out.pushT WT.out hj1 (fun h => by have := hei.out; omega) (fun V p q e => by simp at e))
          go_wp2
          go_quiet (fail)
          go_wp2_with (at_builtin; refine wpList_append_fits _ rfl (.tmp 86) (.tmp 88) 50 rfl w.heap.size 54 i0 2 Try.underlying50 hi hz1 w.heap.size _ (ns + nt) _ rfl (HO2.out.alloc _) ⟨w2.heap.size, 0, none⟩ 1 1 [.int .i64 (tf j), .int .i64 (te j)] rfl rfl (two_new _ _ rfl _ _) (two_one _ _) (by first | omega | (simp; omega)) ?_)
          intro w3 ho3 hg3
          have HBB := hide (((below_drewN HB2.out nq).alloc (by show w.heap.size ≤ w2.heap.size; omega) (.cells #[.int .i64 (tf j), .int .i64 (te j)] 54)).grown hg3 (by simp; omega) (fun k h => by cases h; exact Nat.le_refl _))
          have HOO := hide (row_push (U := []) ho3 (by simp))
          clear ho3 hg3
          go_wp2
          go_roundw
          case rel => exact ⟨i, 0, j + 1, rj, sa, ta', [] ++ [(tf j, te j)], by omega, by omega, hei, (by have := hej.out; show j + 1 + rj = nt; omega), rfl, rfl, by simp, hsa, HSA, HBB, HIN, HOO⟩
          case measure => simp [slLen]
        · simp only [List.concat_eq_append, List.length_append, List.length_cons, List.length_nil, Nat.zero_add] at hin HO2 hul ⊢
          have hV : w2.cell? ⟨w.heap.size, V.length * 2 + 1, none⟩ = some (.int .i64 q) := by
            have h3 := HO2.out.cellAt (V.length * 2 + 1) (by omega)
            rw [h3, (flat_get (V ++ [(p, q)]) V.length (by simp)).2, getD_get _ _ (by simp)]
            simp
          have hVf := HO2.out.frozenAt (V.length * 2 + 1)
          have hVn : decide ((0 : Int) ≤ (V.length : Int)) = true := by simp
          by_cases hq : tf j ≤ q
          · have HIN := hide (hin.out.mergeT WT.out hj1 hq)
            go_wp2
            go_quiet (fail)
            go_wp2
            go_region
            obtain ⟨w3, hw3, hb3, ho3⟩ := merged (b := te j) HB2.out HO2.out (nq + 1)
            rw [hw3]
            have HBB := hide hb3
            have HOO := hide ho3
            clear hw3 hb3 ho3
            go_wp2
            go_roundw
            case rel => exact ⟨i, 0, j + 1, rj, sa, ta', V ++ [(p, max q (te j))], by omega, by omega, hei, (by have := hej.out; show j + 1 + rj = nt; omega), rfl, rfl, by simp, hsa, HSA, HBB, HIN, HOO⟩
            case measure => simp [slLen]
          · have hq' : q < tf j := by omega
            have HIN := hide (hin.out.pushT WT.out hj1 (fun h => by have := hei.out; omega) (fun V2 p2 q2 e2 => by have h9 := List.append_inj' e2 rfl; simp at h9; omega))
            go_wp2
            go_quiet (fail)
            go_wp2_with (at_builtin; refine wpList_append_fits _ rfl (.tmp 86) (.tmp 88) 50 rfl w.heap.size 54 i0 2 Try.underlying50 hi hz1 w.heap.size _ (ns + nt) _ rfl (HO2.out.alloc _) ⟨w2.heap.size, 0, none⟩ 1 1 [.int .i64 (tf j), .int .i64 (te j)] rfl rfl (two_new _ _ rfl _ _) (two_one _ _) (by first | omega | (simp; omega)) ?_)
            intro w3 ho3 hg3
            have HBB := hide (((below_drewN HB2.out nq).alloc (by show w.heap.size ≤ w2.heap.size; omega) (.cells #[.int .i64 (tf j), .int .i64 (te j)] 54)).grown hg3 (by simp; omega) (fun k h => by cases h; exact Nat.le_refl _))
            have HOO := hide (row_push (U := (V ++ [(p, q)])) ho3 (by simp))
            clear ho3 hg3
            go_wp2
            go_roundw
            case rel => exact ⟨i, 0, j + 1, rj, sa, ta', (V ++ [(p, q)]) ++ [(tf j, te j)], by omega, by omega, hei, (by have := hej.out; show j + 1 + rj = nt; omega), rfl, rfl, by simp, hsa, HSA, HBB, HIN, HOO⟩
            case measure => simp [slLen]
  

    | succ ri =>
      obtain rfl := hsa.out (Nat.succ_pos _)
      have hi1 : i < ns := by have := hei.out; omega
      obtain ⟨hc1, hc2⟩ := HS.out i hi1
      have hgs : gs < w.heap.size := World.block_lt_of_cell? _ _ hc1
      have hgs2 : gs < wr.heap.size := by omega
      have hc1' : wr.cell? ⟨gs, os + i * 2, none⟩ = some (.int .i64 (sf i)) := by rw [hb.out.cell (by exact hgs)]; exact hc1
      have hc2' : wr.cell? ⟨gs, os + i * 2 + 1, none⟩ = some (.int .i64 (se i)) := by rw [hb.out.cell (by exact hgs)]; exact hc2
      clear hc1 hc2
      cases rj with
      | zero =>
        go_wp2
        go_quiet (fail)
        go_wp2
        go_region
        generalize hsa' : (if ri = 0 then some (⟨gs, os + i * 2, none⟩ : Addr) else some ⟨gs, os + i * 2 + 2, none⟩) = sa'
        obtain ⟨w2, hw2, hA0, hA1, hb2, ho2, hsz2⟩ := next_made (n := U.length) (c := ns + nt) hb.out (by omega) ho.out rfl (nq + 1) (sf i) (se i)
        rw [hw2]
        have HSA : Hid (0 < ri → sa' = some ⟨gs, os + (i + 1) * 2, none⟩) := by
          refine hide (fun h => ?_)
          rw [← hsa', if_neg (by omega), show os + i * 2 + 2 = os + (i + 1) * 2 by omega]
        have HB2 := hide hb2
        have HO2 := hide ho2
        have hul : U.length + 1 ≤ ns + nt := by have := hin.out.len; have := hei.out; have := hej.out; omega
        clear hsa' hw2 hb2 ho2 ho hb
        rcases List.eq_nil_or_concat U with rfl | ⟨V, ⟨p, q⟩, rfl⟩
        · skip
          have HIN := hide (hin.out.pushS WS.out hi1 (fun h => by have := hej.out; omega) (fun V p q e => by simp at e))
          go_wp2
          go_quiet (fail)
          go_wp2_with (at_builtin; refine wpList_append_fits _ rfl (.tmp 86) (.tmp 88) 50 rfl w.heap.size 54 i0 2 Try.underlying50 hi hz1 w.heap.size _ (ns + nt) _ rfl (HO2.out.alloc _) ⟨w2.heap.size, 0, none⟩ 1 1 [.int .i64 (sf i), .int .i64 (se i)] rfl rfl (two_new _ _ rfl _ _) (two_one _ _) (by first | omega | (simp; omega)) ?_)
          intro w3 ho3 hg3
          have HBB := hide (((below_drewN HB2.out nq).alloc (by show w.heap.size ≤ w2.heap.size; omega) (.cells #[.int .i64 (sf i), .int .i64 (se i)] 54)).grown hg3 (by simp; omega) (fun k h => by cases h; exact Nat.le_refl _))
          have HOO := hide (row_push (U := []) ho3 (by simp))
          clear ho3 hg3
          go_wp2
          go_roundw
          case rel => exact ⟨i + 1, ri, j, 0, sa', ta, [] ++ [(sf i, se i)], by omega, by omega, (by have := hei.out; show i + 1 + ri = ns; omega), hej, rfl, rfl, by simp, HSA, hta, HBB, HIN, HOO⟩
          case measure => simp [slLen]
        · simp only [List.concat_eq_append, List.length_append, List.length_cons, List.length_nil, Nat.zero_add] at hin HO2 hul ⊢
          have hV : w2.cell? ⟨w.heap.size, V.length * 2 + 1, none⟩ = some (.int .i64 q) := by
            have h3 := HO2.out.cellAt (V.length * 2 + 1) (by omega)
            rw [h3, (flat_get (V ++ [(p, q)]) V.length (by simp)).2, getD_get _ _ (by simp)]
            simp
          have hVf := HO2.out.frozenAt (V.length * 2 + 1)
          have hVn : decide ((0 : Int) ≤ (V.length : Int)) = true := by simp
          by_cases hq : sf i ≤ q
          · have HIN := hide (hin.out.mergeS WS.out hi1 hq)
            go_wp2
            go_quiet (fail)
            go_wp2
            go_region
            obtain ⟨w3, hw3, hb3, ho3⟩ := merged (b := se i) HB2.out HO2.out (nq + 1)
            rw [hw3]
            have HBB := hide hb3
            have HOO := hide ho3
            clear hw3 hb3 ho3
            go_wp2
            go_roundw
            case rel => exact ⟨i + 1, ri, j, 0, sa', ta, V ++ [(p, max q (se i))], by omega, by omega, (by have := hei.out; show i + 1 + ri = ns; omega), hej, rfl, rfl, by simp, HSA, hta, HBB, HIN, HOO⟩
            case measure => simp [slLen]
          · have hq' : q < sf i := by omega
            have HIN := hide (hin.out.pushS WS.out hi1 (fun h => by have := hej.out; omega) (fun V2 p2 q2 e2 => by have h9 := List.append_inj' e2 rfl; simp at h9; omega))
            go_wp2
            go_quiet (fail)
            go_wp2_with (at_builtin; refine wpList_append_fits _ rfl (.tmp 86) (.tmp 88) 50 rfl w.heap.size 54 i0 2 Try.underlying50 hi hz1 w.heap.size _ (ns + nt) _ rfl (HO2.out.alloc _) ⟨w2.heap.size, 0, none⟩ 1 1 [.int .i64 (sf i), .int .i64 (se i)] rfl rfl (two_new _ _ rfl _ _) (two_one _ _) (by first | omega | (simp; omega)) ?_)
            intro w3 ho3 hg3
            have HBB := hide (((below_drewN HB2.out nq).alloc (by show w.heap.size ≤ w2.heap.size; omega) (.cells #[.int .i64 (sf i), .int .i64 (se i)] 54)).grown hg3 (by simp; omega) (fun k h => by cases h; exact Nat.le_refl _))
            have HOO := hide (row_push (U := (V ++ [(p, q)])) ho3 (by simp))
            clear ho3 hg3
            go_wp2
            go_roundw
            case rel => exact ⟨i + 1, ri, j, 0, sa', ta, (V ++ [(p, q)]) ++ [(sf i, se i)], by omega, by omega, (by have := hei.out; show i + 1 + ri = ns; omega), hej, rfl, rfl, by simp, HSA, hta, HBB, HIN, HOO⟩
            case measure => simp [slLen]
  

      | succ rj =>
        obtain rfl := hta.out (Nat.succ_pos _)
        have hj1 : j < nt := by have := hej.out; omega
        obtain ⟨hd1, hd2⟩ := HT.out j hj1
        have hgt : gt < w.heap.size := World.block_lt_of_cell? _ _ hd1
        have hgt2 : gt < wr.heap.size := by omega
        have hd1' : wr.cell? ⟨gt, ot + j * 2, none⟩ = some (.int .i64 (tf j)) := by rw [hb.out.cell (by exact hgt)]; exact hd1
        have hd2' : wr.cell? ⟨gt, ot + j * 2 + 1, none⟩ = some (.int .i64 (te j)) := by rw [hb.out.cell (by exact hgt)]; exact hd2
        clear hd1 hd2

        by_cases hle : sf i ≤ tf j
        · skip
          have hg1 : ((rj : Int) + 1 == 0) = false := by simp; omega
          have hg2 : decide ((0 : Int) < (ri : Int) + 1) = true := decide_eq_true (by omega)
          have hg3 : decide (sf i ≤ tf j) = true := by simpa using hle
          go_wp2
          go_quiet (fail)
          go_wp2
          go_region
          generalize hsa' : (if ri = 0 then some (⟨gs, os + i * 2, none⟩ : Addr) else some ⟨gs, os + i * 2 + 2, none⟩) = sa'
          obtain ⟨w2, hw2, hA0, hA1, hb2, ho2, hsz2⟩ := next_made (n := U.length) (c := ns + nt) hb.out (by omega) ho.out rfl (nq + 1) (sf i) (se i)
          rw [hw2]
          have HSA : Hid (0 < ri → sa' = some ⟨gs, os + (i + 1) * 2, none⟩) := by
            refine hide (fun h => ?_)
            rw [← hsa', if_neg (by omega), show os + i * 2 + 2 = os + (i + 1) * 2 by omega]
          have HB2 := hide hb2
          have HO2 := hide ho2
          have hul : U.length + 1 ≤ ns + nt := by have := hin.out.len; have := hei.out; have := hej.out; omega
          clear hsa' hw2 hb2 ho2 ho hb
          rcases List.eq_nil_or_concat U with rfl | ⟨V, ⟨p, q⟩, rfl⟩
          · skip
            have HIN := hide (hin.out.pushS WS.out hi1 (fun _ => hle) (fun V p q e => by simp at e))
            go_wp2
            go_quiet (fail)
            go_wp2_with (at_builtin; refine wpList_append_fits _ rfl (.tmp 86) (.tmp 88) 50 rfl w.heap.size 54 i0 2 Try.underlying50 hi hz1 w.heap.size _ (ns + nt) _ rfl (HO2.out.alloc _) ⟨w2.heap.size, 0, none⟩ 1 1 [.int .i64 (sf i), .int .i64 (se i)] rfl rfl (two_new _ _ rfl _ _) (two_one _ _) (by first | omega | (simp; omega)) ?_)
            intro w3 ho3 hg3
            have HBB := hide (((below_drewN HB2.out nq).alloc (by show w.heap.size ≤ w2.heap.size; omega) (.cells #[.int .i64 (sf i), .int .i64 (se i)] 54)).grown hg3 (by simp; omega) (fun k h => by cases h; exact Nat.le_refl _))
            have HOO := hide (row_push (U := []) ho3 (by simp))
            clear ho3 hg3
            go_wp2
            go_roundw
            case rel => exact ⟨i + 1, ri, j, rj + 1, sa', _, [] ++ [(sf i, se i)], by omega, by omega, (by have := hei.out; show i + 1 + ri = ns; omega), hej, rfl, rfl, by simp, HSA, (fun _ => rfl), HBB, HIN, HOO⟩
            case measure => simp [slLen]
          · simp only [List.concat_eq_append, List.length_append, List.length_cons, List.length_nil, Nat.zero_add] at hin HO2 hul ⊢
            have hV : w2.cell? ⟨w.heap.size, V.length * 2 + 1, none⟩ = some (.int .i64 q) := by
              have h3 := HO2.out.cellAt (V.length * 2 + 1) (by omega)
              rw [h3, (flat_get (V ++ [(p, q)]) V.length (by simp)).2, getD_get _ _ (by simp)]
              simp
            have hVf := HO2.out.frozenAt (V.length * 2 + 1)
            have hVn : decide ((0 : Int) ≤ (V.length : Int)) = true := by simp
            by_cases hq : sf i ≤ q
            · have HIN := hide (hin.out.mergeS WS.out hi1 hq)
              go_wp2
              go_quiet (fail)
              go_wp2
              go_region
              obtain ⟨w3, hw3, hb3, ho3⟩ := merged (b := se i) HB2.out HO2.out (nq + 1)
              rw [hw3]
              have HBB := hide hb3
              have HOO := hide ho3
              clear hw3 hb3 ho3
              go_wp2
              go_roundw
              case rel => exact ⟨i + 1, ri, j, rj + 1, sa', _, V ++ [(p, max q (se i))], by omega, by omega, (by have := hei.out; show i + 1 + ri = ns; omega), hej, rfl, rfl, by simp, HSA, (fun _ => rfl), HBB, HIN, HOO⟩
              case measure => simp [slLen]
            · have hq' : q < sf i := by omega
              have HIN := hide (hin.out.pushS WS.out hi1 (fun _ => hle) (fun V2 p2 q2 e2 => by have h9 := List.append_inj' e2 rfl; simp at h9; omega))
              go_wp2
              go_quiet (fail)
              go_wp2_with (at_builtin; refine wpList_append_fits _ rfl (.tmp 86) (.tmp 88) 50 rfl w.heap.size 54 i0 2 Try.underlying50 hi hz1 w.heap.size _ (ns + nt) _ rfl (HO2.out.alloc _) ⟨w2.heap.size, 0, none⟩ 1 1 [.int .i64 (sf i), .int .i64 (se i)] rfl rfl (two_new _ _ rfl _ _) (two_one _ _) (by first | omega | (simp; omega)) ?_)
              intro w3 ho3 hg3
              have HBB := hide (((below_drewN HB2.out nq).alloc (by show w.heap.size ≤ w2.heap.size; omega) (.cells #[.int .i64 (sf i), .int .i64 (se i)] 54)).grown hg3 (by simp; omega) (fun k h => by cases h; exact Nat.le_refl _))
              have HOO := hide (row_push (U := (V ++ [(p, q)])) ho3 (by simp))
              clear ho3 hg3
              go_wp2
              go_roundw
              case rel => exact ⟨i + 1, ri, j, rj + 1, sa', _, (V ++ [(p, q)]) ++ [(sf i, se i)], by omega, by omega, (by have := hei.out; show i + 1 + ri = ns; omega), hej, rfl, rfl, by simp, HSA, (fun _ => rfl), HBB, HIN, HOO⟩
              case measure => simp [slLen]
  

        · skip
          have hg1 : ((rj : Int) + 1 == 0) = false := by simp; omega
          have hg2 : decide ((0 : Int) < (ri : Int) + 1) = true := decide_eq_true (by omega)
          have hg3 : decide (sf i ≤ tf j) = false := by simpa using hle
          go_wp2
          go_quiet (fail)
          go_wp2
          go_region
          generalize hsa' : (if rj = 0 then some (⟨gt, ot + j * 2, none⟩ : Addr) else some ⟨gt, ot + j * 2 + 2, none⟩) = ta'
          obtain ⟨w2, hw2, hA0, hA1, hb2, ho2, hsz2⟩ := next_made (n := U.length) (c := ns + nt) hb.out (by omega) ho.out rfl (nq + 1) (tf j) (te j)
          rw [hw2]
          have HSA : Hid (0 < rj → ta' = some ⟨gt, ot + (j + 1) * 2, none⟩) := by
            refine hide (fun h => ?_)
            rw [← hsa', if_neg (by omega), show ot + j * 2 + 2 = ot + (j + 1) * 2 by omega]
          have HB2 := hide hb2
          have HO2 := hide ho2
          have hul : U.length + 1 ≤ ns + nt := by have := hin.out.len; have := hei.out; have := hej.out; omega
          clear hsa' hw2 hb2 ho2 ho hb
          rcases List.eq_nil_or_concat U with rfl | ⟨V, ⟨p, q⟩, rfl⟩
          · skip
            have HIN := hide (hin.out.pushT WT.out hj1 (fun _ => by omega) (fun V p q e => by simp at e))
            go_wp2
            go_quiet (fail)
            go_wp2_with (at_builtin; refine wpList_append_fits _ rfl (.tmp 86) (.tmp 88) 50 rfl w.heap.size 54 i0 2 Try.underlying50 hi hz1 w.heap.size _ (ns + nt) _ rfl (HO2.out.alloc _) ⟨w2.heap.size, 0, none⟩ 1 1 [.int .i64 (tf j), .int .i64 (te j)] rfl rfl (two_new _ _ rfl _ _) (two_one _ _) (by first | omega | (simp; omega)) ?_)
            intro w3 ho3 hg3
            have HBB := hide (((below_drewN HB2.out nq).alloc (by show w.heap.size ≤ w2.heap.size; omega) (.cells #[.int .i64 (tf j), .int .i64 (te j)] 54)).grown hg3 (by simp; omega) (fun k h => by cases h; exact Nat.le_refl _))
            have HOO := hide (row_push (U := []) ho3 (by simp))
            clear ho3 hg3
            go_wp2
            go_roundw
            case rel => exact ⟨i, ri + 1, j + 1, rj, _, ta', [] ++ [(tf j, te j)], by omega, by omega, hei, (by have := hej.out; show j + 1 + rj = nt; omega), rfl, rfl, by simp, (fun _ => rfl), HSA, HBB, HIN, HOO⟩
            case measure => simp [slLen]
          · simp only [List.concat_eq_append, List.length_append, List.length_cons, List.length_nil, Nat.zero_add] at hin HO2 hul ⊢
            have hV : w2.cell? ⟨w.heap.size, V.length * 2 + 1, none⟩ = some (.int .i64 q) := by
              have h3 := HO2.out.cellAt (V.length * 2 + 1) (by omega)
              rw [h3, (flat_get (V ++ [(p, q)]) V.length (by simp)).2, getD_get _ _ (by simp)]
              simp
            have hVf := HO2.out.frozenAt (V.length * 2 + 1)
            have hVn : decide ((0 : Int) ≤ (V.length : Int)) = true := by simp
            by_cases hq : tf j ≤ q
            · have HIN := hide (hin.out.mergeT WT.out hj1 hq)
              go_wp2
              go_quiet (fail)
              go_wp2
              go_region
              obtain ⟨w3, hw3, hb3, ho3⟩ := merged (b := te j) HB2.out HO2.out (nq + 1)
              rw [hw3]
              have HBB := hide hb3
              have HOO := hide ho3
              clear hw3 hb3 ho3
              go_wp2
              go_roundw
              case rel => exact ⟨i, ri + 1, j + 1, rj, _, ta', V ++ [(p, max q (te j))], by omega, by omega, hei, (by have := hej.out; show j + 1 + rj = nt; omega), rfl, rfl, by simp, (fun _ => rfl), HSA, HBB, HIN, HOO⟩
              case measure => simp [slLen]
            · have hq' : q < tf j := by omega
              have HIN := hide (hin.out.pushT WT.out hj1 (fun _ => by omega) (fun V2 p2 q2 e2 => by have h9 := List.append_inj' e2 rfl; simp at h9; omega))
              go_wp2
              go_quiet (fail)
              go_wp2_with (at_builtin; refine wpList_append_fits _ rfl (.tmp 86) (.tmp 88) 50 rfl w.heap.size 54 i0 2 Try.underlying50 hi hz1 w.heap.size _ (ns + nt) _ rfl (HO2.out.alloc _) ⟨w2.heap.size, 0, none⟩ 1 1 [.int .i64 (tf j), .int .i64 (te j)] rfl rfl (two_new _ _ rfl _ _) (two_one _ _) (by first | omega | (simp; omega)) ?_)
              intro w3 ho3 hg3
              have HBB := hide (((below_drewN HB2.out nq).alloc (by show w.heap.size ≤ w2.heap.size; omega) (.cells #[.int .i64 (tf j), .int .i64 (te j)] 54)).grown hg3 (by simp; omega) (fun k h => by cases h; exact Nat.le_refl _))
              have HOO := hide (row_push (U := (V ++ [(p, q)])) ho3 (by simp))
              clear ho3 hg3
              go_wp2
              go_roundw
              case rel => exact ⟨i, ri + 1, j + 1, rj, _, ta', (V ++ [(p, q)]) ++ [(tf j, te j)], by omega, by omega, hei, (by have := hej.out; show j + 1 + rj = nt; omega), rfl, rfl, by simp, (fun _ => rfl), HSA, HBB, HIN, HOO⟩
              case measure => simp [slLen]
  

end Go.Proofs.Qxb6604083a.Base
