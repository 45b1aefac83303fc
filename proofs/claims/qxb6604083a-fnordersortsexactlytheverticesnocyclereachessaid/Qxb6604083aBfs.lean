import Derived.Test.Qxb6604083aVerts
/-! 'zzReaches', 'zzDownstream' -/
set_option linter.unusedVariables false
namespace Go.Proofs.Qxb6604083a.Base
open Go.ChangeShapes Go.WideShapes Go.ChangeAt Go.RowKit
open Go.Proofs.Qxb6604083a.G

theorem TG.head {adj : Int → List Int} {u v : Int} (h : TG adj u v) : ∃ s ∈ adj u, RT adj s v := by
  induction h with
  | single h => exact ⟨_, h, .inl rfl⟩
  | tail _ k ih =>
    obtain ⟨s, hs, h⟩ := ih
    exact ⟨s, hs, .inr (h.snoc k)⟩
theorem TG_iff {adj : Int → List Int} {u v : Int} : TG adj u v ↔ ∃ s, s ∈ adj u ∧ RT adj s v :=
  ⟨fun h => TG.head h, fun ⟨s, hs, h⟩ => (TG.one hs).rt h⟩

/-- Breadth first: from S; the first i of the queue have been looked at. -/
structure BF (adj : Int → List Int) (S : Int → Prop) (i : Nat) (Q : List Int) : Prop where
  reach : ∀ y ∈ Q, ∃ s, S s ∧ RT adj s y
  start : ∀ s, S s → s ∈ Q
  clo : ∀ k, k < i → ∀ y ∈ adj (fn Q k), y ∈ Q
theorem fn_append {Q R : List Int} {k : Nat} (h : k < Q.length) : fn (Q ++ R) k = fn Q k := by
  simp [fn, List.getD_eq_getElem?_getD, List.getElem?_append_left h]
theorem BF.done {adj : Int → List Int} {S : Int → Prop} {Q : List Int} (h : BF adj S Q.length Q) (y : Int) : y ∈ Q ↔ ∃ s, S s ∧ RT adj s y := by
  refine ⟨h.reach y, fun ⟨s, hs, r⟩ => RT.closed (· ∈ Q) (h.start s hs) (fun x z hx hz => ?_) r⟩
  obtain ⟨k, hk, e⟩ := List.mem_iff_getElem.1 hx
  refine h.clo k hk z ?_
  have : fn Q k = x := by simp [fn, List.getD_eq_getElem?_getD, List.getElem?_eq_getElem hk, e]
  rw [this]
  exact hz
/-- In the middle of the edges of the i-th. -/
structure BFi (adj : Int → List Int) (S : Int → Prop) (i : Nat) (x : Int) (j : Nat) (Q : List Int) : Prop where
  bf : BF adj S i Q
  lt : i < Q.length
  at' : fn Q i = x
  part : ∀ y ∈ (adj x).take j, y ∈ Q
section
variable {adj : Int → List Int} {S : Int → Prop} {i j : Nat} {x : Int} {Q : List Int}
theorem BF.enter (h : BF adj S i Q) (hi : i < Q.length) : BFi adj S i (fn Q i) 0 Q := ⟨h, hi, rfl, fun y hy => by simp at hy⟩
theorem BFi.seen (h : BFi adj S i x j Q) (hj : j < (adj x).length) (hx : fn (adj x) j ∈ Q) : BFi adj S i x (j + 1) Q := by
  refine ⟨h.bf, h.lt, h.at', fun y hy => ?_⟩
  rcases (mem_take_succ hj).1 hy with h1 | rfl
  · exact h.part y h1
  · exact hx
theorem BFi.new (h : BFi adj S i x j Q) (hj : j < (adj x).length) : BFi adj S i x (j + 1) (Q ++ [fn (adj x) j]) := by
  have hx : x ∈ Q := by
    rw [← h.at']
    exact fn_mem h.lt
  refine ⟨⟨fun y hy => ?_, fun s hs => by simp [h.bf.start s hs], fun k hk y hy => ?_⟩, by simp; have := h.lt; omega, by rw [fn_append h.lt]; exact h.at', fun y hy => ?_⟩
  · rcases List.mem_append.1 hy with h1 | h1
    · exact h.bf.reach y h1
    · simp at h1; subst h1
      obtain ⟨s, hs, r⟩ := h.bf.reach x hx
      exact ⟨s, hs, .inr (r.snoc (fn_mem hj))⟩
  · rw [fn_append (by have := h.lt; omega)] at hy
    simp [h.bf.clo k hk y hy]
  · rcases (mem_take_succ hj).1 hy with h1 | rfl
    · simp [h.part y h1]
    · simp
theorem BFi.leave (h : BFi adj S i x (adj x).length Q) : BF adj S (i + 1) Q := by
  refine ⟨h.bf.reach, h.bf.start, fun k hk y hy => ?_⟩
  by_cases e : k = i
  · subst e
    rw [h.at'] at hy
    exact h.part y (by rw [List.take_length]; exact hy)
  · exact h.bf.clo k (by omega) y hy
/-- All that is in the queue is a vertex. -/
theorem BF.sub {ks Vs : List Int} (h : BF adj S i Q) (g : Gr adj ks Vs) (hS : ∀ s, S s → s ∈ Vs) : ∀ y ∈ Q, y ∈ Vs := by
  intro y hy
  obtain ⟨s, hs, r⟩ := h.reach y hy
  rcases r with rfl | r
  · exact hS s hs
  · obtain ⟨z, _, hz⟩ := TG.last r
    exact g.dst hz
end
/-- The call answers whether P. -/
def Ret (P : Prop) (e : Ending) : Prop := ∃ b : Bool, e = .returned (.bool b) ∧ (b = true ↔ P)

set_option maxRecDepth 100000 in
set_option maxHeartbeats 8000000 in
theorem reaches_any (b : Nat) (ks Vs : List Int) (adj : Int → List Int) (u v : Int) (w : World) (hu : W64 u) (hg : GR w b ks adj) (hgr : Gr adj ks Vs) (hvl : Vs.length ≤ 16781312) :
    Calls Try.prog 11 #[.map (some b), .int .i64 u, .int .i64 v] w fun e w' => Ret (TG adj u v) e ∧ Below w.heap.size w w' := by
  obtain ⟨i0, hi0, hz0, hz1, hz2⟩ := info_parts info3
  have HG := hide hg
  have HGr := hide hgr
  have HSV : Hid (∀ s, s ∈ adj u → s ∈ Vs) := hide (fun s hs => hgr.dst hs)
  have hlu := hg.len u
  clear hg hgr
  have hmm := @run_makeMap Try.prog
  have HS0 := hide (SQ.made w)
  obtain ⟨F, na, nc, hmvn, hlkn, hrn⟩ := fnRd HG.out HS0.out.bel u
  have hra := hide hrn
  have hmvn' := hide hmvn
  clear hmvn hrn
  go_enter Try.func11, Try.ntmps11
  go_wp2_with (at_lookup; refine wp_look _ rfl (.tmp 16) (.tmp 17) 27 rfl 22 Try.underlying27 (.slice none 0 0) (zero22 _) rfl hmvn'.out u rfl hu _ hlkn ?_)
  go_loopw [8, 10] (fun s jj wr => ∃ (j : Nat) (a : Option Addr) (c : Nat) (Q : List Int), j ≤ (adj u).length ∧ jj = .int .i64 j ∧ s = .slice a Q.length c ∧ Hid (SQ w wr a c Q) ∧ Hid (∀ y, y ∈ Q ↔ ∃ k, k < j ∧ fn (adj u) k = y) ∧ Q.length ≤ j) (fun _ jj _ => (adj u).length - (intOf jj).toNat)
  case atStart => exact ⟨0, none, 0, [], Nat.zero_le _, rfl, rfl, HS0, hide (fun y => by simp), by simp⟩
  case round =>
    obtain ⟨j, a, c, Q, hj, rfl, rfl, hsq, hmem, hql⟩ := hrel
    by_cases hjl : j < (adj u).length
    · obtain ⟨y, rfl, hcy0⟩ := hra.out j hjl
      have hcy : wr.cell? (y.add j) = some (.int .i64 (fn (adj u) j)) := by
        rw [hsq.out.bel.cell (World.block_lt_of_cell? _ _ hcy0)]
        exact hcy0
      have hwj : W64 (fn (adj u) j) := HG.out.wf _ _ (fn_mem hjl)
      have MS : Hid (fn (adj u) j ∈ Q → ∀ y, y ∈ Q ↔ ∃ k, k < j + 1 ∧ fn (adj u) k = y) := hide (fun hx y => by
        rw [hmem.out y]
        constructor
        · rintro ⟨k, h, e⟩; exact ⟨k, by omega, e⟩
        · rintro ⟨k, h, e⟩
          by_cases ek : k = j
          · subst ek; rw [← e]; exact (hmem.out _).1 hx
          · exact ⟨k, by omega, e⟩)
      have MN : Hid (∀ y, y ∈ Q ++ [fn (adj u) j] ↔ ∃ k, k < j + 1 ∧ fn (adj u) k = y) := hide (fun y => by
        rw [List.mem_append, hmem.out y, List.mem_singleton]
        constructor
        · rintro (⟨k, h, e⟩ | e)
          · exact ⟨k, by omega, e⟩
          · exact ⟨j, by omega, e.symm⟩
        · rintro ⟨k, h, e⟩
          by_cases ek : k = j
          · subst ek; exact .inr e.symm
          · exact .inl ⟨k, by omega, e⟩)
      by_cases hx : fn (adj u) j ∈ Q
      · have hlk := look_tt hx
        have hmv := hide hsq.out.mv

        go_wp2_with (first | (at_lookup; refine wp_look _ rfl (.tmp 25) (.tmp 29) 31 rfl 4 Try.underlying31 (.bool false) (zero4 _) rfl hmv.out (fn (adj u) j) rfl hwj (.bool true) hlk ?_))
        go_wp2
        go_roundw
        case rel => exact ⟨j + 1, a, c, Q, by omega, by go_num, rfl, hsq, hide (MS.out hx), by omega⟩
        case measure => simp [intOf]; omega
      · have hlk := look_ff (F := tt) (z := .bool false) hx
        have hmv := hide hsq.out.mv
        have HX := hide hx
        clear hx
        go_wp2_with (first | (at_lookup; refine wp_look _ rfl (.tmp 25) (.tmp 29) 31 rfl 4 Try.underlying31 (.bool false) (zero4 _) rfl hmv.out (fn (adj u) j) rfl hwj (.bool false) hlk ?_) | (at_mapUpdate; refine wp_store _ rfl (.tmp 32) (.tmp 36) _ 31 rfl 4 Try.underlying31 rfl hmv.out (by unfold maxLen; omega) (fn (adj u) j) rfl hwj (.bool true) rfl ?_))
        intro w1 hm1 hg1
        have hm1' := hide hm1
        have hg1' := hide hg1
        clear hm1 hg1
        have hcy1 : w1.cell? (y.add j) = some (.int .i64 (fn (adj u) j)) := by
          rw [World.cell?_of_block (w := wr) (hg1'.out.block (y.add j).block (World.block_lt_of_cell? _ _ hcy) (by intro e; have := World.block_lt_of_cell? _ _ hcy0; simp at e; omega))]
          exact hcy
        go_wp2_with (at_builtin; refine wpList_append_own _ rfl (.tmp 37) (.tmp 42) 22 rfl (w.heap.size + 1) 3 i0 (.int .i64 0) 1 8 Try.underlying22 hi0 hz0 hz1 hz2 rfl (by decide) _ _ _ rfl ((hsq.out.ol1 hg1'.out).1.alloc _) ⟨w1.heap.size, 0, none⟩ 1 1 [.int .i64 (fn (adj u) j)] rfl rfl (cell_one_new _ _ _) (ints_oneCell .i64 [fn (adj u) j]) (by unfold maxLen; omega) (by omega) (by have := hsq.out.sz; have := hg1'.out.size; simp; omega) ?_)
        intro v' w2 ho2 hg2 _
        obtain ⟨g', c', rfl, hsq2⟩ := hsq.out.add HX.out hm1'.out hg1'.out ho2 hg2
        have HSQ := hide hsq2
        clear ho2 hg2 hsq2 hlk
        go_wp2
        go_roundw
        case rel => exact ⟨j + 1, _, c', Q ++ [fn (adj u) j], by omega, by go_num, rfl, HSQ, MN, by simp; omega⟩
        case measure => simp [intOf]; omega

    · obtain rfl : j = (adj u).length := by omega
      have hst : Hid (∀ y, y ∈ Q ↔ y ∈ adj u) := hide (fun y => by
        rw [hmem.out y]
        constructor
        · rintro ⟨k, h, rfl⟩; exact fn_mem h
        · intro h
          obtain ⟨k, hk, e⟩ := List.mem_iff_getElem.1 h
          exact ⟨k, hk, by simp [fn, List.getD_eq_getElem?_getD, List.getElem?_eq_getElem hk, e]⟩)
      have hqv : Q.length ≤ Vs.length := hsq.out.mv.nd.length_le_of_subset (fun y hy => HGr.out.dst ((hst.out y).1 hy))
      go_wp2
      go_loopw [8, 11] (fun s ii wr => ∃ (i : Nat) (a : Option Addr) (c : Nat) (Q : List Int), i ≤ Q.length ∧ ii = .int .i64 i ∧ s = .slice a Q.length c ∧ Hid (SQ w wr a c Q) ∧ Hid (BF adj (fun s => s ∈ adj u) i Q ∧ ∀ k, k < i → fn Q k ≠ v) ∧ Q.length ≤ Vs.length) (fun _ ii _ => Vs.length - (intOf ii).toNat)
      case atStart => exact ⟨0, a, c, Q, Nat.zero_le _, rfl, rfl, hsq, hide ⟨⟨fun y hy => ⟨y, hst.out y |>.1 hy, .inl rfl⟩, fun s hs => (hst.out s).2 hs, fun k hk => absurd hk (Nat.not_lt_zero _)⟩, fun k hk => absurd hk (Nat.not_lt_zero _)⟩, hqv⟩
      case round =>
        obtain ⟨i, a, c, Q, hi, rfl, rfl, hsq, hbf, hql⟩ := hrel
        by_cases hil : i < Q.length
        · obtain ⟨z, rfl, hcz⟩ := hsq.out.ol.rd i hil
          obtain ⟨x, hxe⟩ : ∃ x, x = fn Q i := ⟨_, rfl⟩
          rw [← hxe] at hcz
          have HX0 := hide hxe
          have hwx : W64 x := by rw [hxe]; exact hsq.out.mv.wf _ (fn_mem hil)
          have hll := HG.out.len x
          have HB0 : Hid (BFi adj (fun s => s ∈ adj u) i x 0 Q) := by rw [hxe]; exact hide ((hbf.out.1).enter hil)
          clear hxe
          obtain ⟨F, na, nc, hmvn, hlkn, hrn⟩ := fnRd HG.out hsq.out.bel x
          have hra := hide hrn
          have hmvn' := hide hmvn
          clear hmvn hrn
          by_cases hxv : x = v
          · have hxb : (x == v) = true := by simpa using hxv
            have hyes : TG adj u v := by
              rw [TG_iff, ← hxv, HX0.out]
              exact hbf.out.1.reach _ (fn_mem hil)
            have HY := hide hyes
            clear hyes hxv
            go_wp2
            go_ret
            exact ⟨⟨true, rfl, by simpa using HY.out⟩, hsq.out.bel⟩
          have hxb : (x == v) = false := by simpa using hxv
          have HNV : Hid (∀ k, k < i + 1 → fn Q k ≠ v) := hide (fun k hk => by
            by_cases e : k = i
            · subst e; rw [← HX0.out]; exact hxv
            · exact hbf.out.2 k (by omega))
          clear hxv
          go_wp2_with (at_lookup; refine wp_look _ rfl (.tmp 57) (.tmp 58) 27 rfl 22 Try.underlying27 (.slice none 0 0) (zero22 _) rfl hmvn'.out x rfl hwx _ hlkn ?_)
          go_loopw [8, 14] (fun s jj wr => ∃ (j : Nat) (a : Option Addr) (c : Nat) (Q : List Int), j ≤ (adj x).length ∧ jj = .int .i64 j ∧ s = .slice a Q.length c ∧ Hid (SQ w wr a c Q) ∧ Hid (BFi adj (fun s => s ∈ adj u) i x j Q ∧ ∀ k, k < i + 1 → fn Q k ≠ v) ∧ Q.length ≤ Vs.length) (fun _ jj _ => (adj x).length - (intOf jj).toNat)
          case atStart => exact ⟨0, _, c, Q, Nat.zero_le _, rfl, rfl, hsq, hide ⟨HB0.out, HNV.out⟩, hql⟩
          case round =>
            obtain ⟨j, a, c, Q, hj, rfl, rfl, hsq, hbi, hql⟩ := hrel
            by_cases hjl : j < (adj x).length
            · obtain ⟨y, rfl, hcy0⟩ := hra.out j hjl
              have hcy : wr.cell? (y.add j) = some (.int .i64 (fn (adj x) j)) := by
                rw [hsq.out.bel.cell (World.block_lt_of_cell? _ _ hcy0)]
                exact hcy0
              have hwj : W64 (fn (adj x) j) := HG.out.wf _ _ (fn_mem hjl)
              by_cases hx : fn (adj x) j ∈ Q
              · have hlk := look_tt hx
                have hmv := hide hsq.out.mv

                go_wp2_with (first | (at_lookup; refine wp_look _ rfl (.tmp 66) (.tmp 70) 31 rfl 4 Try.underlying31 (.bool false) (zero4 _) rfl hmv.out (fn (adj x) j) rfl hwj (.bool true) hlk ?_))
                go_wp2
                go_roundw
                case rel => exact ⟨j + 1, a, c, Q, by omega, by go_num, rfl, hsq, hide ⟨hbi.out.1.seen hjl hx, hbi.out.2⟩, by omega⟩
                case measure => simp [intOf]; omega
              · have hlk := look_ff (F := tt) (z := .bool false) hx
                have hmv := hide hsq.out.mv
                have HX := hide hx
                clear hx
                go_wp2_with (first | (at_lookup; refine wp_look _ rfl (.tmp 66) (.tmp 70) 31 rfl 4 Try.underlying31 (.bool false) (zero4 _) rfl hmv.out (fn (adj x) j) rfl hwj (.bool false) hlk ?_) | (at_mapUpdate; refine wp_store _ rfl (.tmp 73) (.tmp 77) _ 31 rfl 4 Try.underlying31 rfl hmv.out (by unfold maxLen; omega) (fn (adj x) j) rfl hwj (.bool true) rfl ?_))
                intro w1 hm1 hg1
                have hm1' := hide hm1
                have hg1' := hide hg1
                clear hm1 hg1
                have hcy1 : w1.cell? (y.add j) = some (.int .i64 (fn (adj x) j)) := by
                  rw [World.cell?_of_block (w := wr) (hg1'.out.block (y.add j).block (World.block_lt_of_cell? _ _ hcy) (by intro e; have := World.block_lt_of_cell? _ _ hcy0; simp at e; omega))]
                  exact hcy
                go_wp2_with (at_builtin; refine wpList_append_own _ rfl (.tmp 78) (.tmp 83) 22 rfl (w.heap.size + 1) 3 i0 (.int .i64 0) 1 8 Try.underlying22 hi0 hz0 hz1 hz2 rfl (by decide) _ _ _ rfl ((hsq.out.ol1 hg1'.out).1.alloc _) ⟨w1.heap.size, 0, none⟩ 1 1 [.int .i64 (fn (adj x) j)] rfl rfl (cell_one_new _ _ _) (ints_oneCell .i64 [fn (adj x) j]) (by unfold maxLen; omega) (by omega) (by have := hsq.out.sz; have := hg1'.out.size; simp; omega) ?_)
                intro v' w2 ho2 hg2 _
                obtain ⟨g', c', rfl, hsq2⟩ := hsq.out.add HX.out hm1'.out hg1'.out ho2 hg2
                have hnlen : (Q ++ [fn (adj x) j]).length ≤ Vs.length := hsq2.mv.nd.length_le_of_subset (fun y hy => (hbi.out.1.new hjl).bf.sub HGr.out HSV.out y hy)
                have HSQ := hide hsq2
                clear ho2 hg2 hsq2 hlk
                go_wp2
                go_roundw
                case rel => exact ⟨j + 1, _, c', Q ++ [fn (adj x) j], by omega, by go_num, rfl, HSQ, hide ⟨hbi.out.1.new hjl, fun k hk => by rw [fn_append (by have := hbi.out.1.lt; omega)]; exact hbi.out.2 k hk⟩, hnlen⟩
                case measure => simp [intOf]; omega

            · obtain rfl : j = (adj x).length := by omega
              have hilt := hbi.out.1.lt
              go_wp2
              go_roundw
              case rel => exact ⟨i + 1, a, c, Q, by omega, by go_num, rfl, hsq, hide ⟨hbi.out.1.leave, hbi.out.2⟩, hql⟩
              case measure => simp [intOf]; omega
        · obtain rfl : i = Q.length := by omega
          have hno : ¬ TG adj u v := by
            rw [TG_iff, ← hbf.out.1.done v]
            intro h
            obtain ⟨k, hk, e⟩ := List.mem_iff_getElem.1 h
            refine hbf.out.2 k hk ?_
            simp [fn, List.getD_eq_getElem?_getD, List.getElem?_eq_getElem hk, e]
          have HNO := hide hno
          clear hno
          go_wp2
          go_ret
          exact ⟨⟨false, rfl, by simpa using HNO.out⟩, hsq.out.bel⟩



set_option maxRecDepth 100000 in
set_option maxHeartbeats 8000000 in
theorem down_any (b : Nat) (ks Vs : List Int) (adj : Int → List Int) (sa : Option Addr) (ms sc : Nat) (f : Nat → Int) (w : World) (hms : ms ≤ 16781312) (hs : Rd w sa ms f) (hws : ∀ k, k < ms → W64 (f k)) (hsv : ∀ k, k < ms → f k ∈ Vs) (hg : GR w b ks adj) (hgr : Gr adj ks Vs) (hvl : Vs.length ≤ 16781312) :
    Calls Try.prog 12 #[.map (some b), .slice sa ms sc] w fun e w' => ∃ Q, e = .returned (.map (some w.heap.size)) ∧ Below w.heap.size w w' ∧ MV w' w.heap.size Q tt ∧ ∀ y, y ∈ Q ↔ ∃ s, (∃ k, k < ms ∧ f k = s) ∧ RT adj s y := by
  obtain ⟨i0, hi0, hz0, hz1, hz2⟩ := info_parts info3
  have HG := hide hg
  have HGr := hide hgr
  have HWS := hide hws
  have hra := hide hs
  have HSV : Hid (∀ s, (∃ k, k < ms ∧ f k = s) → s ∈ Vs) := hide (fun s ⟨k, hk, e⟩ => by rw [← e]; exact hsv k hk)
  clear hg hgr hws hs hsv
  have hmm := @run_makeMap Try.prog
  have HS0 := hide (SQ.made w)
  go_enter Try.func12, Try.ntmps12
  go_wp2
  go_loopw [6, 7] (fun s jj wr => ∃ (j : Nat) (a : Option Addr) (c : Nat) (Q : List Int), j ≤ ms ∧ jj = .int .i64 j ∧ s = .slice a Q.length c ∧ Hid (SQ w wr a c Q) ∧ Hid (∀ y, y ∈ Q ↔ ∃ k, k < j ∧ f k = y) ∧ Q.length ≤ j) (fun _ jj _ => ms - (intOf jj).toNat)
  case atStart => exact ⟨0, none, 0, [], Nat.zero_le _, rfl, rfl, HS0, hide (fun y => by simp), by simp⟩
  case round =>
    obtain ⟨j, a, c, Q, hj, rfl, rfl, hsq, hmem, hql⟩ := hrel
    by_cases hjl : j < ms
    · obtain ⟨y, rfl, hcy0⟩ := hra.out j hjl
      have hcy : wr.cell? (y.add j) = some (.int .i64 (f j)) := by
        rw [hsq.out.bel.cell (World.block_lt_of_cell? _ _ hcy0)]
        exact hcy0
      have hwj : W64 (f j) := HWS.out j hjl
      have MS : Hid (f j ∈ Q → ∀ y, y ∈ Q ↔ ∃ k, k < j + 1 ∧ f k = y) := hide (fun hx y => by
        rw [hmem.out y]
        constructor
        · rintro ⟨k, h, e⟩; exact ⟨k, by omega, e⟩
        · rintro ⟨k, h, e⟩
          by_cases ek : k = j
          · subst ek; rw [← e]; exact (hmem.out _).1 hx
          · exact ⟨k, by omega, e⟩)
      have MN : Hid (∀ y, y ∈ Q ++ [f j] ↔ ∃ k, k < j + 1 ∧ f k = y) := hide (fun y => by
        rw [List.mem_append, hmem.out y, List.mem_singleton]
        constructor
        · rintro (⟨k, h, e⟩ | e)
          · exact ⟨k, by omega, e⟩
          · exact ⟨j, by omega, e.symm⟩
        · rintro ⟨k, h, e⟩
          by_cases ek : k = j
          · subst ek; exact .inr e.symm
          · exact .inl ⟨k, by omega, e⟩)
      by_cases hx : f j ∈ Q
      · have hlk := look_tt hx
        have hmv := hide hsq.out.mv

        go_wp2_with (first | (at_lookup; refine wp_look _ rfl (.tmp 18) (.tmp 22) 31 rfl 4 Try.underlying31 (.bool false) (zero4 _) rfl hmv.out (f j) rfl hwj (.bool true) hlk ?_))
        go_wp2
        go_roundw
        case rel => exact ⟨j + 1, a, c, Q, by omega, by go_num, rfl, hsq, hide (MS.out hx), by omega⟩
        case measure => simp [intOf]; omega
      · have hlk := look_ff (F := tt) (z := .bool false) hx
        have hmv := hide hsq.out.mv
        have HX := hide hx
        clear hx
        go_wp2_with (first | (at_lookup; refine wp_look _ rfl (.tmp 18) (.tmp 22) 31 rfl 4 Try.underlying31 (.bool false) (zero4 _) rfl hmv.out (f j) rfl hwj (.bool false) hlk ?_) | (at_mapUpdate; refine wp_store _ rfl (.tmp 25) (.tmp 29) _ 31 rfl 4 Try.underlying31 rfl hmv.out (by unfold maxLen; omega) (f j) rfl hwj (.bool true) rfl ?_))
        intro w1 hm1 hg1
        have hm1' := hide hm1
        have hg1' := hide hg1
        clear hm1 hg1
        have hcy1 : w1.cell? (y.add j) = some (.int .i64 (f j)) := by
          rw [World.cell?_of_block (w := wr) (hg1'.out.block (y.add j).block (World.block_lt_of_cell? _ _ hcy) (by intro e; have := World.block_lt_of_cell? _ _ hcy0; simp at e; omega))]
          exact hcy
        go_wp2_with (at_builtin; refine wpList_append_own _ rfl (.tmp 30) (.tmp 35) 22 rfl (w.heap.size + 1) 3 i0 (.int .i64 0) 1 8 Try.underlying22 hi0 hz0 hz1 hz2 rfl (by decide) _ _ _ rfl ((hsq.out.ol1 hg1'.out).1.alloc _) ⟨w1.heap.size, 0, none⟩ 1 1 [.int .i64 (f j)] rfl rfl (cell_one_new _ _ _) (ints_oneCell .i64 [f j]) (by unfold maxLen; omega) (by omega) (by have := hsq.out.sz; have := hg1'.out.size; simp; omega) ?_)
        intro v' w2 ho2 hg2 _
        obtain ⟨g', c', rfl, hsq2⟩ := hsq.out.add HX.out hm1'.out hg1'.out ho2 hg2
        have HSQ := hide hsq2
        clear ho2 hg2 hsq2 hlk
        go_wp2
        go_roundw
        case rel => exact ⟨j + 1, _, c', Q ++ [f j], by omega, by go_num, rfl, HSQ, MN, by simp; omega⟩
        case measure => simp [intOf]; omega

    · have hjm : j = ms := by omega
      rw [hjm] at hmem hql
      clear hjm
      have hqv : Q.length ≤ Vs.length := hsq.out.mv.nd.length_le_of_subset (fun y hy => HSV.out y ((hmem.out y).1 hy))
      go_wp2
      go_loopw [6, 8] (fun s ii wr => ∃ (i : Nat) (a : Option Addr) (c : Nat) (Q : List Int), i ≤ Q.length ∧ ii = .int .i64 i ∧ s = .slice a Q.length c ∧ Hid (SQ w wr a c Q) ∧ Hid (BF adj (fun s => ∃ k, k < ms ∧ f k = s) i Q) ∧ Q.length ≤ Vs.length) (fun _ ii _ => Vs.length - (intOf ii).toNat)
      case atStart => exact ⟨0, a, c, Q, Nat.zero_le _, rfl, rfl, hsq, hide ⟨fun y hy => ⟨y, hmem.out y |>.1 hy, .inl rfl⟩, fun s hs => (hmem.out s).2 hs, fun k hk => absurd hk (Nat.not_lt_zero _)⟩, hqv⟩
      case round =>
        obtain ⟨i, a, c, Q, hi, rfl, rfl, hsq, hbf, hql⟩ := hrel
        by_cases hil : i < Q.length
        · obtain ⟨z, rfl, hcz⟩ := hsq.out.ol.rd i hil
          obtain ⟨x, hxe⟩ : ∃ x, x = fn Q i := ⟨_, rfl⟩
          rw [← hxe] at hcz
          have HX0 := hide hxe
          have hwx : W64 x := by rw [hxe]; exact hsq.out.mv.wf _ (fn_mem hil)
          have hll := HG.out.len x
          have HB0 : Hid (BFi adj (fun s => ∃ k, k < ms ∧ f k = s) i x 0 Q) := by rw [hxe]; exact hide ((hbf.out).enter hil)
          clear hxe
          obtain ⟨F, na, nc, hmvn, hlkn, hrn⟩ := fnRd HG.out hsq.out.bel x
          have hra := hide hrn
          have hmvn' := hide hmvn
          clear hmvn hrn
          go_wp2_with (at_lookup; refine wp_look _ rfl (.tmp 43) (.tmp 47) 27 rfl 22 Try.underlying27 (.slice none 0 0) (zero22 _) rfl hmvn'.out x rfl hwx _ hlkn ?_)
          go_loopw [6, 10] (fun s jj wr => ∃ (j : Nat) (a : Option Addr) (c : Nat) (Q : List Int), j ≤ (adj x).length ∧ jj = .int .i64 j ∧ s = .slice a Q.length c ∧ Hid (SQ w wr a c Q) ∧ Hid (BFi adj (fun s => ∃ k, k < ms ∧ f k = s) i x j Q) ∧ Q.length ≤ Vs.length) (fun _ jj _ => (adj x).length - (intOf jj).toNat)
          case atStart => exact ⟨0, _, c, Q, Nat.zero_le _, rfl, rfl, hsq, HB0, hql⟩
          case round =>
            obtain ⟨j, a, c, Q, hj, rfl, rfl, hsq, hbi, hql⟩ := hrel
            by_cases hjl : j < (adj x).length
            · obtain ⟨y, rfl, hcy0⟩ := hra.out j hjl
              have hcy : wr.cell? (y.add j) = some (.int .i64 (fn (adj x) j)) := by
                rw [hsq.out.bel.cell (World.block_lt_of_cell? _ _ hcy0)]
                exact hcy0
              have hwj : W64 (fn (adj x) j) := HG.out.wf _ _ (fn_mem hjl)
              by_cases hx : fn (adj x) j ∈ Q
              · have hlk := look_tt hx
                have hmv := hide hsq.out.mv

                go_wp2_with (first | (at_lookup; refine wp_look _ rfl (.tmp 55) (.tmp 59) 31 rfl 4 Try.underlying31 (.bool false) (zero4 _) rfl hmv.out (fn (adj x) j) rfl hwj (.bool true) hlk ?_))
                go_wp2
                go_roundw
                case rel => exact ⟨j + 1, a, c, Q, by omega, by go_num, rfl, hsq, hide (hbi.out.seen hjl hx), by omega⟩
                case measure => simp [intOf]; omega
              · have hlk := look_ff (F := tt) (z := .bool false) hx
                have hmv := hide hsq.out.mv
                have HX := hide hx
                clear hx
                go_wp2_with (first | (at_lookup; refine wp_look _ rfl (.tmp 55) (.tmp 59) 31 rfl 4 Try.underlying31 (.bool false) (zero4 _) rfl hmv.out (fn (adj x) j) rfl hwj (.bool false) hlk ?_) | (at_mapUpdate; refine wp_store _ rfl (.tmp 62) (.tmp 66) _ 31 rfl 4 Try.underlying31 rfl hmv.out (by unfold maxLen; omega) (fn (adj x) j) rfl hwj (.bool true) rfl ?_))
                intro w1 hm1 hg1
                have hm1' := hide hm1
                have hg1' := hide hg1
                clear hm1 hg1
                have hcy1 : w1.cell? (y.add j) = some (.int .i64 (fn (adj x) j)) := by
                  rw [World.cell?_of_block (w := wr) (hg1'.out.block (y.add j).block (World.block_lt_of_cell? _ _ hcy) (by intro e; have := World.block_lt_of_cell? _ _ hcy0; simp at e; omega))]
                  exact hcy
                go_wp2_with (at_builtin; refine wpList_append_own _ rfl (.tmp 67) (.tmp 72) 22 rfl (w.heap.size + 1) 3 i0 (.int .i64 0) 1 8 Try.underlying22 hi0 hz0 hz1 hz2 rfl (by decide) _ _ _ rfl ((hsq.out.ol1 hg1'.out).1.alloc _) ⟨w1.heap.size, 0, none⟩ 1 1 [.int .i64 (fn (adj x) j)] rfl rfl (cell_one_new _ _ _) (ints_oneCell .i64 [fn (adj x) j]) (by unfold maxLen; omega) (by omega) (by have := hsq.out.sz; have := hg1'.out.size; simp; omega) ?_)
                intro v' w2 ho2 hg2 _
                obtain ⟨g', c', rfl, hsq2⟩ := hsq.out.add HX.out hm1'.out hg1'.out ho2 hg2
                have hnlen : (Q ++ [fn (adj x) j]).length ≤ Vs.length := hsq2.mv.nd.length_le_of_subset (fun y hy => (hbi.out.new hjl).bf.sub HGr.out HSV.out y hy)
                have HSQ := hide hsq2
                clear ho2 hg2 hsq2 hlk
                go_wp2
                go_roundw
                case rel => exact ⟨j + 1, _, c', Q ++ [fn (adj x) j], by omega, by go_num, rfl, HSQ, hide (hbi.out.new hjl), hnlen⟩
                case measure => simp [intOf]; omega

            · obtain rfl : j = (adj x).length := by omega
              have hilt := hbi.out.lt
              go_wp2
              go_roundw
              case rel => exact ⟨i + 1, a, c, Q, by omega, by go_num, rfl, hsq, hide hbi.out.leave, hql⟩
              case measure => simp [intOf]; omega
        · obtain rfl : i = Q.length := by omega
          have hdn := hide (hbf.out.done)
          go_wp2
          go_ret
          exact ⟨Q, rfl, hsq.out.bel, hsq.out.mv, hdn.out⟩


end Go.Proofs.Qxb6604083a.Base
