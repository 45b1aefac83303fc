import Derived.Test.Qxb6604083aGR
/-! 'zzVertices' -/
set_option linter.unusedVariables false
namespace Go.Proofs.Qxb6604083a.Base
open Go.ChangeShapes Go.WideShapes Go.ChangeAt Go.RowKit
open Go.Proofs.Qxb6604083a.G

def tt : Int → Value := fun _ => .bool true
/-- The set 'seen' (the call's first block) and the list of its members. -/
structure SQ (w wr : World) (a : Option Addr) (c : Nat) (Q : List Int) : Prop where
  bel : Below w.heap.size w wr
  mv : MV wr w.heap.size Q tt
  ol : OL wr (w.heap.size + 1) a c Q
  sz : w.heap.size + 1 ≤ wr.heap.size
theorem SQ.made (w : World) : SQ w (w.alloc (.map #[] 0)) none 0 [] :=
  ⟨(Below.refl _ _).alloc (Nat.le_refl _) _, MV.made w _, OL.nil _ _, by simp⟩
theorem SQ.drewN {w wr : World} {a : Option Addr} {c : Nat} {Q : List Int} (h : SQ w wr a c Q) (n : Nat) : SQ w (wr.drewN n) a c Q := ⟨⟨h.bel.os, h.bel.tape, h.bel.output, h.bel.size, h.bel.block⟩, h.mv, h.ol, h.sz⟩
theorem look_tt {Q : List Int} {x : Int} (h : x ∈ Q) : lookV Q tt (.bool false) x = .bool true := by unfold lookV; rw [if_pos h]; rfl
theorem look_ff {Q : List Int} {F : Int → Value} {z : Value} {x : Int} (h : x ∉ Q) : lookV Q F z x = z := by unfold lookV; rw [if_neg h]
theorem SQ.ol1 {w wr w1 : World} {a : Option Addr} {c : Nat} {Q : List Int} (h : SQ w wr a c Q) (hg1 : wr.grownBy w1 (some w.heap.size)) : OL w1 (w.heap.size + 1) a c Q :=
  h.ol.kept hg1 (fun g e => by
    have hol := h.ol
    subst e
    have := hol.block.1
    intro e'
    simp at e'
    omega)
/-- x has come to both. -/
theorem SQ.add {w wr w1 w2 : World} {a : Option Addr} {c : Nat} {Q : List Int} {x : Int} {v' : Value} {o : Obj} (h : SQ w wr a c Q) (hx : x ∉ Q) (hm : MV w1 w.heap.size (addK Q x) (upd tt x (.bool true))) (hg1 : wr.grownBy w1 (some w.heap.size))
    (ho' : w2.ownsRow (w.heap.size + 1) 3 1 v' (Q.length + 1) (Q.map (Value.int .i64) ++ [Value.int .i64 x])) (hg2 : (w1.alloc o).grownBy w2 (Value.slice a Q.length c).ownBlock) :
    ∃ g' c', v' = .slice (some ⟨g', 0, none⟩) (Q ++ [x]).length c' ∧ SQ w w2 (some ⟨g', 0, none⟩) c' (Q ++ [x]) := by
  have ol1 := h.ol1 hg1
  obtain ⟨g', c', rfl, hol⟩ := OL.pushed ol1 ho'
  have hs := h.sz
  have hs1 := hg1.size
  have hs2 := hg2.size
  simp at hs2
  have hk : ∀ k, (Value.slice a Q.length c).ownBlock = some k → w.heap.size + 1 ≤ k := fun k e => (ol1.ownBlock k e).1
  refine ⟨g', c', rfl, ⟨?_, ?_, hol, by omega⟩⟩
  · refine ((h.bel.grown hg1 (by omega) (fun k e => by cases e; exact Nat.le_refl _)).alloc (by omega) o).grown hg2 (by simp; omega) (fun k e => by have := hk k e; omega)
  · have e1 : addK Q x = Q ++ [x] := by unfold addK; rw [if_neg hx]
    rw [e1] at hm
    have hm' : MV w1 w.heap.size (Q ++ [x]) tt := hm.congr (fun y _ => by unfold upd tt; split <;> rfl)
    refine (hm'.kept (World.grownBy_alloc w1 o none) (by simp)).kept hg2 (fun e => ?_)
    have := hk _ e.symm
    omega
theorem mem_take_succ {l : List Int} {j : Nat} {y : Int} (h : j < l.length) : y ∈ l.take (j + 1) ↔ y ∈ l.take j ∨ y = fn l j := by
  rw [List.take_succ_eq_append_getElem h, List.mem_append]
  simp [fn, List.getD_eq_getElem?_getD, List.getElem?_eq_getElem h]
theorem mem_seen {A : Int → Prop} {l Q : List Int} {j : Nat} (h : j < l.length) (hm : ∀ y, y ∈ Q ↔ (A y ∨ y ∈ l.take j)) (hx : fn l j ∈ Q) : ∀ y, y ∈ Q ↔ (A y ∨ y ∈ l.take (j + 1)) := by
  intro y
  rw [mem_take_succ h, ← or_assoc, ← hm y]
  constructor
  · exact .inl
  · rintro (h | rfl)
    · exact h
    · exact hx
theorem mem_new {A : Int → Prop} {l Q : List Int} {j : Nat} (h : j < l.length) (hm : ∀ y, y ∈ Q ↔ (A y ∨ y ∈ l.take j)) : ∀ y, y ∈ Q ++ [fn l j] ↔ (A y ∨ y ∈ l.take (j + 1)) := by
  intro y
  rw [mem_take_succ h, ← or_assoc, ← hm y]
  simp
theorem fn_mem {l : List Int} {j : Nat} (h : j < l.length) : fn l j ∈ l := by
  simp [fn, List.getD_eq_getElem?_getD, List.getElem?_eq_getElem h]

/-- What 'zzVertices' answers. -/
theorem fnRd {w w' : World} {b : Nat} {ks : List Int} {adj : Int → List Int} (h : GR w b ks adj) (hb : Below w.heap.size w w') (x : Int) : ∃ F a c, MV w' b ks F ∧ lookV ks F (.slice none 0 0) x = .slice a (adj x).length c ∧ Rd w a (adj x).length (fn (adj x)) := by
  obtain ⟨F, a, c, h1, h2, h3⟩ := h.look x
  exact ⟨F, a, c, h1.below hb h1.lt, h2, h3⟩

set_option maxRecDepth 100000 in
set_option maxHeartbeats 4000000 in
theorem verts_any (a0 : Option Addr) (n c0 b : Nat) (K : Nat → Int) (ks : List Int) (adj : Int → List Int) (w : World) (hn : n ≤ 4096) (hk : Rd w a0 n K) (hw : ∀ i, i < n → W64 (K i)) (hg : GR w b ks adj) :
    Calls Try.prog 10 #[.slice a0 n c0, .map (some b)] w fun e w' => ∃ a c Q, e = .returned (.slice a Q.length c) ∧ Below w.heap.size w w' ∧ Rd w' a Q.length (fn Q) ∧ Q.Nodup ∧ (∀ y ∈ Q, W64 y) ∧ Q.length ≤ 4096 * 4097 ∧
      ∀ y, y ∈ Q ↔ ∃ i, i < n ∧ (y = K i ∨ y ∈ adj (K i)) := by
  obtain ⟨i0, hi0, hz0, hz1, hz2⟩ := info_parts info3
  have HK := hide hk
  have HW := hide hw
  have HG := hide hg
  clear hk hw hg
  have hmm := @run_makeMap Try.prog
  have HS0 := hide (SQ.made w)
  go_enter Try.func10, Try.ntmps10
  go_wp2
  go_loopw [6, 7] (fun s ii wr => ∃ (i : Nat) (a : Option Addr) (c : Nat) (Q : List Int), i ≤ n ∧ ii = .int .i64 i ∧ s = .slice a Q.length c ∧ Hid (SQ w wr a c Q) ∧ Hid (∀ y, y ∈ Q ↔ ∃ i', i' < i ∧ (y = K i' ∨ y ∈ adj (K i'))) ∧ Q.length ≤ i * 4097) (fun _ ii _ => n - (intOf ii).toNat)
  case atStart => exact ⟨0, none, 0, [], Nat.zero_le _, rfl, rfl, HS0, (fun y => by simp), by simp⟩
  case round =>
    obtain ⟨i, a, c, Q, hi, rfl, rfl, hsq, hmem, hql⟩ := hrel
    have hi4 : i * 4097 ≤ 4096 * 4097 := Nat.mul_le_mul_right _ (by omega)
    by_cases hil : i < n
    · obtain ⟨x, rfl, hcx0⟩ := HK.out i hil
      have hcx : wr.cell? (x.add i) = some (.int .i64 (K i)) := by
        rw [hsq.out.bel.cell (World.block_lt_of_cell? _ _ hcx0)]
        exact hcx0
      have hwi := HW.out i hil
      have hll := HG.out.len (K i)
      have m0 : K i ∈ Q → ∀ y, y ∈ Q ↔ (((∃ i', i' < i ∧ (y = K i' ∨ y ∈ adj (K i'))) ∨ y = K i) ∨ y ∈ (adj (K i)).take 0) := fun hx y => by
        rw [← hmem.out y]
        simp
        rintro rfl
        exact hx
      have m1 : ∀ y, y ∈ Q ++ [K i] ↔ (((∃ i', i' < i ∧ (y = K i' ∨ y ∈ adj (K i'))) ∨ y = K i) ∨ y ∈ (adj (K i)).take 0) := fun y => by
        rw [← hmem.out y]
        simp
      have M0 := hide m0
      have M1 := hide m1
      clear m0 m1
      by_cases hx : K i ∈ Q
      · have hlk := look_tt hx
        have hmv := hide hsq.out.mv
        obtain ⟨F, na, nc, hmvn, hlkn, hrn⟩ := fnRd HG.out hsq.out.bel (K i)
        have hra := hide hrn
        have hmvn' := hide hmvn
        clear hmvn hrn

        go_wp2_with (first | (at_lookup; refine wp_look _ rfl (.tmp 22) (.tmp 23) 31 rfl 4 Try.underlying31 (.bool false) (zero4 _) rfl hmv.out (K i) rfl hwi (.bool true) hlk ?_) | (at_lookup; refine wp_look _ rfl (.tmp 32) (.tmp 33) 27 rfl 22 Try.underlying27 (.slice none 0 0) (zero22 _) rfl hmvn'.out (K i) rfl hwi _ hlkn ?_))
        go_loopw [6, 10] (fun s jj wr => ∃ (j : Nat) (a : Option Addr) (c : Nat) (Q : List Int), j ≤ (adj (K i)).length ∧ jj = .int .i64 j ∧ s = .slice a Q.length c ∧ Hid (SQ w wr a c Q) ∧
            Hid (∀ y, y ∈ Q ↔ (((∃ i', i' < i ∧ (y = K i' ∨ y ∈ adj (K i'))) ∨ y = K i) ∨ y ∈ (adj (K i)).take j)) ∧ Q.length ≤ i * 4097 + 1 + j) (fun _ jj _ => (adj (K i)).length - (intOf jj).toNat)
        case atStart => exact ⟨0, a, c, Q, Nat.zero_le _, rfl, rfl, hsq, hide (M0.out hx), by omega⟩
        case round =>
          obtain ⟨j, a, c, Q, hj, rfl, rfl, hsq, hmem, hql⟩ := hrel
          by_cases hjl : j < (adj (K i)).length
          · obtain ⟨y, rfl, hcy0⟩ := hra.out j hjl
            have hcy : wr.cell? (y.add j) = some (.int .i64 (fn (adj (K i)) j)) := by
              rw [hsq.out.bel.cell (World.block_lt_of_cell? _ _ hcy0)]
              exact hcy0
            have hwj : W64 (fn (adj (K i)) j) := HG.out.wf _ _ (fn_mem hjl)
            by_cases hx : fn (adj (K i)) j ∈ Q
            · have hlk := look_tt hx
              have hmv := hide hsq.out.mv

              go_wp2_with (first | (at_lookup; refine wp_look _ rfl (.tmp 41) (.tmp 45) 31 rfl 4 Try.underlying31 (.bool false) (zero4 _) rfl hmv.out (fn (adj (K i)) j) rfl hwj (.bool true) hlk ?_))
              go_wp2
              go_roundw
              case rel => exact ⟨j + 1, a, c, Q, by omega, by go_num, rfl, hsq, hide (mem_seen hjl hmem.out hx), by omega⟩
              case measure => simp [intOf]; omega
            · have hlk := look_ff (F := tt) (z := .bool false) hx
              have hmv := hide hsq.out.mv
              have HX := hide hx
              clear hx
              go_wp2_with (first | (at_lookup; refine wp_look _ rfl (.tmp 41) (.tmp 45) 31 rfl 4 Try.underlying31 (.bool false) (zero4 _) rfl hmv.out (fn (adj (K i)) j) rfl hwj (.bool false) hlk ?_) | (at_mapUpdate; refine wp_store _ rfl (.tmp 48) (.tmp 52) _ 31 rfl 4 Try.underlying31 rfl hmv.out (by unfold maxLen; omega) (fn (adj (K i)) j) rfl hwj (.bool true) rfl ?_))
              intro w1 hm1 hg1
              have hm1' := hide hm1
              have hg1' := hide hg1
              clear hm1 hg1
              have hcy1 : w1.cell? (y.add j) = some (.int .i64 (fn (adj (K i)) j)) := by
                rw [World.cell?_of_block (w := wr) (hg1'.out.block (y.add j).block (World.block_lt_of_cell? _ _ hcy) (by intro e; have := World.block_lt_of_cell? _ _ hcy0; simp at e; omega))]
                exact hcy
              go_wp2_with (at_builtin; refine wpList_append_own _ rfl (.tmp 53) (.tmp 58) 22 rfl (w.heap.size + 1) 3 i0 (.int .i64 0) 1 8 Try.underlying22 hi0 hz0 hz1 hz2 rfl (by decide) _ _ _ rfl ((hsq.out.ol1 hg1'.out).1.alloc _) ⟨w1.heap.size, 0, none⟩ 1 1 [.int .i64 (fn (adj (K i)) j)] rfl rfl (cell_one_new _ _ _) (ints_oneCell .i64 [fn (adj (K i)) j]) (by unfold maxLen; omega) (by omega) (by have := hsq.out.sz; have := hg1'.out.size; simp; omega) ?_)
              intro v' w2 ho2 hg2 _
              obtain ⟨g', c', rfl, hsq2⟩ := hsq.out.add HX.out hm1'.out hg1'.out ho2 hg2
              have HSQ := hide hsq2
              clear ho2 hg2 hsq2 hlk
              go_wp2
              go_roundw
              case rel => exact ⟨j + 1, _, c', Q ++ [fn (adj (K i)) j], by omega, by go_num, rfl, HSQ, hide (mem_new hjl hmem.out), by simp; omega⟩
              case measure => simp [intOf]; omega

          · obtain rfl : j = (adj (K i)).length := by omega
            have HM : Hid (∀ y, y ∈ Q ↔ ∃ i', i' < i + 1 ∧ (y = K i' ∨ y ∈ adj (K i'))) := fun y => by
              rw [hmem.out y, List.take_length]
              constructor
              · rintro ((⟨i', h, e⟩ | e) | e)
                · exact ⟨i', by omega, e⟩
                · exact ⟨i, by omega, .inl e⟩
                · exact ⟨i, by omega, .inr e⟩
              · rintro ⟨i', h, e⟩
                by_cases ei : i' = i
                · subst ei; exact e.elim (fun e => .inl (.inr e)) .inr
                · exact .inl (.inl ⟨i', by omega, e⟩)
            go_wp2
            go_roundw
            case rel => exact ⟨i + 1, a, c, Q, by omega, by go_num, rfl, hsq, HM, by omega⟩
            case measure => simp [intOf]; omega

      · have hlk := look_ff (F := tt) (z := .bool false) hx
        have hmv := hide hsq.out.mv
        have HX := hide hx
        clear hx
        go_wp2_with (first | (at_lookup; refine wp_look _ rfl (.tmp 22) (.tmp 23) 31 rfl 4 Try.underlying31 (.bool false) (zero4 _) rfl hmv.out (K i) rfl hwi (.bool false) hlk ?_) | (at_mapUpdate; refine wp_store _ rfl (.tmp 26) (.tmp 27) _ 31 rfl 4 Try.underlying31 rfl hmv.out (by unfold maxLen; omega) (K i) rfl hwi (.bool true) rfl ?_))
        intro w1 hm1 hg1
        have hm1' := hide hm1
        have hg1' := hide hg1
        clear hm1 hg1

        go_wp2_with (at_builtin; refine wpList_append_own _ rfl (.tmp 28) (.tmp 30) 22 rfl (w.heap.size + 1) 3 i0 (.int .i64 0) 1 8 Try.underlying22 hi0 hz0 hz1 hz2 rfl (by decide) _ _ _ rfl ((hsq.out.ol1 hg1'.out).1.alloc _) ⟨w1.heap.size, 0, none⟩ 1 1 [.int .i64 (K i)] rfl rfl (cell_one_new _ _ _) (ints_oneCell .i64 [K i]) (by unfold maxLen; omega) (by omega) (by have := hsq.out.sz; have := hg1'.out.size; simp; omega) ?_)
        intro v' w2 ho2 hg2 _
        obtain ⟨g', c', rfl, hsq2⟩ := hsq.out.add HX.out hm1'.out hg1'.out ho2 hg2
        have HSQ := hide hsq2
        clear ho2 hg2 hsq2 hlk
        obtain ⟨F, na, nc, hmvn, hlkn, hrn⟩ := fnRd HG.out HSQ.out.bel (K i)
        have hra := hide hrn
        have hmvn' := hide hmvn
        clear hmvn hrn
        go_wp2_with (at_lookup; refine wp_look _ rfl (.tmp 32) (.tmp 33) 27 rfl 22 Try.underlying27 (.slice none 0 0) (zero22 _) rfl hmvn'.out (K i) rfl hwi _ hlkn ?_)
        go_loopw [6, 10] (fun s jj wr => ∃ (j : Nat) (a : Option Addr) (c : Nat) (Q : List Int), j ≤ (adj (K i)).length ∧ jj = .int .i64 j ∧ s = .slice a Q.length c ∧ Hid (SQ w wr a c Q) ∧
            Hid (∀ y, y ∈ Q ↔ (((∃ i', i' < i ∧ (y = K i' ∨ y ∈ adj (K i'))) ∨ y = K i) ∨ y ∈ (adj (K i)).take j)) ∧ Q.length ≤ i * 4097 + 1 + j) (fun _ jj _ => (adj (K i)).length - (intOf jj).toNat)
        case atStart => exact ⟨0, _, c', Q ++ [K i], Nat.zero_le _, rfl, by simp, HSQ, M1, by simp; omega⟩
        case round =>
          obtain ⟨j, a, c, Q, hj, rfl, rfl, hsq, hmem, hql⟩ := hrel
          by_cases hjl : j < (adj (K i)).length
          · obtain ⟨y, rfl, hcy0⟩ := hra.out j hjl
            have hcy : wr.cell? (y.add j) = some (.int .i64 (fn (adj (K i)) j)) := by
              rw [hsq.out.bel.cell (World.block_lt_of_cell? _ _ hcy0)]
              exact hcy0
            have hwj : W64 (fn (adj (K i)) j) := HG.out.wf _ _ (fn_mem hjl)
            by_cases hx : fn (adj (K i)) j ∈ Q
            · have hlk := look_tt hx
              have hmv := hide hsq.out.mv

              go_wp2_with (first | (at_lookup; refine wp_look _ rfl (.tmp 41) (.tmp 45) 31 rfl 4 Try.underlying31 (.bool false) (zero4 _) rfl hmv.out (fn (adj (K i)) j) rfl hwj (.bool true) hlk ?_))
              go_wp2
              go_roundw
              case rel => exact ⟨j + 1, a, c, Q, by omega, by go_num, rfl, hsq, hide (mem_seen hjl hmem.out hx), by omega⟩
              case measure => simp [intOf]; omega
            · have hlk := look_ff (F := tt) (z := .bool false) hx
              have hmv := hide hsq.out.mv
              have HX := hide hx
              clear hx
              go_wp2_with (first | (at_lookup; refine wp_look _ rfl (.tmp 41) (.tmp 45) 31 rfl 4 Try.underlying31 (.bool false) (zero4 _) rfl hmv.out (fn (adj (K i)) j) rfl hwj (.bool false) hlk ?_) | (at_mapUpdate; refine wp_store _ rfl (.tmp 48) (.tmp 52) _ 31 rfl 4 Try.underlying31 rfl hmv.out (by unfold maxLen; omega) (fn (adj (K i)) j) rfl hwj (.bool true) rfl ?_))
              intro w1 hm1 hg1
              have hm1' := hide hm1
              have hg1' := hide hg1
              clear hm1 hg1
              have hcy1 : w1.cell? (y.add j) = some (.int .i64 (fn (adj (K i)) j)) := by
                rw [World.cell?_of_block (w := wr) (hg1'.out.block (y.add j).block (World.block_lt_of_cell? _ _ hcy) (by intro e; have := World.block_lt_of_cell? _ _ hcy0; simp at e; omega))]
                exact hcy
              go_wp2_with (at_builtin; refine wpList_append_own _ rfl (.tmp 53) (.tmp 58) 22 rfl (w.heap.size + 1) 3 i0 (.int .i64 0) 1 8 Try.underlying22 hi0 hz0 hz1 hz2 rfl (by decide) _ _ _ rfl ((hsq.out.ol1 hg1'.out).1.alloc _) ⟨w1.heap.size, 0, none⟩ 1 1 [.int .i64 (fn (adj (K i)) j)] rfl rfl (cell_one_new _ _ _) (ints_oneCell .i64 [fn (adj (K i)) j]) (by unfold maxLen; omega) (by omega) (by have := hsq.out.sz; have := hg1'.out.size; simp; omega) ?_)
              intro v' w2 ho2 hg2 _
              obtain ⟨g', c', rfl, hsq2⟩ := hsq.out.add HX.out hm1'.out hg1'.out ho2 hg2
              have HSQ := hide hsq2
              clear ho2 hg2 hsq2 hlk
              go_wp2
              go_roundw
              case rel => exact ⟨j + 1, _, c', Q ++ [fn (adj (K i)) j], by omega, by go_num, rfl, HSQ, hide (mem_new hjl hmem.out), by simp; omega⟩
              case measure => simp [intOf]; omega

          · obtain rfl : j = (adj (K i)).length := by omega
            have HM : Hid (∀ y, y ∈ Q ↔ ∃ i', i' < i + 1 ∧ (y = K i' ∨ y ∈ adj (K i'))) := fun y => by
              rw [hmem.out y, List.take_length]
              constructor
              · rintro ((⟨i', h, e⟩ | e) | e)
                · exact ⟨i', by omega, e⟩
                · exact ⟨i, by omega, .inl e⟩
                · exact ⟨i, by omega, .inr e⟩
              · rintro ⟨i', h, e⟩
                by_cases ei : i' = i
                · subst ei; exact e.elim (fun e => .inl (.inr e)) .inr
                · exact .inl (.inl ⟨i', by omega, e⟩)
            go_wp2
            go_roundw
            case rel => exact ⟨i + 1, a, c, Q, by omega, by go_num, rfl, hsq, HM, by omega⟩
            case measure => simp [intOf]; omega


    · obtain rfl : i = n := by omega
      have HR := hide hsq.out.ol.rd
      have HN := hide hsq.out.mv.nd
      have HWF := hide hsq.out.mv.wf
      go_wp2
      go_ret
      exact ⟨a, c, Q, rfl, hsq.out.bel, HR.out, HN.out, HWF.out, by omega, hmem.out⟩
end Go.Proofs.Qxb6604083a.Base
