import Derived.Test.Qxb6604234aReads
/-! 'missing', 'ZZMissing' -/
set_option linter.unusedVariables false
namespace Go.Proofs.Qxb6604234a.Base
open Go.ChangeShapes Go.WideShapes Go.ChangeAt Go.RowKit
open Go.Proofs.Qxb6604234a.Plain

theorem info39 : (Try.prog.info? 39).map (fun i => (i.zero, i.size, i.bytes)) = some (some (.agg #[.int .i64 0, .int .i64 0]), 2, 16) := by kernel_rfl

def ints (L : List Int) : List Value := L.map (Value.int .i64)

theorem own_shape {w : World} {base n : Nat} {v : Value} {xs : List Value} (h : w.ownsRow base 2 1 v n xs) : (v = .slice none 0 0 ∧ n = 0) ∨ ∃ g c, v = .slice (some ⟨g, 0, none⟩) n c := by
  rcases h.2 with h | ⟨g, c, _, h, _⟩
  · exact .inl h
  · exact .inr ⟨g, c, h⟩
theorem own_any {w : World} {base n : Nat} {v : Value} {xs : List Value} (h : w.ownsRow base 2 1 v n xs) : ∃ a c, v = .slice a n c ∧ (0 < n → ∃ g, a = some ⟨g, 0, none⟩) := by
  rcases own_shape h with ⟨rfl, rfl⟩ | ⟨g, c, rfl⟩
  · exact ⟨_, _, rfl, fun h => absurd h (Nat.lt_irrefl _)⟩
  · exact ⟨_, _, rfl, fun _ => ⟨g, rfl⟩⟩
theorem own_rd {w : World} {base c : Nat} {a : Option Addr} {L : List Int} (h : w.ownsRow base 2 1 (.slice a L.length c) L.length (ints L)) (ha : 0 < L.length → ∃ g, a = some ⟨g, 0, none⟩) : Rd w a L.length (fun i => L.getD i 0) := by
  intro i hi
  obtain ⟨g, rfl⟩ := ha (by omega)
  refine ⟨_, rfl, ?_⟩
  rw [Addr.add_lit, Nat.zero_add, h.cellAt i (by omega)]
  simp [ints, List.getD_eq_getElem?_getD, List.getElem?_eq_getElem hi]

/-- Behind the append. -/
theorem pushed {w wr w1 : World} {a : Option Addr} {c : Nat} {L : List Int} {next : Int} {v' : Value} (hb : Below w.heap.size w wr) (ho : wr.ownsRow w.heap.size 2 1 (.slice a L.length c) L.length (ints L))
    (ho' : w1.ownsRow w.heap.size 2 1 v' (L.length + 1) (ints L ++ [Value.int .i64 next])) (hg : (wr.alloc (Obj.cells #[Value.int .i64 next] 2)).grownBy w1 (Value.slice a L.length c).ownBlock) :
    ∃ g' c', v' = .slice (some ⟨g', 0, none⟩) (L ++ [next]).length c' ∧ Below w.heap.size w w1 ∧ w1.ownsRow w.heap.size 2 1 (.slice (some ⟨g', 0, none⟩) (L ++ [next]).length c') (L ++ [next]).length (ints (L ++ [next])) := by
  have e1 : (L ++ [next]).length = L.length + 1 := by simp
  have e2 : ints (L ++ [next]) = ints L ++ [Value.int .i64 next] := by simp [ints]
  rw [e1, e2]
  rcases own_shape ho' with ⟨_, h⟩ | ⟨g', c', rfl⟩
  · omega
  · exact ⟨g', c', rfl, (hb.alloc hb.size _).grown hg (by have := hb.size; simp; omega) (fun k hk => (ho.lt k hk).1), ho'⟩

/-- The runs at ⟨g, o⟩, n of them. -/
def RRd (w : World) (g o n : Nat) (f e : Nat → Int) : Prop := ∀ i, i < n → w.cell? ⟨g, o + i * 2, none⟩ = some (.int .i64 (f i)) ∧ w.cell? ⟨g, o + i * 2 + 1, none⟩ = some (.int .i64 (e i))

set_option maxRecDepth 100000 in
set_option maxHeartbeats 2000000 in
theorem missing_any (g o n : Nat) (lo hi : Nat → Int) (highest k : Int) (w : World) (hn : n ≤ 1048576) (hh : highest ≤ 9223372036854775807) (hk : k ≤ 1048576) (hr : RRd w g o n lo hi) (v : Valid n lo hi) (hhi : ∀ i, i < n → hi i ≤ 9223372036854775807) :
    Calls Try.prog 18 #[.slice (some ⟨g, o, none⟩) n n, .int .i64 highest, .int .i64 k] w fun r w' =>
      ∃ (a : Option Addr) (c : Nat) (L : List Int), r = .returned (.slice a L.length c) ∧ Below w.heap.size w w' ∧ Rd w' a L.length (fun i => L.getD i 0) ∧ (L.length = 0 → a = none) ∧ Ans n lo hi highest k L := by
  obtain ⟨i0, hi0, hz0, hz1, hz2⟩ := info_parts info2
  have HR := hide hr
  have V := hide v
  have HH := hide hhi
  clear hr v hhi
  go_enter Try.func18, Try.ntmps18
  go_wp2
  go_loopw [7, 8, 9] (fun s x y wr => ∃ (a : Option Addr) (c : Nat) (L : List Int) (next : Int) (i : Nat), s = .slice a L.length c ∧ x = .int .i64 next ∧ y = .int .i64 i ∧ i ≤ n ∧ Hid (Inv n lo hi highest L next i) ∧ Hid (Below w.heap.size w wr) ∧
      Hid (wr.ownsRow w.heap.size 2 1 (.slice a L.length c) L.length (ints L)) ∧ Hid (0 < L.length → ∃ g, a = some ⟨g, 0, none⟩) ∧ Hid (L.length = 0 → a = none) ∧ Hid ((L.length : Int) ≤ max 0 k) ∧ Hid (next ≤ highest ∨ (L = [] ∧ next = 1)))
    (fun _ x _ _ => (highest + 1 - intOf x).toNat)
  case atStart => exact ⟨none, 0, [], 1, 0, rfl, rfl, rfl, Nat.zero_le _, Inv.start n lo hi highest V.out, Below.refl _ _, World.ownsRow_nil _ _ _ _, fun h => absurd h (Nat.lt_irrefl _), fun _ => rfl, by show (0 : Int) ≤ max 0 k; omega, .inr ⟨rfl, rfl⟩⟩
  case round =>
    obtain ⟨a, c, L, next, i, rfl, rfl, rfl, hin, hinv, hb, ho, hag, han, hlk, hnx⟩ := hrel
    have hpos := hinv.out.pos
    by_cases h1 : (L.length : Int) < k
    · by_cases h2 : next ≤ highest
      · have hL : L.length + 1 ≤ 1048576 := by omega
        by_cases h3 : i < n ∧ lo i = next
        · obtain ⟨hi1, he⟩ := h3
          obtain ⟨hc1, hc2⟩ := HR.out i hi1
          have hg : g < w.heap.size := World.block_lt_of_cell? _ _ hc1
          have hc1' : wr.cell? ⟨g, o + i * 2, none⟩ = some (.int .i64 next) := by rw [hb.out.cell (by exact hg), hc1, he]
          have hc2' : wr.cell? ⟨g, o + i * 2 + 1, none⟩ = some (.int .i64 (hi i)) := by rw [hb.out.cell (by exact hg)]; exact hc2
          have hnn : (next == next) = true := by simp
          have HE : Hid (lo i = next) := he
          clear hc1 hc2 he
          by_cases h4 : highest ≤ hi i
          · have hans := hide (hinv.out.ans k (by rw [hinv.out.hit V.out h2 hi1 HE.out h4]; omega))
            have HO := hide (own_rd ho.out hag.out)
            clear ho
            go_wp2
            go_ret
            exact ⟨a, c, L, rfl, hb.out, HO.out, han.out, hans.out⟩
          · have hskip := hide (hinv.out.skip V.out hi1 HE.out)
            have hlh := (V.out i hi1).2.1
            have hq : Hid (next ≤ hi i) := by refine hide ?_; rw [← HE.out]; exact hlh
            have hq1 : 1 ≤ hi i := by have := hq.out; omega
            have hq2 : hi i + 1 ≤ 9223372036854775807 := by omega
            clear hlh
            go_wp2
            go_roundw
            case rel => exact ⟨a, c, L, hi i + 1, i + 1, rfl, rfl, by go_num, by omega, hskip, hb, ho, hag, han, hlk, .inl (by omega)⟩
            case measure => have := hq.out; simp [intOf]; omega
        · have hne : i < n → lo i ≠ next := fun h e => h3 ⟨h, e⟩
          have HNE := hide hne
          have hpush := hide (hinv.out.push V.out h2 hne)
          clear hne h3
          by_cases hi1 : i < n
          · obtain ⟨hc1, hc2⟩ := HR.out i hi1
            have hg : g < w.heap.size := World.block_lt_of_cell? _ _ hc1
            have hc1' : wr.cell? ⟨g, o + i * 2, none⟩ = some (.int .i64 (lo i)) := by rw [hb.out.cell (by exact hg)]; exact hc1
            have hnn : (lo i == next) = false := by have := HNE.out hi1; simpa using this
            clear hc1 hc2
            by_cases h5 : next = highest
            · have h5b : (next == highest) = true := by simpa using h5
              have hans := hide (hpush.out.ans k (by rw [hinv.out.last V.out h5 HNE.out]; simp; omega))
              clear h5
              go_wp2_with (at_builtin; refine wpList_append_own _ rfl (.tmp 47) (.tmp 49) 22 rfl w.heap.size 2 i0 (.int .i64 0) 1 8 Try.underlying22 hi0 hz0 hz1 hz2 rfl (by decide) _ _ _ rfl (ho.out.alloc _) ⟨wr.heap.size, 0, none⟩ 1 1 [.int .i64 next] rfl rfl (cell_one_new _ _ _) (ints_oneCell .i64 [next]) (by unfold maxLen; omega) (by omega) (by have := hb.out.size; simp; omega) ?_)
              intro v' w1 ho' hg' _
              obtain ⟨g', c', rfl, hb1, ho1⟩ := pushed hb.out ho.out ho' hg'
              have HO := hide (own_rd ho1 (fun _ => ⟨g', rfl⟩))
              have HB := hide hb1
              clear ho' hg' ho1 hb1 ho
              go_wp2
              go_ret
              exact ⟨_, c', L ++ [next], rfl, HB.out, HO.out, fun h => by simp at h, hans.out⟩
            · have h5b : (next == highest) = false := by simpa using h5
              have h6 : next + 1 ≤ highest := by omega
              clear h5
              go_wp2_with (at_builtin; refine wpList_append_own _ rfl (.tmp 47) (.tmp 49) 22 rfl w.heap.size 2 i0 (.int .i64 0) 1 8 Try.underlying22 hi0 hz0 hz1 hz2 rfl (by decide) _ _ _ rfl (ho.out.alloc _) ⟨wr.heap.size, 0, none⟩ 1 1 [.int .i64 next] rfl rfl (cell_one_new _ _ _) (ints_oneCell .i64 [next]) (by unfold maxLen; omega) (by omega) (by have := hb.out.size; simp; omega) ?_)
              intro v' w1 ho' hg' _
              obtain ⟨g', c', rfl, hb1, ho1⟩ := pushed hb.out ho.out ho' hg'
              have HO := hide ho1
              have HB := hide hb1
              clear ho' hg' ho1 hb1 ho
              go_wp2
              go_roundw
              case rel => exact ⟨_, c', L ++ [next], next + 1, i, rfl, rfl, rfl, hin, hpush, HB, HO, (fun _ => ⟨g', rfl⟩), (fun h => by simp at h), (by show ((L ++ [next]).length : Int) ≤ max 0 k; simp; omega), .inl h6⟩
              case measure => simp [intOf]; omega

          · skip
            by_cases h5 : next = highest
            · have h5b : (next == highest) = true := by simpa using h5
              have hans := hide (hpush.out.ans k (by rw [hinv.out.last V.out h5 HNE.out]; simp; omega))
              clear h5
              go_wp2_with (at_builtin; refine wpList_append_own _ rfl (.tmp 47) (.tmp 49) 22 rfl w.heap.size 2 i0 (.int .i64 0) 1 8 Try.underlying22 hi0 hz0 hz1 hz2 rfl (by decide) _ _ _ rfl (ho.out.alloc _) ⟨wr.heap.size, 0, none⟩ 1 1 [.int .i64 next] rfl rfl (cell_one_new _ _ _) (ints_oneCell .i64 [next]) (by unfold maxLen; omega) (by omega) (by have := hb.out.size; simp; omega) ?_)
              intro v' w1 ho' hg' _
              obtain ⟨g', c', rfl, hb1, ho1⟩ := pushed hb.out ho.out ho' hg'
              have HO := hide (own_rd ho1 (fun _ => ⟨g', rfl⟩))
              have HB := hide hb1
              clear ho' hg' ho1 hb1 ho
              go_wp2
              go_ret
              exact ⟨_, c', L ++ [next], rfl, HB.out, HO.out, fun h => by simp at h, hans.out⟩
            · have h5b : (next == highest) = false := by simpa using h5
              have h6 : next + 1 ≤ highest := by omega
              clear h5
              go_wp2_with (at_builtin; refine wpList_append_own _ rfl (.tmp 47) (.tmp 49) 22 rfl w.heap.size 2 i0 (.int .i64 0) 1 8 Try.underlying22 hi0 hz0 hz1 hz2 rfl (by decide) _ _ _ rfl (ho.out.alloc _) ⟨wr.heap.size, 0, none⟩ 1 1 [.int .i64 next] rfl rfl (cell_one_new _ _ _) (ints_oneCell .i64 [next]) (by unfold maxLen; omega) (by omega) (by have := hb.out.size; simp; omega) ?_)
              intro v' w1 ho' hg' _
              obtain ⟨g', c', rfl, hb1, ho1⟩ := pushed hb.out ho.out ho' hg'
              have HO := hide ho1
              have HB := hide hb1
              clear ho' hg' ho1 hb1 ho
              go_wp2
              go_roundw
              case rel => exact ⟨_, c', L ++ [next], next + 1, i, rfl, rfl, rfl, hin, hpush, HB, HO, (fun _ => ⟨g', rfl⟩), (fun h => by simp at h), (by show ((L ++ [next]).length : Int) ≤ max 0 k; simp; omega), .inl h6⟩
              case measure => simp [intOf]; omega

      · have hz := hnx.out
        have hL0 : L = [] := by rcases hz with h | h; · exact absurd h h2
                                · exact h.1
        have hn1 : next = 1 := by rcases hz with h | h; · exact absurd h h2
                                  · exact h.2
        subst hL0 hn1
        have hans := hide (hinv.out.ans k (by rw [C_low n lo hi highest (by omega)]; simp only [List.length_nil]; omega))
        have HO := hide (own_rd ho.out hag.out)
        clear ho hz
        have h2d : decide ((1 : Int) ≤ highest) = false := by simpa using h2
        go_wp2
        go_ret
        exact ⟨a, c, [], rfl, hb.out, HO.out, (fun _ => han.out rfl), hans.out⟩
    · have hans := hide (hinv.out.ans k (by
        have hl := hlk.out
        rcases hnx.out with h | ⟨h, _⟩
        · have := hinv.out.full V.out h; omega
        · subst h; simp only [List.length_nil] at h1 ⊢; omega))
      have HO := hide (own_rd ho.out hag.out)
      clear ho
      have h1d : decide ((L.length : Int) < k) = false := by simpa using h1
      go_wp2
      go_ret
      exact ⟨a, c, L, rfl, hb.out, HO.out, (fun h => han.out (by first | exact h | simp [h])), hans.out⟩

theorem runs_step {wr : World} {base g n c k : Nat} {xs : List Value} {f e : Nat → Int} (hk : k < n) (ho : wr.ownsRow base 39 2 (.slice (some ⟨g, 0, none⟩) n c) n xs)
    (hxs : ∀ j, j < k → xs[j * 2]? = some (.int .i64 (f j)) ∧ xs[j * 2 + 1]? = some (.int .i64 (e j))) :
    ∃ xs', ((wr.setCell ⟨g, k * 2, none⟩ (.int .i64 (f k))).setCell ⟨g, k * 2 + 1, none⟩ (.int .i64 (e k))).drew.ownsRow base 39 2 (.slice (some ⟨g, 0, none⟩) n c) n xs' ∧
      ∀ j, j < k + 1 → xs'[j * 2]? = some (.int .i64 (f j)) ∧ xs'[j * 2 + 1]? = some (.int .i64 (e j)) := by
  have hlen := ho.1
  refine ⟨_, ((ho.stored (k * 2) (.int .i64 (f k))).1.stored (k * 2 + 1) (.int .i64 (e k))).1, fun j hj => ?_⟩
  simp only [List.getElem?_set, List.length_set]
  by_cases ej : j = k
  · subst ej
    refine ⟨?_, ?_⟩
    · rw [if_neg (by omega), if_pos rfl, if_pos (by omega)]
    · rw [if_pos rfl, if_pos (by omega)]
  · obtain ⟨h1, h2⟩ := hxs j (by omega)
    refine ⟨?_, ?_⟩
    · rw [if_neg (by omega), if_neg (by omega)]; exact h1
    · rw [if_neg (by omega), if_neg (by omega)]; exact h2

set_option maxHeartbeats 1000000 in
theorem zzmissing_any (a b : Option Addr) (n c d : Nat) (lo hi : Nat → Int) (highest k : Int) (w : World) (hn : n ≤ 1048576) (hh : highest ≤ 9223372036854775807) (hk : k ≤ 1048576) (hf : Rd w a n lo) (he : Rd w b n hi) (v : Valid n lo hi) (hhi : ∀ i, i < n → hi i ≤ 9223372036854775807) :
    Calls Try.prog 9 #[.slice a n c, .slice b n d, .int .i64 highest, .int .i64 k] w fun r w' =>
      ∃ (a : Option Addr) (c : Nat) (L : List Int), r = .returned (.slice a L.length c) ∧ Below w.heap.size w w' ∧ Rd w' a L.length (fun i => L.getD i 0) ∧ (L.length = 0 → a = none) ∧ Ans n lo hi highest k L := by
  obtain ⟨i0, hi0, hz0, hz1, hz2⟩ := info_parts info39
  have HF := hide hf
  have HE := hide he
  have V := hide v
  have HH := hide hhi
  clear hf he v hhi
  go_enter Try.func9, Try.ntmps9
  go_wp2_with (first | (at_make; refine wpList_make_full _ rfl _ _ 37 rfl w.heap.size 39 i0 (.agg #[.int .i64 0, .int .i64 0]) 2 Try.underlying37 hi0 hz0 hz1 _ _ _ _ n rfl rfl (by omega) (by omega) (by rw [hz2]; omega) (by unfold maxLen; omega) (Nat.le_refl _) ?_) | go_in)
  intro w1 hown hgrow
  have hb1 : Below w.heap.size w w1 := (Below.refl _ _).grown hgrow (Nat.le_refl _) (fun k h => by cases h)
  clear hgrow
  go_wp2
  go_loopw [11] (fun i wr => ∃ k : Nat, k ≤ n ∧ i = .int .i64 k ∧ Hid (Below w.heap.size w wr) ∧
      Hid (∃ xs, wr.ownsRow w.heap.size 39 2 (.slice (some ⟨w.heap.size, 0, none⟩) n n) n xs ∧ ∀ j, j < k → xs[j * 2]? = some (.int .i64 (lo j)) ∧ xs[j * 2 + 1]? = some (.int .i64 (hi j)))) (fun i _ => n - (intOf i).toNat)
  case atStart => exact ⟨0, Nat.zero_le _, rfl, hb1, _, hown, fun j h => absurd h (Nat.not_lt_zero _)⟩
  case round =>
    obtain ⟨q, hq, rfl, hb, xs, ho, hxs⟩ := hrel
    by_cases hlt : q < n
    · have hlen := ho.1
      obtain ⟨x, rfl, hx⟩ := HF.out q hlt
      have hc1 : wr.cell? (x.add q) = some (.int .i64 (lo q)) := by
        rw [hb.out.cell (World.block_lt_of_cell? _ _ hx)]
        exact hx
      obtain ⟨y, rfl, hy⟩ := HE.out q hlt
      have hc2 : wr.cell? (y.add q) = some (.int .i64 (hi q)) := by
        rw [hb.out.cell (World.block_lt_of_cell? _ _ hy)]
        exact hy
      have hx0 : wr.cell? ⟨w.heap.size, q * 2, none⟩ = some xs[q * 2] := by
        rw [ho.cellAt (q * 2) (by omega), List.getElem?_eq_getElem]
      have hx1 : wr.cell? ⟨w.heap.size, q * 2 + 1, none⟩ = some xs[q * 2 + 1] := by
        rw [ho.cellAt (q * 2 + 1) (by omega), List.getElem?_eq_getElem]
      have hf0 := ho.frozenAt (q * 2)
      have hf1 := ho.frozenAt (q * 2 + 1)
      have HS := hide (runs_step hlt ho hxs)
      have HB := hide (((hb.out.setCell (p := ⟨w.heap.size, q * 2, none⟩) (Nat.le_refl _) (.int .i64 (lo q))).setCell (p := ⟨w.heap.size, q * 2 + 1, none⟩) (Nat.le_refl _) (.int .i64 (hi q))).drew)
      clear hx hy ho hxs
      go_wp2
      go_region
      go_wp2
      go_roundw
      case rel => exact ⟨q + 1, by omega, by go_num, HB, HS⟩
      case measure => simp [intOf]; omega
    · obtain rfl : q = n := by omega
      have HR : Hid (RRd wr w.heap.size 0 q lo hi) := fun i hi' => by
        rw [Nat.zero_add, ho.cellAt _ (by omega), ho.cellAt _ (by omega)]
        exact hxs i hi'
      have hsz := hb.out.size
      clear ho hxs
      go_wp2_with fail
      refine (missing_any w.heap.size 0 q lo hi highest k _ hn hh hk HR.out V.out HH.out).mono ?_
      rintro r w2 ⟨a2, c2, L, rfl, hb2, hrd, hnil, hans⟩
      have HB2 := hide (hb.out.trans (hb2.mono hsz))
      have HRD := hide hrd
      have HNIL := hide hnil
      have HANS := hide hans
      clear hb2 hrd hnil hans
      go_wp2
      go_ret
      exact ⟨a2, c2, L, rfl, HB2.out, HRD.out, HNIL.out, HANS.out⟩
end Go.Proofs.Qxb6604234a.Base
