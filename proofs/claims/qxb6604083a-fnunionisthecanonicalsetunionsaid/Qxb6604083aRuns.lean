import Derived.Test.Qxb6604083aReads
/-! 'zzRuns', 'union', 'ZZUnion' -/
set_option linter.unusedVariables false
namespace Go.Proofs.Qxb6604083a.Base
open Go.ChangeShapes Go.WideShapes Go.ChangeAt Go.RowKit

theorem info54 : (Try.prog.info? 54).map (fun i => (i.zero, i.size, i.bytes)) = some (some (.agg #[.int .i64 0, .int .i64 0]), 2, 16) := by kernel_rfl

/-- The runs at ⟨g, o⟩, n of them. -/
def RRd (w : World) (a : Option Addr) (n : Nat) (f e : Nat → Int) : Prop :=
  n = 0 ∨ ∃ g o, a = some ⟨g, o, none⟩ ∧ ∀ i, i < n → w.cell? ⟨g, o + i * 2, none⟩ = some (.int .i64 (f i)) ∧ w.cell? ⟨g, o + i * 2 + 1, none⟩ = some (.int .i64 (e i))

theorem runs_step {wr : World} {base g n c k : Nat} {xs : List Value} {f e : Nat → Int} (hk : k < n) (ho : wr.ownsRow base 54 2 (.slice (some ⟨g, 0, none⟩) n c) n xs)
    (hxs : ∀ j, j < k → xs[j * 2]? = some (.int .i64 (f j)) ∧ xs[j * 2 + 1]? = some (.int .i64 (e j))) :
    ∃ xs', ((wr.setCell ⟨g, k * 2, none⟩ (.int .i64 (f k))).setCell ⟨g, k * 2 + 1, none⟩ (.int .i64 (e k))).drew.ownsRow base 54 2 (.slice (some ⟨g, 0, none⟩) n c) n xs' ∧
      ∀ j, j < k + 1 → xs'[j * 2]? = some (.int .i64 (f j)) ∧ xs'[j * 2 + 1]? = some (.int .i64 (e j)) := by
  have hlen := ho.1
  refine ⟨_, ((ho.stored (k * 2) (.int .i64 (f k))).1.stored (k * 2 + 1) (.int .i64 (e k))).1, fun j hj => ?_⟩
  simp only [List.getElem?_set, List.length_set]
  by_cases ej : j = k
  · subst ej
    refine ⟨?_, ?_⟩
    · rw [if_neg (by omega), if_pos rfl, if_pos (by omega)]
    · rw [if_pos rfl, if_pos (by omega)]
  · obtain ⟨h1, h2⟩ := hxs j (by omega)
    refine ⟨?_, ?_⟩
    · rw [if_neg (by omega), if_neg (by omega)]; exact h1
    · rw [if_neg (by omega), if_neg (by omega)]; exact h2

set_option maxHeartbeats 1000000 in
theorem runs_some (x : Addr) (b : Option Addr) (n c d : Nat) (f e : Nat → Int) (w : World) (hn : n ≤ 1048576) (hf : Rd w (some x) n f) (he : Rd w b n e) :
    Calls Try.prog 21 #[.slice (some x) n c, .slice b n d] w fun r w' => r = .returned (.slice (some ⟨w.heap.size, 0, none⟩) n n) ∧ Below w.heap.size w w' ∧
      ∃ xs, w'.ownsRow w.heap.size 54 2 (.slice (some ⟨w.heap.size, 0, none⟩) n n) n xs ∧ ∀ j, j < n → xs[j * 2]? = some (.int .i64 (f j)) ∧ xs[j * 2 + 1]? = some (.int .i64 (e j)) := by
  obtain ⟨i0, hi, hz0, hz1, hz2⟩ := info_parts info54
  have q := q22
  have HF := hide hf
  have HE := hide he
  clear hf he
  go_enter Try.func21, Try.ntmps21
  go_wp2_with (first | (at_make; refine wpList_make_full _ rfl _ _ 50 rfl w.heap.size 54 i0 (.agg #[.int .i64 0, .int .i64 0]) 2 Try.underlying50 hi hz0 hz1 _ _ _ _ n rfl rfl (by omega) (by omega) (by rw [hz2]; omega) (by unfold maxLen; omega) (Nat.le_refl _) ?_) | go_in)
  intro w1 hown hgrow
  have hb1 : Below w.heap.size w w1 := (Below.refl _ _).grown hgrow (Nat.le_refl _) (fun k h => by cases h)
  clear hgrow
  go_wp2
  go_loopw [7] (fun i wr => ∃ k : Nat, k ≤ n ∧ i = .int .i64 k ∧ Hid (Below w.heap.size w wr) ∧
      Hid (∃ xs, wr.ownsRow w.heap.size 54 2 (.slice (some ⟨w.heap.size, 0, none⟩) n n) n xs ∧ ∀ j, j < k → xs[j * 2]? = some (.int .i64 (f j)) ∧ xs[j * 2 + 1]? = some (.int .i64 (e j)))) (fun i _ => n - (intOf i).toNat)
  case atStart => exact ⟨0, Nat.zero_le _, rfl, hb1, _, hown, fun j h => absurd h (Nat.not_lt_zero _)⟩
  case round =>
    obtain ⟨k, hk, rfl, hb, xs, ho, hxs⟩ := hrel
    by_cases hlt : k < n
    · have hlen := ho.1
      have hc1 : wr.cell? (x.add k) = some (.int .i64 (f k)) := by
        obtain ⟨y, e, hy⟩ := HF.out k hlt
        cases e
        rw [hb.out.cell (World.block_lt_of_cell? _ _ hy)]
        exact hy
      obtain ⟨y, rfl, hy⟩ := HE.out k hlt
      have hc2 : wr.cell? (y.add k) = some (.int .i64 (e k)) := by
        rw [hb.out.cell (World.block_lt_of_cell? _ _ hy)]
        exact hy
      have hx0 : wr.cell? ⟨w.heap.size, k * 2, none⟩ = some xs[k * 2] := by
        rw [ho.cellAt (k * 2) (by omega), List.getElem?_eq_getElem]
      have hx1 : wr.cell? ⟨w.heap.size, k * 2 + 1, none⟩ = some xs[k * 2 + 1] := by
        rw [ho.cellAt (k * 2 + 1) (by omega), List.getElem?_eq_getElem]
      have hf0 := ho.frozenAt (k * 2)
      have hf1 := ho.frozenAt (k * 2 + 1)
      have HS := hide (runs_step hlt ho hxs)
      have HB := hide (((hb.out.setCell (p := ⟨w.heap.size, k * 2, none⟩) (Nat.le_refl _) (.int .i64 (f k))).setCell (p := ⟨w.heap.size, k * 2 + 1, none⟩) (Nat.le_refl _) (.int .i64 (e k))).drew)
      clear hy ho hxs
      go_wp2
      go_region
      go_wp2
      go_roundw
      case rel => exact ⟨k + 1, by omega, by go_num, HB, HS⟩
      case measure => simp [intOf]; omega
    · obtain rfl : k = n := by omega
      have HS := hide (⟨xs, ho, hxs⟩ : ∃ xs, wr.ownsRow w.heap.size 54 2 (.slice (some ⟨w.heap.size, 0, none⟩) k k) k xs ∧ ∀ j, j < k → xs[j * 2]? = some (.int .i64 (f j)) ∧ xs[j * 2 + 1]? = some (.int .i64 (e j)))
      clear ho hxs
      go_wp2
      go_ret
      exact ⟨rfl, hb.out, HS.out⟩

theorem runs_nil (b : Option Addr) (c d m : Nat) (w : World) :
    Calls Try.prog 21 #[.slice none 0 c, .slice b m d] w fun r w' => r = .returned (.slice none 0 0) ∧ w' = w := by
  have q := q22
  go_enter Try.func21, Try.ntmps21
  go_wp2
  go_ret
  exact ⟨rfl, rfl⟩

theorem RRd.own {w : World} {base g n c : Nat} {f e : Nat → Int} {xs : List Value} (ho : w.ownsRow base 54 2 (.slice (some ⟨g, 0, none⟩) n c) n xs) (hxs : ∀ j, j < n → xs[j * 2]? = some (.int .i64 (f j)) ∧ xs[j * 2 + 1]? = some (.int .i64 (e j))) :
    RRd w (some ⟨g, 0, none⟩) n f e := by
  refine .inr ⟨g, 0, rfl, fun i hi => ?_⟩
  rw [Nat.zero_add, ho.cellAt _ (by omega), ho.cellAt _ (by omega)]
  exact hxs i hi
theorem RRd.below {w w' : World} {a : Option Addr} {n B : Nat} {f e : Nat → Int} (h : RRd w a n f e) (hb : Below B w w') (hB : w.heap.size ≤ B) : RRd w' a n f e := by
  rcases h with rfl | ⟨g, o, rfl, h⟩
  · exact .inl rfl
  · refine .inr ⟨g, o, rfl, fun i hi => ?_⟩
    obtain ⟨h1, h2⟩ := h i hi
    rw [hb.cell (Nat.lt_of_lt_of_le (World.block_lt_of_cell? _ _ h1) hB), hb.cell (Nat.lt_of_lt_of_le (World.block_lt_of_cell? _ _ h2) hB)]
    exact ⟨h1, h2⟩

theorem runs_any (a b : Option Addr) (n c d : Nat) (f e : Nat → Int) (w : World) (hn : n ≤ 1048576) (hf : Rd w a n f) (he : Rd w b n e) :
    Calls Try.prog 21 #[.slice a n c, .slice b n d] w fun r w' => ∃ a', r = .returned (.slice a' n n) ∧ Below w.heap.size w w' ∧ RRd w' a' n f e := by
  cases a with
  | none =>
    obtain rfl := hf.ofNone
    refine (runs_nil b c d 0 w).mono ?_
    rintro r w' ⟨rfl, rfl⟩
    exact ⟨_, rfl, Below.refl _ _, .inl rfl⟩
  | some x =>
    refine (runs_some x b n c d f e w hn hf he).mono ?_
    rintro r w' ⟨rfl, hb, xs, ho, hxs⟩
    exact ⟨_, rfl, hb, RRd.own ho hxs⟩
end Go.Proofs.Qxb6604083a.Base
