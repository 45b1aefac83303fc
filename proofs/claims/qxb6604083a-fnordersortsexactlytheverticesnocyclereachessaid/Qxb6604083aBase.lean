import Derived.Test.Qxb6604083aRows
import Derived.WalkKit
import Derived.ProofKit
import Derived.OpenShut
import Derived.ShutString
import Derived.Below
import Derived.ChangeOld
import Derived.Deep.QuietTactic
import Derived.BigQuiet
import Derived.Lib.SliceRun
import Derived.WalkSpells
/-! SLICES OF int: WHAT IS READ, AND 'zzCopyInts' -/
set_option linter.unusedVariables false
namespace Go.Proofs.Qxb6604083a.Base
open Go.ChangeShapes Go.WideShapes Go.ChangeAt Go.RowKit

theorem hide {p : Prop} (h : p) : Hid p := h
theorem info3 : (Try.prog.info? 3).map (fun i => (i.zero, i.size, i.bytes)) = some (some (.int .i64 0), 1, 8) := by kernel_rfl

/-- The slice at a, of n elements, holds f 0, f 1, .. -/
def Rd (w : World) (a : Option Addr) (n : Nat) (f : Nat → Int) : Prop := ∀ i, i < n → ∃ x, a = some x ∧ w.cell? (x.add i) = some (.int .i64 (f i))

theorem Rd.below {w w' : World} {a : Option Addr} {n B : Nat} {f : Nat → Int} (h : Rd w a n f) (hb : Below B w w') (hB : w.heap.size ≤ B) : Rd w' a n f := by
  intro i hi
  obtain ⟨x, rfl, hc⟩ := h i hi
  exact ⟨x, rfl, by rw [hb.cell (Nat.lt_of_lt_of_le (World.block_lt_of_cell? _ _ hc) hB)]; exact hc⟩
theorem Rd.drewN {w : World} {a : Option Addr} {n : Nat} {f : Nat → Int} (h : Rd w a n f) (m : Nat) : Rd (w.drewN m) a n f := h
theorem Rd.ofNone {w : World} {n : Nat} {f : Nat → Int} (h : Rd w none n f) : n = 0 := by
  rcases Nat.eq_zero_or_pos n with h0 | h0
  · exact h0
  · obtain ⟨x, e, _⟩ := h 0 h0
    cases e
theorem Rd.zero {w : World} {a : Option Addr} {f : Nat → Int} : Rd w a 0 f := fun i hi => absurd hi (Nat.not_lt_zero _)
theorem Rd.congr {w : World} {a : Option Addr} {n : Nat} {f g : Nat → Int} (h : Rd w a n f) (e : ∀ i, i < n → f i = g i) : Rd w a n g := by
  intro i hi
  rw [← e i hi]
  exact h i hi

/-- The numbers f 0 .. f (n - 1), as cells. -/
def cellsOf (f : Nat → Int) (n : Nat) : List Value := (List.range n).map fun i => Value.int .i64 (f i)
theorem cellsOf_length (f : Nat → Int) (n : Nat) : (cellsOf f n).length = n := by simp [cellsOf]
theorem cellsOf_get (f : Nat → Int) (n i : Nat) (h : i < n) : (cellsOf f n)[i]? = some (.int .i64 (f i)) := by
  simp [cellsOf, h]

theorem row_step (f : Nat → Int) (n k : Nat) (hk : k < n) :
    (cellsOf f k ++ List.replicate (n - k) (Value.int .i64 0)).set k (.int .i64 (f k)) = cellsOf f (k + 1) ++ List.replicate (n - (k + 1)) (Value.int .i64 0) := by
  apply List.ext_getElem?
  intro j
  rw [List.getElem?_set]
  have hl : (cellsOf f k ++ List.replicate (n - k) (Value.int .i64 0)).length = n := by simp [cellsOf]; omega
  by_cases e : k = j
  · subst e
    rw [if_pos rfl, if_pos (by omega), List.getElem?_append_left (by rw [cellsOf_length]; omega), cellsOf_get _ _ _ (by omega)]
  · rw [if_neg e]
    by_cases l : j < k
    · rw [List.getElem?_append_left (by rw [cellsOf_length]; omega), List.getElem?_append_left (by rw [cellsOf_length]; omega), cellsOf_get _ _ _ l, cellsOf_get _ _ _ (by omega)]
    · rw [List.getElem?_append_right (by rw [cellsOf_length]; omega), List.getElem?_append_right (by rw [cellsOf_length]; omega), cellsOf_length, cellsOf_length, List.getElem?_replicate, List.getElem?_replicate]
      by_cases q : j < n
      · rw [if_pos (by omega), if_pos (by omega)]
      · rw [if_neg (by omega), if_neg (by omega)]

/-- A row of the call's own is read. -/
theorem Rd.own {w : World} {base g n c : Nat} {f : Nat → Int} (h : w.ownsRow base 3 1 (.slice (some ⟨g, 0, none⟩) n c) n (cellsOf f n)) : Rd w (some ⟨g, 0, none⟩) n f := by
  intro i hi
  refine ⟨_, rfl, ?_⟩
  rw [Addr.add_lit, Nat.zero_add, h.cellAt i (by omega), cellsOf_get _ _ _ hi]

theorem q22 : ∀ (w : World) (a : Option Addr) (n c n' c' : Nat), (binOp .eql 22 (.slice a n c) (.slice none n' c')).run Try.prog w = .ok (.bool a.isNone) w := fun w a n c n' c' => Lib.run_eql_slice_nil w _ _ a n c n' c' Try.underlying22

theorem copy_nil (c : Nat) (w : World) :
    Calls Try.prog 7 #[.slice none 0 c] w fun e w' => e = .returned (.slice none 0 0) ∧ w' = w := by
  have q := q22
  go_enter Try.func7, Try.ntmps7
  go_wp2
  go_ret
  exact ⟨rfl, rfl⟩

theorem copy_some (x : Addr) (n c : Nat) (f : Nat → Int) (w : World) (hn : n ≤ 1048576) (hcell : Rd w (some x) n f) :
    Calls Try.prog 7 #[.slice (some x) n c] w fun e w' => e = .returned (.slice (some ⟨w.heap.size, 0, none⟩) n n) ∧ Below w.heap.size w w' ∧
      w'.ownsRow w.heap.size 3 1 (.slice (some ⟨w.heap.size, 0, none⟩) n n) n (cellsOf f n) := by
  obtain ⟨i0, hi, hz0, hz1, hz2⟩ := info_parts info3
  have q := q22
  have HC := hide hcell
  clear hcell
  go_enter Try.func7, Try.ntmps7
  go_wp2_with (first | (at_make; refine wpList_make_full _ rfl _ _ 22 rfl w.heap.size 3 i0 (.int .i64 0) 1 Try.underlying22 hi hz0 hz1 _ _ _ _ n rfl rfl (by omega) (by omega) (by rw [hz2]; omega) (by unfold maxLen; omega) (Nat.le_refl _) ?_) | go_in)
  intro w1 hown hgrow
  have hb1 : Below w.heap.size w w1 := (Below.refl _ _).grown hgrow (Nat.le_refl _) (fun k h => by cases h)
  clear hgrow
  go_wp2
  go_loopw [4] (fun i wr => ∃ k : Nat, k ≤ n ∧ i = .int .i64 k ∧ Hid (Below w.heap.size w wr) ∧
      Hid (wr.ownsRow w.heap.size 3 1 (.slice (some ⟨w.heap.size, 0, none⟩) n n) n (cellsOf f k ++ List.replicate (n - k) (.int .i64 0)))) (fun i _ => n - (intOf i).toNat)
  case atStart => exact ⟨0, Nat.zero_le _, rfl, hb1, by rw [toList_madeCells_one] at hown; refine hide ?_; simpa [cellsOf] using hown⟩
  case round =>
    obtain ⟨k, hk, rfl, hb, ho⟩ := hrel
    by_cases hlt : k < n
    · have hc1 : wr.cell? (x.add k) = some (.int .i64 (f k)) := by
        obtain ⟨y, e, hy⟩ := HC.out k hlt
        cases e
        rw [hb.out.cell (World.block_lt_of_cell? _ _ hy)]
        exact hy
      have hc2 : wr.cell? ⟨w.heap.size, k, none⟩ = some (.int .i64 0) := by
        rw [ho.out.cellAt k (by omega), List.getElem?_append_right (by rw [cellsOf_length]; omega), List.getElem?_replicate, if_pos (by rw [cellsOf_length]; omega)]
      have hf2 := ho.out.frozenAt k
      have hnew := ho.out.stored k (.int .i64 (f k))
      rw [row_step f n k hlt] at hnew
      have HN := hide hnew.1
      have HB := hide (hb.out.setCell (p := ⟨w.heap.size, k, none⟩) (Nat.le_refl _) (.int .i64 (f k)))
      clear hnew
      go_wp2
      go_roundw
      case rel => exact ⟨k + 1, by omega, by go_num, HB, HN⟩
      case measure => simp [intOf]; omega
    · obtain rfl : k = n := by omega
      have HN := hide ho.out
      go_wp2
      go_ret
      exact ⟨rfl, hb.out, by simpa using HN.out⟩

/-- 'zzCopyInts': a copy that reads the same, in new memory. -/
theorem copy_any (a : Option Addr) (n c : Nat) (f : Nat → Int) (w : World) (hn : n ≤ 1048576) (hr : Rd w a n f) :
    Calls Try.prog 7 #[.slice a n c] w fun e w' => ∃ a' c', e = .returned (.slice a' n c') ∧ Below w.heap.size w w' ∧ Rd w' a' n f := by
  cases a with
  | none =>
    obtain rfl := hr.ofNone
    refine (copy_nil c w).mono ?_
    rintro e w' ⟨rfl, rfl⟩
    exact ⟨_, _, rfl, Below.refl _ _, Rd.zero⟩
  | some x =>
    refine (copy_some x n c f w hn hr).mono ?_
    rintro e w' ⟨rfl, hb, ho⟩
    exact ⟨_, _, rfl, hb, Rd.own ho⟩
end Go.Proofs.Qxb6604083a.Base
