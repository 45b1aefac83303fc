import Derived.Test.Qxb6604083aMV
import Derived.Test.Qxb6604083aGraph
/-! LISTS OF SLICES; 'zzBytes..', 'zzCopyLists', 'zzGraph' -/
set_option linter.unusedVariables false
namespace Go.Proofs.Qxb6604083a.Base
open Go.ChangeShapes Go.WideShapes Go.ChangeAt Go.RowKit
open Go.Proofs.Qxb6604083a.G

theorem zero3 (w : World) : (zeroValue 3).run Try.prog w = .ok (.int .i64 0) w := by kernel_rfl
theorem zero4 (w : World) : (zeroValue 4).run Try.prog w = .ok (.bool false) w := by kernel_rfl
theorem zero22 (w : World) : (zeroValue 22).run Try.prog w = .ok (.slice none 0 0) w := by kernel_rfl
theorem info22 : (Try.prog.info? 22).map (fun i => (i.zero, i.size, i.bytes)) = some (some (.slice none 0 0), 1, 24) := by kernel_rfl
theorem q23 : ∀ (w : World) (a : Option Addr) (n c n' c' : Nat), (binOp .eql 23 (.slice a n c) (.slice none n' c')).run Try.prog w = .ok (.bool a.isNone) w := fun w a n c n' c' => Lib.run_eql_slice_nil w _ _ a n c n' c' Try.underlying23

/-- A list's elements as a function. -/
def fn (l : List Int) : Nat → Int := fun i => l.getD i 0

/-- The slice of slices at a holds Ls 0, Ls 1, .. -/
def LRd (w : World) (a : Option Addr) (n : Nat) (Ls : Nat → List Int) : Prop :=
  ∀ i, i < n → ∃ x ai ci, a = some x ∧ w.cell? (x.add i) = some (.slice ai (Ls i).length ci) ∧ Rd w ai (Ls i).length (fn (Ls i))
theorem LRd.below {w w' : World} {a : Option Addr} {n B : Nat} {Ls : Nat → List Int} (h : LRd w a n Ls) (hb : Below B w w') (hB : w.heap.size ≤ B) : LRd w' a n Ls := by
  intro i hi
  obtain ⟨x, ai, ci, rfl, hc, hr⟩ := h i hi
  exact ⟨x, ai, ci, rfl, by rw [hb.cell (Nat.lt_of_lt_of_le (World.block_lt_of_cell? _ _ hc) hB)]; exact hc, hr.below hb hB⟩
theorem LRd.zero {w : World} {a : Option Addr} {Ls : Nat → List Int} : LRd w a 0 Ls := fun i hi => absurd hi (Nat.not_lt_zero _)
theorem LRd.ofNone {w : World} {n : Nat} {Ls : Nat → List Int} (h : LRd w none n Ls) : n = 0 := by
  rcases Nat.eq_zero_or_pos n with h0 | h0
  · exact h0
  · obtain ⟨x, _, _, e, _⟩ := h 0 h0
    cases e

/-- The call answers some bool. -/
def AnyB (e : Ending) : Prop := ∃ b, e = .returned (.bool b)

theorem zb6_any (a0 a1 : Option Addr) (n0 n1 c0 c1 : Nat) (Ls : Nat → List Int) (w : World) (hn : n1 ≤ maxLen) (h : LRd w a1 n1 Ls) :
    Calls Try.prog 6 #[.slice a0 n0 c0, .slice a1 n1 c1] w fun e w' => AnyB e ∧ w' = w := by
  unfold maxLen at hn
  have HL := hide h
  clear h
  by_cases h1 : n0 ≤ 1048576
  · by_cases h2 : n1 ≤ 1048576
    · by_cases h3 : n0 + n1 ≤ 1048576
      · have e1 : decide ((1048576 : Int) < (n0 : Int)) = false := by simp; omega
        have e2 : decide ((1048576 : Int) < (n1 : Int)) = false := by simp; omega
        have e3 : decide ((1048576 : Int) < (n0 : Int) + (n1 : Int)) = false := by simp; omega
        go_enter Try.func6, Try.ntmps6
        go_wp2
        go_loop [5, 6] (fun s i => ∃ (k : Nat) (z : Int), k ≤ n1 ∧ i = .int .i64 k ∧ s = .int .i64 z) (fun _ i => n1 - (intOf i).toNat)
        case atStart => exact ⟨0, _, Nat.zero_le _, rfl, rfl⟩
        case round =>
          obtain ⟨k, z, hk, rfl, rfl⟩ := hrel
          by_cases hlt : k < n1
          · obtain ⟨x, ai, ci, rfl, hc, _⟩ := HL.out k hlt
            go_wp2
            all_goals first
              | (go_ret; exact ⟨⟨_, rfl⟩, rfl⟩)
              | (go_round
                 case rel => exact ⟨k + 1, _, by omega, by go_num, rfl⟩
                 case measure => simp [intOf]; omega)
          · go_wp2
            go_ret
            exact ⟨⟨_, rfl⟩, rfl⟩
      · go_enter Try.func6, Try.ntmps6
        go_wp2
        go_ret
        exact ⟨⟨_, rfl⟩, rfl⟩
    · go_enter Try.func6, Try.ntmps6
      go_wp2
      all_goals (go_ret; exact ⟨⟨_, rfl⟩, rfl⟩)
  · go_enter Try.func6, Try.ntmps6
    go_wp2
    go_ret
    exact ⟨⟨_, rfl⟩, rfl⟩

/-- A copy, and where it lies. -/
theorem copy_new (a : Option Addr) (n c : Nat) (f : Nat → Int) (w : World) (hn : n ≤ 1048576) (hr : Rd w a n f) :
    Calls Try.prog 7 #[.slice a n c] w fun e w' => ∃ a' c', e = .returned (.slice a' n c') ∧ Below w.heap.size w w' ∧ Rd w' a' n f ∧ ∀ x, a' = some x → w.heap.size ≤ x.block := by
  cases a with
  | none =>
    obtain rfl := hr.ofNone
    refine (copy_nil c w).mono ?_
    rintro e w' ⟨rfl, rfl⟩
    exact ⟨_, _, rfl, Below.refl _ _, Rd.zero, fun x h => by cases h⟩
  | some x =>
    refine (copy_some x n c f w hn hr).mono ?_
    rintro e w' ⟨rfl, hb, ho⟩
    exact ⟨_, _, rfl, hb, Rd.own ho, fun x h => by cases h; exact Nat.le_refl _⟩

theorem copyLists_nil (c : Nat) (w : World) :
    Calls Try.prog 8 #[.slice none 0 c] w fun e w' => e = .returned (.slice none 0 0) ∧ w' = w := by
  have q := q23
  go_enter Try.func8, Try.ntmps8
  go_wp2
  go_ret
  exact ⟨rfl, rfl⟩

/-- The rows that have been copied. -/
def Rows (w : World) (B : Nat) (xs : List Value) (k : Nat) (Ls : Nat → List Int) : Prop :=
  ∀ j, j < k → ∃ a c, xs[j]? = some (.slice a (Ls j).length c) ∧ Rd w a (Ls j).length (fn (Ls j)) ∧ ∀ x, a = some x → B < x.block
theorem Rd.setCell {w : World} {a : Option Addr} {n : Nat} {f : Nat → Int} {B o : Nat} {v : Value} (h : Rd w a n f) (hB : ∀ x, a = some x → B < x.block) : Rd (w.setCell ⟨B, o, none⟩ v) a n f := by
  intro i hi
  obtain ⟨x, rfl, hc⟩ := h i hi
  refine ⟨x, rfl, ?_⟩
  have hx := hB x rfl
  rw [World.cell?_of_block (w := w) (a := x.add i) (Below.heap_setCell _ _ _ _ (by show (x.add i).block ≠ B; rw [show (x.add i).block = x.block by unfold Addr.add; split <;> rfl]; omega))]
  exact hc

set_option maxHeartbeats 1000000 in
theorem copyLists_some (x : Addr) (n c : Nat) (Ls : Nat → List Int) (w : World) (hn : n ≤ 1048576) (hL : ∀ i, i < n → (Ls i).length ≤ 1048576) (hr : LRd w (some x) n Ls) :
    Calls Try.prog 8 #[.slice (some x) n c] w fun e w' => e = .returned (.slice (some ⟨w.heap.size, 0, none⟩) n n) ∧ Below w.heap.size w w' ∧ LRd w' (some ⟨w.heap.size, 0, none⟩) n Ls := by
  obtain ⟨i0, hi, hz0, hz1, hz2⟩ := info_parts info22
  have q := q23
  have HR := hide hr
  have HL := hide hL
  clear hr hL
  go_enter Try.func8, Try.ntmps8
  go_wp2_with (at_make; refine wpList_make_full _ rfl _ _ 23 rfl w.heap.size 22 i0 (.slice none 0 0) 1 Try.underlying23 hi hz0 hz1 _ _ _ _ n rfl rfl (by omega) (by omega) (by rw [hz2]; omega) (by unfold maxLen; omega) (Nat.le_refl _) ?_)
  intro w1 hown hgrow
  have hb1 : Below w.heap.size w w1 := (Below.refl _ _).grown hgrow (Nat.le_refl _) (fun k h => by cases h)
  clear hgrow
  go_wp2
  go_loopw [4] (fun i wr => ∃ (k : Nat) (xs : List Value), k ≤ n ∧ i = .int .i64 k ∧ Hid (Below w.heap.size w wr) ∧ Hid (wr.ownsRow w.heap.size 22 1 (.slice (some ⟨w.heap.size, 0, none⟩) n n) n xs) ∧ Hid (Rows wr w.heap.size xs k Ls)) (fun i _ => n - (intOf i).toNat)
  case atStart => exact ⟨0, _, Nat.zero_le _, rfl, hb1, hown, fun j h => absurd h (Nat.not_lt_zero _)⟩
  case round =>
    obtain ⟨k, xs, hk, rfl, hb, ho, hrows⟩ := hrel
    by_cases hlt : k < n
    · obtain ⟨y, ai, ci, ey, hc, hri⟩ := HR.out k hlt
      cases ey
      have hc1 : wr.cell? (x.add k) = some (.slice ai (Ls k).length ci) := by
        rw [hb.out.cell (World.block_lt_of_cell? _ _ hc)]
        exact hc
      have hri' := hide (hri.below hb.out (Nat.le_refl _))
      have hlenk := HL.out k hlt
      have hsz := (ho.out.lt w.heap.size rfl).2
      clear hc hri
      go_wp2_with fail
      refine (copy_new ai _ ci (fn (Ls k)) _ hlenk hri'.out).mono ?_
      rintro e w2 ⟨a', c', rfl, hb2, hr2, hnew⟩
      have hxs := ho.out.1
      have ho2 : w2.ownsRow w.heap.size 22 1 (.slice (some ⟨w.heap.size, 0, none⟩) n n) n xs := ho.out.kept (row := none) ⟨hb2.os, hb2.tape, hb2.output, hb2.size, fun k hk _ => hb2.block k hk⟩ (.inr (by simp [Value.ownBlock]))
      have hd2 : w2.cell? ⟨w.heap.size, k, none⟩ = some xs[k] := by
        rw [ho2.cellAt k (by omega), List.getElem?_eq_getElem]
      have hf2 := ho2.frozenAt k
      have hst := ho2.stored k (.slice a' (Ls k).length c')
      have hrows' : Rows (w2.setCell ⟨w.heap.size, k, none⟩ (.slice a' (Ls k).length c')) w.heap.size (xs.set k (.slice a' (Ls k).length c')) (k + 1) Ls := by
        intro j hj
        rw [List.getElem?_set]
        by_cases ej : k = j
        · subst ej
          exact ⟨a', c', by rw [if_pos rfl, if_pos (by omega)], hr2.setCell (fun x hx => Nat.lt_of_lt_of_le hsz (hnew x hx)), fun x hx => Nat.lt_of_lt_of_le hsz (hnew x hx)⟩
        · obtain ⟨a3, c3, h1, h2, h3⟩ := hrows.out j (by omega)
          exact ⟨a3, c3, by rw [if_neg ej]; exact h1, (h2.below hb2 (Nat.le_refl _)).setCell h3, h3⟩
      have HO := hide hst.1
      have HRows := hide hrows'
      have HB := hide ((hb.out.trans (hb2.mono (Nat.le_of_lt hsz))).setCell (p := ⟨w.heap.size, k, none⟩) (Nat.le_refl _) (.slice a' (Ls k).length c'))
      clear hst hrows' hb2 hr2 ho2 hnew ho hrows hb hri'
      go_wp2
      go_roundw
      case rel => exact ⟨k + 1, _, by omega, by go_num, HB, HO, HRows⟩
      case measure => simp [intOf]; omega
    · obtain rfl : k = n := by omega
      have HF : Hid (LRd wr (some ⟨w.heap.size, 0, none⟩) k Ls) := fun i hi => by
        obtain ⟨a, c, h1, h2, _⟩ := hrows.out i hi
        exact ⟨_, a, c, rfl, by rw [Addr.add_lit, Nat.zero_add, ho.out.cellAt i (by omega)]; exact h1, h2⟩
      clear ho hrows
      go_wp2
      go_ret
      exact ⟨rfl, hb.out, HF.out⟩

theorem copyLists_any (a : Option Addr) (n c : Nat) (Ls : Nat → List Int) (w : World) (hn : n ≤ 1048576) (hL : ∀ i, i < n → (Ls i).length ≤ 1048576) (hr : LRd w a n Ls) :
    Calls Try.prog 8 #[.slice a n c] w fun e w' => ∃ a' c', e = .returned (.slice a' n c') ∧ Below w.heap.size w w' ∧ LRd w' a' n Ls := by
  cases a with
  | none =>
    obtain rfl := hr.ofNone
    refine (copyLists_nil c w).mono ?_
    rintro e w' ⟨rfl, rfl⟩
    exact ⟨_, _, rfl, Below.refl _ _, LRd.zero⟩
  | some x =>
    refine (copyLists_some x n c Ls w hn hL hr).mono ?_
    rintro e w' ⟨rfl, hb, ho⟩
    exact ⟨_, _, rfl, hb, ho⟩
end Go.Proofs.Qxb6604083a.Base
