import Derived.Test.Qxb6603946aRows
import Derived.WalkKit
import Derived.ProofKit
import Derived.OpenShut
import Derived.ShutString
import Derived.Below
import Derived.Deep.Upon
import Derived.Deep.QuietTactic
import Derived.BigQuiet
import Derived.Lib.SliceRun
import Derived.WalkSpells
import Derived.Deep.Frames
namespace Go.Proofs.Qxb6603946a.App
open Go.ChangeShapes Go.WideShapes Go.ChangeAt Go.RowKit

theorem Try.info5 : (Try.prog.info? 5).map (fun i => (i.zero, i.size, i.bytes)) = some (some (.int .u8 0), 1, 1) := by kernel_rfl

theorem bytes_any (a : Option Addr) (n c : Nat) (k1 : Int) (s1 : ByteArray) (k2 : Int) (s2 : ByteArray) (w : World) :
    Calls Try.prog 9 #[.slice a n c, .int .u8 k1, .string s1, .int .u8 k2, .string s2] w fun e w' => ∃ b, e = .returned (.bool b) ∧ w' = w := by
  go_enter Try.func9, Try.ntmps9
  go_wp2
  all_goals (go_ret; exact ⟨_, rfl, rfl⟩)

/-- Does a string hold a zero byte? -/
def hasZ (s : ByteArray) : Bool := s.data.toList.any fun b => (b.toNat : Int) == 0
theorem hasZ_true (s : ByteArray) (k : Nat) (h : k < s.size) (h0 : (s[k].toNat : Int) = 0) : hasZ s = true := by
  unfold hasZ
  rw [List.any_eq_true]
  exact ⟨s[k], by simp [ByteArray.getElem_eq_getElem_data], by simpa using h0⟩
theorem hasZ_false (s : ByteArray) (h : ∀ k (hk : k < s.size), (s[k].toNat : Int) ≠ 0) : hasZ s = false := by
  unfold hasZ
  rw [List.any_eq_false]
  intro b hb
  obtain ⟨k, hk, rfl⟩ := List.mem_iff_getElem.1 hb
  have := h k (by simpa using hk)
  simpa [ByteArray.getElem_eq_getElem_data] using this
theorem hasZ_all (s : ByteArray) (h : hasZ s = false) (k : Nat) (hk : k < s.size) : (s[k].toNat : Int) ≠ 0 := by
  intro h0
  rw [hasZ_true s k hk h0] at h
  cases h

theorem zero_any (s : ByteArray) (w : World) (hs : s.size ≤ maxLen) :
    Calls Try.prog 10 #[.string s] w fun e w' => e = .returned (.bool (hasZ s)) ∧ w' = w := by
  unfold maxLen at hs
  go_enter Try.func10, Try.ntmps10
  go_wp2
  go_loop [3] (fun i => ∃ k : Nat, k ≤ s.size ∧ i = .int .i64 k ∧ Hid (∀ i (h : i < s.size), i < k → (s[i].toNat : Int) ≠ 0)) (fun i => s.size - (intOf i).toNat)
  case atStart => exact ⟨0, Nat.zero_le _, rfl, fun i h h' => absurd h' (Nat.not_lt_zero _)⟩
  case round =>
    obtain ⟨k, hk, rfl, hz⟩ := hrel
    by_cases hlt : k < s.size
    · by_cases hc : (s[k].toNat : Int) = 0
      · have hc' : ((s[k].toNat : Int) == 0) = true := by simpa using hc
        have hh := hasZ_true s k hlt hc
        clear hc
        go_wp2
        go_ret
        exact ⟨rfl, rfl⟩
      · have hc' : ((s[k].toNat : Int) == 0) = false := by simpa using hc
        have HC : Hid (¬ (s[k].toNat : Int) = 0) := hc
        clear hc
        go_wp2
        go_round
        case rel => exact ⟨k + 1, by omega, by go_num, fun i h h' => by
          by_cases e : i < k
          · exact hz i h e
          · obtain rfl : i = k := by omega
            exact HC.out⟩
        case measure => simp [intOf]; omega
    · have hh := hasZ_false s (fun i h => hz i h (by omega))
      go_wp2
      go_ret
      exact ⟨rfl, rfl⟩

theorem clone_nil (w : World) :
    Calls Try.prog 11 #[.slice none 0 0] w fun e w' => e = .returned (.slice none 0 0) ∧ w' = w := by
  have q29 : ∀ (w : World) (a : Option Addr) (n c n' c' : Nat), (binOp .eql 29 (.slice a n c) (.slice none n' c')).run Try.prog w = .ok (.bool a.isNone) w := fun w a n c n' c' => Lib.run_eql_slice_nil w _ _ a n c n' c' Try.underlying29
  go_enter Try.func11, Try.ntmps11
  go_wp2
  go_ret
  exact ⟨rfl, rfl⟩

theorem hide {p : Prop} (h : p) : Hid p := h
theorem row_step (zs : List Int) (n k : Nat) (hk : k < n) (hz : n ≤ zs.length) :
    ((zs.take k).map (Value.int .u8) ++ List.replicate (n - k) (Value.int .u8 0)).set k (.int .u8 (zs.getD k 0)) = (zs.take (k + 1)).map (Value.int .u8) ++ List.replicate (n - (k + 1)) (Value.int .u8 0) := by
  apply List.ext_getElem
  · simp; omega
  · intro j h1 h2
    simp only [List.length_set, List.length_append, List.length_map, List.length_take, List.length_replicate] at h1
    rw [List.getElem_set]
    by_cases e : k = j
    · subst e
      rw [if_pos rfl, List.getElem_append_left (by simp; omega)]
      simp [List.getD_eq_getElem?_getD]
      rw [List.getElem?_eq_getElem (by omega)]
      rfl
    · rw [if_neg e]
      by_cases l : j < k
      · rw [List.getElem_append_left (by simp; omega), List.getElem_append_left (by simp; omega)]
        simp
      · rw [List.getElem_append_right (by simp; omega), List.getElem_append_right (by simp; omega)]
        simp
theorem clone_some (x : Addr) (n c : Nat) (zs : List Int) (w : World) (hn : n ≤ 262144) (hz : n ≤ zs.length) (hcell : ∀ i, i < n → w.cell? (x.add i) = some (.int .u8 (zs.getD i 0))) :
    Calls Try.prog 11 #[.slice (some x) n c] w fun e w' => e = .returned (.slice (some ⟨w.heap.size, 0, none⟩) n n) ∧ Below w.heap.size w w' ∧ 
      w'.ownsRow w.heap.size 5 1 (.slice (some ⟨w.heap.size, 0, none⟩) n n) n ((zs.take n).map (Value.int .u8)) := by
  obtain ⟨i0, hi, hz0, hz1, hz2⟩ := info_parts Try.info5
  have q29 : ∀ (w : World) (a : Option Addr) (n c n' c' : Nat), (binOp .eql 29 (.slice a n c) (.slice none n' c')).run Try.prog w = .ok (.bool a.isNone) w := fun w a n c n' c' => Lib.run_eql_slice_nil w _ _ a n c n' c' Try.underlying29
  go_enter Try.func11, Try.ntmps11
  go_wp2_with (first | (at_make; refine wpList_make_full _ rfl _ _ 29 rfl w.heap.size 5 i0 (.int .u8 0) 1 Try.underlying29 hi hz0 hz1 _ _ _ _ n rfl rfl (by omega) (by omega) (by rw [hz2]; omega) (by unfold maxLen; omega) (Nat.le_refl _) ?_) | go_in)
  intro w1 hown hgrow
  have hb1 : Below w.heap.size w w1 := (Below.refl _ _).grown hgrow (Nat.le_refl _) (fun k h => by cases h)
  clear hgrow
  go_wp2
  go_loopw [4] (fun i wr => ∃ k : Nat, k ≤ n ∧ i = .int .i64 k ∧ Hid (Below w.heap.size w wr) ∧
      Hid (wr.ownsRow w.heap.size 5 1 (.slice (some ⟨w.heap.size, 0, none⟩) n n) n ((zs.take k).map (Value.int .u8) ++ List.replicate (n - k) (.int .u8 0)))) (fun i _ => n - (intOf i).toNat)
  case atStart => exact ⟨0, Nat.zero_le _, rfl, hb1, by rw [toList_madeCells_one] at hown; refine hide ?_; simpa using hown⟩
  case round =>
    obtain ⟨k, hk, rfl, hb, ho⟩ := hrel
    by_cases hlt : k < n
    · have hc1 : wr.cell? (x.add k) = some (.int .u8 (zs.getD k 0)) := by
        rw [hb.out.cell (World.block_lt_of_cell? _ _ (hcell k hlt))]
        exact hcell k hlt
      have hc2 : wr.cell? ⟨w.heap.size, k, none⟩ = some (.int .u8 0) := by
        rw [ho.out.cellAt k (by omega), List.getElem?_append_right (by simp; omega), List.getElem?_replicate, if_pos (by simp; omega)]
      have hf2 := ho.out.frozenAt k
      have hnew := ho.out.stored k (.int .u8 (zs.getD k 0))
      rw [row_step zs n k hlt hz] at hnew
      have HN := hide hnew.1
      have HB := hide (hb.out.setCell (p := ⟨w.heap.size, k, none⟩) (Nat.le_refl _) (.int .u8 (zs.getD k 0)))
      clear hnew
      go_wp2
      go_roundw
      case rel => exact ⟨k + 1, by omega, by go_num, HB, HN⟩
      case measure => simp [intOf]; omega
    · obtain rfl : k = n := by omega
      have HN := hide ho.out
      go_wp2
      go_ret
      exact ⟨rfl, hb.out, by simpa using HN.out⟩

theorem read_any (g o n c p q : Nat) (f : Nat → Int) (w : World) (hn : n ≤ 9223372036854775806) (hcell : ∀ j, j < n → w.cell? ⟨g, o + j, none⟩ = some (.int .u8 (f j)))
    (h1 : p < q) (h2 : q < n) (h3 : f q = 0) (h4 : ∀ j, p < j → j < q → f j ≠ 0) :
    Calls Try.prog 13 #[.slice (some ⟨g, o, none⟩) n c, .int .i64 p] w fun e w' => e = .returned (.tuple #[.int .u8 (f p), .int .i64 (p + 1), .int .i64 q, .bool true]) ∧ w' = w := by
  have hp := hcell p (by omega)
  have H3 : Hid (f q = 0) := h3
  have H4 : Hid (∀ j, p < j → j < q → f j ≠ 0) := h4
  have HC : Hid (∀ j, j < n → w.cell? ⟨g, o + j, none⟩ = some (.int .u8 (f j))) := hcell
  clear h3 h4 hcell
  go_enter Try.func13, Try.ntmps13
  go_wp2
  go_loop [9] (fun i => ∃ k : Nat, p < k ∧ k ≤ q ∧ i = .int .i64 k) (fun i => q - (intOf i).toNat)
  case atStart => exact ⟨p + 1, by omega, by omega, by go_num⟩
  case round =>
    obtain ⟨k, hk1, hk2, rfl⟩ := hrel
    have hck := HC.out k (by omega)
    by_cases hlt : k < q
    · have hne : (f k != 0) = true := by have := H4.out k hk1 hlt; simpa using this
      go_wp2
      go_round
      case rel => exact ⟨k + 1, by omega, by omega, by go_num⟩
      case measure => simp [intOf]; omega
    · obtain rfl : k = q := by omega
      have hne : (f k != 0) = false := by have := H3.out; simpa using this
      go_wp2
      exact bodyPost_ret (v := .tuple #[.int .u8 (f p), .int .i64 (p + 1), .int .i64 k, .bool true]) (by simp [results, Try.results13, go_sem]) rfl ⟨rfl, rfl⟩

theorem same_any (g o n c p q : Nat) (f : Nat → Int) (s : ByteArray) (w : World) (hn : n ≤ 9223372036854775806) (hcell : ∀ j, j < n → w.cell? ⟨g, o + j, none⟩ = some (.int .u8 (f j)))
    (h1 : q = p + s.size) (h2 : q ≤ n) (h3 : ∀ j (h : j < s.size), f (p + j) = (s[j].toNat : Int)) :
    Calls Try.prog 14 #[.slice (some ⟨g, o, none⟩) n c, .int .i64 p, .int .i64 q, .string s] w fun e w' => e = .returned (.bool true) ∧ ∃ m, w' = w.drewN m := by
  subst h1
  have H3 : Hid (∀ j (h : j < s.size), f (p + j) = (s[j].toNat : Int)) := h3
  have HC : Hid (∀ j, j < n → w.cell? ⟨g, o + j, none⟩ = some (.int .u8 (f j))) := hcell
  clear h3 hcell
  have hd : ((p : Int) + (s.size : Int) - (p : Int) != (s.size : Int)) = false := by simp; omega
  go_enter Try.func14, Try.ntmps14
  go_wp2
  go_loopw [9] (fun i wr => (∃ k : Nat, k ≤ s.size ∧ i = .int .i64 k) ∧ ∃ m, wr = w.drewN m) (fun i _ => s.size - (intOf i).toNat)
  case atStart => exact ⟨⟨0, Nat.zero_le _, rfl⟩, 0, rfl⟩
  case round =>
    obtain ⟨⟨k, hk, rfl⟩, m, rfl⟩ := hrel
    by_cases hlt : k < s.size
    · have hck := HC.out (p + k) (by omega)
      rw [H3.out k hlt] at hck
      have hwr : IntKind.i64.wrap ((p : Int) + (k : Int)) = (p : Int) + (k : Int) := by rw [IntKind.wrap_i64]; omega
      have hx1 : (0 : Int) ≤ (p : Int) + (k : Int) := by omega
      have hx2 : (p : Int) + (k : Int) < (n : Int) := by omega
      have hx3 : ((p : Int) + (k : Int)).toNat = p + k := by omega
      go_wp2
      go_quiet (fail)
      go_wp2
      go_roundw
      case rel => exact ⟨⟨k + 1, by omega, by go_num⟩, m + nq, by simp⟩
      case measure => simp [intOf]; omega
    · go_wp2
      go_ret
      exact ⟨rfl, _, rfl⟩

section
variable {W : World} {ao : Option Addr} {b off len cap : Nat} {olds : List Value}

theorem app_any (hc : Came W 1 ao b off len cap olds) (w : World) (v : Value) (m : Nat) (ks : List Value) (r : Nat) (h : Upon W 5 1 ao b off len cap olds w v m ks r) (kind : Int) (s : ByteArray)
    (bd : len + m + s.size + 2 ≤ 1099511627776) :
    Calls Try.prog 16 #[v, .int .u8 kind, .string s] w fun e w' => ∃ v' r', e = .returned v' ∧ Upon W 5 1 ao b off len cap olds w' v' (m + 1 + s.size + 1) (ks ++ .int .u8 kind :: (byteCells s ++ [.int .u8 0])) r' := by
  obtain ⟨i0, hi, hz0, hz1, hz2⟩ := info_parts Try.info5
  have hs1 : Src Try.prog 1 29 (.slice (some ⟨w.heap.size, 0, none⟩) 1 1) 1 [.int .u8 kind] (w.alloc (.cells #[.int .u8 kind] 5)) :=
    Src.ofSlice _ Try.underlying29 _ _ _ _ rfl (cell_one_new _ _ _) (by simp [Value.oneCell'])
  go_enter Try.func16, Try.ntmps16
  go_wp2_with (at_builtin; refine wpList_append_upon _ rfl (.tmp 7) (.tmp 9) 29 29 rfl hc i0 (.int .u8 0) 1 Try.underlying29 hi hz0 hz1 hz2 rfl rfl (h.alloc hc _) _ 1 [.int .u8 kind] rfl hs1 (by unfold maxLen; omega) (by omega) ?_)
  intro v1 w1 h1
  clear hs1
  go_wp2_with (at_builtin; refine wpList_append_upon _ rfl (.tmp 11) (.tmp 12) 29 9 rfl hc i0 (.int .u8 0) 1 Try.underlying29 hi hz0 hz1 hz2 rfl rfl h1 _ s.size (byteCells s) rfl (Src.ofString _ Try.underlying9 s) (by unfold maxLen; omega) (by omega) ?_)
  intro v2 w2 h2
  have hs3 : Src Try.prog 1 29 (.slice (some ⟨w2.heap.size, 0, none⟩) 1 1) 1 [.int .u8 0] (w2.alloc (.cells #[.int .u8 0] 5)) :=
    Src.ofSlice _ Try.underlying29 _ _ _ _ rfl (cell_one_new _ _ _) (by simp [Value.oneCell'])
  go_wp2_with (at_builtin; refine wpList_append_upon _ rfl (.tmp 14) (.tmp 15) 29 29 rfl hc i0 (.int .u8 0) 1 Try.underlying29 hi hz0 hz1 hz2 rfl rfl (h2.alloc hc _) _ 1 [.int .u8 0] rfl hs3 (by unfold maxLen; omega) (by omega) ?_)
  intro v3 w3 h3
  clear hs3
  go_wp2
  go_ret
  exact ⟨v3, _, rfl, h3⟩

theorem zzapp_any (hc : Came W 1 ao b off len cap olds) (w : World) (v : Value) (m : Nat) (ks : List Value) (r : Nat) (h : Upon W 5 1 ao b off len cap olds w v m ks r) (kind : Int) (s : ByteArray)
    (bd : len + m + s.size + 2 ≤ 1099511627776) :
    Calls Try.prog 12 #[v, .int .u8 kind, .string s] w fun e w' => ∃ v' r', e = .returned v' ∧ Upon W 5 1 ao b off len cap olds w' v' (m + 1 + s.size + 1) (ks ++ .int .u8 kind :: (byteCells s ++ [.int .u8 0])) r' := by
  go_enter Try.func12, Try.ntmps12
  go_wp2_with fail
  refine (app_any hc w v m ks r h kind s bd).mono ?_
  rintro e w' ⟨v', r', rfl, h'⟩
  go_wp2
  go_ret
  exact ⟨_, _, rfl, h'⟩
end

/-- What the walk is told of a slice of bytes that came in (as the shell has it). -/
def IsRow (k : IntKind) (w : World) (a : Option Addr) (len cap : Nat) (zs : List Int) : Prop :=
  (a = none ∧ len = 0 ∧ cap = 0 ∧ zs = []) ∨
  ∃ x, a = some x ∧ len ≤ cap ∧ cap ≤ maxLen ∧ zs.length = cap ∧ (∀ i, i < zs.length → w.cell? (x.add i) = some (.int k (zs.getD i 0))) ∧ ∀ n ∈ zs, (Lit.int k n).wf = true

theorem came_own {W : World} {base n : Nat} {xs : List Value} {g : Nat} (h : W.ownsRow base 5 1 (.slice (some ⟨g, 0, none⟩) n n) n xs) (hg : g < W.heap.size) : Came W 1 (some ⟨g, 0, none⟩) g 0 n n xs := by
  refine ⟨Nat.le_refl _, fun _ => rfl, fun _ => hg, h.1, fun j u hu => ?_, fun j hj => by simp at hj⟩
  have hj : j < n * 1 := by rw [← h.1]; exact (List.getElem?_eq_some_iff.1 hu).1
  rw [Nat.zero_add, h.cellAt j hj]
  exact hu

theorem clone_any (a : Option Addr) (n c : Nat) (zs : List Int) (w : World) (hn : n ≤ 262144) (hr : IsRow .u8 w a n c zs) :
    Calls Try.prog 11 #[.slice a n c] w fun e w' => ∃ ao b cap, e = .returned (.slice ao n cap) ∧ Below w.heap.size w w' ∧ w.heap.size ≤ b ∧ Came w' 1 ao b 0 n cap ((zs.take n).map (Value.int .u8)) ∧ cap ≤ maxLen := by
  rcases hr with ⟨rfl, rfl, rfl, rfl⟩ | ⟨x, rfl, h1, h2, h3, h4, h5⟩
  · refine (clone_nil w).mono ?_
    rintro e w' ⟨rfl, rfl⟩
    exact ⟨_, w'.heap.size, _, rfl, Below.refl _ _, Nat.le_refl _, ⟨Nat.le_refl _, fun h => absurd h (Nat.lt_irrefl _), fun h => absurd h (Nat.lt_irrefl _), rfl, fun j u h => by simp at h, fun j h => by simp at h⟩, Nat.zero_le _⟩
  · refine (clone_some x n c zs w hn (by omega) (fun i hi => h4 i (by omega))).mono ?_
    rintro e w' ⟨rfl, hb, ho⟩
    exact ⟨_, w.heap.size, _, rfl, hb, Nat.le_refl _, came_own ho (ho.lt w.heap.size rfl).2, by unfold maxLen; omega⟩

/-- The bytes of a string as numbers. -/
def bs (s : ByteArray) : List Int := s.data.toList.map fun b => (b.toNat : Int)
theorem bs_length (s : ByteArray) : (bs s).length = s.size := by simp [bs]
theorem byteCells_bs (s : ByteArray) : byteCells s = (bs s).map (Value.int .u8) := by simp [byteCells, bs, Function.comp_def]
theorem bs_get (s : ByteArray) (i : Nat) (h : i < s.size) : (bs s).getD i 0 = (s[i].toNat : Int) := by
  rw [List.getD_eq_getElem?_getD, List.getElem?_eq_getElem (by rw [bs_length]; exact h)]
  simp [bs, ByteArray.getElem_eq_getElem_data]

/-- The document, as numbers. -/
def docL (zs : List Int) (k1 : Int) (s1 : ByteArray) (k2 : Int) (s2 : ByteArray) : List Int := zs ++ (k1 :: (bs s1 ++ [0])) ++ (k2 :: (bs s2 ++ [0]))
def docF (zs : List Int) (k1 : Int) (s1 : ByteArray) (k2 : Int) (s2 : ByteArray) (j : Nat) : Int := (docL zs k1 s1 k2 s2).getD j 0
section
variable (zs : List Int) (k1 : Int) (s1 : ByteArray) (k2 : Int) (s2 : ByteArray)
theorem docL_length : (docL zs k1 s1 k2 s2).length = zs.length + (1 + s1.size + 1) + (1 + s2.size + 1) := by
  simp [docL, bs_length]; omega
theorem docF_old (j : Nat) (h : j < zs.length) : docF zs k1 s1 k2 s2 j = zs.getD j 0 := by
  unfold docF docL
  rw [List.getD_eq_getElem?_getD, List.getD_eq_getElem?_getD, List.append_assoc, List.getElem?_append_left h]
theorem docF_part1 (j : Nat) (h : j < 1 + s1.size + 1) : docF zs k1 s1 k2 s2 (zs.length + j) = (k1 :: (bs s1 ++ [0])).getD j 0 := by
  unfold docF docL
  rw [List.getD_eq_getElem?_getD, List.getD_eq_getElem?_getD, List.append_assoc, List.getElem?_append_right (by omega), show zs.length + j - zs.length = j by omega, List.getElem?_append_left (by simp [bs_length]; omega)]
theorem docF_part2 (j : Nat) : docF zs k1 s1 k2 s2 (zs.length + (1 + s1.size + 1) + j) = (k2 :: (bs s2 ++ [0])).getD j 0 := by
  unfold docF docL
  rw [List.getD_eq_getElem?_getD, List.getD_eq_getElem?_getD, List.getElem?_append_right (by simp [bs_length]; omega), show zs.length + (1 + s1.size + 1) + j - (zs ++ k1 :: (bs s1 ++ [0])).length = j by simp [bs_length]; omega]
end
theorem el_kind (k : Int) (s : ByteArray) : (k :: (bs s ++ [0])).getD 0 0 = k := rfl
theorem el_name (k : Int) (s : ByteArray) (i : Nat) (h : i < s.size) : (k :: (bs s ++ [0])).getD (1 + i) 0 = (s[i].toNat : Int) := by
  rw [Nat.add_comm, List.getD_cons_succ, ← bs_get s i h, List.getD_eq_getElem?_getD, List.getD_eq_getElem?_getD, List.getElem?_append_left (by rw [bs_length]; exact h)]
theorem el_end (k : Int) (s : ByteArray) : (k :: (bs s ++ [0])).getD (1 + s.size) 0 = 0 := by
  rw [Nat.add_comm, List.getD_cons_succ, List.getD_eq_getElem?_getD, List.getElem?_append_right (by rw [bs_length]; exact Nat.le_refl _)]
  simp [bs_length]
end Go.Proofs.Qxb6603946a.App
