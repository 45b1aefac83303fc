import Derived.Test.Qxb6604083aBase
/-! 'zzWellFormed', 'zzHas', 'zzAgreeAt' -/
set_option linter.unusedVariables false
namespace Go.Proofs.Qxb6604083a.Base
open Go.ChangeShapes Go.WideShapes Go.ChangeAt Go.RowKit

theorem dn1 (w : World) (m n : Nat) : ∃ k, (w.drewN m).drewN n = w.drewN k := ⟨_, World.drewN_drewN _ _ _⟩
theorem dn2 (w : World) (m n p : Nat) : ∃ k, ((w.drewN m).drewN n).drewN p = w.drewN k := ⟨_, by rw [World.drewN_drewN, World.drewN_drewN]⟩
theorem ret_bool {a b : Bool} (h : a = b) : Ending.returned (.bool a) = .returned (.bool b) := by rw [h]
theorem zb_any (a0 a1 a2 a3 : Option Addr) (n0 n1 n2 n3 c0 c1 c2 c3 : Nat) (w : World) :
    Calls Try.prog 14 #[.slice a0 n0 c0, .slice a1 n1 c1, .slice a2 n2 c2, .slice a3 n3 c3] w fun e w' => ∃ b, e = .returned (.bool b) ∧ w' = w := by
  go_enter Try.func14, Try.ntmps14
  go_wp2
  all_goals (go_ret; exact ⟨_, rfl, rfl⟩)

/-- Well-formed: each run is nonempty, and ends before the next one's first number. -/
def WF (n : Nat) (f e : Nat → Int) : Prop := ∀ i, i < n → f i < e i ∧ (0 < i → e (i - 1) < f i)
def wfB (n : Nat) (f e : Nat → Int) : Bool := (List.range n).all fun i => decide (f i < e i) && (i == 0 || decide (e (i - 1) < f i))
theorem wfB_iff (n : Nat) (f e : Nat → Int) : wfB n f e = true ↔ WF n f e := by
  unfold wfB WF
  rw [List.all_eq_true]
  constructor
  · intro h i hi
    have := h i (List.mem_range.2 hi)
    simp at this
    exact ⟨this.1, fun h0 => by rcases this.2 with h | h; · omega
                                · exact h⟩
  · intro h i hi
    have := h i (List.mem_range.1 hi)
    simp
    refine ⟨this.1, ?_⟩
    rcases Nat.eq_zero_or_pos i with h0 | h0
    · exact .inl h0
    · exact .inr (this.2 h0)
theorem wfB_false {n : Nat} {f e : Nat → Int} (k : Nat) (hk : k < n) (h : ¬ (f k < e k ∧ (0 < k → e (k - 1) < f k))) : wfB n f e = false := by
  cases hh : wfB n f e
  · rfl
  · exact absurd ((wfB_iff n f e).1 hh k hk) h

set_option maxHeartbeats 1000000 in
theorem wf_any (a b : Option Addr) (n c d : Nat) (f e : Nat → Int) (w : World) (hn : n ≤ 1048576) (hf : Rd w a n f) (he : Rd w b n e) :
    Calls Try.prog 15 #[.slice a n c, .slice b n d] w fun r w' => r = .returned (.bool (wfB n f e)) ∧ ∃ m, w' = w.drewN m := by
  have HF := hide hf
  have HE := hide he
  clear hf he
  have hnn : ((n : Int) != (n : Int)) = false := by simp
  go_enter Try.func15, Try.ntmps15
  go_wp2
  go_loopw [5] (fun i wr => (∃ k : Nat, k ≤ n ∧ i = .int .i64 k ∧ Hid (∀ j, j < k → f j < e j ∧ (0 < j → e (j - 1) < f j))) ∧ ∃ m, wr = w.drewN m) (fun i _ => n - (intOf i).toNat)
  case atStart => exact ⟨⟨0, Nat.zero_le _, rfl, fun j h => absurd h (Nat.not_lt_zero _)⟩, 0, rfl⟩
  case round =>
    obtain ⟨⟨k, hk, rfl, hz⟩, m, rfl⟩ := hrel
    by_cases hlt : k < n
    · obtain ⟨x, rfl, hcx⟩ := HF.out k hlt
      obtain ⟨y, rfl, hcy⟩ := HE.out k hlt
      by_cases h1 : f k < e k
      · by_cases h0 : 0 < k
        · obtain ⟨y', ey, hcy'⟩ := HE.out (k - 1) (by omega)
          cases ey
          have hp1 : (0 : Int) ≤ (k : Int) - 1 := by omega
          have hp2 : (k : Int) - 1 < (n : Int) := by omega
          have hp3 : ((k : Int) - 1).toNat = k - 1 := by omega
          have hwr : IntKind.i64.wrap ((k : Int) - 1) = (k : Int) - 1 := by rw [IntKind.wrap_i64]; omega
          have hd0 : decide ((0 : Int) < (k : Int)) = true := by simp; omega
          by_cases h2 : e (k - 1) < f k
          · have HZ : Hid (∀ j, j < k + 1 → f j < e j ∧ (0 < j → e (j - 1) < f j)) := fun j hj => by
              by_cases ej : j < k
              · exact hz.out j ej
              · obtain rfl : j = k := by omega
                exact ⟨h1, fun _ => h2⟩
            go_wp2
            go_quiet (fail)
            go_wp2
            go_quiet (fail)
            go_wp2
            go_roundw
            case rel => exact ⟨⟨k + 1, by omega, by go_num, HZ⟩, _, rfl⟩
            case measure => simp [intOf]; omega
          · have hb := wfB_false (n := n) (f := f) (e := e) k hlt (fun h => h2 (h.2 h0))
            have h2' : f k ≤ e (k - 1) := by omega
            go_wp2
            go_quiet (fail)
            go_wp2
            go_quiet (fail)
            go_wp2
            go_ret
            exact ⟨ret_bool hb.symm, dn2 _ _ _ _⟩
        · obtain rfl : k = 0 := by omega
          have hcx0 : w.cell? x = some (.int .i64 (f 0)) := by simpa [Addr.add] using hcx
          have hcy0 : w.cell? y = some (.int .i64 (e 0)) := by simpa [Addr.add] using hcy
          have hd0 : decide ((0 : Int) < ((0 : Nat) : Int)) = false := by simp
          have HZ : Hid (∀ j, j < 0 + 1 → f j < e j ∧ (0 < j → e (j - 1) < f j)) := fun j hj => by
            obtain rfl : j = 0 := by omega
            exact ⟨h1, fun h => absurd h (Nat.lt_irrefl _)⟩
          go_wp2
          go_quiet (fail)
          go_wp2
          go_quiet (fail)
          go_wp2
          go_roundw
          case rel => exact ⟨⟨0 + 1, by omega, by go_num, HZ⟩, _, rfl⟩
          case measure => simp [intOf]; omega
      · have hb := wfB_false (n := n) (f := f) (e := e) k hlt (fun h => h1 h.1)
        have h1' : e k ≤ f k := by omega
        go_wp2
        go_quiet (fail)
        go_wp2
        go_ret
        exact ⟨ret_bool hb.symm, dn1 _ _ _⟩
    · have hb : wfB n f e = true := (wfB_iff n f e).2 (fun j hj => hz.out j (by omega))
      go_wp2
      go_ret
      exact ⟨ret_bool hb.symm, _, rfl⟩

/-- Membership in a set of runs. -/
def hasB (n : Nat) (f e : Nat → Int) (x : Int) : Bool := (List.range n).any fun i => decide (f i ≤ x) && decide (x < e i)
theorem hasB_iff (n : Nat) (f e : Nat → Int) (x : Int) : hasB n f e x = true ↔ ∃ i, i < n ∧ f i ≤ x ∧ x < e i := by
  unfold hasB
  rw [List.any_eq_true]
  constructor
  · rintro ⟨i, hi, h⟩
    simp at h
    exact ⟨i, List.mem_range.1 hi, h.1, h.2⟩
  · rintro ⟨i, hi, h1, h2⟩
    exact ⟨i, List.mem_range.2 hi, by simp; exact ⟨h1, h2⟩⟩
theorem WF.mono {n : Nat} {f e : Nat → Int} (h : WF n f e) {i j : Nat} (hij : i < j) (hj : j < n) : e i < f j := by
  induction j with
  | zero => omega
  | succ j ih =>
    by_cases e' : i = j
    · subst e'
      have := (h (i + 1) hj).2 (by omega)
      simpa using this
    · have h1 := ih (by omega) (by omega)
      have h2 := (h j (by omega)).1
      have h3 := (h (j + 1) hj).2 (by omega)
      simp only [Nat.add_sub_cancel] at h3
      omega
theorem WF.first {n : Nat} {f e : Nat → Int} (h : WF n f e) {i j : Nat} (hij : i ≤ j) (hj : j < n) : f i ≤ f j := by
  rcases Nat.lt_or_eq_of_le hij with l | rfl
  · have := h.mono l hj
    have := (h i (by omega)).1
    omega
  · exact Int.le_refl _
/-- Where the search ends, the answer. -/
theorem has_end {n : Nat} {f e : Nat → Int} (h : WF n f e) {x : Int} {lo : Nat} (hlo : lo ≤ n) (h1 : ∀ i, i < lo → f i ≤ x) (h2 : ∀ i, lo ≤ i → i < n → x < f i) :
    hasB n f e x = (decide (0 < lo) && decide (x < e (lo - 1))) := by
  rw [Bool.eq_iff_iff, hasB_iff]
  simp
  constructor
  · rintro ⟨i, hi, a, b⟩
    have : i < lo := by
      rcases Nat.lt_or_ge i lo with l | l
      · exact l
      · have := h2 i l hi; omega
    refine ⟨by omega, ?_⟩
    by_cases e1 : i = lo - 1
    · rw [← e1]; exact b
    · have := h.mono (i := i) (j := lo - 1) (by omega) (by omega)
      have := h1 (lo - 1) (by omega)
      omega
  · rintro ⟨a, b⟩
    exact ⟨lo - 1, by omega, h1 _ (by omega), b⟩

set_option maxHeartbeats 1000000 in
theorem has_any (a b : Option Addr) (n c d : Nat) (f e : Nat → Int) (x : Int) (w : World) (hn : n ≤ 1048576) (hf : Rd w a n f) (he : Rd w b n e) (hwf : WF n f e) :
    Calls Try.prog 23 #[.slice a n c, .slice b n d, .int .i64 x] w fun r w' => r = .returned (.bool (hasB n f e x)) ∧ w' = w := by
  have HF := hide hf
  have HE := hide he
  have HW := hide hwf
  clear hf he hwf
  go_enter Try.func23, Try.ntmps23
  go_wp2
  go_loop [7, 8] (fun l h => ∃ lo hi : Nat, lo ≤ hi ∧ hi ≤ n ∧ l = .int .i64 lo ∧ h = .int .i64 hi ∧ Hid ((∀ i, i < lo → f i ≤ x) ∧ ∀ i, hi ≤ i → i < n → x < f i)) (fun l h => (intOf h).toNat - (intOf l).toNat)
  case atStart => exact ⟨0, n, Nat.zero_le _, Nat.le_refl _, rfl, rfl, fun i h => absurd h (Nat.not_lt_zero _), fun i h h' => by omega⟩
  case round =>
    obtain ⟨lo, hi, h1, h2, rfl, rfl, hz⟩ := hrel
    by_cases hlt : lo < hi
    · obtain ⟨y, rfl, hcy⟩ := HF.out (lo + (hi - lo) / 2) (by omega)
      by_cases hx : f (lo + (hi - lo) / 2) ≤ x
      · have HZ : Hid ((∀ i, i < lo + (hi - lo) / 2 + 1 → f i ≤ x) ∧ ∀ i, hi ≤ i → i < n → x < f i) := ⟨fun i h => by
          have := HW.out.first (i := i) (j := lo + (hi - lo) / 2) (by omega) (by omega)
          omega, hz.out.2⟩
        go_wp2
        go_round
        case rel => exact ⟨lo + (hi - lo) / 2 + 1, hi, by omega, h2, by go_num, rfl, HZ⟩
        case measure => simp [intOf]; omega
      · have HZ : Hid ((∀ i, i < lo → f i ≤ x) ∧ ∀ i, lo + (hi - lo) / 2 ≤ i → i < n → x < f i) := ⟨hz.out.1, fun i h h' => by
          have := HW.out.first (i := lo + (hi - lo) / 2) (j := i) (by omega) (by omega)
          omega⟩
        go_wp2
        go_round
        case rel => exact ⟨lo, lo + (hi - lo) / 2, by omega, by omega, rfl, by go_num, HZ⟩
        case measure => simp [intOf]; omega
    · obtain rfl : lo = hi := by omega
      have hend := hide (has_end HW.out h2 hz.out.1 hz.out.2)
      by_cases h0 : 0 < lo
      · obtain ⟨y, rfl, hcy⟩ := HE.out (lo - 1) (by omega)
        have hp1 : (0 : Int) ≤ (lo : Int) - 1 := by omega
        have hp2 : (lo : Int) - 1 < (n : Int) := by omega
        have hp3 : ((lo : Int) - 1).toNat = lo - 1 := by omega
        have hd0 : decide ((0 : Int) < (lo : Int)) = true := by simp; omega
        go_wp2
        go_ret
        exact ⟨ret_bool (by rw [hend.out]; simp [h0]), rfl⟩
      · obtain rfl : lo = 0 := by omega
        go_wp2
        go_ret
        exact ⟨ret_bool (by rw [hend.out]; simp), rfl⟩

/-- The three sets agree at a point. -/
def AgreeAt (ns : Nat) (sf se : Nat → Int) (nt : Nat) (tf te : Nat → Int) (nu : Nat) (uf ue : Nat → Int) (x : Int) : Prop := hasB nu uf ue x = (hasB ns sf se x || hasB nt tf te x)

set_option maxHeartbeats 1000000 in
theorem agree_any (aa bs : Option Addr) (ns cs ds : Nat) (sf se : Nat → Int) (at' bt : Option Addr) (nt ct dt : Nat) (tf te : Nat → Int) (au bu : Option Addr) (nu cu du : Nat) (uf ue : Nat → Int)
    (ap : Option Addr) (np cp : Nat) (p : Nat → Int) (w : World) (hns : ns ≤ 1048576) (hnt : nt ≤ 1048576) (hnu : nu ≤ 1048576) (hnp : np ≤ 1048576)
    (h1 : Rd w aa ns sf) (h2 : Rd w bs ns se) (h3 : Rd w at' nt tf) (h4 : Rd w bt nt te) (h5 : Rd w au nu uf) (h6 : Rd w bu nu ue) (h7 : Rd w ap np p) (w1 : WF ns sf se) (w2 : WF nt tf te) (w3 : WF nu uf ue)
    (hag : ∀ x, AgreeAt ns sf se nt tf te nu uf ue x) :
    Calls Try.prog 17 #[.slice aa ns cs, .slice bs ns ds, .slice at' nt ct, .slice bt nt dt, .slice au nu cu, .slice bu nu du, .slice ap np cp] w fun r w' => r = .returned (.bool true) ∧ w' = w := by
  have HA := hide hag
  have H1 := hide h1; have H2 := hide h2; have H3 := hide h3; have H4 := hide h4; have H5 := hide h5; have H6 := hide h6; have H7 := hide h7
  have W1 := hide w1; have W2 := hide w2; have W3 := hide w3
  clear hag h1 h2 h3 h4 h5 h6 h7 w1 w2 w3
  go_enter Try.func17, Try.ntmps17
  go_wp2
  go_loop [15] (fun i => ∃ k : Nat, k ≤ np ∧ i = .int .i64 k) (fun i => np - (intOf i).toNat)
  case atStart => exact ⟨0, Nat.zero_le _, rfl⟩
  case round =>
    obtain ⟨k, hk, rfl⟩ := hrel
    by_cases hlt : k < np
    · obtain ⟨y, rfl, hcy⟩ := H7.out k hlt
      have hax := HA.out (p k)
      unfold AgreeAt at hax
      cases es : hasB ns sf se (p k)
      · rw [es, Bool.false_or] at hax
        have hax2 : (hasB nt tf te (p k) != hasB nt tf te (p k)) = false := by simp
        go_wp2_with fail
        refine (has_any au bu nu cu du uf ue (p k) _ hnu H5.out H6.out W3.out).mono ?_
        rintro e w' ⟨rfl, rfl⟩
        go_wp2_with fail
        refine (has_any aa bs ns cs ds sf se (p k) _ hns H1.out H2.out W1.out).mono ?_
        rintro e w' ⟨rfl, rfl⟩
        go_wp2_with fail
        refine (has_any at' bt nt ct dt tf te (p k) _ hnt H3.out H4.out W2.out).mono ?_
        rintro e w' ⟨rfl, rfl⟩
        go_wp2
        go_round
        case rel => exact ⟨k + 1, by omega, by go_num⟩
        case measure => simp [intOf]; omega
      · rw [es, Bool.true_or] at hax
        go_wp2_with fail
        refine (has_any au bu nu cu du uf ue (p k) _ hnu H5.out H6.out W3.out).mono ?_
        rintro e w' ⟨rfl, rfl⟩
        go_wp2_with fail
        refine (has_any aa bs ns cs ds sf se (p k) _ hns H1.out H2.out W1.out).mono ?_
        rintro e w' ⟨rfl, rfl⟩
        go_wp2
        go_round
        case rel => exact ⟨k + 1, by omega, by go_num⟩
        case measure => simp [intOf]; omega
    · go_wp2
      go_ret
      exact ⟨rfl, rfl⟩
end Go.Proofs.Qxb6604083a.Base
