/-! THE PLAIN LAW OF 'missing': no Go in sight -/
namespace Go.Proofs.Qxb6604234a.Plain

/-- The runs are numbers above 0, each nonempty, ascending and apart. -/
def Valid (n : Nat) (lo hi : Nat → Int) : Prop := ∀ i, i < n → 1 ≤ lo i ∧ lo i ≤ hi i ∧ (0 < i → hi (i - 1) < lo i)

/-- How much of 1..m run i covers. -/
def cov (lo hi : Nat → Int) (m : Int) (i : Nat) : Int := if m < lo i then 0 else (if m < hi i then m else hi i) - lo i + 1
/-- .. the first k runs. -/
def P (lo hi : Nat → Int) (m : Int) : Nat → Int
  | 0 => 0
  | k + 1 => P lo hi m k + cov lo hi m k
/-- The whole size of the first k runs. -/
def D (lo hi : Nat → Int) : Nat → Int
  | 0 => 0
  | k + 1 => D lo hi k + (hi k - lo k + 1)
/-- How many numbers of 1..m lie in no run. -/
def C (n : Nat) (lo hi : Nat → Int) (m : Int) : Int := if m < 1 then 0 else m - P lo hi m n

theorem Valid.step {n : Nat} {lo hi : Nat → Int} (v : Valid n lo hi) {i j : Nat} (h : i < j) (hj : j < n) : hi i < lo j := by
  induction j with
  | zero => omega
  | succ j ih =>
    have h3 := (v (j + 1) hj).2.2 (by omega)
    simp only [Nat.add_sub_cancel] at h3
    by_cases e : i = j
    · subst e; exact h3
    · have h1 := ih (by omega) (by omega)
      have h2 := (v j (by omega)).2.1
      omega

theorem cov_nonneg {n : Nat} {lo hi : Nat → Int} (v : Valid n lo hi) (m : Int) {i : Nat} (h : i < n) : 0 ≤ cov lo hi m i := by
  unfold cov
  have := (v i h).2.1
  split
  · omega
  · split <;> omega
theorem P_nonneg {n : Nat} {lo hi : Nat → Int} (v : Valid n lo hi) (m : Int) : ∀ k, k ≤ n → 0 ≤ P lo hi m k
  | 0, _ => Int.le_refl _
  | k + 1, h => by
    have := P_nonneg v m k (by omega)
    have := cov_nonneg v m (i := k) (by omega)
    show 0 ≤ P lo hi m k + cov lo hi m k
    omega

/-- Runs that end by m are covered whole. -/
theorem P_low {n : Nat} {lo hi : Nat → Int} (v : Valid n lo hi) (m : Int) : ∀ k, k ≤ n → (∀ j, j < k → hi j ≤ m) → P lo hi m k = D lo hi k
  | 0, _, _ => rfl
  | k + 1, h, hm => by
    have h1 := P_low v m k (by omega) (fun j hj => hm j (by omega))
    have h2 := hm k (by omega)
    have h3 := (v k (by omega)).2.1
    show P lo hi m k + cov lo hi m k = D lo hi k + (hi k - lo k + 1)
    unfold cov
    rw [if_neg (by omega)]
    split <;> omega
/-- Runs that begin behind m cover nothing. -/
theorem P_high {lo hi : Nat → Int} (m : Int) (i : Nat) : ∀ d, (∀ j, i ≤ j → j < i + d → m < lo j) → P lo hi m (i + d) = P lo hi m i
  | 0, _ => rfl
  | d + 1, hm => by
    have h1 := P_high (lo := lo) (hi := hi) m i d (fun j a b => hm j a (by omega))
    show P lo hi m (i + d) + cov lo hi m (i + d) = _
    unfold cov
    rw [if_pos (hm (i + d) (by omega) (by omega))]
    omega
/-- The runs from i on, all at s or behind it, cover at most the numbers s..m. -/
theorem P_bound {n : Nat} {lo hi : Nat → Int} (v : Valid n lo hi) (m s : Int) (hs : s ≤ m) (i : Nat) : ∀ d, i + (d + 1) ≤ n → (s ≤ lo i) → P lo hi m (i + (d + 1)) ≤ P lo hi m i + ((if m < hi (i + d) then m else hi (i + d)) - s + 1)
  | 0, h, hl => by
    have h2 := (v i (by omega)).2.1
    show P lo hi m i + cov lo hi m i ≤ P lo hi m i + ((if m < hi i then m else hi i) - s + 1)
    unfold cov
    split <;> split <;> omega
  | d + 1, h, hl => by
    have h1 := P_bound v m s hs i d (by omega) hl
    have h2 := (v (i + (d + 1)) (by omega)).2
    have h3 := h2.2 (by omega)
    rw [show i + (d + 1) - 1 = i + d by omega] at h3
    have h5 := (v (i + d) (by omega)).2.1
    have h6 : s ≤ hi (i + d) := by
      rcases Nat.eq_zero_or_pos d with rfl | hd
      · have := (v i (by omega)).2.1; simp; omega
      · have := v.step (i := i) (j := i + d) (by omega) (by omega)
        have := (v i (by omega)).2.1
        omega
    show P lo hi m (i + (d + 1)) + cov lo hi m (i + (d + 1)) ≤ _
    unfold cov
    have h7 := h2.1
    split at h1 <;> split <;> split <;> omega
/-- What is covered lies in 1..m. -/
theorem P_le {n : Nat} {lo hi : Nat → Int} (v : Valid n lo hi) (m : Int) (hm : 1 ≤ m) (k : Nat) (hk : k ≤ n) : P lo hi m k ≤ m := by
  cases k with
  | zero => show (0 : Int) ≤ m; omega
  | succ k =>
    have h := P_bound v m 1 hm 0 k (by omega) (v 0 (by omega)).1
    rw [Nat.zero_add] at h
    have h0 : P lo hi m 0 = 0 := rfl
    rw [h0] at h
    split at h <;> omega

/-- What the loop of 'missing' holds: the numbers found, the next one, the runs passed. -/
structure Inv (n : Nat) (lo hi : Nat → Int) (highest : Int) (L : List Int) (next : Int) (i : Nat) : Prop where
  pos : 1 ≤ next
  ile : i ≤ n
  low : ∀ j, j < i → hi j < next
  high : i < n → next ≤ lo i
  len : (L.length : Int) = next - 1 - D lo hi i
  mem : ∀ x ∈ L, 1 ≤ x ∧ x < next ∧ x ≤ highest ∧ ∀ j, j < n → ¬ (lo j ≤ x ∧ x ≤ hi j)
  srt : L.Pairwise (· < ·)
  lst : ∀ V x, L = V ++ [x] → C n lo hi x = (V.length : Int) + 1

theorem Inv.start (n : Nat) (lo hi : Nat → Int) (highest : Int) (v : Valid n lo hi) : Inv n lo hi highest [] 1 0 :=
  ⟨Int.le_refl _, Nat.zero_le _, fun j h => absurd h (Nat.not_lt_zero _), fun h => (v 0 h).1, by simp [D], fun x h => by simp at h, List.Pairwise.nil, fun V x h => by simp at h⟩

section
variable {n : Nat} {lo hi : Nat → Int} {highest : Int} {L : List Int} {next : Int} {i : Nat}

theorem Inv.skip (h : Inv n lo hi highest L next i) (v : Valid n lo hi) (hi1 : i < n) (he : lo i = next) : Inv n lo hi highest L (hi i + 1) (i + 1) := by
  have h1 := (v i hi1).2.1
  have h2 := h.pos
  refine ⟨by omega, hi1, fun j hj => ?_, fun hj => ?_, ?_, fun x hx => ?_, h.srt, h.lst⟩
  · by_cases e : j = i
    · subst e; omega
    · have := h.low j (by omega); omega
  · have := v.step (i := i) (j := i + 1) (by omega) hj; omega
  · have := h.len
    show (L.length : Int) = hi i + 1 - 1 - (D lo hi i + (hi i - lo i + 1))
    omega
  · obtain ⟨a, b, c, d⟩ := h.mem x hx
    exact ⟨a, by omega, c, d⟩

/-- Not at a run's beginning: 'next' lies in no run. -/
theorem Inv.absent (h : Inv n lo hi highest L next i) (v : Valid n lo hi) (hne : i < n → lo i ≠ next) : ∀ j, j < n → ¬ (lo j ≤ next ∧ next ≤ hi j) := by
  rintro j hj ⟨a, b⟩
  by_cases e : j < i
  · have := h.low j e; omega
  · have h1 := h.high (by omega)
    have h2 := hne (by omega)
    by_cases e2 : j = i
    · subst e2; omega
    · have := v.step (i := i) (j := j) (by omega) hj
      have := (v i (by omega)).2.1
      omega
/-- How many are absent up to m, where the runs before i end by m and those from i on begin behind it. -/
theorem C_at (v : Valid n lo hi) (m : Int) (hm : 1 ≤ m) (hile : i ≤ n) (h1 : ∀ j, j < i → hi j ≤ m) (h2 : i < n → m < lo i) : C n lo hi m = m - D lo hi i := by
  unfold C
  rw [if_neg (by omega)]
  have e : n = i + (n - i) := by omega
  rw [e, P_high m i (n - i) (fun j a b => by
    by_cases e2 : j = i
    · subst e2; exact h2 (by omega)
    · have := v.step (i := i) (j := j) (by omega) (by omega)
      have := (v i (by omega)).2.1
      have := h2 (by omega)
      omega), P_low v m i hile h1]

theorem Inv.push (h : Inv n lo hi highest L next i) (v : Valid n lo hi) (hle : next ≤ highest) (hne : i < n → lo i ≠ next) : Inv n lo hi highest (L ++ [next]) (next + 1) i := by
  have h2 := h.pos
  have hC := C_at v next h2 h.ile (fun j hj => by have := h.low j hj; omega) (fun hj => by have := h.high hj; have := hne hj; omega)
  refine ⟨by omega, h.ile, fun j hj => by have := h.low j hj; omega, fun hj => ?_, ?_, fun x hx => ?_, ?_, fun V x e => ?_⟩
  · have := h.high hj; have := hne hj; omega
  · have := h.len; simp; omega
  · rcases List.mem_append.1 hx with a | a
    · obtain ⟨a, b, c, d⟩ := h.mem x a
      exact ⟨a, by omega, c, d⟩
    · simp at a; subst a
      exact ⟨h2, by omega, hle, h.absent v hne⟩
  · rw [List.pairwise_append]
    refine ⟨h.srt, by simp, fun x hx y hy => ?_⟩
    simp at hy; subst hy
    exact (h.mem x hx).2.1
  · obtain ⟨e1, e2⟩ := List.append_inj' e rfl
    simp at e2
    subst e1 e2
    rw [hC]
    have := h.len
    omega

/-- THE ENDS: what is wanted, in each. -/
theorem Inv.full (h : Inv n lo hi highest L next i) (v : Valid n lo hi) (hle : next ≤ highest) : (L.length : Int) ≤ C n lo hi highest := by
  have h2 := h.pos
  unfold C
  rw [if_neg (by omega)]
  have hl := h.len
  have hlow := P_low v highest i h.ile (fun j hj => by have := h.low j hj; omega)
  rcases Nat.eq_zero_or_pos (n - i) with h0 | h0
  · have : n = i := by have := h.ile; omega
    rw [this, hlow]; omega
  · have hb := P_bound v highest next hle i (n - i - 1) (by omega) (h.high (by omega))
    rw [show i + (n - i - 1 + 1) = n by omega, hlow] at hb
    split at hb <;> omega
theorem Inv.hit (h : Inv n lo hi highest L next i) (v : Valid n lo hi) (hle : next ≤ highest) (hi1 : i < n) (he : lo i = next) (hge : highest ≤ hi i) : C n lo hi highest = (L.length : Int) := by
  have h2 := h.pos
  unfold C
  rw [if_neg (by omega)]
  have hl := h.len
  have hlow := P_low v highest i h.ile (fun j hj => by have := h.low j hj; omega)
  have e : n = (i + 1) + (n - (i + 1)) := by omega
  rw [e, P_high highest (i + 1) (n - (i + 1)) (fun j a b => by
    have := v.step (i := i) (j := j) (by omega) (by omega)
    omega)]
  show highest - (P lo hi highest i + cov lo hi highest i) = _
  unfold cov
  rw [if_neg (by omega), hlow]
  split <;> omega
theorem Inv.last (h : Inv n lo hi highest L next i) (v : Valid n lo hi) (hle : next = highest) (hne : i < n → lo i ≠ next) : C n lo hi highest = (L.length : Int) + 1 := by
  subst hle
  have h2 := h.pos
  rw [C_at v next h2 h.ile (fun j hj => by have := h.low j hj; omega) (fun hj => by have := h.high hj; have := hne hj; omega)]
  have := h.len
  omega
end

/-- What 'missing' answers. -/
structure Ans (n : Nat) (lo hi : Nat → Int) (highest k : Int) (L : List Int) : Prop where
  len : (L.length : Int) = max 0 (min (C n lo hi highest) k)
  mem : ∀ x ∈ L, 1 ≤ x ∧ x ≤ highest ∧ ∀ j, j < n → ¬ (lo j ≤ x ∧ x ≤ hi j)
  srt : L.Pairwise (· < ·)
  lst : ∀ V x, L = V ++ [x] → C n lo hi x = (V.length : Int) + 1

theorem C_low (n : Nat) (lo hi : Nat → Int) (m : Int) (h : m < 1) : C n lo hi m = 0 := if_pos h
theorem Inv.ans {n : Nat} {lo hi : Nat → Int} {highest : Int} {L : List Int} {next : Int} {i : Nat} (h : Inv n lo hi highest L next i) (k : Int) (hk : (L.length : Int) = max 0 (min (C n lo hi highest) k)) : Ans n lo hi highest k L :=
  ⟨hk, fun x hx => ⟨(h.mem x hx).1, (h.mem x hx).2.2.1, (h.mem x hx).2.2.2⟩, h.srt, h.lst⟩
end Go.Proofs.Qxb6604234a.Plain
