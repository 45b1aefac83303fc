/-! GRAPHS, PLAIN: no Go in sight -/
namespace Go.Proofs.Qxb6604083a.G
open Relation (TransGen)

/-- An edge. -/
def E (adj : Int → List Int) (x y : Int) : Prop := y ∈ adj x
/-- A path of at least one edge. -/
def TG (adj : Int → List Int) (x y : Int) : Prop := TransGen (E adj) x y
def RT (adj : Int → List Int) (x y : Int) : Prop := x = y ∨ TG adj x y

section
variable {adj : Int → List Int}
theorem TG.one {x y : Int} (h : y ∈ adj x) : TG adj x y := TransGen.single h
theorem TG.snoc {x y z : Int} (h : TG adj x y) (k : z ∈ adj y) : TG adj x z := TransGen.tail h k
theorem TG.trans {x y z : Int} (h : TG adj x y) (k : TG adj y z) : TG adj x z := Relation.TransGen.trans h k
theorem RT.snoc {x y z : Int} (h : RT adj x y) (k : z ∈ adj y) : TG adj x z := by
  rcases h with rfl | h
  · exact TG.one k
  · exact h.snoc k
theorem TG.rt {x y z : Int} (h : TG adj x y) (k : RT adj y z) : TG adj x z := by
  rcases k with rfl | k
  · exact h
  · exact h.trans k
theorem RT.tg {x y z : Int} (h : RT adj x y) (k : TG adj y z) : TG adj x z := by
  rcases h with rfl | h
  · exact k
  · exact h.trans k
/-- What is closed under edges and holds all that u leads to holds all that u reaches. -/
theorem TG.closed {u v : Int} (S : Int → Prop) (h0 : ∀ y ∈ adj u, S y) (h1 : ∀ x y, S x → y ∈ adj x → S y) (h : TG adj u v) : S v := by
  induction h with
  | single h => exact h0 _ h
  | tail _ hb ih => exact h1 _ _ ih hb
theorem RT.closed {u v : Int} (S : Int → Prop) (h0 : S u) (h1 : ∀ x y, S x → y ∈ adj x → S y) (h : RT adj u v) : S v := by
  rcases h with rfl | h
  · exact h0
  · exact TG.closed S (fun y hy => h1 u y h0 hy) h1 h
/-- The last edge of a path. -/
theorem TG.last {u v : Int} (h : TG adj u v) : ∃ x, RT adj u x ∧ v ∈ adj x := by
  cases h with
  | single h => exact ⟨u, .inl rfl, h⟩
  | tail h k => exact ⟨_, .inr h, k⟩
theorem TG.first {u v : Int} (h : TG adj u v) : ∃ x, x ∈ adj u := by
  induction h with
  | single h => exact ⟨_, h⟩
  | tail _ _ ih => exact ih

/-- A FINITE SET IN WHICH EVERYONE HAS A PREDECESSOR: behind each lies a cycle. -/
theorem cycle_aux (A : List Int) (hp : ∀ a ∈ A, ∃ b ∈ A, a ∈ adj b) (a : Int) : ∀ (n : Nat) (h : Int) (S : List Int), (h :: S).Nodup → (∀ s ∈ h :: S, s ∈ A) → (∀ s ∈ S, TG adj h s) → a ∈ h :: S → A.length < (h :: S).length + n →
    ∃ c ∈ A, TG adj c c ∧ RT adj c a
  | 0, h, S, nd, sub, _, _, hlen => by
    have := nd.length_le_of_subset (l₂ := A) sub
    omega
  | n + 1, h, S, nd, sub, reach, ha, hlen => by
    obtain ⟨b, hb, hbh⟩ := hp h (sub h (by simp))
    have hrt : RT adj h a := by
      rcases List.mem_cons.1 ha with rfl | ha
      · exact .inl rfl
      · exact .inr (reach a ha)
    by_cases hin : b ∈ h :: S
    · refine ⟨b, hb, ?_, .inr ((TG.one hbh).rt hrt)⟩
      rcases List.mem_cons.1 hin with rfl | hin
      · exact TG.one hbh
      · exact (TG.one hbh).trans (reach b hin)
    · refine cycle_aux A hp a n b (h :: S) (List.nodup_cons.2 ⟨hin, nd⟩) (fun s hs => ?_) (fun s hs => ?_) (List.mem_cons_of_mem _ ha) (by simp at hlen ⊢; omega)
      · rcases List.mem_cons.1 hs with rfl | hs
        · exact hb
        · exact sub s hs
      · rcases List.mem_cons.1 hs with rfl | hs
        · exact TG.one hbh
        · exact (TG.one hbh).trans (reach s hs)
theorem cycle_behind (A : List Int) (hp : ∀ a ∈ A, ∃ b ∈ A, a ∈ adj b) (a : Int) (ha : a ∈ A) : ∃ c ∈ A, TG adj c c ∧ RT adj c a :=
  cycle_aux A hp a A.length a [] (by simp) (fun s hs => by simp at hs; subst hs; exact ha) (fun s hs => by simp at hs) (by simp) (by simp)
end

/-! ### counting edges -/
/-- How many edges lead to y from the members of L. -/
def dg (adj : Int → List Int) (L : List Int) (y : Int) : Nat := (L.map fun x => (adj x).count y).sum
theorem dg_nil (adj : Int → List Int) (y : Int) : dg adj [] y = 0 := rfl
theorem dg_cons (adj : Int → List Int) (x : Int) (L : List Int) (y : Int) : dg adj (x :: L) y = (adj x).count y + dg adj L y := by simp [dg]
theorem dg_snoc (adj : Int → List Int) (x : Int) (L : List Int) (y : Int) : dg adj (L ++ [x]) y = dg adj L y + (adj x).count y := by simp [dg]
theorem dg_perm (adj : Int → List Int) {L M : List Int} (h : L.Perm M) (y : Int) : dg adj L y = dg adj M y := by
  unfold dg
  exact (h.map _).sum_nat
theorem dg_zero {adj : Int → List Int} {L : List Int} {y : Int} : dg adj L y = 0 ↔ ∀ x ∈ L, y ∉ adj x := by
  induction L with
  | nil => simp [dg_nil]
  | cons a L ih =>
    rw [dg_cons, Nat.add_eq_zero_iff, ih, List.count_eq_zero]
    simp
theorem dg_strike (adj : Int → List Int) (t y : Int) : ∀ (L : List Int), L.Nodup → dg adj L y = dg adj (L.filter fun x => decide (x ≠ t)) y + (if t ∈ L then (adj t).count y else 0)
  | [], _ => by simp [dg_nil]
  | a :: L, nd => by
    have ih := dg_strike adj t y L (List.nodup_cons.1 nd).2
    have hna := (List.nodup_cons.1 nd).1
    by_cases e : a = t
    · subst e
      rw [dg_cons, List.filter_cons_of_neg (by simp), if_pos (by simp), ih, if_neg hna]
      omega
    · rw [dg_cons, List.filter_cons_of_pos (by simpa using e), dg_cons, ih]
      have : (t ∈ a :: L) ↔ t ∈ L := by simp [Ne.symm e]
      simp only [this]
      omega

/-- The keys that have not been taken away. -/
def rem (ks P : List Int) : List Int := ks.filter fun x => decide (x ∉ P)
theorem mem_rem {ks P : List Int} {x : Int} : x ∈ rem ks P ↔ x ∈ ks ∧ x ∉ P := by simp [rem]
theorem rem_snoc (ks P : List Int) (t : Int) : rem ks (P ++ [t]) = (rem ks P).filter fun x => decide (x ≠ t) := by
  unfold rem
  rw [List.filter_filter]
  apply List.filter_congr
  intro x _
  by_cases h1 : x ∈ P <;> by_cases h2 : x = t <;> simp [h1, h2]

/-- The graph: its keys, its vertices. -/
structure Gr (adj : Int → List Int) (ks Vs : List Int) : Prop where
  ndk : ks.Nodup
  out : ∀ x, x ∉ ks → adj x = []
  ndv : Vs.Nodup
  mem : ∀ y, y ∈ Vs ↔ y ∈ ks ∨ ∃ x ∈ ks, y ∈ adj x

section
variable {adj : Int → List Int} {ks Vs : List Int}
theorem Gr.key (g : Gr adj ks Vs) {x y : Int} (h : y ∈ adj x) : x ∈ ks := by
  by_cases hx : x ∈ ks
  · exact hx
  · rw [g.out x hx] at h; simp at h
theorem Gr.src (g : Gr adj ks Vs) {x y : Int} (h : y ∈ adj x) : x ∈ Vs := (g.mem x).2 (.inl (g.key h))
theorem Gr.dst (g : Gr adj ks Vs) {x y : Int} (h : y ∈ adj x) : y ∈ Vs := (g.mem y).2 (.inr ⟨x, g.key h, h⟩)

/-- Kahn's algorithm, in the middle of the edges of t (q of them gone): P taken away (t last), 'free' free. -/
structure Kin (adj : Int → List Int) (ks Vs P free : List Int) (c : Int → Nat) : Prop where
  nd : (P ++ free).Nodup
  sub : ∀ y ∈ P ++ free, y ∈ Vs
  zero : ∀ y ∈ Vs, y ∈ P ++ free ↔ c y = 0
  ord : ∀ (j : Nat) (y : Int), P[j]? = some y → ∀ x, y ∈ adj x → ∃ i : Nat, i < j ∧ P[i]? = some x

/-- The counts at the head of a round. -/
def cnt (adj : Int → List Int) (ks P : List Int) (y : Int) : Nat := dg adj (rem ks P) y
/-- .. with q of t's edges gone (t the last of P'). -/
def cntq (adj : Int → List Int) (ks P' : List Int) (t : Int) (q : Nat) (y : Int) : Nat := dg adj (rem ks P') y + ((adj t).drop q).count y

theorem cnt_pop (g : Gr adj ks Vs) {P : List Int} {t : Int} (ht : t ∉ P) (y : Int) : cntq adj ks (P ++ [t]) t 0 y = cnt adj ks P y := by
  unfold cntq cnt
  rw [rem_snoc, dg_strike adj t y (rem ks P) (g.ndk.filter _)]
  by_cases hk : t ∈ ks
  · rw [if_pos (mem_rem.2 ⟨hk, ht⟩)]; rfl
  · rw [if_neg (fun h => hk (mem_rem.1 h).1), g.out t hk]; rfl
theorem cntq_end {P' : List Int} {t : Int} (y : Int) : cntq adj ks P' t (adj t).length y = cnt adj ks P' y := by
  unfold cntq cnt; simp
theorem cntq_step {P' : List Int} {t : Int} {q : Nat} {to : Int} (h : (adj t)[q]? = some to) (y : Int) : cntq adj ks P' t q y = cntq adj ks P' t (q + 1) y + (if y = to then 1 else 0) := by
  obtain ⟨hq, e⟩ := List.getElem?_eq_some_iff.1 h
  unfold cntq
  rw [List.drop_eq_getElem_cons hq, e, List.count_cons]
  by_cases hy : y = to
  · subst hy; simp; omega
  · have : (to == y) = false := by simpa using fun e => hy e.symm
    simp [this, hy]

/-- A vertex is popped. -/
theorem Kin.pop (g : Gr adj ks Vs) {P free : List Int} {t : Int} (h : Kin adj ks Vs P (free ++ [t]) (cnt adj ks P)) : Kin adj ks Vs (P ++ [t]) free (cntq adj ks (P ++ [t]) t 0) := by
  have hperm : ((P ++ [t]) ++ free).Perm (P ++ (free ++ [t])) := by
    rw [List.append_assoc]
    exact List.Perm.append_left P List.perm_append_comm
  have ht : t ∉ P := by
    have := h.nd
    rw [List.nodup_append] at this
    intro hp
    exact this.2.2 t hp t (by simp) rfl
  refine ⟨hperm.symm.nodup h.nd, fun y hy => h.sub y (hperm.mem_iff.1 hy), fun y hy => ?_, fun j y hj x hx => ?_⟩
  · rw [cnt_pop g ht, ← h.zero y hy]
    exact hperm.mem_iff
  · by_cases e : j < P.length
    · rw [List.getElem?_append_left e] at hj
      obtain ⟨i, hi, hx'⟩ := h.ord j y hj x hx
      exact ⟨i, hi, by rw [List.getElem?_append_left (by omega)]; exact hx'⟩
    · have hj2 := (List.getElem?_eq_some_iff.1 hj).1
      simp at hj2
      obtain rfl : j = P.length := by omega
      simp at hj
      subst hj
      have hz := (h.zero t (h.sub t (by simp))).1 (by simp)
      have hxk := g.key hx
      have hxP : x ∈ P := by
        by_cases hp : x ∈ P
        · exact hp
        · exact absurd hx (dg_zero.1 hz x (mem_rem.2 ⟨hxk, hp⟩))
      obtain ⟨i, hi, e⟩ := List.mem_iff_getElem.1 hxP
      exact ⟨i, hi, by rw [List.getElem?_append_left hi, List.getElem?_eq_getElem hi, e]⟩
/-- An edge is struck; its end stays bound. -/
theorem Kin.stay {P' free : List Int} {t to : Int} {q : Nat} (h : Kin adj ks Vs P' free (cntq adj ks P' t q)) (he : (adj t)[q]? = some to) (hc : cntq adj ks P' t (q + 1) to ≠ 0) : Kin adj ks Vs P' free (cntq adj ks P' t (q + 1)) := by
  refine ⟨h.nd, h.sub, fun y hy => ?_, h.ord⟩
  rw [h.zero y hy, cntq_step he y]
  by_cases e : y = to
  · subst e; simp; omega
  · simp [e]
/-- .. its end comes free. -/
theorem Kin.push (g : Gr adj ks Vs) {P' free : List Int} {t to : Int} {q : Nat} (h : Kin adj ks Vs P' free (cntq adj ks P' t q)) (he : (adj t)[q]? = some to) (hc : cntq adj ks P' t (q + 1) to = 0) : Kin adj ks Vs P' (free ++ [to]) (cntq adj ks P' t (q + 1)) := by
  have hto : to ∈ Vs := g.dst (List.mem_of_getElem? he)
  have hnew : to ∉ P' ++ free := by
    rw [h.zero to hto, cntq_step he to]; simp
  refine ⟨?_, fun y hy => ?_, fun y hy => ?_, h.ord⟩
  · rw [← List.append_assoc, List.nodup_append]
    exact ⟨h.nd, by simp, fun a ha b hb => by simp at hb; subst hb; intro e; subst e; exact hnew ha⟩
  · rw [← List.append_assoc] at hy
    rcases List.mem_append.1 hy with hy | hy
    · exact h.sub y hy
    · simp at hy; subst hy; exact hto
  · rw [← List.append_assoc, List.mem_append, h.zero y hy, cntq_step he y]
    by_cases e : y = to
    · subst e; simp [hc]
    · simp [e]
/-- The edge's end had one more. -/
theorem cntq_pos {P' : List Int} {t to : Int} {q : Nat} (he : (adj t)[q]? = some to) : cntq adj ks P' t q to = cntq adj ks P' t (q + 1) to + 1 := by
  rw [cntq_step he to]; simp

/-! ### what comes of it -/
/-- A vertex that a cycle reaches. -/
def Blocked (adj : Int → List Int) (x : Int) : Prop := ∃ c, TG adj c c ∧ RT adj c x

theorem Kin.pred_in {P free : List Int} {c : Int → Nat} (h : Kin adj ks Vs P free c) {x y : Int} (hy : y ∈ P) (hx : y ∈ adj x) : x ∈ P := by
  obtain ⟨j, hj⟩ := List.mem_iff_getElem?.1 hy
  obtain ⟨i, _, hi⟩ := h.ord j y hj x hx
  exact List.mem_of_getElem? hi
theorem Kin.index {P free : List Int} {c : Int → Nat} (h : Kin adj ks Vs P free c) : ∀ {x y : Int}, TG adj x y → ∀ j : Nat, P[j]? = some y → ∃ i : Nat, i < j ∧ P[i]? = some x := by
  intro x y hxy
  induction hxy with
  | single e => exact fun j hj => h.ord j _ hj _ e
  | tail _ e ih =>
    intro j hj
    obtain ⟨i, hi, hb⟩ := h.ord j _ hj _ e
    obtain ⟨i', hi', ha⟩ := ih i hb
    exact ⟨i', by omega, ha⟩
theorem get_inj {P : List Int} (nd : P.Nodup) {i j : Nat} {x : Int} (hi : P[i]? = some x) (hj : P[j]? = some x) : i = j := by
  obtain ⟨h1, e1⟩ := List.getElem?_eq_some_iff.1 hi
  obtain ⟨h2, e2⟩ := List.getElem?_eq_some_iff.1 hj
  have hp := List.pairwise_iff_getElem.1 nd
  rcases Nat.lt_trichotomy i j with l | rfl | l
  · exact absurd (e1.trans e2.symm) (hp i j h1 h2 l)
  · rfl
  · exact absurd (e2.trans e1.symm) (hp j i h2 h1 l)

/-- THE PLACED ONES ARE JUST THOSE THAT NO CYCLE REACHES. -/
theorem Kin.placed (g : Gr adj ks Vs) {P : List Int} (h : Kin adj ks Vs P [] (cnt adj ks P)) (x : Int) (hx : x ∈ Vs) : x ∈ P ↔ ¬ Blocked adj x := by
  have ndP : P.Nodup := by have := h.nd; rwa [List.append_nil] at this
  constructor
  · rintro hxP ⟨c, hcc, hcx⟩
    have hcP : c ∈ P := by
      rcases hcx with rfl | hcx
      · exact hxP
      · obtain ⟨j, hj⟩ := List.mem_iff_getElem?.1 hxP
        obtain ⟨i, _, hi⟩ := h.index hcx j hj
        exact List.mem_of_getElem? hi
    obtain ⟨j, hj⟩ := List.mem_iff_getElem?.1 hcP
    obtain ⟨i, hi, hi'⟩ := h.index hcc j hj
    have := get_inj ndP hi' hj
    omega
  · intro hb
    by_cases hxP : x ∈ P
    · exact hxP
    · exfalso
      have hall : ∀ a ∈ Vs.filter (fun y => decide (y ∉ P)), ∃ b ∈ Vs.filter (fun y => decide (y ∉ P)), a ∈ adj b := by
        intro a ha
        simp at ha
        have hz : cnt adj ks P a ≠ 0 := fun e => ha.2 (by have := (h.zero a ha.1).2 e; simpa using this)
        have : ¬ ∀ b ∈ rem ks P, a ∉ adj b := fun e => hz (dg_zero.2 e)
        simp only [Classical.not_forall] at this
        obtain ⟨b, hb, hab⟩ := this
        have hab' : a ∈ adj b := Classical.not_not.1 hab
        exact ⟨b, by simp; exact ⟨g.src hab', (mem_rem.1 hb).2⟩, hab'⟩
      obtain ⟨c, _, hcc, hcx⟩ := cycle_behind _ hall x (by simp; exact ⟨hx, hxP⟩)
      exact hb ⟨c, hcc, hcx⟩
theorem Kin.subV {P free : List Int} {c : Int → Nat} (h : Kin adj ks Vs P free c) : ∀ x ∈ P, x ∈ Vs := fun x hx => h.sub x (by simp [hx])
/-- ALL ARE PLACED JUST IF THERE IS NO CYCLE. -/
theorem Kin.all (g : Gr adj ks Vs) {P : List Int} (h : Kin adj ks Vs P [] (cnt adj ks P)) : P.length = Vs.length ↔ ∀ x ∈ Vs, ¬ TG adj x x := by
  have ndP : P.Nodup := by have := h.nd; rwa [List.append_nil] at this
  constructor
  · intro e x hx hc
    have hnot : x ∉ P := fun hp => (h.placed g x hx).1 hp ⟨x, hc, .inl rfl⟩
    have : (x :: P).length ≤ Vs.length := (List.nodup_cons.2 ⟨hnot, ndP⟩).length_le_of_subset (fun y hy => by
      rcases List.mem_cons.1 hy with rfl | hy
      · exact hx
      · exact h.subV y hy)
    simp at this
    omega
  · intro hno
    have hp : P.Perm Vs := (List.perm_ext_iff_of_nodup ndP g.ndv).2 fun x => ⟨h.subV x, fun hx => (h.placed g x hx).2 fun ⟨c, hcc, _⟩ => by
      obtain ⟨y, hy, hyc⟩ := TG.last hcc
      exact hno c (g.dst hyc) hcc⟩
    exact hp.length_eq
end
end Go.Proofs.Qxb6604083a.G
