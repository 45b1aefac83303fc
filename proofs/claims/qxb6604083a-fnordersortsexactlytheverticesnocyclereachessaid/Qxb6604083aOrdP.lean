import Derived.Test.Qxb6604083aBfs
import Derived.Deep.LoopGhost
/-! 'order': what it is told, and the steps of its three loops, outside the walk -/
set_option linter.unusedVariables false
namespace Go.Proofs.Qxb6604083a.Base
open Go.ChangeShapes Go.WideShapes Go.ChangeAt Go.RowKit
open Go.Proofs.Qxb6604083a.G

/-- Counts, as the map 'into' holds them. -/
def cI (c : Int → Nat) : Int → Value := fun y => .int .i64 (c y)
theorem look_cI {IK : List Int} {c : Int → Nat} (h0 : ∀ y, y ∉ IK → c y = 0) (x : Int) : lookV IK (cI c) (.int .i64 0) x = .int .i64 (c x) := by
  unfold lookV
  split
  · rfl
  · rename_i h; rw [h0 x h]; rfl
theorem MV.cset {w : World} {b : Nat} {IK : List Int} {c c' : Int → Nat} {x : Int} {n : Int} (h : MV w b (addK IK x) (upd (cI c) x (.int .i64 n))) (hn : n = (c' x : Int)) (hc : ∀ y, y ≠ x → c' y = c y) : MV w b (addK IK x) (cI c') :=
  h.congr (fun y _ => by
    unfold upd cI
    by_cases e : y = x
    · subst e; rw [if_pos rfl, hn]
    · rw [if_neg e, hc y e])
theorem OL.cells {w : World} {B c g : Nat} {L : List Int} (h : OL w B (some ⟨g, 0, none⟩) c L) : ∃ cur, w.heap[g]? = some (.cells cur 3 (0, 0)) := by
  rcases h.1.2 with ⟨e, _⟩ | ⟨g', cap, cur, e, _, hh, _⟩
  · cases e
  · simp only [Value.slice.injEq, Option.some.injEq, Addr.mk.injEq, and_true, true_and] at e
    obtain ⟨rfl, _⟩ := e
    exact ⟨cur, hh⟩
theorem OL.ne_map {w : World} {B c g b : Nat} {L ks : List Int} {F : Int → Value} (h : OL w B (some ⟨g, 0, none⟩) c L) (hm : MV w b ks F) : g ≠ b := by
  obtain ⟨cur, hh⟩ := h.cells
  obtain ⟨D, ⟨es, clock, hb, _⟩, _⟩ := hm
  rintro rfl
  rw [hh] at hb
  cases hb
theorem OL.ne_iter {w : World} {B c g b r : Nat} {L ks todo : List Int} {F : Int → Value} (h : OL w B (some ⟨g, 0, none⟩) c L) (hm : RG w b r ks F todo) : g ≠ r := by
  obtain ⟨cur, hh⟩ := h.cells
  obtain ⟨D, left, cnt, ⟨es, clock, since, seen, c0, _, _, _, _, hr, _⟩, _⟩ := hm
  rintro rfl
  rw [hh] at hr
  cases hr
/-- The slice's own block is none of the maps'. -/
theorem OL.row_ne_map {w : World} {B c b : Nat} {a : Option Addr} {L ks : List Int} {F : Int → Value} (h : OL w B a c L) (hm : MV w b ks F) : some b ≠ (Value.slice a L.length c).ownBlock := by
  rcases h.2 with ⟨rfl, _⟩ | ⟨g, rfl⟩
  · simp [Value.ownBlock]
  · have := h.ne_map hm
    simp [Value.ownBlock]
    exact fun e => this e.symm
theorem OL.row_ne_iter {w : World} {B c b r : Nat} {a : Option Addr} {L ks todo : List Int} {F : Int → Value} (h : OL w B a c L) (hm : RG w b r ks F todo) : some r ≠ (Value.slice a L.length c).ownBlock := by
  rcases h.2 with ⟨rfl, _⟩ | ⟨g, rfl⟩
  · simp [Value.ownBlock]
  · have := h.ne_iter hm
    simp [Value.ownBlock]
    exact fun e => this e.symm
/-- A map is written: the slice stays. -/
theorem OL.mapped {w w' : World} {B c b : Nat} {a : Option Addr} {L ks : List Int} {F : Int → Value} (h : OL w B a c L) (hm : MV w b ks F) (hg : w.grownBy w' (some b)) : OL w' B a c L :=
  h.kept hg (fun g e => by subst e; have := h.ne_map hm; simpa using this)
theorem OL.iterated {w w' : World} {B c b r : Nat} {a : Option Addr} {L ks todo : List Int} {F : Int → Value} (h : OL w B a c L) (hm : RG w b r ks F todo) (hg : w.grownBy w' (some r)) : OL w' B a c L :=
  h.kept hg (fun g e => by subst e; have := h.ne_iter hm; simpa using this)
/-- 'free[:len(free)-1]'. -/
theorem OL.pop {w : World} {B c g : Nat} {L : List Int} {t : Int} (h : OL w B (some ⟨g, 0, none⟩) c (L ++ [t])) : OL w B (some ⟨g, 0, none⟩) c L := by
  refine ⟨⟨by simp, ?_⟩, .inr ⟨g, rfl⟩⟩
  rcases h.1.2 with ⟨e, _⟩ | ⟨g', cap, cur, e, hB, hh, hle, hm, hs, ht⟩
  · cases e
  · simp only [Value.slice.injEq, Option.some.injEq, Addr.mk.injEq, and_true, true_and] at e
    obtain ⟨rfl, rfl⟩ := e
    simp only [List.length_append, List.length_cons, List.length_nil, Nat.zero_add, Nat.mul_one, List.map_append, List.map_cons, List.map_nil] at ht hle
    refine .inr ⟨g, c, cur, rfl, hB, hh, by omega, hm, hs, ?_⟩
    have h2 := congrArg (List.take L.length) ht
    rw [List.take_take, Nat.min_eq_left (by omega)] at h2
    rw [Nat.mul_one, h2]
    simp
/-- 'len' of a count. -/
theorem count_take_succ {l : List Int} {q : Nat} (h : q < l.length) (y : Int) : (l.take (q + 1)).count y = (l.take q).count y + (if y = fn l q then 1 else 0) := by
  rw [List.take_succ_eq_append_getElem h, List.count_append, List.count_singleton]
  have e : fn l q = l[q] := by simp [fn, List.getD_eq_getElem?_getD, List.getElem?_eq_getElem h]
  rw [e]
  congr 1
  by_cases hy : y = l[q]
  · subst hy; simp
  · have : (l[q] == y) = false := by simpa using fun e => hy e.symm
    simp [this, hy]
theorem dg_le {adj : Int → List Int} (hl : ∀ x, (adj x).length ≤ 4096) (y : Int) : ∀ L : List Int, dg adj L y ≤ L.length * 4096
  | [] => Nat.le_refl _
  | x :: L => by
    have := dg_le hl y L
    have h1 := List.count_le_length (a := y) (l := adj x)
    have h2 := hl x
    rw [dg_cons, List.length_cons, Nat.add_mul]
    omega
theorem dg_pos_mem {adj : Int → List Int} {L : List Int} {y : Int} (h : ¬ ∃ x ∈ L, y ∈ adj x) : dg adj L y = 0 := dg_zero.2 (fun x hx hy => h ⟨x, hx, hy⟩)
theorem perm_next {ks dn todo : List Int} {x : Int} (h : (dn ++ todo).Perm ks) (hnd : todo.Nodup) (hx : x ∈ todo) : ((dn ++ [x]) ++ todo.filter (fun y => decide (y ≠ x))).Perm ks := by
  refine List.Perm.trans ?_ h
  rw [List.append_assoc]
  refine List.Perm.append_left dn ?_
  have h1 : (x :: todo.filter (fun y => decide (y ≠ x))).Nodup := by
    rw [List.nodup_cons]
    exact ⟨by simp, hnd.filter _⟩
  refine (List.perm_ext_iff_of_nodup h1 hnd).2 (fun y => ?_)
  simp
  by_cases e : y = x
  · subst e; simp [hx]
  · simp [e]

/-- FIRST LOOP: the keys of dn have been counted. -/
structure P1 (adj : Int → List Int) (ks dn todo IK : List Int) : Prop where
  perm : (dn ++ todo).Perm ks
  mem : ∀ y, y ∈ IK ↔ (y ∈ dn ∨ ∃ x ∈ dn, y ∈ adj x)
theorem P1.out {adj : Int → List Int} {ks dn todo IK : List Int} (h : P1 adj ks dn todo IK) : ∀ y, y ∉ IK → dg adj dn y = 0 := fun y hy => dg_pos_mem (fun e => hy ((h.mem y).2 (.inr e)))
/-- .. in the middle of x's edges. -/
def cq (adj : Int → List Int) (dn : List Int) (x : Int) (q : Nat) : Int → Nat := fun y => dg adj dn y + ((adj x).take q).count y
theorem cq_zero (adj : Int → List Int) (dn : List Int) (x : Int) : cq adj dn x 0 = dg adj dn := by funext y; simp [cq]
theorem cq_end (adj : Int → List Int) (dn : List Int) (x : Int) : cq adj dn x (adj x).length = dg adj (dn ++ [x]) := by funext y; simp [cq, dg_snoc]
theorem cq_succ {adj : Int → List Int} {dn : List Int} {x : Int} {q : Nat} (h : q < (adj x).length) (y : Int) : cq adj dn x (q + 1) y = cq adj dn x q y + (if y = fn (adj x) q then 1 else 0) := by
  unfold cq; rw [count_take_succ h]; omega
theorem cq_out {adj : Int → List Int} {dn IK : List Int} {x : Int} {q : Nat} (hm : ∀ y, y ∈ IK ↔ (((y ∈ dn ∨ ∃ x ∈ dn, y ∈ adj x) ∨ y = x) ∨ y ∈ (adj x).take q)) : ∀ y, y ∉ IK → cq adj dn x q y = 0 := by
  intro y hy
  unfold cq
  rw [dg_pos_mem (fun e => hy ((hm y).2 (.inl (.inl (.inr e))))), List.count_eq_zero.2 (fun e => hy ((hm y).2 (.inr e)))]
theorem mem_addK_step {A : Int → Prop} {l Q : List Int} {j : Nat} (h : j < l.length) (hm : ∀ y, y ∈ Q ↔ (A y ∨ y ∈ l.take j)) : ∀ y, y ∈ addK Q (fn l j) ↔ (A y ∨ y ∈ l.take (j + 1)) := by
  intro y
  rw [mem_addK, mem_take_succ h, hm y, or_assoc]
theorem addK_length (Q : List Int) (x : Int) : (addK Q x).length ≤ Q.length + 1 := by
  unfold addK; split <;> simp
theorem addK_in {Q : List Int} {x : Int} (h : x ∈ Q) : addK Q x = Q := if_pos h
theorem addK_out {Q : List Int} {x : Int} (h : x ∉ Q) : addK Q x = Q ++ [x] := if_neg h
end Go.Proofs.Qxb6604083a.Base
