import Derived.Test.Qxb6604083aLists
/-! THE GRAPH IN MEMORY; 'zzGraph' -/
set_option linter.unusedVariables false
namespace Go.Proofs.Qxb6604083a.Base
open Go.ChangeShapes Go.WideShapes Go.ChangeAt Go.RowKit
open Go.Proofs.Qxb6604083a.G

/-- Block b is the map of the graph: its keys, its lists. -/
structure GR (w : World) (b : Nat) (ks : List Int) (adj : Int → List Int) : Prop where
  mv : ∃ F, MV w b ks F ∧ ∀ x ∈ ks, ∃ a c, F x = .slice a (adj x).length c ∧ Rd w a (adj x).length (fn (adj x))
  out : ∀ x, x ∉ ks → adj x = []
  wf : ∀ x, ∀ y ∈ adj x, W64 y
  len : ∀ x, (adj x).length ≤ 4096
theorem GR.lt {w : World} {b : Nat} {ks : List Int} {adj : Int → List Int} (h : GR w b ks adj) : b < w.heap.size := let ⟨_, h, _⟩ := h.mv; h.lt
theorem GR.nd {w : World} {b : Nat} {ks : List Int} {adj : Int → List Int} (h : GR w b ks adj) : ks.Nodup := let ⟨_, h, _⟩ := h.mv; h.nd
theorem GR.wfk {w : World} {b : Nat} {ks : List Int} {adj : Int → List Int} (h : GR w b ks adj) : ∀ x ∈ ks, W64 x := let ⟨_, h, _⟩ := h.mv; h.wf
theorem GR.below {w w' : World} {b B : Nat} {ks : List Int} {adj : Int → List Int} (h : GR w b ks adj) (hb : Below B w w') (hB : w.heap.size ≤ B) : GR w' b ks adj := by
  refine ⟨?_, h.out, h.wf, h.len⟩
  obtain ⟨F, hm, hF⟩ := h.mv
  exact ⟨F, hm.below hb (Nat.lt_of_lt_of_le hm.lt hB), fun x hx => by
    obtain ⟨a, c, e, r⟩ := hF x hx
    exact ⟨a, c, e, r.below hb hB⟩⟩
theorem GR.drewN {w : World} {b : Nat} {ks : List Int} {adj : Int → List Int} (h : GR w b ks adj) (n : Nat) : GR (w.drewN n) b ks adj := ⟨h.mv, h.out, h.wf, h.len⟩
/-- 'next[x]'. -/
theorem GR.look {w : World} {b : Nat} {ks : List Int} {adj : Int → List Int} (h : GR w b ks adj) (x : Int) : ∃ F a c, MV w b ks F ∧ lookV ks F (.slice none 0 0) x = .slice a (adj x).length c ∧ Rd w a (adj x).length (fn (adj x)) := by
  obtain ⟨F, hm, hF⟩ := h.mv
  by_cases hx : x ∈ ks
  · obtain ⟨a, c, e, r⟩ := hF x hx
    exact ⟨F, a, c, hm, by unfold lookV; rw [if_pos hx]; exact e, r⟩
  · refine ⟨F, none, 0, hm, by unfold lookV; rw [if_neg hx, h.out x hx]; rfl, by rw [h.out x hx]; exact Rd.zero⟩

/-- The graph after k pairs. -/
def gks (K : Nat → Int) : Nat → List Int
  | 0 => []
  | k + 1 => addK (gks K k) (K k)
def gadj (K : Nat → Int) (Ls : Nat → List Int) : Nat → Int → List Int
  | 0 => fun _ => []
  | k + 1 => fun x => if x = K k then Ls k else gadj K Ls k x
theorem mem_gks {K : Nat → Int} {x : Int} : ∀ {k : Nat}, x ∈ gks K k ↔ ∃ i, i < k ∧ K i = x
  | 0 => by simp [gks]
  | k + 1 => by
    rw [gks, mem_addK, mem_gks]
    constructor
    · rintro (⟨i, h, e⟩ | rfl)
      · exact ⟨i, by omega, e⟩
      · exact ⟨k, by omega, rfl⟩
    · rintro ⟨i, h, e⟩
      by_cases h' : i = k
      · subst h'; exact .inr e.symm
      · exact .inl ⟨i, by omega, e⟩
theorem gadj_mem {K : Nat → Int} {Ls : Nat → List Int} {x : Int} : ∀ {k : Nat}, (∃ i, i < k ∧ gadj K Ls k x = Ls i) ∨ gadj K Ls k x = []
  | 0 => .inr rfl
  | k + 1 => by
    unfold gadj
    split
    · exact .inl ⟨k, by omega, rfl⟩
    · rcases gadj_mem (K := K) (Ls := Ls) (x := x) (k := k) with ⟨i, h, e⟩ | e
      · exact .inl ⟨i, by omega, e⟩
      · exact .inr e
theorem gadj_out {K : Nat → Int} {Ls : Nat → List Int} {x : Int} : ∀ {k : Nat}, x ∉ gks K k → gadj K Ls k x = []
  | 0, _ => rfl
  | k + 1, h => by
    rw [gks, mem_addK] at h
    unfold gadj
    rw [if_neg (fun e => h (.inr e)), gadj_out (fun h' => h (.inl h'))]

/-- The map while it is filled. -/
def Gin (w : World) (b : Nat) (K : Nat → Int) (Ls : Nat → List Int) (k : Nat) (w0 : World) : Prop :=
  ∃ F, MV w b (gks K k) F ∧ ∀ x ∈ gks K k, ∃ a c, F x = .slice a (gadj K Ls k x).length c ∧ Rd w0 a (gadj K Ls k x).length (fn (gadj K Ls k x))

theorem gks_length (K : Nat → Int) : ∀ k, (gks K k).length ≤ k
  | 0 => Nat.le_refl _
  | k + 1 => by
    have := gks_length K k
    unfold gks addK
    split
    · omega
    · simp; omega

theorem MV.store_run {w : World} {b : Nat} {ks : List Int} {F : Int → Value} (h : MV w b ks F) (t e : TypeId) (ht : Try.prog.underlying t = some (.map 3 e)) (hn : ks.length < maxLen) {k : Int} (hk : W64 k) (val : Value) :
    ∃ w', (Instr.mapUpdate t (.map (some b)) (.int .i64 k) val).run Try.prog w = .ok () w' ∧ MV w' b (addK ks k) (upd F k val) ∧ w.grownBy w' (some b) := by
  obtain ⟨D, h, i⟩ := h
  obtain ⟨w', hrun, h', ht'⟩ := h.store law ht hn (keyAt hk) (show tok val = some (.held val, []) from rfl)
  have i' := i.put hk val
  refine ⟨w', hrun, ⟨_, ?_, i'⟩, ht'.grown⟩
  have := MV.exact h'
  rwa [i'.size] at this

theorem Gin.step {w w' w0 : World} {b : Nat} {K : Nat → Int} {Ls : Nat → List Int} {k : Nat} {a : Option Addr} {c : Nat} (h : Gin w b K Ls k w0) (hr : Rd w0 a (Ls k).length (fn (Ls k)))
    (hm : ∀ F, MV w b (gks K k) F → MV w' b (addK (gks K k) (K k)) (upd F (K k) (.slice a (Ls k).length c))) : Gin w' b K Ls (k + 1) w0 := by
  obtain ⟨F, h1, h2⟩ := h
  refine ⟨_, hm F h1, fun x hx => ?_⟩
  unfold upd gadj
  by_cases e : x = K k
  · subst e
    exact ⟨a, c, by rw [if_pos rfl, if_pos rfl], by rw [if_pos rfl]; exact hr⟩
  · rw [gks, mem_addK] at hx
    obtain ⟨a', c', e1, e2⟩ := h2 x (hx.resolve_right e)
    exact ⟨a', c', by rw [if_neg e, if_neg e]; exact e1, by rw [if_neg e]; exact e2⟩

set_option maxHeartbeats 1000000 in
theorem graph_any (a0 a1 : Option Addr) (n c0 c1 : Nat) (K : Nat → Int) (Ls : Nat → List Int) (w : World) (hn : n ≤ 1048576) (hk : Rd w a0 n K) (hl : LRd w a1 n Ls) (hw : ∀ i, i < n → W64 (K i)) (hwl : ∀ i, i < n → ∀ y ∈ Ls i, W64 y) (hll : ∀ i, i < n → (Ls i).length ≤ 4096) :
    Calls Try.prog 9 #[.slice a0 n c0, .slice a1 n c1] w fun e w' => e = .returned (.map (some w.heap.size)) ∧ Below w.heap.size w w' ∧ GR w' w.heap.size (gks K n) (gadj K Ls n) := by
  have HK := hide hk
  have HL := hide hl
  have HW := hide hw
  have HWL := hide hwl
  have HLL := hide hll
  clear hk hl hw hwl hll
  have hmm : ∀ (n : Int) (w : World), (Instr.makeMap 27 (some (.int .i64 n))).run Try.prog w = .ok (.map (some w.heap.size)) (w.alloc (.map #[] 0)) := fun n w => run_makeMap_hint 27 22 Try.underlying27 n w
  have hb0 : Below w.heap.size w (w.alloc (.map #[] 0)) := (Below.refl _ _).alloc (Nat.le_refl _) _
  have hm0 : Gin (w.alloc (.map #[] 0)) w.heap.size K Ls 0 w := ⟨fun _ => undef, MV.made w _, fun x hx => by simp [gks] at hx⟩
  have HB0 := hide hb0
  have HM0 := hide hm0
  clear hb0 hm0
  go_enter Try.func9, Try.ntmps9
  go_wp2
  go_loopw [6] (fun i wr => ∃ k : Nat, k ≤ n ∧ i = .int .i64 k ∧ Hid (Below w.heap.size w wr) ∧ Hid (Gin wr w.heap.size K Ls k w)) (fun i _ => n - (intOf i).toNat)
  case atStart => exact ⟨0, Nat.zero_le _, rfl, HB0, HM0⟩
  case round =>
    obtain ⟨k, hk, rfl, hb, hm⟩ := hrel
    by_cases hlt : k < n
    · obtain ⟨x, rfl, hcx⟩ := HK.out k hlt
      obtain ⟨y, ai, ci, rfl, hcy, hri⟩ := HL.out k hlt
      have hcx' : wr.cell? (x.add k) = some (.int .i64 (K k)) := by rw [hb.out.cell (World.block_lt_of_cell? _ _ hcx)]; exact hcx
      have hcy' : wr.cell? (y.add k) = some (.slice ai (Ls k).length ci) := by rw [hb.out.cell (World.block_lt_of_cell? _ _ hcy)]; exact hcy
      obtain ⟨F, hF, hF2⟩ := hm.out
      have hlen : (gks K k).length < maxLen := by have := gks_length K k; unfold maxLen; omega
      obtain ⟨w2, hrun, hm2, hg2⟩ := MV.store_run (w := wr.drew) hF 27 22 Try.underlying27 hlen (HW.out k hlt) (.slice ai (Ls k).length ci)
      have HB := hide ((hb.out.drew).grown hg2 hb.out.size (fun j hj => by cases hj; exact Nat.le_refl _))
      have HM : Hid (Gin w2 w.heap.size K Ls (k + 1) w) := ⟨_, hm2, fun x hx => by
        unfold upd gadj
        by_cases e : x = K k
        · subst e
          exact ⟨ai, ci, by rw [if_pos rfl, if_pos rfl], by rw [if_pos rfl]; exact hri⟩
        · rw [gks, mem_addK] at hx
          obtain ⟨a', c', e1, e2⟩ := hF2 x (hx.resolve_right e)
          exact ⟨a', c', by rw [if_neg e, if_neg e]; exact e1, by rw [if_neg e]; exact e2⟩⟩
      clear hcx hcy hF hF2 hm hm2 hg2 hlen hri
      go_wp2
      go_region
      go_wp2
      go_roundw
      case rel => exact ⟨k + 1, by omega, by go_num, HB, HM⟩
      case measure => simp [intOf]; omega
    · obtain rfl : k = n := by omega
      have HG : Hid (GR wr w.heap.size (gks K k) (gadj K Ls k)) := by
        obtain ⟨F, h1, h2⟩ := hm.out
        refine hide ⟨⟨F, h1, fun x hx => ?_⟩, fun x hx => gadj_out hx, fun x y hy => ?_, fun x => ?_⟩
        · obtain ⟨a, c, e, r⟩ := h2 x hx
          exact ⟨a, c, e, r.below hb.out (Nat.le_refl _)⟩
        · rcases gadj_mem (K := K) (Ls := Ls) (x := x) (k := k) with ⟨i, h, e⟩ | e
          · rw [e] at hy; exact HWL.out i h y hy
          · rw [e] at hy; simp at hy
        · rcases gadj_mem (K := K) (Ls := Ls) (x := x) (k := k) with ⟨i, h, e⟩ | e
          · rw [e]; exact HLL.out i h
          · rw [e]; exact Nat.zero_le _
      clear hm
      go_wp2
      go_ret
      exact ⟨rfl, hb.out, HG.out⟩

/-! ### A LIST THAT GROWS, AND THE SET OF ITS MEMBERS -/
/-- A slice of the call's own that holds L. -/
def OL (w : World) (B : Nat) (a : Option Addr) (c : Nat) (L : List Int) : Prop := w.ownsRow B 3 1 (.slice a L.length c) L.length (L.map (Value.int .i64)) ∧ ((a = none ∧ L = []) ∨ ∃ g, a = some ⟨g, 0, none⟩)
theorem OL.nil (w : World) (B : Nat) : OL w B none 0 [] := ⟨World.ownsRow_nil _ _ _ _, .inl ⟨rfl, rfl⟩⟩
theorem OL.rd {w : World} {B c : Nat} {a : Option Addr} {L : List Int} (h : OL w B a c L) : Rd w a L.length (fn L) := by
  intro i hi
  obtain ⟨ho, ⟨_, rfl⟩ | ⟨g, rfl⟩⟩ := h
  · simp at hi
  · refine ⟨_, rfl, ?_⟩
    rw [Addr.add_lit, Nat.zero_add, ho.cellAt i (by omega)]
    simp [fn, List.getD_eq_getElem?_getD, List.getElem?_eq_getElem hi]
theorem OL.kept {w w' : World} {B c : Nat} {a : Option Addr} {L : List Int} {row : Option Nat} (h : OL w B a c L) (hg : w.grownBy w' row) (hne : ∀ g, a = some ⟨g, 0, none⟩ → some g ≠ row) : OL w' B a c L := by
  refine ⟨h.1.kept hg ?_, h.2⟩
  rcases h.2 with ⟨rfl, _⟩ | ⟨g, rfl⟩
  · exact .inl rfl
  · exact .inr (hne g rfl)
theorem OL.block {w : World} {B c : Nat} {g : Nat} {L : List Int} (h : OL w B (some ⟨g, 0, none⟩) c L) : B ≤ g ∧ g < w.heap.size := h.1.lt g rfl
/-- Behind 'append(L, x)': the new slice, and what has turned. -/
theorem OL.pushed {w w1 : World} {B c : Nat} {a : Option Addr} {L : List Int} {x : Int} {v' : Value} (h : OL w B a c L) (ho' : w1.ownsRow B 3 1 v' (L.length + 1) (L.map (Value.int .i64) ++ [Value.int .i64 x])) :
    ∃ g' c', v' = .slice (some ⟨g', 0, none⟩) (L ++ [x]).length c' ∧ OL w1 B (some ⟨g', 0, none⟩) c' (L ++ [x]) := by
  have e1 : (L ++ [x]).length = L.length + 1 := by simp
  have e2 : (L ++ [x]).map (Value.int .i64) = L.map (Value.int .i64) ++ [Value.int .i64 x] := by simp
  unfold OL
  rw [e1, e2]
  rcases ho'.2 with ⟨_, h0⟩ | ⟨g', c', _, rfl, _⟩
  · omega
  · exact ⟨g', c', rfl, ho', .inr ⟨g', rfl⟩⟩
theorem OL.ownBlock {w : World} {B c : Nat} {a : Option Addr} {L : List Int} (h : OL w B a c L) : ∀ k, (Value.slice a L.length c).ownBlock = some k → B ≤ k ∧ k < w.heap.size := h.1.lt
end Go.Proofs.Qxb6604083a.Base
