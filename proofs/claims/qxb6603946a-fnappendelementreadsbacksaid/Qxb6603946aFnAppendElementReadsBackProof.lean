import Derived.Test.Qxb6603946aAppend
import Derived.Test.Qxb6603946aRows
import Derived.WalkKit
import Derived.ProofKit
import Derived.OpenShut
import Derived.ShutString
import Derived.ChangeOld
import Derived.Below
namespace Go.Proofs.Qxb6603946a.fnAppendElementReadsBack
open Go.ChangeShapes Go.WideShapes Go.ChangeAt Go.RowKit
open Go.ChangeMaps (open_string shut_string)
set_option linter.unusedVariables false

theorem own : ownKnob Try.prog.godebug = none := by kernel_rfl
theorem laidOut : laidOutB Try.prog = true := by kernel_rfl

open Go.Proofs.Qxb6603946a.App

/-- Of what was there nothing has turned (as 'Below', but for the tape). -/
def KB (w w' : World) : Prop := w'.os = w.os ∧ w'.output = w.output ∧ w.heap.size ≤ w'.heap.size ∧ ∀ k, k < w.heap.size → w'.heap[k]? = w.heap[k]?
theorem KB.refl (w : World) : KB w w := ⟨rfl, rfl, Nat.le_refl _, fun _ _ => rfl⟩
theorem KB.drewN {w w' : World} (h : KB w w') (n : Nat) : KB w (w'.drewN n) := h
theorem KB.frame {W w' : World} (h : KB W w') (may : MemPlace → Prop) : W.keptBut w' may := by
  refine ⟨h.1, h.2.1, fun i hi => ?_⟩
  rw [h.2.2.2 i hi]
  split <;> simp_all
theorem KB.same {W w' : World} (h : KB W w') {p : MemPlace} (hp : p.block < W.heap.size) : W.sameAt w' p := by
  cases p with
  | cell b o => exact World.cell?_of_block (w := W) (h.2.2.2 b hp)
  | map b => exact h.2.2.2 b hp
theorem KB.trod {H : Type} {enc : TypeId × Value → H} {P : Program} {t : TypeId} (hl : laidOutB P = true) (hr : P.readableRec t = true) (hrow : t < P.types.size) {W W' : World} {v : Value} {d : DataW H} {ps : List MemPlace}
    (h : DataW.Trod enc P W 0 (fun _ => true) true t v d ps) (hb : KB W W') (hlt : ∀ x ∈ ps, x.block < W.heap.size) :
    DataW.Trod enc P W' 0 (fun b => decide (b < W.heap.size)) true t v d ps :=
  WideElems.Trod_stays hl hr hrow h (fun x hx => hb.same (hlt x hx)) (fun x hx => by simpa using hlt x hx)

theorem map_getD (l : List Int) (j : Nat) (h : j < l.length) : (l.map (Value.int .u8))[j]? = some (.int .u8 (l.getD j 0)) := by
  rw [List.getElem?_map, List.getD_eq_getElem?_getD, List.getElem?_eq_getElem h]
  rfl

/-- What the two appends have made. -/
theorem made {w W W2 : World} {ao : Option Addr} {b n cap : Nat} {zs : List Int} {a1 a3 : Int} {a2 a4 : ByteArray} {v2 : Value} {r2 : Nat} (hzs : zs.length = n) (hB : Below w.heap.size w W) (hbb : w.heap.size ≤ b)
    (hC : Came W 1 ao b 0 n cap (zs.map (Value.int .u8))) (hcm : cap ≤ maxLen)
    (hU : Upon W 5 1 ao b 0 n cap (zs.map (Value.int .u8)) W2 v2 (0 + 1 + a2.size + 1 + 1 + a4.size + 1) ([] ++ Value.int .u8 a1 :: (byteCells a2 ++ [Value.int .u8 0]) ++ Value.int .u8 a3 :: (byteCells a4 ++ [Value.int .u8 0])) r2) :
    ∃ g o cap', v2 = .slice (some ⟨g, o, none⟩) (n + (1 + a2.size + 1) + (1 + a4.size + 1)) cap' ∧
      (∀ j, j < n + (1 + a2.size + 1) + (1 + a4.size + 1) → W2.cell? ⟨g, o + j, none⟩ = some (.int .u8 (docF zs a1 a2 a3 a4 j))) ∧
      (∀ j, j < n → ao = some ⟨b, 0, none⟩ ∧ W2.cell? ⟨b, j, none⟩ = some (.int .u8 (docF zs a1 a2 a3 a4 j))) ∧ KB w W2 := by
  obtain ⟨g, o, cap', hv, _, _, hcells⟩ := hU.value hC hcm (.inr (by omega))
  have hlist : zs.map (Value.int .u8) ++ ([] ++ Value.int .u8 a1 :: (byteCells a2 ++ [Value.int .u8 0]) ++ Value.int .u8 a3 :: (byteCells a4 ++ [Value.int .u8 0])) = (docL zs a1 a2 a3 a4).map (Value.int .u8) := by
    simp [docL, byteCells_bs]
  rw [hlist] at hcells
  have hN : n + (0 + 1 + a2.size + 1 + 1 + a4.size + 1) = n + (1 + a2.size + 1) + (1 + a4.size + 1) := by omega
  rw [hN] at hv hcells
  refine ⟨g, o, cap', hv, fun j hj => ?_, fun j hj => ?_, ?_, ?_, ?_, ?_⟩
  · rw [hcells j (by omega), map_getD _ _ (by rw [docL_length, hzs]; exact hj)]
    rfl
  · have hcap : 0 < cap := by have := hC.le; omega
    refine ⟨hC.addr hcap, ?_⟩
    rw [hU.old (hC.lt hcap) (fun j' _ ⟨_, e⟩ => by omega), docF_old _ _ _ _ _ _ (by omega)]
    have := hC.olds j _ (map_getD zs j (by omega))
    simpa using this
  · exact hU.kept.1.trans hB.os
  · exact hU.kept.2.1.trans hB.output
  · exact Nat.le_trans hB.size hU.kept.size
  · intro k hk
    rw [hU.kept.block (Nat.lt_of_lt_of_le hk hB.size) (fun p ⟨j, _, e⟩ => by subst e; show b ≠ k; omega)]
    exact hB.block k hk

theorem read_at (g o n c p q : Nat) (P kd : Int) (f : Nat → Int) (w : World) (hn : n ≤ 9223372036854775806) (hcell : ∀ j, j < n → w.cell? ⟨g, o + j, none⟩ = some (.int .u8 (f j)))
    (hP : P = p) (hk : f p = kd) (h1 : p < q) (h2 : q < n) (h3 : f q = 0) (h4 : ∀ j, p < j → j < q → f j ≠ 0) :
    Calls Try.prog 13 #[.slice (some ⟨g, o, none⟩) n c, .int .i64 P] w fun e w' => e = .returned (.tuple #[.int .u8 kd, .int .i64 (P + 1), .int .i64 q, .bool true]) ∧ w' = w := by
  subst hP hk
  exact read_any g o n c p q f w hn hcell h1 h2 h3 h4
theorem same_at (g o n c p q : Nat) (P : Int) (f : Nat → Int) (s : ByteArray) (w : World) (hn : n ≤ 9223372036854775806) (hcell : ∀ j, j < n → w.cell? ⟨g, o + j, none⟩ = some (.int .u8 (f j)))
    (hP : P = p) (h1 : q = p + s.size) (h2 : q ≤ n) (h3 : ∀ j (h : j < s.size), f (p + j) = (s[j].toNat : Int)) :
    Calls Try.prog 14 #[.slice (some ⟨g, o, none⟩) n c, .int .i64 P, .int .i64 q, .string s] w fun e w' => e = .returned (.bool true) ∧ ∃ m, w' = w.drewN m := by
  subst hP
  exact same_any g o n c p q f s w hn hcell h1 h2 h3

/-- The places, once the first element's end q1 and the second's q2 are named. -/
structure Places (f : Nat → Int) (n q1 q2 N : Nat) (k1 : Int) (s1 : ByteArray) (k2 : Int) (s2 : ByteArray) : Prop where
  e1 : q1 = n + 1 + s1.size
  e2 : q2 = q1 + 1 + 1 + s2.size
  eN : N = q2 + 1
  kd1 : f n = k1
  kd2 : f (q1 + 1) = k2
  z1 : f q1 = 0
  z2 : f q2 = 0
  n1 : ∀ j, n < j → j < q1 → f j ≠ 0
  n2 : ∀ j, q1 + 1 < j → j < q2 → f j ≠ 0
  t1 : ∀ j (h : j < s1.size), f (n + 1 + j) = (s1[j].toNat : Int)
  t2 : ∀ j (h : j < s2.size), f (q1 + 1 + 1 + j) = (s2[j].toNat : Int)

theorem places (zs : List Int) (n : Nat) (hn : zs.length = n) (k1 : Int) (s1 : ByteArray) (k2 : Int) (s2 : ByteArray) (z1 : hasZ s1 = false) (z2 : hasZ s2 = false) :
    Places (docF zs k1 s1 k2 s2) n (n + 1 + s1.size) (n + 1 + s1.size + 1 + 1 + s2.size) (n + (1 + s1.size + 1) + (1 + s2.size + 1)) k1 s1 k2 s2 := by
  subst hn
  have t1 : ∀ j (h : j < s1.size), docF zs k1 s1 k2 s2 (zs.length + 1 + j) = (s1[j].toNat : Int) := fun j h => by
    rw [Nat.add_assoc, docF_part1 _ _ _ _ _ _ (by omega), el_name _ _ _ h]
  have t2 : ∀ j (h : j < s2.size), docF zs k1 s1 k2 s2 (zs.length + 1 + s1.size + 1 + 1 + j) = (s2[j].toNat : Int) := fun j h => by
    rw [show zs.length + 1 + s1.size + 1 + 1 + j = zs.length + (1 + s1.size + 1) + (1 + j) by omega, docF_part2, el_name _ _ _ h]
  refine ⟨rfl, rfl, by omega, ?_, ?_, ?_, ?_, fun j h1 h2 => ?_, fun j h1 h2 => ?_, t1, t2⟩
  · have := docF_part1 zs k1 s1 k2 s2 0 (by omega)
    simpa using this
  · have := docF_part2 zs k1 s1 k2 s2 0
    rw [show zs.length + 1 + s1.size + 1 = zs.length + (1 + s1.size + 1) + 0 by omega, this]
    rfl
  · rw [Nat.add_assoc, docF_part1 _ _ _ _ _ _ (by omega), el_end]
  · rw [show zs.length + 1 + s1.size + 1 + 1 + s2.size = zs.length + (1 + s1.size + 1) + (1 + s2.size) by omega, docF_part2, el_end]
  · have := t1 (j - (zs.length + 1)) (by omega)
    rw [show zs.length + 1 + (j - (zs.length + 1)) = j by omega] at this
    rw [this]
    exact hasZ_all s1 z1 _ _
  · have := t2 (j - (zs.length + 1 + s1.size + 1 + 1)) (by omega)
    rw [show zs.length + 1 + s1.size + 1 + 1 + (j - (zs.length + 1 + s1.size + 1 + 1)) = j by omega] at this
    rw [this]
    exact hasZ_all s2 z2 _ _

set_option maxHeartbeats 2000000 in
theorem walk_good (a0 : Option Addr) (len0 cap0 : Nat) (z0 : List Int) (a1 : Int) (a2 : ByteArray) (a3 : Int) (a4 : ByteArray) (w : World) (w0 : IsRow .u8 w a0 len0 cap0 z0)
    (b0 : len0 ≤ 262144) (b2 : a2.size ≤ 262144) (b4 : a4.size ≤ 262144) (z2 : hasZ a2 = false) (z4 : hasZ a4 = false) :
    Calls Try.prog 6 #[.slice a0 len0 cap0, .int .u8 a1, .string a2, .int .u8 a3, .string a4] w fun e w' => e = .returned (.bool true) ∧ KB w w' := by
  have hlz : len0 ≤ z0.length := by
    rcases w0 with ⟨_, h, _, _⟩ | ⟨x, _, h1, _, h3, _⟩ <;> omega
  go_enter Try.func6, Try.ntmps6
  go_wp2_with fail
  refine (bytes_any _ _ _ _ _ _ _ _).mono ?_
  rintro e w' ⟨bb, rfl, rfl⟩
  cases bb
  · go_wp2
    go_ret
    exact ⟨rfl, KB.refl _⟩
  go_wp2_with fail
  refine (zero_any a2 _ (by unfold maxLen; omega)).mono ?_
  rintro e w'' ⟨rfl, rfl⟩
  go_wp2_with fail
  refine (zero_any a4 _ (by unfold maxLen; omega)).mono ?_
  rintro e w' ⟨rfl, rfl⟩
  go_wp2_with fail
  refine (clone_any a0 len0 cap0 z0 _ b0 w0).mono ?_
  rintro e W ⟨ao, b, cap, rfl, hB, hbb, hC, hcm⟩
  go_wp2_with fail
  refine (zzapp_any hC W _ 0 [] 0 (Upon.start hC) a1 a2 (by omega)).mono ?_
  rintro e W1 ⟨v1, r1, rfl, hU1⟩
  go_wp2_with fail
  refine (zzapp_any hC W1 v1 _ _ r1 hU1 a3 a4 (by omega)).mono ?_
  rintro e W2 ⟨v2, r2, rfl, hU2⟩
  obtain ⟨g, o, cap', rfl, hdoc, hold, hKB⟩ := made (by simp; omega) hB hbb hC hcm hU2
  obtain ⟨f, hfe⟩ : ∃ f, f = docF (z0.take len0) a1 a2 a3 a4 := ⟨_, rfl⟩
  have hP := places (z0.take len0) len0 (by simp; omega) a1 a2 a3 a4 z2 z4
  rw [← hfe] at hdoc hold hP
  clear hfe hU1 hU2 hC hB
  generalize len0 + 1 + a2.size = q1 at hP
  generalize q1 + 1 + 1 + a4.size = q2 at hP
  generalize len0 + (1 + a2.size + 1) + (1 + a4.size + 1) = N at hP hdoc ⊢
  have g1 : len0 < q1 := by have := hP.e1; omega
  have g2 : q1 + 1 < q2 := by have := hP.e2; omega
  have g3 : q2 < N := by have := hP.eN; omega
  have g4 : N ≤ 1000000 := by have := hP.eN; have := hP.e1; have := hP.e2; omega
  have hend : ((q2 : Int) + 1 == (N : Int)) = true := by have := hP.eN; simp; omega
  have hk1 : (a1 != a1) = false := by simp
  have hk3 : (a3 != a3) = false := by simp
  have hq : decide ((N : Int) < (len0 : Int)) = false := by simp; omega
  have hq' : decide (N < len0) = false := by simp; omega
  have hq'' : ¬ N < len0 := by omega
  have HD := hide hdoc
  have HO := hide hold
  have HP := hide hP
  clear hdoc hold hP
  go_wp2
  go_loopw [13] (fun i wr => (∃ k : Nat, k ≤ len0 ∧ i = .int .i64 k) ∧ ∃ m, wr = W2.drewN m) (fun i _ => len0 - (intOf i).toNat)
  case atStart => exact ⟨⟨0, Nat.zero_le _, rfl⟩, 0, rfl⟩
  case round =>
    obtain ⟨⟨k, hk, rfl⟩, m, rfl⟩ := hrel
    by_cases hlt : k < len0
    · obtain ⟨rfl, hck⟩ := HO.out k hlt
      have hck2 := HD.out k (by omega)
      go_wp2
      go_quiet (fail)
      go_wp2
      go_roundw
      case rel => exact ⟨⟨k + 1, by omega, by go_num⟩, m + nq, by simp⟩
      case measure => simp [intOf]; omega
    · go_wp2_with fail
      refine (read_at g o N cap' len0 q1 _ a1 f _ (by omega) (by exact HD.out) rfl HP.out.kd1 g1 (by omega) HP.out.z1 HP.out.n1).mono ?_
      rintro e w2 ⟨rfl, rfl⟩
      go_wp2_with fail
      refine (same_at g o N cap' (len0 + 1) q1 _ f a2 _ (by omega) (by exact HD.out) (by omega) HP.out.e1 (by omega) HP.out.t1).mono ?_
      rintro e w3 ⟨rfl, m1, rfl⟩
      go_wp2_with fail
      refine (read_at g o N cap' (q1 + 1) q2 _ a3 f _ (by omega) (by exact HD.out) (by omega) HP.out.kd2 g2 g3 HP.out.z2 HP.out.n2).mono ?_
      rintro e w2 ⟨rfl, rfl⟩
      go_wp2_with fail
      refine (same_at g o N cap' (q1 + 1 + 1) q2 _ f a4 _ (by omega) (by exact HD.out) (by omega) HP.out.e2 (by omega) HP.out.t2).mono ?_
      rintro e w3 ⟨rfl, m2, rfl⟩
      go_wp2
      go_ret
      exact ⟨rfl, hKB⟩
/-! ### STEP 1: THE WALK: the Go text returns true, AND WRITES NOTHING THAT WAS THERE ('KB'). -/
theorem walk (a0 : Option Addr) (len0 cap0 : Nat) (z0 : List Int) (a1 : Int) (a2 : ByteArray) (a3 : Int) (a4 : ByteArray) (w : World) (w0 : IsRow .u8 w a0 len0 cap0 z0) (w1 : (Lit.int .u8 a1).wf = true) (w2 : a2.size ≤ maxLen) (w3 : (Lit.int .u8 a3).wf = true) (w4 : a4.size ≤ maxLen) :
    Calls Try.prog 6 #[.slice a0 len0 cap0, .int .u8 a1, .string a2, .int .u8 a3, .string a4] w fun e w' => e = .returned (.bool true) ∧ KB w w' := by
  by_cases b0 : len0 ≤ 262144
  · by_cases b2 : a2.size ≤ 262144
    · by_cases b4 : a4.size ≤ 262144
      · cases z2 : hasZ a2
        · cases z4 : hasZ a4
          · exact walk_good a0 len0 cap0 z0 a1 a2 a3 a4 w w0 b0 b2 b4 z2 z4
          · go_enter Try.func6, Try.ntmps6
            go_wp2_with fail
            refine (bytes_any _ _ _ _ _ _ _ _).mono ?_
            rintro e w' ⟨bb, rfl, rfl⟩
            cases bb
            · go_wp2
              go_ret
              exact ⟨rfl, KB.refl _⟩
            go_wp2_with fail
            refine (zero_any a2 _ w2).mono ?_
            rintro e w'' ⟨rfl, rfl⟩
            go_wp2_with fail
            refine (zero_any a4 _ w4).mono ?_
            rintro e w' ⟨rfl, rfl⟩
            go_wp2
            go_ret
            exact ⟨rfl, KB.refl _⟩
        · go_enter Try.func6, Try.ntmps6
          go_wp2_with fail
          refine (bytes_any _ _ _ _ _ _ _ _).mono ?_
          rintro e w' ⟨bb, rfl, rfl⟩
          cases bb
          · go_wp2
            go_ret
            exact ⟨rfl, KB.refl _⟩
          go_wp2_with fail
          refine (zero_any a2 _ w2).mono ?_
          rintro e w'' ⟨rfl, rfl⟩
          go_wp2
          go_ret
          exact ⟨rfl, KB.refl _⟩
      · go_enter Try.func6, Try.ntmps6
        go_wp2_with fail
        refine (bytes_any _ _ _ _ _ _ _ _).mono ?_
        rintro e w' ⟨bb, rfl, rfl⟩
        cases bb
        all_goals
          go_wp2
          go_ret
          exact ⟨rfl, KB.refl _⟩
    · go_enter Try.func6, Try.ntmps6
      go_wp2_with fail
      refine (bytes_any _ _ _ _ _ _ _ _).mono ?_
      rintro e w' ⟨bb, rfl, rfl⟩
      cases bb
      all_goals
        go_wp2
        go_ret
        exact ⟨rfl, KB.refl _⟩
  · go_enter Try.func6, Try.ntmps6
    go_wp2_with fail
    refine (bytes_any _ _ _ _ _ _ _ _).mono ?_
    rintro e w' ⟨bb, rfl, rfl⟩
    cases bb
    all_goals
      go_wp2
      go_ret
      exact ⟨rfl, KB.refl _⟩

/-! ### THE ROW's STEP: WRITTEN OUT: LEAVE IT -/
set_option maxRecDepth 100000 in
theorem lifted (os : Os) (started : os.Started) (H : Type) (enc : TypeId × Value → H) :
    ReturnsInHanded {} Try.checked os 6 .any (Rows.fnAppendElementReadsBackSpec.pre6 enc Try.prog Try.f6 Rows.fnAppendElementReadsBackRow.domain false) (Rows.fnAppendElementReadsBackSpec.post enc Try.prog Try.f6 false true false false) := by
  refine returnsInHanded_of_change (C := Try.checked) own started (by kernel_rfl) Try.func6
    (ChangeSpec.witness6 (enc := enc) (C := Try.checked) false ⟨#[], #[.slice none 0 0, .int .u8 0, .string ByteArray.empty, .int .u8 0, .string ByteArray.empty], []⟩ 8 (by kernel_rfl) (by kernel_rfl) (by kernel_rfl) (by kernel_rfl)) ?_
  intro W base args ds gs before hval0 hW hcnd _
  have hval : ∀ (j : Nat) t v, Try.f6.params[j]? = some t → args[j]? = some v → Value.okWide Try.prog W .any base t v := hval0
  have hW' := hW
  obtain ⟨p, q, hA0, hV, rfl, hfz, hnd⟩ := hW
  have hA : DataW.TrodAll enc Try.prog W 0 (fun _ => true) true Try.f6.params.toList args.toList ds p := hA0
  rw [Try.params6] at hA hval
  obtain ⟨v0, vs0, d0, ds0, p0, q0, hargs, rfl, rfl, h0, r0⟩ := trodAll_cons hA
  obtain ⟨v1, vs1, d1, ds1, p1, q1, rfl, rfl, rfl, h1, r1⟩ := trodAll_cons r0
  obtain ⟨v2, vs2, d2, ds2, p2, q2, rfl, rfl, rfl, h2, r2⟩ := trodAll_cons r1
  obtain ⟨v3, vs3, d3, ds3, p3, q3, rfl, rfl, rfl, h3, r3⟩ := trodAll_cons r2
  obtain ⟨v4, vs4, d4, ds4, p4, q4, rfl, rfl, rfl, h4, r4⟩ := trodAll_cons r3
  obtain ⟨rfl, rfl, rfl⟩ := trodAll_nil r4
  obtain rfl : args = #[v0, v1, v2, v3, v4] := by cases args; simp_all
  obtain ⟨rfl, rfl⟩ := trodVars_none hV
  obtain ⟨a0, len0, cap0, rfl⟩ := okWide_slice Try.underlying29 (hval 0 29 v0 rfl rfl)
  have k0 := h0
  have lt0 : ∀ x ∈ p0, x.block < W.heap.size := by obtain ⟨m, hm⟩ := k0; exact DataW.trod_lt m _ _ _ hm
  obtain ⟨z0, w0⟩ : ∃ zs, IsRow .u8 W a0 len0 cap0 zs := by
    obtain ⟨fuel, hf⟩ := h0
    rcases open_ints Try.underlying29 Try.underlying5 (by kernel_rfl) hf with ⟨hcs, _⟩ | ⟨x, l, c, zs, hcs, _, hl, hm, hz, _, hcell, hwz⟩
    · simp [Value.cells] at hcs
      obtain ⟨rfl, rfl, rfl⟩ := hcs
      exact ⟨[], .inl ⟨rfl, rfl, rfl, rfl⟩⟩
    · simp [Value.cells] at hcs
      obtain ⟨rfl, rfl, rfl⟩ := hcs
      exact ⟨zs, .inr ⟨_, rfl, hl, hm, by simpa using hz, hcell, hwz⟩⟩
  obtain ⟨a1, rfl, rfl, rfl, w1⟩ := open_int Try.underlying5 (hval 1 5 v1 rfl rfl) h1
  obtain ⟨a2, rfl, rfl, rfl, w2⟩ := open_string Try.underlying9 (hval 2 9 v2 rfl rfl) h2
  obtain ⟨a3, rfl, rfl, rfl, w3⟩ := open_int Try.underlying5 (hval 3 5 v3 rfl rfl) h3
  obtain ⟨a4, rfl, rfl, rfl, w4⟩ := open_string Try.underlying9 (hval 4 9 v4 rfl rfl) h4
  clear hA0 hval0
  refine (walk a0 len0 cap0 z0 a1 a2 a3 a4 W w0 w1 w2 w3 w4).mono fun e W' ⟨he, bel⟩ => ?_
  subst he
  exact ⟨_, rfl, _, _, _, [], _, [], hW', trodAll_mk1 (shut_bool Try.underlying4 _), (trodAll_cons_mk (KB.trod laidOut (by kernel_rfl) (of_decide_eq_true (by kernel_rfl)) k0 bel lt0) (trodAll_cons_mk (shut_int Try.underlying5 w1) (trodAll_cons_mk (shut_string Try.underlying9 w2) (trodAll_cons_mk (shut_int Try.underlying5 w3) (trodAll_cons_mk (shut_string Try.underlying9 w4) trodAll_mk0))))), rfl, bel.frame _, fun h => by cases h⟩

theorem over : Rows.fnAppendElementReadsBackRow.holds Try.pinned (OpenSpec.ofChange Rows.fnAppendElementReadsBackSpec) :=
  OpenClaim.holds_of_wide 6 Try.f6 rfl rfl rfl rfl rfl rfl rfl ⟨rfl, rfl, rfl, rfl, rfl⟩ rfl rfl rfl rfl rfl (by kernel_rfl) Try.func6 (by kernel_rfl)
    (of_decide_eq_true (by kernel_rfl)) (by unfold Func.isWrapper; first | (rw [if_pos (by decide +kernel)]; kernel_rfl) | (rw [if_neg (by decide +kernel)]; exact ⟨rfl, rfl⟩))
    (fun os started H enc _ => lifted os started H enc)

/-- ████ THE STATEMENT ████ -/
theorem proved : Rows.FnAppendElementReadsBackSaid := over
end Go.Proofs.Qxb6603946a.fnAppendElementReadsBack
