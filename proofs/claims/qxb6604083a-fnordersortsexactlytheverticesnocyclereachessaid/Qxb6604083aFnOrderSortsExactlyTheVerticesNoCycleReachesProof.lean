import Derived.Test.Qxb6604083aLaw
import Derived.Test.Qxb6604083aRows
import Derived.Deep.Matrix
import Derived.WalkKit
import Derived.ProofKit
import Derived.OpenShut
import Derived.ShutString
import Derived.ChangeOld
import Derived.Below
namespace Go.Proofs.Qxb6604083a.fnOrderSortsExactlyTheVerticesNoCycleReaches
open Go.ChangeShapes Go.WideShapes Go.ChangeAt Go.RowKit
open Go.ChangeMaps (open_string shut_string)
set_option linter.unusedVariables false

theorem own : ownKnob Try.prog.godebug = none := by kernel_rfl
theorem laidOut : laidOutB Try.prog = true := by kernel_rfl

/-- WHAT THE WALK IS TOLD OF A SLICE OF INTEGERS THAT CAME IN: it is nil; or it leads to a row of 'cap' cells, the numbers 'zs' (the first 'len' are its elements, the rest its spare room), each fitting its kind. -/
def IsRow (k : IntKind) (w : World) (a : Option Addr) (len cap : Nat) (zs : List Int) : Prop :=
  (a = none ∧ len = 0 ∧ cap = 0 ∧ zs = []) ∨
  ∃ x, a = some x ∧ len ≤ cap ∧ cap ≤ maxLen ∧ zs.length = cap ∧ (∀ i, i < zs.length → w.cell? (x.add i) = some (.int k (zs.getD i 0))) ∧ ∀ n ∈ zs, (Lit.int k n).wf = true

open Go.Proofs.Qxb6604083a.Base

theorem rd_row {w : World} {a : Option Addr} {len cap : Nat} {zs : List Int} (h : IsRow .i64 w a len cap zs) : Rd w a len (fun i => zs.getD i 0) := by
  rcases h with ⟨rfl, rfl, rfl, rfl⟩ | ⟨x, rfl, h1, h2, h3, h4, h5⟩
  · exact Rd.zero
  · exact fun i hi => ⟨x, rfl, h4 i (by omega)⟩

theorem w64_row {w : World} {a : Option Addr} {len cap : Nat} {zs : List Int} (h : IsRow .i64 w a len cap zs) : ∀ i, i < len → W64 (zs.getD i 0) := by
  rcases h with ⟨rfl, rfl, rfl, rfl⟩ | ⟨x, rfl, h1, h2, h3, h4, h5⟩
  · exact fun i hi => absurd hi (Nat.not_lt_zero _)
  · intro i hi
    have hl : i < zs.length := by omega
    rw [List.getD_eq_getElem?_getD, List.getElem?_eq_getElem hl]
    exact h5 _ (List.getElem_mem hl)

/-! ### STEP 1: THE WALK -/
set_option maxRecDepth 100000 in
set_option maxHeartbeats 2000000 in
theorem walk (a0 : Option Addr) (len0 cap0 : Nat) (z0 : List Int) (a1 : Option Addr) (len1 cap1 : Nat) (Ls : Nat → List Int) (w : World) (w0 : IsRow .i64 w a0 len0 cap0 z0) (hn1 : len1 ≤ maxLen) (hl : LRd w a1 len1 Ls) (hwl : ∀ i, i < len1 → ∀ y ∈ Ls i, W64 y) :
    Calls Try.prog 3 #[.slice a0 len0 cap0, .slice a1 len1 cap1] w fun e w' => e = .returned (.bool true) ∧ Below w.heap.size w w' := by
  have R0 := rd_row w0
  have W0 := w64_row w0
  have HL := hide hl
  clear w0
  have W0' : ∀ i, i < len0 → W64 ((fun i => z0.getD i 0) i) := W0
  clear W0
  generalize (fun i => z0.getD i 0) = f0 at R0 W0'
  have W0 := W0'
  clear W0'
  by_cases b0 : len0 ≤ 4096
  · by_cases b1 : len1 ≤ 4096
    · by_cases e0 : len1 = len0
      · subst e0
        exact law1 a0 a1 len1 cap0 cap1 f0 Ls w b0 R0 hl W0 hwl
      · have e1 : decide ((4096 : Int) < (len0 : Int)) = false := decide_eq_false (by omega)
        have e2 : decide ((4096 : Int) < (len1 : Int)) = false := decide_eq_false (by omega)
        have e3 : ((len1 : Int) != (len0 : Int)) = true := by simp; omega
        clear R0 W0 hl hwl
        go_enter Try.func3, Try.ntmps3
        go_wp2_with fail
        refine (zb6_any a0 a1 len0 len1 cap0 cap1 Ls _ hn1 HL.out).mono ?_
        rintro e w ⟨⟨bb, rfl⟩, rfl⟩
        cases bb
        all_goals
          go_wp2
          go_ret
          exact ⟨rfl, Below.refl _ _⟩
    · have e1 : decide ((4096 : Int) < (len0 : Int)) = false := decide_eq_false (by omega)
      have e2 : decide ((4096 : Int) < (len1 : Int)) = true := decide_eq_true (by omega)
      clear R0 W0 hl hwl
      go_enter Try.func3, Try.ntmps3
      go_wp2_with fail
      refine (zb6_any a0 a1 len0 len1 cap0 cap1 Ls _ hn1 HL.out).mono ?_
      rintro e w ⟨⟨bb, rfl⟩, rfl⟩
      cases bb
      all_goals
        go_wp2
        go_ret
        exact ⟨rfl, Below.refl _ _⟩
  · have e1 : decide ((4096 : Int) < (len0 : Int)) = true := decide_eq_true (by omega)
    clear R0 W0 hl hwl
    go_enter Try.func3, Try.ntmps3
    go_wp2_with fail
    refine (zb6_any a0 a1 len0 len1 cap0 cap1 Ls _ hn1 HL.out).mono ?_
    rintro e w ⟨⟨bb, rfl⟩, rfl⟩
    cases bb
    all_goals
      go_wp2
      go_ret
      exact ⟨rfl, Below.refl _ _⟩

/-! ### THE ROW's STEP -/
set_option maxRecDepth 100000 in
theorem lifted (os : Os) (started : os.Started) (H : Type) (enc : TypeId × Value → H) :
    ReturnsInHanded {} Try.checked os 3 .any (Rows.fnOrderSortsExactlyTheVerticesNoCycleReachesSpec.pre6 enc Try.prog Try.f3 Rows.fnOrderSortsExactlyTheVerticesNoCycleReachesRow.domain false) (Rows.fnOrderSortsExactlyTheVerticesNoCycleReachesSpec.post enc Try.prog Try.f3 false true false false) := by
  refine returnsInHanded_of_change (C := Try.checked) own started (by kernel_rfl) Try.func3
    (ChangeSpec.witness6 (enc := enc) (C := Try.checked) false ⟨#[], #[.slice none 0 0, .slice none 0 0], []⟩ 8 (by kernel_rfl) (by kernel_rfl) (by kernel_rfl) (by kernel_rfl)) ?_
  intro W base args ds gs before hval0 hW hcnd _
  have hval : ∀ (j : Nat) t v, Try.f3.params[j]? = some t → args[j]? = some v → Value.okWide Try.prog W .any base t v := hval0
  have hW' := hW
  obtain ⟨p, q, hA0, hV, rfl, hfz, hnd⟩ := hW
  have hA : DataW.TrodAll enc Try.prog W 0 (fun _ => true) true Try.f3.params.toList args.toList ds p := hA0
  rw [Try.params3] at hA hval
  obtain ⟨v0, vs0, d0, ds0, p0, q0, hargs, rfl, rfl, h0, r0⟩ := trodAll_cons hA
  obtain ⟨v1, vs1, d1, ds1, p1, q1, rfl, rfl, rfl, h1, r1⟩ := trodAll_cons r0
  obtain ⟨rfl, rfl, rfl⟩ := trodAll_nil r1
  obtain rfl : args = #[v0, v1] := by cases args; simp_all
  obtain ⟨rfl, rfl⟩ := trodVars_none hV
  obtain ⟨a0, len0, cap0, rfl⟩ := okWide_slice Try.underlying22 (hval 0 22 v0 rfl rfl)
  have k0 := h0
  have lt0 : ∀ x ∈ p0, x.block < W.heap.size := by obtain ⟨m, hm⟩ := k0; exact DataW.trod_lt m _ _ _ hm
  obtain ⟨z0, w0⟩ : ∃ zs, IsRow .i64 W a0 len0 cap0 zs := by
    obtain ⟨fuel, hf⟩ := h0
    rcases open_ints Try.underlying22 Try.underlying3 (by kernel_rfl) hf with ⟨hcs, _⟩ | ⟨x, l, c, zs, hcs, _, hl, hm, hz, _, hcell, hwz⟩
    · simp [Value.cells] at hcs
      obtain ⟨rfl, rfl, rfl⟩ := hcs
      exact ⟨[], .inl ⟨rfl, rfl, rfl, rfl⟩⟩
    · simp [Value.cells] at hcs
      obtain ⟨rfl, rfl, rfl⟩ := hcs
      exact ⟨zs, .inr ⟨_, rfl, hl, hm, by simpa using hz, hcell, hwz⟩⟩
  obtain ⟨a1, len1, cap1, rfl⟩ := okWide_slice Try.underlying23 (hval 1 23 v1 rfl rfl)
  have k1 := h1
  have lt1 : ∀ x ∈ p1, x.block < W.heap.size := by obtain ⟨m, hm⟩ := k1; exact DataW.trod_lt m _ _ _ hm
  obtain ⟨Ls, hn1, hl1, hw1⟩ : ∃ Ls : Nat → List Int, len1 ≤ maxLen ∧ LRd W a1 len1 Ls ∧ ∀ i, i < len1 → ∀ y ∈ Ls i, W64 y := by
    obtain ⟨fuel, hf⟩ := h1
    rcases Deep.open_int_rows Try.underlying23 Try.underlying22 Try.underlying3 (by kernel_rfl) (by kernel_rfl) hf with ⟨hcs, _⟩ | ⟨x, l, c, A, L, C, Z, hcs, _, hl, hm, _, hr⟩
    · simp [Value.cells] at hcs
      obtain ⟨rfl, rfl, rfl⟩ := hcs
      exact ⟨fun _ => [], Nat.zero_le _, LRd.zero, fun i hi => absurd hi (Nat.not_lt_zero _)⟩
    · simp [Value.cells] at hcs
      obtain ⟨rfl, rfl, rfl⟩ := hcs
      refine ⟨fun r => (Z r).take (L r), by omega, fun i hi => ?_, fun i hi y hy => ?_⟩
      · obtain ⟨hc, hLC, hCm, hZ, hwf, hno, hso⟩ := hr i (by omega)
        have hlen : ((Z i).take (L i)).length = L i := by simp; omega
        refine ⟨x, A i, C i, rfl, ?_, ?_⟩
        · simp only [hlen]; exact hc
        · simp only [hlen]
          intro q hq
          cases hA1 : A i with
          | none => have := hno hA1; omega
          | some a' =>
            refine ⟨a', rfl, ?_⟩
            rw [(hso a' hA1).2 q (by omega)]
            congr 2
            unfold fn
            rw [List.getD_eq_getElem?_getD, List.getD_eq_getElem?_getD, List.getElem?_take_of_lt hq]
      · obtain ⟨hc, hLC, hCm, hZ, hwf, hno, hso⟩ := hr i (by omega)
        exact hwf y (List.mem_of_mem_take hy)
  clear hA0 hval0
  refine (walk a0 len0 cap0 z0 a1 len1 cap1 Ls W w0 hn1 hl1 hw1).mono fun e W' ⟨he, bel⟩ => ?_
  subst he
  exact ⟨_, rfl, _, _, _, [], _, [], hW', trodAll_mk1 (shut_bool Try.underlying4 _), (trodAll_cons_mk (Below.trod laidOut (by kernel_rfl) (of_decide_eq_true (by kernel_rfl)) k0 bel lt0) (trodAll_cons_mk (Below.trod laidOut (by kernel_rfl) (of_decide_eq_true (by kernel_rfl)) k1 bel lt1) trodAll_mk0)), rfl, bel.frame _, fun h => by cases h⟩

theorem over : Rows.fnOrderSortsExactlyTheVerticesNoCycleReachesRow.holds Try.pinned (OpenSpec.ofChange Rows.fnOrderSortsExactlyTheVerticesNoCycleReachesSpec) :=
  OpenClaim.holds_of_wide 3 Try.f3 rfl rfl rfl rfl rfl rfl rfl ⟨rfl, rfl, rfl, rfl, rfl⟩ rfl rfl rfl rfl rfl (by kernel_rfl) Try.func3 (by kernel_rfl)
    (of_decide_eq_true (by kernel_rfl)) (by unfold Func.isWrapper; first | (rw [if_pos (by decide +kernel)]; kernel_rfl) | (rw [if_neg (by decide +kernel)]; exact ⟨rfl, rfl⟩))
    (fun os started H enc _ => lifted os started H enc)

/-- ████ THE STATEMENT ████ -/
theorem proved : Rows.FnOrderSortsExactlyTheVerticesNoCycleReachesSaid := over
end Go.Proofs.Qxb6604083a.fnOrderSortsExactlyTheVerticesNoCycleReaches
