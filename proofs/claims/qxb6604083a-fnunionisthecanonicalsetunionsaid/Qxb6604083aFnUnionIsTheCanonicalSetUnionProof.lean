import Derived.Test.Qxb6604083aZZ
import Derived.Test.Qxb6604083aRows
import Derived.WalkKit
import Derived.ProofKit
import Derived.OpenShut
import Derived.ShutString
import Derived.ChangeOld
import Derived.Below
namespace Go.Proofs.Qxb6604083a.fnUnionIsTheCanonicalSetUnion
open Go.ChangeShapes Go.WideShapes Go.ChangeAt Go.RowKit
open Go.ChangeMaps (open_string shut_string)
set_option linter.unusedVariables false

theorem own : ownKnob Try.prog.godebug = none := by kernel_rfl
theorem laidOut : laidOutB Try.prog = true := by kernel_rfl

/-- WHAT THE WALK IS TOLD OF A SLICE OF INTEGERS THAT CAME IN: it is nil; or it leads to a row of 'cap' cells, the numbers 'zs' (the first 'len' are its elements, the rest its spare room), each fitting its kind. -/
def IsRow (k : IntKind) (w : World) (a : Option Addr) (len cap : Nat) (zs : List Int) : Prop :=
  (a = none ∧ len = 0 ∧ cap = 0 ∧ zs = []) ∨
  ∃ x, a = some x ∧ len ≤ cap ∧ cap ≤ maxLen ∧ zs.length = cap ∧ (∀ i, i < zs.length → w.cell? (x.add i) = some (.int k (zs.getD i 0))) ∧ ∀ n ∈ zs, (Lit.int k n).wf = true

open Go.Proofs.Qxb6604083a.Base

theorem rd_row {w : World} {a : Option Addr} {len cap : Nat} {zs : List Int} (h : IsRow .i64 w a len cap zs) : Rd w a len (fun i => zs.getD i 0) := by
  rcases h with ⟨rfl, rfl, rfl, rfl⟩ | ⟨x, rfl, h1, h2, h3, h4, h5⟩
  · exact Rd.zero
  · exact fun i hi => ⟨x, rfl, h4 i (by omega)⟩

set_option maxRecDepth 100000 in
set_option maxHeartbeats 4000000 in
theorem walk_eq (a0 : Option Addr) (len0 cap0 : Nat) (a1 : Option Addr) (cap1 : Nat) (a2 : Option Addr) (len2 cap2 : Nat) (a3 : Option Addr) (cap3 : Nat) (f0 f1 f2 f3 : Nat → Int) (w : World)
    (R0 : Rd w a0 len0 f0) (R1 : Rd w a1 len0 f1) (R2 : Rd w a2 len2 f2) (R3 : Rd w a3 len2 f3) (b0 : len0 ≤ 32768) (b2 : len2 ≤ 32768) :
    Calls Try.prog 4 #[.slice a0 len0 cap0, .slice a1 len0 cap1, .slice a2 len2 cap2, .slice a3 len2 cap3] w fun e w' => e = .returned (.bool true) ∧ Below w.heap.size w w' := by
  have hn0 : ((len0 : Int) != (len0 : Int)) = false := by simp
  have hn2 : ((len2 : Int) != (len2 : Int)) = false := by simp
  have hR0 := hide R0; have hR1 := hide R1; have hR2 := hide R2; have hR3 := hide R3
  clear R0 R1 R2 R3
  cases s1 : wfB len0 f0 f1
  · go_enter Try.func4, Try.ntmps4
    go_wp2_with fail
    refine (zb_any _ _ _ _ _ _ _ _ _ _ _ _ _).mono ?_
    rintro e w' ⟨bb, rfl, rfl⟩
    cases bb
    · go_wp2
      go_ret
      exact ⟨rfl, Below.refl _ _⟩
    go_wp2_with fail
    refine (wf_any a0 a1 len0 cap0 cap1 f0 f1 _ (by omega) hR0.out hR1.out).mono ?_
    rintro e w1 ⟨rfl, m1, rfl⟩
    go_wp2
    go_ret
    exact ⟨rfl, below_drewN (Below.refl _ _) _⟩
  cases s2 : wfB len2 f2 f3
  · go_enter Try.func4, Try.ntmps4
    go_wp2_with fail
    refine (zb_any _ _ _ _ _ _ _ _ _ _ _ _ _).mono ?_
    rintro e w' ⟨bb, rfl, rfl⟩
    cases bb
    · go_wp2
      go_ret
      exact ⟨rfl, Below.refl _ _⟩
    go_wp2_with fail
    refine (wf_any a0 a1 len0 cap0 cap1 f0 f1 _ (by omega) hR0.out hR1.out).mono ?_
    rintro e w1 ⟨rfl, m1, rfl⟩
    go_wp2_with fail
    refine (wf_any a2 a3 len2 cap2 cap3 f2 f3 _ (by omega) (by exact hR2.out) (by exact hR3.out)).mono ?_
    rintro e w1 ⟨rfl, m2, rfl⟩
    go_wp2
    go_ret
    exact ⟨rfl, below_drewN (Below.refl _ _) _⟩
  have WS := hide ((wfB_iff _ _ _).1 s1)
  have WT := hide ((wfB_iff _ _ _).1 s2)
  go_enter Try.func4, Try.ntmps4
  go_wp2_with fail
  refine (zb_any _ _ _ _ _ _ _ _ _ _ _ _ _).mono ?_
  rintro e w' ⟨bb, rfl, rfl⟩
  cases bb
  · go_wp2
    go_ret
    exact ⟨rfl, Below.refl _ _⟩
  go_wp2_with fail
  refine (wf_any a0 a1 len0 cap0 cap1 f0 f1 _ (by omega) hR0.out hR1.out).mono ?_
  rintro e w1 ⟨rfl, m1, rfl⟩
  go_wp2_with fail
  refine (wf_any a2 a3 len2 cap2 cap3 f2 f3 _ (by omega) (by exact hR2.out) (by exact hR3.out)).mono ?_
  rintro e w1 ⟨rfl, m2, rfl⟩
  have HB0 := hide (below_drewN (Below.refl w'.heap.size w') (m1 + m2))
  go_wp2_with fail
  refine (copy_any a0 len0 cap0 f0 _ (by omega) (by exact hR0.out)).mono ?_
  rintro e w1 ⟨c0, d0, rfl, hb1, hr0⟩
  have HB1 := hide (HB0.out.trans (hb1.mono (Nat.le_refl _)))
  have HR0 := hide hr0
  have HR1 := hide (Rd.below (a := a1) (n := len0) (f := f1) (by exact hR1.out) hb1 (Nat.le_refl _))
  have HR2 := hide (Rd.below (a := a2) (n := len2) (f := f2) (by exact hR2.out) hb1 (Nat.le_refl _))
  have HR3 := hide (Rd.below (a := a3) (n := len2) (f := f3) (by exact hR3.out) hb1 (Nat.le_refl _))
  clear hb1 hr0
  go_wp2_with fail
  refine (copy_any a1 len0 cap1 f1 _ (by omega) HR1.out).mono ?_
  rintro e w2 ⟨c1, d1, rfl, hb2, hr1⟩
  have HB2 := hide (HB1.out.trans (hb2.mono HB1.out.size))
  have JR0 := hide (HR0.out.below hb2 (Nat.le_refl _))
  have JR1 := hide hr1
  have JR2 := hide (HR2.out.below hb2 (Nat.le_refl _))
  have JR3 := hide (HR3.out.below hb2 (Nat.le_refl _))
  clear hb2 hr1
  go_wp2_with fail
  refine (copy_any a2 len2 cap2 f2 _ (by omega) JR2.out).mono ?_
  rintro e w3 ⟨c2, d2, rfl, hb3, hr2⟩
  have HB3 := hide (HB2.out.trans (hb3.mono HB2.out.size))
  have KR0 := hide (JR0.out.below hb3 (Nat.le_refl _))
  have KR1 := hide (JR1.out.below hb3 (Nat.le_refl _))
  have KR2 := hide hr2
  have KR3 := hide (JR3.out.below hb3 (Nat.le_refl _))
  clear hb3 hr2
  go_wp2_with fail
  refine (copy_any a3 len2 cap3 f3 _ (by omega) KR3.out).mono ?_
  rintro e w4 ⟨c3, d3, rfl, hb4, hr3⟩
  have HB4 := hide (HB3.out.trans (hb4.mono HB3.out.size))
  have LR0 := hide (KR0.out.below hb4 (Nat.le_refl _))
  have LR1 := hide (KR1.out.below hb4 (Nat.le_refl _))
  have LR2 := hide (KR2.out.below hb4 (Nat.le_refl _))
  have LR3 := hide hr3
  clear hb4 hr3
  go_wp2_with fail
  refine (zzunion_any c0 c1 c2 c3 len0 len2 d0 d1 d2 d3 f0 f1 f2 f3 _ (by omega) (by omega) LR0.out LR1.out LR2.out LR3.out WS.out WT.out).mono ?_
  rintro e w5 ⟨au, bu, nu, cu, du, uf, ue, rfl, hb5, hru, hrv, hnu, hwf, hag⟩
  have HB5 := hide (HB4.out.trans (hb5.mono HB4.out.size))
  have MR0 := hide (LR0.out.below hb5 (Nat.le_refl _))
  have MR1 := hide (LR1.out.below hb5 (Nat.le_refl _))
  have MR2 := hide (LR2.out.below hb5 (Nat.le_refl _))
  have MR3 := hide (LR3.out.below hb5 (Nat.le_refl _))
  have MR4 := hide hru
  have MR5 := hide hrv
  have HWF := hide hwf
  have HAG := hide hag
  have hnn : ((nu : Int) != (nu : Int)) = false := by simp
  have hwt : wfB nu uf ue = true := (wfB_iff _ _ _).2 hwf
  clear hb5 hru hrv hwf hag HR0 HR1 HR2 HR3 JR0 JR1 JR2 JR3 KR0 KR1 KR2 KR3 LR0 LR1 LR2 LR3 HB0 HB1 HB2 HB3 HB4
  go_wp2_with fail
  refine (wf_any au bu nu cu du uf ue _ (by omega) MR4.out MR5.out).mono ?_
  rintro e w6 ⟨rfl, m3, rfl⟩
  go_wp2_with fail
  refine (agree_any c0 c1 len0 d0 d1 f0 f1 c2 c3 len2 d2 d3 f2 f3 au bu nu cu du uf ue c0 len0 d0 f0 _ (by omega) (by omega) (by omega) (by omega) (by exact MR0.out) (by exact MR1.out) (by exact MR2.out) (by exact MR3.out) (by exact MR4.out) (by exact MR5.out) (by exact MR0.out) WS.out WT.out HWF.out HAG.out).mono ?_
  rintro e w7 ⟨rfl, rfl⟩
  go_wp2_with fail
  refine (agree_any c0 c1 len0 d0 d1 f0 f1 c2 c3 len2 d2 d3 f2 f3 au bu nu cu du uf ue c1 len0 d1 f1 _ (by omega) (by omega) (by omega) (by omega) (by exact MR0.out) (by exact MR1.out) (by exact MR2.out) (by exact MR3.out) (by exact MR4.out) (by exact MR5.out) (by exact MR1.out) WS.out WT.out HWF.out HAG.out).mono ?_
  rintro e w7 ⟨rfl, rfl⟩
  go_wp2_with fail
  refine (agree_any c0 c1 len0 d0 d1 f0 f1 c2 c3 len2 d2 d3 f2 f3 au bu nu cu du uf ue c2 len2 d2 f2 _ (by omega) (by omega) (by omega) (by omega) (by exact MR0.out) (by exact MR1.out) (by exact MR2.out) (by exact MR3.out) (by exact MR4.out) (by exact MR5.out) (by exact MR2.out) WS.out WT.out HWF.out HAG.out).mono ?_
  rintro e w7 ⟨rfl, rfl⟩
  go_wp2_with fail
  refine (agree_any c0 c1 len0 d0 d1 f0 f1 c2 c3 len2 d2 d3 f2 f3 au bu nu cu du uf ue c3 len2 d3 f3 _ (by omega) (by omega) (by omega) (by omega) (by exact MR0.out) (by exact MR1.out) (by exact MR2.out) (by exact MR3.out) (by exact MR4.out) (by exact MR5.out) (by exact MR3.out) WS.out WT.out HWF.out HAG.out).mono ?_
  rintro e w7 ⟨rfl, rfl⟩
  go_wp2_with fail
  refine (agree_any c0 c1 len0 d0 d1 f0 f1 c2 c3 len2 d2 d3 f2 f3 au bu nu cu du uf ue au nu cu uf _ (by omega) (by omega) (by omega) (by omega) (by exact MR0.out) (by exact MR1.out) (by exact MR2.out) (by exact MR3.out) (by exact MR4.out) (by exact MR5.out) (by exact MR4.out) WS.out WT.out HWF.out HAG.out).mono ?_
  rintro e w7 ⟨rfl, rfl⟩
  go_wp2_with fail
  refine (agree_any c0 c1 len0 d0 d1 f0 f1 c2 c3 len2 d2 d3 f2 f3 au bu nu cu du uf ue bu nu du ue _ (by omega) (by omega) (by omega) (by omega) (by exact MR0.out) (by exact MR1.out) (by exact MR2.out) (by exact MR3.out) (by exact MR4.out) (by exact MR5.out) (by exact MR5.out) WS.out WT.out HWF.out HAG.out).mono ?_
  rintro e w7 ⟨rfl, rfl⟩
  go_wp2
  go_ret
  exact ⟨rfl, below_drewN HB5.out _⟩

/-! ### STEP 1: THE WALK: the Go text returns true, AND WRITES NOTHING THAT WAS THERE: 'Below w.heap.size w w'' (Derived/Below.lean: '.refl', '.alloc', '.drew', '.setCell' at a new block, '.trans'). Open each 'IsRow' by 'rcases' AHEAD of 'go_enter'; part every test ahead of the walk. -/
set_option maxHeartbeats 2000000 in
theorem walk (a0 : Option Addr) (len0 cap0 : Nat) (z0 : List Int) (a1 : Option Addr) (len1 cap1 : Nat) (z1 : List Int) (a2 : Option Addr) (len2 cap2 : Nat) (z2 : List Int) (a3 : Option Addr) (len3 cap3 : Nat) (z3 : List Int) (w : World) (w0 : IsRow .i64 w a0 len0 cap0 z0) (w1 : IsRow .i64 w a1 len1 cap1 z1) (w2 : IsRow .i64 w a2 len2 cap2 z2) (w3 : IsRow .i64 w a3 len3 cap3 z3) :
    Calls Try.prog 4 #[.slice a0 len0 cap0, .slice a1 len1 cap1, .slice a2 len2 cap2, .slice a3 len3 cap3] w fun e w' => e = .returned (.bool true) ∧ Below w.heap.size w w' := by
  have R0 := rd_row w0
  have R1 := rd_row w1
  have R2 := rd_row w2
  have R3 := rd_row w3
  clear w0 w1 w2 w3
  generalize (fun i => z0.getD i 0) = f0 at R0
  generalize (fun i => z1.getD i 0) = f1 at R1
  generalize (fun i => z2.getD i 0) = f2 at R2
  generalize (fun i => z3.getD i 0) = f3 at R3
  by_cases b0 : len0 ≤ 32768
  · by_cases b1 : len1 ≤ 32768
    · by_cases b2 : len2 ≤ 32768
      · by_cases b3 : len3 ≤ 32768
        · by_cases e0 : len1 = len0
          · subst e0
            by_cases e2 : len3 = len2
            · subst e2
              exact walk_eq _ _ _ _ _ _ _ _ _ _ f0 f1 f2 f3 w R0 R1 R2 R3 b0 b2
            · have h2 : ((len2 : Int) != (len3 : Int)) = true := by simp; omega
              have h0 : ((len1 : Int) != (len1 : Int)) = false := by simp
              clear R0 R1 R2 R3
              go_enter Try.func4, Try.ntmps4
              go_wp2_with fail
              refine (zb_any _ _ _ _ _ _ _ _ _ _ _ _ _).mono ?_
              rintro e w' ⟨bb, rfl, rfl⟩
              cases bb
              all_goals
                go_wp2
                go_ret
                exact ⟨rfl, Below.refl _ _⟩

          · have h0 : ((len0 : Int) != (len1 : Int)) = true := by simp; omega
            clear R0 R1 R2 R3
            go_enter Try.func4, Try.ntmps4
            go_wp2_with fail
            refine (zb_any _ _ _ _ _ _ _ _ _ _ _ _ _).mono ?_
            rintro e w' ⟨bb, rfl, rfl⟩
            cases bb
            all_goals
              go_wp2
              go_ret
              exact ⟨rfl, Below.refl _ _⟩

        · clear R0 R1 R2 R3
          go_enter Try.func4, Try.ntmps4
          go_wp2_with fail
          refine (zb_any _ _ _ _ _ _ _ _ _ _ _ _ _).mono ?_
          rintro e w' ⟨bb, rfl, rfl⟩
          cases bb
          all_goals
            go_wp2
            go_ret
            exact ⟨rfl, Below.refl _ _⟩

      · clear R0 R1 R2 R3
        go_enter Try.func4, Try.ntmps4
        go_wp2_with fail
        refine (zb_any _ _ _ _ _ _ _ _ _ _ _ _ _).mono ?_
        rintro e w' ⟨bb, rfl, rfl⟩
        cases bb
        all_goals
          go_wp2
          go_ret
          exact ⟨rfl, Below.refl _ _⟩

    · clear R0 R1 R2 R3
      go_enter Try.func4, Try.ntmps4
      go_wp2_with fail
      refine (zb_any _ _ _ _ _ _ _ _ _ _ _ _ _).mono ?_
      rintro e w' ⟨bb, rfl, rfl⟩
      cases bb
      all_goals
        go_wp2
        go_ret
        exact ⟨rfl, Below.refl _ _⟩

  · clear R0 R1 R2 R3
    go_enter Try.func4, Try.ntmps4
    go_wp2_with fail
    refine (zb_any _ _ _ _ _ _ _ _ _ _ _ _ _).mono ?_
    rintro e w' ⟨bb, rfl, rfl⟩
    cases bb
    all_goals
      go_wp2
      go_ret
      exact ⟨rfl, Below.refl _ _⟩

/-! ### THE ROW's STEP: WRITTEN OUT: LEAVE IT -/
set_option maxRecDepth 100000 in
theorem lifted (os : Os) (started : os.Started) (H : Type) (enc : TypeId × Value → H) :
    ReturnsInHanded {} Try.checked os 4 .any (Rows.fnUnionIsTheCanonicalSetUnionSpec.pre6 enc Try.prog Try.f4 Rows.fnUnionIsTheCanonicalSetUnionRow.domain false) (Rows.fnUnionIsTheCanonicalSetUnionSpec.post enc Try.prog Try.f4 false true false false) := by
  refine returnsInHanded_of_change (C := Try.checked) own started (by kernel_rfl) Try.func4
    (ChangeSpec.witness6 (enc := enc) (C := Try.checked) false ⟨#[], #[.slice none 0 0, .slice none 0 0, .slice none 0 0, .slice none 0 0], []⟩ 8 (by kernel_rfl) (by kernel_rfl) (by kernel_rfl) (by kernel_rfl)) ?_
  intro W base args ds gs before hval0 hW hcnd _
  have hval : ∀ (j : Nat) t v, Try.f4.params[j]? = some t → args[j]? = some v → Value.okWide Try.prog W .any base t v := hval0
  have hW' := hW
  obtain ⟨p, q, hA0, hV, rfl, hfz, hnd⟩ := hW
  have hA : DataW.TrodAll enc Try.prog W 0 (fun _ => true) true Try.f4.params.toList args.toList ds p := hA0
  rw [Try.params4] at hA hval
  obtain ⟨v0, vs0, d0, ds0, p0, q0, hargs, rfl, rfl, h0, r0⟩ := trodAll_cons hA
  obtain ⟨v1, vs1, d1, ds1, p1, q1, rfl, rfl, rfl, h1, r1⟩ := trodAll_cons r0
  obtain ⟨v2, vs2, d2, ds2, p2, q2, rfl, rfl, rfl, h2, r2⟩ := trodAll_cons r1
  obtain ⟨v3, vs3, d3, ds3, p3, q3, rfl, rfl, rfl, h3, r3⟩ := trodAll_cons r2
  obtain ⟨rfl, rfl, rfl⟩ := trodAll_nil r3
  obtain rfl : args = #[v0, v1, v2, v3] := by cases args; simp_all
  obtain ⟨rfl, rfl⟩ := trodVars_none hV
  obtain ⟨a0, len0, cap0, rfl⟩ := okWide_slice Try.underlying22 (hval 0 22 v0 rfl rfl)
  have k0 := h0
  have lt0 : ∀ x ∈ p0, x.block < W.heap.size := by obtain ⟨m, hm⟩ := k0; exact DataW.trod_lt m _ _ _ hm
  obtain ⟨z0, w0⟩ : ∃ zs, IsRow .i64 W a0 len0 cap0 zs := by
    obtain ⟨fuel, hf⟩ := h0
    rcases open_ints Try.underlying22 Try.underlying3 (by kernel_rfl) hf with ⟨hcs, _⟩ | ⟨x, l, c, zs, hcs, _, hl, hm, hz, _, hcell, hwz⟩
    · simp [Value.cells] at hcs
      obtain ⟨rfl, rfl, rfl⟩ := hcs
      exact ⟨[], .inl ⟨rfl, rfl, rfl, rfl⟩⟩
    · simp [Value.cells] at hcs
      obtain ⟨rfl, rfl, rfl⟩ := hcs
      exact ⟨zs, .inr ⟨_, rfl, hl, hm, by simpa using hz, hcell, hwz⟩⟩
  obtain ⟨a1, len1, cap1, rfl⟩ := okWide_slice Try.underlying22 (hval 1 22 v1 rfl rfl)
  have k1 := h1
  have lt1 : ∀ x ∈ p1, x.block < W.heap.size := by obtain ⟨m, hm⟩ := k1; exact DataW.trod_lt m _ _ _ hm
  obtain ⟨z1, w1⟩ : ∃ zs, IsRow .i64 W a1 len1 cap1 zs := by
    obtain ⟨fuel, hf⟩ := h1
    rcases open_ints Try.underlying22 Try.underlying3 (by kernel_rfl) hf with ⟨hcs, _⟩ | ⟨x, l, c, zs, hcs, _, hl, hm, hz, _, hcell, hwz⟩
    · simp [Value.cells] at hcs
      obtain ⟨rfl, rfl, rfl⟩ := hcs
      exact ⟨[], .inl ⟨rfl, rfl, rfl, rfl⟩⟩
    · simp [Value.cells] at hcs
      obtain ⟨rfl, rfl, rfl⟩ := hcs
      exact ⟨zs, .inr ⟨_, rfl, hl, hm, by simpa using hz, hcell, hwz⟩⟩
  obtain ⟨a2, len2, cap2, rfl⟩ := okWide_slice Try.underlying22 (hval 2 22 v2 rfl rfl)
  have k2 := h2
  have lt2 : ∀ x ∈ p2, x.block < W.heap.size := by obtain ⟨m, hm⟩ := k2; exact DataW.trod_lt m _ _ _ hm
  obtain ⟨z2, w2⟩ : ∃ zs, IsRow .i64 W a2 len2 cap2 zs := by
    obtain ⟨fuel, hf⟩ := h2
    rcases open_ints Try.underlying22 Try.underlying3 (by kernel_rfl) hf with ⟨hcs, _⟩ | ⟨x, l, c, zs, hcs, _, hl, hm, hz, _, hcell, hwz⟩
    · simp [Value.cells] at hcs
      obtain ⟨rfl, rfl, rfl⟩ := hcs
      exact ⟨[], .inl ⟨rfl, rfl, rfl, rfl⟩⟩
    · simp [Value.cells] at hcs
      obtain ⟨rfl, rfl, rfl⟩ := hcs
      exact ⟨zs, .inr ⟨_, rfl, hl, hm, by simpa using hz, hcell, hwz⟩⟩
  obtain ⟨a3, len3, cap3, rfl⟩ := okWide_slice Try.underlying22 (hval 3 22 v3 rfl rfl)
  have k3 := h3
  have lt3 : ∀ x ∈ p3, x.block < W.heap.size := by obtain ⟨m, hm⟩ := k3; exact DataW.trod_lt m _ _ _ hm
  obtain ⟨z3, w3⟩ : ∃ zs, IsRow .i64 W a3 len3 cap3 zs := by
    obtain ⟨fuel, hf⟩ := h3
    rcases open_ints Try.underlying22 Try.underlying3 (by kernel_rfl) hf with ⟨hcs, _⟩ | ⟨x, l, c, zs, hcs, _, hl, hm, hz, _, hcell, hwz⟩
    · simp [Value.cells] at hcs
      obtain ⟨rfl, rfl, rfl⟩ := hcs
      exact ⟨[], .inl ⟨rfl, rfl, rfl, rfl⟩⟩
    · simp [Value.cells] at hcs
      obtain ⟨rfl, rfl, rfl⟩ := hcs
      exact ⟨zs, .inr ⟨_, rfl, hl, hm, by simpa using hz, hcell, hwz⟩⟩
  clear hA0 hval0
  refine (walk a0 len0 cap0 z0 a1 len1 cap1 z1 a2 len2 cap2 z2 a3 len3 cap3 z3 W w0 w1 w2 w3).mono fun e W' ⟨he, bel⟩ => ?_
  subst he
  exact ⟨_, rfl, _, _, _, [], _, [], hW', trodAll_mk1 (shut_bool Try.underlying4 _), (trodAll_cons_mk (Below.trod laidOut (by kernel_rfl) (of_decide_eq_true (by kernel_rfl)) k0 bel lt0) (trodAll_cons_mk (Below.trod laidOut (by kernel_rfl) (of_decide_eq_true (by kernel_rfl)) k1 bel lt1) (trodAll_cons_mk (Below.trod laidOut (by kernel_rfl) (of_decide_eq_true (by kernel_rfl)) k2 bel lt2) (trodAll_cons_mk (Below.trod laidOut (by kernel_rfl) (of_decide_eq_true (by kernel_rfl)) k3 bel lt3) trodAll_mk0)))), rfl, bel.frame _, fun h => by cases h⟩

theorem over : Rows.fnUnionIsTheCanonicalSetUnionRow.holds Try.pinned (OpenSpec.ofChange Rows.fnUnionIsTheCanonicalSetUnionSpec) :=
  OpenClaim.holds_of_wide 4 Try.f4 rfl rfl rfl rfl rfl rfl rfl ⟨rfl, rfl, rfl, rfl, rfl⟩ rfl rfl rfl rfl rfl (by kernel_rfl) Try.func4 (by kernel_rfl)
    (of_decide_eq_true (by kernel_rfl)) (by unfold Func.isWrapper; first | (rw [if_pos (by decide +kernel)]; kernel_rfl) | (rw [if_neg (by decide +kernel)]; exact ⟨rfl, rfl⟩))
    (fun os started H enc _ => lifted os started H enc)

/-- ████ THE STATEMENT ████ -/
theorem proved : Rows.FnUnionIsTheCanonicalSetUnionSaid := over
end Go.Proofs.Qxb6604083a.fnUnionIsTheCanonicalSetUnion
