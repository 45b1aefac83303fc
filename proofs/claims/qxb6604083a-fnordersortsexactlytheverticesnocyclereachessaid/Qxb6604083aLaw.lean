import Derived.Test.Qxb6604083aLawP
import Derived.Deep.RegionHeld3
import Derived.BigQuiet
import Derived.Deep.RegionWith
import Derived.Deep.CutRange
/-! THE LAW OF 'order' WALKED -/
set_option linter.unusedVariables false
namespace Go.Proofs.Qxb6604083a.Base
open Go.ChangeShapes Go.WideShapes Go.ChangeAt Go.RowKit
open Go.Proofs.Qxb6604083a.G

/-- A value that is the answer to P. -/
def RB (P : Prop) (v : Value) : Prop := ∃ b : Bool, v = .bool b ∧ (b = true ↔ P)
theorem below_dn {B : Nat} {w w2 : World} (h : Below B w w2) (n : Nat) : Below B w (w2.drewN n) := ⟨h.os, h.tape, h.output, h.size, h.block⟩
theorem w64_small {x : Int} (h0 : 0 ≤ x) (h : x < 4294967296) : W64 x := by
  unfold W64
  simp [Lit.wf, IntKind.min, IntKind.max, IntKind.signed, IntKind.bits]
  omega

set_option maxRecDepth 100000 in
set_option maxHeartbeats 16000000 in
theorem law1 (a0 a1 : Option Addr) (n c0 c1 : Nat) (K : Nat → Int) (Ls : Nat → List Int) (w : World) (hn : n ≤ 4096) (hk : Rd w a0 n K) (hl : LRd w a1 n Ls) (hw : ∀ i, i < n → W64 (K i)) (hwl : ∀ i, i < n → ∀ y ∈ Ls i, W64 y) :
    Calls Try.prog 3 #[.slice a0 n c0, .slice a1 n c1] w fun e w' => e = .returned (.bool true) ∧ Below w.heap.size w w' := by
  obtain ⟨i0, hi0, hz0, hz1, hz2⟩ := info_parts info3
  have hmm := @run_makeMap Try.prog
  have HK := hide hk
  have HL := hide hl
  have HW := hide hw
  have HWL := hide hwl
  have e1 : decide ((4096 : Int) < (n : Int)) = false := by simp; omega
  have e2 : ((n : Int) != (n : Int)) = false := by simp
  clear hk hl hw hwl
  go_enter Try.func3, Try.ntmps3
  go_wp2_with fail
  refine (zb6_any a0 a1 n n c0 c1 Ls _ (by unfold maxLen; omega) HL.out).mono ?_
  rintro e w ⟨⟨bb, rfl⟩, rfl⟩
  cases bb
  · go_wp2
    go_ret
    exact ⟨rfl, Below.refl _ _⟩
  go_wp2
  go_loop [5, 6] (fun s i => ∃ (k t : Nat), k ≤ n ∧ i = .int .i64 k ∧ s = .int .i64 t ∧ t ≤ 4096 * k ∧ Hid (∀ r, r < k → (Ls r).length ≤ 4096)) (fun _ i => n - (intOf i).toNat)
  case atStart => exact ⟨0, 0, Nat.zero_le _, rfl, rfl, Nat.zero_le _, hide (fun r h => absurd h (Nat.not_lt_zero _))⟩
  case round =>
    obtain ⟨k, t, hk, rfl, rfl, ht, hs⟩ := hrel
    by_cases hlt : k < n
    · obtain ⟨x, ai, ci, rfl, hc, _⟩ := HL.out k hlt
      by_cases hlk : (Ls k).length ≤ 4096
      · have e3 : decide ((4096 : Int) < ((Ls k).length : Int)) = false := by simp; omega
        go_wp2
        go_round
        case rel => exact ⟨k + 1, t + (Ls k).length, by omega, by go_num, by go_num, by omega, hide (fun r h => by
          by_cases er : r = k
          · subst er; exact hlk
          · exact hs.out r (by omega))⟩
        case measure => simp [intOf]; omega
      · go_wp2
        go_ret
        exact ⟨rfl, Below.refl _ _⟩
    · by_cases ht4 : t ≤ 4096
      · have e3 : decide ((4096 : Int) < (t : Int)) = false := by simp; omega
        obtain rfl : k = n := by omega
        go_wp2_with fail
        refine (copy_new a0 k c0 K _ (by omega) HK.out).mono ?_
        rintro e w1 ⟨p0, q0, rfl, hb1, hr1, _⟩
        have HL1 := hide (HL.out.below hb1 (Nat.le_refl _))
        have HB1 := hide hb1
        have HK1 := hide hr1
        clear hb1 hr1
        go_wp2_with fail
        refine (copyLists_any a1 k c1 Ls _ (by omega) (fun i hi => by have := hs.out i hi; omega) HL1.out).mono ?_
        rintro e w2 ⟨p1, q1, rfl, hb2, hl2⟩
        have HB2 := hide (HB1.out.trans (hb2.mono HB1.out.size))
        have HK2 := hide (HK1.out.below hb2 (Nat.le_refl _))
        have HL2 := hide hl2
        clear hb2 hl2 HL1 HB1 HK1
        go_wp2_with fail
        refine (graph_any p0 p1 k q0 q1 K Ls _ (by omega) HK2.out HL2.out HW.out HWL.out hs.out).mono ?_
        rintro e w3 ⟨rfl, hb3, hg3⟩
        have HB3 := hide (HB2.out.trans (hb3.mono HB2.out.size))
        have HK3 := hide (HK2.out.below hb3 (Nat.le_refl _))
        have HG3 := hide hg3
        have HO := hide (fun x (hx : x ∉ gks K k) => gadj_out (Ls := Ls) hx)
        have HM := hide (fun x => mem_gks (K := K) (x := x) (k := k))
        have hksl : (gks K k).length ≤ 4096 := Nat.le_trans (gks_length K k) hn
        obtain ⟨b, hbe⟩ : ∃ b, b = w2.heap.size := ⟨_, rfl⟩
        rw [← hbe] at HG3 ⊢
        clear hb3 hg3 HB2 HK2 HL2 hbe
        generalize gks K k = ks at HG3 HO HM hksl
        generalize gadj K Ls k = adj at HG3 HO
        go_wp2_with fail
        refine (verts_any p0 k q0 b K ks adj _ hn HK3.out HW.out HG3.out).mono ?_
        rintro e w4 ⟨qa, qc, Q, rfl, hb4, hrq, hnd, hwq, hql, hmq⟩
        have HB4 := hide (HB3.out.trans (hb4.mono HB3.out.size))
        have HK4 := hide (HK3.out.below hb4 (Nat.le_refl _))
        have HG4 := hide (HG3.out.below hb4 (Nat.le_refl _))
        have HQ4 := hide hrq
        have HWQ := hide hwq
        have HGr : Hid (Gr adj ks Q) := hide ⟨HG3.out.nd, HO.out, hnd, fun y => by
          rw [hmq y]
          constructor
          · rintro ⟨i, hi, e | h⟩
            · exact .inl ((HM.out y).2 ⟨i, hi, e.symm⟩)
            · exact .inr ⟨K i, (HM.out _).2 ⟨i, hi, rfl⟩, h⟩
          · rintro (h | ⟨x, hx, h⟩)
            · obtain ⟨i, hi, e⟩ := (HM.out y).1 h
              exact ⟨i, hi, .inl e.symm⟩
            · obtain ⟨i, hi, e⟩ := (HM.out x).1 hx
              exact ⟨i, hi, .inr (by rw [e]; exact h)⟩⟩
        have hvl : Q.length ≤ 16781312 := by omega
        clear hb4 hrq hnd hwq hmq hql HB3 HK3 HG3 HO HK HL HWL hs
        go_wp2
        go_loopw [9, 10] (fun s jj wr => ∃ (j : Nat) (a : Option Addr) (c : Nat) (C : List Int), j ≤ Q.length ∧ jj = .int .i64 j ∧ s = .slice a C.length c ∧ Hid (Below w4.heap.size w4 wr) ∧ Hid (OL wr w4.heap.size a c C) ∧ Hid (∀ y, y ∈ C ↔ ∃ k, k < j ∧ fn Q k = y ∧ TG adj y y) ∧ C.length ≤ j) (fun _ jj _ => Q.length - (intOf jj).toNat)
        case atStart => exact ⟨0, none, 0, [], Nat.zero_le _, rfl, rfl, hide (Below.refl _ _), hide (OL.nil _ _), hide (fun y => by simp), by simp⟩
        case round =>
          obtain ⟨j, a, c, C, hj, rfl, rfl, hb, hol, hmem, hcl⟩ := hrel
          by_cases hjl : j < Q.length
          · obtain ⟨y, rfl, hcy0⟩ := HQ4.out j hjl
            obtain ⟨x, hx⟩ : ∃ x, x = fn Q j := ⟨_, rfl⟩
            have hxQ : x ∈ Q := by rw [hx]; exact fn_mem hjl
            have hwx : W64 x := HWQ.out x hxQ
            have hcy : wr.cell? (y.add j) = some (.int .i64 x) := by
              rw [hb.out.cell (World.block_lt_of_cell? _ _ hcy0), hx]
              exact hcy0
            have HX := hide hx
            have hGd := hide (HG4.out.below hb.out.drew (Nat.le_refl _))
            clear hx hcy0
            go_upto_region 24 with fail
            go_cut [89] from 74 to 96 (fun v wx => Hid (RB (TG adj x x) v) ∧ Hid (Below wr.heap.size wr wx))
            case first =>
              go_region_with (first | (go_at_call 11; refine (reaches_any b ks Q adj x x wr.drew hwx hGd.out HGr.out hvl).mono ?_; rintro e w5 ⟨⟨bb, rfl, hbb⟩, hb5⟩))
              all_goals (go_wp2_with fail; go_meet; case rel => exact ⟨hide ⟨bb, rfl, hbb⟩, hide ((Below.refl wr.heap.size wr).drew.trans hb5)⟩)
            case rest =>
              obtain ⟨⟨bb, rfl, hbb⟩, hb5⟩ := hcut
              have HB5 := hide (hb.out.trans (hb5.out.mono hb.out.size))
              have hwcs := hb5.out.size
              have hws4 := hb.out.size
              have HOL5 : Hid (OL wc w4.heap.size a c C) := hide (hol.out.kept (row := none) ⟨hb5.out.os, hb5.out.tape, hb5.out.output, hb5.out.size, fun k hk _ => hb5.out.block k hk⟩ (fun g _ => by simp))
              have hcy5 : wc.cell? (y.add j) = some (.int .i64 x) := (hb5.out.cell (World.block_lt_of_cell? _ _ hcy)).trans hcy
              clear hb5 hb hol hcy hGd
              cases bb
              · have hM : Hid (∀ y, y ∈ C ↔ ∃ k, k < j + 1 ∧ fn Q k = y ∧ TG adj y y) := hide (fun z => by
                  rw [hmem.out z]
                  constructor
                  · rintro ⟨i, h, e⟩; exact ⟨i, by omega, e⟩
                  · rintro ⟨i, h, e, tg⟩
                    by_cases ek : i = j
                    · subst ek
                      rw [← HX.out] at e
                      subst e
                      exact absurd (hbb.2 tg) (by simp)
                    · exact ⟨i, by omega, e, tg⟩)
                clear hbb hmem
                go_wp2
                go_roundw
                case rel => exact ⟨j + 1, a, c, C, by omega, by go_num, rfl, HB5, HOL5, hM, by omega⟩
                case measure => simp [intOf]; omega
              · have hM : Hid (∀ y, y ∈ C ++ [x] ↔ ∃ k, k < j + 1 ∧ fn Q k = y ∧ TG adj y y) := hide (fun z => by
                  rw [List.mem_append, hmem.out z, List.mem_singleton]
                  constructor
                  · rintro (⟨i, h, e⟩ | rfl)
                    · exact ⟨i, by omega, e⟩
                    · exact ⟨j, by omega, HX.out.symm, hbb.1 rfl⟩
                  · rintro ⟨i, h, e, tg⟩
                    by_cases ek : i = j
                    · subst ek; exact .inr (by rw [HX.out, e])
                    · exact .inl ⟨i, by omega, e, tg⟩)
                clear hbb hmem
                go_wp2_with (at_builtin; refine wpList_append_own _ rfl (.tmp 90) (.tmp 95) 22 rfl w4.heap.size 3 i0 (.int .i64 0) 1 8 Try.underlying22 hi0 hz0 hz1 hz2 rfl (by decide) _ _ _ rfl (HOL5.out.1.alloc _) ⟨wc.heap.size, 0, none⟩ 1 1 [.int .i64 x] rfl rfl (cell_one_new _ _ _) (ints_oneCell .i64 [x]) (by unfold maxLen; omega) (by omega) (by simp; omega) ?_)
                intro v' wa hoa hga _
                obtain ⟨g', c', rfl, hola⟩ := HOL5.out.pushed hoa
                have hal := World.grownBy_alloc wc (.cells #[.int .i64 x] 3) none
                have ho9' := HOL5.out.kept hal (fun g _ => by simp)
                have HBa := hide ((HB5.out.alloc (by omega) (.cells #[.int .i64 x] 3)).grown hga (by simp; omega) (fun k e => (ho9'.ownBlock k e).1))
                have HOLa := hide hola
                clear hal ho9' hoa hga hola HB5 HOL5
                go_wp2
                go_roundw
                case rel => exact ⟨j + 1, _, c', C ++ [x], by omega, by go_num, rfl, HBa, HOLa, hM, by simp; omega⟩
                case measure => simp [intOf]; omega
          · obtain rfl : j = Q.length := by omega
            have hC := hide hmem.out
            have hCQ : Hid (∀ y ∈ C, y ∈ Q) := hide (fun y hy => by
              obtain ⟨i, hi, e, _⟩ := (hC.out y).1 hy
              rw [← e]; exact fn_mem hi)
            have HGr5 := hide (HG4.out.below hb.out (Nat.le_refl _))
            have HK5 := hide (HK4.out.below hb.out (Nat.le_refl _))
            have HQ5 := hide (HQ4.out.below hb.out (Nat.le_refl _))
            have HB5 := hide (HB4.out.trans (hb.out.mono HB4.out.size))
            have HCr := hide hol.out.rd
            clear hmem hb hol HG4 HK4 HQ4 HB4
            go_wp2_with fail
            refine (down_any b ks Q adj a C.length c (fn C) _ (by omega) HCr.out (fun i hi => HWQ.out _ (hCQ.out _ (fn_mem hi))) (fun i hi => hCQ.out _ (fn_mem hi)) HGr5.out HGr.out hvl).mono ?_
            rintro e w5 ⟨D, rfl, hb5, hmd, hdm⟩
            have HG5 := hide (HGr5.out.below hb5 (Nat.le_refl _))
            have HK6 := hide (HK5.out.below hb5 (Nat.le_refl _))
            have HQ6 := hide (HQ5.out.below hb5 (Nat.le_refl _))
            have HB6 := hide (HB5.out.trans (hb5.mono HB5.out.size))
            have HD6 := hide hmd
            have HDm := hide hdm
            obtain ⟨db, hdb⟩ : ∃ db, db = wr.heap.size := ⟨_, rfl⟩
            rw [← hdb] at HD6 ⊢
            clear hb5 hmd hdm HGr5 HK5 HQ5 HB5 HCr hdb
            go_wp2_with fail
            refine (zzorder_any b ks adj _ HG5.out hksl).mono ?_
            rintro e w6 ⟨bp, bb, P, IK, rfl, hbb, hb6, hmp, hgr, hkin⟩
            have HOF := hide (of_kin HGr.out hC.out HDm.out hgr hkin hbb)
            have HG7 := hide (HG5.out.below hb6 (Nat.le_refl _))
            have HK7 := hide (HK6.out.below hb6 (Nat.le_refl _))
            have HQ7 := hide (HQ6.out.below hb6 (Nat.le_refl _))
            have HB7 := hide (HB6.out.trans (hb6.mono HB6.out.size))
            have HD7 := hide (HD6.out.below hb6 HD6.out.lt)
            have HP7 := hide hmp
            clear hbb hb6 hmp hgr hkin HG5 HK6 HQ6 HB6 HD6 HDm hC hCQ
            have hok := HOF.out.ok
            have hpl : P.length ≤ Q.length := by rw [← HOF.out.num]; exact cf_le _ _ _
            have e4 : ((C.length : Int) == 0) = bb := by
              by_cases hc0 : C.length = 0
              · have := hok.2 hc0
                subst this
                simpa using hc0
              · have : bb = false := by
                  cases bb
                  · rfl
                  · exact absurd (hok.1 rfl) hc0
                subst this
                simpa using hc0
            have e5 : (bb != bb) = false := by simp
            have hpm : P.length ≤ 16781312 := by omega
            clear hok
            go_wp2
            go_loop [14, 15] (fun s i => ∃ (j : Nat), j ≤ Q.length ∧ i = .int .i64 j ∧ s = .int .i64 (cf Q P j)) (fun _ i => Q.length - (intOf i).toNat)
            case atStart => exact ⟨0, Nat.zero_le _, rfl, by simp [cf]⟩
            case round =>
              obtain ⟨j, hj, rfl, rfl⟩ := hrel
              have hcfl := cf_le Q P j
              by_cases hjl : j < Q.length
              · obtain ⟨y, rfl, hcy⟩ := HQ7.out j hjl
                have hxQ := fn_mem hjl
                have hwx := HWQ.out _ hxQ
                by_cases hxP : fn Q j ∈ P
                · have hxD := (HOF.out.pl _ hxQ).1 hxP
                  have hcs := cf_in hjl hxP
                  have hpos := look_pI hxP
                  have hinP : decide (fn Q j ∈ P) = true := decide_eq_true hxP
                  have hblk := look_ff (F := tt) (z := .bool false) hxD
                  go_wp2_with (first | (at_lookup; refine wp_look_ok _ rfl (.tmp 117) (.tmp 121) 33 rfl 3 Try.underlying33 (.int .i64 0) (zero3 _) rfl HP7.out (fn Q j) rfl hwx _ hpos true hinP ?_) | (at_lookup; refine wp_look _ rfl (.tmp 126) (.tmp 130) 31 rfl 4 Try.underlying31 (.bool false) (zero4 _) rfl HD7.out (fn Q j) rfl hwx _ hblk ?_))
                  go_round
                  case rel => exact ⟨j + 1, by omega, by go_num, by rw [hcs]; go_num⟩
                  case measure => simp [intOf]; omega
                · have hxD : fn Q j ∈ D := Classical.byContradiction (fun h => hxP ((HOF.out.pl _ hxQ).2 h))
                  have hcs := cf_out hjl hxP
                  have hpos := look_ff (F := pI P) (z := .int .i64 0) hxP
                  have hinP : decide (fn Q j ∈ P) = false := decide_eq_false hxP
                  have hblk := look_tt hxD
                  go_wp2_with (first | (at_lookup; refine wp_look_ok _ rfl (.tmp 117) (.tmp 121) 33 rfl 3 Try.underlying33 (.int .i64 0) (zero3 _) rfl HP7.out (fn Q j) rfl hwx _ hpos false hinP ?_) | (at_lookup; refine wp_look _ rfl (.tmp 126) (.tmp 130) 31 rfl 4 Try.underlying31 (.bool false) (zero4 _) rfl HD7.out (fn Q j) rfl hwx _ hblk ?_))
                  go_round
                  case rel => exact ⟨j + 1, by omega, by go_num, by rw [hcs]⟩
                  case measure => simp [intOf]; omega
              · obtain rfl : j = Q.length := by omega
                rw [HOF.out.num]
                have e6 : ((P.length : Int) != (P.length : Int)) = false := by simp
                have HU0 := hide (MV.made w6 tt)
                have HBU := hide ((Below.refl w6.heap.size w6).alloc (Nat.le_refl _) (.map #[] 0))
                clear hcfl
                go_wp2_with (at_len; refine wp_len _ rfl (.tmp 136) 33 rfl 3 Try.underlying33 rfl HP7.out ?_)
                go_loopw [19] (fun i wr => ∃ (j : Nat) (U : List Int), j ≤ Q.length ∧ i = .int .i64 j ∧ Hid (Below w6.heap.size w6 wr) ∧ Hid (MV wr w6.heap.size U tt) ∧ Hid (∀ y, y ∈ U ↔ ∃ k, k < j ∧ fn Q k ∉ D ∧ y = (P.idxOf (fn Q k) : Int)) ∧ U.length ≤ j) (fun i _ => Q.length - (intOf i).toNat)
                case atStart => exact ⟨0, [], Nat.zero_le _, rfl, HBU, HU0, hide (fun y => by simp), by simp⟩
                case round =>
                  obtain ⟨j, U, hj, rfl, hb, hu, hmu, hul⟩ := hrel
                  by_cases hjl : j < Q.length
                  · obtain ⟨y, rfl, hcy0⟩ := HQ7.out j hjl
                    obtain ⟨x, hx⟩ : ∃ x, x = fn Q j := ⟨_, rfl⟩
                    have hxQ : x ∈ Q := by rw [hx]; exact fn_mem hjl
                    have hwx : W64 x := HWQ.out x hxQ
                    have hcy : wr.cell? (y.add j) = some (.int .i64 x) := by
                      rw [hb.out.cell (World.block_lt_of_cell? _ _ hcy0), hx]
                      exact hcy0
                    have HD8 := hide (HD7.out.below hb.out HD7.out.lt)
                    have HX := hide hx
                    clear hx hcy0
                    by_cases hxD : x ∈ D
                    · have hblk := look_tt hxD
                      have hM : Hid (∀ y, y ∈ U ↔ ∃ k, k < j + 1 ∧ fn Q k ∉ D ∧ y = (P.idxOf (fn Q k) : Int)) := hide (fun z => by
                        rw [hmu.out z]
                        constructor
                        · rintro ⟨i, h, e⟩; exact ⟨i, by omega, e⟩
                        · rintro ⟨i, h, h2, e⟩
                          by_cases ek : i = j
                          · subst ek
                            rw [← HX.out] at h2
                            exact absurd hxD h2
                          · exact ⟨i, by omega, h2, e⟩)
                      clear hmu
                      go_wp2_with (at_lookup; refine wp_look _ rfl (.tmp 151) (.tmp 152) 31 rfl 4 Try.underlying31 (.bool false) (zero4 _) rfl HD8.out x rfl hwx _ hblk ?_)
                      go_roundw
                      case rel => exact ⟨j + 1, U, by omega, by go_num, hb, hu, hM, by omega⟩
                      case measure => simp [intOf]; omega
                    · have hxP := (HOF.out.pl _ hxQ).2 hxD
                      have HP8 := hide (HP7.out.below hb.out HP7.out.lt)
                      have hblk := look_ff (F := tt) (z := .bool false) hxD
                      have hpos := look_pI hxP
                      have hpl1 := idx_lt hxP
                      have hnU : (P.idxOf x : Int) ∉ U := fun h => by
                        obtain ⟨i, hi, h2, e⟩ := (hmu.out _).1 h
                        have hiP := (HOF.out.pl _ (fn_mem (Nat.lt_trans hi hjl))).2 h2
                        have e2 := idx_inj hxP hiP (by omega)
                        have g1 := fn_get (Nat.lt_trans hi hjl)
                        have g2 := fn_get hjl
                        rw [← e2] at g1
                        rw [← HX.out] at g2
                        have := get_inj HGr.out.ndv g1 g2
                        omega
                      have hM : Hid (∀ y, y ∈ addK U (P.idxOf x : Int) ↔ ∃ k, k < j + 1 ∧ fn Q k ∉ D ∧ y = (P.idxOf (fn Q k) : Int)) := hide (fun z => by
                        rw [mem_addK, hmu.out z]
                        constructor
                        · rintro (⟨i, h, e⟩ | e)
                          · exact ⟨i, by omega, e⟩
                          · exact ⟨j, by omega, by rw [← HX.out]; exact hxD, by rw [← HX.out]; exact e⟩
                        · rintro ⟨i, h, h2, e⟩
                          by_cases ek : i = j
                          · subst ek; rw [← HX.out] at e; exact .inr e
                          · exact .inl ⟨i, by omega, h2, e⟩)
                      have hul' : (addK U (P.idxOf x : Int)).length ≤ j + 1 := by rw [addK_out hnU]; simp; omega
                      generalize P.idxOf x = p at hpos hpl1 hnU hM hul'
                      have hwp : W64 (p : Int) := w64_small (by omega) (by omega)
                      have e7 : decide ((p : Int) < 0) = false := decide_eq_false (by omega)
                      have e8 : decide ((P.length : Int) ≤ (p : Int)) = false := by simp; omega
                      have hrun := hu.out.look_run 31 4 Try.underlying31 (.bool false) (zero4 _) hwp _ (look_ff (F := tt) (z := .bool false) hnU)
                      clear hmu
                      go_wp2_with (first | (at_lookup; refine wp_look _ rfl (.tmp 151) (.tmp 152) 31 rfl 4 Try.underlying31 (.bool false) (zero4 _) rfl HD8.out x rfl hwx _ hblk ?_) | (at_lookup; refine wp_look _ rfl (.tmp 154) (.tmp 155) 33 rfl 3 Try.underlying33 (.int .i64 0) (zero3 _) rfl HP8.out x rfl hwx _ hpos ?_) | (at_mapUpdate; refine wp_store _ rfl (.tmp 169) (.tmp 170) _ 31 rfl 4 Try.underlying31 rfl hu.out (by unfold maxLen; omega) (p : Int) rfl hwp _ rfl ?_))
                      intro w9 hm9 hg9
                      have hm9' := hide (hm9.congr (G := tt) (fun z _ => by unfold upd tt; split <;> rfl))
                      have hbs := hb.out.size
                      have HB9 := hide (hb.out.grown hg9 hbs (fun k e => by cases e; exact Nat.le_refl _))
                      clear hm9 hg9 hrun hb hu
                      go_wp2
                      go_roundw
                      case rel => exact ⟨j + 1, _, by omega, by go_num, HB9, hm9', hM, hul'⟩
                      case measure => simp [intOf]; omega
                  · obtain rfl : j = Q.length := by omega
                    obtain ⟨w9, hw9⟩ : ∃ w9, w9 = wr := ⟨wr, rfl⟩
                    subst hw9
                    have HG8 := hide (HG7.out.below hb.out (Nat.le_refl _))
                    have HK8 := hide (HK7.out.below hb.out (Nat.le_refl _))
                    have HD8 := hide (HD7.out.below hb.out HD7.out.lt)
                    have HP8 := hide (HP7.out.below hb.out HP7.out.lt)
                    have HBf := hide (HB7.out.trans (hb.out.mono HB7.out.size))
                    clear HG7 HK7 HD7 HP7 HB7 HQ7 hb hu hmu hul HU0 HBU
                    go_wp2
                    go_loopw [22] (fun i wr => ∃ (j : Nat), j ≤ k ∧ i = .int .i64 j ∧ Hid (Below w9.heap.size w9 wr)) (fun i _ => k - (intOf i).toNat)
                    case atStart => exact ⟨0, Nat.zero_le _, rfl, hide (Below.refl _ _)⟩
                    case round =>
                      obtain ⟨j, hj, rfl, hb⟩ := hrel
                      by_cases hjl : j < k
                      · obtain ⟨y, rfl, hcy0⟩ := HK8.out j hjl
                        have hwx : W64 (K j) := HW.out j hjl
                        have hcy : wr.cell? (y.add j) = some (.int .i64 (K j)) := by
                          rw [hb.out.cell (World.block_lt_of_cell? _ _ hcy0)]
                          exact hcy0
                        clear hcy0
                        generalize K j = x at hwx hcy
                        obtain ⟨F8, na, nc, hmvn, hlkn, hrn⟩ := fnRd HG8.out hb.out x
                        have hra := hide hrn
                        have hmvn' := hide hmvn
                        have hll := HG8.out.len x
                        clear hmvn hrn
                        go_wp2_with (at_lookup; refine wp_look _ rfl (.tmp 181) (.tmp 182) 27 rfl 22 Try.underlying27 (.slice none 0 0) (zero22 _) rfl hmvn'.out x rfl hwx _ hlkn ?_)
                        go_loopw [25] (fun i wr => ∃ (q : Nat), q ≤ (adj x).length ∧ i = .int .i64 q ∧ Hid (Below w9.heap.size w9 wr)) (fun i _ => (adj x).length - (intOf i).toNat)
                        case atStart => exact ⟨0, Nat.zero_le _, rfl, hb⟩
                        case round =>
                          clear hb hcy hmvn' hlkn
                          obtain ⟨q, hq, rfl, hb⟩ := hrel
                          by_cases hql : q < (adj x).length
                          · obtain ⟨z, rfl, hcz0⟩ := hra.out q hql
                            have hyA := fn_mem hql
                            have hwy : W64 (fn (adj x) q) := HG8.out.wf _ _ hyA
                            have hcz : wr.cell? (z.add q) = some (.int .i64 (fn (adj x) q)) := by
                              rw [hb.out.cell (World.block_lt_of_cell? _ _ hcz0)]
                              exact hcz0
                            have HD9 := hide (HD8.out.below hb.out HD8.out.lt)
                            have HP9 := hide (HP8.out.below hb.out HP8.out.lt)
                            clear hcz0
                            generalize fn (adj x) q = t at hyA hwy hcz
                            by_cases hyD : t ∈ D
                            · have hblk := look_tt hyD
                              go_wp2_with (at_lookup; refine wp_look _ rfl (.tmp 190) (.tmp 194) 31 rfl 4 Try.underlying31 (.bool false) (zero4 _) rfl HD9.out t rfl hwy _ hblk ?_)
                              go_roundw
                              case rel => exact ⟨q + 1, by omega, by go_num, hb⟩
                              case measure => simp [intOf]; omega
                            · have hblk := look_ff (F := tt) (z := .bool false) hyD
                              obtain ⟨hxP, hyP, hxD, hlt⟩ := HOF.out.ord x t hyA hyD
                              have r1 : ∀ m, (Instr.lookup 31 (.map (some db)) (.int .i64 x) false).run Try.prog (wr.drewN m) = .ok (.bool false) (wr.drewN m) := fun m => (HD9.out.drewN m).look_run 31 4 Try.underlying31 (.bool false) (zero4 _) hwx _ (look_ff (F := tt) (z := .bool false) hxD)
                              have r2 : ∀ m, (Instr.lookup 33 (.map (some bp)) (.int .i64 x) false).run Try.prog (wr.drewN m) = .ok (.int .i64 (P.idxOf x)) (wr.drewN m) := fun m => (HP9.out.drewN m).look_run 33 3 Try.underlying33 (.int .i64 0) (zero3 _) hwx _ (look_pI hxP)
                              have r3 : ∀ m, (Instr.lookup 33 (.map (some bp)) (.int .i64 t) false).run Try.prog (wr.drewN m) = .ok (.int .i64 (P.idxOf t)) (wr.drewN m) := fun m => (HP9.out.drewN m).look_run 33 3 Try.underlying33 (.int .i64 0) (zero3 _) hwy _ (look_pI hyP)
                              have e9 : decide ((P.idxOf t : Int) ≤ (P.idxOf x : Int)) = false := decide_eq_false (by omega)
                              have e10 : decide (P.idxOf t ≤ P.idxOf x) = false := decide_eq_false (by omega)
                              generalize P.idxOf t = pt at r3 e9 e10
                              generalize P.idxOf x = px at r2 e9 e10
                              have HB9 := hide (fun m => below_dn hb.out m)
                              clear hlt hb
                              go_wp2_with (at_lookup; refine wp_look _ rfl (.tmp 190) (.tmp 194) 31 rfl 4 Try.underlying31 (.bool false) (zero4 _) rfl HD9.out t rfl hwy _ hblk ?_)
                              go_quiet (fail)
                              have HB10 := hide (HB9.out nq)
                              clear r1 r2 r3
                              go_wp2
                              go_roundw
                              case rel => exact ⟨q + 1, by omega, by go_num, HB10⟩
                              case measure => simp [intOf]; omega
                          · obtain rfl : q = (adj x).length := by omega
                            go_wp2
                            go_roundw
                            case rel => exact ⟨j + 1, by omega, by go_num, hb⟩
                            case measure => simp [intOf]; omega
                      · go_wp2
                        go_ret
                        exact ⟨rfl, HBf.out.trans (hb.out.mono HBf.out.size)⟩

      · go_wp2
        go_ret
        exact ⟨rfl, Below.refl _ _⟩
end Go.Proofs.Qxb6604083a.Base
