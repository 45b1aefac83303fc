import Derived.Test.Qxb6604083aOrdP
/-! 'order' WALKED -/
set_option linter.unusedVariables false
namespace Go.Proofs.Qxb6604083a.Base
open Go.ChangeShapes Go.WideShapes Go.ChangeAt Go.RowKit
open Go.Proofs.Qxb6604083a.G

def strike (l : List Int) (x : Int) : List Int := l.filter (fun y => decide (y ≠ x))
theorem P1.step {adj : Int → List Int} {ks dn todo IQ : List Int} {x : Int} (hp : ((dn ++ [x]) ++ todo).Perm ks) (hm : ∀ y, y ∈ IQ ↔ (((y ∈ dn ∨ ∃ x ∈ dn, y ∈ adj x) ∨ y = x) ∨ y ∈ (adj x).take (adj x).length)) : P1 adj ks (dn ++ [x]) todo IQ := by
  refine ⟨hp, fun y => ?_⟩
  rw [hm y, List.take_length]
  constructor
  · rintro (((h | ⟨z, hz, hy⟩) | rfl) | h)
    · exact .inl (by simp [h])
    · exact .inr ⟨z, by simp [hz], hy⟩
    · exact .inl (by simp)
    · exact .inr ⟨x, by simp, h⟩
  · rintro (h | ⟨z, hz, hy⟩)
    · rcases List.mem_append.1 h with h | h
      · exact .inl (.inl (.inl h))
      · exact .inl (.inr (by simpa using h))
    · rcases List.mem_append.1 hz with hz | hz
      · exact .inl (.inl (.inr ⟨z, hz, hy⟩))
      · have e : z = x := by simpa using hz
        subst e; exact .inr hy
/-- 'wp_next', the value's equation kept from the walk's simp. -/
theorem wp_next' (w : World) {ops : Array Oper} {rest : List Oper} {o : Oper} {a : Act} {Q : Exit → Act → World → Prop} (hg : o.guard = none) (it : Operand) (hop : o.op = Op.next it false) {b r : Nat} {ks todo : List Int} {F : Int → Value} (hit : a.eval it = .pointer (some ⟨r, 0, none⟩)) (h : RG w b r ks F todo)
    (hDone : Hid (todo = []) → wpList Try.prog ops Q rest (a.put o.dst (.tuple #[.bool false])) w)
    (hMore : ∀ (x : Int) (w' : World), x ∈ todo → W64 x → RG w' b r ks F (strike todo x) → w'.rangeLeft b r < w.rangeLeft b r → w.grownBy w' (some r) → Hid (w'.heap.size = w.heap.size) →
      ∀ v, Hid (F x = v) → Hid ((Instr.entry (.pointer (some ⟨r, 0, none⟩))).run Try.prog w' = .ok (.tuple #[.int .i64 x, v]) w') → wpList Try.prog ops Q rest (a.put o.dst (.tuple #[.bool true, .int .i64 x, v])) w') :
    wpList Try.prog ops Q (o :: rest) a w :=
  wp_next w hg it hop hit h hDone hMore

/-- Places, as the map 'pos' holds them. -/
def pI (P : List Int) : Int → Value := fun y => .int .i64 (P.idxOf y)
theorem pI_snoc {w : World} {b : Nat} {P : List Int} {t : Int} {n : Int} (ht : t ∉ P) (hn : n = (P.length : Int)) (h : MV w b (addK P t) (upd (pI P) t (.int .i64 n))) : MV w b (P ++ [t]) (pI (P ++ [t])) := by
  rw [addK_out ht] at h
  refine h.congr (fun y hy => ?_)
  unfold upd pI
  by_cases e : y = t
  · subst e
    rw [if_pos rfl, hn, List.idxOf_append, if_neg ht]
    simp
  · rw [if_neg e, List.idxOf_append]
    have hyP : y ∈ P := by
      rcases List.mem_append.1 hy with h | h
      · exact h
      · exact absurd (by simpa using h) e
    rw [if_pos hyP]

/-- SECOND LOOP: of those that have come, the free ones are gathered. -/
structure P2 (IK todo fr : List Int) (c : Int → Nat) : Prop where
  nd : fr.Nodup
  mem : ∀ y, y ∈ fr ↔ (y ∈ IK ∧ y ∉ todo ∧ c y = 0)
theorem mem_strike {l : List Int} {x y : Int} : y ∈ strike l x ↔ y ∈ l ∧ y ≠ x := by simp [strike]
theorem P2.no {IK todo fr : List Int} {c : Int → Nat} {x : Int} (h : P2 IK todo fr c) (hc : c x ≠ 0) : P2 IK (strike todo x) fr c := by
  refine ⟨h.nd, fun y => ?_⟩
  rw [h.mem y, mem_strike]
  constructor
  · rintro ⟨a, b, d⟩; exact ⟨a, fun e => b e.1, d⟩
  · rintro ⟨a, b, d⟩; exact ⟨a, fun e => b ⟨e, fun e' => hc (by rw [← e']; exact d)⟩, d⟩
theorem P2.yes {IK todo fr : List Int} {c : Int → Nat} {x : Int} (h : P2 IK todo fr c) (hx : x ∈ todo) (hxi : x ∈ IK) (hc : c x = 0) : P2 IK (strike todo x) (fr ++ [x]) c := by
  refine ⟨?_, fun y => ?_⟩
  · rw [List.nodup_append]
    exact ⟨h.nd, by simp, fun a ha b hb => by
      simp at hb
      subst hb
      intro e
      subst e
      exact ((h.mem a).1 ha).2.1 hx⟩
  · rw [List.mem_append, h.mem y, mem_strike, List.mem_singleton]
    constructor
    · rintro (⟨a, b, d⟩ | rfl)
      · exact ⟨a, fun e => b e.1, d⟩
      · exact ⟨hxi, fun e => e.2 rfl, hc⟩
    · rintro ⟨a, b, d⟩
      by_cases e : y = x
      · exact .inr e
      · exact .inl ⟨a, fun e' => b ⟨e', e⟩, d⟩
theorem P2.done {adj : Int → List Int} {ks IK fr : List Int} (h : P2 IK [] fr (cnt adj ks [])) : Kin adj ks IK [] fr (cnt adj ks []) := by
  refine ⟨by simpa using h.nd, fun y hy => ((h.mem y).1 (by simpa using hy)).1, fun y hy => ?_, fun j y hj => by simp at hj⟩
  rw [List.nil_append, h.mem y]
  simp [hy]
theorem rem_nil (ks : List Int) : rem ks [] = ks := by simp [rem]
theorem P1.gr {adj : Int → List Int} {ks dn IK : List Int} (h : P1 adj ks dn [] IK) (ndk : ks.Nodup) (out : ∀ x, x ∉ ks → adj x = []) (ndv : IK.Nodup) : Gr adj ks IK := by
  have hp : dn.Perm ks := by simpa using h.perm
  refine ⟨ndk, out, ndv, fun y => ?_⟩
  rw [h.mem y]
  constructor
  · rintro (a | ⟨x, hx, hy⟩)
    · exact .inl (hp.mem_iff.1 a)
    · exact .inr ⟨x, hp.mem_iff.1 hx, hy⟩
  · rintro (a | ⟨x, hx, hy⟩)
    · exact .inl (hp.mem_iff.2 a)
    · exact .inr ⟨x, hp.mem_iff.2 hx, hy⟩
theorem P1.cnt {adj : Int → List Int} {ks dn IK : List Int} (h : P1 adj ks dn [] IK) : dg adj dn = G.cnt adj ks [] := by
  have hp : dn.Perm ks := by simpa using h.perm
  funext y
  unfold G.cnt
  rw [rem_nil, dg_perm adj hp y]
theorem cnt_le {adj : Int → List Int} {ks : List Int} (hl : ∀ x, (adj x).length ≤ 4096) (hk : ks.length ≤ 4096) (P : List Int) (y : Int) : cnt adj ks P y ≤ 4096 * 4096 := by
  unfold G.cnt
  refine Nat.le_trans (dg_le hl y (rem ks P)) (Nat.mul_le_mul_right _ ?_)
  have h2 : (rem ks P).length ≤ ks.length := List.length_filter_le _ _
  omega
theorem cntq_le {adj : Int → List Int} {ks : List Int} (hl : ∀ x, (adj x).length ≤ 4096) (hk : ks.length ≤ 4096) (P : List Int) (t : Int) (q : Nat) (y : Int) : cntq adj ks P t q y ≤ 4096 * 4096 + 4096 := by
  refine Nat.add_le_add (cnt_le hl hk P y) (Nat.le_trans List.count_le_length ?_)
  rw [List.length_drop]
  exact Nat.le_trans (Nat.sub_le _ _) (hl t)
theorem OL.cap {w : World} {B c g : Nat} {L : List Int} (h : OL w B (some ⟨g, 0, none⟩) c L) : L.length ≤ c ∧ c ≤ maxLen := by
  rcases h.1.2 with ⟨e, _⟩ | ⟨g', cap, cur, e, hB, hh, hle, hm, hs, ht⟩
  · cases e
  · simp only [Value.slice.injEq, Option.some.injEq, Addr.mk.injEq, and_true, true_and] at e
    obtain ⟨rfl, rfl⟩ := e
    exact ⟨by omega, by omega⟩
theorem _root_.Go.Proofs.Qxb6604083a.G.Kin.len {adj : Int → List Int} {ks IK P fr : List Int} {c : Int → Nat} (h : Kin adj ks IK P fr c) : P.length + fr.length ≤ IK.length := by
  have := h.nd.length_le_of_subset (l₂ := IK) (fun y hy => h.sub y hy)
  simpa using this
theorem _root_.Go.Proofs.Qxb6604083a.G.Kin.new {adj : Int → List Int} {ks IK P fr : List Int} {t : Int} {c : Int → Nat} (h : Kin adj ks IK P (fr ++ [t]) c) : t ∉ P := by
  have := h.nd
  rw [List.nodup_append] at this
  intro hp
  exact this.2.2 t hp t (by simp) rfl
theorem snoc_get (L : List Int) (t : Int) : fn (L ++ [t]) L.length = t := by simp [fn, List.getD_eq_getElem?_getD]
theorem get_fn {l : List Int} {q : Nat} (h : q < l.length) : l[q]? = some (fn l q) := by simp [fn, List.getD_eq_getElem?_getD, List.getElem?_eq_getElem h]

/-- WHAT 'order' LEAVES. -/
def OrdPost (w : World) (b : Nat) (ks : List Int) (adj : Int → List Int) (e : Ending) (w' : World) : Prop :=
  ∃ (bp : Nat) (bb : Bool) (P IK : List Int), e = .returned (.tuple #[.map (some bp), .bool bb]) ∧ (bb = true ↔ P.length = IK.length) ∧ Below w.heap.size w w' ∧ MV w' bp P (pI P) ∧ Gr adj ks IK ∧ Kin adj ks IK P [] (cnt adj ks P)

set_option maxRecDepth 100000 in
set_option maxHeartbeats 16000000 in
theorem order_any (sb b : Nat) (ks : List Int) (adj : Int → List Int) (w : World) (hc : w.cell? ⟨sb, 1, none⟩ = some (.map (some b))) (hg : GR w b ks adj) (hkl0 : ks.length ≤ 4096) :
    Calls Try.prog 20 #[.pointer (some ⟨sb, 0, none⟩)] w fun e w' => OrdPost w b ks adj e w' := by
  obtain ⟨i0, hi0, hz0, hz1, hz2⟩ := info_parts info3
  have hsb : sb < w.heap.size := World.block_lt_of_cell? _ _ hc
  have hbl := hg.lt
  have hmm := @run_makeMap Try.prog
  have hmm2 : ∀ (n : Int) (w : World), (Instr.makeMap 33 (some (.int .i64 n))).run Try.prog w = .ok (.map (some w.heap.size)) (w.alloc (.map #[] 0)) := fun n w => run_makeMap_hint 33 3 Try.underlying33 n w
  obtain ⟨F, hF0, hF⟩ := hg.mv
  have HFm := hide hF0
  have HF := hide hF
  have HG := hide hg
  have HC := hide hc
  have hB0 : Below w.heap.size w (w.alloc (.map #[] 0)) := (Below.refl _ _).alloc (Nat.le_refl _) _
  have hm0 : MV (w.alloc (.map #[] 0)) b ks F := hF0.below hB0 hbl
  have hi00 : MV (w.alloc (.map #[] 0)) w.heap.size [] (cI (dg adj [])) := MV.made w _
  have HB0 := hide hB0
  have HM0 := hide hm0
  have HI0 := hide hi00
  clear hg hF hF0 hB0 hm0 hi00
  go_enter Try.func20, Try.ntmps20
  go_wp2_with (at_range; refine wp_range _ rfl (.tmp 22) 27 rfl 22 Try.underlying27 rfl HM0.out ?_)
  intro w1 hrg1 hg1 hs1
  have hr0 : (w.alloc (.map #[] 0)).heap.size = w.heap.size + 1 := by simp
  have HR1 := hide hrg1
  have HB1 := hide (HB0.out.grown hg1 (by simp) (fun k e => by cases e))
  have HI1 := hide (HI0.out.kept hg1 (by simp))
  clear hrg1 hg1 HB0 HM0 HI0 hs1 hr0
  go_wp2
  go_loopw [5] (fun _ wr => ∃ (dn todo IK : List Int), Hid (Below w.heap.size w wr) ∧ Hid (RG wr b (w.heap.size + 1) ks F todo) ∧ Hid (MV wr w.heap.size IK (cI (dg adj dn))) ∧ Hid (P1 adj ks dn todo IK) ∧ IK.length ≤ dn.length * 4097) (fun _ wr => wr.rangeLeft b (w.heap.size + 1))
  case atStart => exact ⟨[], ks, [], HB1, HR1, HI1, hide ⟨by simp, fun y => by simp⟩, by simp⟩
  case round =>
    obtain ⟨dn, todo, IK, hb, hrg, hmi, hp, hil⟩ := hrel
    have hdl : dn.length + todo.length ≤ 4096 := by have := hp.out.perm.length_eq; simp at this; omega
    go_wp2_with (at_next; refine wp_next' _ rfl (.tmp 23) rfl rfl hrg.out ?_ ?_)
    · intro htd
      have htd' := htd.out
      subst htd'
      have HGr := hide (hp.out.gr HG.out.nd HG.out.out hmi.out.nd)
      have hmi' : MV wr w.heap.size IK (cI (cnt adj ks [])) := by rw [← hp.out.cnt]; exact hmi.out
      have HMI := hide hmi'
      have hikl : IK.length ≤ 4096 * 4097 := by
        have : dn.length * 4097 ≤ 4096 * 4097 := Nat.mul_le_mul_right _ (by omega)
        omega
      have hws := hb.out.size
      have hlti := hmi.out.lt
      clear hmi' hmi hp hrg
      go_wp2_with (at_range; refine wp_range _ rfl (.tmp 50) 33 rfl 3 Try.underlying33 rfl HMI.out ?_)
      intro w5 hrg5 hg5 hs5
      obtain ⟨r2, hr2⟩ : ∃ r2, r2 = wr.heap.size := ⟨_, rfl⟩
      rw [← hr2] at hrg5 hlti hws hs5 ⊢
      have HB5 := hide (hb.out.grown hg5 (by omega) (fun k e => by cases e))
      have HR5 := hide hrg5
      have h5s : r2 < w5.heap.size := by omega
      clear hr2 hrg5 hg5 hb HMI hs5
      go_wp2
      go_loopw [11] (fun s wr => ∃ (todo fr : List Int) (a : Option Addr) (c : Nat), s = .slice a fr.length c ∧ Hid (Below w.heap.size w wr) ∧ Hid (RG wr w.heap.size r2 IK (cI (cnt adj ks [])) todo) ∧ Hid (OL wr w.heap.size a c fr) ∧ Hid (P2 IK todo fr (cnt adj ks [])) ∧ r2 < wr.heap.size) (fun _ wr => wr.rangeLeft w.heap.size r2)
      case atStart => exact ⟨IK, [], none, 0, rfl, HB5, HR5, hide (OL.nil _ _), hide ⟨by simp, fun y => ⟨fun h => by simp at h, fun h => absurd h.1 h.2.1⟩⟩, h5s⟩
      case round =>
        obtain ⟨todo, fr, a, c, rfl, hb, hrg, hol, hp2, hrs⟩ := hrel
        have hfl : fr.length ≤ IK.length := hp2.out.nd.length_le_of_subset (fun y hy => ((hp2.out.mem y).1 hy).1)
        go_wp2_with (at_next; refine wp_next' _ rfl (.tmp 51) rfl rfl hrg.out ?_ ?_)
        · intro htd
          have htd' := htd.out
          subst htd'
          have HK0 := hide (hp2.out.done (adj := adj) (ks := ks))
          have HMI3 := hide hrg.out.mv
          have hws3 := hb.out.size
          have hbi := hrg.out.mv.lt
          have hal3 := World.grownBy_alloc wr (.map #[] 0) none
          have HB3 := hide (hb.out.alloc hws3 (.map #[] 0))
          have HI3 := hide (HMI3.out.kept hal3 (by simp))
          have HP3 := hide (MV.made wr (pI []))
          have HOL3 := hide (hol.out.kept hal3 (fun g _ => by simp))
          clear hrg hp2 htd hal3 hb hol
          go_wp2_with (at_len; refine wp_len _ rfl (.tmp 63) 33 rfl 3 Try.underlying33 rfl HMI3.out ?_)
          obtain ⟨bp, hbp⟩ : ∃ bp, bp = wr.heap.size := ⟨_, rfl⟩
          rw [← hbp] at HP3 hbi ⊢
          clear hbp HMI3
          go_loopg [11] IK.length (fun k s wr => ∃ (P fr : List Int) (a : Option Addr) (c : Nat), s = .slice a fr.length c ∧ Hid (Below w.heap.size w wr) ∧ Hid (MV wr w.heap.size IK (cI (cnt adj ks P))) ∧ Hid (MV wr bp P (pI P)) ∧ Hid (OL wr w.heap.size a c fr) ∧ Hid (Kin adj ks IK P fr (cnt adj ks P)) ∧ Hid (P.length + k = IK.length))
          case atStart => exact ⟨[], fr, a, c, rfl, HB3, HI3, HP3, HOL3, HK0, by simp [Hid]⟩
          case round =>
            obtain ⟨P, fr, a, c, rfl, hb, hmi, hmp, hol, hk, hgk⟩ := hrel
            have hkl := hk.out.len
            rcases List.eq_nil_or_concat fr with rfl | ⟨fr', t, rfl⟩
            · have HQ := hide hmp.out
              go_wp2_with (first | (at_len; refine wp_len _ rfl (.tmp 109) 33 rfl 3 Try.underlying33 rfl hmp.out ?_) | (at_len; refine wp_len _ rfl (.tmp 111) 33 rfl 3 Try.underlying33 rfl hmi.out ?_))
              go_ret2
              exact ⟨bp, _, P, IK, rfl, by simp; omega, hb.out, hmp.out, HGr.out, hk.out⟩
            · simp only [List.concat_eq_append] at hk hol hkl ⊢
              rcases hol.out.2 with ⟨_, h⟩ | ⟨g, rfl⟩
              · simp at h
              have hct : wr.cell? ⟨g, fr'.length, none⟩ = some (.int .i64 t) := by
                obtain ⟨y, ey, hy⟩ := hol.out.rd fr'.length (by simp)
                cases ey
                rw [Addr.add_lit, Nat.zero_add, snoc_get] at hy
                exact hy
              have htI : t ∈ IK := hk.out.sub t (by simp)
              have hwt : W64 t := hmi.out.wf t htI
              have htP := hide hk.out.new
              have hol' := hide hol.out.pop
              have HKP := hide (hk.out.pop HGr.out)
              have hCP : Hid (cnt adj ks P = cntq adj ks (P ++ [t]) t 0) := hide (by funext y; rw [cnt_pop HGr.out htP.out])
              have hfl : fr'.length + 1 ≤ IK.length := by simp at hkl; omega
              have hpl : P.length + 1 ≤ IK.length := by simp at hkl; omega
              obtain ⟨hcap, hcmx⟩ := hol.out.cap
              simp only [List.length_append, List.length_cons, List.length_nil, Nat.zero_add] at hcap
              have hc0 : ¬ c = 0 := by omega
              have hfc : fr'.length ≤ c := by omega
              have hfcI : (fr'.length : Int) ≤ (c : Int) := by omega
              have hd0 : decide ((0 : Int) < (fr'.length : Int) + 1) = true := decide_eq_true (by omega)
              clear hkl hk
              simp only [List.length_append, List.length_cons, List.length_nil, Nat.zero_add]
              go_wp2_with (first | (at_len; refine wp_len _ rfl (.tmp 82) 33 rfl 3 Try.underlying33 rfl hmp.out ?_) | (at_mapUpdate; refine wp_store _ rfl (.tmp 80) (.tmp 81) _ 33 rfl 3 Try.underlying33 rfl hmp.out (by unfold maxLen; omega) t rfl hwt _ rfl ?_))
              intro w8 hm8 hg8
              have HMp := hide (pI_snoc htP.out rfl hm8)
              have hbs := hb.out.size
              have HB8 := hide (hb.out.grown hg8 hbs (fun k e => by cases e; omega))
              have HMi : Hid (MV w8 w.heap.size IK (cI (cntq adj ks (P ++ [t]) t 0))) := by rw [← hCP.out]; exact hide (hmi.out.kept hg8 (by simp; omega))
              have HOL8 := hide (hol'.out.mapped hmp.out hg8)
              have hc8 : w8.cell? ⟨sb, 1, none⟩ = some (.map (some b)) := by rw [HB8.out.cell (by exact hsb)]; exact HC.out
              obtain ⟨F8, na, nc, hmvn, hlkn, hrn⟩ := fnRd HG.out HB8.out t
              have hra := hide hrn
              have hmvn' := hide hmvn
              have hll := HG.out.len t
              clear hm8 hg8 hmvn hrn hct hol hol' hmi hmp hb
              go_wp2_with (at_lookup; refine wp_look _ rfl (.tmp 87) (.tmp 88) 27 rfl 22 Try.underlying27 (.slice none 0 0) (zero22 _) rfl hmvn'.out t rfl hwt _ hlkn ?_)
              go_loopw [11, 91] (fun s jj wr => ∃ (q : Nat) (fr : List Int) (a : Option Addr) (c : Nat), q ≤ (adj t).length ∧ jj = .int .i64 q ∧ s = .slice a fr.length c ∧ Hid (Below w.heap.size w wr) ∧ Hid (MV wr w.heap.size IK (cI (cntq adj ks (P ++ [t]) t q))) ∧ Hid (MV wr bp (P ++ [t]) (pI (P ++ [t]))) ∧ Hid (OL wr w.heap.size a c fr) ∧ Hid (Kin adj ks IK (P ++ [t]) fr (cntq adj ks (P ++ [t]) t q))) (fun _ jj _ => (adj t).length - (intOf jj).toNat)
              case atStart => exact ⟨0, fr', _, c, Nat.zero_le _, rfl, rfl, HB8, HMi, HMp, HOL8, HKP⟩
              case round =>
                obtain ⟨q, fr, a, c, hq, rfl, rfl, hb, hmi, hmp, hol, hk⟩ := hrel
                by_cases hql : q < (adj t).length
                · obtain ⟨y, rfl, hcy0⟩ := hra.out q hql
                  have hcy : wr.cell? (y.add q) = some (.int .i64 (fn (adj t) q)) := by
                    rw [hb.out.cell (World.block_lt_of_cell? _ _ hcy0)]
                    exact hcy0
                  have hwo : W64 (fn (adj t) q) := HG.out.wf _ _ (fn_mem hql)
                  have hoI := hide (HGr.out.dst (fn_mem hql))
                  have hge := hide (get_fn hql)
                  obtain ⟨n, hn⟩ : ∃ n, n = cntq adj ks (P ++ [t]) t (q + 1) (fn (adj t) q) := ⟨_, rfl⟩
                  have hn1 : cntq adj ks (P ++ [t]) t q (fn (adj t) q) = n + 1 := by rw [hn]; exact cntq_pos hge.out
                  have hnb : n ≤ 20000000 := by
                    have := cntq_le HG.out.len hkl0 (P ++ [t]) t (q + 1) (fn (adj t) q)
                    omega
                  have hlk1 : lookV IK (cI (cntq adj ks (P ++ [t]) t q)) (.int .i64 0) (fn (adj t) q) = .int .i64 ((n : Int) + 1) := by
                    unfold lookV; rw [if_pos hoI.out]; unfold cI; rw [hn1]; rfl
                  have hlk2 : lookV IK (cI (cntq adj ks (P ++ [t]) t (q + 1))) (.int .i64 0) (fn (adj t) q) = .int .i64 (n : Int) := by
                    unfold lookV; rw [if_pos hoI.out]; unfold cI; rw [← hn]
                  have HN := hide hn
                  have hkl2 := hk.out.len
                  clear hn hn1
                  go_wp2_with (first | (at_lookup; refine wp_look _ rfl (.tmp 95) (.tmp 96) 33 rfl 3 Try.underlying33 (.int .i64 0) (zero3 _) rfl hmi.out (fn (adj t) q) rfl hwo _ hlk1 ?_) | (at_mapUpdate; refine wp_store _ rfl (.tmp 95) (.tmp 96) _ 33 rfl 3 Try.underlying33 rfl hmi.out (by unfold maxLen; omega) (fn (adj t) q) rfl hwo _ rfl ?_))
                  intro w9 hm9 hg9
                  have hm9' : MV w9 w.heap.size IK (cI (cntq adj ks (P ++ [t]) t (q + 1))) := by
                    have h9 := hm9.cset (c' := cntq adj ks (P ++ [t]) t (q + 1)) (by rw [← HN.out]) (fun y hy => by have := cntq_step (ks := ks) (P' := P ++ [t]) hge.out y; rw [if_neg hy] at this; omega)
                    rw [addK_in hoI.out] at h9
                    exact h9
                  have HM9 := hide hm9'
                  have hbs := hb.out.size
                  have HB9 := hide (hb.out.grown hg9 hbs (fun k e => by cases e; exact Nat.le_refl _))
                  have HP9 := hide (hmp.out.kept hg9 (by simp; omega))
                  have HOL9 := hide (hol.out.mapped hmi.out hg9)
                  have h9s : w.heap.size ≤ w9.heap.size := HB9.out.size
                  clear hm9 hg9 hm9' hmi hmp hol hb
                  by_cases hn0 : n = 0
                  · have hnb0 : ((n : Int) == 0) = true := by simpa using hn0
                    have HK9 := hide (hk.out.push HGr.out hge.out (by rw [← HN.out]; exact hn0))
                    clear hn0
                    go_wp2_with (first | (at_lookup; refine wp_look _ rfl (.tmp 99) (.tmp 100) 33 rfl 3 Try.underlying33 (.int .i64 0) (zero3 _) rfl HM9.out (fn (adj t) q) rfl hwo _ hlk2 ?_) | (at_builtin; refine wpList_append_own _ rfl (.tmp 103) (.tmp 105) 22 rfl w.heap.size 3 i0 (.int .i64 0) 1 8 Try.underlying22 hi0 hz0 hz1 hz2 rfl (by decide) _ _ _ rfl (HOL9.out.1.alloc _) ⟨w9.heap.size, 0, none⟩ 1 1 [.int .i64 (fn (adj t) q)] rfl rfl (cell_one_new _ _ _) (ints_oneCell .i64 [fn (adj t) q]) (by unfold maxLen; omega) (by omega) (by simp; omega) ?_))
                    intro v' wa hoa hga _
                    obtain ⟨g', c', rfl, hola⟩ := HOL9.out.pushed hoa
                    have hal := World.grownBy_alloc w9 (.cells #[.int .i64 (fn (adj t) q)] 3) none
                    have ho9' := HOL9.out.kept hal (fun g _ => by simp)
                    have hm9a := HM9.out.kept hal (by simp)
                    have hp9a := HP9.out.kept hal (by simp)
                    have HMa := hide (hm9a.kept hga (ho9'.row_ne_map hm9a))
                    have HPa := hide (hp9a.kept hga (ho9'.row_ne_map hp9a))
                    have HBa := hide ((HB9.out.alloc h9s (.cells #[.int .i64 (fn (adj t) q)] 3)).grown hga (by simp; omega) (fun k e => (ho9'.ownBlock k e).1))
                    have HOLa := hide hola
                    clear hal ho9' hm9a hp9a hoa hga hola
                    go_wp2
                    go_roundw
                    case rel => exact ⟨q + 1, fr ++ [fn (adj t) q], _, c', by omega, by go_num, rfl, HBa, HMa, HPa, HOLa, HK9⟩
                    case measure => simp [intOf]; omega
                  · have hnb0 : ((n : Int) == 0) = false := by simpa using hn0
                    have HK9 := hide (hk.out.stay hge.out (by rw [← HN.out]; exact hn0))
                    clear hn0
                    go_wp2_with (at_lookup; refine wp_look _ rfl (.tmp 99) (.tmp 100) 33 rfl 3 Try.underlying33 (.int .i64 0) (zero3 _) rfl HM9.out (fn (adj t) q) rfl hwo _ hlk2 ?_)
                    go_roundw
                    case rel => exact ⟨q + 1, fr, _, c, by omega, by go_num, rfl, HB9, HM9, HP9, HOL9, HK9⟩
                    case measure => simp [intOf]; omega
                · obtain rfl : q = (adj t).length := by omega
                  have HMe : Hid (MV wr w.heap.size IK (cI (cnt adj ks (P ++ [t])))) := by
                    have e : cnt adj ks (P ++ [t]) = cntq adj ks (P ++ [t]) t (adj t).length := by funext y; rw [cntq_end]
                    rw [e]; exact hmi
                  have HKe : Hid (Kin adj ks IK (P ++ [t]) fr (cnt adj ks (P ++ [t]))) := by
                    have e : cnt adj ks (P ++ [t]) = cntq adj ks (P ++ [t]) t (adj t).length := by funext y; rw [cntq_end]
                    rw [e]; exact hk
                  clear hmi hk
                  go_wp2
                  go_roundg (gk - 1)
                  case measure => have := hgk.out; omega
                  case rel => exact ⟨P ++ [t], fr, a, c, rfl, hb, HMe, hmp, hol, HKe, by have := hgk.out; simp [Hid]; omega⟩

        · intro x w6 hx hwx hrg6 hlt6 hg6 hs6 v hv hen
          have hv' := hv.out
          have hve : v = .int .i64 (cnt adj ks [] x) := by rw [← hv']; rfl
          clear hv hv'
          subst hve
          have hen' := hen.out
          have hxi := hrg.out.sub x hx
          have HB6 := hide (hb.out.grown hg6 (by omega) (fun k e => by cases e; omega))
          have HR6 := hide hrg6
          have HL6 := hide hlt6
          have HOL6 := hide (hol.out.iterated hrg.out hg6)
          have h6s : r2 < w6.heap.size := by have := hs6.out; omega
          have hXT := hide (And.intro hx hxi)
          clear hen hrg6 hlt6 hg6 hrg hol hb hs6 hx hxi
          by_cases hc0 : cnt adj ks [] x = 0
          · have hcb : (((cnt adj ks [] x : Nat) : Int) == 0) = true := by simpa using hc0
            have HP := hide (hp2.out.yes hXT.out.1 hXT.out.2 hc0)
            clear hc0
            go_wp2_with (at_builtin; refine wpList_append_own _ rfl (.tmp 59) (.tmp 61) 22 rfl w.heap.size 3 i0 (.int .i64 0) 1 8 Try.underlying22 hi0 hz0 hz1 hz2 rfl (by decide) _ _ _ rfl (HOL6.out.1.alloc _) ⟨w6.heap.size, 0, none⟩ 1 1 [.int .i64 x] rfl rfl (cell_one_new _ _ _) (ints_oneCell .i64 [x]) (by unfold maxLen; omega) (by omega) (by simp; omega) ?_)
            intro v' w7 ho7 hg7 _
            obtain ⟨g', c', rfl, hol7⟩ := HOL6.out.pushed ho7
            have hal := World.grownBy_alloc w6 (.cells #[.int .i64 x] 3) none
            have hr7 := HR6.out.kept hal (by simp) (by simp)
            have ho7' := HOL6.out.kept hal (fun g _ => by simp)
            have HR7 := hide (hr7.kept hg7 (ho7'.row_ne_map hr7.mv) (ho7'.row_ne_iter hr7))
            have HL7 : Hid (w7.rangeLeft w.heap.size r2 < wr.rangeLeft w.heap.size r2) := hide (by
              rw [hr7.same hg7 (ho7'.row_ne_map hr7.mv) (ho7'.row_ne_iter hr7), HR6.out.same hal (by simp) (by simp)]
              exact HL6.out)
            have h7s : r2 < w7.heap.size := by have := hg7.size; simp at this; omega
            have HB7 := hide ((HB6.out.alloc (by omega) (.cells #[.int .i64 x] 3)).grown hg7 (by simp; omega) (fun k e => (ho7'.ownBlock k e).1))
            have HOL7 := hide hol7
            clear hr7 ho7' ho7 hg7 hol7 hal
            go_wp2
            go_roundw
            case rel => exact ⟨strike todo x, fr ++ [x], _, c', rfl, HB7, HR7, HOL7, HP, h7s⟩
            case measure => exact HL7.out
          · have hcb : (((cnt adj ks [] x : Nat) : Int) == 0) = false := by simpa using hc0
            have HP := hide (hp2.out.no hc0)
            clear hc0
            go_wp2
            go_roundw
            case rel => exact ⟨strike todo x, fr, a, c, rfl, HB6, HR6, HOL6, HP, h6s⟩
            case measure => exact HL6.out

    · intro x w2 hx hwx hrg2 hlt2 hg2 hs2 v hv hen
      obtain ⟨ra, rc, hve, hrd⟩ := HF.out x (hrg.out.sub x hx)
      have hv' := hv.out
      rw [hve] at hv'
      subst hv'
      have hen' := hen.out
      clear hen hv
      have hra := hide hrd
      have hdl2 : dn.length < 4096 := by have : 0 < todo.length := List.length_pos_of_mem hx; omega
      have hbs := hb.out.size
      have hrlt := hrg.out.lt
      have hll := HG.out.len x
      have HB2 := hide (hb.out.grown hg2 (by omega) (fun k e => by cases e; omega))
      have hmi2 := hide (hmi.out.kept hg2 (by simp))
      have HP2 : Hid (((dn ++ [x]) ++ strike todo x).Perm ks) := hide (perm_next hp.out.perm hrg.out.nd hx)
      have HRG2 := hide hrg2
      obtain ⟨N0, hN0⟩ : ∃ N0, N0 = wr.rangeLeft b (w.heap.size + 1) := ⟨_, rfl⟩
      rw [← hN0] at hlt2
      have HN0 := hide hN0
      have HLT := hide hlt2
      have hw2s : w.heap.size + 2 ≤ w2.heap.size := by have := hs2.out; omega
      clear hN0
      have HM0 : Hid (∀ y, y ∈ addK IK x ↔ (((y ∈ dn ∨ ∃ x ∈ dn, y ∈ adj x) ∨ y = x) ∨ y ∈ (adj x).take 0)) := hide (fun y => by rw [mem_addK, hp.out.mem y]; simp)
      have hd4 : dn.length * 4097 ≤ 4095 * 4097 := Nat.mul_le_mul_right _ (by omega)
      have hout := hide hp.out.out
      clear hrd hrg2 hlt2 hg2 hve hrg hmi hb
      by_cases hxi : x ∈ IK
      · have hbb : decide (x ∈ IK) = true := by simpa using hxi
        have HM1 : Hid (MV w2 w.heap.size (addK IK x) (cI (cq adj dn x 0))) := by rw [cq_zero, addK_in hxi]; exact hmi2
        have hlk := look_cI hout.out x
        have hal : (addK IK x).length ≤ dn.length * 4097 + 1 := by have := addK_length IK x; omega
        clear hxi
        go_wp2_with (at_lookup; refine wp_look_ok _ rfl (.tmp 30) (.tmp 31) 33 rfl 3 Try.underlying33 (.int .i64 0) (zero3 _) rfl hmi2.out x rfl hwx _ hlk true hbb ?_)
        go_loopw [41] (fun jj wq => ∃ (q : Nat) (IQ : List Int), q ≤ (adj x).length ∧ jj = .int .i64 q ∧ Hid (Below w.heap.size w wq) ∧ Hid (RG wq b (w.heap.size + 1) ks F (strike todo x)) ∧ Hid (wq.rangeLeft b (w.heap.size + 1) < N0) ∧
            Hid (MV wq w.heap.size IQ (cI (cq adj dn x q))) ∧ Hid (∀ y, y ∈ IQ ↔ (((y ∈ dn ∨ ∃ x ∈ dn, y ∈ adj x) ∨ y = x) ∨ y ∈ (adj x).take q)) ∧ IQ.length ≤ dn.length * 4097 + 1 + q) (fun jj _ => (adj x).length - (intOf jj).toNat)
        case atStart => exact ⟨0, addK IK x, Nat.zero_le _, rfl, HB2, HRG2, HLT, HM1, HM0, by omega⟩
        case round =>
          obtain ⟨q, IQ, hq, rfl, hbq, hrq, hltq, hmq, hmemq, hiq⟩ := hrel
          by_cases hql : q < (adj x).length
          · obtain ⟨y, rfl, hcy0⟩ := hra.out q hql
            have hcy : wr.cell? (y.add q) = some (.int .i64 (fn (adj x) q)) := by
              rw [hbq.out.cell (World.block_lt_of_cell? _ _ hcy0)]
              exact hcy0
            have hwt : W64 (fn (adj x) q) := HG.out.wf _ _ (fn_mem hql)
            have hlkt := look_cI (cq_out hmemq.out) (fn (adj x) q)
            have hcb : cq adj dn x q (fn (adj x) q) ≤ 4096 * 4096 + 4096 := by
              unfold cq
              have h1 := dg_le HG.out.len (fn (adj x) q) dn
              have h2 := List.count_le_length (a := fn (adj x) q) (l := (adj x).take q)
              have h3 : dn.length * 4096 ≤ 4096 * 4096 := Nat.mul_le_mul_right _ (by omega)
              simp at h2
              omega
            go_wp2_with (first | (at_lookup; refine wp_look _ rfl (.tmp 45) (.tmp 46) 33 rfl 3 Try.underlying33 (.int .i64 0) (zero3 _) rfl hmq.out (fn (adj x) q) rfl hwt _ hlkt ?_) | (at_mapUpdate; refine wp_store _ rfl (.tmp 45) (.tmp 46) _ 33 rfl 3 Try.underlying33 rfl hmq.out (by unfold maxLen; omega) (fn (adj x) q) rfl hwt _ rfl ?_))
            intro w4 hm4 hg4
            have HM4 : Hid (MV w4 w.heap.size (addK IQ (fn (adj x) q)) (cI (cq adj dn x (q + 1)))) := hide (hm4.cset (by rw [cq_succ hql]; simp) (fun y hy => by rw [cq_succ hql, if_neg hy, Nat.add_zero]))
            have hbqs := hbq.out.size
            have HB4 := hide (hbq.out.grown hg4 hbqs (fun k e => by cases e; exact Nat.le_refl _))
            have HRG4 := hide (hrq.out.kept hg4 (by simp; omega) (by simp))
            have HLT4 : Hid (w4.rangeLeft b (w.heap.size + 1) < N0) := by rw [hrq.out.same hg4 (by simp; omega) (by simp)]; exact hltq
            have HMM4 := hide (mem_addK_step hql hmemq.out)
            have hal4 := addK_length IQ (fn (adj x) q)
            clear hm4 hg4
            go_wp2
            go_roundw
            case rel => exact ⟨q + 1, _, by omega, by go_num, HB4, HRG4, HLT4, HM4, HMM4, by omega⟩
            case measure => simp [intOf]; omega
          · obtain rfl : q = (adj x).length := by omega
            have HM5 : Hid (MV wr w.heap.size IQ (cI (dg adj (dn ++ [x])))) := by rw [← cq_end]; exact hmq
            have HP5 := hide (P1.step HP2.out hmemq.out)
            go_wp2
            go_roundw
            case rel => exact ⟨dn ++ [x], _, IQ, hbq, hrq, HM5, HP5, by simp; omega⟩
            case measure => rw [← HN0.out]; exact hltq.out

      · have hbb : decide (x ∈ IK) = false := by simpa using hxi
        have hlk := look_cI hout.out x
        have hx0 : Hid (dg adj dn x = 0) := hide (hout.out x hxi)
        clear hxi
        go_wp2_with (first | (at_lookup; refine wp_look_ok _ rfl (.tmp 30) (.tmp 31) 33 rfl 3 Try.underlying33 (.int .i64 0) (zero3 _) rfl hmi2.out x rfl hwx _ hlk false hbb ?_) | (at_mapUpdate; refine wp_store _ rfl (.tmp 37) (.tmp 38) _ 33 rfl 3 Try.underlying33 rfl hmi2.out (by unfold maxLen; omega) x rfl hwx (.int .i64 0) rfl ?_))
        intro w3 hm3 hg3
        have HM1 : Hid (MV w3 w.heap.size (addK IK x) (cI (cq adj dn x 0))) := by
          rw [cq_zero]
          exact hide (hm3.cset (by rw [hx0.out]; rfl) (fun y _ => rfl))
        have hs3 : w2.heap.size ≤ w3.heap.size := hg3.size
        have HB3 := hide (HB2.out.grown hg3 (by omega) (fun k e => by cases e; exact Nat.le_refl _))
        have HRG3 := hide (HRG2.out.kept hg3 (by simp; omega) (by simp))
        have HLT3 : Hid (w3.rangeLeft b (w.heap.size + 1) < N0) := by rw [HRG2.out.same hg3 (by simp; omega) (by simp)]; exact HLT
        have hal : (addK IK x).length ≤ dn.length * 4097 + 1 := by have := addK_length IK x; omega
        clear hm3 hg3
        go_wp2
        go_loopw [41] (fun jj wq => ∃ (q : Nat) (IQ : List Int), q ≤ (adj x).length ∧ jj = .int .i64 q ∧ Hid (Below w.heap.size w wq) ∧ Hid (RG wq b (w.heap.size + 1) ks F (strike todo x)) ∧ Hid (wq.rangeLeft b (w.heap.size + 1) < N0) ∧
            Hid (MV wq w.heap.size IQ (cI (cq adj dn x q))) ∧ Hid (∀ y, y ∈ IQ ↔ (((y ∈ dn ∨ ∃ x ∈ dn, y ∈ adj x) ∨ y = x) ∨ y ∈ (adj x).take q)) ∧ IQ.length ≤ dn.length * 4097 + 1 + q) (fun jj _ => (adj x).length - (intOf jj).toNat)
        case atStart => exact ⟨0, addK IK x, Nat.zero_le _, rfl, HB3, HRG3, HLT3, HM1, HM0, by omega⟩
        case round =>
          obtain ⟨q, IQ, hq, rfl, hbq, hrq, hltq, hmq, hmemq, hiq⟩ := hrel
          by_cases hql : q < (adj x).length
          · obtain ⟨y, rfl, hcy0⟩ := hra.out q hql
            have hcy : wr.cell? (y.add q) = some (.int .i64 (fn (adj x) q)) := by
              rw [hbq.out.cell (World.block_lt_of_cell? _ _ hcy0)]
              exact hcy0
            have hwt : W64 (fn (adj x) q) := HG.out.wf _ _ (fn_mem hql)
            have hlkt := look_cI (cq_out hmemq.out) (fn (adj x) q)
            have hcb : cq adj dn x q (fn (adj x) q) ≤ 4096 * 4096 + 4096 := by
              unfold cq
              have h1 := dg_le HG.out.len (fn (adj x) q) dn
              have h2 := List.count_le_length (a := fn (adj x) q) (l := (adj x).take q)
              have h3 : dn.length * 4096 ≤ 4096 * 4096 := Nat.mul_le_mul_right _ (by omega)
              simp at h2
              omega
            go_wp2_with (first | (at_lookup; refine wp_look _ rfl (.tmp 45) (.tmp 46) 33 rfl 3 Try.underlying33 (.int .i64 0) (zero3 _) rfl hmq.out (fn (adj x) q) rfl hwt _ hlkt ?_) | (at_mapUpdate; refine wp_store _ rfl (.tmp 45) (.tmp 46) _ 33 rfl 3 Try.underlying33 rfl hmq.out (by unfold maxLen; omega) (fn (adj x) q) rfl hwt _ rfl ?_))
            intro w4 hm4 hg4
            have HM4 : Hid (MV w4 w.heap.size (addK IQ (fn (adj x) q)) (cI (cq adj dn x (q + 1)))) := hide (hm4.cset (by rw [cq_succ hql]; simp) (fun y hy => by rw [cq_succ hql, if_neg hy, Nat.add_zero]))
            have hbqs := hbq.out.size
            have HB4 := hide (hbq.out.grown hg4 hbqs (fun k e => by cases e; exact Nat.le_refl _))
            have HRG4 := hide (hrq.out.kept hg4 (by simp; omega) (by simp))
            have HLT4 : Hid (w4.rangeLeft b (w.heap.size + 1) < N0) := by rw [hrq.out.same hg4 (by simp; omega) (by simp)]; exact hltq
            have HMM4 := hide (mem_addK_step hql hmemq.out)
            have hal4 := addK_length IQ (fn (adj x) q)
            clear hm4 hg4
            go_wp2
            go_roundw
            case rel => exact ⟨q + 1, _, by omega, by go_num, HB4, HRG4, HLT4, HM4, HMM4, by omega⟩
            case measure => simp [intOf]; omega
          · obtain rfl : q = (adj x).length := by omega
            have HM5 : Hid (MV wr w.heap.size IQ (cI (dg adj (dn ++ [x])))) := by rw [← cq_end]; exact hmq
            have HP5 := hide (P1.step HP2.out hmemq.out)
            go_wp2
            go_roundw
            case rel => exact ⟨dn ++ [x], _, IQ, hbq, hrq, HM5, HP5, by simp; omega⟩
            case measure => rw [← HN0.out]; exact hltq.out

end Go.Proofs.Qxb6604083a.Base
