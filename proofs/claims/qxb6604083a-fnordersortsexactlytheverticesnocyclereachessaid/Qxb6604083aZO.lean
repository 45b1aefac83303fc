import Derived.Test.Qxb6604083aOrder
/-! 'ZZOrder' WALKED -/
set_option linter.unusedVariables false
namespace Go.Proofs.Qxb6604083a.Base
open Go.ChangeShapes Go.WideShapes Go.ChangeAt Go.RowKit
open Go.Proofs.Qxb6604083a.G

set_option maxRecDepth 100000 in
set_option maxHeartbeats 4000000 in
theorem zzorder_any (b : Nat) (ks : List Int) (adj : Int → List Int) (w : World) (hg : GR w b ks adj) (hkl0 : ks.length ≤ 4096) :
    Calls Try.prog 13 #[.map (some b)] w fun e w' => OrdPost w b ks adj e w' := by
  have HG := hide hg
  have hbl := hg.lt
  clear hg
  go_enter Try.func13, Try.ntmps13
  go_wp2_with fail
  have hbw := (Below.refl w.heap.size w).alloc (Nat.le_refl _) (.cells #[.int .i64 0, .map (some b), .map none, .map none] 47 (0, 0))
  refine (order_any w.heap.size b ks adj _ ?_ (HG.out.below hbw (Nat.le_refl _)) hkl0).mono ?_
  · have hn : (w.alloc (.cells #[.int .i64 0, .map (some b), .map none, .map none] 47 (0, 0))).heap[w.heap.size]? = some (.cells #[.int .i64 0, .map (some b), .map none, .map none] 47 (0, 0)) := by unfold World.alloc; simp only [Array.getElem?_push_size]
    unfold World.cell?
    rw [hn]; rfl
  rintro e w1 ⟨bp, bb, P, IK, rfl, h1, h2, h3, h4, h5⟩
  have HP : Hid (OrdPost w b ks adj (.returned (.tuple #[.map (some bp), .bool bb])) w1) := hide ⟨bp, bb, P, IK, rfl, h1, hbw.trans (h2.mono hbw.size), h3, h4, h5⟩
  clear h1 h2 h3 h4 h5
  go_wp2
  go_ret2
  exact HP.out
end Go.Proofs.Qxb6604083a.Base
