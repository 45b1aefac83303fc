/-
  No cell of these rows narrows 'for every input' (looked for: loops, veiled, ifaces, maps, wideKeys, modest, calm, conditions, laid).
  DERIVED. THE GIVEN ROWS OF THIS SEAT. 3 by the template 'for every input the law returns true; each argument reads behind the call as it read before'; 0 by the template 'total and deterministic' (their statements: Qxb6604083aTotals.lean).
  GIVEN WITH THE SEED: the statements are not yours to turn. If you find one false, say at which input.
  Laid BY PROGRAM, IN A SANDBOX (cutbox-rows.mjs): the forced cells as the released guide's own fill.sh prints them over the translation f8015de7655752b5… (all of the seat's roots in one cut). By AI agents, Wed Nov 11 2026. No macro, syntax, notation, axiom, sorry.
-/
import Derived.Test.Qxb6604083aChecked
import GoSem.Claim
import GoSem.ClaimJoined
import GoSem.ClaimMapViews
import Derived.JoinedTies
import Derived.KernelRfl
namespace Go.Proofs.Qxb6604083a
/- THE CELL 'sum', in the pinned program and in every row, IS THE sha256 OF THE DUMP (.gsa) THAT Qxb6604083aProg.lean LOADS. Nothing in Lean hashes anything: it is a label: what it is worth is what the hold of that sum in a sandbox is worth. -/
noncomputable def Try.pinned : Pinned := { name := "qxb6604083a", sum := "f8015de7655752b54ac65613f276c1a5892c5807060592a4abab8960588543f4", checked := Try.checked }
namespace Rows
def none {H : Type} : Left H := { results := [], args := [] }

/-- 'zzlaws_internal_history_b1.FnOrderSortsExactlyTheVerticesNoCycleReaches': WHATEVER THE INPUT: true; the input reads as it did. -/
def fnOrderSortsExactlyTheVerticesNoCycleReachesSpec : ChangeSpec := { name := "fnOrderSortsExactlyTheVerticesNoCycleReaches", fn := fun _ => fun
  | [d1, d2] => { results := [.lit (.bool true)], args := [d1, d2] }
  | _ => none }
def fnOrderSortsExactlyTheVerticesNoCycleReachesRow : OpenClaim := { program := "qxb6604083a", sum := "f8015de7655752b54ac65613f276c1a5892c5807060592a4abab8960588543f4", func := "example.com/serigraph/serigraph/zzlaws_internal_history_b1.FnOrderSortsExactlyTheVerticesNoCycleReaches", spec := "fnOrderSortsExactlyTheVerticesNoCycleReaches", plainKeys := false, apart := false }
def FnOrderSortsExactlyTheVerticesNoCycleReachesSaid : Prop := fnOrderSortsExactlyTheVerticesNoCycleReachesRow.holds Try.pinned (OpenSpec.ofChange fnOrderSortsExactlyTheVerticesNoCycleReachesSpec)

/-- ITS FALSE NEIGHBOUR: 'it returns false'. Refute it at one input. -/
def fnOrderSortsExactlyTheVerticesNoCycleReachesWrong : ChangeSpec := { name := "fnOrderSortsExactlyTheVerticesNoCycleReaches", fn := fun _ => fun
  | [d1, d2] => { results := [.lit (.bool false)], args := [d1, d2] }
  | _ => none }
def FnOrderSortsExactlyTheVerticesNoCycleReachesWrongFalsely : Prop := fnOrderSortsExactlyTheVerticesNoCycleReachesRow.holds Try.pinned (OpenSpec.ofChange fnOrderSortsExactlyTheVerticesNoCycleReachesWrong)

/-- 'zzlaws_internal_history_b1.FnUnionIsTheCanonicalSetUnion': WHATEVER THE INPUT: true; the input reads as it did. -/
def fnUnionIsTheCanonicalSetUnionSpec : ChangeSpec := { name := "fnUnionIsTheCanonicalSetUnion", fn := fun _ => fun
  | [d1, d2, d3, d4] => { results := [.lit (.bool true)], args := [d1, d2, d3, d4] }
  | _ => none }
def fnUnionIsTheCanonicalSetUnionRow : OpenClaim := { program := "qxb6604083a", sum := "f8015de7655752b54ac65613f276c1a5892c5807060592a4abab8960588543f4", func := "example.com/serigraph/serigraph/zzlaws_internal_history_b1.FnUnionIsTheCanonicalSetUnion", spec := "fnUnionIsTheCanonicalSetUnion", plainKeys := false, apart := false }
def FnUnionIsTheCanonicalSetUnionSaid : Prop := fnUnionIsTheCanonicalSetUnionRow.holds Try.pinned (OpenSpec.ofChange fnUnionIsTheCanonicalSetUnionSpec)

/-- ITS FALSE NEIGHBOUR: 'it returns false'. Refute it at one input. -/
def fnUnionIsTheCanonicalSetUnionWrong : ChangeSpec := { name := "fnUnionIsTheCanonicalSetUnion", fn := fun _ => fun
  | [d1, d2, d3, d4] => { results := [.lit (.bool false)], args := [d1, d2, d3, d4] }
  | _ => none }
def FnUnionIsTheCanonicalSetUnionWrongFalsely : Prop := fnUnionIsTheCanonicalSetUnionRow.holds Try.pinned (OpenSpec.ofChange fnUnionIsTheCanonicalSetUnionWrong)

/-- 'zzlaws_internal_history_b1.FnUnionCommutesAssociatesAndIsIdempotent': WHATEVER THE INPUT: true; the input reads as it did. -/
def fnUnionCommutesAssociatesAndIsIdempotentSpec : ChangeSpec := { name := "fnUnionCommutesAssociatesAndIsIdempotent", fn := fun _ => fun
  | [d1, d2, d3, d4, d5, d6] => { results := [.lit (.bool true)], args := [d1, d2, d3, d4, d5, d6] }
  | _ => none }
def fnUnionCommutesAssociatesAndIsIdempotentRow : OpenClaim := { program := "qxb6604083a", sum := "f8015de7655752b54ac65613f276c1a5892c5807060592a4abab8960588543f4", func := "example.com/serigraph/serigraph/zzlaws_internal_history_b1.FnUnionCommutesAssociatesAndIsIdempotent", spec := "fnUnionCommutesAssociatesAndIsIdempotent", plainKeys := false, apart := false }
def FnUnionCommutesAssociatesAndIsIdempotentSaid : Prop := fnUnionCommutesAssociatesAndIsIdempotentRow.holds Try.pinned (OpenSpec.ofChange fnUnionCommutesAssociatesAndIsIdempotentSpec)

/-- ITS FALSE NEIGHBOUR: 'it returns false'. Refute it at one input. -/
def fnUnionCommutesAssociatesAndIsIdempotentWrong : ChangeSpec := { name := "fnUnionCommutesAssociatesAndIsIdempotent", fn := fun _ => fun
  | [d1, d2, d3, d4, d5, d6] => { results := [.lit (.bool false)], args := [d1, d2, d3, d4, d5, d6] }
  | _ => none }
def FnUnionCommutesAssociatesAndIsIdempotentWrongFalsely : Prop := fnUnionCommutesAssociatesAndIsIdempotentRow.holds Try.pinned (OpenSpec.ofChange fnUnionCommutesAssociatesAndIsIdempotentWrong)

end Rows
end Go.Proofs.Qxb6604083a
