/-
  No cell of these rows narrows 'for every input' (looked for: loops, veiled, ifaces, maps, wideKeys, modest, calm, conditions, laid).
  DERIVED. THE GIVEN ROWS OF THIS SEAT. 4 by the template 'for every input the law returns true; each argument reads behind the call as it read before'; 0 by the template 'total and deterministic' (their statements: Qxb6603946aTotals.lean).
  GIVEN WITH THE SEED: the statements are not yours to turn. If you find one false, say at which input.
  Laid BY PROGRAM, IN A SANDBOX (cutbox-rows.mjs): the forced cells as the released guide's own fill.sh prints them over the translation 4c338e399ec42037… (all of the seat's roots in one cut). By AI agents, Wed Nov 11 2026. No macro, syntax, notation, axiom, sorry.
-/
import Derived.Test.Qxb6603946aChecked
import GoSem.Claim
import GoSem.ClaimJoined
import GoSem.ClaimMapViews
import Derived.JoinedTies
import Derived.KernelRfl
namespace Go.Proofs.Qxb6603946a
/- THE CELL 'sum', in the pinned program and in every row, IS THE sha256 OF THE DUMP (.gsa) THAT Qxb6603946aProg.lean LOADS. Nothing in Lean hashes anything: it is a label: what it is worth is what the hold of that sum in a sandbox is worth. -/
noncomputable def Try.pinned : Pinned := { name := "qxb6603946a", sum := "4c338e399ec42037e9d847ea3e364f604893ab574a0c0c07780439318ef94ef4", checked := Try.checked }
namespace Rows
def none {H : Type} : Left H := { results := [], args := [] }

/-- 'zzlaws_root_b1.FnCompareMatchesLexicographicOrder': WHATEVER THE INPUT: true; the input reads as it did. -/
def fnCompareMatchesLexicographicOrderSpec : ChangeSpec := { name := "fnCompareMatchesLexicographicOrder", fn := fun _ => fun
  | [d1, d2, d3, d4] => { results := [.lit (.bool true)], args := [d1, d2, d3, d4] }
  | _ => none }
def fnCompareMatchesLexicographicOrderRow : OpenClaim := { program := "qxb6603946a", sum := "4c338e399ec42037e9d847ea3e364f604893ab574a0c0c07780439318ef94ef4", func := "example.com/signet-clock/signet-clock/zzlaws_root_b1.FnCompareMatchesLexicographicOrder", spec := "fnCompareMatchesLexicographicOrder", apart := false }
def FnCompareMatchesLexicographicOrderSaid : Prop := fnCompareMatchesLexicographicOrderRow.holds Try.pinned (OpenSpec.ofChange fnCompareMatchesLexicographicOrderSpec)

/-- ITS FALSE NEIGHBOUR: 'it returns false'. Refute it at one input. -/
def fnCompareMatchesLexicographicOrderWrong : ChangeSpec := { name := "fnCompareMatchesLexicographicOrder", fn := fun _ => fun
  | [d1, d2, d3, d4] => { results := [.lit (.bool false)], args := [d1, d2, d3, d4] }
  | _ => none }
def FnCompareMatchesLexicographicOrderWrongFalsely : Prop := fnCompareMatchesLexicographicOrderRow.holds Try.pinned (OpenSpec.ofChange fnCompareMatchesLexicographicOrderWrong)

/-- 'zzlaws_root_b1.FnCompareAntisymmetricEqualIffSame': WHATEVER THE INPUT: true; the input reads as it did. -/
def fnCompareAntisymmetricEqualIffSameSpec : ChangeSpec := { name := "fnCompareAntisymmetricEqualIffSame", fn := fun _ => fun
  | [d1, d2, d3, d4] => { results := [.lit (.bool true)], args := [d1, d2, d3, d4] }
  | _ => none }
def fnCompareAntisymmetricEqualIffSameRow : OpenClaim := { program := "qxb6603946a", sum := "4c338e399ec42037e9d847ea3e364f604893ab574a0c0c07780439318ef94ef4", func := "example.com/signet-clock/signet-clock/zzlaws_root_b1.FnCompareAntisymmetricEqualIffSame", spec := "fnCompareAntisymmetricEqualIffSame", apart := false }
def FnCompareAntisymmetricEqualIffSameSaid : Prop := fnCompareAntisymmetricEqualIffSameRow.holds Try.pinned (OpenSpec.ofChange fnCompareAntisymmetricEqualIffSameSpec)

/-- ITS FALSE NEIGHBOUR: 'it returns false'. Refute it at one input. -/
def fnCompareAntisymmetricEqualIffSameWrong : ChangeSpec := { name := "fnCompareAntisymmetricEqualIffSame", fn := fun _ => fun
  | [d1, d2, d3, d4] => { results := [.lit (.bool false)], args := [d1, d2, d3, d4] }
  | _ => none }
def FnCompareAntisymmetricEqualIffSameWrongFalsely : Prop := fnCompareAntisymmetricEqualIffSameRow.holds Try.pinned (OpenSpec.ofChange fnCompareAntisymmetricEqualIffSameWrong)

/-- 'zzlaws_root_b1.FnCompareTransitiveZeroLeast': WHATEVER THE INPUT: true; the input reads as it did. -/
def fnCompareTransitiveZeroLeastSpec : ChangeSpec := { name := "fnCompareTransitiveZeroLeast", fn := fun _ => fun
  | [d1, d2, d3, d4, d5, d6] => { results := [.lit (.bool true)], args := [d1, d2, d3, d4, d5, d6] }
  | _ => none }
def fnCompareTransitiveZeroLeastRow : OpenClaim := { program := "qxb6603946a", sum := "4c338e399ec42037e9d847ea3e364f604893ab574a0c0c07780439318ef94ef4", func := "example.com/signet-clock/signet-clock/zzlaws_root_b1.FnCompareTransitiveZeroLeast", spec := "fnCompareTransitiveZeroLeast", apart := false }
def FnCompareTransitiveZeroLeastSaid : Prop := fnCompareTransitiveZeroLeastRow.holds Try.pinned (OpenSpec.ofChange fnCompareTransitiveZeroLeastSpec)

/-- ITS FALSE NEIGHBOUR: 'it returns false'. Refute it at one input. -/
def fnCompareTransitiveZeroLeastWrong : ChangeSpec := { name := "fnCompareTransitiveZeroLeast", fn := fun _ => fun
  | [d1, d2, d3, d4, d5, d6] => { results := [.lit (.bool false)], args := [d1, d2, d3, d4, d5, d6] }
  | _ => none }
def FnCompareTransitiveZeroLeastWrongFalsely : Prop := fnCompareTransitiveZeroLeastRow.holds Try.pinned (OpenSpec.ofChange fnCompareTransitiveZeroLeastWrong)

/-- 'zzlaws_root_b1.FnAppendElementReadsBack': WHATEVER THE INPUT: true; the input reads as it did. -/
def fnAppendElementReadsBackSpec : ChangeSpec := { name := "fnAppendElementReadsBack", fn := fun _ => fun
  | [d1, d2, d3, d4, d5] => { results := [.lit (.bool true)], args := [d1, d2, d3, d4, d5] }
  | _ => none }
def fnAppendElementReadsBackRow : OpenClaim := { program := "qxb6603946a", sum := "4c338e399ec42037e9d847ea3e364f604893ab574a0c0c07780439318ef94ef4", func := "example.com/signet-clock/signet-clock/zzlaws_root_b1.FnAppendElementReadsBack", spec := "fnAppendElementReadsBack", apart := false }
def FnAppendElementReadsBackSaid : Prop := fnAppendElementReadsBackRow.holds Try.pinned (OpenSpec.ofChange fnAppendElementReadsBackSpec)

/-- ITS FALSE NEIGHBOUR: 'it returns false'. Refute it at one input. -/
def fnAppendElementReadsBackWrong : ChangeSpec := { name := "fnAppendElementReadsBack", fn := fun _ => fun
  | [d1, d2, d3, d4, d5] => { results := [.lit (.bool false)], args := [d1, d2, d3, d4, d5] }
  | _ => none }
def FnAppendElementReadsBackWrongFalsely : Prop := fnAppendElementReadsBackRow.holds Try.pinned (OpenSpec.ofChange fnAppendElementReadsBackWrong)

end Rows
end Go.Proofs.Qxb6603946a
