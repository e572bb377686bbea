/-
  No cell of these rows narrows 'for every input' (looked for: loops, veiled, ifaces, maps, wideKeys, modest, calm, conditions, laid).
  DERIVED. THE GIVEN ROWS OF THIS SEAT. 4 by the template 'for every input the law returns true; each argument reads behind the call as it read before'; 0 by the template 'total and deterministic' (their statements: Qxb6003748aTotals.lean).
  GIVEN WITH THE SEED: the statements are not yours to turn. If you find one false, say at which input.
  Laid BY PROGRAM, IN A SANDBOX (cutbox-rows.mjs): the forced cells as the released guide's own fill.sh prints them over the translation 52cff5cc88d8b44b… (all of the seat's roots in one cut). By AI agents, Wed Nov 11 2026. No macro, syntax, notation, axiom, sorry.
-/
import Derived.Test.Qxb6003748aChecked
import GoSem.Claim
import GoSem.ClaimJoined
import GoSem.ClaimMapViews
import Derived.JoinedTies
import Derived.KernelRfl
namespace Go.Proofs.Qxb6003748a
/- THE CELL 'sum', in the pinned program and in every row, IS THE sha256 OF THE DUMP (.gsa) THAT Qxb6003748aProg.lean LOADS. Nothing in Lean hashes anything: it is a label: what it is worth is what the hold of that sum in a sandbox is worth. -/
noncomputable def Try.pinned : Pinned := { name := "qxb6003748a", sum := "52cff5cc88d8b44b5f95c342c98953b576b34f354a777d78eb6e1eb6cce53763", checked := Try.checked }
namespace Rows
def none {H : Type} : Left H := { results := [], args := [] }

/-- 'zzlaws_internal_bigconv_g1.FnMulModAgreesWithShiftAdd': WHATEVER THE INPUT: true; the input reads as it did. -/
def fnMulModAgreesWithShiftAddSpec : ChangeSpec := { name := "fnMulModAgreesWithShiftAdd", fn := fun _ => fun
  | [d1, d2] => { results := [.lit (.bool true)], args := [d1, d2] }
  | _ => none }
def fnMulModAgreesWithShiftAddRow : OpenClaim := { program := "qxb6003748a", sum := "52cff5cc88d8b44b5f95c342c98953b576b34f354a777d78eb6e1eb6cce53763", func := "example.com/slash-dash/slash-dash/zzlaws_internal_bigconv_g1.FnMulModAgreesWithShiftAdd", spec := "fnMulModAgreesWithShiftAdd", inPlace := ["math/bits.Sub64", "math/bits.Add64"], apart := false }
def FnMulModAgreesWithShiftAddSaid : Prop := fnMulModAgreesWithShiftAddRow.holds Try.pinned (OpenSpec.ofChange fnMulModAgreesWithShiftAddSpec)

/-- ITS FALSE NEIGHBOUR: 'it returns false'. Refute it at one input. -/
def fnMulModAgreesWithShiftAddWrong : ChangeSpec := { name := "fnMulModAgreesWithShiftAdd", fn := fun _ => fun
  | [d1, d2] => { results := [.lit (.bool false)], args := [d1, d2] }
  | _ => none }
def FnMulModAgreesWithShiftAddWrongFalsely : Prop := fnMulModAgreesWithShiftAddRow.holds Try.pinned (OpenSpec.ofChange fnMulModAgreesWithShiftAddWrong)

/-- 'zzlaws_internal_bigconv_g1.FnPowModLaws': WHATEVER THE INPUT: true; the input reads as it did. -/
def fnPowModLawsSpec : ChangeSpec := { name := "fnPowModLaws", fn := fun _ => fun
  | [d1, d2, d3] => { results := [.lit (.bool true)], args := [d1, d2, d3] }
  | _ => none }
def fnPowModLawsRow : OpenClaim := { program := "qxb6003748a", sum := "52cff5cc88d8b44b5f95c342c98953b576b34f354a777d78eb6e1eb6cce53763", func := "example.com/slash-dash/slash-dash/zzlaws_internal_bigconv_g1.FnPowModLaws", spec := "fnPowModLaws", inPlace := ["math/bits.Sub64", "math/bits.Add64"], apart := false }
def FnPowModLawsSaid : Prop := fnPowModLawsRow.holds Try.pinned (OpenSpec.ofChange fnPowModLawsSpec)

/-- ITS FALSE NEIGHBOUR: 'it returns false'. Refute it at one input. -/
def fnPowModLawsWrong : ChangeSpec := { name := "fnPowModLaws", fn := fun _ => fun
  | [d1, d2, d3] => { results := [.lit (.bool false)], args := [d1, d2, d3] }
  | _ => none }
def FnPowModLawsWrongFalsely : Prop := fnPowModLawsRow.holds Try.pinned (OpenSpec.ofChange fnPowModLawsWrong)

/-- 'zzlaws_internal_bigconv_g1.FnRootsAreConsistentPrimitiveRoots': WHATEVER THE INPUT: true; the input reads as it did. -/
def fnRootsAreConsistentPrimitiveRootsSpec : ChangeSpec := { name := "fnRootsAreConsistentPrimitiveRoots", fn := fun _ => fun
  | [d] => { results := [.lit (.bool true)], args := [d] }
  | _ => none }
def fnRootsAreConsistentPrimitiveRootsRow : OpenClaim := { program := "qxb6003748a", sum := "52cff5cc88d8b44b5f95c342c98953b576b34f354a777d78eb6e1eb6cce53763", func := "example.com/slash-dash/slash-dash/zzlaws_internal_bigconv_g1.FnRootsAreConsistentPrimitiveRoots", spec := "fnRootsAreConsistentPrimitiveRoots", inPlace := ["math/bits.Sub64", "math/bits.Add64"], apart := false }
def FnRootsAreConsistentPrimitiveRootsSaid : Prop := fnRootsAreConsistentPrimitiveRootsRow.holds Try.pinned (OpenSpec.ofChange fnRootsAreConsistentPrimitiveRootsSpec)

/-- ITS FALSE NEIGHBOUR: 'it returns false'. Refute it at one input. -/
def fnRootsAreConsistentPrimitiveRootsWrong : ChangeSpec := { name := "fnRootsAreConsistentPrimitiveRoots", fn := fun _ => fun
  | [d] => { results := [.lit (.bool false)], args := [d] }
  | _ => none }
def FnRootsAreConsistentPrimitiveRootsWrongFalsely : Prop := fnRootsAreConsistentPrimitiveRootsRow.holds Try.pinned (OpenSpec.ofChange fnRootsAreConsistentPrimitiveRootsWrong)

/-- 'zzlaws_internal_bigconv_g1.FnJoinSumsShiftedCoefficients': WHATEVER THE INPUT: true; the input reads as it did. -/
def fnJoinSumsShiftedCoefficientsSpec : ChangeSpec := { name := "fnJoinSumsShiftedCoefficients", fn := fun _ => fun
  | [d1, d2, d3] => { results := [.lit (.bool true)], args := [d1, d2, d3] }
  | _ => none }
def fnJoinSumsShiftedCoefficientsRow : OpenClaim := { program := "qxb6003748a", sum := "52cff5cc88d8b44b5f95c342c98953b576b34f354a777d78eb6e1eb6cce53763", func := "example.com/slash-dash/slash-dash/zzlaws_internal_bigconv_g1.FnJoinSumsShiftedCoefficients", spec := "fnJoinSumsShiftedCoefficients", apart := false }
def FnJoinSumsShiftedCoefficientsSaid : Prop := fnJoinSumsShiftedCoefficientsRow.holds Try.pinned (OpenSpec.ofChange fnJoinSumsShiftedCoefficientsSpec)

/-- ITS FALSE NEIGHBOUR: 'it returns false'. Refute it at one input. -/
def fnJoinSumsShiftedCoefficientsWrong : ChangeSpec := { name := "fnJoinSumsShiftedCoefficients", fn := fun _ => fun
  | [d1, d2, d3] => { results := [.lit (.bool false)], args := [d1, d2, d3] }
  | _ => none }
def FnJoinSumsShiftedCoefficientsWrongFalsely : Prop := fnJoinSumsShiftedCoefficientsRow.holds Try.pinned (OpenSpec.ofChange fnJoinSumsShiftedCoefficientsWrong)

end Rows
end Go.Proofs.Qxb6003748a
