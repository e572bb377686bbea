/-
  No cell of these rows narrows 'for every input' (looked for: loops, veiled, ifaces, maps, wideKeys, modest, calm, conditions, laid).
  DERIVED. THE GIVEN ROWS OF THIS SEAT. 3 by the template 'for every input the law returns true; each argument reads behind the call as it read before'; 0 by the template 'total and deterministic' (their statements: Qxb6003801aTotals.lean).
  GIVEN WITH THE SEED: the statements are not yours to turn. If you find one false, say at which input.
  Laid BY PROGRAM, IN A SANDBOX (cutbox-rows.mjs): the forced cells as the released guide's own fill.sh prints them over the translation 93c0242b66181a72… (all of the seat's roots in one cut). By AI agents, Wed Nov 11 2026. No macro, syntax, notation, axiom, sorry.
-/
import Derived.Test.Qxb6003801aChecked
import GoSem.Claim
import GoSem.ClaimJoined
import GoSem.ClaimMapViews
import Derived.JoinedTies
import Derived.KernelRfl
namespace Go.Proofs.Qxb6003801a
/- THE CELL 'sum', in the pinned program and in every row, IS THE sha256 OF THE DUMP (.gsa) THAT Qxb6003801aProg.lean LOADS. Nothing in Lean hashes anything: it is a label: what it is worth is what the hold of that sum in a sandbox is worth. -/
noncomputable def Try.pinned : Pinned := { name := "qxb6003801a", sum := "93c0242b66181a729d0d0d1617886663593e0229c547b72b970985bc4c8c76c9", checked := Try.checked }
namespace Rows
def none {H : Type} : Left H := { results := [], args := [] }

/-- 'zzlaws_internal_sfv_g2.FnTokenIsMaximalValidToken': WHATEVER THE INPUT: true; the input reads as it did. -/
def fnTokenIsMaximalValidTokenSpec : ChangeSpec := { name := "fnTokenIsMaximalValidToken", fn := fun _ => fun
  | [d1, d2] => { results := [.lit (.bool true)], args := [d1, d2] }
  | _ => none }
def fnTokenIsMaximalValidTokenRow : OpenClaim := { program := "qxb6003801a", sum := "93c0242b66181a729d0d0d1617886663593e0229c547b72b970985bc4c8c76c9", func := "example.com/countersign/countersign/zzlaws_internal_sfv_g2.FnTokenIsMaximalValidToken", spec := "fnTokenIsMaximalValidToken", inPlace := ["internal/bytealg.IndexByteString"], apart := false }
def FnTokenIsMaximalValidTokenSaid : Prop := fnTokenIsMaximalValidTokenRow.holds Try.pinned (OpenSpec.ofChange fnTokenIsMaximalValidTokenSpec)

/-- ITS FALSE NEIGHBOUR: 'it returns false'. Refute it at one input. -/
def fnTokenIsMaximalValidTokenWrong : ChangeSpec := { name := "fnTokenIsMaximalValidToken", fn := fun _ => fun
  | [d1, d2] => { results := [.lit (.bool false)], args := [d1, d2] }
  | _ => none }
def FnTokenIsMaximalValidTokenWrongFalsely : Prop := fnTokenIsMaximalValidTokenRow.holds Try.pinned (OpenSpec.ofChange fnTokenIsMaximalValidTokenWrong)

/-- 'zzlaws_internal_spool_g1.FnHeadIsThePrefixOfTheConcatenation': WHATEVER THE INPUT: true; the input reads as it did. -/
def fnHeadIsThePrefixOfTheConcatenationSpec : ChangeSpec := { name := "fnHeadIsThePrefixOfTheConcatenation", fn := fun _ => fun
  | [d1, d2] => { results := [.lit (.bool true)], args := [d1, d2] }
  | _ => none }
def fnHeadIsThePrefixOfTheConcatenationRow : OpenClaim := { program := "qxb6003801a", sum := "93c0242b66181a729d0d0d1617886663593e0229c547b72b970985bc4c8c76c9", func := "example.com/countersign/countersign/zzlaws_internal_spool_g1.FnHeadIsThePrefixOfTheConcatenation", spec := "fnHeadIsThePrefixOfTheConcatenation", apart := false }
def FnHeadIsThePrefixOfTheConcatenationSaid : Prop := fnHeadIsThePrefixOfTheConcatenationRow.holds Try.pinned (OpenSpec.ofChange fnHeadIsThePrefixOfTheConcatenationSpec)

/-- ITS FALSE NEIGHBOUR: 'it returns false'. Refute it at one input. -/
def fnHeadIsThePrefixOfTheConcatenationWrong : ChangeSpec := { name := "fnHeadIsThePrefixOfTheConcatenation", fn := fun _ => fun
  | [d1, d2] => { results := [.lit (.bool false)], args := [d1, d2] }
  | _ => none }
def FnHeadIsThePrefixOfTheConcatenationWrongFalsely : Prop := fnHeadIsThePrefixOfTheConcatenationRow.holds Try.pinned (OpenSpec.ofChange fnHeadIsThePrefixOfTheConcatenationWrong)

/-- 'zzlaws_internal_spool_g1.FnHeadOfHeadIsTheSmallerHead': WHATEVER THE INPUT: true; the input reads as it did. -/
def fnHeadOfHeadIsTheSmallerHeadSpec : ChangeSpec := { name := "fnHeadOfHeadIsTheSmallerHead", fn := fun _ => fun
  | [d1, d2, d3] => { results := [.lit (.bool true)], args := [d1, d2, d3] }
  | _ => none }
def fnHeadOfHeadIsTheSmallerHeadRow : OpenClaim := { program := "qxb6003801a", sum := "93c0242b66181a729d0d0d1617886663593e0229c547b72b970985bc4c8c76c9", func := "example.com/countersign/countersign/zzlaws_internal_spool_g1.FnHeadOfHeadIsTheSmallerHead", spec := "fnHeadOfHeadIsTheSmallerHead", apart := false }
def FnHeadOfHeadIsTheSmallerHeadSaid : Prop := fnHeadOfHeadIsTheSmallerHeadRow.holds Try.pinned (OpenSpec.ofChange fnHeadOfHeadIsTheSmallerHeadSpec)

/-- ITS FALSE NEIGHBOUR: 'it returns false'. Refute it at one input. -/
def fnHeadOfHeadIsTheSmallerHeadWrong : ChangeSpec := { name := "fnHeadOfHeadIsTheSmallerHead", fn := fun _ => fun
  | [d1, d2, d3] => { results := [.lit (.bool false)], args := [d1, d2, d3] }
  | _ => none }
def FnHeadOfHeadIsTheSmallerHeadWrongFalsely : Prop := fnHeadOfHeadIsTheSmallerHeadRow.holds Try.pinned (OpenSpec.ofChange fnHeadOfHeadIsTheSmallerHeadWrong)

end Rows
end Go.Proofs.Qxb6003801a
