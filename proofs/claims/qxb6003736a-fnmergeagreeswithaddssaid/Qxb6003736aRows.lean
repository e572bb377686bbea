/-
  No cell of these rows narrows 'for every input' (looked for: loops, veiled, ifaces, maps, wideKeys, modest, calm, conditions, laid).
  DERIVED. THE GIVEN ROWS OF THIS SEAT. 3 by the template 'for every input the law returns true; each argument reads behind the call as it read before'; 0 by the template 'total and deterministic' (their statements: Qxb6003736aTotals.lean).
  GIVEN WITH THE SEED: the statements are not yours to turn. If you find one false, say at which input.
  Laid BY PROGRAM, IN A SANDBOX (cutbox-rows.mjs): the forced cells as the released guide's own fill.sh prints them over the translation f7df947d60b05489… (all of the seat's roots in one cut). By AI agents, Wed Nov 11 2026. No macro, syntax, notation, axiom, sorry.
-/
import Derived.Test.Qxb6003736aChecked
import GoSem.Claim
import GoSem.ClaimJoined
import GoSem.ClaimMapViews
import Derived.JoinedTies
import Derived.KernelRfl
namespace Go.Proofs.Qxb6003736a
/- THE CELL 'sum', in the pinned program and in every row, IS THE sha256 OF THE DUMP (.gsa) THAT Qxb6003736aProg.lean LOADS. Nothing in Lean hashes anything: it is a label: what it is worth is what the hold of that sum in a sandbox is worth. -/
noncomputable def Try.pinned : Pinned := { name := "qxb6003736a", sum := "f7df947d60b05489eb9b6b4dfbb2c3ce667a12cf38113fdfab448d95747c3788", checked := Try.checked }
namespace Rows
def none {H : Type} : Left H := { results := [], args := [] }

/-- 'zzlaws_internal_diag_g1.FnMergeAgreesWithAdds': WHATEVER THE INPUT: true; the input reads as it did. -/
def fnMergeAgreesWithAddsSpec : ChangeSpec := { name := "fnMergeAgreesWithAdds", fn := fun _ => fun
  | [d1, d2] => { results := [.lit (.bool true)], args := [d1, d2] }
  | _ => none }
def fnMergeAgreesWithAddsRow : OpenClaim := { program := "qxb6003736a", sum := "f7df947d60b05489eb9b6b4dfbb2c3ce667a12cf38113fdfab448d95747c3788", func := "example.com/dialecta/dialecta/zzlaws_internal_diag_g1.FnMergeAgreesWithAdds", spec := "fnMergeAgreesWithAdds", inPlace := ["slices.overlaps[example.com/dialecta/dialecta/internal/diag.Diagnostic]"], unfollowed := true, recurses := true, apart := false }
def FnMergeAgreesWithAddsSaid : Prop := fnMergeAgreesWithAddsRow.holds Try.pinned (OpenSpec.ofChange fnMergeAgreesWithAddsSpec)

/-- ITS FALSE NEIGHBOUR: 'it returns false'. Refute it at one input. -/
def fnMergeAgreesWithAddsWrong : ChangeSpec := { name := "fnMergeAgreesWithAdds", fn := fun _ => fun
  | [d1, d2] => { results := [.lit (.bool false)], args := [d1, d2] }
  | _ => none }
def FnMergeAgreesWithAddsWrongFalsely : Prop := fnMergeAgreesWithAddsRow.holds Try.pinned (OpenSpec.ofChange fnMergeAgreesWithAddsWrong)

/-- 'zzlaws_internal_minimal_g1.FnVarIndexScriptInterns': WHATEVER THE INPUT: true; the input reads as it did. -/
def fnVarIndexScriptInternsSpec : ChangeSpec := { name := "fnVarIndexScriptInterns", fn := fun _ => fun
  | [d] => { results := [.lit (.bool true)], args := [d] }
  | _ => none }
def fnVarIndexScriptInternsRow : OpenClaim := { program := "qxb6003736a", sum := "f7df947d60b05489eb9b6b4dfbb2c3ce667a12cf38113fdfab448d95747c3788", func := "example.com/dialecta/dialecta/zzlaws_internal_minimal_g1.FnVarIndexScriptInterns", spec := "fnVarIndexScriptInterns", apart := false }
def FnVarIndexScriptInternsSaid : Prop := fnVarIndexScriptInternsRow.holds Try.pinned (OpenSpec.ofChange fnVarIndexScriptInternsSpec)

/-- ITS FALSE NEIGHBOUR: 'it returns false'. Refute it at one input. -/
def fnVarIndexScriptInternsWrong : ChangeSpec := { name := "fnVarIndexScriptInterns", fn := fun _ => fun
  | [d] => { results := [.lit (.bool false)], args := [d] }
  | _ => none }
def FnVarIndexScriptInternsWrongFalsely : Prop := fnVarIndexScriptInternsRow.holds Try.pinned (OpenSpec.ofChange fnVarIndexScriptInternsWrong)

/-- 'zzlaws_internal_minimal_g1.FnVarIndexLookupOrAppend': WHATEVER THE INPUT: true; the input reads as it did. -/
def fnVarIndexLookupOrAppendSpec : ChangeSpec := { name := "fnVarIndexLookupOrAppend", fn := fun _ => fun
  | [d1, d2] => { results := [.lit (.bool true)], args := [d1, d2] }
  | _ => none }
def fnVarIndexLookupOrAppendRow : OpenClaim := { program := "qxb6003736a", sum := "f7df947d60b05489eb9b6b4dfbb2c3ce667a12cf38113fdfab448d95747c3788", func := "example.com/dialecta/dialecta/zzlaws_internal_minimal_g1.FnVarIndexLookupOrAppend", spec := "fnVarIndexLookupOrAppend", apart := false }
def FnVarIndexLookupOrAppendSaid : Prop := fnVarIndexLookupOrAppendRow.holds Try.pinned (OpenSpec.ofChange fnVarIndexLookupOrAppendSpec)

/-- ITS FALSE NEIGHBOUR: 'it returns false'. Refute it at one input. -/
def fnVarIndexLookupOrAppendWrong : ChangeSpec := { name := "fnVarIndexLookupOrAppend", fn := fun _ => fun
  | [d1, d2] => { results := [.lit (.bool false)], args := [d1, d2] }
  | _ => none }
def FnVarIndexLookupOrAppendWrongFalsely : Prop := fnVarIndexLookupOrAppendRow.holds Try.pinned (OpenSpec.ofChange fnVarIndexLookupOrAppendWrong)

end Rows
end Go.Proofs.Qxb6003736a
