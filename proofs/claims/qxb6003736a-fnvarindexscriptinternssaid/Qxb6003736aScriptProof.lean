/- The row of FnVarIndexScriptInterns, out of its walk (seat b6003736a). The frame is the guide's own for a law over slices, turned to a slice of strings. -/
import Derived.Test.Qxb6003736aRows
import Derived.WalkKit
import Derived.ProofKit
import Derived.OpenShut
import Derived.ShutString
import Derived.ChangeOld
import Derived.Below
import Derived.SliceStrings
import Derived.Test.Qxb6003736aScript
namespace Go.Proofs.Qxb6003736a.fnVarIndexScriptInterns
open Go.ChangeShapes Go.WideShapes Go.ChangeAt Go.RowKit
open Go.ChangeMaps (open_string shut_string)
set_option linter.unusedVariables false

theorem own : ownKnob Try.prog.godebug = none := by kernel_rfl
theorem laidOut : laidOutB Try.prog = true := by kernel_rfl

/-- What the walk is told of a slice of strings that came in. -/
def IsRow (w : World) (a : Option Addr) (len cap : Nat) (zs : List ByteArray) : Prop := zs.length = len ∧ len ≤ maxLen ∧ Strs.SRow w a zs

theorem at_of_cells {w : World} {x : Addr} {zs : List ByteArray} {len : Nat} (hl : len ≤ zs.length) (hcell : ∀ i, i < zs.length → w.cell? (x.add i) = some (.string (zs.getD i ByteArray.empty))) : Strs.SRow w (some x) (zs.take len) := by
  rcases Nat.eq_zero_or_pos len with h0 | h0
  · exact .inl (show (zs.take len).length < 1 by simp [h0])
  · have hx : x.spot = none := by
      have h := hcell 0 (by omega)
      rw [show x.add 0 = x from rfl] at h
      unfold World.cell? at h
      split at h
      · split at h
        · cases h
        · rename_i hs
          cases hsp : x.spot with
          | none => rfl
          | some y => rw [hsp] at hs; simp at hs
      · cases h
    obtain ⟨b, off, sp⟩ := x
    simp only at hx
    subst hx
    refine .inr ⟨b, off, rfl, fun k hk => ?_⟩
    simp only [List.length_take] at hk
    have h := hcell k (by omega)
    rw [Addr.add_lit] at h
    rw [h]
    simp [List.getD, show k < len by omega]

theorem walk (a0 : Option Addr) (len0 cap0 : Nat) (z0 : List ByteArray) (w : World) (w0 : IsRow w a0 len0 cap0 z0) :
    Calls Try.prog 4 #[.slice a0 len0 cap0] w fun e w' => e = .returned (.bool true) ∧ Below w.heap.size w w' :=
  Strs.walk4 a0 len0 cap0 z0 w w0.1 w0.2.1 w0.2.2

set_option maxRecDepth 100000 in
theorem lifted (os : Os) (started : os.Started) (H : Type) (enc : TypeId × Value → H) :
    ReturnsInHanded {} Try.checked os 4 .any (Rows.fnVarIndexScriptInternsSpec.pre6 enc Try.prog Try.f4 Rows.fnVarIndexScriptInternsRow.domain false) (Rows.fnVarIndexScriptInternsSpec.post enc Try.prog Try.f4 false true false false) := by
  refine returnsInHanded_of_change (C := Try.checked) own started (by kernel_rfl) Try.func4
    (ChangeSpec.witness6 (enc := enc) (C := Try.checked) false ⟨#[], #[.slice none 0 0], []⟩ 8 (by kernel_rfl) (by kernel_rfl) (by kernel_rfl) (by kernel_rfl)) ?_
  intro W base args ds gs before hval0 hW hcnd _
  have hval : ∀ (j : Nat) t v, Try.f4.params[j]? = some t → args[j]? = some v → Value.okWide Try.prog W .any base t v := hval0
  have hW' := hW
  obtain ⟨p, q, hA0, hV, rfl, hfz, hnd⟩ := hW
  have hA : DataW.TrodAll enc Try.prog W 0 (fun _ => true) true Try.f4.params.toList args.toList ds p := hA0
  rw [Try.params4] at hA hval
  obtain ⟨v0, vs0, d0, ds0, p0, q0, hargs, rfl, rfl, h0, r0⟩ := trodAll_cons hA
  obtain ⟨rfl, rfl, rfl⟩ := trodAll_nil r0
  obtain rfl : args = #[v0] := by cases args; simp_all
  obtain ⟨rfl, rfl⟩ := trodVars_none hV
  obtain ⟨a0, len0, cap0, rfl⟩ := okWide_slice Try.underlying35 (hval 0 35 v0 rfl rfl)
  have k0 := h0
  have lt0 : ∀ x ∈ p0, x.block < W.heap.size := by obtain ⟨m, hm⟩ := k0; exact DataW.trod_lt m _ _ _ hm
  obtain ⟨z0, w0⟩ : ∃ zs, IsRow W a0 len0 cap0 zs := by
    obtain ⟨fuel, hf⟩ := h0
    rcases open_strings Try.underlying35 Try.underlying9 (by kernel_rfl) hf with ⟨hcs, _⟩ | ⟨x, l, c, zs, hcs, _, hl, hm, hz, _, hcell, hwz⟩
    · simp [Value.cells] at hcs
      obtain ⟨rfl, rfl, rfl⟩ := hcs
      exact ⟨[], rfl, by simp [maxLen], .inl (show 0 < 1 by omega)⟩
    · simp [Value.cells] at hcs
      obtain ⟨rfl, rfl, rfl⟩ := hcs
      have hz' : zs.length = cap0 := by simpa using hz
      exact ⟨zs.take len0, by simp; omega, by omega, at_of_cells (by omega) hcell⟩
  clear hA0 hval0
  refine (walk a0 len0 cap0 z0 W w0).mono fun e W' ⟨he, bel⟩ => ?_
  subst he
  exact ⟨_, rfl, _, _, _, [], _, [], hW', trodAll_mk1 (shut_bool Try.underlying4 _), (trodAll_cons_mk (Below.trod laidOut (by kernel_rfl) (of_decide_eq_true (by kernel_rfl)) k0 bel lt0) trodAll_mk0), rfl, bel.frame _, fun h => by cases h⟩

theorem over : Rows.fnVarIndexScriptInternsRow.holds Try.pinned (OpenSpec.ofChange Rows.fnVarIndexScriptInternsSpec) :=
  OpenClaim.holds_of_wide 4 Try.f4 rfl rfl rfl rfl rfl rfl rfl ⟨rfl, rfl, rfl, rfl, rfl⟩ rfl rfl rfl rfl rfl (by kernel_rfl) Try.func4 (by kernel_rfl)
    (of_decide_eq_true (by kernel_rfl)) (by unfold Func.isWrapper; first | (rw [if_pos (by decide +kernel)]; kernel_rfl) | (rw [if_neg (by decide +kernel)]; exact ⟨rfl, rfl⟩))
    (fun os started H enc _ => lifted os started H enc)

/-- THE STATEMENT -/
theorem proved : Rows.FnVarIndexScriptInternsSaid := over
#print axioms proved
end Go.Proofs.Qxb6003736a.fnVarIndexScriptInterns

namespace Go.Proofs.Qxb6003736a
/-- THE STATEMENT, by its short name. -/
theorem fnVarIndexScriptInterns_proved : Rows.FnVarIndexScriptInternsSaid := fnVarIndexScriptInterns.proved
end Go.Proofs.Qxb6003736a
