/- The row of FnJoinSumsShiftedCoefficients, out of its walk (seat b6003748a): the given shell, its hole filled. -/
import Derived.Test.Qxb6003748aRows
import Derived.WalkKit
import Derived.ProofKit
import Derived.OpenShut
import Derived.ShutString
import Derived.ChangeOld
import Derived.Below
import Derived.Test.Qxb6003748aJoinLaw
namespace Go.Proofs.Qxb6003748a.fnJoinSumsShiftedCoefficients
open Go.ChangeShapes Go.WideShapes Go.ChangeAt Go.RowKit
open Go.ChangeMaps (open_string shut_string)
set_option linter.unusedVariables false

theorem own : ownKnob Try.prog.godebug = none := by kernel_rfl
theorem laidOut : laidOutB Try.prog = true := by kernel_rfl

/-- WHAT THE WALK IS TOLD OF A SLICE OF INTEGERS THAT CAME IN: it is nil; or it leads to a row of 'cap' cells, the numbers 'zs' (the first 'len' are its elements, the rest its spare room), each fitting its kind. -/
def IsRow (k : IntKind) (w : World) (a : Option Addr) (len cap : Nat) (zs : List Int) : Prop :=
  (a = none ∧ len = 0 ∧ cap = 0 ∧ zs = []) ∨
  ∃ x, a = some x ∧ len ≤ cap ∧ cap ≤ maxLen ∧ zs.length = cap ∧ (∀ i, i < zs.length → w.cell? (x.add i) = some (.int k (zs.getD i 0))) ∧ ∀ n ∈ zs, (Lit.int k n).wf = true

theorem row_at {w : World} {x : Addr} {zs : List Int} {len : Nat} (hl : len ≤ zs.length) (hcell : ∀ i, i < zs.length → w.cell? (x.add i) = some (.int .u64 (zs.getD i 0))) (hwf : ∀ n ∈ zs, (Lit.int .u64 n).wf = true) : Row.URow w (some x) ((zs.take len).map Int.toNat) := by
  rcases Nat.eq_zero_or_pos len with h0 | h0
  · exact .inl (show ((zs.take len).map Int.toNat).length < 1 by simp [h0])
  · have hx : x.spot = none := by
      have h := hcell 0 (by omega)
      rw [show x.add 0 = x from rfl] at h
      unfold World.cell? at h
      split at h
      · split at h
        · cases h
        · rename_i hs
          cases hsp : x.spot with
          | none => rfl
          | some y => rw [hsp] at hs; simp at hs
      · cases h
    obtain ⟨b, off, sp⟩ := x
    simp only at hx
    subst hx
    refine .inr ⟨b, off, rfl, fun k hk => ?_⟩
    simp only [List.length_map, List.length_take] at hk
    have h := hcell k (by omega)
    have hz := (bounds_u64 (hwf (zs.getD k 0) (by have hkl : k < zs.length := by omega
                                                  have e : zs.getD k 0 = zs[k] := by simp [hkl]
                                                  rw [e]; exact List.getElem_mem hkl))).1
    rw [Addr.add_lit] at h
    have e2 : ((zs.take len).map Int.toNat).getD k 0 = (zs.getD k 0).toNat := by
      have hkl : k < zs.length := by omega
      simp [List.getD, show k < len by omega, hkl]
    rw [h, e2, Int.toNat_of_nonneg hz]

theorem rowOf {w : World} {a : Option Addr} {len cap : Nat} {zs : List Int} (h : IsRow .u64 w a len cap zs) : ∃ cs : List Nat, cs.length = len ∧ len ≤ maxLen ∧ Words.Ok cs ∧ Row.URow w a cs := by
  rcases h with ⟨rfl, rfl, rfl, rfl⟩ | ⟨x, rfl, hlc, hcm, hzl, hcell, hwf⟩
  · exact ⟨[], rfl, by simp [maxLen], fun z hz => by simp at hz, .inl (show 0 < 1 by omega)⟩
  · refine ⟨(zs.take len).map Int.toNat, by simp; omega, by omega, ?_, row_at (by omega) hcell hwf⟩
    intro z hz
    obtain ⟨y, hy, rfl⟩ := List.mem_map.1 hz
    have := bounds_u64 (hwf y (List.mem_of_mem_take hy))
    omega

/-! ### STEP 1: THE WALK: the Go text returns true, AND WRITES NOTHING THAT WAS THERE: 'Below w.heap.size w w'' (Derived/Below.lean: '.refl', '.alloc', '.drew', '.setCell' at a new block, '.trans'). Open each 'IsRow' by 'rcases' AHEAD of 'go_enter'; part every test ahead of the walk. -/
theorem walk (a0 : Option Addr) (len0 cap0 : Nat) (z0 : List Int) (a1 : Int) (a2 : Int) (w : World) (w0 : IsRow .u64 w a0 len0 cap0 z0) (w1 : (Lit.int .i64 a1).wf = true) (w2 : (Lit.int .i64 a2).wf = true) :
    Calls Try.prog 6 #[.slice a0 len0 cap0, .int .i64 a1, .int .i64 a2] w fun e w' => e = .returned (.bool true) ∧ Below w.heap.size w w' := by
  have b1 := bounds_i64 w1
  have b2 := bounds_i64 w2
  obtain ⟨cs, hl, hlen, hok, hr⟩ := rowOf w0
  exact Row.walk6 a0 len0 cap0 a1 a2 cs w hl hlen b1.1 b1.2 b2.1 b2.2 hok hr

/-! ### THE ROW's STEP: WRITTEN OUT: LEAVE IT -/
set_option maxRecDepth 100000 in
theorem lifted (os : Os) (started : os.Started) (H : Type) (enc : TypeId × Value → H) :
    ReturnsInHanded {} Try.checked os 6 .any (Rows.fnJoinSumsShiftedCoefficientsSpec.pre6 enc Try.prog Try.f6 Rows.fnJoinSumsShiftedCoefficientsRow.domain false) (Rows.fnJoinSumsShiftedCoefficientsSpec.post enc Try.prog Try.f6 false true false false) := by
  refine returnsInHanded_of_change (C := Try.checked) own started (by kernel_rfl) Try.func6
    (ChangeSpec.witness6 (enc := enc) (C := Try.checked) false ⟨#[], #[.slice none 0 0, .int .i64 0, .int .i64 0], []⟩ 8 (by kernel_rfl) (by kernel_rfl) (by kernel_rfl) (by kernel_rfl)) ?_
  intro W base args ds gs before hval0 hW hcnd _
  have hval : ∀ (j : Nat) t v, Try.f6.params[j]? = some t → args[j]? = some v → Value.okWide Try.prog W .any base t v := hval0
  have hW' := hW
  obtain ⟨p, q, hA0, hV, rfl, hfz, hnd⟩ := hW
  have hA : DataW.TrodAll enc Try.prog W 0 (fun _ => true) true Try.f6.params.toList args.toList ds p := hA0
  rw [Try.params6] at hA hval
  obtain ⟨v0, vs0, d0, ds0, p0, q0, hargs, rfl, rfl, h0, r0⟩ := trodAll_cons hA
  obtain ⟨v1, vs1, d1, ds1, p1, q1, rfl, rfl, rfl, h1, r1⟩ := trodAll_cons r0
  obtain ⟨v2, vs2, d2, ds2, p2, q2, rfl, rfl, rfl, h2, r2⟩ := trodAll_cons r1
  obtain ⟨rfl, rfl, rfl⟩ := trodAll_nil r2
  obtain rfl : args = #[v0, v1, v2] := by cases args; simp_all
  obtain ⟨rfl, rfl⟩ := trodVars_none hV
  obtain ⟨a0, len0, cap0, rfl⟩ := okWide_slice Try.underlying28 (hval 0 28 v0 rfl rfl)
  have k0 := h0
  have lt0 : ∀ x ∈ p0, x.block < W.heap.size := by obtain ⟨m, hm⟩ := k0; exact DataW.trod_lt m _ _ _ hm
  obtain ⟨z0, w0⟩ : ∃ zs, IsRow .u64 W a0 len0 cap0 zs := by
    obtain ⟨fuel, hf⟩ := h0
    rcases open_ints Try.underlying28 Try.underlying22 (by kernel_rfl) hf with ⟨hcs, _⟩ | ⟨x, l, c, zs, hcs, _, hl, hm, hz, _, hcell, hwz⟩
    · simp [Value.cells] at hcs
      obtain ⟨rfl, rfl, rfl⟩ := hcs
      exact ⟨[], .inl ⟨rfl, rfl, rfl, rfl⟩⟩
    · simp [Value.cells] at hcs
      obtain ⟨rfl, rfl, rfl⟩ := hcs
      exact ⟨zs, .inr ⟨_, rfl, hl, hm, by simpa using hz, hcell, hwz⟩⟩
  obtain ⟨a1, rfl, rfl, rfl, w1⟩ := open_int Try.underlying3 (hval 1 3 v1 rfl rfl) h1
  obtain ⟨a2, rfl, rfl, rfl, w2⟩ := open_int Try.underlying3 (hval 2 3 v2 rfl rfl) h2
  clear hA0 hval0
  refine (walk a0 len0 cap0 z0 a1 a2 W w0 w1 w2).mono fun e W' ⟨he, bel⟩ => ?_
  subst he
  exact ⟨_, rfl, _, _, _, [], _, [], hW', trodAll_mk1 (shut_bool Try.underlying4 _), (trodAll_cons_mk (Below.trod laidOut (by kernel_rfl) (of_decide_eq_true (by kernel_rfl)) k0 bel lt0) (trodAll_cons_mk (shut_int Try.underlying3 w1) (trodAll_cons_mk (shut_int Try.underlying3 w2) trodAll_mk0))), rfl, bel.frame _, fun h => by cases h⟩

theorem over : Rows.fnJoinSumsShiftedCoefficientsRow.holds Try.pinned (OpenSpec.ofChange Rows.fnJoinSumsShiftedCoefficientsSpec) :=
  OpenClaim.holds_of_wide 6 Try.f6 rfl rfl rfl rfl rfl rfl rfl ⟨rfl, rfl, rfl, rfl, rfl⟩ rfl rfl rfl rfl rfl (by kernel_rfl) Try.func6 (by kernel_rfl)
    (of_decide_eq_true (by kernel_rfl)) (by unfold Func.isWrapper; first | (rw [if_pos (by decide +kernel)]; kernel_rfl) | (rw [if_neg (by decide +kernel)]; exact ⟨rfl, rfl⟩))
    (fun os started H enc _ => lifted os started H enc)

/-- THE STATEMENT -/
theorem proved : Rows.FnJoinSumsShiftedCoefficientsSaid := over
#print axioms proved
end Go.Proofs.Qxb6003748a.fnJoinSumsShiftedCoefficients

namespace Go.Proofs.Qxb6003748a
/-- THE STATEMENT, by its short name. -/
theorem fnJoinSumsShiftedCoefficients_proved : Rows.FnJoinSumsShiftedCoefficientsSaid := fnJoinSumsShiftedCoefficients.proved
end Go.Proofs.Qxb6003748a
