/- The row of FnHeadIsThePrefixOfTheConcatenation, out of its walk (seat b6003801a). The frame is the guide's own for a law over slices, turned to a slice of slices of bytes and an int64. -/
import Derived.Test.Qxb6003801aRows
import Derived.WalkKit
import Derived.ProofKit
import Derived.OpenShut
import Derived.ShutString
import Derived.ChangeOld
import Derived.Below
import Derived.Deep.Matrix
import Derived.Test.Qxb6003801aHeadLaw
namespace Go.Proofs.Qxb6003801a.fnHeadIsThePrefixOfTheConcatenation
open Go.ChangeShapes Go.WideShapes Go.ChangeAt Go.RowKit
open Go.ChangeMaps (open_string shut_string)
set_option linter.unusedVariables false

theorem own : ownKnob Try.prog.godebug = none := by kernel_rfl
theorem laidOut : laidOutB Try.prog = true := by kernel_rfl

/-- What the walk is told of a slice of slices of bytes that came in. -/
def IsRows (w : World) (a : Option Addr) (len : Nat) (zs : List Blk.B) : Prop := zs.length = len ∧ len ≤ maxLen ∧ Blk.Outer w a zs ∧ Blk.Inner w zs

theorem spot_none {w : World} {x : Addr} {v : Value} (h : w.cell? x = some v) : x.spot = none := by
  unfold World.cell? at h
  split at h
  · split at h
    · cases h
    · rename_i hs
      cases hsp : x.spot with
      | none => rfl
      | some y => rw [hsp] at hs; simp at hs
  · cases h

theorem row_of {w : World} {A : Option Addr} {L C : Nat} {Z : List Int} (hL : L ≤ C) (hZ : Z.length = C) (hnil : A = none → C = 0) (hc : ∀ a', A = some a' → ∀ c, c < C → w.cell? (a'.add c) = some (.int .u8 (Z.getD c 0))) : Blk.BRow w A (Z.take L) := by
  rcases Nat.eq_zero_or_pos L with h0 | h0
  · exact .inl (show (Z.take L).length < 1 by simp [h0])
  · cases A with
    | none => have := hnil rfl; omega
    | some x =>
      have hs := spot_none (hc x rfl 0 (by omega))
      rw [show x.add 0 = x from rfl] at hs
      obtain ⟨b, off, sp⟩ := x
      simp only at hs
      subst hs
      refine .inr ⟨b, off, rfl, fun k hk => ?_⟩
      simp only [List.length_take] at hk
      have h := hc _ rfl k (by omega)
      rw [Addr.add_lit] at h
      rw [h]
      simp [List.getD, show k < L by omega]

theorem rows_of {w : World} {x : Addr} {len cap : Nat} {A : Nat → Option Addr} {L C : Nat → Nat} {Z : Nat → List Int} (hl : len ≤ cap) (hm : cap ≤ maxLen)
    (h : ∀ r, r < cap → w.cell? (x.add r) = some (.slice (A r) (L r) (C r)) ∧ L r ≤ C r ∧ C r ≤ maxLen ∧ (Z r).length = C r ∧ (A r = none → C r = 0) ∧ ∀ a', A r = some a' → ∀ c, c < C r → w.cell? (a'.add c) = some (.int .u8 ((Z r).getD c 0))) :
    ∃ zs, IsRows w (some x) len zs := by
  refine ⟨(List.range len).map fun r => ⟨A r, C r, (Z r).take (L r)⟩, by simp, by omega, ?_, ?_⟩
  · rcases Nat.eq_zero_or_pos len with h0 | h0
    · exact .inl (show ((List.range len).map _).length < 1 by simp [h0])
    · have hs := spot_none (h 0 (by omega)).1
      rw [show x.add 0 = x from rfl] at hs
      obtain ⟨b, off, sp⟩ := x
      simp only at hs
      subst hs
      refine .inr ⟨b, off, rfl, fun k hk => ?_⟩
      simp only [List.length_map, List.length_range] at hk
      obtain ⟨h1, h2, h3, h4, _⟩ := h k (by omega)
      rw [Addr.add_lit] at h1
      rw [h1]
      simp [List.getD, hk, Blk.B.val, h4, Nat.min_eq_left h2]
  · intro k hk
    simp only [List.length_map, List.length_range] at hk
    obtain ⟨h1, h2, h3, h4, h5, h6⟩ := h k (by omega)
    have e : ((List.range len).map fun r => (⟨A r, C r, (Z r).take (L r)⟩ : Blk.B)).getD k Blk.B.no = ⟨A k, C k, (Z k).take (L k)⟩ := by simp [List.getD, hk]
    rw [e]
    exact ⟨row_of h2 h4 h5 h6, by rw [List.length_take]; omega⟩

theorem walk (a0 : Option Addr) (len0 cap0 : Nat) (z0 : List Blk.B) (a1 : Int) (w : World) (w0 : IsRows w a0 len0 z0) (w1 : (Lit.int .i64 a1).wf = true) :
    Calls Try.prog 4 #[.slice a0 len0 cap0, .int .i64 a1] w fun e w' => e = .returned (.bool true) ∧ Below w.heap.size w w' := by
  have b1 := bounds_i64 w1
  exact Blk.walk4 a0 len0 cap0 a1 z0 w w0.1 w0.2.1 b1.1 b1.2 w0.2.2.1 w0.2.2.2

set_option maxRecDepth 100000 in
theorem lifted (os : Os) (started : os.Started) (H : Type) (enc : TypeId × Value → H) :
    ReturnsInHanded {} Try.checked os 4 .any (Rows.fnHeadIsThePrefixOfTheConcatenationSpec.pre6 enc Try.prog Try.f4 Rows.fnHeadIsThePrefixOfTheConcatenationRow.domain false) (Rows.fnHeadIsThePrefixOfTheConcatenationSpec.post enc Try.prog Try.f4 false true false false) := by
  refine returnsInHanded_of_change (C := Try.checked) own started (by kernel_rfl) Try.func4
    (ChangeSpec.witness6 (enc := enc) (C := Try.checked) false ⟨#[], #[.slice none 0 0, .int .i64 0], []⟩ 8 (by kernel_rfl) (by kernel_rfl) (by kernel_rfl) (by kernel_rfl)) ?_
  intro W base args ds gs before hval0 hW hcnd _
  have hval : ∀ (j : Nat) t v, Try.f4.params[j]? = some t → args[j]? = some v → Value.okWide Try.prog W .any base t v := hval0
  have hW' := hW
  obtain ⟨p, q, hA0, hV, rfl, hfz, hnd⟩ := hW
  have hA : DataW.TrodAll enc Try.prog W 0 (fun _ => true) true Try.f4.params.toList args.toList ds p := hA0
  rw [Try.params4] at hA hval
  obtain ⟨v0, vs0, d0, ds0, p0, q0, hargs, rfl, rfl, h0, r0⟩ := trodAll_cons hA
  obtain ⟨v1, vs1, d1, ds1, p1, q1, rfl, rfl, rfl, h1, r1⟩ := trodAll_cons r0
  obtain ⟨rfl, rfl, rfl⟩ := trodAll_nil r1
  obtain rfl : args = #[v0, v1] := by cases args; simp_all
  obtain ⟨rfl, rfl⟩ := trodVars_none hV
  obtain ⟨a0, len0, cap0, rfl⟩ := okWide_slice Try.underlying29 (hval 0 29 v0 rfl rfl)
  have k0 := h0
  have lt0 : ∀ x ∈ p0, x.block < W.heap.size := by obtain ⟨m, hm⟩ := k0; exact DataW.trod_lt m _ _ _ hm
  obtain ⟨z0, w0⟩ : ∃ zs, IsRows W a0 len0 zs := by
    obtain ⟨fuel, hf⟩ := h0
    rcases Deep.open_int_rows Try.underlying29 Try.underlying34 Try.underlying5 (by kernel_rfl) (by kernel_rfl) hf with ⟨hcs, _⟩ | ⟨x, l, c, A, L, C, Z, hcs, _, hl, hm, _, hr⟩
    · simp [Value.cells] at hcs
      obtain ⟨rfl, rfl, rfl⟩ := hcs
      exact ⟨[], rfl, by simp [maxLen], .inl (show 0 < 1 by omega), fun k hk => by simp at hk⟩
    · simp [Value.cells] at hcs
      obtain ⟨rfl, rfl, rfl⟩ := hcs
      exact rows_of hl hm fun r hr' => by
        obtain ⟨h1, h2, h3, h4, _, h5, h6⟩ := hr r hr'
        exact ⟨h1, h2, h3, h4, h5, fun a' ha' => (h6 a' ha').2⟩
  have k1 := h1
  have lt1 : ∀ x ∈ p1, x.block < W.heap.size := by obtain ⟨m, hm⟩ := k1; exact DataW.trod_lt m _ _ _ hm
  obtain ⟨a1, rfl, rfl, rfl, w1⟩ := open_int Try.underlying2 (hval 1 2 v1 rfl rfl) h1
  clear hA0 hval0
  refine (walk a0 len0 cap0 z0 a1 W w0 w1).mono fun e W' ⟨he, bel⟩ => ?_
  subst he
  exact ⟨_, rfl, _, _, _, [], _, [], hW', trodAll_mk1 (shut_bool Try.underlying4 _), (trodAll_cons_mk (Below.trod laidOut (by kernel_rfl) (of_decide_eq_true (by kernel_rfl)) k0 bel lt0) (trodAll_cons_mk (Below.trod laidOut (by kernel_rfl) (of_decide_eq_true (by kernel_rfl)) k1 bel lt1) trodAll_mk0)), rfl, bel.frame _, fun h => by cases h⟩

theorem over : Rows.fnHeadIsThePrefixOfTheConcatenationRow.holds Try.pinned (OpenSpec.ofChange Rows.fnHeadIsThePrefixOfTheConcatenationSpec) :=
  OpenClaim.holds_of_wide 4 Try.f4 rfl rfl rfl rfl rfl rfl rfl ⟨rfl, rfl, rfl, rfl, rfl⟩ rfl rfl rfl rfl rfl (by kernel_rfl) Try.func4 (by kernel_rfl)
    (of_decide_eq_true (by kernel_rfl)) (by unfold Func.isWrapper; first | (rw [if_pos (by decide +kernel)]; kernel_rfl) | (rw [if_neg (by decide +kernel)]; exact ⟨rfl, rfl⟩))
    (fun os started H enc _ => lifted os started H enc)

/-- THE STATEMENT -/
theorem proved : Rows.FnHeadIsThePrefixOfTheConcatenationSaid := over
#print axioms proved
end Go.Proofs.Qxb6003801a.fnHeadIsThePrefixOfTheConcatenation

namespace Go.Proofs.Qxb6003801a
/-- THE STATEMENT, by its short name. -/
theorem fnHeadIsThePrefixOfTheConcatenation_proved : Rows.FnHeadIsThePrefixOfTheConcatenationSaid := fnHeadIsThePrefixOfTheConcatenation.proved
end Go.Proofs.Qxb6003801a
