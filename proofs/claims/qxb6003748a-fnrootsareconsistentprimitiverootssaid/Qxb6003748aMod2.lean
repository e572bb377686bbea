/- mulMod, zzRed, zzAdd, zzMul, powMod modulo p (seat b6003748a). -/
import Derived.Test.Qxb6003748aMod
namespace Go.Proofs.Qxb6003748a.Mod
open Go.RowKit
set_option linter.unusedVariables false

/-- It answers some uint64 with a property. -/
def RetU (φ : Int → Prop) (e : Ending) : Prop := ∃ r : Int, e = .returned (.int .u64 r) ∧ 0 ≤ r ∧ r ≤ 18446744073709551615 ∧ φ r
theorem RetU.mk {φ : Int → Prop} {e : Ending} (r : Int) (h : e = .returned (.int .u64 r)) (h0 : 0 ≤ r) (h1 : r ≤ 18446744073709551615) (h2 : φ r) : RetU φ e := ⟨r, h, h0, h1, h2⟩

theorem mod_of (X r k : Int) (h : X = r + 18446744069414584321 * k) : r % 18446744069414584321 = X % 18446744069414584321 := by
  rw [h, Int.add_mul_emod_self_left]

theorem and_eps (z : Int) (h0 : 0 ≤ z) (h1 : z ≤ 18446744073709551615) : bits .and .u64 z 4294967295 = z % 4294967296 := and_low32 z h0 (by omega)

theorem mask_one : bits .and .u64 4294967295 (IntKind.u64.wrap (-1)) = 4294967295 := by decide +kernel
theorem mask_zero : bits .and .u64 4294967295 0 = 0 := by decide +kernel

set_option maxHeartbeats 400000 in
theorem mulMod17 (x y : Int) (hx : 0 ≤ x) (hx' : x ≤ 18446744073709551615) (hy : 0 ≤ y) (hy' : y ≤ 18446744073709551615) (w : World) :
    Calls Try.prog 17 #[.int .u64 x, .int .u64 y] w fun e w' => RetU (fun r => r % 18446744069414584321 = (x * y) % 18446744069414584321) e ∧ w' = w := by
  obtain ⟨a, rfl⟩ := Int.eq_ofNat_of_zero_le hx
  obtain ⟨b, rfl⟩ := Int.eq_ofNat_of_zero_le hy
  have C := mul64N a b (by omega) (by omega) w
  have e1 : (a : Int) * (b : Int) = ((a * b : Nat) : Int) := (Int.natCast_mul a b).symm
  rw [e1]
  have hlt : a * b < 18446744073709551616 * 18446744073709551616 := Nat.mul_lt_mul'' (by omega) (by omega)
  generalize a * b = X at *
  obtain ⟨hi, hhi⟩ : ∃ hi : Int, ((X / 18446744073709551616 : Nat) : Int) = hi := ⟨_, rfl⟩
  obtain ⟨lo, hlo⟩ : ∃ lo : Int, ((X % 18446744073709551616 : Nat) : Int) = lo := ⟨_, rfl⟩
  rw [hhi, hlo] at C
  have g1 : (X : Int) = hi * 18446744073709551616 + lo := by omega
  have g2 : 0 ≤ hi := by omega
  have g3 : hi ≤ 18446744073709551615 := by omega
  have g4 : 0 ≤ lo := by omega
  have g5 : lo ≤ 18446744073709551615 := by omega
  have k0 := and_eps hi g2 g3
  have k1 := mask_one
  have k2 := mask_zero
  have HC := hide C
  have HG := hide g1
  clear C g1 hhi hlo hlt e1
  by_cases hb : lo < hi / 4294967296
  · by_cases hc : 18446744073709551615 < (lo - hi / 4294967296 + 18446744073709551616 - 4294967295) + (hi % 4294967296 * 4294967296 - hi % 4294967296)
    · have S := sub64_yes lo (hi / 4294967296) g4 (by omega) (by omega) hb
      have A := add64_yes (lo - hi / 4294967296 + 18446744073709551616 - 4294967295) (hi % 4294967296 * 4294967296 - hi % 4294967296) (by omega) (by omega) (by omega) (by omega) (by omega)
      go_enter Try.func17, Try.ntmps17
      go_wp2_with fail
      refine (unhide HC).mono ?_
      rintro e w' ⟨rfl, hw⟩
      obtain rfl := hw.symm
      clear HC
      go_wp2
      go_ret
      exact ⟨RetU.mk _ rfl (by omega) (by omega) (mod_of _ _ (hi / 4294967296 * 4294967297 + hi % 4294967296) (by rw [unhide HG]; omega)), rfl⟩
    · have S := sub64_yes lo (hi / 4294967296) g4 (by omega) (by omega) hb
      have A := add64_no (lo - hi / 4294967296 + 18446744073709551616 - 4294967295) (hi % 4294967296 * 4294967296 - hi % 4294967296) (by omega) (by omega) (by omega)
      go_enter Try.func17, Try.ntmps17
      go_wp2_with fail
      refine (unhide HC).mono ?_
      rintro e w' ⟨rfl, hw⟩
      obtain rfl := hw.symm
      clear HC
      go_wp2
      go_ret
      exact ⟨RetU.mk _ rfl (by omega) (by omega) (mod_of _ _ (hi / 4294967296 * 4294967297 + hi % 4294967296 - 1) (by rw [unhide HG]; omega)), rfl⟩
  · by_cases hc : 18446744073709551615 < (lo - hi / 4294967296) + (hi % 4294967296 * 4294967296 - hi % 4294967296)
    · have S := sub64_no lo (hi / 4294967296) g4 g5 (by omega) (by omega)
      have A := add64_yes (lo - hi / 4294967296) (hi % 4294967296 * 4294967296 - hi % 4294967296) (by omega) (by omega) (by omega) (by omega) (by omega)
      go_enter Try.func17, Try.ntmps17
      go_wp2_with fail
      refine (unhide HC).mono ?_
      rintro e w' ⟨rfl, hw⟩
      obtain rfl := hw.symm
      clear HC
      go_wp2
      go_ret
      exact ⟨RetU.mk _ rfl (by omega) (by omega) (mod_of _ _ (hi / 4294967296 * 4294967297 + hi % 4294967296 + 1) (by rw [unhide HG]; omega)), rfl⟩
    · have S := sub64_no lo (hi / 4294967296) g4 g5 (by omega) (by omega)
      have A := add64_no (lo - hi / 4294967296) (hi % 4294967296 * 4294967296 - hi % 4294967296) (by omega) (by omega) (by omega)
      go_enter Try.func17, Try.ntmps17
      go_wp2_with fail
      refine (unhide HC).mono ?_
      rintro e w' ⟨rfl, hw⟩
      obtain rfl := hw.symm
      clear HC
      go_wp2
      go_ret
      exact ⟨RetU.mk _ rfl (by omega) (by omega) (mod_of _ _ (hi / 4294967296 * 4294967297 + hi % 4294967296) (by rw [unhide HG]; omega)), rfl⟩

end Go.Proofs.Qxb6003748a.Mod
