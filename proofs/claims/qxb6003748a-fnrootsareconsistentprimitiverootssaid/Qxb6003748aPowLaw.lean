/- FnPowModLaws' walk (seat b6003748a). -/
import Derived.Test.Qxb6003748aPow
namespace Go.Proofs.Qxb6003748a.Mod
open Go.RowKit
set_option linter.unusedVariables false

theorem mul_ipow {r2 r3 x : Int} {m n : Nat} (h2 : r2 % 18446744069414584321 = ipow x m) (h3 : r3 % 18446744069414584321 = ipow x n) : (r2 * r3) % 18446744069414584321 = ipow x (m + n) := by
  rw [ipow_add, ← h2, ← h3, ← Int.mul_emod]

/-- A power, reduced: what 'zzRed(ZZPowMod(..))' comes to, where the power is known. -/
theorem red_of {r q : Int} (h0 : 0 ≤ r) (h1 : r ≤ 18446744073709551615) (h : r % 18446744069414584321 = q) (w : World) : Calls Try.prog 7 #[.int .u64 r] w fun e w' => e = .returned (.int .u64 q) ∧ w' = w := by
  rw [← h]; exact red7 r h0 h1 w
theorem mul_of {r s q : Int} (h0 : 0 ≤ r) (h1 : r ≤ 18446744073709551615) (h2 : 0 ≤ s) (h3 : s ≤ 18446744073709551615) (h : (r * s) % 18446744069414584321 = q) (w : World) : Calls Try.prog 9 #[.int .u64 r, .int .u64 s] w fun e w' => e = .returned (.int .u64 q) ∧ w' = w := by
  rw [← h]; exact mul9 r s h0 h1 h2 h3 w

set_option maxHeartbeats 400000 in
theorem walk4 (x e1 e2 : Int) (hx : 0 ≤ x) (hx' : x ≤ 18446744073709551615) (he1 : 0 ≤ e1) (he1' : e1 ≤ 18446744073709551615) (he2 : 0 ≤ e2) (he2' : e2 ≤ 18446744073709551615) (w : World) :
    Calls Try.prog 4 #[.int .u64 x, .int .u64 e1, .int .u64 e2] w fun e w' => e = .returned (.bool true) ∧ w' = w := by
  by_cases hov : 18446744073709551615 - e2 < e1
  · go_enter Try.func4, Try.ntmps4
    go_wp2
    go_ret
    exact ⟨rfl, rfl⟩
  obtain ⟨q, hq⟩ : ∃ q, ipow x (e1.toNat + e2.toNat) = q := ⟨_, rfl⟩
  obtain ⟨z, hz⟩ : ∃ z, x % 18446744069414584321 = z := ⟨_, rfl⟩
  have hz0 : 0 ≤ z := by omega
  have HQ := hide hq
  have HZ := hide hz
  clear hq hz
  go_enter Try.func4, Try.ntmps4
  go_wp2_with fail
  refine (zzPow10 x (e1 + e2) hx hx' (by omega) (by omega) _).mono ?_
  rintro _ w' ⟨⟨r1, rfl, a0, a1, a2⟩, hw⟩
  obtain rfl := hw.symm
  rw [show (e1 + e2).toNat = e1.toNat + e2.toNat by omega, unhide HQ] at a2
  have A2 := hide a2
  clear a2
  go_wp2_with fail
  refine (red_of a0 a1 (unhide A2) _).mono ?_
  rintro _ w' ⟨rfl, hw⟩
  obtain rfl := hw.symm
  clear A2
  go_wp2_with fail
  refine (zzPow10 x e1 hx hx' he1 he1' _).mono ?_
  rintro _ w' ⟨⟨r2, rfl, b0, b1, b2⟩, hw⟩
  obtain rfl := hw.symm
  have B2 := hide b2
  clear b2
  go_wp2_with fail
  refine (zzPow10 x e2 hx hx' he2 he2' _).mono ?_
  rintro _ w' ⟨⟨r3, rfl, c0, c1, c2⟩, hw⟩
  obtain rfl := hw.symm
  have C2 := hide c2
  clear c2
  go_wp2_with fail
  refine (mul_of b0 b1 c0 c1 ((mul_ipow (unhide B2) (unhide C2)).trans (unhide HQ)) _).mono ?_
  rintro _ w' ⟨rfl, hw⟩
  obtain rfl := hw.symm
  clear B2 C2
  go_wp2_with fail
  refine (zzPow10 x 18446744069414584321 hx hx' (by decide) (by decide) _).mono ?_
  rintro _ w' ⟨⟨r4, rfl, d0, d1, d2⟩, hw⟩
  obtain rfl := hw.symm
  have D2 := hide (d2.trans ((ipow_p x hx _ rfl).trans (unhide HZ)))
  clear d2
  go_wp2_with fail
  refine (red_of d0 d1 (unhide D2) _).mono ?_
  rintro _ w' ⟨rfl, hw⟩
  obtain rfl := hw.symm
  clear D2
  go_wp2_with fail
  refine (red_of hx hx' (unhide HZ) _).mono ?_
  rintro _ w' ⟨rfl, hw⟩
  obtain rfl := hw.symm
  go_wp2_with fail
  refine (red_of hx hx' (unhide HZ) _).mono ?_
  rintro _ w' ⟨rfl, hw⟩
  obtain rfl := hw.symm
  by_cases hz1 : z = 0
  · have ht : (z != 0) = false := by rw [hz1]; rfl
    clear hz1
    go_wp2
    go_ret
    exact ⟨rfl, rfl⟩
  · have ht : (z != 0) = true := by rw [bne_iff_ne]; exact hz1
    go_wp2_with fail
    refine (zzPow10 x 18446744069414584320 hx hx' (by decide) (by decide) _).mono ?_
    rintro _ w' ⟨⟨r5, rfl, f0, f1, f2⟩, hw⟩
    obtain rfl := hw.symm
    have F2 := hide (f2.trans (ipow_p1 x hx _ rfl (by rw [unhide HZ]; exact hz1)))
    clear f2
    go_wp2_with fail
    refine (red_of f0 f1 (unhide F2) _).mono ?_
    rintro _ w' ⟨rfl, hw⟩
    obtain rfl := hw.symm
    go_wp2
    go_ret
    exact ⟨rfl, rfl⟩

end Go.Proofs.Qxb6003748a.Mod
