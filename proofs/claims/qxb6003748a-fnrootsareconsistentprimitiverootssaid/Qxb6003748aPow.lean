/- powMod modulo p; FnPowModLaws' walk (seat b6003748a). -/
import Derived.Test.Qxb6003748aMod3
import Derived.Test.Qxb6003748aFermat
namespace Go.Proofs.Qxb6003748a.Mod
open Go.RowKit
set_option linter.unusedVariables false

/-- x^e modulo p. -/
def ipow (x : Int) (e : Nat) : Int := x ^ e % 18446744069414584321

theorem pow_congr {m a b : Int} (h : a % m = b % m) (n : Nat) : a ^ n % m = b ^ n % m := by
  induction n with
  | zero => simp
  | succ n ih => rw [Int.pow_succ, Int.pow_succ, Int.mul_emod, ih, h, ← Int.mul_emod]

theorem mul_congr {m a b c d : Int} (h : a % m = b % m) (k : c % m = d % m) : (a * c) % m = (b * d) % m := by rw [Int.mul_emod, h, k, ← Int.mul_emod]

theorem pow_half (x : Int) (n : Nat) : x ^ n = x ^ (n % 2) * (x * x) ^ (n / 2) := by
  have e : x * x = x ^ 2 := by rw [Int.pow_succ, Int.pow_succ, Int.pow_zero, Int.one_mul]
  rw [e, ← Int.pow_mul, ← Int.pow_add, Nat.mod_add_div]

theorem step_odd {r x r2 x2 : Int} {n : Nat} (ho : n % 2 = 1) (h1 : r2 % 18446744069414584321 = (r * x) % 18446744069414584321) (h2 : x2 % 18446744069414584321 = (x * x) % 18446744069414584321) :
    (r2 * x2 ^ (n / 2)) % 18446744069414584321 = (r * x ^ n) % 18446744069414584321 := by
  rw [mul_congr h1 (pow_congr h2 (n / 2)), pow_half x n, ho, Int.pow_succ, Int.pow_zero, Int.one_mul, Int.mul_assoc]
theorem step_even {r x x2 : Int} {n : Nat} (ho : n % 2 = 0) (h2 : x2 % 18446744069414584321 = (x * x) % 18446744069414584321) :
    (r * x2 ^ (n / 2)) % 18446744069414584321 = (r * x ^ n) % 18446744069414584321 := by
  rw [mul_congr rfl (pow_congr h2 (n / 2)), pow_half x n, ho, Int.pow_zero, Int.one_mul]

/-- The loop's law. -/
def Left (x : Int) (e : Nat) (x' e' r' : Int) : Prop := (r' * x' ^ e'.toNat) % 18446744069414584321 = ipow x e
theorem Left.start (x e : Int) : Left x e.toNat x e 1 := by unfold Left ipow; rw [Int.one_mul]
theorem Left.done {x : Int} {e : Nat} {x' e' r' : Int} (h : Left x e x' e' r') (h0 : e' = 0) : r' % 18446744069414584321 = ipow x e := by
  unfold Left at h
  rw [h0] at h
  rw [← h]
  simp
theorem Left.odd {x : Int} {e : Nat} {x' e' r' r2 x2 : Int} (h : Left x e x' e' r') (h0 : 0 ≤ e') (ho : e' % 2 = 1) (h1 : r2 % 18446744069414584321 = (r' * x') % 18446744069414584321) (h2 : x2 % 18446744069414584321 = (x' * x') % 18446744069414584321) :
    Left x e x2 (e' / 2) r2 := by
  unfold Left at h ⊢
  rw [← h, show (e' / 2).toNat = e'.toNat / 2 by omega]
  exact step_odd (by omega) h1 h2
theorem Left.even {x : Int} {e : Nat} {x' e' r' x2 : Int} (h : Left x e x' e' r') (h0 : 0 ≤ e') (ho : e' % 2 = 0) (h2 : x2 % 18446744069414584321 = (x' * x') % 18446744069414584321) :
    Left x e x2 (e' / 2) r' := by
  unfold Left at h ⊢
  rw [← h, show (e' / 2).toNat = e'.toNat / 2 by omega]
  exact step_even (by omega) h2

set_option maxHeartbeats 400000 in
theorem pow19 (x e : Int) (hx : 0 ≤ x) (hx' : x ≤ 18446744073709551615) (he : 0 ≤ e) (he' : e ≤ 18446744073709551615) (w : World) :
    Calls Try.prog 19 #[.int .u64 x, .int .u64 e] w fun r w' => RetU (fun r => r % 18446744069414584321 = ipow x e.toNat) r ∧ w' = w := by
  go_enter Try.func19, Try.ntmps19
  go_wp2_with fail
  go_loop [0, 1, 5] (fun X E R => ∃ x' e' r' : Int, 0 ≤ x' ∧ x' ≤ 18446744073709551615 ∧ 0 ≤ e' ∧ e' ≤ 18446744073709551615 ∧ 0 ≤ r' ∧ r' ≤ 18446744073709551615 ∧ X = .int .u64 x' ∧ E = .int .u64 e' ∧ R = .int .u64 r' ∧ Left x e.toNat x' e' r') (fun _ E _ => (intOf E).toNat)
  case atStart => exact ⟨x, e, 1, hx, hx', he, he', by decide, by decide, rfl, rfl, rfl, Left.start x e⟩
  case round =>
    obtain ⟨x', e', r', a0, a1, b0, b1, c0, c1, rfl, rfl, rfl, hL⟩ := hrel
    by_cases hpos : 0 < e'
    · have hbit := and_one_u64 e' b0 b1
      by_cases ho : e' % 2 = 1
      · have ht : (bits BinOp.and IntKind.u64 e' 1 != 0) = true := by rw [hbit, ho]; rfl
        have HO := hide ho
        clear hbit ho
        go_wp2_with fail
        refine (mulMod17 r' x' c0 c1 a0 a1 _).mono ?_
        rintro _ w' ⟨⟨r2, rfl, d0, d1, d2⟩, hw⟩
        obtain rfl := hw.symm
        have H2 := hide d2
        clear d2
        go_wp2_with fail
        refine (mulMod17 x' x' a0 a1 a0 a1 _).mono ?_
        rintro _ w' ⟨⟨x2, rfl, f0, f1, f2⟩, hw⟩
        obtain rfl := hw.symm
        have hN := hL.odd b0 (unhide HO) (unhide H2) f2
        clear f2
        go_wp2
        go_round
        case rel => exact ⟨x2, e' / 2, r2, f0, f1, by omega, by omega, d0, d1, rfl, rfl, rfl, hN⟩
        case measure => simp [intOf]; omega
      · have ho' : e' % 2 = 0 := by omega
        have ht : (bits BinOp.and IntKind.u64 e' 1 != 0) = false := by rw [hbit, ho']; rfl
        have HO := hide ho'
        clear hbit ho ho'
        go_wp2_with fail
        refine (mulMod17 x' x' a0 a1 a0 a1 _).mono ?_
        rintro _ w' ⟨⟨x2, rfl, f0, f1, f2⟩, hw⟩
        obtain rfl := hw.symm
        have hN := hL.even b0 (unhide HO) f2
        clear f2
        go_wp2
        go_round
        case rel => exact ⟨x2, e' / 2, r', f0, f1, by omega, by omega, c0, c1, rfl, rfl, rfl, hN⟩
        case measure => simp [intOf]; omega
    · have hN := hL.done (by omega)
      have HN := hide hN
      clear hN
      go_wp2
      go_ret
      exact ⟨RetU.mk r' rfl c0 c1 (unhide HN), rfl⟩

theorem zzPow10 (x e : Int) (hx : 0 ≤ x) (hx' : x ≤ 18446744073709551615) (he : 0 ≤ e) (he' : e ≤ 18446744073709551615) (w : World) :
    Calls Try.prog 10 #[.int .u64 x, .int .u64 e] w fun r w' => RetU (fun r => r % 18446744069414584321 = ipow x e.toNat) r ∧ w' = w := by
  have C := pow19 x e hx hx' he he' w
  have HC := hide C
  clear C
  go_enter Try.func10, Try.ntmps10
  go_wp2_with fail
  refine (unhide HC).mono ?_
  rintro e w' ⟨⟨r, rfl, h0, h1, h2⟩, hw⟩
  obtain rfl := hw.symm
  have H2 := hide h2
  clear h2
  go_wp2
  go_ret
  exact ⟨RetU.mk r rfl h0 h1 (unhide H2), rfl⟩

theorem ipow_add (x : Int) (m n : Nat) : ipow x (m + n) = (ipow x m * ipow x n) % 18446744069414584321 := by
  unfold ipow
  rw [Int.pow_add, ← Int.mul_emod]

theorem ipow_nat (x : Nat) (e : Nat) : ipow (x : Int) e = ((x ^ e % 18446744069414584321 : Nat) : Int) := by
  unfold ipow
  rw [Int.natCast_emod, Int.natCast_pow]
  rfl

theorem ipow_p (x : Int) (hx : 0 ≤ x) (e : Nat) (he : e = 18446744069414584321) : ipow x e = x % 18446744069414584321 := by
  obtain ⟨x, rfl⟩ := Int.eq_ofNat_of_zero_le hx
  rw [ipow_nat, Fermat.fermat_p x e he]
  rfl

theorem ipow_p1 (x : Int) (hx : 0 ≤ x) (e : Nat) (he : e = 18446744069414584320) (h : x % 18446744069414584321 ≠ 0) : ipow x e = 1 := by
  obtain ⟨x, rfl⟩ := Int.eq_ofNat_of_zero_le hx
  rw [ipow_nat, Fermat.fermat_p1 x e he (by omega)]
  rfl

end Go.Proofs.Qxb6003748a.Mod
