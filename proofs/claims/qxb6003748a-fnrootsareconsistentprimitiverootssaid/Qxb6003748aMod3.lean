/- zzRed, zzAdd, zzMul modulo p; FnMulModAgreesWithShiftAdd's walk (seat b6003748a). -/
import Derived.Test.Qxb6003748aMod2
namespace Go.Proofs.Qxb6003748a.Mod
open Go.RowKit
set_option linter.unusedVariables false

theorem red7 (x : Int) (hx : 0 ≤ x) (hx' : x ≤ 18446744073709551615) (w : World) :
    Calls Try.prog 7 #[.int .u64 x] w fun e w' => e = .returned (.int .u64 (x % 18446744069414584321)) ∧ w' = w := by
  by_cases h : 18446744069414584321 ≤ x
  · have e1 : x % 18446744069414584321 = x - 18446744069414584321 := by omega
    rw [e1]
    go_enter Try.func7, Try.ntmps7
    go_wp2
    go_ret
    exact ⟨rfl, rfl⟩
  · have e1 : x % 18446744069414584321 = x := by omega
    rw [e1]
    clear e1
    go_enter Try.func7, Try.ntmps7
    go_wp2
    go_ret
    exact ⟨rfl, rfl⟩

theorem add18 (x y : Int) (hx : 0 ≤ x) (hx' : x < 18446744069414584321) (hy : 0 ≤ y) (hy' : y < 18446744069414584321) (w : World) :
    Calls Try.prog 18 #[.int .u64 x, .int .u64 y] w fun e w' => e = .returned (.int .u64 ((x + y) % 18446744069414584321)) ∧ w' = w := by
  by_cases h : 18446744069414584321 - y ≤ x
  · have e1 : (x + y) % 18446744069414584321 = x - (18446744069414584321 - y) := by omega
    rw [e1]
    clear e1
    go_enter Try.func18, Try.ntmps18
    go_wp2
    go_ret
    exact ⟨rfl, rfl⟩
  · have e1 : (x + y) % 18446744069414584321 = x + y := by omega
    rw [e1]
    clear e1
    go_enter Try.func18, Try.ntmps18
    go_wp2
    go_ret
    exact ⟨rfl, rfl⟩

/-- What zzMul has gathered when k bits are left. -/
def mulAt (a b : Int) (k : Nat) : Int := (a * (b / 2 ^ k)) % 18446744069414584321

theorem mulAt_bd (a b : Int) (k : Nat) : 0 ≤ mulAt a b k ∧ mulAt a b k < 18446744069414584321 := by unfold mulAt; omega
theorem mulAt_zero (a b : Int) : mulAt a b 0 = (a * b) % 18446744069414584321 := by simp [mulAt]
theorem mulAt_top (a b : Int) (h0 : 0 ≤ b) (h1 : b ≤ 18446744073709551615) : mulAt a b 64 = 0 := by
  have : b / 2 ^ 64 = 0 := Int.ediv_eq_zero_of_lt h0 (by omega)
  unfold mulAt
  rw [this, Int.mul_zero]
  rfl
theorem div_step (b : Int) (k : Nat) : b / 2 ^ k = 2 * (b / 2 ^ (k + 1)) + (b / 2 ^ k) % 2 := by
  have e : b / 2 ^ (k + 1) = b / 2 ^ k / 2 := by
    rw [Int.pow_succ, Int.ediv_ediv_of_nonneg (Int.le_of_lt (Int.pow_pos (by decide)))]
  rw [e]
  omega
theorem div_bd (b : Int) (k : Nat) (h0 : 0 ≤ b) (h1 : b ≤ 18446744073709551615) : 0 ≤ b / 2 ^ k ∧ b / 2 ^ k ≤ 18446744073709551615 := by
  have hp : (0 : Int) < 2 ^ k := Int.pow_pos (by decide)
  exact ⟨Int.ediv_nonneg h0 (Int.le_of_lt hp), Int.le_trans (Int.ediv_le_self _ h0) h1⟩
theorem mulAt_odd (a b : Int) (k : Nat) (h : (b / 2 ^ k) % 2 = 1) : ((mulAt a b (k + 1) + mulAt a b (k + 1)) % 18446744069414584321 + a) % 18446744069414584321 = mulAt a b k := by
  unfold mulAt
  rw [div_step b k, h]
  generalize b / 2 ^ (k + 1) = q
  rw [Int.mul_add, Int.mul_one, Int.mul_left_comm]
  generalize a * q = z
  omega
theorem mulAt_even (a b : Int) (k : Nat) (h : (b / 2 ^ k) % 2 = 0) : (mulAt a b (k + 1) + mulAt a b (k + 1)) % 18446744069414584321 = mulAt a b k := by
  unfold mulAt
  rw [div_step b k, h]
  generalize b / 2 ^ (k + 1) = q
  rw [Int.add_zero, Int.mul_left_comm]
  generalize a * q = z
  omega

set_option maxHeartbeats 400000 in
theorem mul9 (x y : Int) (hx : 0 ≤ x) (hx' : x ≤ 18446744073709551615) (hy : 0 ≤ y) (hy' : y ≤ 18446744073709551615) (w : World) :
    Calls Try.prog 9 #[.int .u64 x, .int .u64 y] w fun e w' => e = .returned (.int .u64 ((x * y) % 18446744069414584321)) ∧ w' = w := by
  have he : (x * y) % 18446744069414584321 = mulAt (x % 18446744069414584321) (y % 18446744069414584321) 0 := by rw [mulAt_zero]; exact Int.mul_emod _ _ _
  have C1 := red7 x hx hx' w
  have C2 := red7 y hy hy' w
  rw [he]
  obtain ⟨a, ha⟩ : ∃ a, x % 18446744069414584321 = a := ⟨_, rfl⟩
  obtain ⟨b, hb⟩ : ∃ b, y % 18446744069414584321 = b := ⟨_, rfl⟩
  have a0 : 0 ≤ a := by omega
  have a1 : a < 18446744069414584321 := by omega
  have b0 : 0 ≤ b := by omega
  have b1 : b < 18446744069414584321 := by omega
  rw [ha] at C1
  rw [hb] at C2
  rw [ha, hb]
  have H1 := hide C1
  have H2 := hide C2
  clear C1 C2 he ha hb
  go_enter Try.func9, Try.ntmps9
  go_wp2_with fail
  refine (unhide H1).mono ?_
  rintro e w' ⟨rfl, hw⟩
  obtain rfl := hw.symm
  go_wp2_with fail
  refine (unhide H2).mono ?_
  rintro e w' ⟨rfl, hw⟩
  obtain rfl := hw.symm
  clear H1 H2
  go_wp2_with fail
  go_loop [5, 6] (fun r i => ∃ k : Nat, k ≤ 64 ∧ i = .int .i64 ((k : Int) - 1) ∧ r = .int .u64 (mulAt a b k)) (fun _ i => (intOf i + 1).toNat)
  case atStart => exact ⟨64, Nat.le_refl _, rfl, by rw [mulAt_top a b b0 (by omega)]⟩
  case round =>
    obtain ⟨k, hk, rfl, rfl⟩ := hrel
    have hbd := mulAt_bd a b k
    by_cases hk0 : 0 < k
    · obtain ⟨r, hr⟩ : ∃ r, mulAt a b k = r := ⟨_, rfl⟩
      rw [hr] at hbd ⊢
      have HR := hide hr
      clear hr
      go_wp2_with fail
      refine (add18 r r hbd.1 hbd.2 hbd.1 hbd.2 _).mono ?_
      rintro e w' ⟨rfl, hw⟩
      obtain rfl := hw.symm
      obtain ⟨d0, d1⟩ := div_bd b (k - 1) b0 (by omega)
      have hbit := and_one_u64 _ d0 d1
      have hst := fun h => mulAt_odd a b (k - 1) h
      have hst' := fun h => mulAt_even a b (k - 1) h
      rw [show k - 1 + 1 = k by omega, unhide HR] at hst hst'
      have Hst := hide hst
      have Hst' := hide hst'
      clear hst hst'
      by_cases hodd : (b / 2 ^ (k - 1)) % 2 = 1
      · have ht : (bits BinOp.and IntKind.u64 (b / 2 ^ (k - 1)) 1 == 1) = true := by rw [hbit, hodd]; rfl
        have HO := hide hodd
        clear hbit hodd
        go_wp2_with fail
        refine (add18 _ a (by omega) (by omega) a0 a1 _).mono ?_
        rintro e w' ⟨rfl, hw⟩
        obtain rfl := hw.symm
        rw [unhide Hst (unhide HO)]
        go_wp2
        go_round
        case rel => exact ⟨k - 1, by omega, by go_num, rfl⟩
        case measure => simp [intOf]; omega
      · have hev : (b / 2 ^ (k - 1)) % 2 = 0 := by omega
        have ht : (bits BinOp.and IntKind.u64 (b / 2 ^ (k - 1)) 1 == 1) = false := by rw [hbit, hev]; rfl
        have HO := hide hev
        clear hbit hodd hev
        rw [unhide Hst' (unhide HO)]
        go_wp2
        go_round
        case rel => exact ⟨k - 1, by omega, by go_num, rfl⟩
        case measure => simp [intOf]; omega
    · obtain rfl : k = 0 := by omega
      go_wp2
      go_ret
      exact ⟨rfl, rfl⟩

theorem zzMulMod8 (x y : Int) (hx : 0 ≤ x) (hx' : x ≤ 18446744073709551615) (hy : 0 ≤ y) (hy' : y ≤ 18446744073709551615) (w : World) :
    Calls Try.prog 8 #[.int .u64 x, .int .u64 y] w fun e w' => RetU (fun r => r % 18446744069414584321 = (x * y) % 18446744069414584321) e ∧ w' = w := by
  have C := mulMod17 x y hx hx' hy hy' w
  have HC := hide C
  clear C
  go_enter Try.func8, Try.ntmps8
  go_wp2_with fail
  refine (unhide HC).mono ?_
  rintro e w' ⟨⟨r, rfl, h0, h1, h2⟩, hw⟩
  obtain rfl := hw.symm
  have H2 := hide h2
  clear h2
  go_wp2
  go_ret
  exact ⟨RetU.mk r rfl h0 h1 (unhide H2), rfl⟩

theorem walk3 (x y : Int) (hx : 0 ≤ x) (hx' : x ≤ 18446744073709551615) (hy : 0 ≤ y) (hy' : y ≤ 18446744073709551615) (w : World) :
    Calls Try.prog 3 #[.int .u64 x, .int .u64 y] w fun e w' => e = .returned (.bool true) ∧ w' = w := by
  have C := zzMulMod8 x y hx hx' hy hy' w
  have D := mul9 x y hx hx' hy hy' w
  obtain ⟨q, hq⟩ : ∃ q, (x * y) % 18446744069414584321 = q := ⟨_, rfl⟩
  rw [hq] at C D
  have HC := hide C
  have HD := hide D
  clear C D hq
  go_enter Try.func3, Try.ntmps3
  go_wp2_with fail
  refine (unhide HC).mono ?_
  rintro e w' ⟨⟨r, rfl, h0, h1, h2⟩, hw⟩
  obtain rfl := hw.symm
  have E := red7 r h0 h1 w
  rw [h2] at E
  have HE := hide E
  clear E h2
  go_wp2_with fail
  refine (unhide HE).mono ?_
  rintro e w' ⟨rfl, hw⟩
  obtain rfl := hw.symm
  go_wp2_with fail
  refine (unhide HD).mono ?_
  rintro e w' ⟨rfl, hw⟩
  obtain rfl := hw.symm
  go_wp2
  go_ret
  exact ⟨by simp, rfl⟩

end Go.Proofs.Qxb6003748a.Mod
