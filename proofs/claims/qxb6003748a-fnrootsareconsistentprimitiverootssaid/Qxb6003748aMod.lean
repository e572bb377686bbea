/- Contracts of the arithmetic modulo p = 2^64 - 2^32 + 1 (seat b6003748a). -/
import Derived.Test.Qxb6003748aProg
import Derived.WalkKit
import Derived.WalkLawsBesides
import Derived.Lib.Mul64
import Derived.Laws.Bits64b
import Derived.Laws.Externs
namespace Go.Proofs.Qxb6003748a.Mod
open Go.RowKit
set_option linter.unusedVariables false

theorem hide {p : Prop} (h : p) : Hid p := h
theorem unhide {p : Prop} (h : Hid p) : p := h

/-- The model's entries for math/bits.Add64 and Sub64. -/
def addEntry : Array Value → Sem Value := fun args => do
  let (x, y, c) ← Extern.MathBitsCarry.three "Add64" args
  pure (Extern.MathBitsCarry.pair ((x + y + c) % Extern.MathBitsCarry.m64) ((x + y + c) / Extern.MathBitsCarry.m64))
def subEntry : Array Value → Sem Value := fun args => do
  let (x, y, b) ← Extern.MathBitsCarry.three "Sub64" args
  pure (Extern.MathBitsCarry.pair ((x + Extern.MathBitsCarry.m64 - y - b) % Extern.MathBitsCarry.m64) (if x < y + b then 1 else 0))

theorem sub64_no (x y : Int) (hx : 0 ≤ x) (hx' : x ≤ 18446744073709551615) (hy : 0 ≤ y) (h : y ≤ x) (w : World) :
    (callFunc 25 #[.int .u64 x, .int .u64 y, .int .u64 0]).run Try.prog w = .ok (.value (.tuple #[.int .u64 (x - y), .int .u64 0])) w := by
  rw [run_callFunc_extern Try.func25 (by kernel_rfl) (by kernel_rfl) (by kernel_rfl) (e := subEntry) (by kernel_rfl)]
  obtain ⟨x, rfl⟩ := Int.eq_ofNat_of_zero_le hx
  obtain ⟨y, rfl⟩ := Int.eq_ofNat_of_zero_le hy
  have e : (subEntry #[.int .u64 x, .int .u64 y, .int .u64 0]).run Try.prog w = .ok (.tuple #[.int .u64 (((x + 18446744073709551616 - y - 0) % 18446744073709551616 : Nat) : Int), .int .u64 ((if x < y + 0 then 1 else 0 : Nat) : Int)]) w := rfl
  rw [e, if_neg (by omega)]
  have e2 : (((x + 18446744073709551616 - y - 0) % 18446744073709551616 : Nat) : Int) = (x : Int) - (y : Int) := by omega
  rw [e2]
  rfl

theorem sub64_yes (x y : Int) (hx : 0 ≤ x) (hy : 0 ≤ y) (hy' : y ≤ 18446744073709551615) (h : x < y) (w : World) :
    (callFunc 25 #[.int .u64 x, .int .u64 y, .int .u64 0]).run Try.prog w = .ok (.value (.tuple #[.int .u64 (x - y + 18446744073709551616), .int .u64 1])) w := by
  rw [run_callFunc_extern Try.func25 (by kernel_rfl) (by kernel_rfl) (by kernel_rfl) (e := subEntry) (by kernel_rfl)]
  obtain ⟨x, rfl⟩ := Int.eq_ofNat_of_zero_le hx
  obtain ⟨y, rfl⟩ := Int.eq_ofNat_of_zero_le hy
  have e : (subEntry #[.int .u64 x, .int .u64 y, .int .u64 0]).run Try.prog w = .ok (.tuple #[.int .u64 (((x + 18446744073709551616 - y - 0) % 18446744073709551616 : Nat) : Int), .int .u64 ((if x < y + 0 then 1 else 0 : Nat) : Int)]) w := rfl
  rw [e, if_pos (by omega)]
  have e2 : (((x + 18446744073709551616 - y - 0) % 18446744073709551616 : Nat) : Int) = (x : Int) - (y : Int) + 18446744073709551616 := by omega
  rw [e2]
  rfl

theorem add64_no (x y : Int) (hx : 0 ≤ x) (hy : 0 ≤ y) (h : x + y ≤ 18446744073709551615) (w : World) :
    (callFunc 26 #[.int .u64 x, .int .u64 y, .int .u64 0]).run Try.prog w = .ok (.value (.tuple #[.int .u64 (x + y), .int .u64 0])) w := by
  rw [run_callFunc_extern Try.func26 (by kernel_rfl) (by kernel_rfl) (by kernel_rfl) (e := addEntry) (by kernel_rfl)]
  obtain ⟨x, rfl⟩ := Int.eq_ofNat_of_zero_le hx
  obtain ⟨y, rfl⟩ := Int.eq_ofNat_of_zero_le hy
  have e : (addEntry #[.int .u64 x, .int .u64 y, .int .u64 0]).run Try.prog w = .ok (.tuple #[.int .u64 (((x + y + 0) % 18446744073709551616 : Nat) : Int), .int .u64 (((x + y + 0) / 18446744073709551616 : Nat) : Int)]) w := rfl
  rw [e]
  have e2 : (((x + y + 0) % 18446744073709551616 : Nat) : Int) = (x : Int) + (y : Int) := by omega
  have e3 : (((x + y + 0) / 18446744073709551616 : Nat) : Int) = 0 := by omega
  rw [e2, e3]
  rfl

theorem add64_yes (x y : Int) (hx : 0 ≤ x) (hx' : x ≤ 18446744073709551615) (hy : 0 ≤ y) (hy' : y ≤ 18446744073709551615) (h : 18446744073709551615 < x + y) (w : World) :
    (callFunc 26 #[.int .u64 x, .int .u64 y, .int .u64 0]).run Try.prog w = .ok (.value (.tuple #[.int .u64 (x + y - 18446744073709551616), .int .u64 1])) w := by
  rw [run_callFunc_extern Try.func26 (by kernel_rfl) (by kernel_rfl) (by kernel_rfl) (e := addEntry) (by kernel_rfl)]
  obtain ⟨x, rfl⟩ := Int.eq_ofNat_of_zero_le hx
  obtain ⟨y, rfl⟩ := Int.eq_ofNat_of_zero_le hy
  have e : (addEntry #[.int .u64 x, .int .u64 y, .int .u64 0]).run Try.prog w = .ok (.tuple #[.int .u64 (((x + y + 0) % 18446744073709551616 : Nat) : Int), .int .u64 (((x + y + 0) / 18446744073709551616 : Nat) : Int)]) w := rfl
  rw [e]
  have e2 : (((x + y + 0) % 18446744073709551616 : Nat) : Int) = (x : Int) + (y : Int) - 18446744073709551616 := by omega
  have e3 : (((x + y + 0) / 18446744073709551616 : Nat) : Int) = 1 := by omega
  rw [e2, e3]
  rfl

namespace Mul64
theorem maskN (a : Nat) (ha : a < 18446744073709551616) : bits .and .u64 (a : Int) 4294967295 = ((a % 4294967296 : Nat) : Int) := by
  have h := bits_and_u64_nat a 4294967295 ha (by omega)
  have e : a &&& 4294967295 = a % 4294967296 := Nat.and_two_pow_sub_one_eq_mod a 32
  rw [e] at h
  exact h
theorem divN (a : Nat) : (a : Int) / 4294967296 = ((a / 4294967296 : Nat) : Int) := by omega
theorem mulN (a b : Nat) : (a : Int) * (b : Int) = ((a * b : Nat) : Int) := (Int.natCast_mul a b).symm
theorem addN (a b : Nat) : (a : Int) + (b : Int) = ((a + b : Nat) : Int) := (Int.natCast_add a b).symm
theorem wrapN (a : Nat) (ha : a < 18446744073709551616) : IntKind.u64.wrap (a : Int) = (a : Int) := by rw [IntKind.wrap_u64]; omega
theorem wrapM (a : Nat) : IntKind.u64.wrap (a : Int) = ((a % 18446744073709551616 : Nat) : Int) := by rw [IntKind.wrap_u64]; omega
end Mul64

set_option maxHeartbeats 1000000 in
theorem mul64N (x y : Nat) (hx : x < 18446744073709551616) (hy : y < 18446744073709551616) (w : World) :
    Calls Try.prog 24 #[.int .u64 x, .int .u64 y] w fun e w' => e = .returned (.tuple #[.int .u64 ((x * y / 18446744073709551616 : Nat) : Int), .int .u64 ((x * y % 18446744073709551616 : Nat) : Int)]) ∧ w' = w := by
  obtain ⟨bd, bt, bw, hhi⟩ := Lib.mul64_hi x y hx hy
  have ba := Lib.half_mul_le (a := x / 4294967296) (b := y / 4294967296) (by omega) (by omega)
  have bb := Lib.half_mul_le (a := x / 4294967296) (b := y % 4294967296) (by omega) (by omega)
  have bc := Lib.half_mul_le (a := x % 4294967296) (b := y / 4294967296) (by omega) (by omega)
  have ba' : x / 4294967296 * (y / 4294967296) < 18446744073709551616 := by omega
  have bb' : x / 4294967296 * (y % 4294967296) < 18446744073709551616 := by omega
  have bc' : x % 4294967296 * (y / 4294967296) < 18446744073709551616 := by omega
  have bh1 : x / 4294967296 * (y / 4294967296) + (x / 4294967296 * (y % 4294967296) + x % 4294967296 * (y % 4294967296) / 4294967296) / 4294967296 < 18446744073709551616 := by omega
  have bh : x / 4294967296 * (y / 4294967296) + (x / 4294967296 * (y % 4294967296) + x % 4294967296 * (y % 4294967296) / 4294967296) / 4294967296 + ((x / 4294967296 * (y % 4294967296) + x % 4294967296 * (y % 4294967296) / 4294967296) % 4294967296 + x % 4294967296 * (y / 4294967296)) / 4294967296 < 18446744073709551616 := by omega
  go_enter Try.func24, Try.ntmps24
  go_wp2
  simp only [Mul64.maskN x hx, Mul64.maskN y hy, Mul64.divN, Mul64.mulN, Mul64.addN, Mul64.wrapN _ bd, Mul64.wrapN _ bb', Mul64.wrapN _ bt, Mul64.maskN _ bt, Mul64.wrapN _ bc', Mul64.wrapN _ bw, Mul64.wrapN _ ba', Mul64.wrapN _ bh1, Mul64.wrapN _ bh, Mul64.wrapM (x * y)]
  rw [hhi]
  go_ret2
  exact ⟨rfl, rfl⟩

end Go.Proofs.Qxb6003748a.Mod
