/- zzAddAt (seat b6003748a). -/
import Derived.Test.Qxb6003748aRow
namespace Go.Proofs.Qxb6003748a.Row
open Go.RowKit Go.Proofs.Qxb6003748a.Words
set_option linter.unusedVariables false

set_option maxHeartbeats 400000 in
theorem addAt15 (B n v off : Nat) (zs : List Nat) (w : World) (hl : zs.length = n) (hn : n ≤ 4096) (hoff : off ≤ 8388608) (hv : v ≤ 18446744073709551615) (hok : Ok zs) (hown : Own 22 w B zs) :
    Calls Try.prog 15 #[.slice (some ⟨B, 0, none⟩) n n, .int .u64 v, .int .i64 off] w fun e w' => e = .returned (.tuple #[]) ∧ Added w w' B zs (v * 2 ^ off) := by
  have HL := hide hl
  obtain ⟨lo, hlo⟩ : ∃ lo : Nat, lo = v * 2 ^ (off % 64) % 2 ^ 64 := ⟨_, rfl⟩
  have hw1 : IntKind.u64.wrap ((v : Int) * 2 ^ (off % 64)) = (lo : Int) := by
    rw [IntKind.wrap_u64, hlo]
    rw [Int.natCast_emod, Int.natCast_mul, Int.natCast_pow]
    rfl
  have hlob : lo ≤ 18446744073709551615 := by omega
  have hsp := split_at v (off / 64) (off % 64)
  rw [Nat.div_add_mod, ← hlo] at hsp
  have HSP := hide hsp
  have HLO := hide hlo
  clear hl hsp hlo
  go_enter Try.func15, Try.ntmps15
  go_wp2_with fail
  rw [show (off : Int) / 64 = ((off / 64 : Nat) : Int) from by omega]
  refine (addWord21 B n (off / 64) lo zs _ (unhide HL) hn (by omega) hlob hok hown).mono ?_
  rintro e w1 ⟨rfl, ⟨xs, hxl, hxok, hxown, hxval⟩, hgr⟩
  by_cases hs : 0 < off % 64
  · obtain ⟨hi, hhi⟩ : ∃ hi : Nat, hi = v / 2 ^ (64 - off % 64) := ⟨_, rfl⟩
    have hhib : hi ≤ 18446744073709551615 := by rw [hhi]; exact Nat.le_trans (Nat.div_le_self _ _) hv
    have hw2 : (v : Int) / 2 ^ (64 - off % 64) = (hi : Int) := by
      rw [hhi, Int.natCast_ediv, Int.natCast_pow]
      rfl
    have HHI := hide hhi
    have HXV := hide hxval
    have HXL := hide hxl
    have hs2 : 0 < (off : Int) % 64 := by omega
    clear hhi hxval hxl
    go_wp2_with fail
    rw [show (off : Int) / 64 + 1 = ((off / 64 + 1 : Nat) : Int) from by omega]
    refine (addWord21 B n (off / 64 + 1) hi xs _ ((unhide HXL).trans (unhide HL)) hn (by omega) hhib hxok hxown).mono ?_
    rintro e w2 ⟨rfl, ⟨ys, hyl, hyok, hyown, hyval⟩, hgr2⟩
    have hfin : Added w w2 B zs (v * 2 ^ off) := by
      refine ⟨⟨ys, hyl.trans (unhide HXL), hyok, hyown, ?_⟩, grownBy_trans hgr hgr2⟩
      rw [unhide HXL] at hyval
      rw [hyval, Nat.add_mod, unhide HXV, ← Nat.add_mod, unhide HSP, hi_part v (off % 64) (by omega), ← unhide HHI, Nat.add_assoc]
    go_wp2
    go_end0
    exact ⟨rfl, hfin⟩
  · have hfin : Added w w1 B zs (v * 2 ^ off) := by
      refine ⟨⟨xs, hxl, hxok, hxown, ?_⟩, hgr⟩
      have hz : v * 2 ^ (off % 64) / 2 ^ 64 = 0 := by
        rw [show off % 64 = 0 by omega, Nat.pow_zero, Nat.mul_one]
        exact Nat.div_eq_of_lt (by omega)
      rw [hxval, unhide HSP, hz, Nat.zero_mul, Nat.add_zero]
    have hs2 : ¬ 0 < (off : Int) % 64 := by omega
    clear hxval
    go_wp2
    go_end0
    exact ⟨rfl, hfin⟩

end Go.Proofs.Qxb6003748a.Row
