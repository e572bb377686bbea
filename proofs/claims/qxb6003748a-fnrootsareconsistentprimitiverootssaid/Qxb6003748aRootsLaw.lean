/- FnRootsAreConsistentPrimitiveRoots' walk (seat b6003748a). -/
import Derived.Test.Qxb6003748aRoots
import Derived.Test.Qxb6003748aPowLaw
namespace Go.Proofs.Qxb6003748a.Mod
open Go.RowKit
set_option linter.unusedVariables false

theorem pow2_all : ∀ a : Fin 65, ∀ b : Fin 64, 2 ≤ 64 * a.1 + b.1 → 64 * a.1 + b.1 ≤ 4096 → bits .and .i64 ((64 * a.1 + b.1 : Nat) : Int) (((64 * a.1 + b.1 : Nat) : Int) - 1) = 0 → 64 * a.1 + b.1 ∈ [2, 4, 8, 16, 32, 64, 128, 256, 512, 1024, 2048, 4096] := by decide +kernel

theorem pow2_of (n : Nat) (h2 : 2 ≤ n) (h3 : n ≤ 4096) (h : bits .and .i64 (n : Int) ((n : Int) - 1) = 0) : ∃ m, 1 ≤ m ∧ m ≤ 12 ∧ n = 2 ^ m := by
  have e : 64 * (n / 64) + n % 64 = n := Nat.div_add_mod n 64
  have := pow2_all ⟨n / 64, by omega⟩ ⟨n % 64, by omega⟩
  simp only [e] at this
  replace this := this h2 h3 h
  simp only [List.mem_cons, List.not_mem_nil, or_false] at this
  rcases this with h | h | h | h | h | h | h | h | h | h | h | h
  · exact ⟨1, by decide, by decide, h⟩
  · exact ⟨2, by decide, by decide, h⟩
  · exact ⟨3, by decide, by decide, h⟩
  · exact ⟨4, by decide, by decide, h⟩
  · exact ⟨5, by decide, by decide, h⟩
  · exact ⟨6, by decide, by decide, h⟩
  · exact ⟨7, by decide, by decide, h⟩
  · exact ⟨8, by decide, by decide, h⟩
  · exact ⟨9, by decide, by decide, h⟩
  · exact ⟨10, by decide, by decide, h⟩
  · exact ⟨11, by decide, by decide, h⟩
  · exact ⟨12, by decide, by decide, h⟩

theorem isPow11 (n : Nat) (h2 : 2 ≤ n) (h3 : n ≤ 4096) (b : Bool) (hb : (bits .and .i64 (n : Int) ((n : Int) - 1) == 0) = b) (w : World) :
    Calls Try.prog 11 #[.int .i64 n] w fun e w' => e = .returned (.bool b) ∧ w' = w := by
  have hd : decide ((0 : Int) < (n : Int)) = true := by rw [decide_eq_true_eq]; omega
  go_enter Try.func11, Try.ntmps11
  go_wp2
  go_ret
  exact ⟨rfl, rfl⟩

theorem zzRoots12 (m n : Nat) (hm1 : 1 ≤ m) (hm2 : m ≤ 12) (hn : n = 2 ^ m) (w : World) :
    Calls Try.prog 12 #[.int .i64 n] w fun e w' => RootsPost w w' n m e := by
  have C := roots20 m n hm1 hm2 hn w
  have HC := hide C
  clear C hn
  go_enter Try.func12, Try.ntmps12
  go_wp2_with fail
  refine (unhide HC).mono ?_
  rintro e w' ⟨rfl, hw⟩
  have HW := hide hw
  clear hw
  go_wp2
  go_ret
  exact ⟨rfl, unhide HW⟩

set_option maxRecDepth 100000 in
set_option maxHeartbeats 2000000 in
theorem walk5 (z : Int) (hz : -9223372036854775808 ≤ z) (hz' : z ≤ 9223372036854775807) (w : World) :
    Calls Try.prog 5 #[.int .i64 z] w fun e w' => e = .returned (.bool true) ∧ Below w.heap.size w w' := by
  by_cases h1 : z < 2
  · have hd : decide (z < 2) = true := by simpa using h1
    go_enter Try.func5, Try.ntmps5
    go_wp2
    go_ret
    exact ⟨rfl, Below.refl _ _⟩
  by_cases h2 : 4096 < z
  · have hd : decide (z < 2) = false := by simpa using h1
    have hd' : decide (4096 < z) = true := by simpa using h2
    go_enter Try.func5, Try.ntmps5
    go_wp2
    go_ret
    exact ⟨rfl, Below.refl _ _⟩
  obtain ⟨n, rfl⟩ := Int.eq_ofNat_of_zero_le (show 0 ≤ z by omega)
  have hn2 : 2 ≤ n := by omega
  have hn3 : n ≤ 4096 := by omega
  have hd : decide ((n : Int) < 2) = false := by simpa using h1
  have hd' : decide (4096 < (n : Int)) = false := by simpa using h2
  clear h1 h2 hz hz'
  cases hb : (bits .and .i64 (n : Int) ((n : Int) - 1) == 0) with
  | false =>
    have C := isPow11 n hn2 hn3 false hb w
    have HC := hide C
    clear C hb
    go_enter Try.func5, Try.ntmps5
    go_wp2_with fail
    refine (unhide HC).mono ?_
    rintro e w' ⟨rfl, hw⟩
    obtain rfl := hw.symm
    go_wp2
    go_ret
    exact ⟨rfl, Below.refl _ _⟩
  | true =>
    obtain ⟨m, hm1, hm2, hnm⟩ := pow2_of n hn2 hn3 (by simpa using hb)
    have C := isPow11 n hn2 hn3 true hb w
    have D := zzRoots12 m n hm1 hm2 hnm w
    have HC := hide C
    have HD := hide D
    have HN := hide hnm
    clear C D hb hnm
    go_enter Try.func5, Try.ntmps5
    go_wp2_with fail
    refine (unhide HC).mono ?_
    rintro e w' ⟨rfl, hw⟩
    obtain rfl := hw.symm
    go_wp2_with fail
    refine (unhide HD).mono ?_
    rintro e w1 ⟨rfl, zs, hR, hF⟩
    have hcell := fun i hi => hR.cell i hi
    have hbd := fun i => hR.words.at i
    have hbel := hR.below
    have HC := hide hcell
    have HF := hide hF
    have HBD := hide hbd
    clear hcell hR hF HD hbd
    go_wp2_with fail
    go_loopw [4] (fun H wr => ∃ (i h k : Nat), i ≤ m ∧ h ≤ n ∧ 1 ≤ h ∧ H = .int .i64 h ∧ Hid (h = 2 ^ i) ∧ wr = w1.drewN k) (fun H _ => n - (intOf H).toNat)
    case atStart => exact ⟨0, 1, 0, by omega, by omega, by omega, rfl, rfl, rfl⟩
    case round =>
      obtain ⟨i, h, k, him, hhn, hh1, rfl, HH, rfl⟩ := hrel
      by_cases hlt : h < n
      · have him' : i < m := by
          rcases Nat.lt_or_ge i m with h' | h'
          · exact h'
          · exfalso
            have e := unhide HH
            have e' := unhide HN
            have : 2 ^ m ≤ 2 ^ i := Nat.pow_le_pow_right (by decide) h'
            omega
        have h2n : 2 * h ≤ n := by
          have e : 2 ^ (i + 1) ≤ 2 ^ m := Nat.pow_le_pow_right (by decide) him'
          rw [Nat.pow_succ, ← unhide HH, ← unhide HN] at e
          omega
        have HFi : Hid (∀ t, t < h → zs.getD (h + t) 0 % 18446744069414584321 = F i t) := fun t ht => by
          have e := unhide HF i (Nat.zero_le _) him' t (by rw [← unhide HH]; exact ht)
          rw [← unhide HH] at e
          exact e
        have HNX : Hid (2 * h = 2 ^ (i + 1)) := by
          show 2 * h = 2 ^ (i + 1)
          rw [Nat.pow_succ, ← unhide HH, Nat.mul_comm]
        have c0 := unhide HC h hlt
        have b0 := unhide HBD h
        have r0 : zs.getD h 0 % 18446744069414584321 = 1 := by
          have e := unhide HFi 0 (by omega)
          rw [Nat.add_zero, F_zero] at e
          exact e
        have HR0 := hide r0
        clear r0
        generalize zs.getD h 0 = x0 at *
        go_wp2_with fail
        refine (red_of b0.1 b0.2 (unhide HR0) _).mono ?_
        rintro _ w' ⟨rfl, hw⟩
        obtain rfl := hw.symm
        clear HR0
        by_cases hh2 : h < 2
        · go_wp2
          go_roundw
          case rel => exact ⟨i + 1, 2 * h, k, by omega, by omega, by omega, by go_num, HNX, rfl⟩
          case measure => simp [intOf]; omega
        · have c1 := unhide HC (h + 1) (by omega)
          have b1 := unhide HBD (h + 1)
          have HR1 : Hid (zs.getD (h + 1) 0 % 18446744069414584321 = F i 1) := unhide HFi 1 (by omega)
          have hWb := F_bd i 1
          have HG0 := hide (G_zero i)
          obtain ⟨W, hW⟩ : ∃ W, F i 1 = W := ⟨_, rfl⟩
          have HW := hide hW
          rw [hW] at hWb
          have HR1' : Hid (zs.getD (h + 1) 0 % 18446744069414584321 = W) := (unhide HR1).trans hW
          clear hW HR1
          generalize zs.getD (h + 1) 0 = x1 at *
          go_wp2_with fail
          refine (red_of b1.1 b1.2 (unhide HR1') _).mono ?_
          rintro _ w' ⟨rfl, hw⟩
          obtain rfl := hw.symm
          clear HR1' b1 c1 b0 c0
          go_wp2_with fail
          go_loop [6, 7] (fun T S => ∃ (l s : Nat), l ≤ i ∧ s ≤ h ∧ 1 ≤ s ∧ S = .int .i64 s ∧ Hid (s = 2 ^ l) ∧ T = .int .u64 (G i l)) (fun _ S => h - (intOf S).toNat)
          case atStart => exact ⟨0, 1, by omega, by omega, by omega, rfl, rfl, by rw [unhide HG0, unhide HW]⟩
          case round =>
            obtain ⟨l, s, hli, hsh, hs1, rfl, HSl, rfl⟩ := hrel
            have hgb := G_bd i l
            by_cases hst : s < h
            · have hli' : l < i := by
                rcases Nat.lt_or_ge l i with h' | h'
                · exact h'
                · exfalso
                  have e := unhide HH
                  have e' := unhide HSl
                  have : 2 ^ i ≤ 2 ^ l := Nat.pow_le_pow_right (by decide) h'
                  omega
              have h2s : 2 * s ≤ h := by
                have e : 2 ^ (l + 1) ≤ 2 ^ i := Nat.pow_le_pow_right (by decide) hli'
                rw [Nat.pow_succ, ← unhide HSl, ← unhide HH] at e
                omega
              have HS2 : Hid (2 * s = 2 ^ (l + 1)) := by
                show 2 * s = 2 ^ (l + 1)
                rw [Nat.pow_succ, ← unhide HSl, Nat.mul_comm]
              have HGS := hide (G_step i l)
              generalize G i l = g at *
              go_wp2_with fail
              refine (mul_of hgb.1 (by omega) hgb.1 (by omega) (unhide HGS) _).mono ?_
              rintro _ w' ⟨rfl, hw⟩
              obtain rfl := hw.symm
              go_wp2
              go_round
              case rel => exact ⟨l + 1, 2 * s, by omega, by omega, by omega, by go_num, HS2, rfl⟩
              case measure => simp [intOf]; omega
            · have hli' : l = i := by
                rcases Nat.lt_or_ge l i with h' | h'
                · exfalso
                  have e := unhide HH
                  have e' := unhide HSl
                  have : 2 ^ (l + 1) ≤ 2 ^ i := Nat.pow_le_pow_right (by decide) h'
                  rw [Nat.pow_succ] at this
                  omega
                · omega
              subst hli'
              rw [G_top l (by omega)]
              clear hgb
              go_wp2_with fail
              go_loopw [8] (fun J wz => ∃ (j k' : Nat), 1 ≤ j ∧ j ≤ h ∧ J = .int .i64 j ∧ wz = w1.drewN k') (fun J _ => h - (intOf J).toNat)
              case atStart => exact ⟨1, _, by omega, by omega, rfl, rfl⟩
              case round =>
                obtain ⟨j, k', hj1, hjh, rfl, hwz⟩ := hrel
                have HWZ := hide hwz
                have HC' : Hid (∀ (i : Nat), i < n → wr.cell? ⟨w.heap.size, i, none⟩ = some (.int .u64 (zs.getD i 0))) := by
                  rw [hwz]; exact HC
                clear hwz
                by_cases hjl : j < h
                · have d0 := unhide HC' (h + j) (by omega)
                  have d1 := unhide HC' (h + j - 1) (by omega)
                  have e0 := unhide HBD (h + j)
                  have e1 := unhide HBD (h + j - 1)
                  have f0 := unhide HFi j hjl
                  have f1 : (zs.getD (h + j - 1) 0 * W) % 18446744069414584321 = F l j := by
                    have e := unhide HFi (j - 1) (by omega)
                    rw [show h + (j - 1) = h + j - 1 by omega] at e
                    have e2 := F_mul e
                    rw [show j - 1 + 1 = j by omega, unhide HW] at e2
                    exact e2
                  have HF0 := hide f0
                  have HF1 := hide f1
                  clear f0 f1
                  generalize zs.getD (h + j) 0 = y0 at *
                  generalize zs.getD (h + j - 1) 0 = y1 at *
                  generalize F l j = f at *
                  have i0 : (h : Int) + (j : Int) < (n : Int) := by omega
                  have i1 : (h : Int) + (j : Int) - 1 < (n : Int) := by omega
                  have i2 : 0 ≤ (h : Int) + (j : Int) - 1 := by omega
                  have i3 : 0 ≤ (h : Int) + (j : Int) := by omega
                  have i4 : IntKind.i64.wrap ((h : Int) + (j : Int)) = (h : Int) + (j : Int) := by rw [IntKind.wrap_i64]; omega
                  have i5 : IntKind.i64.wrap ((h : Int) + (j : Int) - 1) = (h : Int) + (j : Int) - 1 := by rw [IntKind.wrap_i64]; omega
                  have i6 : ((h : Int) + (j : Int)).toNat = h + j := by omega
                  have i7 : ((h : Int) + (j : Int) - 1).toNat = h + j - 1 := by omega
                  go_wp2
                  go_quiet (first | (go_at_call 7; exact Calls.quiet_of_same (red_of e0.1 e0.2 (unhide HF0) _)) | (go_at_call 9; exact Calls.quiet_of_same (mul_of e1.1 e1.2 hWb.1 (by omega) (unhide HF1) _)))
                  go_wp2
                  go_roundw
                  case rel => exact ⟨j + 1, k' + nq, by omega, by omega, by go_num, by rw [unhide HWZ, World.drewN_drewN]⟩
                  case measure => simp [intOf]; omega
                · by_cases h4 : 4 ≤ h
                  · have hl2 : 2 ≤ l := by
                      rcases Nat.lt_or_ge l 2 with h' | h'
                      · exfalso
                        have e := unhide HH
                        have : 2 ^ l ≤ 2 ^ 1 := Nat.pow_le_pow_right (by decide) (by omega)
                        omega
                      · exact h'
                    have hhalf : h / 2 = 2 ^ (l - 1) := by
                      obtain ⟨q, rfl⟩ : ∃ q, l = q + 1 := ⟨l - 1, by omega⟩
                      rw [unhide HH, Nat.pow_succ, Nat.mul_div_cancel _ (by decide)]; rfl
                    have hfw : (W * W) % 18446744069414584321 = F (l - 1) 1 := by
                      have e := G_step l 0
                      rw [unhide HG0, unhide HW] at e
                      obtain ⟨q, rfl⟩ : ∃ q, l = q + 1 := ⟨l - 1, by omega⟩
                      rw [e]
                      exact G_one q (by omega)
                    have hfr : zs.getD (h / 2 + 1) 0 % 18446744069414584321 = F (l - 1) 1 := by
                      have e := unhide HF (l - 1) (Nat.zero_le _) (by omega) 1 (by rw [← hhalf]; omega)
                      rw [← hhalf] at e
                      exact e
                    have d0 := unhide HC' (h / 2 + 1) (by omega)
                    have e0 := unhide HBD (h / 2 + 1)
                    have HFW := hide hfw
                    have HFR := hide hfr
                    clear hfw hfr hhalf
                    generalize zs.getD (h / 2 + 1) 0 = y0 at *
                    generalize F (l - 1) 1 = f at *
                    have g4 : decide (4 ≤ (h : Int)) = true := by rw [decide_eq_true_eq]; omega
                    have i0 : (h : Int) / 2 + 1 < (n : Int) := by omega
                    have i1 : 0 ≤ (h : Int) / 2 + 1 := by omega
                    have i4 : IntKind.i64.wrap ((h : Int) / 2 + 1) = (h : Int) / 2 + 1 := by rw [IntKind.wrap_i64]; omega
                    have i5 : IntKind.i64.wrap ((h : Int) / 2) = (h : Int) / 2 := by rw [IntKind.wrap_i64]; omega
                    have i6 : (h : Int).tdiv 2 = (h : Int) / 2 := Int.tdiv_eq_ediv_of_nonneg (by omega)
                    have i7 : ((h : Int) / 2 + 1).toNat = h / 2 + 1 := by omega
                    go_wp2_with fail
                    go_quiet (first | (go_at_call 7; exact Calls.quiet_of_same (red_of e0.1 e0.2 (unhide HFR) _)) | (go_at_call 9; exact Calls.quiet_of_same (mul_of hWb.1 (by omega) hWb.1 (by omega) (unhide HFW) _)))
                    go_wp2
                    go_roundw
                    case rel => exact ⟨l + 1, 2 * h, k' + nq, by omega, by omega, by omega, by go_num, HNX, by rw [unhide HWZ, World.drewN_drewN]⟩
                    case measure => simp [intOf]; omega
                  · have g4 : decide (4 ≤ (h : Int)) = false := by rw [decide_eq_false_iff_not]; omega
                    go_wp2_with fail
                    go_quiet (fail)
                    go_wp2
                    go_roundw
                    case rel => exact ⟨l + 1, 2 * h, k' + nq, by omega, by omega, by omega, by go_num, HNX, by rw [unhide HWZ, World.drewN_drewN]⟩
                    case measure => simp [intOf]; omega
      · go_wp2
        go_ret
        exact ⟨rfl, ⟨hbel.os, hbel.tape, hbel.output, hbel.size, hbel.block⟩⟩

end Go.Proofs.Qxb6003748a.Mod
