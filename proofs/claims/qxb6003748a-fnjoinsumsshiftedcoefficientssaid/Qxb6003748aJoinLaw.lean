/- FnJoinSumsShiftedCoefficients' walk (seat b6003748a). -/
import Derived.Test.Qxb6003748aJoin
namespace Go.Proofs.Qxb6003748a.Row
open Go.RowKit Go.Proofs.Qxb6003748a.Words
set_option linter.unusedVariables false

set_option maxRecDepth 100000 in
set_option maxHeartbeats 1000000 in
theorem walk6 (a : Option Addr) (len cap : Nat) (x y : Int) (cs : List Nat) (w : World) (hl : cs.length = len) (hlen : len ≤ maxLen) (hx : -9223372036854775808 ≤ x) (hx' : x ≤ 9223372036854775807) (hy : -9223372036854775808 ≤ y) (hy' : y ≤ 9223372036854775807) (hcok : Ok cs) (hr : URow w a cs) :
    Calls Try.prog 6 #[.slice a len cap, .int .i64 x, .int .i64 y] w fun e w' => e = .returned (.bool true) ∧ Below w.heap.size w w' := by
  obtain ⟨i0, hi, hz0, hz1, hz2⟩ := info_parts Try.info22
  have C := bytes13 a len cap x y w hlen
  have HC := hide C
  have HL := hide hl
  clear C hl
  go_enter Try.func6, Try.ntmps6
  go_wp2_with fail
  refine (unhide HC).mono ?_
  rintro e w' ⟨⟨r, rfl⟩, hw⟩
  obtain rfl := hw.symm
  clear HC
  cases r
  · go_wp2
    go_ret
    exact ⟨rfl, Below.refl _ _⟩
  by_cases hlong : 131072 < len
  · go_wp2
    go_ret
    exact ⟨rfl, Below.refl _ _⟩
  by_cases h1 : x < 1
  · have d1 : decide (x < 1) = true := by rw [decide_eq_true_eq]; exact h1
    go_wp2
    go_ret
    exact ⟨rfl, Below.refl _ _⟩
  have d1 : decide (x < 1) = false := by rw [decide_eq_false_iff_not]; exact h1
  by_cases h2 : 63 < x
  · have d2 : decide (63 < x) = true := by rw [decide_eq_true_eq]; exact h2
    go_wp2
    go_ret
    exact ⟨rfl, Below.refl _ _⟩
  have d2 : decide (63 < x) = false := by rw [decide_eq_false_iff_not]; exact h2
  by_cases h3 : y < 0
  · have d3 : decide (y < 0) = true := by rw [decide_eq_true_eq]; exact h3
    go_wp2
    go_ret
    exact ⟨rfl, Below.refl _ _⟩
  have d3 : decide (y < 0) = false := by rw [decide_eq_false_iff_not]; exact h3
  by_cases h4 : 4096 < y
  · have d4 : decide (4096 < y) = true := by rw [decide_eq_true_eq]; exact h4
    go_wp2
    go_ret
    exact ⟨rfl, Below.refl _ _⟩
  have d4 : decide (4096 < y) = false := by rw [decide_eq_false_iff_not]; exact h4
  obtain ⟨wd, rfl⟩ := Int.eq_ofNat_of_zero_le (show 0 ≤ x by omega)
  obtain ⟨n, rfl⟩ := Int.eq_ofNat_of_zero_le (show 0 ≤ y by omega)
  have hw1 : 1 ≤ wd := by omega
  have hw2 : wd ≤ 63 := by omega
  have hn : n ≤ 4096 := by omega
  clear h1 h2 h3 h4 hx hx' hy hy'
  go_wp2_with fail
  go_loop [7] (fun I => ∃ k : Nat, k ≤ len ∧ I = .int .i64 k ∧ Hid (∀ i, i < k → cs.getD i 0 < 2 ^ 63)) (fun I => len - (intOf I).toNat)
  case atStart => exact ⟨0, Nat.zero_le _, rfl, fun i hi => by omega⟩
  case round =>
    obtain ⟨k, hk, rfl, HK⟩ := hrel
    by_cases hkl : k < len
    · rcases hr with h | ⟨b, off, had, hc⟩
      · exfalso; have h' := h.out; have := unhide HL; omega
      have hkc : k < cs.length := by have := unhide HL; omega
      have hcell := hc k hkc
      have hcb := hcok.at k
      subst had
      clear hc
      by_cases hbig : 9223372036854775808 ≤ cs.getD k 0
      · generalize cs.getD k 0 = c at *
        have hbig2 : (9223372036854775808 : Int) ≤ (c : Int) := by omega
        go_wp2
        go_ret
        exact ⟨rfl, Below.refl _ _⟩
      · have HK' : Hid (∀ i, i < k + 1 → cs.getD i 0 < 2 ^ 63) := fun i hi' => by
          by_cases e : i = k
          · rw [e]; omega
          · exact unhide HK i (by omega)
        generalize cs.getD k 0 = c at *
        have hbig2 : ¬ (9223372036854775808 : Int) ≤ (c : Int) := by omega
        go_wp2
        go_round
        case rel => exact ⟨k + 1, by omega, by go_num, HK'⟩
        case measure => simp [intOf]; omega
    · have hc63 : ∀ i, cs.getD i 0 < 2 ^ 63 := fun i => by
        by_cases hil : i < k
        · exact unhide HK i hil
        · have : cs.getD i 0 = 0 := by simp [show cs.length ≤ i by have := unhide HL; omega]
          rw [this]; decide
      have HC63 := hide hc63
      clear hc63 HK
      go_wp2_with fail
      refine (clone14 a len cap cs _ (unhide HL) (by omega) hr).mono ?_
      rintro e w1 ⟨⟨a1, cap1, rfl, hr1⟩, hb1⟩
      rw [unhide HL]
      clear hr
      go_wp2_with (at_make; refine wpList_make_full _ rfl _ _ 28 rfl w1.heap.size 22 i0 (.int .u64 0) 1 Try.underlying28 hi hz0 hz1 .i64 .i64 _ _ n rfl rfl (by omega) (by omega) (by rw [hz2]; omega) (by unfold maxLen; omega) (Nat.le_refl _) ?_)
      intro w2 hown1 hgrow1
      have hown2 : Own 22 w2 w1.heap.size (List.replicate n 0) := Own.made hown1
      have hb2 : Below w1.heap.size w1 w2 := (Below.refl _ _).grown hgrow1 (Nat.le_refl _) (fun k hk => by cases hk)
      clear hown1 hgrow1 hi hz0 hz1 hz2
      go_wp2_with fail
      go_loopw [9] (fun I wr => ∃ (i : Nat) (zs : List Nat), i ≤ len ∧ I = .int .i64 i ∧ Hid (zs.length = n) ∧ Ok zs ∧ Own 22 wr w1.heap.size zs ∧ Hid (val zs % 2 ^ (64 * n) = tot cs wd i % 2 ^ (64 * n)) ∧ Below w1.heap.size w1 wr) (fun I _ => len - (intOf I).toNat)
      case atStart => exact ⟨0, _, Nat.zero_le _, rfl, List.length_replicate, Ok.zeros n, hown2, by show val (List.replicate n 0) % _ = _; rw [val_zeros]; rfl, hb2⟩
      case round =>
        clear hown2 hb2
        obtain ⟨i, zs, hil, rfl, HZ, hok, hown, HV, hb⟩ := hrel
        by_cases hlt : i < len
        · rcases hr1.below hb with h | ⟨b, off, had, hc⟩
          · exfalso; have h' := h.out; have := unhide HL; omega
          have hic : i < cs.length := by have := unhide HL; omega
          have hcell := hc i hic
          have hcb := hcok.at i
          obtain ⟨A, hA⟩ : ∃ A : Nat, A = wd * i := ⟨_, rfl⟩
          have hAb : A ≤ 8388608 := by
            rw [hA]
            exact Nat.le_trans (Nat.mul_le_mul hw2 (show i ≤ 131072 by omega)) (by decide)
          have hAi : (i : Int) * (wd : Int) = (A : Int) := by rw [hA, Int.natCast_mul, Int.mul_comm]
          have HV' : Hid (∀ zs', val zs' % 2 ^ (64 * n) = (val zs + cs.getD i 0 * 2 ^ A) % 2 ^ (64 * n) → val zs' % 2 ^ (64 * n) = tot cs wd (i + 1) % 2 ^ (64 * n)) := fun zs' h => by
            rw [h, tot, ← hA, Nat.add_mod, unhide HV, ← Nat.add_mod]
          clear hA hc HV
          subst had
          generalize cs.getD i 0 = c at *
          go_wp2_with fail
          refine (addAt15 w1.heap.size n c A zs _ (unhide HZ) hn hAb (by omega) hok hown).mono ?_
          rintro e w4 ⟨rfl, ⟨xs, hxl, hxok, hxown, hxval⟩, hgr⟩
          rw [unhide HZ] at hxl hxval
          have HX := hide hxl
          have HXV := hide (unhide HV' xs hxval)
          have hlt1 := hown.lt
          have hb4 : Below w1.heap.size w1 w4 := hb.grown hgr (by omega) (fun g hg => by simp at hg; omega)
          clear hxl hxval hgr hown hb HV'
          go_wp2
          go_roundw
          case rel => exact ⟨i + 1, xs, by omega, by go_num, HX, hxok, hxown, HXV, hb4⟩
          case measure => simp [intOf]; omega
        · have htot : Hid (val zs % 2 ^ (64 * n) = tot cs wd cs.length % 2 ^ (64 * n)) := by
            have e : i = cs.length := by have := unhide HL; omega
            show val zs % 2 ^ (64 * n) = tot cs wd cs.length % 2 ^ (64 * n)
            rw [← e]; exact unhide HV
          have hr3 := hr1.below hb
          have hbz := hb.size
          have hb1z := hb1.size
          generalize wr = w3 at *
          clear HV hr1
          go_wp2_with fail
          refine (zzJoin16 a1 len cap1 wd n cs _ (unhide HL) (by omega) hw1 hw2 hn (unhide HC63) hr3).mono ?_
          rintro e w4 ⟨⟨B2, ys, rfl, hyl, hyok, hyown, hyval⟩, hb4⟩
          have hyz : ys = zs := eq_of_mod ys zs n _ hyl (unhide HZ) hyok hok hyval (unhide htot)
          subst hyz
          have hlt3 := hown.lt
          have hown4 : Own 22 w4 w1.heap.size ys := hown.same (hb4.block _ hlt3)
          have hbe : Below w.heap.size w w4 := hb1.trans ((hb.mono hb1z).trans (hb4.mono (by omega)))
          have hcA : Hid (∀ i, i < n → w4.cell? ⟨w1.heap.size, i, none⟩ = some (.int .u64 ((ys.getD i 0 : Nat) : Int))) := fun i hi => hown4.cell i (by rw [hyl]; exact hi)
          have hcB : Hid (∀ i, i < n → w4.cell? ⟨B2, i, none⟩ = some (.int .u64 ((ys.getD i 0 : Nat) : Int))) := fun i hi => hyown.cell i (by rw [hyl]; exact hi)
          clear hyl hyval hyok hyown hown4 hown hok HZ htot hb hb4 hr3
          go_wp2_with fail
          go_loopw [11] (fun I wr => ∃ (i k : Nat), i ≤ n ∧ I = .int .i64 i ∧ wr = w4.drewN k) (fun I _ => n - (intOf I).toNat)
          case atStart => exact ⟨0, 0, Nat.zero_le _, rfl, rfl⟩
          case round =>
            obtain ⟨j, k', hj, rfl, rfl⟩ := hrel
            by_cases hjn : j < n
            · have c1 := unhide hcA j hjn
              have c2 := unhide hcB j hjn
              generalize ys.getD j 0 = z at *
              go_wp2
              go_quiet (fail)
              go_wp2
              go_roundw
              case rel => exact ⟨j + 1, _, by omega, by go_num, rfl⟩
              case measure => simp [intOf]; omega
            · go_wp2
              go_ret
              exact ⟨rfl, below_drewN hbe _⟩

end Go.Proofs.Qxb6003748a.Row
