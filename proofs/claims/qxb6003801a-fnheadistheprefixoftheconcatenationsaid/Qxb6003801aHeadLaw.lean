/- FnHeadIsThePrefixOfTheConcatenation's walk (seat b6003801a). -/
import Derived.Test.Qxb6003801aHeadPlain
namespace Go.Proofs.Qxb6003801a.Blk
open Go.RowKit
set_option linter.unusedVariables false

theorem tot_congr {xs ys : List B} {k : Nat} (h : ∀ j, j < k → (xs.getD j B.no).bs = (ys.getD j B.no).bs) : tot xs k = tot ys k := by
  rw [← flat_length, ← flat_length, flat_congr h]

set_option maxRecDepth 100000 in
set_option maxHeartbeats 2000000 in
theorem walk4 (a : Option Addr) (len cap : Nat) (n : Int) (zs : List B) (w : World) (hl : zs.length = len) (hlen : len ≤ maxLen) (hn : -9223372036854775808 ≤ n) (hn' : n ≤ 9223372036854775807) (hr : Outer w a zs) (hin : Inner w zs) :
    Calls Try.prog 4 #[.slice a len cap, .int .i64 n] w fun e w' => e = .returned (.bool true) ∧ Below w.heap.size w w' := by
  have C := bytes13 a len cap n zs w hl hlen hr hin
  have C2 := bytes14 a len cap zs w hl hlen hr
  have HC := hide C
  have HC2 := hide C2
  have HL := hide hl
  clear C C2 hl
  go_enter Try.func4, Try.ntmps4
  go_wp2_with fail
  refine (unhide HC).mono ?_
  rintro e w' ⟨⟨r, rfl, hr2⟩, hw⟩
  obtain rfl := hw.symm
  clear HC
  cases r
  · go_wp2
    go_ret
    exact ⟨rfl, Below.refl _ _⟩
  have hsum := hr2 rfl
  clear hr2
  by_cases hlong : 65536 < len
  · go_wp2
    go_ret
    exact ⟨rfl, Below.refl _ _⟩
  go_wp2_with fail
  refine (unhide HC2).mono ?_
  rintro e w' ⟨⟨t, rfl⟩, hw⟩
  obtain rfl := hw.symm
  clear HC2
  by_cases ht : 1048576 < t
  · go_wp2
    go_ret
    exact ⟨rfl, Below.refl _ _⟩
  by_cases hneg : n < 0
  · go_wp2
    go_ret
    exact ⟨rfl, Below.refl _ _⟩
  obtain ⟨n, rfl⟩ := Int.eq_ofNat_of_zero_le (show 0 ≤ n by omega)
  have hn2 : n ≤ 9223372036854775807 := by omega
  rw [unhide HL] at hsum
  have htot : tot zs len ≤ 1048576 := by omega
  clear hneg hn hn' hsum
  go_wp2_with fail
  refine (clone15 a len cap zs _ (unhide HL) (by omega) htot hr hin).mono ?_
  rintro e w1 ⟨⟨a1, xs, rfl, hxl, hxo, hxr, hxs, hxg⟩, hb1⟩
  rw [unhide HL] at hxl ⊢
  have hxtot : tot xs len ≤ 1048576 := by rw [tot_congr (fun j hj => hxs j (by omega))]; exact htot
  have hxin : Inner w1 xs := fun k hk => ⟨hxr k hk, by
    have h1 := (hxg k hk).len
    have h2 := (hxg k hk).max
    unfold maxLen
    omega⟩
  clear hxr hxs htot hr hin HL
  have HXG := hide hxg
  have HXL := hide hxl
  have hb1z := hb1.size
  clear hxg hxl
  go_wp2_with fail
  refine (head16 a1 len len n xs _ (unhide HXL) (by omega) (Nat.le_refl _) (by unfold maxLen; omega) hn2 hxo (unhide HXG)).mono ?_
  rintro e w2 ⟨⟨ao, capo, ys, rfl, hspec, hyo⟩, hb2⟩
  have hf := hspec.facts
  have hxo2 := hxo.below hb2
  have hxin2 := hxin.below hb2
  have hyin := hf.inner hxin2
  obtain ⟨ly, hly⟩ : ∃ ly, ys.length = ly := ⟨_, rfl⟩
  have hlyl : ly ≤ len := by have := hf.len; rw [hly, unhide HXL] at this; exact this
  have hytot : tot ys ly ≤ 1048576 := by
    have := hf.tot_le
    rw [hly, unhide HXL] at this
    omega
  have HF := hide hf
  have HLY := hide hly
  have hb2z := hb2.size
  rw [hly]
  clear hspec hf hly hxo hxin HXG
  go_wp2_with fail
  refine (flatten17 a1 len len xs _ (unhide HXL) (by omega) hxtot hxo2 hxin2).mono ?_
  rintro e w3 ⟨⟨aw, capw, rfl, hwrow⟩, hb3⟩
  have hxo3 := hxo2.below hb3
  have hxin3 := hxin2.below hb3
  have hyo3 := hyo.below hb3
  have hyin3 := hyin.below hb3
  have hb3z := hb3.size
  have HFT : Hid (flat ys ly = (flat xs len).take n) := by
    have := (unhide HF).flat
    rw [unhide HLY, unhide HXL] at this
    exact this
  have hfl := flat_length xs len
  obtain ⟨T, hT⟩ : ∃ T, (flat xs len).length = T := ⟨_, rfl⟩
  have hTb : T ≤ 1048576 := by omega
  have HT := hide hT
  rw [hT]
  clear hxo2 hxin2 hyo hyin hfl hT
  by_cases hnT : n < T
  · skip
    have hLg : (flat ys ly).length = n := by
      rw [unhide HFT, List.length_take, unhide HT]; omega
    have HLg := hide hLg
    clear hLg
    go_wp2_with fail
    refine (flatten17 ao ly capo ys _ (unhide HLY) (by omega) hytot hyo3 hyin3).mono ?_
    rintro e w4 ⟨⟨ag, capg, rfl, hgrow⟩, hb4⟩
    rw [unhide HLg]
    have hxo4 := hxo3.below hb4
    have hxin4 := hxin3.below hb4
    have hyo4 := hyo3.below hb4
    have hyin4 := hyin3.below hb4
    have hwrow4 := hwrow.below hb4
    have hbe : Below w.heap.size w w4 := hb1.trans ((hb2.mono hb1z).trans ((hb3.mono (by omega)).trans (hb4.mono (by omega))))
    have HGW : Hid (∀ i, i < n → (flat ys ly).getD i 0 = (flat xs len).getD i 0) := fun i hi => by
      rw [unhide HFT]
      have hin' : i < n := by omega
      simp [List.getD, hin']
    have hLb : n ≤ 1048576 := by omega
    have HFW := hide hb4
    clear hxo3 hxin3 hyo3 hyin3 hwrow hb1 hb2 hb3 hb4 HFW HFT
    generalize flat xs len = fx at *
    generalize flat ys ly = fy at *
    go_wp2_with fail
    go_loopw [9] (fun i wr => ∃ (k q : Nat), k ≤ n ∧ i = .int .i64 k ∧ wr = w4.drewN q) (fun i _ => n - (intOf i).toNat)
    case atStart => exact ⟨0, 0, Nat.zero_le _, rfl, rfl⟩
    case round =>
      obtain ⟨k, q, hk, rfl, rfl⟩ := hrel
      by_cases hlt : k < n
      · rcases hgrow with h | ⟨b1, o1, ha1, hc1⟩
        · exfalso; have h' := h.out; have := unhide HLg; omega
        rcases hwrow4 with h | ⟨b2, o2, ha2, hc2⟩
        · exfalso; have h' := h.out; have := unhide HT; omega
        have e1 := hc1 k (by have := unhide HLg; omega)
        have e2 := hc2 k (by have := unhide HT; omega)
        rw [unhide HGW k hlt] at e1
        subst ha1 ha2
        clear hc1 hc2
        generalize fx.getD k 0 = z at *
        go_wp2
        go_quiet (fail)
        go_wp2
        go_roundw
        case rel => exact ⟨k + 1, _, by omega, by go_num, rfl⟩
        case measure => simp [intOf]; omega
      · clear hgrow hwrow4 HGW
        go_wp2_with fail
        go_loopw [10] (fun i wr => ∃ (k q : Nat), k ≤ ly ∧ i = .int .i64 k ∧ wr = w4.drewN q) (fun i _ => ly - (intOf i).toNat)
        case atStart => exact ⟨0, q, Nat.zero_le _, rfl, rfl⟩
        case round =>
          obtain ⟨j, q', hj, rfl, hwz⟩ := hrel
          have HWZ := hide hwz
          have hxo5 : Outer wr a1 xs := by rw [hwz]; exact hxo4
          have hyo5 : Outer wr ao ys := by rw [hwz]; exact hyo4
          have hxin5 : Inner wr xs := by rw [hwz]; exact hxin4
          have hyin5 : Inner wr ys := by rw [hwz]; exact hyin4
          have hbe5 : Below w.heap.size w wr := by rw [hwz]; exact below_drewN hbe _
          clear hwz
          by_cases hjl : j + 1 < ly
          · have hjy : j < ys.length := by have := unhide HLY; omega
            have hjx : j < xs.length := by have := unhide HXL; omega
            rcases hyo5 with h | ⟨b1, o1, ha1, hc1⟩
            · exfalso; have h' := h.out; omega
            rcases hxo5 with h | ⟨b2, o2, ha2, hc2⟩
            · exfalso; have h' := h.out; omega
            have e1 := hc1 j hjy
            have e2 := hc2 j hjx
            have hsm := (unhide HF).same j (by rw [unhide HLY]; exact hjl)
            have r1 := (hyin5 j hjy).1
            have r2 := (hxin5 j hjx).1
            have r3 := (hxin5 j hjx).2
            unfold B.val at e1 e2
            rw [hsm] at e1 r1
            subst ha1 ha2
            clear hc1 hc2 hsm hyin5 hxin5
            generalize (xs.getD j B.no).bs = bs at *
            generalize (xs.getD j B.no).a = ax at *
            generalize (xs.getD j B.no).cap = cx at *
            generalize (ys.getD j B.no).a = ay at *
            generalize (ys.getD j B.no).cap = cy at *
            have C := fun W (h1 : BRow W ay bs) (h2 : BRow W ax bs) => same18 ay bs.length cy bs ax cx W rfl r3 h1 h2
            have HC := hide C
            clear C
            have i0 : (j : Int) + 1 < (ly : Int) := by omega
            have i1 : (j : Int) < (ly : Int) := by omega
            have i2 : (j : Int) < (len : Int) := by omega
            go_wp2
            go_quiet ((go_at_call 18; exact Calls.quiet_of (unhide HC _ r1 r2)))
            go_wp2
            go_roundw
            case rel => exact ⟨j + 1, q' + nq, by omega, by go_num, by rw [unhide HWZ, World.drewN_drewN]⟩
            case measure => simp [intOf]; omega
          · have i0 : ¬ ((j : Int) + 1 < (ly : Int)) := by omega
            by_cases hly0 : 0 < ly
            · have hjy : ly - 1 < ys.length := by have := unhide HLY; omega
              have hjx : ly - 1 < xs.length := by have := unhide HXL; omega
              rcases hyo5 with h | ⟨b1, o1, ha1, hc1⟩
              · exfalso; have h' := h.out; omega
              rcases hxo5 with h | ⟨b2, o2, ha2, hc2⟩
              · exfalso; have h' := h.out; omega
              have e1 := hc1 (ly - 1) hjy
              have e2 := hc2 (ly - 1) hjx
              obtain ⟨m, hsm⟩ := (unhide HF).last (ly - 1) (by rw [unhide HLY]; omega)
              have r1 := (hyin5 (ly - 1) hjy).1
              have r2 := (hxin5 (ly - 1) hjx).1
              have r3 := (hxin5 (ly - 1) hjx).2
              unfold B.val at e1 e2
              rw [hsm] at e1 r1
              subst ha1 ha2
              clear hc1 hc2 hsm hyin5 hxin5
              generalize (xs.getD (ly - 1) B.no).bs = bs at *
              generalize (xs.getD (ly - 1) B.no).a = ax at *
              generalize (xs.getD (ly - 1) B.no).cap = cx at *
              generalize (ys.getD (ly - 1) B.no).a = ay at *
              generalize (ys.getD (ly - 1) B.no).cap = cy at *
              obtain ⟨lp, hlp⟩ : ∃ lp, (bs.take m).length = lp := ⟨_, rfl⟩
              obtain ⟨lb, hlb⟩ : ∃ lb, bs.length = lb := ⟨_, rfl⟩
              have hple : lp ≤ lb := by rw [List.length_take] at hlp; omega
              have hlm : lp ≤ m := by rw [List.length_take] at hlp; omega
              have C := fun W (h1 : BRow W ay (bs.take m)) (h2 : BRow W ax bs) => prefix19 ay lp cy (bs.take m) ax lb cx bs W hlp hlb (by rw [← hlb]; exact r3) hple (fun k hk => by simp [List.getD, show k < m by omega]) h1 h2
              rw [hlp] at e1
              rw [hlb] at e2
              have HC := hide C
              clear C hlp hlb r3
              generalize bs.take m = ps at *
              have g0 : decide (0 < (ly : Int)) = true := by rw [decide_eq_true_eq]; omega
              have i1 : IntKind.i64.wrap ((ly : Int) - 1) = (ly : Int) - 1 := by rw [IntKind.wrap_i64]; omega
              have i2 : ((ly : Int) - 1).toNat = ly - 1 := by omega
              have i3 : (ly : Int) - 1 < (ly : Int) := by omega
              have i4 : (ly : Int) - 1 < (len : Int) := by omega
              have i5 : 0 ≤ (ly : Int) - 1 := by omega
              go_wp2_with fail
              go_quiet ((go_at_call 19; exact Calls.quiet_of (unhide HC _ r1 r2)))
              go_wp2
              go_ret
              exact ⟨rfl, below_drewN hbe5 _⟩
            · have g0 : decide (0 < (ly : Int)) = false := by rw [decide_eq_false_iff_not]; omega
              clear hxo5 hyo5 hxin5 hyin5
              go_wp2_with fail
              go_quiet (fail)
              go_wp2
              go_ret
              exact ⟨rfl, below_drewN hbe5 _⟩
  · skip
    have hLg : (flat ys ly).length = T := by
      rw [unhide HFT, List.length_take, unhide HT]; omega
    have HLg := hide hLg
    clear hLg
    go_wp2_with fail
    refine (flatten17 ao ly capo ys _ (unhide HLY) (by omega) hytot hyo3 hyin3).mono ?_
    rintro e w4 ⟨⟨ag, capg, rfl, hgrow⟩, hb4⟩
    rw [unhide HLg]
    have hxo4 := hxo3.below hb4
    have hxin4 := hxin3.below hb4
    have hyo4 := hyo3.below hb4
    have hyin4 := hyin3.below hb4
    have hwrow4 := hwrow.below hb4
    have hbe : Below w.heap.size w w4 := hb1.trans ((hb2.mono hb1z).trans ((hb3.mono (by omega)).trans (hb4.mono (by omega))))
    have HGW : Hid (∀ i, i < T → (flat ys ly).getD i 0 = (flat xs len).getD i 0) := fun i hi => by
      rw [unhide HFT]
      have hin' : i < n := by omega
      simp [List.getD, hin']
    have hLb : T ≤ 1048576 := by omega
    have HFW := hide hb4
    clear hxo3 hxin3 hyo3 hyin3 hwrow hb1 hb2 hb3 hb4 HFW HFT
    generalize flat xs len = fx at *
    generalize flat ys ly = fy at *
    go_wp2_with fail
    go_loopw [9] (fun i wr => ∃ (k q : Nat), k ≤ T ∧ i = .int .i64 k ∧ wr = w4.drewN q) (fun i _ => T - (intOf i).toNat)
    case atStart => exact ⟨0, 0, Nat.zero_le _, rfl, rfl⟩
    case round =>
      obtain ⟨k, q, hk, rfl, rfl⟩ := hrel
      by_cases hlt : k < T
      · rcases hgrow with h | ⟨b1, o1, ha1, hc1⟩
        · exfalso; have h' := h.out; have := unhide HLg; omega
        rcases hwrow4 with h | ⟨b2, o2, ha2, hc2⟩
        · exfalso; have h' := h.out; have := unhide HT; omega
        have e1 := hc1 k (by have := unhide HLg; omega)
        have e2 := hc2 k (by have := unhide HT; omega)
        rw [unhide HGW k hlt] at e1
        subst ha1 ha2
        clear hc1 hc2
        generalize fx.getD k 0 = z at *
        go_wp2
        go_quiet (fail)
        go_wp2
        go_roundw
        case rel => exact ⟨k + 1, _, by omega, by go_num, rfl⟩
        case measure => simp [intOf]; omega
      · clear hgrow hwrow4 HGW
        go_wp2_with fail
        go_loopw [10] (fun i wr => ∃ (k q : Nat), k ≤ ly ∧ i = .int .i64 k ∧ wr = w4.drewN q) (fun i _ => ly - (intOf i).toNat)
        case atStart => exact ⟨0, q, Nat.zero_le _, rfl, rfl⟩
        case round =>
          obtain ⟨j, q', hj, rfl, hwz⟩ := hrel
          have HWZ := hide hwz
          have hxo5 : Outer wr a1 xs := by rw [hwz]; exact hxo4
          have hyo5 : Outer wr ao ys := by rw [hwz]; exact hyo4
          have hxin5 : Inner wr xs := by rw [hwz]; exact hxin4
          have hyin5 : Inner wr ys := by rw [hwz]; exact hyin4
          have hbe5 : Below w.heap.size w wr := by rw [hwz]; exact below_drewN hbe _
          clear hwz
          by_cases hjl : j + 1 < ly
          · have hjy : j < ys.length := by have := unhide HLY; omega
            have hjx : j < xs.length := by have := unhide HXL; omega
            rcases hyo5 with h | ⟨b1, o1, ha1, hc1⟩
            · exfalso; have h' := h.out; omega
            rcases hxo5 with h | ⟨b2, o2, ha2, hc2⟩
            · exfalso; have h' := h.out; omega
            have e1 := hc1 j hjy
            have e2 := hc2 j hjx
            have hsm := (unhide HF).same j (by rw [unhide HLY]; exact hjl)
            have r1 := (hyin5 j hjy).1
            have r2 := (hxin5 j hjx).1
            have r3 := (hxin5 j hjx).2
            unfold B.val at e1 e2
            rw [hsm] at e1 r1
            subst ha1 ha2
            clear hc1 hc2 hsm hyin5 hxin5
            generalize (xs.getD j B.no).bs = bs at *
            generalize (xs.getD j B.no).a = ax at *
            generalize (xs.getD j B.no).cap = cx at *
            generalize (ys.getD j B.no).a = ay at *
            generalize (ys.getD j B.no).cap = cy at *
            have C := fun W (h1 : BRow W ay bs) (h2 : BRow W ax bs) => same18 ay bs.length cy bs ax cx W rfl r3 h1 h2
            have HC := hide C
            clear C
            have i0 : (j : Int) + 1 < (ly : Int) := by omega
            have i1 : (j : Int) < (ly : Int) := by omega
            have i2 : (j : Int) < (len : Int) := by omega
            go_wp2
            go_quiet ((go_at_call 18; exact Calls.quiet_of (unhide HC _ r1 r2)))
            go_wp2
            go_roundw
            case rel => exact ⟨j + 1, q' + nq, by omega, by go_num, by rw [unhide HWZ, World.drewN_drewN]⟩
            case measure => simp [intOf]; omega
          · have i0 : ¬ ((j : Int) + 1 < (ly : Int)) := by omega
            by_cases hly0 : 0 < ly
            · have hjy : ly - 1 < ys.length := by have := unhide HLY; omega
              have hjx : ly - 1 < xs.length := by have := unhide HXL; omega
              rcases hyo5 with h | ⟨b1, o1, ha1, hc1⟩
              · exfalso; have h' := h.out; omega
              rcases hxo5 with h | ⟨b2, o2, ha2, hc2⟩
              · exfalso; have h' := h.out; omega
              have e1 := hc1 (ly - 1) hjy
              have e2 := hc2 (ly - 1) hjx
              obtain ⟨m, hsm⟩ := (unhide HF).last (ly - 1) (by rw [unhide HLY]; omega)
              have r1 := (hyin5 (ly - 1) hjy).1
              have r2 := (hxin5 (ly - 1) hjx).1
              have r3 := (hxin5 (ly - 1) hjx).2
              unfold B.val at e1 e2
              rw [hsm] at e1 r1
              subst ha1 ha2
              clear hc1 hc2 hsm hyin5 hxin5
              generalize (xs.getD (ly - 1) B.no).bs = bs at *
              generalize (xs.getD (ly - 1) B.no).a = ax at *
              generalize (xs.getD (ly - 1) B.no).cap = cx at *
              generalize (ys.getD (ly - 1) B.no).a = ay at *
              generalize (ys.getD (ly - 1) B.no).cap = cy at *
              obtain ⟨lp, hlp⟩ : ∃ lp, (bs.take m).length = lp := ⟨_, rfl⟩
              obtain ⟨lb, hlb⟩ : ∃ lb, bs.length = lb := ⟨_, rfl⟩
              have hple : lp ≤ lb := by rw [List.length_take] at hlp; omega
              have hlm : lp ≤ m := by rw [List.length_take] at hlp; omega
              have C := fun W (h1 : BRow W ay (bs.take m)) (h2 : BRow W ax bs) => prefix19 ay lp cy (bs.take m) ax lb cx bs W hlp hlb (by rw [← hlb]; exact r3) hple (fun k hk => by simp [List.getD, show k < m by omega]) h1 h2
              rw [hlp] at e1
              rw [hlb] at e2
              have HC := hide C
              clear C hlp hlb r3
              generalize bs.take m = ps at *
              have g0 : decide (0 < (ly : Int)) = true := by rw [decide_eq_true_eq]; omega
              have i1 : IntKind.i64.wrap ((ly : Int) - 1) = (ly : Int) - 1 := by rw [IntKind.wrap_i64]; omega
              have i2 : ((ly : Int) - 1).toNat = ly - 1 := by omega
              have i3 : (ly : Int) - 1 < (ly : Int) := by omega
              have i4 : (ly : Int) - 1 < (len : Int) := by omega
              have i5 : 0 ≤ (ly : Int) - 1 := by omega
              go_wp2_with fail
              go_quiet ((go_at_call 19; exact Calls.quiet_of (unhide HC _ r1 r2)))
              go_wp2
              go_ret
              exact ⟨rfl, below_drewN hbe5 _⟩
            · have g0 : decide (0 < (ly : Int)) = false := by rw [decide_eq_false_iff_not]; omega
              clear hxo5 hyo5 hxin5 hyin5
              go_wp2_with fail
              go_quiet (fail)
              go_wp2
              go_ret
              exact ⟨rfl, below_drewN hbe5 _⟩

end Go.Proofs.Qxb6003801a.Blk
