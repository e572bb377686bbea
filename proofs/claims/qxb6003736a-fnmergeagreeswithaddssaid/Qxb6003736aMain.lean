/- FnMergeAgreesWithAdds (seat b6003736a). -/
import Derived.Test.Qxb6003736aPre
namespace Go.Proofs.Qxb6003736a.Diag
open Go.RowKit
set_option linter.unusedVariables false

set_option maxRecDepth 100000 in
set_option maxHeartbeats 4000000 in
theorem main3 (a0 : Option Addr) (l0 c0 : Nat) (z0 : List Int) (a1 : Option Addr) (l1 c1 : Nat) (z1 : List Int) (w : World) (h0 : z0.length = l0) (m0 : l0 ≤ maxLen) (r0 : IRow w a0 z0) (h1 : z1.length = l1) (m1 : l1 ≤ maxLen) (r1 : IRow w a1 z1) :
    Calls Try.prog 3 #[.slice a0 l0 c0, .slice a1 l1 c1] w fun e w' => e = .returned (.bool true) ∧ Below w.heap.size w w' := by
  have H6 := hide (bytes6 a0 l0 c0 a1 l1 c1 w m0 m1)
  have M0 := hide m0
  have M1 := hide m1
  have H0 := hide h0
  have H1 := hide h1
  have R0 := hide r0
  have R1 := hide r1
  unfold maxLen at m0 m1
  clear h0 h1 r0 r1
  go_enter Try.func3, Try.ntmps3
  go_wp2_with fail
  refine (unhide H6).mono ?_
  rintro _ w' ⟨⟨β, rfl, -⟩, hw⟩
  obtain rfl := hw.symm
  clear H6 hw
  cases β
  · go_wp2
    go_ret
    exact ⟨rfl, Below.refl _ _⟩
  by_cases hl0 : 1024 < l0
  · go_wp2
    go_ret
    exact ⟨rfl, Below.refl _ _⟩
  by_cases hl1 : 1024 < l1
  · go_wp2
    go_ret
    exact ⟨rfl, Below.refl _ _⟩
  have HB0 := hide (inBounds7 a0 l0 c0 z0 w (unhide H0) (by omega) (unhide R0))
  have HB1 := hide (inBounds7 a1 l1 c1 z1 w (unhide H1) (by omega) (unhide R1))
  have HD := hide (distinct8 a0 l0 c0 z0 w (unhide H0) (by omega) (unhide R0))
  go_wp2_with fail
  refine (unhide HB0).mono ?_
  rintro _ w' ⟨⟨β, rfl, hβ⟩, hw⟩
  obtain rfl := hw.symm
  clear HB0 hw
  cases β
  · go_wp2
    go_ret
    exact ⟨rfl, Below.refl _ _⟩
  have HN0 := hide (hβ rfl)
  clear hβ
  go_wp2_with fail
  refine (unhide HB1).mono ?_
  rintro _ w' ⟨⟨β, rfl, hβ⟩, hw⟩
  obtain rfl := hw.symm
  clear HB1 hw
  cases β
  · go_wp2
    go_ret
    exact ⟨rfl, Below.refl _ _⟩
  have HN1 := hide (hβ rfl)
  clear hβ
  go_wp2_with fail
  refine (unhide HD).mono ?_
  rintro _ W1 ⟨⟨β, rfl, hβ⟩, hb1⟩
  clear HD
  cases β
  · go_wp2
    go_ret
    exact ⟨rfl, hb1⟩
  have HND := hide (hβ rfl)
  clear hβ
  have HJ := hide (disjoint9 a0 l0 c0 z0 a1 l1 c1 z1 W1 (unhide H0) (by omega) (unhide H1) (by omega) ((unhide R0).below hb1) ((unhide R1).below hb1))
  go_wp2_with fail
  refine (unhide HJ).mono ?_
  rintro _ W2 ⟨⟨β, rfl, hβ⟩, hb2⟩
  clear HJ
  have hb := hb1.trans (hb2.mono hb1.size)
  have hbk := hide hb
  clear hb1 hb2
  cases β
  · go_wp2
    go_ret
    exact ⟨rfl, hb⟩
  clear hb
  have HNE := hide (hβ rfl)
  clear hβ
  have HC := hide (copy10 a0 l0 c0 z0 W2 (unhide H0) (by omega) ((unhide R0).below (unhide hbk)))
  go_wp2_with fail
  refine (unhide HC).mono ?_
  rintro _ W3 ⟨⟨a2, c2, rfl, hr2⟩, hb3⟩
  clear HC
  rw [unhide H0]
  have hbk2 := hide ((unhide hbk).trans (hb3.mono (unhide hbk).size))
  have HR2 := hide hr2
  clear hb3 hbk hr2
  have HC := hide (copy10 a1 l1 c1 z1 W3 (unhide H1) (by omega) ((unhide R1).below (unhide hbk2)))
  go_wp2_with fail
  refine (unhide HC).mono ?_
  rintro _ W4 ⟨⟨a3, c3, rfl, hr3⟩, hb4⟩
  clear HC
  rw [unhide H1]
  have hbk := hide ((unhide hbk2).trans (hb4.mono (unhide hbk2).size))
  have HR3 := hide hr3
  have HR2' := hide ((unhide HR2).below hb4)
  clear hb4 hbk2 hr3 HR2 R0 R1
  go_wp2_with fail
  obtain ⟨W5, hW5⟩ : ∃ W5, W5 = (W4.alloc (Obj.cells #[Value.slice none 0 0, Value.int IntKind.i64 0] 28)).alloc (Obj.cells #[Value.slice none 0 0, Value.int IntKind.i64 0] 28) := ⟨_, rfl⟩
  rw [← hW5]
  obtain ⟨hst, hbe⟩ := St.new W4 W5 hW5
  have HBE : Hid (∀ wr xs ys ca cb, St W5 wr (W4.heap.size + 2) W4.heap.size (W4.heap.size + 1) xs ys ca cb → Below W4.heap.size W4 wr) := fun wr xs ys ca cb h => h.below hbe
  have HROW : Hid (∀ wr xs ys ca cb, St W5 wr (W4.heap.size + 2) W4.heap.size (W4.heap.size + 1) xs ys ca cb → IRow wr a2 z0 ∧ IRow wr a3 z1 ∧ Below w.heap.size w wr) := fun wr xs ys ca cb h =>
    ⟨(unhide HR2').below (unhide HBE wr xs ys ca cb h), (unhide HR3).below (unhide HBE wr xs ys ca cb h), (unhide hbk).trans ((unhide HBE wr xs ys ca cb h).mono (unhide hbk).size)⟩
  have HST := hide hst
  clear hst hbe hW5 HBE HR2' HR3 hbk
  generalize W4.heap.size + 2 = M at *
  generalize W4.heap.size + 1 = pb at *
  generalize W4.heap.size = pa at *
  clear W1 W2 W3 W4 M0 M1 m0 m1
  go_loopw [7] (fun I wr => ∃ k : Nat, k ≤ l0 ∧ I = .int .i64 k ∧ Hid (St W5 wr M pa pb ((P z0 k).foldl add1 []) ((P z0 k).foldl add1 []) k k)) (fun I _ => l0 - (intOf I).toNat)
  case atStart => exact ⟨0, Nat.zero_le _, rfl, HST⟩
  case round =>
    clear HST
    obtain ⟨k, hk, rfl, HST⟩ := hrel
    by_cases hlt : k < l0
    · have hkl : k < z0.length := by rw [unhide H0]; exact hlt
      obtain ⟨b, off, rfl, hc⟩ := (unhide HROW _ _ _ _ _ (unhide HST)).1.at k hkl
      obtain ⟨x, hx⟩ : ∃ x, z0.getD k 0 = x := ⟨_, rfl⟩
      rw [hx] at hc
      have hdd : pD z0 k = ⟨-1 - (k : Int), x, { data := #[112, 114, 101] }, false⟩ := by rw [pD, hx]
      have hd : Bd (pD z0 k) := unhide HN0 _ (getD_mem z0 k hkl)
      have hne : ∀ y ∈ (P z0 k).foldl add1 [], y.fl ≠ (pD z0 k).fl := fun y hy => by
        obtain ⟨j, hj, rfl⟩ := mem_Ps hy
        exact getD_ne z0 (unhide HND) j k hj hkl
      have hnx : (P z0 (k + 1)).foldl add1 [] = add1 ((P z0 k).foldl add1 []) (pD z0 k) := by rw [P_succ, List.foldl_append]; rfl
      rw [hdd] at hd hne hnx
      have HNX := hide hnx
      have HD := hide hd
      have HNE2 := hide hne
      clear hd hne hnx hdd hx hkl
      generalize List.foldl add1 [] (P z0 k) = L at *
      go_wp2_with fail
      have hW : wr.grownBy (wr.alloc (.cells #[.int .i64 (-1 - (k : Int)), .int .i64 x, .string { data := #[112, 114, 101] }, .bool false] 30)) none := World.grownBy_alloc _ _ _
      refine (addA2 W5 wr _ M pa pb L L k k ⟨-1 - (k : Int), x, { data := #[112, 114, 101] }, false⟩ (unhide HST) hW (unhide HD) (by omega) (by omega) (unhide HNE2)).mono ?_
      rintro _ w5 ⟨rfl, hs5, hk5⟩
      have hbx := (hk5 wr.heap.size (Nat.le_refl _) (by simp)).trans (heap_alloc_new wr _)
      have x1 : w5.cell? ⟨wr.heap.size, 0, none⟩ = some (.int .i64 (-1 - (k : Int))) := by simp [World.cell?, hbx]
      have x2 : w5.cell? ⟨wr.heap.size, 1, none⟩ = some (.int .i64 x) := by simp [World.cell?, hbx]
      have x3 : w5.cell? ⟨wr.heap.size, 2, none⟩ = some (.string { data := #[112, 114, 101] }) := by simp [World.cell?, hbx]
      have x4 : w5.cell? ⟨wr.heap.size, 3, none⟩ = some (.bool false) := by simp [World.cell?, hbx]
      have HS5 := hide hs5
      clear hW hs5 hk5 hbx hc HST
      go_wp2_with fail
      refine (addB W5 w5 M pa pb _ L (k + 1) k ⟨-1 - (k : Int), x, { data := #[112, 114, 101] }, false⟩ (unhide HS5) (unhide HD) (by omega) (by omega) (unhide HNE2)).mono ?_
      rintro _ w6 ⟨rfl, hs6⟩
      rw [← unhide HNX] at hs6
      have HS6 := hide hs6
      clear x1 x2 x3 x4 hs6 HS5 HNX HD HNE2
      go_wp2
      go_roundw
      case rel => exact ⟨k + 1, by omega, by go_num, HS6⟩
      case measure => simp [intOf]; omega
    · obtain rfl : l0 = k := by omega
      have HXF : Hid (∀ x ∈ (P z0 l0).foldl add1 [], ∀ o ∈ O z1 l1, x.fl ≠ o.fl) := fun x hx o ho => by
        obtain ⟨j, hj, rfl⟩ := mem_Ps hx
        obtain ⟨i, hi, rfl⟩ := mem_O ho
        exact unhide HNE _ (getD_mem z0 j (by rw [unhide H0]; exact hj)) _ (getD_mem z1 i (by rw [unhide H1]; exact hi))
      generalize List.foldl add1 [] (P z0 l0) = L at *
      generalize wr = W6 at *
      obtain ⟨i30, hi30, hz30, hs30, hy30⟩ := info30
      go_wp2_with (at_make; refine wpList_make_full _ rfl _ _ 26 rfl W6.heap.size 30 i30 D.no.val 4 Try.underlying26 hi30 hz30 hs30 .i64 .i64 _ _ l1 rfl rfl (by omega) (by omega) (by rw [hy30]; omega) (by unfold maxLen; omega) (Nat.le_refl _) ?_; intro W7 hown7 hg7; have HR7 := hide (madeD hown7); have HG7 := hide hg7; clear hown7 hg7)
      clear hi30 hz30 hs30 hy30
      have HG7' : Hid (W6.grownBy W7 (some W6.heap.size)) := grown_of_none (unhide HG7)
      have HR7' : Hid (Rw W7 W6.heap.size (halfD z1 l1 0)) := by show Rw _ _ _; rw [halfD_zero]; exact unhide HR7
      clear HG7 HR7
      go_loopw [10] (fun I wr => ∃ j : Nat, j ≤ l1 ∧ I = .int .i64 j ∧ Hid (W6.grownBy wr (some W6.heap.size)) ∧ Hid (Rw wr W6.heap.size (halfD z1 l1 j))) (fun I _ => l1 - (intOf I).toNat)
      case atStart => exact ⟨0, Nat.zero_le _, rfl, HG7', HR7'⟩
      case round =>
        clear HG7' HR7'
        obtain ⟨j, hj, rfl, HG, HR⟩ := hrel
        by_cases hjl : j < l1
        · have hjz : j < z1.length := by rw [unhide H1]; exact hjl
          have hrow := (unhide HROW _ _ _ _ _ ((unhide HST).grown _ (unhide HG) (fun g e => by simp at e; omega))).2.1
          obtain ⟨b, off, rfl, hc⟩ := hrow.at j hjz
          obtain ⟨x, hx⟩ : ∃ x, z1.getD j 0 = x := ⟨_, rfl⟩
          rw [hx] at hc
          have hbd : bD z1 j = ⟨j, x, { data := #[] }, (j : Int) % 3 == 0⟩ := by rw [bD, hx]
          obtain ⟨y, hy⟩ : ∃ y, (halfD z1 l1 j).getD j D.no = y := ⟨_, rfl⟩
          obtain ⟨d1, d2, d3, d4⟩ := Rw.el (unhide HR) j (by rw [halfD_length] <;> omega) y hy
          have fr := fun k => (unhide HR).free k
          have hN := (unhide HR).put j (by rw [halfD_length] <;> omega) (bD z1 j)
          rw [halfD_set z1 l1 j hjl, hbd] at hN
          have hgN := grown_trans (unhide HG) (put_grown wr W6.heap.size j (bD z1 j))
          rw [hbd] at hgN
          unfold put at hN hgN
          have HN := hide hN
          have HGN := hide hgN
          clear hN hgN hbd hy hx hrow HR HG hjz
          go_wp2_with fail
          go_roundw
          case rel => exact ⟨j + 1, by omega, by go_num, HGN, HN⟩
          case measure => simp [intOf]; omega
        · obtain rfl : l1 = j := by omega
          have HM := hide (mergeA W5 W6 wr M pa pb L L (O z1 l1) l0 l0 l1 (unhide HST) (unhide HG) (by have := unhide HR; rw [halfD_full] at this; exact this) (O_length _ _) (by omega)
            (fun x hx => by obtain ⟨i, hi, rfl⟩ := mem_O hx; exact unhide HN1 _ (getD_mem z1 i (by rw [unhide H1]; exact hi))) (O_rise _ _) (by omega) (by omega) (unhide HXF))
          clear HR HG HST
          generalize wr = W8 at *
          go_wp2_with fail
          refine (unhide HM).mono ?_
          rintro _ W9 ⟨rfl, S, hS1, hS2, hst⟩
          clear HM
          have HBW := hide (both_ways z1 l1 L S hS1 hS2 hst.good.2 (unhide HXF))
          have HST := hide hst
          have HFN : Hid (∀ j, j < l1 → IsFirst (O z1 l1) j → ∀ x ∈ (Fk (O z1 l1) j).foldl add1 L, x.fl ≠ (bD z1 j).fl) := fun j hj hf => first_new z1 l1 j L hj hf (unhide HXF)
          clear hS1 hS2 hst HXF HND HNE HN0
          generalize List.foldl add1 L (cpt S) = X at *
          generalize (cpt S).length = c at *
          clear hk hlt hj hjl
          go_wp2_with fail
          go_loopw [11, 12] (fun C J wr => ∃ j m : Nat, j ≤ l1 ∧ m ≤ j ∧ C = .int .i64 m ∧ J = .int .i64 j ∧ Hid (m = (Fk (O z1 l1) j).length) ∧ Hid (St W5 wr M pa pb X ((Fk (O z1 l1) j).foldl add1 L) ((l0 : Int) + c) ((l0 : Int) + m))) (fun _ J _ => l1 - (intOf J).toNat)
          case atStart => exact ⟨0, 0, Nat.zero_le _, Nat.le_refl _, rfl, rfl, rfl, by rw [Fk]; simpa using HST⟩
          case round =>
            clear HST
            obtain ⟨j, m, hj, hm, rfl, rfl, HMM, HST⟩ := hrel
            by_cases hjl : j < l1
            · have hjz : j < z1.length := by rw [unhide H1]; exact hjl
              obtain ⟨b, off, rfl, hc⟩ := (unhide HROW _ _ _ _ _ (unhide HST)).2.1.at j hjz
              obtain ⟨x, hx⟩ : ∃ x, z1.getD j 0 = x := ⟨_, rfl⟩
              have HX := hide hx
              clear hc hx hjz
              generalize wr = W10 at *
              go_wp2_with fail
              go_loopw [13, 14] (fun F Q wr => ∃ q : Nat, q ≤ j ∧ F = .bool true ∧ Q = .int .i64 q ∧ Hid (St W5 wr M pa pb X ((Fk (O z1 l1) j).foldl add1 L) ((l0 : Int) + c) ((l0 : Int) + m)) ∧ Hid (∀ i, i < q → z1.getD i 0 ≠ x)) (fun _ Q _ => j - (intOf Q).toNat)
              case atStart => exact ⟨0, Nat.zero_le _, rfl, rfl, HST, fun i hi => by omega⟩
              case round =>
                clear HST
                obtain ⟨q, hq, rfl, rfl, HST, HF⟩ := hrel
                by_cases hqj : q < j
                · have hrow := (unhide HROW _ _ _ _ _ (unhide HST)).2.1
                  obtain ⟨b1, off1, hab, hcj⟩ := hrow.at j (by rw [unhide H1]; exact hjl)
                  simp at hab
                  obtain ⟨rfl, rfl⟩ := hab
                  obtain ⟨b1, off1, hab, hcq⟩ := hrow.at q (by rw [unhide H1]; omega)
                  simp at hab
                  obtain ⟨rfl, rfl⟩ := hab
                  rw [unhide HX] at hcj
                  obtain ⟨y, hy⟩ : ∃ y, z1.getD q 0 = y := ⟨_, rfl⟩
                  rw [hy] at hcq
                  have HY := hide hy
                  clear hrow hy
                  by_cases hxy : y = x
                  · have HNF : Hid (¬ IsFirst (O z1 l1) j) := fun h => (isFirst_O z1 l1 j hjl).1 h q hqj (by rw [unhide HX, unhide HY]; exact hxy)
                    go_wp2_with fail
                    go_quiet (fail)
                    go_wp2
                    go_roundw
                    case rel =>
                      refine ⟨j + 1, m, by omega, by omega, rfl, by go_num, ?_, ?_⟩
                      · show m = _; rw [Fk_no (unhide HNF)]; exact unhide HMM
                      · show St _ _ _ _ _ _ _ _ _; rw [Fk_no (unhide HNF)]; exact (unhide HST).grown none ⟨rfl, rfl, rfl, Nat.le_refl _, fun _ _ _ => rfl⟩ (fun g e => by simp at e)
                    case measure => simp [intOf]; omega
                  · go_wp2_with fail
                    go_quiet (fail)
                    go_wp2
                    go_roundw
                    case rel =>
                      refine ⟨q + 1, by omega, rfl, by go_num, ?_, fun i hi => ?_⟩
                      · exact (unhide HST).grown none ⟨rfl, rfl, rfl, Nat.le_refl _, fun _ _ _ => rfl⟩ (fun g e => by simp at e)
                      · rcases Nat.lt_or_ge i q with h | h
                        · exact unhide HF i h
                        · obtain rfl : i = q := by omega
                          rw [unhide HY]; exact hxy
                    case measure => simp [intOf]; omega
                · have HIF : Hid (IsFirst (O z1 l1) j) := (isFirst_O z1 l1 j hjl).2 (fun i hi => by rw [unhide HX]; exact unhide HF i (by omega))
                  obtain ⟨b1, off1, hab, hcj⟩ := (unhide HROW _ _ _ _ _ (unhide HST)).2.1.at j (by rw [unhide H1]; exact hjl)
                  simp at hab
                  obtain ⟨rfl, rfl⟩ := hab
                  rw [unhide HX] at hcj
                  have hbd : bD z1 j = ⟨j, x, { data := #[] }, (j : Int) % 3 == 0⟩ := by rw [bD, unhide HX]
                  have hnx : (Fk (O z1 l1) (j + 1)).foldl add1 L = add1 ((Fk (O z1 l1) j).foldl add1 L) (bD z1 j) := by rw [Fk_yes (unhide HIF), List.foldl_append, O_getD _ _ _ hjl]; rfl
                  have hnl : m + 1 = (Fk (O z1 l1) (j + 1)).length := by rw [Fk_yes (unhide HIF), List.length_append, unhide HMM]; rfl
                  have hd : Bd (bD z1 j) := unhide HN1 _ (getD_mem z1 j (by rw [unhide H1]; exact hjl))
                  have hne := unhide HFN j hjl (unhide HIF)
                  rw [hbd] at hnx hd hne
                  have HNX := hide hnx
                  have HNL := hide hnl
                  have HD := hide hd
                  have HNE2 := hide hne
                  clear hnx hnl hd hne hbd HIF
                  obtain rfl : j = q := by omega
                  go_wp2_with fail
                  refine (addB W5 wr M pa pb X _ _ _ ⟨j, x, { data := #[] }, (j : Int) % 3 == 0⟩ (unhide HST) (unhide HD) (by omega) (by omega) (unhide HNE2)).mono ?_
                  rintro _ w6 ⟨rfl, hs6⟩
                  rw [← unhide HNX] at hs6
                  rw [show (l0 : Int) + m + 1 = (l0 : Int) + ((m + 1 : Nat) : Int) by omega] at hs6
                  have HS6 := hide hs6
                  clear hs6 HNX HD HNE2 hcj HST HF
                  go_wp2
                  go_roundw
                  case rel => exact ⟨j + 1, m + 1, by omega, by omega, by go_num, by go_num, HNL, HS6⟩
                  case measure => simp [intOf]; omega
            · obtain rfl : l1 = j := by omega
              obtain ⟨hbw1, hbw2⟩ := unhide HBW
              obtain rfl : m = c := (unhide HMM).trans hbw2
              rw [hbw1] at HST
              clear hbw1 hbw2 HBW HMM HFN HN1
              obtain ⟨va, vb, a1, a2, b1, b2, r⟩ := id (unhide HST)
              have L1 := hide (len13 pa va _ wr a1)
              have L2 := hide (len13 pb vb _ wr b1)
              have S1 := hide (shown14 pa va _ wr a1)
              have S2 := hide (shown14 pb vb _ wr b1)
              obtain ⟨aa, ca, rfl, hA⟩ := a2.form
              obtain ⟨ab, cb, rfl, hB⟩ := b2.form
              have HXL : Hid (X.length ≤ 50) := (unhide HST).good.1.2.1
              have HA := hide hA
              have HB := hide hB
              generalize wr = W11 at *
              clear a1 a2 b1 b2 r hA hB
              go_wp2_with fail
              refine (unhide L1).mono ?_
              rintro _ w' ⟨rfl, hw⟩
              obtain rfl := hw.symm
              clear hw
              go_wp2_with fail
              refine (unhide L2).mono ?_
              rintro _ w' ⟨rfl, hw⟩
              obtain rfl := hw.symm
              clear hw
              go_wp2_with fail
              refine (unhide L1).mono ?_
              rintro _ w' ⟨rfl, hw⟩
              obtain rfl := hw.symm
              clear hw
              go_wp2_with fail
              refine (unhide S1).mono ?_
              rintro _ w' ⟨rfl, hw⟩
              obtain rfl := hw.symm
              clear hw
              go_wp2_with fail
              refine (unhide S2).mono ?_
              rintro _ w' ⟨rfl, hw⟩
              obtain rfl := hw.symm
              clear hw
              clear L1 L2 S1 S2
              obtain ⟨n, hn⟩ : ∃ n, X.length = n := ⟨_, rfl⟩
              rw [hn] at HXL HA HB
              rw [hn]
              have hn50 : n ≤ 50 := unhide HXL
              have HN := hide hn
              clear hn HXL
              go_wp2_with fail
              go_loopw [17] (fun I wr => ∃ i : Nat, i ≤ n ∧ I = .int .i64 i ∧ Hid (W11.grownBy wr none)) (fun I _ => n - (intOf I).toNat)
              case atStart => exact ⟨0, Nat.zero_le _, rfl, World.grownBy.refl _ _⟩
              case round =>
                obtain ⟨i, hi, rfl, HG⟩ := hrel
                by_cases hin : i < n
                · rcases unhide HA with hA | ⟨ba, Ja, rfl, hRa⟩
                  · exact absurd (show n < 1 from hA) (by omega)
                  rcases unhide HB with hB | ⟨bb, Jb, rfl, hRb⟩
                  · exact absurd (show n < 1 from hB) (by omega)
                  obtain ⟨x, hx⟩ : ∃ x, X.getD i D.no = x := ⟨_, rfl⟩
                  have hxl : i < X.length := by rw [unhide HN]; exact hin
                  have hxa : (X ++ Ja).getD i D.no = x := by rw [← hx]; simp [List.getD, List.getElem?_append_left hxl]
                  have hxb : (X ++ Jb).getD i D.no = x := by rw [← hx]; simp [List.getD, List.getElem?_append_left hxl]
                  obtain ⟨p1, p2, p3, p4⟩ := Rw.el (hRa.grown (unhide HG)) i (by simp; omega) x hxa
                  have hltA := (hRa.grown (unhide HG)).lt
                  have hltB := (hRb.grown (unhide HG)).lt
                  obtain ⟨q1, q2, q3, q4⟩ := Rw.el (hRb.grown (unhide HG)) i (by simp; omega) x hxb
                  have HGN : Hid (W11.grownBy ((wr.alloc (.cells #[.int .i64 x.line, .int .i64 x.fl, .string x.txt, .bool x.warn] 30)).alloc (.cells #[.int .i64 x.line, .int .i64 x.fl, .string x.txt, .bool x.warn] 30)) none) := grown_trans (unhide HG) (grown_trans (World.grownBy_alloc _ _ _) (World.grownBy_alloc _ _ _))
                  clear hx hxl hxa hxb hRa hRb HA HB HG
                  go_wp2
                  go_roundw
                  case rel => exact ⟨i + 1, by omega, by go_num, HGN⟩
                  case measure => simp [intOf]; omega
                · go_wp2
                  go_ret
                  exact ⟨rfl, (unhide HROW _ _ _ _ _ ((unhide HST).grown none (unhide HG) (fun g e => by simp at e))).2.2⟩

end Go.Proofs.Qxb6003736a.Diag
