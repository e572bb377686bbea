/- slices.symMergeCmpFunc over diagnostics, a second run of one element (seat b6003736a). -/
import Derived.Test.Qxb6003736aSym1
namespace Go.Proofs.Qxb6003736a.Diag
open Go.RowKit
set_option linter.unusedVariables false

theorem ins_sorted2 (R1 R2 : List D) (x : D) (hs : Sorted (R1 ++ R2)) (hl : ∀ y ∈ R1 ++ R2, y.line < x.line) (h1 : ∀ R0 y, R1 = R0 ++ [y] → y.fl ≤ x.fl) (h2 : ∀ y R3, R2 = y :: R3 → x.fl < y.fl) : Sorted (R1 ++ x :: R2) := by
  obtain ⟨p1, p2, p3⟩ := List.pairwise_append.1 hs
  have a1 : ∀ u ∈ R1, Lt u x := fun u hu => by
    rcases nil_or_snoc R1 with rfl | ⟨R0, y, rfl⟩
    · simp at hu
    · have hy : Lt y x := by have := h1 R0 y rfl; have := hl y (by simp); unfold Lt; omega
      rcases List.mem_append.1 hu with h | h
      · exact ((List.pairwise_append.1 p1).2.2 u h y (by simp)).trans hy
      · simp at h; rw [h]; exact hy
  have a2 : ∀ v ∈ R2, Lt x v := fun v hv => by
    cases R2 with
    | nil => simp at hv
    | cons y R3 =>
      have hy : Lt x y := .inl (h2 y R3 rfl)
      rcases List.mem_cons.1 hv with rfl | h
      · exact hy
      · exact hy.trans ((List.pairwise_cons.1 p2).1 v h)
  refine List.pairwise_append.2 ⟨p1, List.pairwise_cons.2 ⟨a2, p2⟩, fun u hu v hv => ?_⟩
  rcases List.mem_cons.1 hv with rfl | h
  · exact a1 u hu
  · exact p3 u hu v h

set_option maxRecDepth 100000 in
set_option maxHeartbeats 4000000 in
theorem sym2 (B n a m b : Nat) (P L : List D) (x : D) (T : List D) (w : World) (hn : (P ++ L ++ x :: T).length = n) (hnb : n ≤ 1048576) (ha : P.length = a) (hm : a + L.length = m) (hb : m + 1 = b) (hL : 2 ≤ L.length)
    (hbd : ∀ d ∈ L ++ [x], Bd d) (hs : Sorted L) (hl : ∀ y ∈ L, y.line < x.line) (hR : Rw w B (P ++ L ++ x :: T)) :
    Calls Try.prog 36 #[.slice (some ⟨B, 0, none⟩) n n, .int .i64 a, .int .i64 m, .int .i64 b, F26] w fun e w' => e = .returned (.tuple #[]) ∧ (∃ M, M.Perm (L ++ [x]) ∧ Sorted M ∧ Rw w' B (P ++ M ++ T)) ∧ w.grownBy w' (some B) := by
  have hbn : b ≤ n := by rw [← hn]; simp; omega
  have ham : a + 2 ≤ m := by omega
  have hmb : m < b := by omega
  have HN := hide hn
  have HA := hide ha
  have HM := hide hm
  have HB := hide hb
  have HBD := hide hbd
  have HS := hide hs
  have HL := hide hl
  have HRR := hide hR
  have t0 : ¬ (m : Int) - (a : Int) = 1 := by omega
  have t1 : (b : Int) - (m : Int) = 1 := by omega
  clear hn ha hm hb hbd hs hl hR hL
  unfold F26
  go_enter Try.func36, Try.ntmps36
  go_wp2_with fail
  go_loopw [14, 15] (fun I J wr => ∃ (i j : Nat), a ≤ i ∧ i ≤ j ∧ j ≤ m ∧ I = .int .i64 i ∧ J = .int .i64 j ∧ Hid (i = a ∨ ((P ++ L ++ x :: T).getD (i - 1) D.no).fl ≤ x.fl) ∧ Hid (j = m ∨ x.fl < ((P ++ L ++ x :: T).getD j D.no).fl) ∧ w.grownBy wr none) (fun I J _ => (intOf J).toNat - (intOf I).toNat)
  case atStart => exact ⟨a, m, Nat.le_refl _, by omega, Nat.le_refl _, rfl, rfl, .inl rfl, .inl rfl, World.grownBy.refl _ _⟩
  case round =>
    obtain ⟨i, j, hmi, hij, hjb, rfl, rfl, HI, HJ, hg⟩ := hrel
    by_cases hlt : i < j
    · obtain ⟨h, hh⟩ : ∃ h : Nat, ((i : Int) + (j : Int)) / 2 = (h : Int) := ⟨(i + j) / 2, by omega⟩
      have hih : i ≤ h := by omega
      have hhj : h < j := by omega
      have q1 := unhide HA
      have q2 := unhide HM
      have q3 := unhide HB
      have hRw := (unhide HRR).grown hg
      have hlen := unhide HN
      have ex : (P ++ L ++ x :: T).getD m D.no = x := by have := at_mid (P ++ L) T x; rw [show (P ++ L).length = m by simp; omega] at this; simpa using this
      have hy : (P ++ L ++ x :: T).getD h D.no ∈ L := getD_mid P L (x :: T) h (by omega) (by omega)
      obtain ⟨y, hyd⟩ : ∃ y, (P ++ L ++ x :: T).getD h D.no = y := ⟨_, rfl⟩
      rw [hyd] at hy
      obtain ⟨c1, c2, c3, c4⟩ := GW.el hRw m (by omega) x ex
      obtain ⟨d1, d2, d3, d4⟩ := GW.el hRw h (by omega) y hyd
      have HC := cmpAt x y (unhide HBD x (by simp)) (unhide HBD y (by simp [hy]))
      have HYD := hide hyd
      have hah : m < n ∧ h < n := by omega
      obtain ⟨ha1, hh1⟩ := hah
      clear q1 q2 q3 hRw hlen ex hy hyd
      go_wp2_with fail
      refine wp_region_gw (by kernel_rfl) (by kernel_rfl) ?_
      repeat (go_big_quiet_step ((go_at_call 26; exact GW.call _ (unhide HC _))))
      refine wpQuiet_nil ?_
      rintro W ⟨p, hp⟩
      have hW := p.h
      rw [← hp] at hW
      clear hp p c1 c2 c3 c4 d1 d2 d3 d4
      have hgW := grown_trans hg hW
      clear hg hW
      by_cases hyx : x.fl < y.fl
      · have hdec : decide (x.fl - y.fl < 0) = true := by rw [decide_eq_true_eq]; omega
        rw [hdec]
        go_wp2
        go_roundw
        case rel => exact ⟨i, h, by omega, by omega, by omega, rfl, by go_num, HI, .inr (by rw [unhide HYD]; exact hyx), hgW⟩
        case measure => simp [intOf]; omega
      · have hdec : decide (x.fl - y.fl < 0) = false := by rw [decide_eq_false_iff_not]; omega
        rw [hdec]
        go_wp2
        go_roundw
        case rel => exact ⟨h + 1, j, by omega, by omega, by omega, by go_num, rfl, .inr (by rw [Nat.add_sub_cancel, unhide HYD]; omega), HJ, hgW⟩
        case measure => simp [intOf]; omega
    · obtain rfl : i = j := by omega
      have q1 := unhide HA
      have q2 := unhide HM
      have q3 := unhide HB
      obtain ⟨L1, L2, hRe, hR1⟩ := split_at L (i - a) (by omega)
      have hL2 : L2.length = m - i := by rw [hRe] at q2; simp at q2; omega
      have hsrt : Sorted (L1 ++ x :: L2) := by
        refine ins_sorted2 L1 L2 x (by rw [← hRe]; exact unhide HS) (by rw [← hRe]; exact unhide HL) (fun R0 y he => ?_) (fun y R3 he => ?_)
        · have h1 := at_mid (P ++ R0) (L2 ++ x :: T) y
          rw [show (P ++ R0).length = i - 1 by rw [he] at hR1; simp at hR1 ⊢; omega] at h1
          rcases unhide HI with h | h
          · exfalso; rw [he] at hR1; simp at hR1; omega
          · rw [hRe, he] at h
            rw [show P ++ (R0 ++ [y] ++ L2) ++ x :: T = P ++ R0 ++ y :: (L2 ++ x :: T) by simp, h1] at h
            exact h
        · have h1 := at_mid (P ++ L1) (R3 ++ x :: T) y
          rw [show (P ++ L1).length = i by simp; omega] at h1
          rcases unhide HJ with h | h
          · exfalso; rw [he] at hL2; simp at hL2; omega
          · rw [hRe, he] at h
            rw [show P ++ (L1 ++ y :: R3) ++ x :: T = P ++ L1 ++ y :: (R3 ++ x :: T) by simp, h1] at h
            exact h
      have hRw := (unhide HRR).grown hg
      have hg2 := grown_of_none (b := B) hg
      have hlen := unhide HN
      rw [hRe] at hRw hlen
      have HRE := hide hRe
      have HR1 := hide hR1
      have HL2 := hide hL2
      have HSRT := hide hsrt
      have HLEN := hide hlen
      have HRW := hide hRw
      have HG2 := hide hg2
      clear q1 q2 q3 hRe hR1 hL2 hsrt hRw hg2 hlen hg HI HJ
      generalize wr = W0 at *
      go_wp2_with fail
      go_loopw [17] (fun I wr => ∃ (k : Nat) (A C : List D), i ≤ k ∧ k ≤ m ∧ I = .int .i64 k ∧ Hid (L2 = A ++ C) ∧ Hid (i + A.length = k) ∧ Rw wr B (P ++ L1 ++ A ++ x :: C ++ T) ∧ w.grownBy wr (some B)) (fun I _ => (intOf I).toNat - i)
      case atStart => exact ⟨m, L2, [], by omega, Nat.le_refl _, rfl, by show L2 = _; simp, by show _ = _; have := unhide HL2; omega, by simpa using unhide HRW, unhide HG2⟩
      case round =>
        obtain ⟨k, A, C, hak, hki, rfl, HAC, HAL, hR, hg⟩ := hrel
        have q1 := unhide HA
        have q2 := unhide HM
        have q3 := unhide HR1
        have q4 := unhide HAL
        have q5 := unhide HAC
        rcases nil_or_snoc A with hA0 | ⟨A', y, hA0⟩
        · have hk : k = i := by rw [hA0] at q4; simpa using q4.symm
          have hfin : Rw wr B (P ++ (L1 ++ x :: L2) ++ T) := by rw [hA0] at hR q5; rw [q5]; simpa using hR
          clear q1 q2 q3 q4 q5 hR hA0 HAC HAL
          subst hk
          go_wp2
          refine bodyPost_ret (results_none rfl _ _ _) rfl ?_
          exact ⟨rfl, ⟨L1 ++ x :: L2, by rw [unhide HRE]; exact List.perm_middle.trans (List.perm_append_singleton x _).symm, unhide HSRT, by simpa using hfin⟩, hg⟩
        · rw [hA0] at hR q4 q5
          have hk : i < k := by simp at q4; omega
          have hPU : (P ++ L1 ++ A').length = k - 1 := by simp at q4 ⊢; omega
          have hdat : P ++ L1 ++ (A' ++ [y]) ++ x :: C ++ T = (P ++ L1 ++ A') ++ y :: x :: (C ++ T) := by simp
          rw [hdat] at hR
          have hlenD : ((P ++ L1 ++ A') ++ y :: x :: (C ++ T)).length = n := by
            have := unhide HLEN
            rw [q5] at this
            simp at this ⊢
            omega
          have ex : ((P ++ L1 ++ A') ++ y :: x :: (C ++ T)).getD k D.no = x := by
            have e := at_mid (P ++ L1 ++ A' ++ [y]) (C ++ T) x
            rw [show (P ++ L1 ++ A' ++ [y]).length = k by rw [List.length_append, hPU]; simp; omega] at e
            simpa using e
          have ey : ((P ++ L1 ++ A') ++ y :: x :: (C ++ T)).getD (k - 1) D.no = y := by
            have e := at_mid (P ++ L1 ++ A') (x :: (C ++ T)) y
            rwa [hPU] at e
          obtain ⟨c1, c2, c3, c4⟩ := Rw.el hR k (by omega) x ex
          obtain ⟨d1, d2, d3, d4⟩ := Rw.el hR (k - 1) (by omega) y ey
          have fr := fun k => hR.free k
          have hN : Rw (put (put wr B k y) B (k - 1) x) B (P ++ L1 ++ A' ++ x :: (y :: C) ++ T) := by
            have h := (hR.put k (by omega) y).put (k - 1) (by rw [List.length_set]; omega) x
            have e := swap_mid (P ++ L1 ++ A') (C ++ T) x y
            rw [hPU, show k - 1 + 1 = k by omega] at e
            rw [e] at h
            simpa using h
          have hgN := grown_trans hg (grown_trans (put_grown wr B k y) (put_grown _ B (k - 1) x))
          unfold put at hN hgN
          have HNW := hide hN
          have HGN := hide hgN
          have k1 : Hid (L2 = A' ++ y :: C) := by show L2 = _; rw [q5]; simp
          have k2 : Hid (i + A'.length = k - 1) := by show _ = _; simp at q4; omega
          have k4 : (k : Int) - 1 = ((k - 1 : Nat) : Int) := by omega
          have hk2 : (i : Int) < (k : Int) := by omega
          have hkn : k < n := by omega
          have hk0 : 0 < k := by omega
          have hk3 : k - 1 < n := by omega
          have HK4 := hide k4
          clear hN hgN hR hg q1 q2 q3 q4 q5 ex ey hlenD HAC HAL hPU hdat hA0 k4
          go_wp2_with fail
          go_big_region
          go_wp2
          go_roundw
          case rel => exact ⟨k - 1, A', y :: C, by omega, by omega, by rw [unhide HK4], k1, k2, (unhide HNW).drew, grown_drew (unhide HGN)⟩
          case measure => simp [intOf]; omega

end Go.Proofs.Qxb6003736a.Diag
