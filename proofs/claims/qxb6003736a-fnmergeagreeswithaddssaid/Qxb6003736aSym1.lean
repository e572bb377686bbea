/- slices.symMergeCmpFunc over diagnostics, a first run of one element (seat b6003736a). -/
import Derived.Test.Qxb6003736aRot
namespace Go.Proofs.Qxb6003736a.Diag
open Go.RowKit
set_option linter.unusedVariables false

theorem GW.el {w : World} {b : Nat} {ds : List D} (h : Rw w b ds) (i : Nat) (hi : i < ds.length) (d : D) (hd : ds.getD i D.no = d) :
    (∀ p : GW w, p.w'.cell? ⟨b, i * 4, none⟩ = some (.int .i64 d.line)) ∧ (∀ p : GW w, p.w'.cell? ⟨b, i * 4 + 1, none⟩ = some (.int .i64 d.fl)) ∧
    (∀ p : GW w, p.w'.cell? ⟨b, i * 4 + 2, none⟩ = some (.string d.txt)) ∧ (∀ p : GW w, p.w'.cell? ⟨b, i * 4 + 3, none⟩ = some (.bool d.warn)) := by
  obtain ⟨c1, c2, c3, c4⟩ := h.cell i hi
  rw [hd] at c1 c2 c3 c4
  exact ⟨fun p => p.cell c1 h.lt, fun p => p.cell c2 h.lt, fun p => p.cell c3 h.lt, fun p => p.cell c4 h.lt⟩
theorem Rw.el {w : World} {b : Nat} {ds : List D} (h : Rw w b ds) (i : Nat) (hi : i < ds.length) (d : D) (hd : ds.getD i D.no = d) :
    w.cell? ⟨b, i * 4, none⟩ = some (.int .i64 d.line) ∧ w.cell? ⟨b, i * 4 + 1, none⟩ = some (.int .i64 d.fl) ∧
    w.cell? ⟨b, i * 4 + 2, none⟩ = some (.string d.txt) ∧ w.cell? ⟨b, i * 4 + 3, none⟩ = some (.bool d.warn) := by
  obtain ⟨c1, c2, c3, c4⟩ := h.cell i hi
  rw [hd] at c1 c2 c3 c4
  exact ⟨c1, c2, c3, c4⟩
/-- The comparison at two elements, in whatever world. -/
theorem cmpAt (x y : D) (hx : Bd x) (hy : Bd y) : Hid (∀ W, Calls Try.prog 26 #[.agg #[.int .i64 x.line, .int .i64 x.fl, .string x.txt, .bool x.warn], .agg #[.int .i64 y.line, .int .i64 y.fl, .string y.txt, .bool y.warn]] W
    fun e w' => e = .returned (.int .i64 (x.fl - y.fl)) ∧ W.grownBy w' none) := fun W => cmp26 x y W hx hy
/-- Elements of the middle of a row. -/
theorem getD_mid (P L T : List D) (i : Nat) (h1 : P.length ≤ i) (h2 : i < P.length + L.length) : (P ++ L ++ T).getD i D.no ∈ L := by
  rw [List.getD, List.append_assoc, List.getElem?_append_right h1, List.getElem?_append_left (by omega), List.getElem?_eq_getElem (by omega)]
  simp

theorem ins_sorted (R1 R2 : List D) (x : D) (hs : Sorted (R1 ++ R2)) (hl : ∀ y ∈ R1 ++ R2, x.line < y.line) (h1 : ∀ R0 y, R1 = R0 ++ [y] → y.fl < x.fl) (h2 : ∀ y R3, R2 = y :: R3 → x.fl ≤ y.fl) : Sorted (R1 ++ x :: R2) := by
  obtain ⟨p1, p2, p3⟩ := List.pairwise_append.1 hs
  have a1 : ∀ u ∈ R1, Lt u x := fun u hu => by
    rcases nil_or_snoc R1 with rfl | ⟨R0, y, rfl⟩
    · simp at hu
    · have hy : Lt y x := .inl (h1 R0 y rfl)
      rcases List.mem_append.1 hu with h | h
      · exact ((List.pairwise_append.1 p1).2.2 u h y (by simp)).trans hy
      · simp at h; rw [h]; exact hy
  have a2 : ∀ v ∈ R2, Lt x v := fun v hv => by
    cases R2 with
    | nil => simp at hv
    | cons y R3 =>
      have hy : Lt x y := by have := h2 y R3 rfl; have := hl y (by simp); unfold Lt; omega
      rcases List.mem_cons.1 hv with rfl | h
      · exact hy
      · exact hy.trans ((List.pairwise_cons.1 p2).1 v h)
  refine List.pairwise_append.2 ⟨p1, List.pairwise_cons.2 ⟨a2, p2⟩, fun u hu v hv => ?_⟩
  rcases List.mem_cons.1 hv with rfl | h
  · exact a1 u hu
  · exact p3 u hu v h

set_option maxRecDepth 100000 in
set_option maxHeartbeats 4000000 in
theorem sym1 (B n a m b : Nat) (P : List D) (x : D) (R T : List D) (w : World) (hn : (P ++ x :: R ++ T).length = n) (hnb : n ≤ 1048576) (ha : P.length = a) (hm : a + 1 = m) (hb : m + R.length = b)
    (hbd : ∀ d ∈ x :: R, Bd d) (hs : Sorted R) (hl : ∀ y ∈ R, x.line < y.line) (hR : Rw w B (P ++ x :: R ++ T)) :
    Calls Try.prog 36 #[.slice (some ⟨B, 0, none⟩) n n, .int .i64 a, .int .i64 m, .int .i64 b, F26] w fun e w' => e = .returned (.tuple #[]) ∧ (∃ M, M.Perm (x :: R) ∧ Sorted M ∧ Rw w' B (P ++ M ++ T)) ∧ w.grownBy w' (some B) := by
  have hbn : b ≤ n := by rw [← hn]; simp; omega
  have ham : a < m := by omega
  have hmb : m ≤ b := by omega
  have HN := hide hn
  have HA := hide ha
  have HM := hide hm
  have HB := hide hb
  have HBD := hide hbd
  have HS := hide hs
  have HL := hide hl
  have HRR := hide hR
  have t0 : (m : Int) - (a : Int) = 1 := by omega
  clear hn ha hm hb hbd hs hl hR
  unfold F26
  go_enter Try.func36, Try.ntmps36
  go_wp2_with fail
  go_loopw [10, 11] (fun I J wr => ∃ (i j : Nat), m ≤ i ∧ i ≤ j ∧ j ≤ b ∧ I = .int .i64 i ∧ J = .int .i64 j ∧ Hid (i = m ∨ ((P ++ x :: R ++ T).getD (i - 1) D.no).fl < x.fl) ∧ Hid (j = b ∨ x.fl ≤ ((P ++ x :: R ++ T).getD j D.no).fl) ∧ w.grownBy wr none) (fun I J _ => (intOf J).toNat - (intOf I).toNat)
  case atStart => exact ⟨m, b, Nat.le_refl _, hmb, Nat.le_refl _, rfl, rfl, .inl rfl, .inl rfl, World.grownBy.refl _ _⟩
  case round =>
    obtain ⟨i, j, hmi, hij, hjb, rfl, rfl, HI, HJ, hg⟩ := hrel
    by_cases hlt : i < j
    · obtain ⟨h, hh⟩ : ∃ h : Nat, ((i : Int) + (j : Int)) / 2 = (h : Int) := ⟨(i + j) / 2, by omega⟩
      have hih : i ≤ h := by omega
      have hhj : h < j := by omega
      have q1 := unhide HA
      have q2 := unhide HM
      have q3 := unhide HB
      have hRw := (unhide HRR).grown hg
      have hlen := unhide HN
      have ex : (P ++ x :: R ++ T).getD a D.no = x := by have := at_mid P (R ++ T) x; rw [q1] at this; simpa using this
      have hy : (P ++ x :: R ++ T).getD h D.no ∈ x :: R := getD_mid P (x :: R) T h (by omega) (by simp; omega)
      obtain ⟨y, hyd⟩ : ∃ y, (P ++ x :: R ++ T).getD h D.no = y := ⟨_, rfl⟩
      rw [hyd] at hy
      obtain ⟨c1, c2, c3, c4⟩ := GW.el hRw a (by omega) x ex
      obtain ⟨d1, d2, d3, d4⟩ := GW.el hRw h (by omega) y hyd
      have HC := cmpAt y x (unhide HBD y hy) (unhide HBD x (by simp))
      have HYD := hide hyd
      have hah : a < n ∧ h < n := by omega
      obtain ⟨ha1, hh1⟩ := hah
      clear q1 q2 q3 hRw hlen ex hy hyd
      go_wp2_with fail
      refine wp_region_gw (by kernel_rfl) (by kernel_rfl) ?_
      repeat (go_big_quiet_step ((go_at_call 26; exact GW.call _ (unhide HC _))))
      refine wpQuiet_nil ?_
      rintro W ⟨p, hp⟩
      have hW := p.h
      rw [← hp] at hW
      clear hp p c1 c2 c3 c4 d1 d2 d3 d4
      have hgW := grown_trans hg hW
      clear hg hW
      by_cases hyx : y.fl < x.fl
      · have hdec : decide (y.fl - x.fl < 0) = true := by rw [decide_eq_true_eq]; omega
        go_wp2
        go_roundw
        case rel => exact ⟨h + 1, j, by omega, by omega, by omega, by go_num, rfl, .inr (by rw [Nat.add_sub_cancel, unhide HYD]; exact hyx), HJ, hgW⟩
        case measure => simp [intOf]; omega
      · have hdec : decide (y.fl - x.fl < 0) = false := by rw [decide_eq_false_iff_not]; omega
        go_wp2
        go_roundw
        case rel => exact ⟨i, h, by omega, by omega, by omega, rfl, by go_num, HI, .inr (by rw [unhide HYD]; omega), hgW⟩
        case measure => simp [intOf]; omega
    · obtain rfl : i = j := by omega
      have q1 := unhide HA
      have q2 := unhide HM
      have q3 := unhide HB
      obtain ⟨R1, R2, hRe, hR1⟩ := split_at R (i - m) (by omega)
      have hsrt : Sorted (R1 ++ x :: R2) := by
        refine ins_sorted R1 R2 x (by rw [← hRe]; exact unhide HS) (by rw [← hRe]; exact unhide HL) (fun R0 y he => ?_) (fun y R3 he => ?_)
        · have h1 := at_mid (P ++ x :: R0) (R2 ++ T) y
          rw [show (P ++ x :: R0).length = i - 1 by rw [he] at hR1; simp at hR1 ⊢; omega] at h1
          rcases unhide HI with h | h
          · exfalso; rw [he] at hR1; simp at hR1; omega
          · rw [hRe, he] at h
            rw [show P ++ x :: (R0 ++ [y] ++ R2) ++ T = P ++ x :: R0 ++ y :: (R2 ++ T) by simp, h1] at h
            exact h
        · have h1 := at_mid (P ++ x :: R1) (R3 ++ T) y
          rw [show (P ++ x :: R1).length = i by simp; omega] at h1
          rcases unhide HJ with h | h
          · exfalso; rw [hRe, he] at q3; simp at q3; omega
          · rw [hRe, he] at h
            rw [show P ++ x :: (R1 ++ y :: R3) ++ T = P ++ x :: R1 ++ y :: (R3 ++ T) by simp, h1] at h
            exact h
      have hRw := (unhide HRR).grown hg
      have hg2 := grown_of_none (b := B) hg
      have hlen := unhide HN
      rw [hRe] at hRw hlen
      have HRE := hide hRe
      have HR1 := hide hR1
      have HSRT := hide hsrt
      have HLEN := hide hlen
      have HRW := hide hRw
      have HG2 := hide hg2
      clear q1 q2 q3 hRe hR1 hsrt hRw hg2 hlen hg HI HJ
      generalize wr = W0 at *
      go_wp2_with fail
      go_loopw [13] (fun I wr => ∃ (k : Nat) (A C : List D), a ≤ k ∧ k < i ∧ I = .int .i64 k ∧ Hid (R1 = A ++ C) ∧ Hid (a + A.length = k) ∧ Rw wr B (P ++ A ++ x :: C ++ R2 ++ T) ∧ w.grownBy wr (some B)) (fun I _ => i - (intOf I).toNat)
      case atStart => exact ⟨a, [], R1, Nat.le_refl _, by omega, rfl, rfl, rfl, by simpa using unhide HRW, unhide HG2⟩
      case round =>
        obtain ⟨k, A, C, hak, hki, rfl, HAC, HAL, hR, hg⟩ := hrel
        have q1 := unhide HA
        have q2 := unhide HM
        have q3 := unhide HR1
        have q4 := unhide HAL
        have q5 := unhide HAC
        cases C with
        | nil =>
          have hk : k + 1 = i := by rw [q5] at q3; simp at q3; omega
          have hk2 : (i : Int) - 1 = (k : Int) := by omega
          have hfin : Rw wr B (P ++ (R1 ++ x :: R2) ++ T) := by rw [q5]; simpa using hR
          have HK := hide hk
          clear q1 q2 q3 q4 q5 hR hk
          go_wp2
          refine bodyPost_ret (results_none rfl _ _ _) rfl ?_
          exact ⟨rfl, ⟨R1 ++ x :: R2, by rw [unhide HRE]; exact List.perm_middle, unhide HSRT, by simpa using hfin⟩, hg⟩
        | cons y C =>
          have hk : k + 1 < i := by rw [q5] at q3; simp at q3; omega
          have hlenD : (P ++ A ++ x :: y :: C ++ R2 ++ T).length = n := by
            have := unhide HLEN
            rw [q5] at this
            simp at this ⊢
            omega
          have ex : (P ++ A ++ x :: y :: C ++ R2 ++ T).getD k D.no = x := by
            have e := at_mid (P ++ A) (y :: C ++ R2 ++ T) x
            rw [show (P ++ A).length = k by simp; omega] at e
            simpa using e
          have ey : (P ++ A ++ x :: y :: C ++ R2 ++ T).getD (k + 1) D.no = y := by
            have e := at_mid (P ++ A ++ [x]) (C ++ R2 ++ T) y
            rw [show (P ++ A ++ [x]).length = k + 1 by simp; omega] at e
            simpa using e
          obtain ⟨c1, c2, c3, c4⟩ := Rw.el hR k (by omega) x ex
          obtain ⟨d1, d2, d3, d4⟩ := Rw.el hR (k + 1) (by omega) y ey
          have fr := fun k => hR.free k
          have hN : Rw (put (put wr B k y) B (k + 1) x) B (P ++ (A ++ [y]) ++ x :: C ++ R2 ++ T) := by
            have h := (hR.put k (by omega) y).put (k + 1) (by rw [List.length_set]; omega) x
            have e := swap_two (P ++ A) [] (C ++ R2 ++ T) x y
            rw [show (P ++ A).length = k by simp; omega] at e
            simp at e h ⊢
            rw [e] at h
            exact h
          have hgN := grown_trans hg (grown_trans (put_grown wr B k y) (put_grown _ B (k + 1) x))
          unfold put at hN hgN
          have HNW := hide hN
          have HGN := hide hgN
          have k1 : Hid (R1 = (A ++ [y]) ++ C) := by show R1 = _; rw [q5]; simp
          have k2 : Hid (a + (A ++ [y]).length = k + 1) := by show _ = _; simp; omega
          have hk2 : (k : Int) < (i : Int) - 1 := by omega
          have hkn : k + 1 < n := by omega
          clear hN hgN hR hg q1 q2 q3 q4 q5 ex ey hlenD HAC HAL
          go_wp2_with fail
          go_region
          go_wp2
          go_roundw
          case rel => exact ⟨k + 1, A ++ [y], C, by omega, by omega, by go_num, k1, k2, (unhide HNW).drew, grown_drew (unhide HGN)⟩
          case measure => simp [intOf]; omega

end Go.Proofs.Qxb6003736a.Diag
