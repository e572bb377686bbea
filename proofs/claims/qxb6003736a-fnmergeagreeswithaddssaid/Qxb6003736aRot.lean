/- slices.rotateCmpFunc over diagnostics (seat b6003736a). -/
import Derived.Test.Qxb6003736aIns
namespace Go.Proofs.Qxb6003736a.Diag
open Go.RowKit
set_option linter.unusedVariables false

theorem swap_two (A M C : List D) (x y : D) : ((A ++ x :: M ++ y :: C).set A.length y).set (A.length + 1 + M.length) x = A ++ y :: M ++ x :: C := by
  rw [List.append_assoc, List.set_append_right _ _ (by omega), List.set_append_right _ _ (by omega)]
  rw [Nat.sub_self, show A.length + 1 + M.length - A.length = M.length + 1 by omega]
  show A ++ ((y :: (M ++ y :: C)).set (M.length + 1) x) = _
  rw [List.set_cons_succ, List.set_append_right _ _ (by omega), Nat.sub_self]
  simp

theorem swp_blocks : ∀ (k : Nat) (A X M Y C : List D), X.length = k → Y.length = k → swp (A ++ X ++ M ++ Y ++ C) A.length (A.length + k + M.length) k = A ++ Y ++ M ++ X ++ C
  | 0, A, X, M, Y, C, hx, hy => by
    obtain rfl := List.eq_nil_of_length_eq_zero hx
    obtain rfl := List.eq_nil_of_length_eq_zero hy
    rfl
  | k + 1, A, X, M, Y, C, hx, hy => by
    rcases nil_or_snoc X with rfl | ⟨X', x, rfl⟩
    · simp at hx
    rcases nil_or_snoc Y with rfl | ⟨Y', y, rfl⟩
    · simp at hy
    have hx' : X'.length = k := by simpa using hx
    have hy' : Y'.length = k := by simpa using hy
    have ih := swp_blocks k A X' (x :: M) Y' (y :: C) hx' hy'
    rw [show A.length + k + (x :: M).length = A.length + (k + 1) + M.length by simp; omega] at ih
    rw [show A ++ (X' ++ [x]) ++ M ++ (Y' ++ [y]) ++ C = A ++ X' ++ x :: M ++ Y' ++ y :: C by simp]
    unfold swp
    rw [ih]
    have e1 : (A ++ Y' ++ x :: M ++ X' ++ y :: C).getD (A.length + k) D.no = x := by
      have := at_mid (A ++ Y') (M ++ X' ++ y :: C) x
      rw [show (A ++ Y').length = A.length + k by simp; omega] at this
      simpa using this
    have e2 : (A ++ Y' ++ x :: M ++ X' ++ y :: C).getD (A.length + (k + 1) + M.length + k) D.no = y := by
      have := at_mid (A ++ Y' ++ x :: M ++ X') C y
      rw [show (A ++ Y' ++ x :: M ++ X').length = A.length + (k + 1) + M.length + k by simp; omega] at this
      exact this
    rw [e1, e2]
    have e3 := swap_two (A ++ Y') (M ++ X') C x y
    rw [show (A ++ Y').length = A.length + k by simp; omega, show A.length + k + 1 + (M ++ X').length = A.length + (k + 1) + M.length + k by simp; omega] at e3
    simpa using e3

theorem swap39 (B n : Nat) (f : Value) (A X M Y C : List D) (w : World) (xa xb xk : Int) (hn : (A ++ X ++ M ++ Y ++ C).length = n) (hnb : n ≤ 1048576) (h1 : xa = A.length) (h2 : xb = A.length + X.length + M.length) (h3 : xk = X.length) (h4 : X.length = Y.length)
    (hR : Rw w B (A ++ X ++ M ++ Y ++ C)) :
    Calls Try.prog 39 #[.slice (some ⟨B, 0, none⟩) n n, .int .i64 xa, .int .i64 xb, .int .i64 xk, f] w fun e w' => e = .returned (.tuple #[]) ∧ Rw w' B (A ++ Y ++ M ++ X ++ C) ∧ w.grownBy w' (some B) := by
  have h := swapRange39 B n A.length (A.length + X.length + M.length) X.length f _ w hn hnb (by omega) (by rw [← hn]; simp; omega) hR
  rw [swp_blocks X.length A X M Y C rfl h4.symm] at h
  rw [h1, h2, h3]
  simpa using h

theorem split_at (L : List D) (k : Nat) (h : k ≤ L.length) : ∃ L1 L2, L = L1 ++ L2 ∧ L1.length = k :=
  ⟨L.take k, L.drop k, (List.take_append_drop k L).symm, by simp; omega⟩

set_option maxRecDepth 100000 in
set_option maxHeartbeats 2000000 in
theorem rotate38 (B n a m b : Nat) (f : Value) (P U V T : List D) (w : World) (hn : (P ++ U ++ V ++ T).length = n) (hnb : n ≤ 1048576) (ha : P.length = a) (hm : a + U.length = m) (hb : m + V.length = b) (hU : 0 < U.length) (hV : 0 < V.length) (hR : Rw w B (P ++ U ++ V ++ T)) :
    Calls Try.prog 38 #[.slice (some ⟨B, 0, none⟩) n n, .int .i64 a, .int .i64 m, .int .i64 b, f] w fun e w' => e = .returned (.tuple #[]) ∧ Rw w' B (P ++ V ++ U ++ T) ∧ w.grownBy w' (some B) := by
  have hbn : b ≤ n := by rw [← hn]; simp; omega
  have ham : a < m := by omega
  have hmb : m < b := by omega
  have HN := hide hn
  have HA := hide ha
  have HM := hide hm
  have HB := hide hb
  have HU := hide hU
  have HV := hide hV
  clear hn ha hm hb hU hV
  go_enter Try.func38, Try.ntmps38
  go_wp2_with fail
  go_loopw [10, 11] (fun I J wr => ∃ (i j : Nat) (A X Y C : List D), 0 < i ∧ 0 < j ∧ i ≤ m ∧ m + j ≤ n ∧ I = .int .i64 i ∧ J = .int .i64 j ∧ Hid (X.length = i) ∧ Hid (Y.length = j) ∧ Hid (P.length + A.length + i = m) ∧ Hid (V ++ U = A ++ Y ++ X ++ C) ∧ Rw wr B (P ++ A ++ X ++ Y ++ C ++ T) ∧ w.grownBy wr (some B)) (fun I J _ => (intOf I).toNat + (intOf J).toNat)
  case atStart =>
    have h1 := unhide HA
    have h2 := unhide HM
    have h3 := unhide HB
    have h4 := unhide HU
    have h5 := unhide HV
    have k1 : (m : Int) - a = ((m - a : Nat) : Int) := by omega
    have k2 : (b : Int) - m = ((b - m : Nat) : Int) := by omega
    exact ⟨m - a, b - m, [], U, V, [], by omega, by omega, by omega, by omega, by rw [k1], by rw [k2], by show U.length = _; omega, by show V.length = _; omega, by show P.length + 0 + _ = _; omega, by show V ++ U = _; simp, by simpa using hR, World.grownBy.refl _ _⟩
  case round =>
    clear hR
    obtain ⟨i, j, A, X, Y, C, hi, hj, him, hjn, rfl, rfl, HX, HY, HPA, HE, hR, hg⟩ := hrel
    have hlen : (P ++ A ++ X ++ Y ++ C ++ T).length = n := by
      have h1 := unhide HN
      have h2 := congrArg List.length (unhide HE)
      simp at h1 h2 ⊢
      omega
    have HLEN := hide hlen
    have HRR := hide hR
    have HG := hide hg
    clear hlen hR hg
    generalize wr = W at *
    by_cases hij : i = j
    · go_wp2_with fail
      have q1 := unhide HX
      have q2 := unhide HY
      have q3 := unhide HPA
      have q4 := unhide HLEN
      have q5 := unhide HRR
      refine (swap39 B n f (P ++ A) X [] Y (C ++ T) W _ _ _ (by simpa using q4) hnb (by simp; omega) (by simp; omega) (by omega) (by omega) (by simpa using q5)).mono ?_
      rintro e w5 ⟨rfl, hR5, hg5⟩
      clear q1 q2 q3 q4 q5
      have hR6 : Rw w5 B (P ++ V ++ U ++ T) := by
        have e := unhide HE
        rw [show P ++ V ++ U ++ T = P ++ (V ++ U) ++ T by simp, e]
        simpa using hR5
      have hg6 := grown_trans (unhide HG) hg5
      clear hR5 hg5
      go_wp2
      go_end0
      exact ⟨rfl, by simpa using hR6, hg6⟩
    · by_cases hgt : j < i
      · have HNE := hide hij
        go_wp2_with fail
        have q1 := unhide HX
        have q2 := unhide HY
        have q3 := unhide HPA
        have q4 := unhide HLEN
        have q5 := unhide HRR
        obtain ⟨X1, X2, hXe, hX1⟩ := split_at X j (by omega)
        have hX2 : X2.length = i - j := by rw [hXe] at q1; simp at q1; omega
        rw [hXe] at q4 q5
        refine (swap39 B n f (P ++ A) X1 X2 Y (C ++ T) W _ _ _ (by simpa using q4) hnb (by simp; omega) (by simp; omega) (by omega) (by omega) (by simpa using q5)).mono ?_
        rintro e w5 ⟨rfl, hR5, hg5⟩
        have k1 : Hid (X2.length = i - j) := hX2
        have k2 : Hid (X1.length = j) := hX1
        have k3 : Hid (P.length + (A ++ Y).length + (i - j) = m) := by show _ = _; simp; omega
        have k4 : Hid (V ++ U = (A ++ Y) ++ X1 ++ X2 ++ C) := by show _ = _; rw [unhide HE, hXe]; simp
        have k5 : Rw w5 B (P ++ (A ++ Y) ++ X2 ++ X1 ++ C ++ T) := by simpa using hR5
        have k6 := grown_trans (unhide HG) hg5
        have k7 : (i : Int) - j = ((i - j : Nat) : Int) := by omega
        clear q1 q2 q3 q4 q5 hR5 hg5 hXe hX1 hX2
        go_wp2
        go_roundw
        case rel => exact ⟨i - j, j, A ++ Y, X2, X1, C, by omega, by omega, by omega, by omega, rfl, rfl, k1, k2, k3, k4, k5, k6⟩
        case measure => simp [intOf]; omega
      · go_wp2_with fail
        have q1 := unhide HX
        have q2 := unhide HY
        have q3 := unhide HPA
        have q4 := unhide HLEN
        have q5 := unhide HRR
        obtain ⟨Y1, Y2, hYe, hY1⟩ := split_at Y (j - i) (by omega)
        have hY2 : Y2.length = i := by rw [hYe] at q2; simp at q2; omega
        rw [hYe] at q4 q5
        refine (swap39 B n f (P ++ A) X Y1 Y2 (C ++ T) W _ _ _ (by simpa using q4) hnb (by simp; omega) (by simp; omega) (by omega) (by omega) (by simpa using q5)).mono ?_
        rintro e w5 ⟨rfl, hR5, hg5⟩
        have k1 : Hid (Y2.length = i) := hY2
        have k2 : Hid (Y1.length = j - i) := hY1
        have k4 : Hid (V ++ U = A ++ Y1 ++ Y2 ++ (X ++ C)) := by show _ = _; rw [unhide HE, hYe]; simp
        have k5 : Rw w5 B (P ++ A ++ Y2 ++ Y1 ++ (X ++ C) ++ T) := by simpa using hR5
        have k6 := grown_trans (unhide HG) hg5
        have k7 : (j : Int) - i = ((j - i : Nat) : Int) := by omega
        clear q1 q2 q3 q4 q5 hR5 hg5 hYe hY1 hY2
        go_wp2
        go_roundw
        case rel => exact ⟨i, j - i, A, Y2, Y1, X ++ C, by omega, by omega, by omega, by omega, rfl, rfl, k1, k2, HPA, k4, k5, k6⟩
        case measure => simp [intOf]; omega

end Go.Proofs.Qxb6003736a.Diag
