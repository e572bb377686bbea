/- slices.symMergeCmpFunc over diagnostics, two long runs (seat b6003736a). -/
import Derived.Test.Qxb6003736aSym2
import Derived.Deep.CutRange
namespace Go.Proofs.Qxb6003736a.Diag
open Go.RowKit
set_option linter.unusedVariables false

/-- What symMerge does at runs of at most N elements. -/
def SymOK (N : Nat) : Prop := ∀ (B n a m b : Nat) (P L R T : List D) (w : World), (P ++ L ++ R ++ T).length = n → n ≤ 1048576 → P.length = a → a + L.length = m → m + R.length = b → 0 < L.length → 0 < R.length → L.length + R.length ≤ N →
    (∀ d ∈ L ++ R, Bd d) → Sorted L → Sorted R → (∀ y ∈ L, ∀ x ∈ R, y.line < x.line) → Rw w B (P ++ L ++ R ++ T) →
    Calls Try.prog 36 #[.slice (some ⟨B, 0, none⟩) n n, .int .i64 a, .int .i64 m, .int .i64 b, F26] w fun e w' => e = .returned (.tuple #[]) ∧ (∃ M, M.Perm (L ++ R) ∧ Sorted M ∧ Rw w' B (P ++ M ++ T)) ∧ w.grownBy w' (some B)

theorem merge_cut (L1 L2 R1 R2 : List D) (hL : Sorted (L1 ++ L2)) (hR : Sorted (R1 ++ R2)) (hl : ∀ y ∈ L1 ++ L2, ∀ x ∈ R1 ++ R2, y.line < x.line)
    (h1 : ∀ L0 u v R0, L1 = L0 ++ [u] → R2 = v :: R0 → u.fl ≤ v.fl) (h2 : ∀ R0 u v L0, R1 = R0 ++ [u] → L2 = v :: L0 → u.fl < v.fl) :
    ∀ u ∈ L1 ++ R1, ∀ v ∈ L2 ++ R2, Lt u v := by
  obtain ⟨p1, p2, p3⟩ := List.pairwise_append.1 hL
  obtain ⟨q1, q2, q3⟩ := List.pairwise_append.1 hR
  have last : ∀ (l : List D) (y : D), (l ++ [y]).Pairwise Lt → ∀ u ∈ l ++ [y], u = y ∨ Lt u y := fun l y h u hu => by
    rcases List.mem_append.1 hu with h' | h'
    · exact .inr ((List.pairwise_append.1 h).2.2 u h' y (by simp))
    · exact .inl (by simpa using h')
  have first : ∀ (l : List D) (y : D), (y :: l).Pairwise Lt → ∀ v ∈ y :: l, v = y ∨ Lt y v := fun l y h v hv => by
    rcases List.mem_cons.1 hv with h' | h'
    · exact .inl h'
    · exact .inr ((List.pairwise_cons.1 h).1 v h')
  have join : ∀ u v y z : D, (u = y ∨ Lt u y) → (v = z ∨ Lt z v) → Lt y z → Lt u v := fun u v y z hu hv h => by
    have k : Lt u z := by
      rcases hu with rfl | hu
      · exact h
      · exact hu.trans h
    rcases hv with rfl | hv
    · exact k
    · exact k.trans hv
  intro u hu v hv
  rcases List.mem_append.1 hu with hu | hu <;> rcases List.mem_append.1 hv with hv | hv
  · exact p3 u hu v hv
  · rcases nil_or_snoc L1 with rfl | ⟨L0, y, rfl⟩
    · simp at hu
    cases R2 with
    | nil => simp at hv
    | cons z R0 =>
      refine join u v y z (last L0 y p1 u hu) (first R0 z q2 v hv) ?_
      have := h1 L0 y z R0 rfl rfl
      have := hl y (by simp) z (by simp)
      unfold Lt; omega
  · rcases nil_or_snoc R1 with rfl | ⟨R0, y, rfl⟩
    · simp at hu
    cases L2 with
    | nil => simp at hv
    | cons z L0 => exact join u v y z (last R0 y q1 u hu) (first L0 z p2 v hv) (.inl (h2 R0 y z L0 rfl rfl))
  · exact q3 u hu v hv

set_option maxRecDepth 100000 in
set_option maxHeartbeats 4000000 in
theorem symG (N : Nat) (H : SymOK N) (B n a m b : Nat) (P L R T : List D) (w : World) (hn : (P ++ L ++ R ++ T).length = n) (hnb : n ≤ 1048576) (ha : P.length = a) (hm : a + L.length = m) (hb : m + R.length = b) (hL2 : 2 ≤ L.length) (hR2 : 2 ≤ R.length) (hN : L.length + R.length ≤ N + 1)
    (hbd : ∀ d ∈ L ++ R, Bd d) (hsl : Sorted L) (hsr : Sorted R) (hl : ∀ y ∈ L, ∀ x ∈ R, y.line < x.line) (hR : Rw w B (P ++ L ++ R ++ T)) :
    Calls Try.prog 36 #[.slice (some ⟨B, 0, none⟩) n n, .int .i64 a, .int .i64 m, .int .i64 b, F26] w fun e w' => e = .returned (.tuple #[]) ∧ (∃ M, M.Perm (L ++ R) ∧ Sorted M ∧ Rw w' B (P ++ M ++ T)) ∧ w.grownBy w' (some B) := by
  have hbn : b ≤ n := by rw [← hn]; simp; omega
  have ham : a + 2 ≤ m := by omega
  have hmb : m + 2 ≤ b := by omega
  have HH := hide H
  have HN := hide hn
  have HA := hide ha
  have HM := hide hm
  have HB := hide hb
  have HBD := hide hbd
  have HSL := hide hsl
  have HSR := hide hsr
  have HL := hide hl
  have HRR := hide hR
  have HNN := hide hN
  have t0 : ¬ (m : Int) - (a : Int) = 1 := by omega
  have t1 : ¬ (b : Int) - (m : Int) = 1 := by omega
  obtain ⟨d, hd⟩ : ∃ d : Nat, ((a : Int) + (b : Int)) / 2 = (d : Int) := ⟨(a + b) / 2, by omega⟩
  have had : a < d := by omega
  have hdb : d < b := by omega
  have HD : Hid (2 * d ≤ a + b ∧ a + b ≤ 2 * d + 1) := by show _ ∧ _; omega
  clear hn ha hm hb hbd hsl hsr hl hR hL2 hR2 hN H
  unfold F26
  go_enter Try.func36, Try.ntmps36
  go_upto_if 140 with fail
  go_cut [20, 21] from 25 to 146 (fun s20 s21 wc => ∃ s0 r0 : Nat, s20 = .int .i64 s0 ∧ s21 = .int .i64 r0 ∧ w = wc ∧ a ≤ s0 ∧ s0 ≤ r0 ∧ r0 ≤ m ∧ r0 ≤ d ∧ d + m ≤ b + s0 ∧ Hid (s0 = a ∨ d + m = b + s0) ∧ Hid (r0 = m ∨ r0 = d))
  case first =>
    have hdd := unhide HD
    by_cases hdm : d < m
    · have e1 : (d : Int) + (m : Int) - (b : Int) = ((d + m - b : Nat) : Int) := by omega
      clear hdd
      go_wp2_with fail
      go_meet
      case rel =>
        have hdd := unhide HD
        exact ⟨d + m - b, d, rfl, rfl, rfl, by omega, by omega, by omega, by omega, by omega, .inr (by omega), .inr rfl⟩
    · clear hdd
      go_wp2_with fail
      go_meet
      case rel =>
        have hdd := unhide HD
        exact ⟨a, m, rfl, rfl, rfl, by omega, by omega, by omega, by omega, by omega, .inl rfl, .inl rfl⟩
  case rest =>
    obtain ⟨s0, r0, rfl, rfl, rfl, hs0, hsr0, hr0m, hr0d, hdmb, HS0, HR0⟩ := hcut
    go_wp2_with fail
    go_loopw [20, 21] (fun I J wr => ∃ (s r : Nat), s0 ≤ s ∧ s ≤ r ∧ r ≤ r0 ∧ I = .int .i64 s ∧ J = .int .i64 r ∧ Hid (s = s0 ∨ ((P ++ L ++ R ++ T).getD (s - 1) D.no).fl ≤ ((P ++ L ++ R ++ T).getD (d + m - s) D.no).fl) ∧ Hid (r = r0 ∨ ((P ++ L ++ R ++ T).getD (d + m - 1 - r) D.no).fl < ((P ++ L ++ R ++ T).getD r D.no).fl) ∧ w.grownBy wr none) (fun I J _ => (intOf J).toNat - (intOf I).toNat)
    case atStart => exact ⟨s0, r0, Nat.le_refl _, hsr0, Nat.le_refl _, rfl, rfl, .inl rfl, .inl rfl, World.grownBy.refl _ _⟩
    case round =>
      obtain ⟨s, r, hs, hsr, hrr, rfl, rfl, HI, HJ, hg⟩ := hrel
      by_cases hlt : s < r
      · obtain ⟨c, hc⟩ : ∃ c : Nat, ((s : Int) + (r : Int)) / 2 = (c : Int) := ⟨(s + r) / 2, by omega⟩
        have hsc : s ≤ c := by omega
        have hcr : c < r := by omega
        obtain ⟨q, hq⟩ : ∃ q : Nat, (d : Int) + (m : Int) - 1 - (c : Int) = (q : Int) := ⟨d + m - 1 - c, by omega⟩
        have hqq : q = d + m - 1 - c := by omega
        have q1 := unhide HA
        have q2 := unhide HM
        have q3 := unhide HB
        have hRw := (unhide HRR).grown hg
        have hlen := unhide HN
        have hqm : m ≤ q ∧ q < b := by omega
        have hx : (P ++ L ++ R ++ T).getD c D.no ∈ L := by
          have := getD_mid P L (R ++ T) c (by omega) (by omega)
          simpa using this
        have hy : (P ++ L ++ R ++ T).getD q D.no ∈ R := getD_mid (P ++ L) R T q (by simp; omega) (by simp; omega)
        obtain ⟨x, hxd⟩ : ∃ x, (P ++ L ++ R ++ T).getD c D.no = x := ⟨_, rfl⟩
        obtain ⟨y, hyd⟩ : ∃ y, (P ++ L ++ R ++ T).getD q D.no = y := ⟨_, rfl⟩
        rw [hxd] at hx
        rw [hyd] at hy
        obtain ⟨c1, c2, c3, c4⟩ := GW.el hRw c (by omega) x hxd
        obtain ⟨d1, d2, d3, d4⟩ := GW.el hRw q (by omega) y hyd
        have HC := cmpAt y x (unhide HBD y (by simp [hy])) (unhide HBD x (by simp [hx]))
        have HXD := hide hxd
        have HYD := hide hyd
        have HQQ := hide hqq
        have hah : c < n ∧ q < n := by omega
        obtain ⟨ha1, hh1⟩ := hah
        clear q1 q2 q3 hRw hlen hx hy hxd hyd hqq hqm
        go_wp2_with fail
        refine wp_region_gw (by kernel_rfl) (by kernel_rfl) ?_
        repeat (go_big_quiet_step ((go_at_call 26; exact GW.call _ (unhide HC _))))
        refine wpQuiet_nil ?_
        rintro W ⟨p, hp⟩
        have hW := p.h
        rw [← hp] at hW
        clear hp p c1 c2 c3 c4 d1 d2 d3 d4
        have hgW := grown_trans hg hW
        clear hg hW
        by_cases hyx : y.fl < x.fl
        · have hdec : decide (y.fl - x.fl < 0) = true := by rw [decide_eq_true_eq]; omega
          rw [hdec]
          have k : Hid (c = r0 ∨ ((P ++ L ++ R ++ T).getD (d + m - 1 - c) D.no).fl < ((P ++ L ++ R ++ T).getD c D.no).fl) := by
            refine .inr ?_
            rw [← unhide HQQ, unhide HXD, unhide HYD]
            exact hyx
          go_wp2
          go_roundw
          case rel => exact ⟨s, c, by omega, by omega, by omega, rfl, by go_num, HI, k, hgW⟩
          case measure => simp [intOf]; omega
        · have hdec : decide (y.fl - x.fl < 0) = false := by rw [decide_eq_false_iff_not]; omega
          rw [hdec]
          have k : Hid (c + 1 = s0 ∨ ((P ++ L ++ R ++ T).getD (c + 1 - 1) D.no).fl ≤ ((P ++ L ++ R ++ T).getD (d + m - (c + 1)) D.no).fl) := by
            refine .inr ?_
            rw [Nat.add_sub_cancel, show d + m - (c + 1) = d + m - 1 - c by omega, ← unhide HQQ, unhide HXD, unhide HYD]
            omega
          go_wp2
          go_roundw
          case rel => exact ⟨c + 1, r, by omega, by omega, by omega, by go_num, rfl, k, HJ, hgW⟩
          case measure => simp [intOf]; omega
      · obtain rfl : s = r := by omega
        obtain ⟨e, he⟩ : ∃ e : Nat, (d : Int) + (m : Int) - (s : Int) = (e : Int) := ⟨d + m - s, by omega⟩
        have hee : e + s = d + m := by omega
        have q1 := unhide HA
        have q2 := unhide HM
        have q3 := unhide HB
        have hlen := unhide HN
        have q4 := unhide HS0
        have q5 := unhide HR0
        obtain ⟨L1, L2, hLe, hL1⟩ := split_at L (s - a) (by omega)
        obtain ⟨R1, R2, hRe, hR1⟩ := split_at R (e - m) (by omega)
        have hL2 : L2.length = m - s := by rw [hLe] at q2; simp at q2; omega
        have hR2 : R2.length = b - e := by rw [hRe] at q3; simp at q3; omega
        have hord : ∀ u ∈ L1 ++ R1, ∀ v ∈ L2 ++ R2, Lt u v := by
          refine merge_cut L1 L2 R1 R2 (by rw [← hLe]; exact unhide HSL) (by rw [← hRe]; exact unhide HSR) (by rw [← hLe, ← hRe]; exact unhide HL) (fun L0 u v R0 h1 h2 => ?_) (fun R0 u v L0 h1 h2 => ?_)
          · have hne : s ≠ s0 := by
              rw [h1] at hL1
              rw [h2] at hR2
              simp at hL1 hR2
              omega
            rcases unhide HI with h | h
            · exact absurd h hne
            · have e1 := at_mid (P ++ L0) (L2 ++ R1 ++ v :: R0 ++ T) u
              have e2 := at_mid (P ++ (L0 ++ [u]) ++ L2 ++ R1) (R0 ++ T) v
              rw [show (P ++ L0).length = s - 1 by rw [h1] at hL1; simp at hL1 ⊢; omega] at e1
              rw [show (P ++ (L0 ++ [u]) ++ L2 ++ R1).length = d + m - s by rw [h1] at hL1; simp at hL1 ⊢; omega] at e2
              rw [hLe, hRe, h1, h2] at h
              rw [show P ++ (L0 ++ [u] ++ L2) ++ (R1 ++ v :: R0) ++ T = P ++ L0 ++ u :: (L2 ++ R1 ++ v :: R0 ++ T) by simp] at h
              rw [e1] at h
              rw [show P ++ L0 ++ u :: (L2 ++ R1 ++ v :: R0 ++ T) = P ++ (L0 ++ [u]) ++ L2 ++ R1 ++ v :: (R0 ++ T) by simp] at h
              rw [e2] at h
              exact h
          · have hne : s ≠ r0 := by
              rw [h1] at hR1
              rw [h2] at hL2
              simp at hR1 hL2
              omega
            rcases unhide HJ with h | h
            · exact absurd h hne
            · have e1 := at_mid (P ++ L1 ++ v :: L0 ++ R0) (R2 ++ T) u
              have e2 := at_mid (P ++ L1) (L0 ++ (R0 ++ [u]) ++ R2 ++ T) v
              rw [show (P ++ L1 ++ v :: L0 ++ R0).length = d + m - 1 - s by rw [h1] at hR1; rw [h2] at hL2; simp at hR1 hL2 ⊢; omega] at e1
              rw [show (P ++ L1).length = s by simp; omega] at e2
              rw [hLe, hRe, h1, h2] at h
              rw [show P ++ (L1 ++ v :: L0) ++ (R0 ++ [u] ++ R2) ++ T = P ++ L1 ++ v :: L0 ++ R0 ++ u :: (R2 ++ T) by simp] at h
              rw [e1] at h
              rw [show P ++ L1 ++ v :: L0 ++ R0 ++ u :: (R2 ++ T) = P ++ L1 ++ v :: (L0 ++ (R0 ++ [u]) ++ R2 ++ T) by simp] at h
              rw [e2] at h
              exact h
        have hRw := (unhide HRR).grown hg
        have hg2 := grown_of_none (b := B) hg
        rw [hLe, hRe] at hRw hlen
        have HLE := hide hLe
        have HRE := hide hRe
        have HL1 := hide hL1
        have HL2 := hide hL2
        have HR1 := hide hR1
        have HR2 := hide hR2
        have HORD := hide hord
        have HLEN := hide hlen
        have HRW := hide hRw
        have HG2 := hide hg2
        have hes : a ≤ s ∧ s ≤ m ∧ s ≤ d ∧ m ≤ e ∧ e ≤ b := by omega
        obtain ⟨z1, z2, z3, z4, z5⟩ := hes
        clear q1 q2 q3 q4 q5 hLe hRe hL1 hL2 hR1 hR2 hord hRw hg2 hlen hg HI HJ HS0 HR0
        generalize wr = W0 at *
        go_upto_region 39 with fail
        go_cut [185] from 178 to 184 (fun s185 wx => ∃ β : Bool, s185 = .bool β ∧ W0 = wx ∧ Hid (β = true ↔ (s < m ∧ m < e)))
        case first =>
          by_cases h1 : s < m
          · have h5 : decide (s < m) = true := decide_eq_true h1
            by_cases h2 : m < e
            · have h4 : decide (m < e) = true := decide_eq_true h2
              go_wp2_with fail
              go_meet
              case rel => exact ⟨true, rfl, rfl, ⟨fun _ => ⟨h1, h2⟩, fun _ => rfl⟩⟩
            · have h4 : decide (m < e) = false := decide_eq_false h2
              have h2' := hide h2
              clear h2
              go_wp2_with fail
              go_meet
              case rel => exact ⟨false, rfl, rfl, ⟨fun h => (by cases h), fun h => absurd h.2 (unhide h2')⟩⟩
          · have h5 : decide (s < m) = false := decide_eq_false h1
            have h1' := hide h1
            clear h1
            go_wp2_with fail
            go_meet
            case rel => exact ⟨false, rfl, rfl, ⟨fun h => (by cases h), fun h => absurd h.1 (unhide h1')⟩⟩
        case rest =>
          obtain ⟨β, rfl, rfl, Hβ⟩ := hcut
          go_upto_if 185 with fail
          go_cut [] from 178 to 191 (fun wx => Rw wx B (P ++ L1 ++ R1 ++ L2 ++ R2 ++ T) ∧ w.grownBy wx (some B))
          case first =>
            cases β with
            | true =>
              have hβ := (unhide Hβ).1 rfl
              clear Hβ
              go_wp2_with fail
              have q0 := unhide HA
              have q1 := unhide HL1
              have q2 := unhide HL2
              have q3 := unhide HR1
              refine (rotate38 B n s m e _ (P ++ L1) L2 R1 (R2 ++ T) W0 (by simpa using unhide HLEN) hnb (by simp; omega) (by omega) (by omega) (by omega) (by omega) (by simpa using unhide HRW)).mono ?_
              rintro _ w5 ⟨rfl, hR5, hg5⟩
              clear q0 q1 q2 q3
              have hg6 := grown_trans (unhide HG2) hg5
              have hR6 : Rw w5 B (P ++ L1 ++ R1 ++ L2 ++ R2 ++ T) := by simpa using hR5
              clear hR5 hg5
              go_wp2_with fail
              go_meet
              case rel => exact ⟨hR6, hg6⟩
            | false =>
              have hR6 : Rw W0 B (P ++ L1 ++ R1 ++ L2 ++ R2 ++ T) := by
                have q2 := unhide HL2
                have q3 := unhide HR1
                have h := unhide HRW
                have hβ : ¬ (s < m ∧ m < e) := fun h => nomatch (unhide Hβ).2 h
                have : L2 = [] ∨ R1 = [] := by
                  by_cases hsm : s < m
                  · exact .inr (List.eq_nil_of_length_eq_zero (by omega))
                  · exact .inl (List.eq_nil_of_length_eq_zero (by omega))
                rcases this with h0 | h0 <;> rw [h0] at h ⊢ <;> simpa using h
              have hg6 := unhide HG2
              clear Hβ
              go_wp2_with fail
              go_meet
              case rel => exact ⟨hR6, hg6⟩
          case rest =>
            obtain ⟨hRx, hgx⟩ := hcut
            have HRX := hide hRx
            have HGX := hide hgx
            clear hRx hgx HRW HG2 Hβ
            generalize wc = W1 at *
            go_upto_region 41 with fail
            go_cut [199] from 192 to 198 (fun s199 wx => ∃ β : Bool, s199 = .bool β ∧ W1 = wx ∧ Hid (β = true ↔ (a < s ∧ s < d)))
            case first =>
              by_cases h1 : a < s
              · have h5 : decide (a < s) = true := decide_eq_true h1
                by_cases h2 : s < d
                · have h4 : decide (s < d) = true := decide_eq_true h2
                  go_wp2_with fail
                  go_meet
                  case rel => exact ⟨true, rfl, rfl, ⟨fun _ => ⟨h1, h2⟩, fun _ => rfl⟩⟩
                · have h4 : decide (s < d) = false := decide_eq_false h2
                  have h2' := hide h2
                  clear h2
                  go_wp2_with fail
                  go_meet
                  case rel => exact ⟨false, rfl, rfl, ⟨fun h => (by cases h), fun h => absurd h.2 (unhide h2')⟩⟩
              · have h5 : decide (a < s) = false := decide_eq_false h1
                have h1' := hide h1
                clear h1
                go_wp2_with fail
                go_meet
                case rel => exact ⟨false, rfl, rfl, ⟨fun h => (by cases h), fun h => absurd h.1 (unhide h1')⟩⟩
            case rest =>
              obtain ⟨β2, rfl, rfl, Hβ⟩ := hcut
              go_upto_if 199 with fail
              go_cut [] from 192 to 205 (fun wx => ∃ M1 : List D, Hid (M1.Perm (L1 ++ R1)) ∧ Hid (Sorted M1) ∧ Rw wx B (P ++ M1 ++ L2 ++ R2 ++ T) ∧ w.grownBy wx (some B))
              case first =>
                cases β2 with
                | true =>
                  have hβ := (unhide Hβ).1 rfl
                  clear Hβ
                  go_wp2_with fail
                  have q0 := unhide HA
                  have q1 := unhide HL1
                  have q2 := unhide HL2
                  have q3 := unhide HR1
                  have q4 := unhide HNN
                  have q5 := unhide HM
                  have q6 := unhide HB
                  have q7 := unhide HBD
                  have q8 := unhide HSL
                  have q9 := unhide HSR
                  have q10 := unhide HL
                  rw [unhide HLE] at q7 q8 q10
                  rw [unhide HRE] at q7 q9 q10
                  refine (unhide HH B n a s d P L1 R1 (L2 ++ R2 ++ T) W1 (by have := unhide HLEN; simp at this ⊢; omega) hnb q0 (by omega) (by omega) (by omega) (by omega) (by omega) (fun d' hd' => q7 d' (by rcases List.mem_append.1 hd' with h | h <;> simp [h])) (List.pairwise_append.1 q8).1 (List.pairwise_append.1 q9).1 (fun y hy x hx => q10 y (by simp [hy]) x (by simp [hx])) (by simpa using unhide HRX)).mono ?_
                  rintro _ w5 ⟨rfl, ⟨M1, hM1, hM2, hR5⟩, hg5⟩
                  clear q0 q1 q2 q3 q4 q5 q6 q7 q8 q9 q10
                  have HM1 := hide hM1
                  have HM2 := hide hM2
                  have hg6 := grown_trans (unhide HGX) hg5
                  have hR6 : Rw w5 B (P ++ M1 ++ L2 ++ R2 ++ T) := by simpa using hR5
                  clear hR5 hg5 hM1 hM2
                  go_wp2_with fail
                  go_meet
                  case rel => exact ⟨M1, HM1, HM2, hR6, hg6⟩
                | false =>
                  have hs1 : Sorted (L1 ++ R1) := by
                    have q1 := unhide HL1
                    have q3 := unhide HR1
                    have q8 := unhide HSL
                    have q9 := unhide HSR
                    rw [unhide HLE] at q8
                    rw [unhide HRE] at q9
                    have hβ : ¬ (a < s ∧ s < d) := fun h => nomatch (unhide Hβ).2 h
                    have : L1 = [] ∨ R1 = [] := by
                      by_cases hsm : a < s
                      · exact .inr (List.eq_nil_of_length_eq_zero (by omega))
                      · exact .inl (List.eq_nil_of_length_eq_zero (by omega))
                    rcases this with h0 | h0
                    · rw [h0]; exact (List.pairwise_append.1 q9).1
                    · rw [h0, List.append_nil]; exact (List.pairwise_append.1 q8).1
                  have HS1 := hide hs1
                  have HP1 : Hid ((L1 ++ R1).Perm (L1 ++ R1)) := List.Perm.refl _
                  have hR6 : Rw W1 B (P ++ (L1 ++ R1) ++ L2 ++ R2 ++ T) := by simpa using unhide HRX
                  have hg6 := unhide HGX
                  clear Hβ hs1
                  go_wp2_with fail
                  go_meet
                  case rel => exact ⟨L1 ++ R1, HP1, HS1, hR6, hg6⟩
              case rest =>
                obtain ⟨M1, HM1, HM2, hRx, hgx⟩ := hcut
                have HRY := hide hRx
                have HGY := hide hgx
                clear hRx hgx HRX HGX Hβ
                generalize wc = W2 at *
                go_upto_region 43 with fail
                go_cut [213] from 206 to 212 (fun s213 wx => ∃ β : Bool, s213 = .bool β ∧ W2 = wx ∧ Hid (β = true ↔ (d < e ∧ e < b)))
                case first =>
                  by_cases h1 : d < e
                  · have h5 : decide (d < e) = true := decide_eq_true h1
                    by_cases h2 : e < b
                    · have h4 : decide (e < b) = true := decide_eq_true h2
                      go_wp2_with fail
                      go_meet
                      case rel => exact ⟨true, rfl, rfl, ⟨fun _ => ⟨h1, h2⟩, fun _ => rfl⟩⟩
                    · have h4 : decide (e < b) = false := decide_eq_false h2
                      have h2' := hide h2
                      clear h2
                      go_wp2_with fail
                      go_meet
                      case rel => exact ⟨false, rfl, rfl, ⟨fun h => (by cases h), fun h => absurd h.2 (unhide h2')⟩⟩
                  · have h5 : decide (d < e) = false := decide_eq_false h1
                    have h1' := hide h1
                    clear h1
                    go_wp2_with fail
                    go_meet
                    case rel => exact ⟨false, rfl, rfl, ⟨fun h => (by cases h), fun h => absurd h.1 (unhide h1')⟩⟩
                case rest =>
                  obtain ⟨β3, rfl, rfl, Hβ⟩ := hcut
                  have hM1l : M1.length = d - a := by
                    have h := (unhide HM1).length_eq
                    have q1 := unhide HL1
                    have q3 := unhide HR1
                    simp at h
                    omega
                  have HM1L := hide hM1l
                  have hfin : ∀ M2 : List D, M2.Perm (L2 ++ R2) → Sorted M2 → (M1 ++ M2).Perm (L ++ R) ∧ Sorted (M1 ++ M2) := fun M2 hp hs2 => by
                    refine ⟨?_, List.pairwise_append.2 ⟨unhide HM2, hs2, fun u hu v hv => unhide HORD u ((unhide HM1).mem_iff.1 hu) v (hp.mem_iff.1 hv)⟩⟩
                    rw [unhide HLE, unhide HRE]
                    refine ((unhide HM1).append hp).trans ?_
                    rw [List.append_assoc, List.append_assoc]
                    refine List.Perm.append_left L1 ?_
                    rw [← List.append_assoc, ← List.append_assoc]
                    exact List.Perm.append_right R2 List.perm_append_comm
                  have HFIN := hide hfin
                  clear hfin hM1l
                  cases β3 with
                  | true =>
                    have hβ := (unhide Hβ).1 rfl
                    clear Hβ
                    go_wp2_with fail
                    have q0 := unhide HA
                    have q1 := unhide HL1
                    have q2 := unhide HL2
                    have q3 := unhide HR1
                    have q4 := unhide HNN
                    have q5 := unhide HM
                    have q6 := unhide HB
                    have q7 := unhide HBD
                    have q8 := unhide HSL
                    have q9 := unhide HSR
                    have q10 := unhide HL
                    have q11 := unhide HR2
                    have q12 := unhide HM1L
                    rw [unhide HLE] at q7 q8 q10
                    rw [unhide HRE] at q7 q9 q10
                    refine (unhide HH B n d e b (P ++ M1) L2 R2 T W2 (by have := unhide HLEN; simp at this ⊢; omega) hnb (by simp; omega) (by omega) (by omega) (by omega) (by omega) (by omega) (fun d' hd' => q7 d' (by rcases List.mem_append.1 hd' with h | h <;> simp [h])) (List.pairwise_append.1 q8).2.1 (List.pairwise_append.1 q9).2.1 (fun y hy x hx => q10 y (by simp [hy]) x (by simp [hx])) (unhide HRY)).mono ?_
                    rintro _ w5 ⟨rfl, ⟨M2, hN1, hN2, hR5⟩, hg5⟩
                    clear q0 q1 q2 q3 q4 q5 q6 q7 q8 q9 q10 q11 q12
                    have HF := hide (unhide HFIN M2 hN1 hN2)
                    have hg6 := grown_trans (unhide HGY) hg5
                    have hR6 : Rw w5 B (P ++ (M1 ++ M2) ++ T) := by simpa using hR5
                    clear hR5 hg5 hN1 hN2
                    go_wp2
                    go_end0
                    exact ⟨rfl, ⟨M1 ++ M2, (unhide HF).1, (unhide HF).2, by simpa using hR6⟩, hg6⟩
                  | false =>
                    have hs1 : Sorted (L2 ++ R2) := by
                      have q1 := unhide HL2
                      have q3 := unhide HR2
                      have q8 := unhide HSL
                      have q9 := unhide HSR
                      rw [unhide HLE] at q8
                      rw [unhide HRE] at q9
                      have hβ : ¬ (d < e ∧ e < b) := fun h => nomatch (unhide Hβ).2 h
                      have : L2 = [] ∨ R2 = [] := by
                        by_cases hsm : d < e
                        · exact .inr (List.eq_nil_of_length_eq_zero (by omega))
                        · exact .inl (List.eq_nil_of_length_eq_zero (by omega))
                      rcases this with h0 | h0
                      · rw [h0]; exact (List.pairwise_append.1 q9).2.1
                      · rw [h0, List.append_nil]; exact (List.pairwise_append.1 q8).2.1
                    have HF := hide (unhide HFIN (L2 ++ R2) (List.Perm.refl _) hs1)
                    have hR6 : Rw W2 B (P ++ (M1 ++ (L2 ++ R2)) ++ T) := by simpa using unhide HRY
                    have hg6 := unhide HGY
                    clear Hβ hs1
                    go_wp2
                    go_end0
                    exact ⟨rfl, ⟨M1 ++ (L2 ++ R2), (unhide HF).1, (unhide HF).2, by simpa using hR6⟩, hg6⟩

end Go.Proofs.Qxb6003736a.Diag
