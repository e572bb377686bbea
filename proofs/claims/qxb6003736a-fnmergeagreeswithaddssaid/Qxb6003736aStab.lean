/- slices.stableCmpFunc, slices.SortStableFunc over diagnostics (seat b6003736a). -/
import Derived.Test.Qxb6003736aSymG
namespace Go.Proofs.Qxb6003736a.Diag
open Go.RowKit
set_option linter.unusedVariables false

theorem symAll : ∀ N, SymOK N
  | 0 => fun B n a m b P L R T w hn hnb ha hm hb hL hR hN => by omega
  | N + 1 => fun B n a m b P L R T w hn hnb ha hm hb hL hR hN hbd hsl hsr hl hRw => by
    by_cases h1 : L.length = 1
    · match L, h1 with
      | [x], _ =>
        have h := sym1 B n a m b P x R T w (by simpa using hn) hnb ha (by simpa using hm) hb (by simpa using hbd) hsr (fun y hy => hl x (by simp) y hy) (by simpa using hRw)
        simpa using h
    · by_cases h2 : R.length = 1
      · match R, h2 with
        | [x], _ => exact sym2 B n a m b P L x T w (by simpa using hn) hnb ha hm (by simpa using hb) (by omega) hbd hsl (fun y hy => hl y hy x (by simp)) (by simpa using hRw)
      · exact symG N (symAll N) B n a m b P L R T w hn hnb ha hm hb (by omega) (by omega) hN hbd hsl hsr hl hRw

/-- The row C is the row O, sorted block by block, blocks of k. -/
inductive GT (k : Nat) : List D → List D → Prop
  | last {O C : List D} : O.length ≤ k → C.Perm O → Sorted C → GT k O C
  | cons {Ob Cb O C : List D} : Ob.length = k → Cb.Perm Ob → Sorted Cb → GT k O C → GT k (Ob ++ O) (Cb ++ C)
def Pre (k : Nat) (O1 C1 : List D) : Prop := ∀ O2 C2, GT k O2 C2 → GT k (O1 ++ O2) (C1 ++ C2)
theorem Pre.nil (k : Nat) : Pre k [] [] := fun _ _ h => h
theorem Pre.snoc {k : Nat} {O1 C1 Ob Cb : List D} (h : Pre k O1 C1) (hl : Ob.length = k) (hp : Cb.Perm Ob) (hs : Sorted Cb) : Pre k (O1 ++ Ob) (C1 ++ Cb) := fun O2 C2 h2 => by
  rw [List.append_assoc, List.append_assoc]
  exact h _ _ (.cons hl hp hs h2)
theorem GT.perm {k : Nat} {O C : List D} (h : GT k O C) : C.Perm O := by
  induction h with
  | last _ h _ => exact h
  | cons _ h _ _ ih => exact h.append ih
theorem GT.small {k : Nat} {O C : List D} (h : GT k O C) (hk : O.length ≤ k) : C.Perm O ∧ Sorted C := by
  cases h with
  | last _ h1 h2 => exact ⟨h1, h2⟩
  | @cons Ob Cb O' C' hl hp hs h' =>
    have hO : O' = [] := List.eq_nil_of_length_eq_zero (by simp at hk; omega)
    subst hO
    have hC : C' = [] := h'.perm.eq_nil
    subst hC
    exact ⟨by simpa using hp, by simpa using hs⟩
theorem GT.front {k : Nat} {O C : List D} (h : GT k O C) (hk : k ≤ O.length) : ∃ Oa Ca O' C', O = Oa ++ O' ∧ C = Ca ++ C' ∧ Oa.length = k ∧ Ca.Perm Oa ∧ Sorted Ca ∧ GT k O' C' := by
  cases h with
  | last h0 h1 h2 => exact ⟨O, C, [], [], by simp, by simp, by omega, h1, h2, .last (by simp) (List.Perm.refl _) List.Pairwise.nil⟩
  | @cons Ob Cb O' C' hl hp hs h' => exact ⟨Ob, Cb, O', C', rfl, rfl, hl, hp, hs, h'⟩

theorem ins35 (B n a : Nat) (xa xb : Int) (P S T : List D) (w : World) (hn : (P ++ S ++ T).length = n) (hnb : n ≤ 1048576) (ha : P.length = a) (e1 : xa = (a : Int)) (e2 : xb = (a : Int) + S.length) (hbd : ∀ d ∈ P ++ S ++ T, Bd d) (hrise : Rise S) (hR : Rw w B (P ++ S ++ T)) :
    Calls Try.prog 35 #[.slice (some ⟨B, 0, none⟩) n n, .int .i64 xa, .int .i64 xb, F26] w fun e w' => e = .returned (.tuple #[]) ∧ (∃ S', S'.Perm S ∧ Sorted S' ∧ Rw w' B (P ++ S' ++ T)) ∧ w.grownBy w' (some B) := by
  have h := insertion35 B n a (P.length + S.length) P S T w hn hnb ha rfl hbd hrise hR
  rw [e1, e2, ← ha]
  rw [← ha] at h
  simpa using h
theorem sym36 (B n a : Nat) (xa xm xb : Int) (P L R T : List D) (w : World) (hn : (P ++ L ++ R ++ T).length = n) (hnb : n ≤ 1048576) (ha : P.length = a) (e1 : xa = (a : Int)) (e2 : xm = (a : Int) + L.length) (e3 : xb = (a : Int) + L.length + R.length) (hL : 0 < L.length) (hR : 0 < R.length)
    (hbd : ∀ d ∈ L ++ R, Bd d) (hsl : Sorted L) (hsr : Sorted R) (hl : ∀ y ∈ L, ∀ x ∈ R, y.line < x.line) (hRw : Rw w B (P ++ L ++ R ++ T)) :
    Calls Try.prog 36 #[.slice (some ⟨B, 0, none⟩) n n, .int .i64 xa, .int .i64 xm, .int .i64 xb, F26] w fun e w' => e = .returned (.tuple #[]) ∧ (∃ M, M.Perm (L ++ R) ∧ Sorted M ∧ Rw w' B (P ++ M ++ T)) ∧ w.grownBy w' (some B) := by
  have h := symAll (L.length + R.length) B n a (a + L.length) (a + L.length + R.length) P L R T w hn hnb ha rfl rfl hL hR (Nat.le_refl _) hbd hsl hsr hl hRw
  rw [e1, e2, e3]
  simpa using h

set_option maxRecDepth 100000 in
set_option maxHeartbeats 4000000 in
theorem stable32 (B n : Nat) (O : List D) (w : World) (hn : O.length = n) (hnb : n ≤ 1048576) (hbd : ∀ d ∈ O, Bd d) (hr : Rise O) (hR : Rw w B O) :
    Calls Try.prog 32 #[.slice (some ⟨B, 0, none⟩) n n, .int .i64 n, F26] w fun e w' => e = .returned (.tuple #[]) ∧ (∃ C, C.Perm O ∧ Sorted C ∧ Rw w' B C) ∧ w.grownBy w' (some B) := by
  have HN := hide hn
  have HBD := hide hbd
  have HR := hide hr
  have HRR := hide hR
  clear hn hbd hr hR
  unfold F26
  go_enter Try.func32, Try.ntmps32
  go_wp2_with fail
  go_loopw [7, 8] (fun I J wr => ∃ (a : Nat) (O1 C1 O2 : List D), a ≤ n ∧ I = .int .i64 a ∧ J = .int .i64 ((a : Int) + 20) ∧ Hid (O = O1 ++ O2) ∧ Hid (O1.length = a) ∧ Hid (C1.Perm O1) ∧ Hid (Pre 20 O1 C1) ∧ Rw wr B (C1 ++ O2) ∧ w.grownBy wr (some B)) (fun I _ _ => n - (intOf I).toNat)
  case atStart => exact ⟨0, [], [], O, Nat.zero_le _, rfl, rfl, rfl, rfl, List.Perm.refl _, Pre.nil _, unhide HRR, World.grownBy.refl _ _⟩
  case round =>
    obtain ⟨a, O1, C1, O2, han, rfl, rfl, HO, HA, HP, HPre, hR, hg⟩ := hrel
    have HRW := hide hR
    have HG := hide hg
    clear hR hg
    generalize wr = W at *
    by_cases hlt : a + 20 ≤ n
    · have hlt2 : (a : Int) + 20 ≤ (n : Int) := by omega
      go_wp2_with fail
      have q1 := unhide HO
      have q2 := unhide HA
      have q3 := unhide HN
      have q4 := unhide HP
      have q5 := q4.length_eq
      have q6 := unhide HR
      have q7 := unhide HBD
      rw [q1] at q3
      obtain ⟨Ob, O3, hOe, hOb⟩ := split_at O2 20 (by simp at q3; omega)
      rw [q1, hOe] at q6 q7
      have q8 := unhide HRW
      rw [hOe] at q8 q3
      refine (ins35 B n a _ _ C1 Ob O3 W (by simp at q3 ⊢; omega) hnb (by omega) rfl (by omega) (fun d hd => q7 d (by
        rcases List.mem_append.1 hd with h | h
        · rcases List.mem_append.1 h with h | h
          · simp [q4.mem_iff.1 h]
          · simp [h]
        · simp [h])) (by
        have := (List.pairwise_append.1 q6).2.1
        exact (List.pairwise_append.1 this).1) (by simpa using q8)).mono ?_
      rintro _ w5 ⟨rfl, ⟨S', hS1, hS2, hR5⟩, hg5⟩
      have k1 : Hid (O = (O1 ++ Ob) ++ O3) := by show O = _; rw [q1, hOe]; simp
      have k2 : Hid ((O1 ++ Ob).length = a + 20) := by show _ = _; simp; omega
      have k3 : Hid ((C1 ++ S').Perm (O1 ++ Ob)) := q4.append hS1
      have k4 : Hid (Pre 20 (O1 ++ Ob) (C1 ++ S')) := (unhide HPre).snoc hOb hS1 hS2
      have k5 := grown_trans (unhide HG) hg5
      clear q1 q2 q3 q4 q5 q6 q7 q8 hOe hOb hS1 hS2 hg5
      go_wp2
      go_roundw
      case rel => exact ⟨a + 20, O1 ++ Ob, C1 ++ S', O3, hlt, by go_num, by go_num, k1, k2, k3, k4, hR5, k5⟩
      case measure => simp [intOf]; omega
    · have hlt2 : (n : Int) < (a : Int) + 20 := by omega
      go_wp2_with fail
      have q1 := unhide HO
      have q2 := unhide HA
      have q3 := unhide HN
      have q4 := unhide HP
      have q5 := q4.length_eq
      have q6 := unhide HR
      have q7 := unhide HBD
      rw [q1] at q3 q6 q7
      have q8 := unhide HRW
      refine (ins35 B n a _ _ C1 O2 [] W (by simp at q3 ⊢; omega) hnb (by omega) rfl (by simp at q3; omega) (fun d hd => q7 d (by
        simp at hd
        rcases hd with h | h
        · simp [q4.mem_iff.1 h]
        · simp [h])) ((List.pairwise_append.1 q6).2.1) (by simpa using q8)).mono ?_
      rintro _ w5 ⟨rfl, ⟨S', hS1, hS2, hR5⟩, hg5⟩
      have k4 : GT 20 O (C1 ++ S') := by
        rw [q1]
        exact unhide HPre _ _ (.last (by simp at q3; omega) hS1 hS2)
      have K4 := hide k4
      have hR6 : Rw w5 B (C1 ++ S') := by simpa using hR5
      have HR6 := hide hR6
      have HG6 := hide (grown_trans (unhide HG) hg5)
      generalize hCC : C1 ++ S' = C0 at *
      clear hCC q1 q2 q3 q4 q5 q6 q7 q8 hS1 hS2 hg5 hR5 k4 hR6 HO HA HP HPre HRW HG
      go_wp2_with fail
      go_loopw [6] (fun I wr => ∃ (k : Nat) (C : List D), 20 ≤ k ∧ k ≤ 2097152 ∧ I = .int .i64 k ∧ Hid (GT k O C) ∧ Rw wr B C ∧ w.grownBy wr (some B)) (fun I _ => n - (intOf I).toNat)
      case atStart => exact ⟨20, C0, Nat.le_refl _, by omega, rfl, K4, unhide HR6, unhide HG6⟩
      case round =>
        clear K4 HR6 HG6
        obtain ⟨k, C, hk20, hkb, rfl, HGT, hR, hg⟩ := hrel
        by_cases hkn : k < n
        · have HRW := hide hR
          have HG := hide hg
          clear hR hg
          generalize wr = W1 at *
          go_wp2_with fail
          go_loopw [7, 8] (fun I J wr => ∃ (a : Nat) (O1 C1 O2 C2 : List D), a ≤ n ∧ I = .int .i64 a ∧ J = .int .i64 ((a : Int) + 2 * (k : Int)) ∧ Hid (O = O1 ++ O2) ∧ Hid (O1.length = a) ∧ Hid (C1.length = a) ∧ Hid (Pre (2 * k) O1 C1) ∧ Hid (GT k O2 C2) ∧ Rw wr B (C1 ++ C2) ∧ w.grownBy wr (some B)) (fun I _ _ => n - (intOf I).toNat)
          case atStart => exact ⟨0, [], [], O, C, Nat.zero_le _, rfl, by simp, rfl, rfl, rfl, Pre.nil _, HGT, unhide HRW, unhide HG⟩
          case round =>
            clear HRW HG HGT
            obtain ⟨a, O1, C1, O2, C2, han, rfl, rfl, HO, HA, HA2, HPre, HGT, hR, hg⟩ := hrel
            have HRW := hide hR
            have HG := hide hg
            clear hR hg
            generalize wr = W2 at *
            by_cases hlt : a + 2 * k ≤ n
            · have hlt2 : (a : Int) + 2 * (k : Int) ≤ (n : Int) := by omega
              go_wp2_with fail
              have q1 := unhide HO
              have q2 := unhide HA
              have q3 := unhide HN
              have q4 := unhide HA2
              have q6 := unhide HR
              have q7 := unhide HBD
              rw [q1] at q3 q6 q7
              obtain ⟨Oa, Ca, O', C', e1, e2, l1, p1, s1, g1⟩ := (unhide HGT).front (by simp at q3; omega)
              obtain ⟨Ob, Cb, O3, C3, e3, e4, l2, p2, s2, g2⟩ := g1.front (by rw [e1] at q3; simp at q3; omega)
              rw [e1, e3] at q3 q6 q7
              have q8 := unhide HRW
              rw [e2, e4] at q8
              have p1l := p1.length_eq
              have p2l := p2.length_eq
              have g2l := g2.perm.length_eq
              refine (sym36 B n a _ _ _ C1 Ca Cb C3 W2 (by simp at q3 ⊢; omega) hnb q4 rfl (by omega) (by omega) (by omega) (by omega) (fun d hd => q7 d (by
                rcases List.mem_append.1 hd with h | h
                · simp [p1.mem_iff.1 h]
                · simp [p2.mem_iff.1 h])) s1 s2 (fun y hy x hx => by
                have h1 := (List.pairwise_append.1 q6).2.1
                exact (List.pairwise_append.1 h1).2.2 y (p1.mem_iff.1 hy) x (by simp [p2.mem_iff.1 hx])) (by simpa using q8)).mono ?_
              rintro _ w5 ⟨rfl, ⟨M, hM1, hM2, hR5⟩, hg5⟩
              have k1 : Hid (O = (O1 ++ (Oa ++ Ob)) ++ O3) := by show O = _; rw [q1, e1, e3]; simp
              have k2 : Hid ((O1 ++ (Oa ++ Ob)).length = a + 2 * k) := by show _ = _; simp; omega
              have k3 : Hid ((C1 ++ M).length = a + 2 * k) := by show _ = _; have := hM1.length_eq; simp at this ⊢; omega
              have k4 : Hid (Pre (2 * k) (O1 ++ (Oa ++ Ob)) (C1 ++ M)) := (unhide HPre).snoc (by simp; omega) (hM1.trans (p1.append p2)) hM2
              have k5 := grown_trans (unhide HG) hg5
              have k6 : Hid (GT k O3 C3) := g2
              clear q1 q2 q3 q4 q6 q7 q8 e1 e2 e3 e4 l1 l2 p1 p2 s1 s2 g1 g2 p1l p2l g2l hM1 hM2 hg5
              go_wp2
              go_roundw
              case rel => exact ⟨a + 2 * k, O1 ++ (Oa ++ Ob), C1 ++ M, O3, C3, hlt, by go_num, by go_num, k1, k2, k3, k4, k6, hR5, k5⟩
              case measure => simp [intOf]; omega
            · have hlt2 : (n : Int) < (a : Int) + 2 * (k : Int) := by omega
              by_cases hm : a + k < n
              · have hm2 : (a : Int) + (k : Int) < (n : Int) := by omega
                go_wp2_with fail
                have q1 := unhide HO
                have q2 := unhide HA
                have q3 := unhide HN
                have q4 := unhide HA2
                have q6 := unhide HR
                have q7 := unhide HBD
                rw [q1] at q3 q6 q7
                obtain ⟨Oa, Ca, Ob, Cb, e1, e2, l1, p1, s1, g1⟩ := (unhide HGT).front (by simp at q3; omega)
                obtain ⟨p2, s2⟩ := g1.small (by rw [e1] at q3; simp at q3; omega)
                rw [e1] at q3 q6 q7
                have q8 := unhide HRW
                rw [e2] at q8
                have p1l := p1.length_eq
                have p2l := p2.length_eq
                refine (sym36 B n a _ _ _ C1 Ca Cb [] W2 (by simp at q3 ⊢; omega) hnb q4 rfl (by omega) (by simp at q3; omega) (by omega) (by simp at q3; omega) (fun d hd => q7 d (by
                  rcases List.mem_append.1 hd with h | h
                  · simp [p1.mem_iff.1 h]
                  · simp [p2.mem_iff.1 h])) s1 s2 (fun y hy x hx => by
                  have h1 := (List.pairwise_append.1 q6).2.1
                  exact (List.pairwise_append.1 h1).2.2 y (p1.mem_iff.1 hy) x (p2.mem_iff.1 hx)) (by simpa using q8)).mono ?_
                rintro _ w5 ⟨rfl, ⟨M, hM1, hM2, hR5⟩, hg5⟩
                have k4 : Hid (GT (2 * k) O (C1 ++ M)) := by
                  show GT _ _ _
                  rw [q1, e1]
                  exact unhide HPre _ _ (.last (by simp at q3 ⊢; omega) (hM1.trans (p1.append p2)) hM2)
                have k5 := grown_trans (unhide HG) hg5
                have k6 : Rw w5 B (C1 ++ M) := by simpa using hR5
                clear q1 q2 q3 q4 q6 q7 q8 e1 e2 l1 p1 p2 s1 s2 g1 p1l p2l hM1 hM2 hg5 hR5
                go_wp2
                go_roundw
                case rel => exact ⟨2 * k, C1 ++ M, by omega, by omega, by go_num, k4, k6, k5⟩
                case measure => simp [intOf]; omega
              · have hm2 : (n : Int) ≤ (a : Int) + (k : Int) := by omega
                have k4 : Hid (GT (2 * k) O (C1 ++ C2)) := by
                  have q1 := unhide HO
                  have q2 := unhide HA
                  have q3 := unhide HN
                  rw [q1] at q3
                  simp at q3
                  obtain ⟨p2, s2⟩ := (unhide HGT).small (by omega)
                  show GT _ _ _
                  rw [q1]
                  exact unhide HPre _ _ (.last (by omega) p2 s2)
                have k5 := unhide HG
                have k6 := unhide HRW
                go_wp2
                go_roundw
                case rel => exact ⟨2 * k, C1 ++ C2, by omega, by omega, by go_num, k4, k6, k5⟩
                case measure => simp [intOf]; omega
        · go_wp2
          go_end0
          obtain ⟨p1, p2⟩ := (unhide HGT).small (by rw [unhide HN]; omega)
          exact ⟨rfl, ⟨C, p1, p2, hR⟩, hg⟩

theorem sort25 (B n : Nat) (O : List D) (w : World) (hn : O.length = n) (hnb : n ≤ 1048576) (hbd : ∀ d ∈ O, Bd d) (hr : Rise O) (hR : Rw w B O) :
    Calls Try.prog 25 #[.slice (some ⟨B, 0, none⟩) n n, F26] w fun e w' => e = .returned (.tuple #[]) ∧ (∃ C, C.Perm O ∧ Sorted C ∧ Rw w' B C) ∧ w.grownBy w' (some B) := by
  have HC := hide (stable32 B n O w hn hnb hbd hr hR)
  clear hn hbd hr hR
  unfold F26
  go_enter Try.func25, Try.ntmps25
  go_wp2_with fail
  refine (unhide HC).mono ?_
  rintro _ w5 ⟨rfl, h1, h2⟩
  have H1 := hide h1
  clear h1
  go_wp2
  go_end0
  exact ⟨rfl, unhide H1, h2⟩

end Go.Proofs.Qxb6003736a.Diag
