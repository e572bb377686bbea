/- slices.CompactFunc over diagnostics (seat b6003736a). -/
import Derived.Test.Qxb6003736aClr
namespace Go.Proofs.Qxb6003736a.Diag
open Go.RowKit
set_option linter.unusedVariables false

/-- What is kept behind p. -/
def cmpt (p : D) : List D → List D
  | [] => []
  | y :: r => if y.fl = p.fl then cmpt y r else y :: cmpt y r
def cpt : List D → List D
  | [] => []
  | x :: r => x :: cmpt x r
theorem cpt_step (A : List D) (q y : D) (C : List D) (ds : List D) (h : cpt ds = A ++ [q] ++ cmpt q (y :: C)) (hne : ¬ y.fl = q.fl) : cpt ds = A ++ [q] ++ [y] ++ cmpt y C := by
  rw [h, cmpt, if_neg hne]; simp
theorem cpt_same (K : List D) (q y : D) (C : List D) (ds : List D) (h : cpt ds = K ++ cmpt q (y :: C)) (he : y.fl = q.fl) : cpt ds = K ++ cmpt y C := by
  rw [h, cmpt, if_pos he]

/-- Merge's equality, as a value. -/
def F27 : Value := .func (.func 27) #[] #[]
theorem eqAt (x y : D) : Hid (∀ W, Calls Try.prog 27 #[.agg #[.int .i64 x.line, .int .i64 x.fl, .string x.txt, .bool x.warn], .agg #[.int .i64 y.line, .int .i64 y.fl, .string y.txt, .bool y.warn]] W
    fun e w' => e = .returned (.bool (x.fl == y.fl)) ∧ W.grownBy w' none) := fun W => eq27 x y W

theorem GW.el2 {w : World} {b : Nat} {ds : List D} (h : Rw w b ds) (k i : Nat) (hi : k + i < ds.length) (d : D) (hd : ds.getD (k + i) D.no = d) :
    (∀ p : GW w, p.w'.cell? ⟨b, k * 4 + i * 4, none⟩ = some (.int .i64 d.line)) ∧ (∀ p : GW w, p.w'.cell? ⟨b, k * 4 + i * 4 + 1, none⟩ = some (.int .i64 d.fl)) ∧
    (∀ p : GW w, p.w'.cell? ⟨b, k * 4 + i * 4 + 2, none⟩ = some (.string d.txt)) ∧ (∀ p : GW w, p.w'.cell? ⟨b, k * 4 + i * 4 + 3, none⟩ = some (.bool d.warn)) := by
  have := GW.el h (k + i) hi d hd
  rwa [Nat.add_mul] at this
theorem Rw.el2 {w : World} {b : Nat} {ds : List D} (h : Rw w b ds) (k i : Nat) (hi : k + i < ds.length) (d : D) (hd : ds.getD (k + i) D.no = d) :
    w.cell? ⟨b, k * 4 + i * 4, none⟩ = some (.int .i64 d.line) ∧ w.cell? ⟨b, k * 4 + i * 4 + 1, none⟩ = some (.int .i64 d.fl) ∧
    w.cell? ⟨b, k * 4 + i * 4 + 2, none⟩ = some (.string d.txt) ∧ w.cell? ⟨b, k * 4 + i * 4 + 3, none⟩ = some (.bool d.warn) := by
  have := Rw.el h (k + i) hi d hd
  rwa [Nat.add_mul] at this
theorem keep_one (K M : List D) (z e : D) (E : List D) : (K ++ M ++ z :: e :: E).set K.length e = (K ++ [e]) ++ (M ++ [z]).tail ++ e :: E := by
  rw [List.append_assoc, List.set_append_right _ _ (by omega), Nat.sub_self]
  cases M with
  | nil => simp
  | cons m M => simp

set_option maxRecDepth 100000 in
set_option maxHeartbeats 4000000 in
theorem compact28 (B n : Nat) (ds : List D) (w : World) (hn : ds.length = n) (hnb : n ≤ 1048576) (hR : Rw w B ds) :
    Calls Try.prog 28 #[.slice (some ⟨B, 0, none⟩) n n, F27] w fun e w' => ∃ J, e = .returned (.slice (some ⟨B, 0, none⟩) (cpt ds).length n) ∧ Rw w' B (cpt ds ++ J) ∧ w.grownBy w' (some B) := by
  have HN := hide hn
  have HRR := hide hR
  clear hn hR
  unfold F27
  go_enter Try.func28, Try.ntmps28
  by_cases h2 : n < 2
  · have hc : cpt ds = ds := by
      have h := unhide HN
      match ds, h with
      | [], _ => rfl
      | [x], _ => rfl
      | x :: y :: r, h => simp at h; omega
    have HC := hide hc
    clear hc
    go_wp2
    go_ret
    exact ⟨[], by rw [unhide HC, unhide HN]; rfl, by rw [unhide HC]; simpa using unhide HRR, World.grownBy.refl _ _⟩
  · go_wp2_with fail
    go_loopw [5] (fun I wr => ∃ (k : Nat) (A : List D) (q : D) (C : List D), 1 ≤ k ∧ k ≤ n ∧ I = .int .i64 k ∧ Hid (ds = A ++ [q] ++ C) ∧ Hid (A.length + 1 = k) ∧ Hid (cpt ds = A ++ [q] ++ cmpt q C) ∧ w.grownBy wr none) (fun I _ => n - (intOf I).toNat)
    case atStart =>
      have h := unhide HN
      match ds, h with
      | [], h => simp at h; omega
      | x :: r, h => exact ⟨1, [], x, r, Nat.le_refl _, by omega, rfl, rfl, rfl, rfl, World.grownBy.refl _ _⟩
    case round =>
      obtain ⟨k, A, q, C, hk1, hkn, rfl, HD, HA, HC, hg⟩ := hrel
      cases C with
      | nil =>
        have hk : k = n := by
          have h1 := unhide HN
          have h2 := unhide HD
          have h3 := unhide HA
          rw [h2] at h1
          simp at h1
          omega
        have hc : cpt ds = ds := by rw [unhide HC, unhide HD]; simp [cmpt]
        have HCC := hide hc
        clear hc
        subst hk
        go_wp2
        go_ret
        exact ⟨[], by rw [unhide HCC, unhide HN]; rfl, by rw [unhide HCC]; simpa using (unhide HRR).grown hg, grown_of_none hg⟩
      | cons y C =>
        have hlt : k < n := by
          have h1 := unhide HN
          have h2 := unhide HD
          have h3 := unhide HA
          rw [h2] at h1
          simp at h1
          omega
        have hRw := (unhide HRR).grown hg
        have hlen := unhide HN
        have q1 := unhide HA
        have q2 := unhide HD
        have ey : ds.getD k D.no = y := by
          have := at_mid (A ++ [q]) C y
          rw [show (A ++ [q]).length = k by simp; omega] at this
          rw [q2]; exact this
        have eq : ds.getD (k - 1) D.no = q := by
          have := at_mid A (y :: C) q
          rw [show A.length = k - 1 by omega] at this
          rw [q2]; simpa using this
        obtain ⟨c1, c2, c3, c4⟩ := GW.el hRw k (by omega) y ey
        obtain ⟨d1, d2, d3, d4⟩ := GW.el hRw (k - 1) (by omega) q eq
        have HQ := eqAt y q
        have hk3 : k - 1 < n := by omega
        have hk0 : 0 < k := by omega
        clear hRw hlen q1 q2 ey eq
        go_wp2_with fail
        refine wp_region_gw (by kernel_rfl) (by kernel_rfl) ?_
        repeat (go_big_quiet_step ((go_at_call 27; exact GW.call _ (unhide HQ _))))
        refine wpQuiet_nil ?_
        rintro W ⟨p, hp⟩
        have hW := p.h
        rw [← hp] at hW
        clear hp p c1 c2 c3 c4 d1 d2 d3 d4
        have hgW := grown_trans hg hW
        clear hg hW
        by_cases hyq : y.fl = q.fl
        · have hdec : (y.fl == q.fl) = true := by rw [hyq]; simp
          rw [hdec]
          have k3 : Hid (cpt ds = A ++ [q] ++ cmpt y C) := cpt_same _ q y C ds (unhide HC) hyq
          have HYQ := hide hyq
          have HGW := hide hgW
          clear hyq hdec hgW
          have HKL : Hid ((A ++ [q]).length = k) := by show _ = _; have := unhide HA; simp; omega
          have HNL : Hid ((A ++ [q]).length + 1 + C.length = n) := by
            have h1 := unhide HN
            rw [unhide HD] at h1
            show _ = _
            simp at h1 ⊢
            omega
          have HR0 : Hid (Rw W B ((A ++ [q]) ++ [] ++ y :: C)) := by
            have h := (unhide HRR).grown (unhide HGW)
            rw [unhide HD] at h
            show Rw _ _ _
            simpa using h
          have HG0 := hide (grown_of_none (b := B) (unhide HGW))
          generalize A ++ [q] = K0 at *
          clear HYQ HGW HC HD HA HQ
          go_wp2_with fail
          go_loopw [5, 7] (fun I J' wr => ∃ (kk j : Nat) (K M : List D) (z : D) (E : List D), kk ≤ k + j ∧ k + j < n ∧ I = .int .i64 kk ∧ J' = .int .i64 ((j : Int) + 1) ∧ Hid (K.length = kk) ∧ Hid (K.length + M.length = k + j) ∧ Hid (K.length + M.length + 1 + E.length = n) ∧ Hid (cpt ds = K ++ cmpt z E) ∧ Rw wr B (K ++ M ++ z :: E) ∧ w.grownBy wr (some B)) (fun _ J' _ => n - (intOf J').toNat)
          case atStart => exact ⟨k, 0, K0, [], y, C, by omega, by omega, rfl, by simp, HKL, by show _ = _; have := unhide HKL; simpa using this, HNL, k3, unhide HR0, unhide HG0⟩
          case round =>
            clear HR0 HG0 k3 HNL HKL
            obtain ⟨kk, j, K, M, z, E, hkk, hj, rfl, rfl, HK, HKM, HE, HC, hR, hg⟩ := hrel
            have HRW := hide hR
            have HG := hide hg
            clear hR hg
            generalize wr = W2 at *
            cases E with
            | nil =>
              have hjn : k + j + 1 = n := by have h1 := unhide HKM; have h2 := unhide HE; simp at h2; omega
              have hK : cpt ds = K := by rw [unhide HC]; simp [cmpt]
              have hlen : (K ++ M ++ [z]).length = n := by have := unhide HE; simp at this ⊢; omega
              have hcl : ∀ ty, (Builtin.clear_ #[26] ty #[.slice (some ⟨B, kk * 4, none⟩) (n - kk) (n - kk)]).run Try.prog W2 = .ok (.tuple #[]) (W2.setRow B (enc ((K ++ M ++ [z]).take kk ++ List.replicate (n - kk) D.no)).toArray) :=
                fun ty => clear_row (unhide HRW) kk (n - kk) (n - kk) ty (by omega) (by omega)
              have htake : (K ++ M ++ [z]).take kk = K := by rw [← unhide HK]; simp
              rw [htake] at hcl
              have HRF := hide ((unhide HRW).setRow (K ++ List.replicate (n - kk) D.no))
              have HGF := hide (grown_trans (unhide HG) (setRow_grown W2 B (enc (K ++ List.replicate (n - kk) D.no)).toArray))
              generalize W2.setRow B (enc (K ++ List.replicate (n - kk) D.no)).toArray = W3 at *
              have HKK := hide hK
              have hjn2 : ¬ ((j : Int) + 1 < ((n - k : Nat) : Int)) := by omega
              have hkn3 : kk ≤ n := by omega
              clear hK hlen htake
              go_wp2
              go_ret
              exact ⟨by rw [unhide HKK, unhide HK]; rfl, ⟨_, by rw [unhide HKK]; exact unhide HRF⟩, unhide HGF⟩
            | cons e E =>
              have hjn : k + j + 1 < n := by have h1 := unhide HKM; have h2 := unhide HE; simp at h2; omega
              have hRw := unhide HRW
              have hlen : (K ++ M ++ z :: e :: E).length = n := by have := unhide HE; simp at this ⊢; omega
              have q1 := unhide HKM
              have ez : (K ++ M ++ z :: e :: E).getD (k + j) D.no = z := by
                have := at_mid (K ++ M) (e :: E) z
                rw [show (K ++ M).length = k + j by simp; omega] at this
                exact this
              have ee : (K ++ M ++ z :: e :: E).getD (k + (j + 1)) D.no = e := by
                have := at_mid (K ++ M ++ [z]) E e
                rw [show (K ++ M ++ [z]).length = k + (j + 1) by simp; omega] at this
                simpa using this
              obtain ⟨c1, c2, c3, c4⟩ := GW.el2 hRw k (j + 1) (by omega) e ee
              obtain ⟨d1, d2, d3, d4⟩ := GW.el2 hRw k j (by omega) z ez
              have HQ := eqAt e z
              have hj1 : j + 1 < n - k := by omega
              have hj2 : (j : Int) + 1 < ((n - k : Nat) : Int) := by omega
              have hj3 : j < n - k := by omega
              have EE := hide ee
              clear hRw hlen q1 ez ee
              go_wp2_with fail
              refine wp_region_gw (by kernel_rfl) (by kernel_rfl) ?_
              repeat (go_big_quiet_step ((go_at_call 27; exact GW.call _ (unhide HQ _))))
              refine wpQuiet_nil ?_
              rintro W4 ⟨p, hp⟩
              have hW := p.h
              rw [← hp] at hW
              clear hp p c1 c2 c3 c4 d1 d2 d3 d4
              have hR4 := (unhide HRW).grown hW
              have hg4 := grown_trans (unhide HG) (grown_of_none (b := B) hW)
              clear hW HRW HG
              by_cases hez : e.fl = z.fl
              · have hdec : (e.fl == z.fl) = true := by rw [hez]; simp
                rw [hdec]
                have k1 : Hid (K.length + (M ++ [z]).length = k + (j + 1)) := by show _ = _; have := unhide HKM; simp; omega
                have k2 : Hid (K.length + (M ++ [z]).length + 1 + E.length = n) := by show _ = _; have := unhide HE; simp at this ⊢; omega
                have k3 : Hid (cpt ds = K ++ cmpt e E) := cpt_same K z e E ds (unhide HC) hez
                have hR5 : Rw W4 B (K ++ (M ++ [z]) ++ e :: E) := by simpa using hR4
                clear hez hdec hR4
                go_wp2
                go_roundw
                case rel => exact ⟨kk, j + 1, K, M ++ [z], e, E, by omega, by omega, rfl, by go_num, HK, k1, k2, k3, hR5, hg4⟩
                case measure => simp [intOf]; omega
              · have hdec : (e.fl == z.fl) = false := by simpa using hez
                rw [hdec]
                have q1 := unhide HK
                have q2 := unhide HKM
                have hlen : (K ++ M ++ z :: e :: E).length = n := by have := unhide HE; simp at this ⊢; omega
                have k0 : Hid ((K ++ [e]).length = kk + 1) := by show _ = _; simp; omega
                have k1 : Hid ((K ++ [e]).length + ((M ++ [z]).tail).length = k + (j + 1)) := by show _ = _; simp; omega
                have k2 : Hid ((K ++ [e]).length + ((M ++ [z]).tail).length + 1 + E.length = n) := by show _ = _; have := unhide HE; simp at this ⊢; omega
                have k3 : Hid (cpt ds = (K ++ [e]) ++ cmpt e E) := by
                  show _ = _
                  rw [unhide HC, cmpt, if_neg hez]
                  simp
                have hN : Rw (put W4 B kk e) B ((K ++ [e]) ++ (M ++ [z]).tail ++ e :: E) := by
                  have h := hR4.put kk (by omega) e
                  rw [← q1, keep_one] at h
                  rw [← q1]
                  exact h
                have hgN := grown_trans hg4 (put_grown W4 B kk e)
                obtain ⟨c1, c2, c3, c4⟩ := Rw.el2 hR4 k (j + 1) (by omega) e (unhide EE)
                obtain ⟨x, hx⟩ : ∃ x, (K ++ M ++ z :: e :: E).getD kk D.no = x := ⟨_, rfl⟩
                obtain ⟨d1, d2, d3, d4⟩ := Rw.el hR4 kk (by omega) x hx
                have fr := fun k => hR4.free k
                unfold put at hN hgN
                have HNW := hide hN
                have HGN := hide hgN
                have hkn4 : kk < n := by omega
                clear hN hgN hR4 hg4 q1 q2 hlen hx hez hdec
                go_wp2
                go_roundw
                case rel => exact ⟨kk + 1, j + 1, K ++ [e], (M ++ [z]).tail, e, E, by omega, by omega, by go_num, by go_num, k0, k1, k2, k3, unhide HNW, unhide HGN⟩
                case measure => simp [intOf]; omega
        · have hdec : (y.fl == q.fl) = false := by simpa using hyq
          rw [hdec]
          have k1 : Hid (ds = (A ++ [q]) ++ [y] ++ C) := by show ds = _; rw [unhide HD]; simp
          have k2 : Hid ((A ++ [q]).length + 1 = k + 1) := by show _ = _; have := unhide HA; simp; omega
          have k3 : Hid (cpt ds = (A ++ [q]) ++ [y] ++ cmpt y C) := cpt_step A q y C ds (unhide HC) hyq
          go_wp2
          go_roundw
          case rel => exact ⟨k + 1, A ++ [q], y, C, by omega, by omega, by go_num, k1, k2, k3, hgW⟩
          case measure => simp [intOf]; omega

end Go.Proofs.Qxb6003736a.Diag
