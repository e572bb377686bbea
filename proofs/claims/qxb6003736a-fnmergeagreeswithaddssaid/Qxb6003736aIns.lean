/- The closures; slices.insertionSortCmpFunc over diagnostics (seat b6003736a). -/
import Derived.Test.Qxb6003736aDiag
namespace Go.Proofs.Qxb6003736a.Diag
open Go.RowKit
set_option linter.unusedVariables false

/-- File lines are small. -/
def Bd (d : D) : Prop := -536870912 ≤ d.fl ∧ d.fl ≤ 536870912

/-- Merge's comparison, as a value. -/
def F26 : Value := .func (.func 26) #[] #[]

theorem cmp26 (x y : D) (w : World) (hx : Bd x) (hy : Bd y) :
    Calls Try.prog 26 #[x.val, y.val] w fun e w' => e = .returned (.int .i64 (x.fl - y.fl)) ∧ w.grownBy w' none := by
  obtain ⟨a, b, c, d⟩ := x
  obtain ⟨a', b', c', d'⟩ := y
  obtain ⟨h1, h2⟩ := hx
  obtain ⟨h3, h4⟩ := hy
  simp only at h1 h2 h3 h4
  unfold D.val
  go_enter Try.func26, Try.ntmps26
  go_wp2
  go_ret
  exact ⟨rfl, grown_trans (World.grownBy_alloc _ _ _) (World.grownBy_alloc _ _ _)⟩

theorem eq27 (x y : D) (w : World) :
    Calls Try.prog 27 #[x.val, y.val] w fun e w' => e = .returned (.bool (x.fl == y.fl)) ∧ w.grownBy w' none := by
  obtain ⟨a, b, c, d⟩ := x
  obtain ⟨a', b', c', d'⟩ := y
  unfold D.val
  go_enter Try.func27, Try.ntmps27
  go_wp2
  go_ret
  exact ⟨rfl, grown_trans (World.grownBy_alloc _ _ _) (World.grownBy_alloc _ _ _)⟩

theorem srch23 (x : D) (n : Int) (w : World) (hx : Bd x) (h1 : -536870912 ≤ n) (h2 : n ≤ 536870912) :
    Calls Try.prog 23 #[x.val, .int .i64 n] w fun e w' => e = .returned (.int .i64 (x.fl - n)) ∧ w.grownBy w' none := by
  obtain ⟨a, b, c, d⟩ := x
  obtain ⟨h3, h4⟩ := hx
  simp only at h3 h4
  unfold D.val
  go_enter Try.func23, Try.ntmps23
  go_wp2
  go_ret
  exact ⟨rfl, World.grownBy_alloc _ _ _⟩

/-- The strict total order that the stable sort comes to. -/
def Lt (x y : D) : Prop := x.fl < y.fl ∨ (x.fl = y.fl ∧ x.line < y.line)
theorem Lt.trans {x y z : D} (h : Lt x y) (k : Lt y z) : Lt x z := by unfold Lt at *; omega
def Sorted (l : List D) : Prop := l.Pairwise Lt
/-- The lines rise. -/
def Rise (l : List D) : Prop := l.Pairwise (fun a b => a.line < b.line)

theorem grown_of_none {w w' : World} {b : Nat} (h : w.grownBy w' none) : w.grownBy w' (some b) := ⟨h.os, h.tape, h.output, h.size, fun k hk _ => h.block k hk (by simp)⟩
theorem Rw.grown {w w' : World} {b : Nat} {ds : List D} (h : Rw w b ds) (hg : w.grownBy w' none) : Rw w' b ds := h.same (hg.block b h.lt (by simp))

/-- A world that has grown, and no old block has changed. -/
structure GW (w : World) where
  w' : World
  h : w.grownBy w' none
instance (w : World) : Inhabited (GW w) := ⟨⟨w, World.grownBy.refl _ _⟩⟩
theorem GW.cell {w : World} (p : GW w) {a : Addr} {v : Value} (h : w.cell? a = some v) (hb : a.block < w.heap.size) : p.w'.cell? a = some v := by
  rw [← h]
  simp only [World.cell?, p.h.block a.block hb (by simp)]
theorem GW.call {w : World} (p : GW w) {f : FuncId} {args : Array Value} {v : Value} (h : Calls Try.prog f args p.w' fun e w' => e = .returned v ∧ p.w'.grownBy w' none) :
    Calls Try.prog f args p.w' fun e w'' => e = .returned v ∧ ∃ q : GW w, w'' = q.w' :=
  h.mono fun _ _ ⟨he, hg⟩ => ⟨he, ⟨_, grown_trans p.h hg⟩, rfl⟩
theorem wp_region_gw {P : Program} {id : Nat} {Q : Exit → Act → World → Prop} {a : Act} {w : World} {l : List Oper} (hm : P.follows .mixedOrders = true) (hB : Region.lexB .any l.toArray = true)
    (h : wpQuiet P l.toArray (fun w' => ∃ p : GW w, w' = p.w') (fun a' => ∀ w', (∃ p : GW w, w' = p.w') → Q .normal a' w') l a) : (Code.region id l.toArray true).wp P Q a w :=
  wp_region_quiet (C := fun w' => ∃ p : GW w, w' = p.w') hm hB ⟨⟨_, grown_drew (World.grownBy.refl _ _)⟩, rfl⟩ (by simpa using h)

theorem nil_or_snoc (U : List D) : U = [] ∨ ∃ U' y, U = U' ++ [y] := by
  rcases List.eq_nil_or_concat U with h | ⟨U', y, h⟩
  · exact .inl h
  · exact .inr ⟨U', y, by rw [h, List.concat_eq_append]⟩
theorem at_mid (A C : List D) (x : D) : (A ++ x :: C).getD A.length D.no = x := by simp [List.getD]
theorem swap_mid (A C : List D) (x y : D) : ((A ++ y :: x :: C).set (A.length + 1) y).set A.length x = A ++ x :: y :: C := by
  rw [List.set_append_right _ _ (by omega), List.set_append_right _ _ (by omega)]
  simp

set_option maxRecDepth 100000 in
set_option maxHeartbeats 2000000 in
theorem insertion35 (B n a b : Nat) (P S T : List D) (w : World) (hn : (P ++ S ++ T).length = n) (hnb : n ≤ 1048576) (ha : P.length = a) (hb : P.length + S.length = b) (hbd : ∀ d ∈ P ++ S ++ T, Bd d) (hrise : Rise S) (hR : Rw w B (P ++ S ++ T)) :
    Calls Try.prog 35 #[.slice (some ⟨B, 0, none⟩) n n, .int .i64 a, .int .i64 b, F26] w fun e w' => e = .returned (.tuple #[]) ∧ (∃ S', S'.Perm S ∧ Sorted S' ∧ Rw w' B (P ++ S' ++ T)) ∧ w.grownBy w' (some B) := by
  have HN := hide hn
  have HA := hide ha
  have HB := hide hb
  have HBD := hide hbd
  have HRS := hide hrise
  have hbn : b ≤ n := by rw [← hb, ← hn]; simp
  have hab : a ≤ b := by omega
  clear hn ha hb hbd hrise
  unfold F26
  go_enter Try.func35, Try.ntmps35
  go_wp2_with fail
  go_loopw [8] (fun I wr => ∃ (i : Nat) (S1 S2 : List D), 1 ≤ i ∧ i ≤ b - a + 1 ∧ I = .int .i64 ((a : Int) + i) ∧ Hid (S1.length = i ∨ (S2 = [] ∧ S1.length ≤ 1)) ∧ Hid (∃ S0, S0.Perm S1 ∧ S = S0 ++ S2) ∧ Sorted S1 ∧ Rw wr B (P ++ S1 ++ S2 ++ T) ∧ w.grownBy wr (some B)) (fun I _ => b - (intOf I).toNat)
  case atStart =>
    cases S with
    | nil => exact ⟨1, [], [], by omega, by omega, by go_num, .inr ⟨rfl, by simp⟩, ⟨[], List.Perm.refl _, rfl⟩, List.Pairwise.nil, by simpa using hR, World.grownBy.refl _ _⟩
    | cons x S => exact ⟨1, [x], S, by omega, by omega, by go_num, .inl rfl, ⟨[x], List.Perm.refl _, rfl⟩, List.pairwise_singleton _ _, by simpa using hR, World.grownBy.refl _ _⟩
  case round =>
    clear hR
    obtain ⟨i, S1, S2, hi1, hib, rfl, HS1, HP, hs1, hR, hg⟩ := hrel
    by_cases hlt : a + i < b
    · obtain ⟨x, S3, rfl⟩ : ∃ x S3, S2 = x :: S3 := by
        cases S2 with
        | cons x S3 => exact ⟨x, S3, rfl⟩
        | nil =>
          exfalso
          obtain ⟨S0, hp, hs⟩ := unhide HP
          have h1 := hp.length_eq
          have h2 := unhide HA
          have h3 := unhide HB
          rw [hs] at h3
          simp at h3
          rcases unhide HS1 with h | ⟨_, h⟩ <;> omega
      have hlen1 : S1.length = i := by
        rcases unhide HS1 with h | ⟨h, _⟩
        · exact h
        · simp at h
      have hxl : ∀ y ∈ S1, y.line < x.line := fun y hy => by
        obtain ⟨S0, hp, hs⟩ := unhide HP
        have hr := unhide HRS
        rw [hs] at hr
        exact (List.pairwise_append.1 hr).2.2 y (hp.mem_iff.2 hy) x (by simp)
      have hbx : Bd x := by
        obtain ⟨S0, hp, hs⟩ := unhide HP
        exact unhide HBD x (by rw [hs]; simp)
      have hby : ∀ y ∈ S1, Bd y := fun y hy => by
        obtain ⟨S0, hp, hs⟩ := unhide HP
        exact unhide HBD y (by rw [hs]; simp [hp.mem_iff.2 hy])
      have hnn : n = P.length + S1.length + 1 + S3.length + T.length := by
        obtain ⟨S0, hp, hs⟩ := unhide HP
        have h1 := hp.length_eq
        have h2 := unhide HN
        rw [hs] at h2
        simp at h2
        omega
      have HXL := hide hxl
      have HBX := hide hbx
      have HBY := hide hby
      have HL1 := hide hlen1
      have HNN := hide hnn
      have HSRT := hide hs1
      clear hxl hbx hby hlen1 hnn hs1 HS1
      generalize wr = w1 at *
      go_wp2_with fail
      go_loopw [9] (fun J wr => ∃ (j : Nat) (U V : List D), a ≤ j ∧ j < b ∧ J = .int .i64 j ∧ Hid (j = a + U.length) ∧ Hid (S1 = U ++ V) ∧ Hid (∀ v ∈ V, Lt x v) ∧ Rw wr B (P ++ U ++ x :: V ++ S3 ++ T) ∧ w.grownBy wr (some B)) (fun J _ => (intOf J).toNat - a)
      case atStart => exact ⟨a + i, S1, [], by omega, hlt, by go_num, by show a + i = a + S1.length; rw [unhide HL1], by show S1 = S1 ++ []; simp, fun v hv => by simp at hv, by simpa using hR, hg⟩
      case round =>
        clear hR hg
        obtain ⟨j, U, V, haj, hjb, rfl, HJ, HUV, HV, hR, hg⟩ := hrel
        have houter : Hid (¬ (∃ U' y, U = U' ++ [y] ∧ x.fl < y.fl) → (∃ S0, S0.Perm (U ++ x :: V) ∧ S = S0 ++ S3) ∧ Sorted (U ++ x :: V) ∧ (U ++ x :: V).length = i + 1) := fun hno => by
          have huv := unhide HUV
          have hv := unhide HV
          have hsrt := unhide HSRT
          rw [huv] at hsrt
          refine ⟨?_, ?_, ?_⟩
          · obtain ⟨S0, hp, hs⟩ := unhide HP
            refine ⟨S0 ++ [x], ?_, by rw [hs]; simp⟩
            rw [huv] at hp
            exact (hp.append_right [x]).trans (by rw [List.append_assoc]; exact (List.perm_append_comm (l₁ := V) (l₂ := [x])).append_left U)
          · obtain ⟨p1, p2, p3⟩ := List.pairwise_append.1 hsrt
            have hux : ∀ u ∈ U, Lt u x := fun u hu => by
              rcases nil_or_snoc U with rfl | ⟨U', y, rfl⟩
              · simp at hu
              · have hy : ¬ x.fl < y.fl := fun h => hno ⟨U', y, rfl, h⟩
                have hyl : y.line < x.line := unhide HXL y (by rw [huv]; simp)
                have hyx : Lt y x := by unfold Lt; omega
                rcases List.mem_append.1 hu with h | h
                · exact ((List.pairwise_append.1 p1).2.2 u h y (by simp)).trans hyx
                · simp at h; rw [h]; exact hyx
            refine List.pairwise_append.2 ⟨p1, List.pairwise_cons.2 ⟨hv, p2⟩, fun u hu v hv' => ?_⟩
            rcases List.mem_cons.1 hv' with rfl | h
            · exact hux u hu
            · exact p3 u hu v h
          · have := unhide HL1
            rw [huv] at this
            simp at this ⊢
            omega
        rcases nil_or_snoc U with hU | ⟨U', y, hU⟩
        · -- at the segment's head
          have hja : j = a := by have := unhide HJ; rw [hU] at this; simpa using this
          obtain ⟨hq1, hq2, hq3⟩ := unhide houter (fun ⟨U', y, h, _⟩ => by rw [hU] at h; simp at h)
          have hg0 : decide (a < j) = false := by rw [decide_eq_false_iff_not]; omega
          have HQ1 := hide hq1
          have HQ3 : Hid ((U ++ x :: V).length = i + 1 ∨ (S3 = [] ∧ (U ++ x :: V).length ≤ 1)) := .inl hq3
          have hR' : Rw wr B (P ++ (U ++ x :: V) ++ S3 ++ T) := by simpa using hR
          clear hq1 hq3 houter hR hja hU
          go_wp2_with fail
          go_quiet (fail)
          go_wp2
          go_roundw
          case rel => exact ⟨i + 1, U ++ x :: V, S3, by omega, by omega, by go_num, HQ3, HQ1, hq2, hR'.drew, ⟨hg.os, hg.tape, hg.output, hg.size, hg.block⟩⟩
          case measure => simp [intOf]; omega
        · have hjl := unhide HJ
          rw [hU] at hjl
          simp at hjl
          have hPU : (P ++ U').length = j - 1 := by have := unhide HA; simp; omega
          have hdat : P ++ U ++ x :: V ++ S3 ++ T = (P ++ U') ++ y :: x :: (V ++ S3 ++ T) := by rw [hU]; simp
          rw [hdat] at hR
          have hlenD : ((P ++ U') ++ y :: x :: (V ++ S3 ++ T)).length = n := by
            have := unhide HNN
            have h2 := unhide HUV
            rw [h2, hU] at this
            simp at this ⊢
            omega
          obtain ⟨c1, c2, c3, c4⟩ := hR.cell j (by omega)
          obtain ⟨d1, d2, d3, d4⟩ := hR.cell (j - 1) (by omega)
          have ex : ((P ++ U') ++ y :: x :: (V ++ S3 ++ T)).getD j D.no = x := by
            have e := at_mid (P ++ U' ++ [y]) (V ++ S3 ++ T) x
            rw [show (P ++ U' ++ [y]).length = j by rw [List.length_append, hPU]; simp; omega] at e
            simpa using e
          have ey : ((P ++ U') ++ y :: x :: (V ++ S3 ++ T)).getD (j - 1) D.no = y := by
            have e := at_mid (P ++ U') (x :: (V ++ S3 ++ T)) y
            rwa [hPU] at e
          rw [ex] at c1 c2 c3 c4
          rw [ey] at d1 d2 d3 d4
          have hg0 : decide (a < j) = true := by rw [decide_eq_true_eq]; omega
          have C := fun W => cmp26 x y W (unhide HBX) (unhide HBY y (by rw [unhide HUV, hU]; simp))
          unfold D.val at C
          have HC := hide C
          have HRR := hide hR
          have hBlt := hR.lt
          have i1 : 0 < j := by omega
          have i2 : a < j := by omega
          have i3 : (a : Int) < (j : Int) := by omega
          have HJL := hide hjl
          have HPU := hide hPU
          have HUE := hide hU
          have fc1 := fun p : GW wr => p.cell c1 hBlt
          have fc2 := fun p : GW wr => p.cell c2 hBlt
          have fc3 := fun p : GW wr => p.cell c3 hBlt
          have fc4 := fun p : GW wr => p.cell c4 hBlt
          have fd1 := fun p : GW wr => p.cell d1 hBlt
          have fd2 := fun p : GW wr => p.cell d2 hBlt
          have fd3 := fun p : GW wr => p.cell d3 hBlt
          have fd4 := fun p : GW wr => p.cell d4 hBlt
          have EX := hide ex
          have EY := hide ey
          clear C ex ey hdat hR hjl hPU hU c1 c2 c3 c4 d1 d2 d3 d4
          go_wp2_with fail
          refine wp_region_gw (by kernel_rfl) (by kernel_rfl) ?_
          repeat (go_big_quiet_step ((go_at_call 26; exact GW.call _ (unhide HC _))))
          refine wpQuiet_nil ?_
          rintro W ⟨p, hp⟩
          have hW := p.h
          rw [← hp] at hW
          clear hp p
          clear fc1 fc2 fc3 fc4 fd1 fd2 fd3 fd4
          have hRW := (unhide HRR).grown hW
          have hgW := grown_trans hg (grown_of_none (b := B) hW)
          clear hg hBlt
          by_cases hxy : x.fl < y.fl
          · have hdec : decide (x.fl - y.fl < 0) = true := by rw [decide_eq_true_eq]; omega
            have HRW := hide hRW
            have HGW := hide hgW
            clear houter hRW hgW hW HRR
            go_wp2_with fail
            have hRW := unhide HRW
            have hgW := unhide HGW
            obtain ⟨c1, c2, c3, c4⟩ := hRW.cell j (by omega)
            obtain ⟨d1, d2, d3, d4⟩ := hRW.cell (j - 1) (by omega)
            rw [unhide EX] at c1 c2 c3 c4
            rw [unhide EY] at d1 d2 d3 d4
            have fr := fun k => hRW.free k
            have hN : Rw (put (put W B j y) B (j - 1) x) B (P ++ U' ++ x :: (y :: V) ++ S3 ++ T) := by
              have h := (hRW.put j (by omega) y).put (j - 1) (by rw [List.length_set]; omega) x
              have hP := unhide HPU
              have e := swap_mid (P ++ U') (V ++ S3 ++ T) x y
              rw [hP, show j - 1 + 1 = j by omega] at e
              rw [e] at h
              simpa using h
            have hgN := grown_trans hgW (grown_trans (put_grown W B j y) (put_grown _ B (j - 1) x))
            unfold put at hN hgN
            have HNW := hide hN
            have HGN := hide hgN
            have hlt2 : a ≤ j - 1 ∧ j - 1 < b := by omega
            clear hN hgN hRW hgW HRW HGW
            go_big_region
            go_wp2
            have k1 : Hid (j - 1 = a + U'.length) := by have := unhide HJL; show j - 1 = _; omega
            have k2 : Hid (S1 = U' ++ y :: V) := by have h1 := unhide HUV; rw [unhide HUE] at h1; show S1 = _; rw [h1]; simp
            have k3 : Hid (∀ v ∈ y :: V, Lt x v) := fun v hv => by
              rcases List.mem_cons.1 hv with rfl | h
              · exact .inl hxy
              · exact unhide HV v h
            have k4 : (j : Int) - 1 = ((j - 1 : Nat) : Int) := by omega
            go_roundw
            case rel => exact ⟨j - 1, U', y :: V, hlt2.1, hlt2.2, by rw [k4], k1, k2, k3, (unhide HNW).drew, grown_drew (unhide HGN)⟩
            case measure => simp [intOf]; omega
          · have hdec : decide (x.fl - y.fl < 0) = false := by rw [decide_eq_false_iff_not]; omega
            obtain ⟨hq1, hq2, hq3⟩ := unhide houter (fun ⟨U2, y2, h, h2⟩ => by
              rw [unhide HUE] at h
              have := List.append_inj' h rfl
              simp at this
              rw [← this.2] at h2
              exact hxy h2)
            have HQ1 := hide hq1
            have HQ3 : Hid ((U ++ x :: V).length = i + 1 ∨ (S3 = [] ∧ (U ++ x :: V).length ≤ 1)) := .inl hq3
            have hR' : Rw W B (P ++ (U ++ x :: V) ++ S3 ++ T) := by rw [unhide HUE]; simpa using hRW
            clear hq1 hq3 houter
            go_wp2
            go_roundw
            case rel => exact ⟨i + 1, U ++ x :: V, S3, by omega, by omega, by go_num, HQ3, HQ1, hq2, hR', hgW⟩
            case measure => simp [intOf]; omega
    · have hS2 : S2 = [] := by
        cases S2 with
        | nil => rfl
        | cons x S3 =>
          exfalso
          obtain ⟨S0, hp, hs⟩ := unhide HP
          have h1 := hp.length_eq
          have h2 := unhide HA
          have h3 := unhide HB
          rw [hs] at h3
          simp at h3
          rcases unhide HS1 with h | ⟨h, _⟩
          · omega
          · simp at h
      subst hS2
      obtain ⟨S0, hp, hs⟩ := unhide HP
      rw [List.append_nil] at hs hR
      have HPP := hide hp
      have HSS := hide hs
      clear hp hs HP
      go_wp2
      go_end0
      exact ⟨rfl, ⟨S1, by rw [unhide HSS]; exact (unhide HPP).symm, hs1, by simpa using hR⟩, hg⟩

end Go.Proofs.Qxb6003736a.Diag
