/- roots: its contract (seat b6003748a). -/
import Derived.Test.Qxb6003748aRootsPlain
import Derived.Deep.QuietTactic
import Derived.BigQuiet
namespace Go.Proofs.Qxb6003748a.Mod
open Go.RowKit
set_option linter.unusedVariables false

theorem Try.info22 : (Try.prog.info? 22).map (fun i => (i.zero, i.size, i.bytes)) = some (some (.int .u64 0), 1, 8) := by kernel_rfl

/-- The row of roots, in the call's own memory. -/
structure RS (w wr : World) (n : Nat) (zs : List Int) : Prop where
  own : wr.ownsRow w.heap.size 22 1 (.slice (some ⟨w.heap.size, 0, none⟩) n n) n (zs.map (Value.int .u64))
  len : zs.length = n
  words : Words zs
  below : Below w.heap.size w wr

theorem RS.cell {w wr : World} {n : Nat} {zs : List Int} (h : RS w wr n zs) (i : Nat) (hi : i < n) : wr.cell? ⟨w.heap.size, i, none⟩ = some (.int .u64 (zs.getD i 0)) := by
  rw [h.own.cellAt i (by omega)]
  have : i < zs.length := by rw [h.len]; exact hi
  simp [this]
theorem RS.free {w wr : World} {n : Nat} {zs : List Int} (h : RS w wr n zs) (i : Nat) : wr.frozen? ⟨w.heap.size, i, none⟩ = false := h.own.frozenAt i
theorem RS.set {w wr : World} {n : Nat} {zs : List Int} (h : RS w wr n zs) (i : Nat) (x : Int) (h0 : 0 ≤ x) (h1 : x ≤ 18446744073709551615) : RS w (wr.setCell ⟨w.heap.size, i, none⟩ (.int .u64 x)) n (zs.set i x) := by
  refine ⟨?_, by rw [List.length_set]; exact h.len, h.words.set i x h0 h1, h.below.setCell (Nat.le_refl _) _⟩
  rw [List.map_set]
  exact (h.own.stored i _).1

theorem F_next {j t : Nat} {x st x2 : Int} (hx : x % 18446744069414584321 = F j t) (hs : st % 18446744069414584321 = F j 1) (h2 : x2 % 18446744069414584321 = (x * st) % 18446744069414584321) : x2 % 18446744069414584321 = F j (t + 1) := by
  rw [h2, ← F_mul hx]
  exact mul_congr rfl (by rw [hs]; exact (ipow_mod _ _).symm)

/-- The half-length of a stage: 2^(i-1), or 0 at the end. -/
def hal (i : Nat) : Nat := if i = 0 then 0 else 2 ^ (i - 1)
theorem hal_half (i : Nat) : hal (i + 1) / 2 = hal i := by
  unfold hal
  rw [if_neg (by omega)]
  by_cases h : i = 0
  · subst h; rfl
  · rw [if_neg h]
    obtain ⟨k, rfl⟩ : ∃ k, i = k + 1 := ⟨i - 1, by omega⟩
    rw [show k + 1 + 1 - 1 = k + 1 by omega, Nat.pow_succ, Nat.mul_div_cancel _ (by decide)]; rfl
theorem hal_pos (i : Nat) (h : 1 ≤ hal i) : 1 ≤ i := by
  unfold hal at h
  split at h <;> omega
theorem hal_succ (i : Nat) : hal (i + 1) = 2 ^ i := by unfold hal; rw [if_neg (by omega)]; rfl

/-- What roots leaves. -/
structure RootsPost (w w' : World) (n m : Nat) (e : Ending) : Prop where
  ret : e = .returned (.slice (some ⟨w.heap.size, 0, none⟩) n n)
  row : ∃ zs, RS w w' n zs ∧ Filled zs m 0

set_option maxHeartbeats 1000000 in
theorem roots20 (m n : Nat) (hm1 : 1 ≤ m) (hm2 : m ≤ 12) (hn : n = 2 ^ m) (w : World) :
    Calls Try.prog 20 #[.int .i64 n] w fun e w' => RootsPost w w' n m e := by
  obtain ⟨i0, hi, hz0, hz1, hz2⟩ := info_parts Try.info22
  have hn2 : 2 ≤ n := by rw [hn]; exact Nat.pow_le_pow_right (n := 2) (by decide) hm1
  have hn3 : n ≤ 4096 := by rw [hn]; exact Nat.pow_le_pow_right (n := 2) (i := m) (j := 12) (by decide) hm2
  have hh : n / 2 = 2 ^ (m - 1) := by
    obtain ⟨k, rfl⟩ : ∃ k, m = k + 1 := ⟨m - 1, by omega⟩
    rw [hn, Nat.pow_succ, Nat.mul_div_cancel _ (by decide)]; rfl
  have hev : n = n / 2 * 2 := by
    obtain ⟨k, rfl⟩ : ∃ k, m = k + 1 := ⟨m - 1, by omega⟩
    rw [hn, Nat.pow_succ, Nat.mul_div_cancel _ (by decide)]
  have hq : (18446744069414584320 / (n : Int)).toNat = Q (m - 1) := by
    have e1 : (18446744069414584320 / (n : Int)) = ((18446744069414584320 / n : Nat) : Int) := (Int.natCast_ediv _ _).symm
    rw [e1, Int.toNat_natCast, hn]
    unfold Q
    rw [show m - 1 + 1 = m by omega]
  have hqb : 0 ≤ 18446744069414584320 / (n : Int) ∧ 18446744069414584320 / (n : Int) ≤ 18446744073709551615 :=
    ⟨Int.ediv_nonneg (by decide) (by omega), Int.le_trans (Int.ediv_le_self _ (by decide)) (by decide)⟩
  have HN := hide hn
  have HH := hide hh
  have HV := hide hev
  have HQ := hide hq
  clear hn hh hev hq
  go_enter Try.func20, Try.ntmps20
  go_wp2_with (at_make; refine wpList_make_full _ rfl _ _ 28 rfl w.heap.size 22 i0 (.int .u64 0) 1 Try.underlying28 hi hz0 hz1 .i64 .i64 _ _ n rfl rfl (by omega) (by omega) (by rw [hz2]; omega) (by unfold maxLen; omega) (Nat.le_refl _) ?_)
  intro w1 hown1 hgrow1
  have hR0 : RS w w1 n (List.replicate n 0) := by
    refine ⟨?_, List.length_replicate, Words.zeros n, (Below.refl _ _).grown hgrow1 (Nat.le_refl _) (fun k hk => by cases hk)⟩
    rw [List.map_replicate, ← toList_madeCells_one]
    exact hown1
  clear hown1 hgrow1 hi hz0 hz1 hz2
  go_wp2_with fail
  refine (pow19 7 (18446744069414584320 / (n : Int)) (by decide) (by decide) hqb.1 hqb.2 _).mono ?_
  rintro _ w' ⟨⟨st, rfl, s0, s1, s2⟩, hw⟩
  obtain rfl := hw.symm
  have HS : Hid (st % 18446744069414584321 = F (m - 1) 1) := by
    rw [unhide HQ] at s2
    show st % 18446744069414584321 = F (m - 1) 1
    unfold F
    rw [Nat.mul_one]
    exact s2
  clear s2 hqb HQ
  go_wp2_with fail
  go_loopw [6, 19] (fun X J wr => ∃ (j : Nat) (x : Int) (zs : List Int), j ≤ n / 2 ∧ J = .int .i64 j ∧ X = .int .u64 x ∧ 0 ≤ x ∧ x ≤ 18446744073709551615 ∧ Hid (x % 18446744069414584321 = F (m - 1) j) ∧ RS w wr n zs ∧ Part zs (m - 1) (n / 2) j) (fun _ J _ => n / 2 - (intOf J).toNat)
  case atStart => exact ⟨0, 1, _, Nat.zero_le _, rfl, rfl, by decide, by decide, by show 1 % 18446744069414584321 = F (m - 1) 0; rw [F_zero]; decide, hR0, Part.zero _ _ _⟩
  case round =>
    obtain ⟨j, x, zs, hj, rfl, rfl, x0, x1, HX, hR, hP⟩ := hrel
    clear hR0
    by_cases hlt : j < n / 2
    · have hc := hR.cell (n / 2 + j) (by omega)
      have hf := hR.free (n / 2 + j)
      have hR' := hR.set (n / 2 + j) x x0 x1
      have hP' := hP.next x (unhide HX) (by rw [hR.len]; omega)
      clear hR hP
      go_wp2_with fail
      refine (mulMod17 x st x0 x1 s0 s1 _).mono ?_
      rintro _ w' ⟨⟨x2, rfl, f0, f1, f2⟩, hw⟩
      obtain rfl := hw.symm
      have HX2 := hide (F_next (unhide HX) (unhide HS) f2)
      clear f2
      go_wp2
      go_roundw
      case rel => exact ⟨j + 1, x2, _, by omega, by go_num, rfl, f0, f1, HX2, hR', hP'⟩
      case measure => simp [intOf]; omega
    · obtain rfl : j = n / 2 := by omega
      have hF0 : Filled zs m (m - 1) := by
        intro k h1 h2 t h3
        obtain rfl : k = m - 1 := by omega
        have := hP t (by rw [unhide HH]; exact h3)
        rw [unhide HH] at this
        exact this
      have hq4 : n / 4 = hal (m - 1) := by
        obtain ⟨k, rfl⟩ : ∃ k, m = k + 1 := ⟨m - 1, by omega⟩
        rw [show n / 4 = n / 2 / 2 by omega, unhide HH, show k + 1 - 1 = k by omega, ← hal_succ, hal_half]
      have HQ4 := hide hq4
      clear hq4 hP HX hlt hj
      generalize wr = w2 at *
      go_wp2_with fail
      go_loopw [8] (fun H wr => ∃ (i h : Nat) (zs : List Int), i + 1 ≤ m ∧ H = .int .i64 h ∧ Hid (h = hal i) ∧ RS w wr n zs ∧ Filled zs m i) (fun H _ => (intOf H).toNat)
      case atStart => exact ⟨m - 1, n / 4, zs, by omega, by go_num, HQ4, hR, hF0⟩
      case round =>
        clear hR hF0 HQ4
        obtain ⟨i, h, zs, hi, rfl, HHi, hR, hF⟩ := hrel
        generalize wr = w3 at *
        by_cases hh : 1 ≤ h
        · obtain ⟨l, rfl⟩ : ∃ l, i = l + 1 := ⟨i - 1, by have := hal_pos i (by rw [← unhide HHi]; exact hh); omega⟩
          have hl : h = 2 ^ l := by rw [unhide HHi, hal_succ]
          have h4 : 4 * h ≤ n := by
            have e : 2 ^ (l + 2) ≤ 2 ^ m := Nat.pow_le_pow_right (by decide) hi
            rw [unhide HN, hl]
            rw [Nat.pow_succ, Nat.pow_succ] at e
            omega
          have HL := hide hl
          clear hl
          go_wp2_with fail
          go_loopw [39] (fun J wr => ∃ (j : Nat) (zs : List Int), j ≤ h ∧ J = .int .i64 j ∧ RS w wr n zs ∧ Filled zs m (l + 1) ∧ Part zs l h j) (fun J _ => h - (intOf J).toNat)
          case atStart => exact ⟨0, zs, Nat.zero_le _, rfl, hR, hF, Part.zero _ _ _⟩
          case round =>
            clear hR hF
            obtain ⟨j, zs, hj, rfl, hR, hF, hP⟩ := hrel
            by_cases hjh : j < h
            · have hc := hR.cell (2 * h + 2 * j) (by omega)
              have hc' := hR.cell (h + j) (by omega)
              have hf := hR.free (h + j)
              have hb := hR.words.at (2 * h + 2 * j)
              have hx : zs.getD (2 * h + 2 * j) 0 % 18446744069414584321 = F l j := by
                have := hF (l + 1) (Nat.le_refl _) hi (2 * j) (by rw [Nat.pow_succ, ← unhide HL]; omega)
                rw [F_half l j (by omega), Nat.pow_succ, ← unhide HL, Nat.mul_comm h 2] at this
                exact this
              have hR' := hR.set (h + j) _ hb.1 hb.2
              have hF' := hF.keep (k := h + j) (zs.getD (2 * h + 2 * j) 0) (by rw [Nat.pow_succ, ← unhide HL]; omega)
              have hP' := hP.next _ hx (by rw [hR.len]; omega)
              clear hR hF hP hx hb
              generalize zs.getD (2 * h + 2 * j) 0 = x at *
              generalize zs.getD (h + j) 0 = y at *
              go_wp2
              go_roundw
              case rel => exact ⟨j + 1, _, by omega, by go_num, hR', hF', hP'⟩
              case measure => simp [intOf]; omega
            · obtain rfl : j = h := by omega
              have hF' : Filled zs m l := hF.of_part (by
                have e := unhide HL
                rw [← e]; exact hP)
              have HHl : Hid (j / 2 = hal l) := by
                show j / 2 = hal l
                rw [unhide HHi, hal_half]
              go_wp2
              go_roundw
              case rel => exact ⟨l, j / 2, zs, by omega, by go_num, HHl, hR, hF'⟩
              case measure => simp [intOf]; omega
        · have hi0 : i = 0 := by
            rcases Nat.eq_zero_or_pos i with h' | h'
            · exact h'
            · exfalso
              have e := unhide HHi
              unfold hal at e
              rw [if_neg (by omega)] at e
              have := Nat.two_pow_pos (i - 1)
              omega
          subst hi0
          go_wp2
          go_ret
          exact ⟨rfl, zs, hR, hF⟩

end Go.Proofs.Qxb6003748a.Mod
