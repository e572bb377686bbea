/- zzSortedCopy, zzDistinct (seat b6003736a). -/
import Derived.Test.Qxb6003736aInts2
namespace Go.Proofs.Qxb6003736a.Diag
open Go.RowKit
set_option linter.unusedVariables false

/-- What the sorted copy leaves. -/
structure SortedC (w w' : World) (zs : List Int) (e : Ending) : Prop where
  out : ∃ Y, e = .returned (.slice (some ⟨w.heap.size, 0, none⟩) zs.length zs.length) ∧ OInv zs Y Y.length ∧ OwnI w' w.heap.size Y
  below : Below w.heap.size w w'

set_option maxRecDepth 100000 in
set_option maxHeartbeats 1000000 in
theorem sorted21 (a : Option Addr) (len cap : Nat) (zs : List Int) (w : World) (hl : zs.length = len) (hlen : len ≤ 1048576) (hr : IRow w a zs) :
    Calls Try.prog 21 #[.slice a len cap] w fun e w' => SortedC w w' zs e := by
  obtain ⟨i0, hi, hz0, hz1, hz2⟩ := info_parts info3
  go_enter Try.func21, Try.ntmps21
  go_wp2_with (at_make; refine wpList_make_full _ rfl _ _ 22 rfl w.heap.size 3 i0 (.int .i64 0) 1 Try.underlying22 hi hz0 hz1 .i64 .i64 _ _ len rfl rfl (by omega) (by omega) (by rw [hz2]; omega) (by unfold maxLen; omega) (Nat.le_refl _) ?_)
  intro w1 hown1 hgrow1
  have hown2 : OwnI w1 w.heap.size (half zs 0) := by
    rw [half_zero, hl]
    exact OwnI.made hown1
  have hb1 : Below w.heap.size w w1 := (Below.refl _ _).grown hgrow1 (Nat.le_refl _) (fun k hk => by cases hk)
  have HL := hide hl
  have HR := hide hr
  clear hown1 hgrow1 hl hr hi hz0 hz1 hz2
  go_wp2_with fail
  go_loopw [4] (fun i wr => ∃ (k : Nat), k ≤ len ∧ i = .int .i64 k ∧ OwnI wr w.heap.size (half zs k) ∧ Below w.heap.size w wr) (fun i _ => len - (intOf i).toNat)
  case atStart => exact ⟨0, Nat.zero_le _, rfl, hown2, hb1⟩
  case round =>
    clear hown2 hb1
    obtain ⟨k, hk, rfl, hown, hb⟩ := hrel
    by_cases hlt : k < len
    · have hkl : k < zs.length := by have := unhide HL; omega
      obtain ⟨b, off, rfl, hc⟩ := (unhide HR).at k hkl
      have hbB : b < w.heap.size := World.block_lt_of_cell? w _ hc
      have hcell : wr.cell? ⟨b, off + k, none⟩ = some (.int .i64 (zs.getD k 0)) := (hb.cell (p := ⟨b, off + k, none⟩) hbB).trans hc
      have hdst := hown.cell k (by rw [half_length] <;> omega)
      have hfr := hown.free k
      have R := hown.set k (zs.getD k 0)
      rw [half_set zs k hkl] at R
      have R2 := hb.setCell (p := ⟨w.heap.size, k, none⟩) (Nat.le_refl _) (.int .i64 (zs.getD k 0))
      have HR1 := hide R; have HR2 := hide R2
      clear R R2 hown hb hc
      generalize zs.getD k 0 = x at *
      generalize (half zs k).getD k 0 = y at *
      go_wp2
      go_roundw
      case rel => exact ⟨k + 1, by omega, by go_num, unhide HR1, unhide HR2⟩
      case measure => simp [intOf]; omega
    · have hfin : OwnI wr w.heap.size zs := by rw [half_full zs k (by have := unhide HL; omega)] at hown; exact hown
      have HF := hide hfin
      have HB := hide hb
      generalize wr = W1 at *
      clear hown hfin hb
      go_wp2_with fail
      go_loopw [5] (fun I wr => ∃ (i : Nat) (Y : List Int), 1 ≤ i ∧ i ≤ len + 1 ∧ I = .int .i64 i ∧ Hid (OInv zs Y i) ∧ Hid (OwnI wr w.heap.size Y) ∧ Hid (Below w.heap.size w wr)) (fun I _ => len + 1 - (intOf I).toNat)
      case atStart => exact ⟨1, zs, by omega, by omega, rfl, OInv.start zs, HF, HB⟩
      case round =>
        clear HF HB
        obtain ⟨i, Y, hi1, hi2, rfl, HO, HW, HB⟩ := hrel
        by_cases hil : i < len
        · have hYl : Y.length = len := (unhide HO).len.trans (unhide HL)
          obtain ⟨v, hv⟩ : ∃ v, Y.getD i 0 = v := ⟨_, rfl⟩
          have hc := (unhide HW).cell i (by omega)
          have HS := hide (unhide HO).inner
          rw [hv] at hc HS
          have HYL := hide hYl
          generalize wr = W2 at *
          clear hv hYl HO
          go_wp2_with fail
          go_loopw [7] (fun J wr => ∃ (p : Nat) (X : List Int), p ≤ i ∧ J = .int .i64 ((p : Int) - 1) ∧ Hid (X.length = len) ∧ Hid (SInv zs (X.set p v) i p v) ∧ Hid (OwnI wr w.heap.size X) ∧ Hid (Below w.heap.size w wr)) (fun J _ => (intOf J + 1).toNat)
          case atStart => exact ⟨i, Y, Nat.le_refl _, by go_num, HYL, HS, HW, HB⟩
          case round =>
            clear hc HYL HS HW HB
            obtain ⟨p, X, hp, hJ, HXL, HS, HW, HB⟩ := hrel
            cases p with
            | zero =>
              simp only [Int.ofNat_zero, Int.zero_sub] at hJ
              subst hJ
              have hc := (unhide HW).cell 0 (by have := unhide HXL; omega)
              have hfr := (unhide HW).free 0
              have R := hide ((unhide HW).set 0 v)
              have R2 := hide ((unhide HB).setCell (p := ⟨w.heap.size, 0, none⟩) (Nat.le_refl _) (.int .i64 v))
              have R3 := hide ((unhide HS).done (by have := unhide HXL; omega) (fun q hq => by omega))
              clear HW HB HS
              generalize X.getD 0 0 = y at *
              go_wp2
              go_roundw
              case rel => exact ⟨i + 1, _, by omega, by omega, by go_num, R3, R, R2⟩
              case measure => simp [intOf]; omega
            | succ q =>
              rw [show ((q + 1 : Nat) : Int) - 1 = (q : Int) by omega] at hJ
              subst hJ
              have hc := (unhide HW).cell q (by have := unhide HXL; omega)
              have hc2 := (unhide HW).cell (q + 1) (by have := unhide HXL; omega)
              have hfr := (unhide HW).free (q + 1)
              obtain ⟨x, hx⟩ : ∃ x, X.getD q 0 = x := ⟨_, rfl⟩
              by_cases hlt2 : v < x
              · have R := hide ((unhide HW).set (q + 1) x)
                have R2 := hide ((unhide HB).setCell (p := ⟨w.heap.size, q + 1, none⟩) (Nat.le_refl _) (.int .i64 x))
                have R3 := hide ((unhide HS).step (by have := unhide HXL; omega) (by rw [hx]; exact hlt2))
                rw [hx] at hc R3
                have R4 : Hid ((X.set (q + 1) x).length = len) := by show (X.set (q + 1) x).length = len; rw [List.length_set]; exact unhide HXL
                clear HW HB HS hx
                generalize X.getD (q + 1) 0 = y at *
                go_wp2
                go_roundw
                case rel => exact ⟨q, _, by omega, by go_num, R4, R3, R, R2⟩
                case measure => simp [intOf]
              · have R := hide ((unhide HW).set (q + 1) v)
                have R2 := hide ((unhide HB).setCell (p := ⟨w.heap.size, q + 1, none⟩) (Nat.le_refl _) (.int .i64 v))
                have hle : ∀ q', q + 1 = q' + 1 → X.getD q' 0 ≤ v := by
                  intro q' hq
                  obtain rfl : q = q' := by omega
                  rw [hx]; omega
                have R3 := hide ((unhide HS).done (by have := unhide HXL; omega) hle)
                rw [hx] at hc
                clear HW HB HS hx hle
                generalize X.getD (q + 1) 0 = y at *
                go_wp2
                go_roundw
                case rel => exact ⟨i + 1, _, by omega, by omega, by go_num, R3, R, R2⟩
                case measure => simp [intOf]; omega
        · go_wp2
          go_ret
          have hYl : Y.length = len := (unhide HO).len.trans (unhide HL)
          exact ⟨⟨Y, by rw [unhide HL]; rfl, ⟨(unhide HO).len, (unhide HO).perm, fun a b h1 h2 => (unhide HO).ord a b h1 (by omega)⟩, unhide HW⟩, unhide HB⟩

end Go.Proofs.Qxb6003736a.Diag
