/- The walk of FnVarIndexLookupOrAppend (seat b6003736a). -/
import Derived.Test.Qxb6003736aVar
import Derived.Test.Qxb6003736aPlain
namespace Go.Proofs.Qxb6003736a.Strs
open Go.RowKit
set_option linter.unusedVariables false

theorem SRow.below {w w' : World} {a : Option Addr} {ss : List ByteArray} (h : SRow w a ss) (hb : Below w.heap.size w w') : SRow w' a ss := by
  rcases h with h | ⟨b, off, ha, hc⟩
  · exact .inl h
  · exact .inr ⟨b, off, ha, fun k hk => (hb.cell (p := ⟨b, off + k, none⟩) (World.block_lt_of_cell? w _ (hc k hk))).trans (hc k hk)⟩

theorem Own.srow {w : World} {base len cap : Nat} {a : Option Addr} {ss : List ByteArray} (h : Own w base (.slice a len cap) ss) : SRow w a ss := by
  obtain ⟨a', c', h1, h2⟩ := h.form
  have e : a = a' := by simp at h1; exact h1.1
  rw [e]
  exact h2
theorem Own.form' {w : World} {base len : Nat} {v : Value} {ss : List ByteArray} (h : Own w base v ss) (hl : ss.length = len) : ∃ a cap, v = .slice a len cap := by
  obtain ⟨a, c, h1, _⟩ := h.form
  exact ⟨a, c, by rw [h1, hl]⟩
theorem Own.below {w w' : World} {base : Nat} {v : Value} {ss : List ByteArray} (h : Own w base v ss) (hb : Below w.heap.size w w') : Own w' base v ss :=
  h.kept (row := none) ⟨hb.os, hb.tape, hb.output, hb.size, fun k hk _ => hb.block k hk⟩ (by cases hv : v.ownBlock <;> simp)

theorem Own.sameBlock {w w' : World} {base : Nat} {v : Value} {ss : List ByteArray} (h : Own w base v ss) (hb : ∀ g, v.ownBlock = some g → w'.heap[g]? = w.heap[g]?) : Own w' base v ss := by
  refine ⟨h.1, ?_⟩
  rcases h.2 with h' | ⟨g, cap, cur, rfl, hg, hh, r⟩
  · exact .inl h'
  · exact .inr ⟨g, cap, cur, rfl, hg, by rw [hb g rfl]; exact hh, r⟩

theorem drop_idx (ss : List ByteArray) (s : ByteArray) (k : Nat) (h : k < ss.length) : Lib.idxFromS (ss.drop k) s k = if ss[k] = s then (k : Int) else Lib.idxFromS (ss.drop (k + 1)) s (k + 1) := by
  rw [List.drop_eq_getElem_cons h]
  rfl

set_option maxHeartbeats 1000000 in
theorem walk5 (a0 : Option Addr) (len cap : Nat) (ss : List ByteArray) (s : ByteArray) (w : World) (hl : ss.length = len) (hlen : len ≤ maxLen) (hs : s.size ≤ maxLen) (hr : SRow w a0 ss) :
    Calls Try.prog 5 #[.slice a0 len cap, .string s] w fun e w' => e = .returned (.bool true) ∧ Below w.heap.size w w' := by
  have hr1 : SRow (w.alloc (.cells #[.slice a0 len cap] 35)) a0 ss := hr.below ((Below.refl _ _).alloc (Nat.le_refl _) _)
  have hb1 : Below w.heap.size w (w.alloc (.cells #[.slice a0 len cap] 35)) := (Below.refl _ _).alloc (Nat.le_refl _) _
  have hB1 : (w.alloc (.cells #[.slice a0 len cap] 35)).heap[w.heap.size]? = some (.cells #[.slice a0 len cap] 35 (0, 0)) := by show (w.heap.push _)[_]? = _; simp
  have hS1 : (w.alloc (.cells #[.slice a0 len cap] 35)).heap.size = w.heap.size + 1 := by simp
  have HB1 := hide hB1
  have HS1 := hide hS1
  clear hB1 hS1
  have hs' := hs
  unfold maxLen at hs'
  go_enter Try.func5, Try.ntmps5
  go_wp2_with fail
  refine (bytes20 a0 len cap ss s _ hl hlen hs hr1).mono ?_
  rintro e w' ⟨⟨r, rfl⟩, hw⟩
  obtain rfl := hw.symm
  cases r
  · go_wp2
    go_ret
    exact ⟨rfl, hb1⟩
  by_cases hlong : 16384 < len
  · go_wp2
    go_ret
    exact ⟨rfl, hb1⟩
  go_wp2_with fail
  refine (bytes16 a0 len cap ss _ hl hlen hr1).mono ?_
  rintro e w' ⟨⟨n, rfl⟩, hw⟩
  obtain rfl := hw.symm
  go_wp2_with fail
  · go_ret
    exact ⟨rfl, hb1⟩
  refine (clone17 a0 len cap ss _ hl (by omega) hr1).mono ?_
  rintro e w2 ⟨v, rfl, hown2, hb2⟩
  obtain ⟨a1, cap1, rfl⟩ := hown2.form' hl
  have hsz1 := unhide HS1
  rw [hsz1] at hown2 hb2
  have hB2 : w2.heap[w.heap.size]? = some (.cells #[.slice a0 len cap] 35 (0, 0)) := by rw [hb2.block _ (by omega)]; exact unhide HB1
  have hz2 := hb2.size
  rw [hsz1] at hz2
  have hB3 : (w2.setCell ⟨w.heap.size, 0, none⟩ (.slice a1 len cap1)).heap[w.heap.size]? = some (.cells #[.slice a1 len cap1] 35 (0, 0)) := one_setCell hB2
  have hown3 : Own (w2.setCell ⟨w.heap.size, 0, none⟩ (.slice a1 len cap1)) (w.heap.size + 1) (.slice a1 len cap1) ss := ownsRow_setCell_below hown2 (show w.heap.size < w.heap.size + 1 by omega) _
  have hb3 : Below w.heap.size w (w2.setCell ⟨w.heap.size, 0, none⟩ (.slice a1 len cap1)) := (hb1.trans (hb2.mono (by omega))).setCell (Nat.le_refl _) _
  have hz3 : (w2.setCell ⟨w.heap.size, 0, none⟩ (.slice a1 len cap1)).heap.size = w2.heap.size := by simp [World.setCell]
  have hr3 : SRow (w2.setCell ⟨w.heap.size, 0, none⟩ (.slice a1 len cap1)) a1 ss := hown3.srow
  have hc2 := cell_of_one hB2
  have hf2 := free_of_one hB2
  have hc3 := cell_of_one hB3
  have HB3 := hide hB3
  have HZ3 := hide hz3
  clear hB2 hB3 hz3 hb2 hown2 hsz1 hr1
  go_wp2_with fail
  refine (clone17 a1 len cap1 ss _ hl (by omega) hr3).mono ?_
  rintro e w4 ⟨v, rfl, hown4, hb4⟩
  obtain ⟨a2, cap2, rfl⟩ := hown4.form' hl
  rw [unhide HZ3] at hown4 hb4
  have hB4 : w4.heap[w.heap.size]? = some (.cells #[.slice a1 len cap1] 35 (0, 0)) := by rw [hb4.block _ (by omega)]; exact unhide HB3
  have hz4 := hb4.size
  rw [unhide HZ3] at hz4
  have hown1 : Own w4 (w.heap.size + 1) (.slice a1 len cap1) ss := hown3.below (by rw [unhide HZ3]; exact hb4)
  have hlow : ∀ g, (Value.slice a1 len cap1).ownBlock = some g → g < w2.heap.size := fun g hg => by
    have := (hown3.lt g hg).2
    rwa [unhide HZ3] at this
  have hb5 : Below w.heap.size w w4 := hb3.trans (hb4.mono (by omega))
  clear hb4 hb3 hown3 hr3 hc2 hf2 hc3 HB3 HZ3 HB1 HS1 hb1
  have hr4 := hown4.srow
  -- the scan for the first place
  have HL := hide hl
  clear hl
  go_wp2_with fail
  go_loop [6, 7] (fun f j => ∃ k : Nat, k ≤ len ∧ j = .int .i64 ((k : Int) - 1) ∧ f = .int .i64 (Lib.idxFromS (ss.drop k) s k)) (fun _ j => (intOf j + 1).toNat)
  case atStart => exact ⟨len, Nat.le_refl _, rfl, by rw [← unhide HL, List.drop_length]; rfl⟩
  case round =>
    obtain ⟨k, hk, rfl, rfl⟩ := hrel
    by_cases hk0 : 0 < k
    · rcases hr4 with h | ⟨b, off, had, hc⟩
      · exfalso; have h' := h.out; have := unhide HL; omega
      · have hlt : k - 1 < ss.length := by have := unhide HL; omega
        have hcell : w4.cell? ⟨b, off + (k - 1), none⟩ = some (.string (ss.getD (k - 1) ByteArray.empty)) := hc (k - 1) hlt
        have hd := drop_idx ss s (k - 1) hlt
        rw [show k - 1 + 1 = k by omega] at hd
        have hix := Plain.idx_bound s ss
        have HD := hide hd
        subst had
        clear hd hown4 hown1
        go_wp2
        · have ht : (ss[k - 1].toList == s.toList) = true := by assumption
          have e := (Lib.bytes_beq_iff _ _).1 ht
          go_round
          case rel => exact ⟨k - 1, by omega, by go_num, by rw [unhide HD, if_pos e]; go_num⟩
          case measure => simp [intOf]; omega
        · have ht : (ss[k - 1].toList == s.toList) = false := by assumption
          have e := (Lib.bytes_beq_false_iff _ _).1 ht
          go_round
          case rel => exact ⟨k - 1, by omega, by go_num, by rw [unhide HD, if_neg e]⟩
          case measure => simp [intOf]; omega
    · obtain rfl : k = 0 := by omega
      rw [show Lib.idxFromS (ss.drop 0) s 0 = Lib.idxOfS ss s from rfl]
      have hl := unhide HL
      by_cases hs : s ∈ ss
      · obtain ⟨j1, hj0, hj1, hj2⟩ := Plain.idx_get s ss hs
        rw [hj1]
        go_wp2_with fail
        refine (var18_hit a1 len cap1 ss s _ _ hl (by omega) hown1.srow hB4 hs).mono ?_
        rintro e w' ⟨rfl, hw⟩
        obtain rfl := hw.symm
        rw [hj1]
        have hcB := cell_of_one hB4
        have HJ := hide hj1
        clear hj1 hj2
        go_wp2_with fail
        go_loopw [9] (fun i wr => ∃ k n : Nat, k ≤ len ∧ i = .int .i64 k ∧ wr = w4.drewN n) (fun i _ => len - (intOf i).toNat)
        case atStart => exact ⟨0, 0, Nat.zero_le _, rfl, rfl⟩
        case round =>
          obtain ⟨k, n, hk, rfl, rfl⟩ := hrel
          by_cases hlt : k < len
          · rcases hr4 with h | ⟨b, off, had, hc⟩
            · exfalso; have h' := h.out; omega
            rcases hown1.srow with h | ⟨b', off', had', hc'⟩
            · exfalso; have h' := h.out; omega
            have hcell := hc k (by omega)
            have hcell' := hc' k (by omega)
            subst had had'
            clear hc hc' hown1 hown4
            go_wp2
            go_quiet (fail)
            go_wp2
            go_roundw
            case rel => exact ⟨k + 1, _, by omega, by go_num, rfl⟩
            case measure => simp [intOf]; omega
          · go_wp2_with fail
            have hrD : SRow (w4.drewN n) a1 ss := hown1.srow
            refine (clone17 a1 len cap1 ss _ hl (by omega) hrD).mono ?_
            rintro e w6 ⟨v, rfl, hown6, hb6⟩
            obtain ⟨a4, cap4, rfl⟩ := hown6.form' hl
            have hB6 : w6.heap[w.heap.size]? = some (.cells #[.slice a1 len cap1] 35 (0, 0)) := by rw [hb6.block _ (by simp; omega)]; exact hB4
            have hcB6 := cell_of_one hB6
            have hown7 : Own w6 (w.heap.size + 1) (.slice a1 len cap1) ss := Own.below (w := w4.drewN n) hown1 hb6
            go_wp2_with fail
            refine (var18_hit a1 len cap1 ss s _ _ hl (by omega) hown7.srow hB6 hs).mono ?_
            rintro e w' ⟨rfl, hw⟩
            obtain rfl := hw.symm
            rw [unhide HJ]
            go_wp2_with fail
            refine (same19 a1 len cap1 ss a4 cap4 _ hl hlen hown7.srow hown6.srow).mono ?_
            rintro e w8 ⟨rfl, n8, rfl⟩
            go_wp2
            go_ret
            exact ⟨rfl, below_drewN ((below_drewN hb5 n).trans (hb6.mono (by simp; omega))) _⟩
      · have hj1 := Plain.idx_snoc s ss hs
        have hno : Lib.idxOfS ss s = -1 := by
          have := Lib.idxOfS_miss ss ss.length s (fun j hj e => hs (by rw [← e]; simp [hj]))
          rwa [List.take_length] at this
        rw [hno]
        go_wp2_with fail
        refine (var18_miss a1 len cap1 ss s (w.heap.size + 1) _ _ hl (by omega) hown1.srow hown1 (by omega) (by omega) hB4 hs).mono ?_
        rintro e w5 ⟨rfl, ⟨v', hB5, hown5, hnew⟩, hkept⟩
        have hl5 : (ss ++ [s]).length = len + 1 := by simp [hl]
        have hs5 : s ∈ ss ++ [s] := by simp
        have hold5 : SRow w5 a2 ss := by
          refine Own.srow (base := w2.heap.size) (len := len) (cap := cap2) (hown4.sameBlock (fun g hg => ?_))
          have h1 := hown4.lt g hg
          exact hkept.block g h1.2 (by omega) (fun e => by have := hlow g e.symm; omega)
        have hb5' : Below w.heap.size w w5 := hb5.trans (Below.of_kept hkept (Nat.le_refl _) (by omega) (fun g hg => by have := hown1.lt g hg; omega))
        have hz5 := hkept.size
        obtain ⟨a3, cap3, rfl⟩ := hown5.form' hl5
        have hcB := cell_of_one hB5
        have HB5 := hide hB5
        have HJ := hide hj1
        have HN := hide hnew
        clear hkept hnew hB5 hown1 hown4 hB4 hlow hb5 hr4 hno hj1
        rcases hown5.srow with h | ⟨b', off', had', hc'⟩
        · exfalso; have h' := h.out; simp at h'
        have had'' := had'
        subst had'
        have hcell0 : w5.cell? ⟨b', off' + len, none⟩ = some (.string s) := by
          have := hc' len (by omega)
          rw [this]
          simp [← hl]
        go_wp2_with fail
        go_loopw [9] (fun i wr => ∃ k n : Nat, k ≤ len ∧ i = .int .i64 k ∧ wr = w5.drewN n) (fun i _ => len - (intOf i).toNat)
        case atStart => exact ⟨0, 0, Nat.zero_le _, rfl, rfl⟩
        case round =>
          obtain ⟨k, n, hk, rfl, rfl⟩ := hrel
          by_cases hlt : k < len
          · rcases hold5 with h | ⟨b, off, had, hc⟩
            · exfalso; have h' := h.out; omega
            have hcell := hc k (by omega)
            have hcell' : w5.cell? ⟨b', off' + k, none⟩ = some (.string (ss.getD k ByteArray.empty)) := by
              rw [hc' k (by omega)]
              simp [List.getElem?_append, show k < ss.length by omega]
            subst had
            clear hc hc' hown5
            go_wp2
            go_quiet (fail)
            go_wp2
            go_roundw
            case rel => exact ⟨k + 1, _, by omega, by go_num, rfl⟩
            case measure => simp [intOf]; omega
          · go_wp2_with fail
            have hrD : SRow (w5.drewN n) (some ⟨b', off', none⟩) (ss ++ [s]) := hown5.srow
            refine (clone17 (some ⟨b', off', none⟩) (len + 1) cap3 (ss ++ [s]) _ hl5 (by omega) hrD).mono ?_
            rintro e w6 ⟨v, rfl, hown6, hb6⟩
            obtain ⟨a4, cap4, rfl⟩ := hown6.form' hl5
            have hB6 : w6.heap[w.heap.size]? = some (.cells #[.slice (some ⟨b', off', none⟩) (len + 1) cap3] 35 (0, 0)) := by rw [hb6.block _ (by simp; omega)]; exact unhide HB5
            have hcB6 := cell_of_one hB6
            have hown7 : Own w6 (w.heap.size + 1) (.slice (some ⟨b', off', none⟩) (len + 1) cap3) (ss ++ [s]) := Own.below (w := w5.drewN n) hown5 hb6
            go_wp2_with fail
            refine (var18_hit _ (len + 1) cap3 (ss ++ [s]) s _ _ hl5 (by omega) hown7.srow hB6 hs5).mono ?_
            rintro e w' ⟨rfl, hw⟩
            obtain rfl := hw.symm
            rw [unhide HJ]
            go_wp2_with fail
            refine (same19 _ (len + 1) cap3 (ss ++ [s]) a4 cap4 _ hl5 (by unfold maxLen; omega) hown7.srow hown6.srow).mono ?_
            rintro e w8 ⟨rfl, n8, rfl⟩
            go_wp2
            go_ret
            exact ⟨rfl, below_drewN ((below_drewN hb5' n).trans (hb6.mono (by simp; omega))) _⟩

end Go.Proofs.Qxb6003736a.Strs
