/- zzFlattenG1, zzCloneBlocksG1 (seat b6003801a). -/
import Derived.Test.Qxb6003801aBlk
namespace Go.Proofs.Qxb6003801a.Blk
open Go.RowKit
set_option linter.unusedVariables false

/-- The first k blocks end to end. -/
def flat (xs : List B) : Nat → List Int
  | 0 => []
  | k + 1 => flat xs k ++ (xs.getD k B.no).bs

theorem flat_length (xs : List B) (k : Nat) : (flat xs k).length = tot xs k := by
  induction k with
  | zero => rfl
  | succ k ih => simp [flat, tot, ih]
theorem tot_mono (xs : List B) {k l : Nat} (h : k ≤ l) : tot xs k ≤ tot xs l := by
  induction l with
  | zero => have : k = 0 := by omega
            rw [this]; exact Nat.le_refl _
  | succ l ih =>
    by_cases e : k = l + 1
    · rw [e]; exact Nat.le_refl _
    · have := ih (by omega)
      simp only [tot]; omega
theorem len_le_tot (xs : List B) {k l : Nat} (h : k < l) : (xs.getD k B.no).bs.length ≤ tot xs l := by
  have h1 := tot_mono xs (k := k + 1) (l := l) h
  simp only [tot] at h1
  omega

/-- A row of bytes of the call's own. -/
def OwnB (w : World) (base : Nat) (v : Value) (bs : List Int) : Prop := w.ownsRow base 5 1 v bs.length (bs.map (Value.int .u8))

theorem OwnB.form {w : World} {base : Nat} {v : Value} {bs : List Int} (h : OwnB w base v bs) : ∃ a cap, v = .slice a bs.length cap ∧ BRow w a bs := by
  rcases h.2 with ⟨rfl, h0⟩ | ⟨g, cap, cur, rfl, hb, hg, hn, hm, hs, ht⟩
  · exact ⟨none, 0, by rw [h0], .inl (show bs.length < 1 by omega)⟩
  · refine ⟨_, cap, rfl, .inr ⟨g, 0, rfl, fun k hk => ?_⟩⟩
    have := World.ownsRow.cellAt h k (by omega)
    rw [Nat.zero_add, this]
    simp [hk]

/-- What zzFlattenG1 leaves. -/
structure Flattened (w w' : World) (bs : List Int) (e : Ending) : Prop where
  out : ∃ a cap, e = .returned (.slice a bs.length cap) ∧ BRow w' a bs
  below : Below w.heap.size w w'

set_option maxHeartbeats 400000 in
theorem flatten17 (a : Option Addr) (len cap : Nat) (xs : List B) (w : World) (hl : xs.length = len) (hlen : len ≤ 1048576) (htot : tot xs len ≤ 1048576) (hr : Outer w a xs) (hin : Inner w xs) :
    Calls Try.prog 17 #[.slice a len cap] w fun e w' => Flattened w w' (flat xs len) e := by
  obtain ⟨i5, hi, hz0, hz1, hz2⟩ := info_parts Try.info5
  have HL := hide hl
  have HIN := hide hin
  clear hl hin
  go_enter Try.func17, Try.ntmps17
  go_wp2_with fail
  go_loopw [3, 4] (fun v i wr => ∃ k : Nat, k ≤ len ∧ i = .int .i64 k ∧ OwnB wr w.heap.size v (flat xs k) ∧ Below w.heap.size w wr) (fun _ i _ => len - (intOf i).toNat)
  case atStart => exact ⟨0, Nat.zero_le _, rfl, World.ownsRow_nil _ _ _ _, Below.refl _ _⟩
  case round =>
    obtain ⟨k, hk, rfl, hown, hb⟩ := hrel
    by_cases hlt : k < len
    · have hkx : k < xs.length := by have := unhide HL; omega
      rcases hr.below hb with h | ⟨b, off, had, hc⟩
      · exfalso; have h' := h.out; omega
      have hcell := hc k hkx
      have hrow := (unhide HIN k hkx).1
      have hbl := len_le_tot xs (k := k) (l := len) hlt
      have htk := tot_mono xs (k := k + 1) (l := len) hlt
      have HFK : Hid (flat xs (k + 1) = flat xs k ++ (xs.getD k B.no).bs) := rfl
      have hfl := flat_length xs k
      simp only [tot] at htk
      rw [← hfl] at htk
      unfold B.val at hcell
      subst had
      clear hc hfl
      generalize (xs.getD k B.no).bs = bs at *
      generalize (xs.getD k B.no).a = am at *
      generalize (xs.getD k B.no).cap = cm at *
      obtain ⟨m, hm⟩ : ∃ m, bs.length = m := ⟨_, rfl⟩
      rw [hm] at hcell hbl htk
      have HM := hide hm
      have hwr := hb.size
      generalize hfl' : flat xs (k + 1) = fl' at *
      have HFL := hide hfl'
      clear hfl'
      generalize flat xs k = fl at *
      clear hm
      generalize wr = w1 at *
      go_wp2_with fail
      go_loopw [3, 6] (fun v j wr => ∃ q : Nat, q ≤ m ∧ j = .int .i64 q ∧ OwnB wr w.heap.size v (fl ++ bs.take q) ∧ Below w.heap.size w wr) (fun _ j _ => m - (intOf j).toNat)
      case atStart => exact ⟨0, Nat.zero_le _, rfl, by rw [List.take_zero, List.append_nil]; exact hown, hb⟩
      case round =>
        clear hown hb hcell
        obtain ⟨q, hq, rfl, hown, hb⟩ := hrel
        by_cases hqm : q < m
        · have hqb : q < bs.length := by have := unhide HM; omega
          rcases hrow.below hb with h | ⟨b2, off2, had2, hc2⟩
          · exfalso; have h' := h.out; omega
          have hcell := hc2 q hqb
          have hz := hb.size
          have HTK : Hid (fl ++ bs.take (q + 1) = (fl ++ bs.take q) ++ [bs.getD q 0]) := by
            show fl ++ bs.take (q + 1) = (fl ++ bs.take q) ++ [bs.getD q 0]
            rw [List.take_succ_eq_append_getElem hqb, List.append_assoc, show bs.getD q 0 = bs[q] by simp [hqb]]
          have hlq : (fl ++ bs.take q).length ≤ 1048576 := by
            rw [List.length_append, List.length_take]; omega
          subst had2
          clear hc2
          generalize bs.getD q 0 = x at *
          generalize hgl' : fl ++ bs.take (q + 1) = gl' at *
          have HGL := hide hgl'
          clear hgl'
          generalize fl ++ bs.take q = gl at *
          obtain ⟨ag, cg, rfl, _⟩ := hown.form
          have hown0 : wr.ownsRow w.heap.size 5 1 (.slice ag gl.length cg) gl.length (gl.map (Value.int .u8)) := hown
          go_wp2_with (at_builtin; refine wpList_append_own _ rfl _ _ 34 rfl w.heap.size 5 i5 (.int .u8 0) 1 1 Try.underlying34 hi hz0 hz1 hz2 rfl (by decide) _ _ _ rfl (hown0.alloc _) ⟨wr.heap.size, 0, none⟩ 1 1 [.int .u8 x] rfl rfl (cell_one_new _ _ _) ?c2 (by unfold maxLen; omega) (by omega) (by simp; omega) ?_)
          case c2 => intro u hu; simp at hu; subst hu; rfl
          intro v' w9 hownA hgrowA _
          have hbA : Below w.heap.size w w9 := (hb.alloc hz _).grown hgrowA (by simp; omega) (fun g hg => (hown0.lt g hg).1)
          have hownB : OwnB w9 w.heap.size v' gl' := by
            unfold OwnB
            rw [unhide HTK, List.map_append, List.length_append]
            exact hownA
          clear hgrowA hown0 hownA hown hb
          go_wp2
          go_roundw
          case rel => exact ⟨q + 1, by omega, by go_num, by rw [unhide HGL]; exact hownB, hbA⟩
          case measure => simp [intOf]; omega
        · have hfin : OwnB wr w.heap.size u3 fl' := by
            rw [unhide HFK]
            rw [List.take_of_length_le (by have := unhide HM; omega)] at hown
            exact hown
          clear hown
          go_wp2
          go_roundw
          case rel => exact ⟨k + 1, by omega, by go_num, by rw [unhide HFL]; exact hfin, hb⟩
          case measure => simp [intOf]; omega
    · obtain rfl : k = len := by omega
      obtain ⟨ag, cg, rfl, hrow⟩ := hown.form
      clear hown
      go_wp2
      go_ret
      exact ⟨⟨ag, cg, rfl, hrow⟩, hb⟩

end Go.Proofs.Qxb6003801a.Blk
