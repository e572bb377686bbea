/- Contracts of the small functions over []string (seat b6003736a): lengths, the copy, equality, slices.Index, varIndex. -/
import Derived.Test.Qxb6003736aProg
import Derived.WalkKit
import Derived.WalkLawsBesides
import Derived.Deep.QuietTactic
import Derived.BigQuiet
import Derived.Lib.SlicesS
namespace Go.Proofs.Qxb6003736a.Strs
open Go.RowKit

theorem hide {p : Prop} (h : p) : Hid p := h
theorem unhide {p : Prop} (h : Hid p) : p := h

/-- The slice's first cells hold these strings. -/
def SRow (w : World) (a : Option Addr) (ss : List ByteArray) : Prop :=
  Hid (ss.length < 1) ∨ ∃ b off, a = some ⟨b, off, none⟩ ∧ ∀ k, k < ss.length → w.cell? ⟨b, off + k, none⟩ = some (.string (ss.getD k ByteArray.empty))

/-- It answers some bool. -/
def RetB (e : Ending) : Prop := ∃ r : Bool, e = .returned (.bool r)
theorem RetB.mk {e : Ending} (r : Bool) (h : e = .returned (.bool r)) : RetB e := ⟨r, h⟩
/-- It answers some int. -/
def RetI (e : Ending) : Prop := ∃ r : Int, e = .returned (.int .i64 r)
theorem RetI.mk {e : Ending} (r : Int) (h : e = .returned (.int .i64 r)) : RetI e := ⟨r, h⟩

/-- zzBytes_FnVarIndexScriptInterns: it answers a bool and turns nothing. -/
theorem bytes15 (a : Option Addr) (len cap : Nat) (ss : List ByteArray) (w : World) (hl : ss.length = len) (hlen : len ≤ maxLen) (hr : SRow w a ss) :
    Calls Try.prog 15 #[.slice a len cap] w fun e w' => RetB e ∧ w' = w := by
  unfold maxLen at hlen
  rcases hr with h | ⟨b, off, rfl, hc⟩
  all_goals
    go_enter Try.func15, Try.ntmps15
    go_wp2
    · go_ret
      exact ⟨.mk _ rfl, rfl⟩
    · go_loop [3, 4] (fun t i => ∃ (k : Nat) (z : Int), k ≤ len ∧ 0 ≤ z ∧ z ≤ 1048576 ∧ i = .int .i64 k ∧ t = .int .i64 z) (fun _ i => len - (intOf i).toNat)
      case atStart => exact ⟨0, _, Nat.zero_le _, by omega, by omega, rfl, rfl⟩
      case round =>
        obtain ⟨k, z, hk, hz0, hz, rfl, rfl⟩ := hrel
        by_cases hlt : k < len
        · first
            | (exfalso; have h' := h.out; omega)
            | (have hcell := hc k (by omega)
               go_wp2
               all_goals first
                 | (go_ret; exact ⟨.mk _ rfl, rfl⟩)
                 | (go_round
                    case rel => exact ⟨k + 1, _, by omega, by omega, by omega, by go_num, rfl⟩
                    case measure => simp [intOf]; omega))
        · go_wp2
          go_ret
          exact ⟨.mk _ rfl, rfl⟩

/-- zzBytes_FnVarIndexLookupOrAppend: it answers a bool and turns nothing. -/
theorem bytes20 (a : Option Addr) (len cap : Nat) (ss : List ByteArray) (s : ByteArray) (w : World) (hl : ss.length = len) (hlen : len ≤ maxLen) (hs : s.size ≤ maxLen) (hr : SRow w a ss) :
    Calls Try.prog 20 #[.slice a len cap, .string s] w fun e w' => RetB e ∧ w' = w := by
  unfold maxLen at hlen hs
  rcases hr with h | ⟨b, off, rfl, hc⟩
  all_goals
    go_enter Try.func20, Try.ntmps20
    go_wp2
    · go_ret
      exact ⟨.mk _ rfl, rfl⟩
    · go_loop [5, 6] (fun t i => ∃ (k : Nat) (z : Int), k ≤ len ∧ 0 ≤ z ∧ z ≤ 1048576 ∧ i = .int .i64 k ∧ t = .int .i64 z) (fun _ i => len - (intOf i).toNat)
      case atStart => exact ⟨0, _, Nat.zero_le _, by omega, by omega, rfl, rfl⟩
      case round =>
        obtain ⟨k, z, hk, hz0, hz, rfl, rfl⟩ := hrel
        by_cases hlt : k < len
        · first
            | (exfalso; have h' := h.out; omega)
            | (have hcell := hc k (by omega)
               go_wp2
               all_goals first
                 | (go_ret; exact ⟨.mk _ rfl, rfl⟩)
                 | (go_round
                    case rel => exact ⟨k + 1, _, by omega, by omega, by omega, by go_num, rfl⟩
                    case measure => simp [intOf]; omega))
        · go_wp2
          all_goals
            go_ret
            exact ⟨.mk _ rfl, rfl⟩

/-- bytesOfStringsMin: it answers an int and turns nothing. -/
theorem bytes16 (a : Option Addr) (len cap : Nat) (ss : List ByteArray) (w : World) (hl : ss.length = len) (hlen : len ≤ maxLen) (hr : SRow w a ss) :
    Calls Try.prog 16 #[.slice a len cap] w fun e w' => RetI e ∧ w' = w := by
  unfold maxLen at hlen
  rcases hr with h | ⟨b, off, rfl, hc⟩
  all_goals
    go_enter Try.func16, Try.ntmps16
    go_wp2
    go_loop [3, 4] (fun t i => ∃ (k : Nat) (z : Int), k ≤ len ∧ i = .int .i64 k ∧ t = .int .i64 z) (fun _ i => len - (intOf i).toNat)
    case atStart => exact ⟨0, _, Nat.zero_le _, rfl, rfl⟩
    case round =>
      obtain ⟨k, z, hk, rfl, rfl⟩ := hrel
      by_cases hlt : k < len
      · first
          | (exfalso; have h' := h.out; omega)
          | (have hcell := hc k (by omega)
             go_wp2
             all_goals first
               | (go_ret; exact ⟨.mk _ rfl, rfl⟩)
               | (go_round
                  case rel => exact ⟨k + 1, _, by omega, by go_num, rfl⟩
                  case measure => simp [intOf]; omega))
      · go_wp2
        go_ret
        exact ⟨.mk _ rfl, rfl⟩

/-- slices.Index at []string. -/
theorem index33 (a : Option Addr) (len cap : Nat) (ss : List ByteArray) (s : ByteArray) (w : World) (hl : ss.length = len) (hlen : len ≤ maxLen) (hr : SRow w a ss) :
    Calls Try.prog 33 #[.slice a len cap, .string s] w fun e w' => e = .returned (.int .i64 (Lib.idxOfS ss s)) ∧ w' = w := by
  unfold maxLen at hlen
  rcases hr with h | ⟨b, off, rfl, hc⟩
  all_goals
    go_enter Try.func33, Try.ntmps33
    go_wp2
    go_loop [8] (fun i => ∃ (k : Nat), k ≤ len ∧ i = .int .i64 k ∧ ∀ j, j < k → ss.getD j ByteArray.empty ≠ s) (fun i => len - (intOf i).toNat)
    case atStart => exact ⟨0, Nat.zero_le _, rfl, fun j hj => absurd hj (Nat.not_lt_zero _)⟩
    case round =>
      obtain ⟨k, hk, rfl, hno⟩ := hrel
      have HN : Hid (∀ j, j < k → ss.getD j ByteArray.empty ≠ s) := hno
      clear hno
      by_cases hlt : k < len
      · first
          | (exfalso; have h' := h.out; omega)
          | (have hcell := hc k (by omega)
             go_wp2
             · have hb : (s.toList == ss[k].toList) = true := by assumption
               have e1 := (Lib.bytes_beq_iff _ _).1 hb
               have e : Lib.idxOfS ss s = (k : Int) := by
                 have := Lib.idxOfS_hit ss len k s hlt (by omega) (by rw [e1]; simp [show k < ss.length by omega]) (fun j hj => HN.out j hj)
                 rwa [← hl, List.take_length] at this
               go_ret
               rw [e]
               exact ⟨rfl, rfl⟩
             · have hb : (s.toList == ss[k].toList) = false := by assumption
               have e1 := (Lib.bytes_beq_false_iff _ _).1 hb
               go_round
               case rel =>
                 refine ⟨k + 1, by omega, by go_num, fun j hj => ?_⟩
                 by_cases hjk : j = k
                 · subst hjk
                   have e2 : ss.getD j ByteArray.empty = ss[j]'(by omega) := by simp [show j < ss.length by omega]
                   rw [e2]
                   exact Ne.symm e1
                 · exact HN.out j (by omega)
               case measure => simp [intOf]; omega)
      · go_wp2
        go_ret
        have e : Lib.idxOfS ss s = -1 := by
          have := Lib.idxOfS_miss ss len s (fun j hj => HN.out j (by omega))
          rwa [← hl, List.take_length] at this
        rw [e]
        exact ⟨rfl, rfl⟩

theorem Try.info9 : (Try.prog.info? 9).map (fun i => (i.zero, i.size, i.bytes)) = some (some (.string ByteArray.empty), 1, 16) := by kernel_rfl

/-- The slice v owns the strings ss, in blocks from 'base' on. -/
def Own (w : World) (base : Nat) (v : Value) (ss : List ByteArray) : Prop := w.ownsRow base 9 1 v ss.length (ss.map Value.string)

theorem Own.form {w : World} {base : Nat} {v : Value} {ss : List ByteArray} (h : Own w base v ss) : ∃ a cap, v = .slice a ss.length cap ∧ SRow w a ss := by
  rcases h.2 with ⟨rfl, h0⟩ | ⟨g, cap, cur, rfl, hb, hg, hn, hm, hs, ht⟩
  · exact ⟨none, 0, by rw [h0], .inl (show ss.length < 1 by omega)⟩
  · refine ⟨_, cap, rfl, .inr ⟨g, 0, rfl, fun k hk => ?_⟩⟩
    have := World.ownsRow.cellAt h k (by omega)
    rw [Nat.zero_add, this]
    simp [hk]

/-- sameStringsMin: it tells whether the two lists are one. -/
theorem same19 (a : Option Addr) (len cap : Nat) (ss : List ByteArray) (a' : Option Addr) (cap' : Nat) (w : World) (hl : ss.length = len) (hlen : len ≤ maxLen) (hr : SRow w a ss) (hr' : SRow w a' ss) :
    Calls Try.prog 19 #[.slice a len cap, .slice a' len cap'] w fun e w' => e = .returned (.bool true) ∧ ∃ n, w' = w.drewN n := by
  unfold maxLen at hlen
  rcases hr with h | ⟨b, off, rfl, hc⟩
  · go_enter Try.func19, Try.ntmps19
    go_wp2
    have h0 := h.out
    refine wp_loop_rounds 1 ?_; rw [rounds_succ]
    have hz : ¬ ((0 : Int) < (len : Int)) := by omega
    go_wp2
    go_ret
    exact ⟨rfl, 0, rfl⟩
  rcases hr' with h | ⟨b', off', rfl, hc'⟩
  · go_enter Try.func19, Try.ntmps19
    go_wp2
    have h0 := h.out
    refine wp_loop_rounds 1 ?_; rw [rounds_succ]
    have hz : ¬ ((0 : Int) < (len : Int)) := by omega
    go_wp2
    go_ret
    exact ⟨rfl, 0, rfl⟩
  · go_enter Try.func19, Try.ntmps19
    go_wp2
    go_loopw [5] (fun i wr => ∃ (k n : Nat), k ≤ len ∧ i = .int .i64 k ∧ wr = w.drewN n) (fun i _ => len - (intOf i).toNat)
    case atStart => exact ⟨0, 0, Nat.zero_le _, rfl, rfl⟩
    case round =>
      obtain ⟨k, n, hk, rfl, rfl⟩ := hrel
      by_cases hlt : k < len
      · have hcell := hc k (by omega)
        have hcell' := hc' k (by omega)
        go_wp2
        go_quiet (fail)
        go_wp2
        go_roundw
        case rel => exact ⟨k + 1, _, by omega, by go_num, rfl⟩
        case measure => simp [intOf]; omega
      · go_wp2
        go_ret
        exact ⟨rfl, _, rfl⟩

/-- The list that a copy has filled as far as k. -/
def half (ss : List ByteArray) (k : Nat) : List Value := (ss.take k).map Value.string ++ List.replicate (ss.length - k) (.string ByteArray.empty)

theorem half_zero (ss : List ByteArray) : half ss 0 = List.replicate ss.length (.string ByteArray.empty) := by simp [half]
theorem half_full (ss : List ByteArray) (k : Nat) (h : ss.length ≤ k) : half ss k = ss.map Value.string := by
  simp [half, List.take_of_length_le h, show ss.length - k = 0 by omega]
theorem half_length (ss : List ByteArray) (k : Nat) (h : k ≤ ss.length) : (half ss k).length = ss.length := by simp [half]; omega
theorem half_set (ss : List ByteArray) (k : Nat) (h : k < ss.length) : (half ss k).set k (.string (ss.getD k ByteArray.empty)) = half ss (k + 1) := by
  unfold half
  have e1 : ((ss.take k).map Value.string).length = k := by simp; omega
  rw [List.set_append_right _ _ (by omega), e1, Nat.sub_self, show ss.length - k = (ss.length - (k + 1)) + 1 by omega, List.replicate_succ, List.set_cons_zero,
    List.take_succ_eq_append_getElem h, List.map_append]
  simp [h]

/-- cloneStringsMin: a copy of its own. -/
theorem clone17 (a : Option Addr) (len cap : Nat) (ss : List ByteArray) (w : World) (hl : ss.length = len) (hlen : len ≤ 1048576) (hr : SRow w a ss) :
    Calls Try.prog 17 #[.slice a len cap] w fun e w' => ∃ v, e = .returned v ∧ Own w' w.heap.size v ss ∧ Below w.heap.size w w' := by
  have q35 : ∀ (w : World) (a : Option Addr) (n c n' c' : Nat), (binOp .eql 35 (.slice a n c) (.slice none n' c')).run Try.prog w = .ok (.bool a.isNone) w := fun w a n c n' c' => Lib.run_eql_slice_nil w _ _ a n c n' c' Try.underlying35
  obtain ⟨i0, hi, hz0, hz1, hz2⟩ := info_parts Try.info9
  cases a with
  | none =>
    have h0 : ss = [] := by
      rcases hr with h | ⟨b, off, h, _⟩
      · exact List.eq_nil_of_length_eq_zero (by have := h.out; omega)
      · simp at h
    subst h0
    go_enter Try.func17, Try.ntmps17
    go_wp2
    go_ret
    exact ⟨_, rfl, World.ownsRow_nil _ _ _ _, Below.refl _ _⟩
  | some ad =>
    go_enter Try.func17, Try.ntmps17
    go_wp2_with (at_make; refine wpList_make_full _ rfl _ _ 35 rfl w.heap.size 9 i0 (.string ByteArray.empty) 1 Try.underlying35 hi hz0 hz1 .i64 .i64 _ _ len rfl rfl (by omega) (by omega) (by rw [hz2]; omega) (by unfold maxLen; omega) (Nat.le_refl _) ?_)
    intro w1 hown1 hgrow1
    have hown2 : w1.ownsRow w.heap.size 9 1 (.slice (some ⟨w.heap.size, 0, none⟩) len len) len (half ss 0) := by
      rw [half_zero, hl]
      rw [toList_madeCells_one] at hown1
      exact hown1
    have hb1 : Below w.heap.size w w1 := (Below.refl _ _).grown hgrow1 (Nat.le_refl _) (fun k hk => by cases hk)
    clear hown1 hgrow1
    go_wp2
    go_loopw [4] (fun i wr => ∃ (k : Nat), k ≤ len ∧ i = .int .i64 k ∧ wr.ownsRow w.heap.size 9 1 (.slice (some ⟨w.heap.size, 0, none⟩) len len) len (half ss k) ∧ Below w.heap.size w wr) (fun i _ => len - (intOf i).toNat)
    case atStart => exact ⟨0, Nat.zero_le _, rfl, hown2, hb1⟩
    case round =>
      obtain ⟨k, hk, rfl, hown, hb⟩ := hrel
      by_cases hlt : k < len
      · rcases hr with h | ⟨b, off, had, hc⟩
        · exfalso; have h' := h.out; omega
        · have hbB : b < w.heap.size := World.block_lt_of_cell? w _ (hc k (by omega))
          have hcell : wr.cell? ⟨b, off + k, none⟩ = some (.string (ss.getD k ByteArray.empty)) := (hb.cell (p := ⟨b, off + k, none⟩) hbB).trans (hc k (by omega))
          have hdst : wr.cell? ⟨w.heap.size, k, none⟩ = some ((half ss k)[k]'(by rw [half_length] <;> omega)) := by
            rw [hown.cellAt k (by omega)]; exact List.getElem?_eq_getElem _
          have hfr : wr.frozen? ⟨w.heap.size, k, none⟩ = false := hown.frozenAt k
          have R := (hown.stored k (.string (ss.getD k ByteArray.empty))).1
          rw [half_set ss k (by omega)] at R
          have R2 := hb.setCell (p := ⟨w.heap.size, k, none⟩) (Nat.le_refl _) (.string (ss.getD k ByteArray.empty))
          have hadd : ad = ⟨b, off, none⟩ := by simpa using had
          have HR := hide R; have HR2 := hide R2
          clear R R2 hown hb had
          subst hadd
          go_wp2
          go_roundw
          case rel => exact ⟨k + 1, by omega, by go_num, by have := unhide HR; simpa [show k < ss.length by omega] using this, by have := unhide HR2; simpa [show k < ss.length by omega] using this⟩
          case measure => simp [intOf]; omega
      · go_wp2
        go_ret
        refine ⟨_, rfl, ?_, hb⟩
        unfold Own
        rw [half_full ss k (by omega)] at hown
        rw [hl]
        exact hown

end Go.Proofs.Qxb6003736a.Strs
