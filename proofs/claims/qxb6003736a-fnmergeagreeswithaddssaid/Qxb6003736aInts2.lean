/- The copies of []int, and the check of distinctness (seat b6003736a). -/
import Derived.Test.Qxb6003736aInts
import Derived.Deep.QuietTactic
import Derived.BigQuiet
import Derived.Deep.CutRange
namespace Go.Proofs.Qxb6003736a.Diag
open Go.RowKit
set_option linter.unusedVariables false

theorem getD_set (l : List Int) (i j : Nat) (x : Int) (h : i < l.length) : (l.set i x).getD j 0 = if i = j then x else l.getD j 0 := by
  rw [List.getD, List.getElem?_set]
  by_cases hij : i = j
  · rw [if_pos hij, if_pos hij, if_pos (by omega)]; rfl
  · rw [if_neg hij, if_neg hij]; rfl
theorem perm_swap (X : List Int) (q : Nat) (v : Int) (h : q + 1 < X.length) : ((X.set (q + 1) (X.getD q 0)).set q v).Perm (X.set (q + 1) v) := by
  obtain ⟨A, x, y, C, rfl, rfl⟩ : ∃ A x y C, X = A ++ x :: y :: C ∧ q = A.length := by
    refine ⟨X.take q, X[q], X[q + 1], X.drop (q + 2), ?_, by simp; omega⟩
    rw [← List.drop_eq_getElem_cons h, ← List.drop_eq_getElem_cons (by omega), List.take_append_drop]
  have e1 : (A ++ x :: y :: C).getD A.length 0 = x := by simp [List.getD]
  rw [e1, List.set_append_right _ _ (by omega), List.set_append_right _ _ (by omega), List.set_append_right _ _ (by omega)]
  simp
  exact List.Perm.append_left A (List.Perm.swap _ _ _)

/-- The inner loop of the insertion: v stands at p. -/
structure SInv (zs Y : List Int) (i p : Nat) (v : Int) : Prop where
  len : Y.length = zs.length
  perm : Y.Perm zs
  le : p ≤ i
  at' : Y.getD p 0 = v
  rest : ∀ a b, a < b → b ≤ i → a ≠ p → b ≠ p → Y.getD a 0 ≤ Y.getD b 0
  up : ∀ b, p < b → b ≤ i → v ≤ Y.getD b 0
/-- The outer loop: the first i are in order. -/
structure OInv (zs Y : List Int) (i : Nat) : Prop where
  len : Y.length = zs.length
  perm : Y.Perm zs
  ord : ∀ a b, a < b → b < i → Y.getD a 0 ≤ Y.getD b 0
theorem OInv.start (zs : List Int) : OInv zs zs 1 := ⟨rfl, List.Perm.refl _, fun a b h1 h2 => by omega⟩
theorem OInv.inner {zs Y : List Int} {i : Nat} (h : OInv zs Y i) : SInv zs (Y.set i (Y.getD i 0)) i i (Y.getD i 0) := by
  have e : Y.set i (Y.getD i 0) = Y := by
    by_cases hi : i < Y.length
    · rw [show Y.getD i 0 = Y[i] by simp [List.getD, hi]]; exact List.set_getElem_self hi
    · rw [List.set_eq_of_length_le (by omega)]
  rw [e]
  exact ⟨h.len, h.perm, Nat.le_refl _, rfl, fun a b h1 h2 h3 h4 => h.ord a b h1 (by omega), fun b h1 h2 => by omega⟩
theorem SInv.step {zs X : List Int} {i q : Nat} {v : Int} (h : SInv zs (X.set (q + 1) v) i (q + 1) v) (hi : i < X.length) (hlt : v < X.getD q 0) : SInv zs ((X.set (q + 1) (X.getD q 0)).set q v) i q v := by
  have hq := h.le
  have hl : q + 1 < X.length := by omega
  have e1 : ∀ j, ((X.set (q + 1) (X.getD q 0)).set q v).getD j 0 = if q = j then v else if q + 1 = j then X.getD q 0 else X.getD j 0 := fun j => by
    rw [getD_set _ _ _ _ (by simp; omega), getD_set _ _ _ _ hl]
  have e2 : ∀ j, (X.set (q + 1) v).getD j 0 = if q + 1 = j then v else X.getD j 0 := fun j => getD_set _ _ _ _ hl
  refine ⟨by simpa using h.len, (perm_swap X q v hl).trans h.perm, by omega, by rw [e1, if_pos rfl], fun a b h1 h2 h3 h4 => ?_, fun b h1 h2 => ?_⟩
  · have r1 := h.rest a b h1 h2
    have r2 := h.rest q b
    have r3 := h.rest a q
    rw [e2, e2] at r1 r2 r3
    rw [e1, e1, if_neg (Ne.symm h3), if_neg (Ne.symm h4)]
    by_cases ha : q + 1 = a
    · rw [if_pos ha, if_neg (by omega)]
      rw [if_neg (by omega), if_neg (by omega)] at r2
      exact r2 (by omega) h2 (by omega) (by omega)
    · by_cases hb : q + 1 = b
      · rw [if_neg ha, if_pos hb]
        rw [if_neg ha, if_neg (by omega)] at r3
        exact r3 (by omega) (by omega) (by omega) (by omega)
      · rw [if_neg ha, if_neg hb]
        rw [if_neg ha, if_neg hb] at r1
        exact r1 (by omega) (by omega)
  · rw [e1, if_neg (by omega)]
    by_cases hb : q + 1 = b
    · rw [if_pos hb]; omega
    · rw [if_neg hb]
      have := h.up b (by omega) h2
      rw [e2, if_neg hb] at this
      exact this
theorem SInv.done {zs X : List Int} {i p : Nat} {v : Int} (h : SInv zs (X.set p v) i p v) (hi : i < X.length) (hlt : ∀ q, p = q + 1 → X.getD q 0 ≤ v) : OInv zs (X.set p v) (i + 1) := by
  have hp := h.le
  refine ⟨h.len, h.perm, fun a b h1 h2 => ?_⟩
  by_cases ha : a = p
  · subst ha
    rw [h.at']
    exact h.up b h1 (by omega)
  · by_cases hb : b = p
    · subst hb
      rw [h.at']
      obtain ⟨q, rfl⟩ : ∃ q, b = q + 1 := ⟨b - 1, by omega⟩
      have h3 := hlt q rfl
      by_cases haq : a = q
      · subst haq
        rw [getD_set _ _ _ _ (by omega), if_neg (by omega)]
        exact h3
      · have := h.rest a q (by omega) (by omega) (by omega) (by omega)
        rw [getD_set _ _ q _ (by omega), if_neg (by omega)] at this
        omega
    · exact h.rest a b h1 (by omega) ha hb
/-- In order, and no neighbours alike: no value twice. -/
theorem OInv.nodup {zs Y : List Int} (h : OInv zs Y Y.length) (hn : ∀ i, 1 ≤ i → i < Y.length → Y.getD i 0 ≠ Y.getD (i - 1) 0) : zs.Nodup := by
  refine h.perm.nodup_iff.1 (List.pairwise_iff_getElem.2 fun a b ha hb hab => ?_)
  have h1 := hn b (by omega) hb
  have h3 := h.ord (b - 1) b (by omega) hb
  have e : ∀ j (hj : j < Y.length), Y.getD j 0 = Y[j] := fun j hj => by simp [List.getD, hj]
  rw [← e a ha, ← e b hb]
  by_cases hc : a = b - 1
  · subst hc; omega
  · have h4 := h.ord a (b - 1) (by omega) (by omega)
    omega

/-- Block B is a row of the call's own that holds just these numbers. -/
def OwnI (w : World) (B : Nat) (zs : List Int) : Prop := w.ownsRow B 3 1 (.slice (some ⟨B, 0, none⟩) zs.length zs.length) zs.length (zs.map (fun z => Value.int .i64 z))
theorem OwnI.cell {w : World} {B : Nat} {zs : List Int} (h : OwnI w B zs) (i : Nat) (hi : i < zs.length) : w.cell? ⟨B, i, none⟩ = some (.int .i64 (zs.getD i 0)) := by
  rw [World.ownsRow.cellAt h i (by omega)]
  simp [hi]
theorem OwnI.free {w : World} {B : Nat} {zs : List Int} (h : OwnI w B zs) (i : Nat) : w.frozen? ⟨B, i, none⟩ = false := World.ownsRow.frozenAt h i
theorem OwnI.set {w : World} {B : Nat} {zs : List Int} (h : OwnI w B zs) (i : Nat) (x : Int) : OwnI (w.setCell ⟨B, i, none⟩ (.int .i64 x)) B (zs.set i x) := by
  unfold OwnI
  rw [List.map_set, List.length_set]
  exact (World.ownsRow.stored h i _).1
theorem OwnI.row {w : World} {B : Nat} {zs : List Int} (h : OwnI w B zs) : IRow w (some ⟨B, 0, none⟩) zs :=
  .inr ⟨B, 0, rfl, fun k hk => by rw [Nat.zero_add]; exact h.cell k hk⟩
theorem OwnI.made {w w1 : World} {n : Nat} (h : w1.ownsRow w.heap.size 3 1 (.slice (some ⟨w.heap.size, 0, none⟩) n n) n (madeCells #[.int .i64 0] n).toList) : OwnI w1 w.heap.size (List.replicate n 0) := by
  unfold OwnI
  rw [List.length_replicate, List.map_replicate]
  rw [toList_madeCells_one] at h
  exact h
theorem OwnI.same {w w' : World} {B : Nat} {zs : List Int} (h : OwnI w B zs) (hb : w'.heap[B]? = w.heap[B]?) : OwnI w' B zs := by
  refine ⟨h.1, ?_⟩
  rcases h.2 with h' | ⟨g, cap, cur, hv, hg, hh, r⟩
  · exact .inl h'
  · refine .inr ⟨g, cap, cur, hv, hg, ?_, r⟩
    have : g = B := by simp at hv; exact hv.1.symm
    subst this
    rw [hb]; exact hh

/-- What a copy leaves. -/
structure Copied (w w' : World) (zs : List Int) (e : Ending) : Prop where
  out : ∃ a cap, e = .returned (.slice a zs.length cap) ∧ IRow w' a zs
  below : Below w.heap.size w w'

/-- The list that a copy has filled as far as k. -/
def half (zs : List Int) (k : Nat) : List Int := zs.take k ++ List.replicate (zs.length - k) 0
theorem half_zero (zs : List Int) : half zs 0 = List.replicate zs.length 0 := by simp [half]
theorem half_full (zs : List Int) (k : Nat) (h : zs.length ≤ k) : half zs k = zs := by simp [half, List.take_of_length_le h, show zs.length - k = 0 by omega]
theorem half_length (zs : List Int) (k : Nat) (h : k ≤ zs.length) : (half zs k).length = zs.length := by simp [half]; omega
theorem half_set (zs : List Int) (k : Nat) (h : k < zs.length) : (half zs k).set k (zs.getD k 0) = half zs (k + 1) := by
  unfold half
  have e1 : (zs.take k).length = k := by simp; omega
  rw [List.set_append_right _ _ (by omega), e1, Nat.sub_self, show zs.length - k = (zs.length - (k + 1)) + 1 by omega, List.replicate_succ, List.set_cons_zero, List.take_succ_eq_append_getElem h, show zs.getD k 0 = zs[k] by simp [h], List.append_assoc]
  rfl

theorem copy10 (a : Option Addr) (len cap : Nat) (zs : List Int) (w : World) (hl : zs.length = len) (hlen : len ≤ 1048576) (hr : IRow w a zs) :
    Calls Try.prog 10 #[.slice a len cap] w fun e w' => Copied w w' zs e := by
  have q22 : ∀ (w : World) (a : Option Addr) (n c n' c' : Nat), (binOp .eql 22 (.slice a n c) (.slice none n' c')).run Try.prog w = .ok (.bool a.isNone) w := fun w a n c n' c' => Lib.run_eql_slice_nil w _ _ a n c n' c' Try.underlying22
  obtain ⟨i0, hi, hz0, hz1, hz2⟩ := info_parts info3
  cases a with
  | none =>
    have h0 : zs = [] := by
      rcases hr with h | ⟨b, off, h, _⟩
      · exact List.eq_nil_of_length_eq_zero (by have := h.out; omega)
      · simp at h
    subst h0
    go_enter Try.func10, Try.ntmps10
    go_wp2
    go_ret
    exact ⟨⟨none, 0, rfl, .inl (show 0 < 1 by omega)⟩, Below.refl _ _⟩
  | some ad =>
    go_enter Try.func10, Try.ntmps10
    go_wp2_with (at_make; refine wpList_make_full _ rfl _ _ 22 rfl w.heap.size 3 i0 (.int .i64 0) 1 Try.underlying22 hi hz0 hz1 .i64 .i64 _ _ len rfl rfl (by omega) (by omega) (by rw [hz2]; omega) (by unfold maxLen; omega) (Nat.le_refl _) ?_)
    intro w1 hown1 hgrow1
    have hown2 : OwnI w1 w.heap.size (half zs 0) := by
      rw [half_zero, hl]
      exact OwnI.made hown1
    have hb1 : Below w.heap.size w w1 := (Below.refl _ _).grown hgrow1 (Nat.le_refl _) (fun k hk => by cases hk)
    have HL := hide hl
    clear hown1 hgrow1 hl
    go_wp2
    go_loopw [4] (fun i wr => ∃ (k : Nat), k ≤ len ∧ i = .int .i64 k ∧ OwnI wr w.heap.size (half zs k) ∧ Below w.heap.size w wr) (fun i _ => len - (intOf i).toNat)
    case atStart => exact ⟨0, Nat.zero_le _, rfl, hown2, hb1⟩
    case round =>
      clear hown2 hb1
      obtain ⟨k, hk, rfl, hown, hb⟩ := hrel
      by_cases hlt : k < len
      · rcases hr with h | ⟨b, off, had, hc⟩
        · exfalso; have h' := h.out; have := unhide HL; omega
        · have hkl : k < zs.length := by have := unhide HL; omega
          have hbB : b < w.heap.size := World.block_lt_of_cell? w _ (hc k hkl)
          have hcell : wr.cell? ⟨b, off + k, none⟩ = some (.int .i64 (zs.getD k 0)) := (hb.cell (p := ⟨b, off + k, none⟩) hbB).trans (hc k hkl)
          have hdst := hown.cell k (by rw [half_length] <;> omega)
          have hfr := hown.free k
          have R := hown.set k (zs.getD k 0)
          rw [half_set zs k hkl] at R
          have R2 := hb.setCell (p := ⟨w.heap.size, k, none⟩) (Nat.le_refl _) (.int .i64 (zs.getD k 0))
          have hadd : ad = ⟨b, off, none⟩ := by simpa using had
          have HR := hide R; have HR2 := hide R2
          clear R R2 hown hb had hc
          generalize zs.getD k 0 = x at *
          generalize (half zs k).getD k 0 = y at *
          subst hadd
          go_wp2
          go_roundw
          case rel => exact ⟨k + 1, by omega, by go_num, unhide HR, unhide HR2⟩
          case measure => simp [intOf]; omega
      · have hfin : OwnI wr w.heap.size zs := by rw [half_full zs k (by have := unhide HL; omega)] at hown; exact hown
        have hrow := hfin.row
        have hlz := unhide HL
        have HZ := hide hlz
        clear hown hfin hlz HL
        go_wp2
        go_ret
        exact ⟨⟨_, len, by rw [unhide HZ]; rfl, hrow⟩, hb⟩

end Go.Proofs.Qxb6003736a.Diag
