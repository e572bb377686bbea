/- zzCloneBlocksG1 (seat b6003801a). -/
import Derived.Test.Qxb6003801aFlat
namespace Go.Proofs.Qxb6003801a.Blk
open Go.RowKit
set_option linter.unusedVariables false

/-- The block's bytes lie in a block of memory from 'lo' on. -/
def RowFrom (lo : Nat) (w : World) (a : Option Addr) (bs : List Int) : Prop :=
  Hid (bs.length < 1) ∨ ∃ b off, lo ≤ b ∧ a = some ⟨b, off, none⟩ ∧ ∀ k, k < bs.length → w.cell? ⟨b, off + k, none⟩ = some (.int .u8 (bs.getD k 0))
theorem RowFrom.row {lo : Nat} {w : World} {a : Option Addr} {bs : List Int} (h : RowFrom lo w a bs) : BRow w a bs := by
  rcases h with h | ⟨b, off, _, ha, hc⟩
  · exact .inl h
  · exact .inr ⟨b, off, ha, hc⟩
theorem RowFrom.below {lo : Nat} {w w' : World} {a : Option Addr} {bs : List Int} (h : RowFrom lo w a bs) (hb : Below w.heap.size w w') : RowFrom lo w' a bs := by
  rcases h with h | ⟨b, off, hlo, ha, hc⟩
  · exact .inl h
  · exact .inr ⟨b, off, hlo, ha, fun k hk => (hb.cell (p := ⟨b, off + k, none⟩) (World.block_lt_of_cell? w _ (hc k hk))).trans (hc k hk)⟩
theorem RowFrom.setCell {lo : Nat} {w : World} {a : Option Addr} {bs : List Int} (h : RowFrom lo w a bs) {p : Addr} (hp : p.block < lo) (v : Value) : RowFrom lo (w.setCell p v) a bs := by
  rcases h with h | ⟨b, off, hlo, ha, hc⟩
  · exact .inl h
  · refine .inr ⟨b, off, hlo, ha, fun k hk => ?_⟩
    rw [World.cell?_of_block (w := w) (a := ⟨b, off + k, none⟩) (Below.heap_setCell w p v b (by omega))]
    exact hc k hk

/-- A block whose header is in order. -/
structure Good (y : B) : Prop where
  len : y.bs.length ≤ y.cap
  nil : y.a = none → y.cap = 0
  max : y.cap ≤ 1048576

/-- The copies made so far. -/
structure Made (lo : Nat) (w : World) (xs ys : List B) : Prop where
  len : ys.length ≤ xs.length
  same : ∀ k, k < ys.length → (ys.getD k B.no).bs = (xs.getD k B.no).bs
  row : ∀ k, k < ys.length → RowFrom lo w (ys.getD k B.no).a (ys.getD k B.no).bs
  good : ∀ k, k < ys.length → Good (ys.getD k B.no)

/-- The outer row's cells. -/
def cellsOf (n : Nat) (ys : List B) : List Value := ys.map B.val ++ List.replicate (n - ys.length) (.slice none 0 0)
theorem cellsOf_length (n : Nat) (ys : List B) (h : ys.length ≤ n) : (cellsOf n ys).length = n := by simp [cellsOf]; omega
theorem cellsOf_next (n : Nat) (ys : List B) (y : B) (h : ys.length < n) : (cellsOf n ys).set ys.length y.val = cellsOf n (ys ++ [y]) := by
  unfold cellsOf
  have e1 : (ys.map B.val).length = ys.length := by simp
  rw [List.set_append_right _ _ (by omega), e1, Nat.sub_self, show n - ys.length = (n - (ys ++ [y]).length) + 1 by simp; omega, List.replicate_succ, List.set_cons_zero, List.map_append]
  simp
theorem cellsOf_nil (n : Nat) (ys : List B) (h : ys.length < n) : cellsOf n ys = cellsOf n (ys ++ [B.no]) := by
  unfold cellsOf
  rw [List.map_append, List.length_append, show n - ys.length = (n - (ys.length + [B.no].length)) + 1 by simp; omega, List.replicate_succ, List.append_assoc]
  rfl
theorem getD_snoc (ys : List B) (y : B) (k : Nat) : (ys ++ [y]).getD k B.no = if k < ys.length then ys.getD k B.no else if k = ys.length then y else B.no := by
  by_cases h : k < ys.length
  · simp [List.getD, List.getElem?_append_left h, h]
  · by_cases e : k = ys.length
    · subst e; simp [List.getD]
    · have e2 : [y][k - ys.length]? = none := List.getElem?_eq_none (by simp; omega)
      simp [List.getD, h, e, List.getElem?_append_right (Nat.le_of_not_lt h), e2]

theorem Made.snoc {lo : Nat} {w w' : World} {xs ys : List B} (h : Made lo w xs ys) (hk : ys.length < xs.length) (y : B) (hy : y.bs = (xs.getD ys.length B.no).bs) (hrow : RowFrom lo w' y.a y.bs) (hgood : Good y)
    (hkeep : ∀ a bs, RowFrom lo w a bs → RowFrom lo w' a bs) : Made lo w' xs (ys ++ [y]) := by
  refine ⟨by simp; omega, fun k hk' => ?_, fun k hk' => ?_, fun k hk' => ?_⟩
  · rw [getD_snoc]
    simp at hk'
    split
    · exact h.same k (by assumption)
    · have e : k = ys.length := by omega
      rw [if_pos e, e]; exact hy
  · rw [getD_snoc]
    simp at hk'
    split
    · exact hkeep _ _ (h.row k (by assumption))
    · have e : k = ys.length := by omega
      rw [if_pos e]; exact hrow
  · rw [getD_snoc]
    simp at hk'
    split
    · exact h.good k (by assumption)
    · have e : k = ys.length := by omega
      rw [if_pos e]; exact hgood

/-- What zzCloneBlocksG1 leaves. -/
structure Cloned (w w' : World) (xs : List B) (e : Ending) : Prop where
  out : ∃ a ys, e = .returned (.slice a xs.length xs.length) ∧ ys.length = xs.length ∧ Outer w' a ys ∧ (∀ k, k < ys.length → BRow w' (ys.getD k B.no).a (ys.getD k B.no).bs) ∧ (∀ k, k < ys.length → (ys.getD k B.no).bs = (xs.getD k B.no).bs) ∧ (∀ k, k < ys.length → Good (ys.getD k B.no))
  below : Below w.heap.size w w'

/-- A copy of bytes, as far as q. -/
def bhalf (bs : List Int) (q : Nat) : List Int := bs.take q ++ List.replicate (bs.length - q) 0
theorem bhalf_zero (bs : List Int) : bhalf bs 0 = List.replicate bs.length 0 := by simp [bhalf]
theorem bhalf_full (bs : List Int) (k : Nat) (h : bs.length ≤ k) : bhalf bs k = bs := by simp [bhalf, List.take_of_length_le h, show bs.length - k = 0 by omega]
theorem bhalf_length (bs : List Int) (k : Nat) (h : k ≤ bs.length) : (bhalf bs k).length = bs.length := by simp [bhalf]; omega
theorem bhalf_set (zs : List Int) (k : Nat) (h : k < zs.length) : (bhalf zs k).set k (zs.getD k 0) = bhalf zs (k + 1) := by
  unfold bhalf
  have e1 : (zs.take k).length = k := by simp; omega
  rw [List.set_append_right _ _ (by omega), e1, Nat.sub_self, show zs.length - k = (zs.length - (k + 1)) + 1 by omega, List.replicate_succ, List.set_cons_zero, List.take_succ_eq_append_getElem h, show zs.getD k 0 = zs[k] by simp [h], List.append_assoc]
  rfl

set_option maxRecDepth 100000 in
set_option maxHeartbeats 1000000 in
theorem clone15 (a : Option Addr) (len cap : Nat) (xs : List B) (w : World) (hl : xs.length = len) (hlen : len ≤ 1048576) (htot : tot xs len ≤ 1048576) (hr : Outer w a xs) (hin : Inner w xs) :
    Calls Try.prog 15 #[.slice a len cap] w fun e w' => Cloned w w' xs e := by
  have q29 : ∀ (w : World) (a : Option Addr) (n c n' c' : Nat), (binOp .eql 29 (.slice a n c) (.slice none n' c')).run Try.prog w = .ok (.bool a.isNone) w := fun w a n c n' c' => Lib.run_eql_slice_nil w _ _ a n c n' c' Try.underlying29
  have q34 : ∀ (w : World) (a : Option Addr) (n c n' c' : Nat), (binOp .eql 34 (.slice a n c) (.slice none n' c')).run Try.prog w = .ok (.bool a.isNone) w := fun w a n c n' c' => Lib.run_eql_slice_nil w _ _ a n c n' c' Try.underlying34
  obtain ⟨i34, hi, hz0, hz1, hz2⟩ := info_parts Try.info34
  obtain ⟨i5, ki, kz0, kz1, kz2⟩ := info_parts Try.info5
  cases a with
  | none =>
    have h0 : xs = [] := by
      rcases hr with h | ⟨b, off, h, _⟩
      · exact List.eq_nil_of_length_eq_zero (by have := h.out; omega)
      · simp at h
    subst h0
    go_enter Try.func15, Try.ntmps15
    go_wp2
    go_ret
    exact ⟨⟨none, [], rfl, rfl, .inl (show 0 < 1 by omega), fun k hk => by simp at hk, fun k hk => by simp at hk, fun k hk => by simp at hk⟩, Below.refl _ _⟩
  | some ad =>
    have HL := hide hl
    have HIN := hide hin
    clear hl hin
    go_enter Try.func15, Try.ntmps15
    go_wp2_with (at_make; refine wpList_make_full _ rfl _ _ 29 rfl w.heap.size 34 i34 (.slice none 0 0) 1 Try.underlying29 hi hz0 hz1 .i64 .i64 _ _ len rfl rfl (by omega) (by omega) (by rw [hz2]; omega) (by unfold maxLen; omega) (Nat.le_refl _) ?_)
    intro w1 hown1 hgrow1
    have hown2 : w1.ownsRow w.heap.size 34 1 (.slice (some ⟨w.heap.size, 0, none⟩) len len) len (cellsOf len []) := by
      rw [toList_madeCells_one] at hown1
      simpa [cellsOf] using hown1
    have hb1 : Below w.heap.size w w1 := (Below.refl _ _).grown hgrow1 (Nat.le_refl _) (fun k hk => by cases hk)
    have hM1 : Made (w.heap.size + 1) w1 xs [] := ⟨Nat.zero_le _, fun k hk => by simp at hk, fun k hk => by simp at hk, fun k hk => by simp at hk⟩
    clear hown1 hgrow1 hi hz0 hz1 hz2
    go_wp2_with fail
    go_loopw [4] (fun i wr => ∃ (k : Nat) (ys : List B), k ≤ len ∧ i = .int .i64 k ∧ Hid (ys.length = k) ∧ wr.ownsRow w.heap.size 34 1 (.slice (some ⟨w.heap.size, 0, none⟩) len len) len (cellsOf len ys) ∧ Made (w.heap.size + 1) wr xs ys ∧ Below w.heap.size w wr) (fun i _ => len - (intOf i).toNat)
    case atStart => exact ⟨0, [], Nat.zero_le _, rfl, rfl, hown2, hM1, hb1⟩
    case round =>
      clear hown2 hM1 hb1
      obtain ⟨k, ys, hk, rfl, HY, hown, hM, hb⟩ := hrel
      by_cases hlt : k < len
      · have hkx : k < xs.length := by have := unhide HL; omega
        have hyx : ys.length < xs.length := by have := unhide HY; omega
        rcases hr.below hb with h | ⟨b, off, had, hc⟩
        · exfalso; have h' := h.out; omega
        have hcell := hc k hkx
        have hrow := ((unhide HIN k hkx).1).below hb
        have hbl := len_le_tot xs (k := k) (l := len) hlt
        have hblw := hown.lt w.heap.size rfl
        have HXK : Hid ((xs.getD ys.length B.no).bs = (xs.getD k B.no).bs) := by
          show (xs.getD ys.length B.no).bs = (xs.getD k B.no).bs
          rw [unhide HY]
        have hadd : ad = ⟨b, off, none⟩ := by simpa using had
        unfold B.val at hcell
        clear hc had
        subst hadd
        generalize (xs.getD k B.no).bs = bs at *
        generalize (xs.getD k B.no).a = am at *
        generalize (xs.getD k B.no).cap = cm at *
        obtain ⟨m, hm⟩ : ∃ m, bs.length = m := ⟨_, rfl⟩
        rw [hm] at hcell hbl
        have HM := hide hm
        clear hm
        generalize wr = W at *
        cases am with
        | none =>
          have hbs0 : bs = [] := by
            rcases hrow with h | ⟨b', off', h, _⟩
            · exact List.eq_nil_of_length_eq_zero (by have := h.out; omega)
            · simp at h
          have hM' := hM.snoc hyx B.no (by rw [unhide HXK, hbs0]; rfl) (.inl (show 0 < 1 by omega)) ⟨Nat.le_refl _, fun _ => rfl, Nat.zero_le _⟩ (fun a bs h => h)
          have hown' := hown
          rw [cellsOf_nil len ys (by have := unhide HL; omega)] at hown'
          clear hown hM hbs0
          go_wp2
          go_roundw
          case rel => exact ⟨k + 1, ys ++ [B.no], by omega, by go_num, by show (ys ++ [B.no]).length = k + 1; rw [List.length_append, unhide HY]; rfl, hown', hM', hb⟩
          case measure => simp [intOf]; omega
        | some am =>
          have hG : w.heap.size < W.heap.size := hblw.2
          go_wp2_with (at_make; refine wpList_make_full _ rfl _ _ 34 rfl W.heap.size 5 i5 (.int .u8 0) 1 Try.underlying34 ki kz0 kz1 .i64 .i64 _ _ m rfl rfl (by omega) (by omega) (by rw [kz2]; omega) (by unfold maxLen; omega) (Nat.le_refl _) ?_)
          intro w5 hown5 hgrow5
          have hown6 : w5.ownsRow W.heap.size 5 1 (.slice (some ⟨W.heap.size, 0, none⟩) m m) m ((bhalf bs 0).map (Value.int .u8)) := by
            rw [bhalf_zero, unhide HM, List.map_replicate]
            rw [toList_madeCells_one] at hown5
            exact hown5
          have hb5 : Below W.heap.size W w5 := (Below.refl _ _).grown hgrow5 (Nat.le_refl _) (fun k hk => by cases hk)
          clear hown5 hgrow5
          go_wp2_with fail
          go_loopw [7] (fun j wr => ∃ (q : Nat), q ≤ m ∧ j = .int .i64 q ∧ wr.ownsRow W.heap.size 5 1 (.slice (some ⟨W.heap.size, 0, none⟩) m m) m ((bhalf bs q).map (Value.int .u8)) ∧ Below W.heap.size W wr) (fun j _ => m - (intOf j).toNat)
          case atStart => exact ⟨0, Nat.zero_le _, rfl, hown6, hb5⟩
          case round =>
            clear hown6 hb5
            obtain ⟨q, hq, rfl, howq, hbq⟩ := hrel
            by_cases hqm : q < m
            · have hqb : q < bs.length := by have := unhide HM; omega
              rcases hrow.below hbq with h | ⟨b2, off2, had2, hc2⟩
              · exfalso; have h' := h.out; omega
              have hsrc := hc2 q hqb
              have hbhl : q < (bhalf bs q).length := by rw [bhalf_length bs q (by omega)]; exact hqb
              have hdst : wr.cell? ⟨W.heap.size, q, none⟩ = some (.int .u8 ((bhalf bs q).getD q 0)) := by
                rw [howq.cellAt q (by omega)]
                simp [hbhl]
              have hfr := howq.frozenAt q
              have R := (howq.stored q (.int .u8 (bs.getD q 0))).1
              rw [← List.map_set, bhalf_set bs q hqb] at R
              have R2 := hbq.setCell (p := ⟨W.heap.size, q, none⟩) (Nat.le_refl _) (.int .u8 (bs.getD q 0))
              have hadd : am = ⟨b2, off2, none⟩ := by simpa using had2
              have HR := hide R; have HR2 := hide R2
              clear R R2 howq hbq had2 hc2 hown hM hb hrow hcell
              subst hadd
              generalize bs.getD q 0 = x at *
              generalize (bhalf bs q).getD q 0 = y at *
              go_wp2
              go_roundw
              case rel => exact ⟨q + 1, by omega, by go_num, unhide HR, unhide HR2⟩
              case measure => simp [intOf]; omega
            · have hfull : bhalf bs q = bs := bhalf_full bs q (by have := unhide HM; omega)
              rw [hfull] at howq
              have hkl : k < (cellsOf len ys).length := by rw [cellsOf_length len ys (by have := unhide HL; omega)]; exact hlt
              have hoc : wr.cell? ⟨w.heap.size, k, none⟩ = some ((cellsOf len ys)[k]'hkl) := by
                rw [hbq.cell (p := ⟨w.heap.size, k, none⟩) hG, hown.cellAt k (by omega)]
                exact List.getElem?_eq_getElem _
              have hof : wr.frozen? ⟨w.heap.size, k, none⟩ = false := by
                rw [hbq.frozen (p := ⟨w.heap.size, k, none⟩) hG]; exact hown.frozenAt k
              have howk : wr.ownsRow w.heap.size 34 1 (.slice (some ⟨w.heap.size, 0, none⟩) len len) len (cellsOf len ys) := by
                refine hown.kept (row := none) ⟨hbq.os, hbq.tape, hbq.output, hbq.size, fun i hi' _ => hbq.block i hi'⟩ (.inr (by simp [Value.ownBlock]))
              have R := (howk.stored k (.slice (some ⟨W.heap.size, 0, none⟩) m m)).1
              have hval : (⟨some ⟨W.heap.size, 0, none⟩, m, bs⟩ : B).val = .slice (some ⟨W.heap.size, 0, none⟩) m m := by unfold B.val; rw [unhide HM]
              have hcn := cellsOf_next len ys ⟨some ⟨W.heap.size, 0, none⟩, m, bs⟩ (by have := unhide HL; omega)
              rw [unhide HY, hval] at hcn
              rw [hcn] at R
              have hrowN : RowFrom (w.heap.size + 1) (wr.setCell ⟨w.heap.size, k, none⟩ (.slice (some ⟨W.heap.size, 0, none⟩) m m)) (some ⟨W.heap.size, 0, none⟩) bs := by
                refine RowFrom.setCell ?_ (show w.heap.size < w.heap.size + 1 by omega) _
                refine .inr ⟨W.heap.size, 0, by omega, rfl, fun i hi' => ?_⟩
                rw [Nat.zero_add, howq.cellAt i (by have := unhide HM; omega)]
                simp [hi']
              have hM' := hM.snoc hyx ⟨some ⟨W.heap.size, 0, none⟩, m, bs⟩ (unhide HXK).symm hrowN ⟨Nat.le_of_eq (unhide HM), fun h => by simp at h, Nat.le_trans hbl htot⟩ (fun a bs h => (h.below hbq).setCell (show w.heap.size < w.heap.size + 1 by omega) _)
              have hb' : Below w.heap.size w (wr.setCell ⟨w.heap.size, k, none⟩ (.slice (some ⟨W.heap.size, 0, none⟩) m m)) := (hb.trans (hbq.mono (by omega))).setCell (Nat.le_refl _) _
              have HR := hide R
              generalize (cellsOf len ys)[k]'hkl = oldv at *
              clear R howk howq hbq hown hM hb hrow hcell hval hcn hrowN hfull
              go_wp2
              go_roundw
              case rel => exact ⟨k + 1, _, by omega, by go_num, by show (ys ++ [_]).length = k + 1; rw [List.length_append, unhide HY]; rfl, unhide HR, hM', hb'⟩
              case measure => simp [intOf]; omega
      · obtain rfl : k = len := by omega
        have hlx := unhide HL
        have hly := unhide HY
        have hfin : Cloned w wr xs (.returned (.slice (some ⟨w.heap.size, 0, none⟩) xs.length xs.length)) := by
          refine ⟨⟨_, ys, rfl, by omega, .inr ⟨w.heap.size, 0, rfl, fun i hi' => ?_⟩, fun i hi' => (hM.row i hi').row, hM.same, hM.good⟩, hb⟩
          rw [Nat.zero_add, hown.cellAt i (by omega)]
          unfold cellsOf
          rw [List.getElem?_append_left (by simpa using hi')]
          simp [hi']
        rw [hlx] at hfin
        clear hown hM hlx hly
        go_wp2
        go_ret
        exact hfin

end Go.Proofs.Qxb6003801a.Blk
