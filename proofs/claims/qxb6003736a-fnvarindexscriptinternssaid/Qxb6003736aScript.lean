/- The walk of FnVarIndexScriptInterns (seat b6003736a). -/
import Derived.Test.Qxb6003736aLookup
namespace Go.Proofs.Qxb6003736a.Strs
open Go.RowKit
set_option linter.unusedVariables false

theorem Try.info3 : (Try.prog.info? 3).map (fun i => (i.zero, i.size, i.bytes)) = some (some (.int .i64 0), 1, 8) := by kernel_rfl

/-- The indices, filled as far as k. -/
def ihalf (ss : List ByteArray) (k : Nat) : List Value := (ss.take k).map (fun s => Value.int .i64 (Lib.idxOfS (Plain.uniq ss) s)) ++ List.replicate (ss.length - k) (.int .i64 0)
theorem ihalf_zero (ss : List ByteArray) : ihalf ss 0 = List.replicate ss.length (.int .i64 0) := by simp [ihalf]
theorem ihalf_length (ss : List ByteArray) (k : Nat) (h : k ≤ ss.length) : (ihalf ss k).length = ss.length := by simp [ihalf]; omega
theorem ihalf_set (ss : List ByteArray) (k : Nat) (h : k < ss.length) (j : Int) (hj : Lib.idxOfS (Plain.uniq ss) ss[k] = j) : (ihalf ss k).set k (.int .i64 j) = ihalf ss (k + 1) := by
  unfold ihalf
  have e1 : ((ss.take k).map (fun s => Value.int .i64 (Lib.idxOfS (Plain.uniq ss) s))).length = k := by simp; omega
  rw [List.set_append_right _ _ (by omega), e1, Nat.sub_self, show ss.length - k = (ss.length - (k + 1)) + 1 by omega, List.replicate_succ, List.set_cons_zero,
    List.take_succ_eq_append_getElem h, List.map_append]
  simp [hj]
theorem ihalf_full (ss : List ByteArray) (k : Nat) (h : k < ss.length) : (ihalf ss ss.length)[k]? = some (.int .i64 (Lib.idxOfS (Plain.uniq ss) ss[k])) := by
  simp [ihalf, h]

/-- U k: the distinct strings of the first k. -/
theorem uniq_hit (ss : List ByteArray) (k : Nat) (h : k < ss.length) (hm : ss[k] ∈ Plain.uniq (ss.take k)) : Plain.uniq (ss.take (k + 1)) = Plain.uniq (ss.take k) ∧ Lib.idxOfS (Plain.uniq ss) ss[k] = Lib.idxOfS (Plain.uniq (ss.take k)) ss[k] := by
  refine ⟨by rw [Plain.uniq_take ss k h, Plain.step_hit hm], ?_⟩
  obtain ⟨m, e⟩ := Plain.uniq_prefix ss k
  rw [e]
  exact Plain.idx_append _ _ _ hm
theorem uniq_miss (ss : List ByteArray) (k : Nat) (h : k < ss.length) (hm : ss[k] ∉ Plain.uniq (ss.take k)) : Plain.uniq (ss.take (k + 1)) = Plain.uniq (ss.take k) ++ [ss[k]] ∧ Lib.idxOfS (Plain.uniq ss) ss[k] = ((Plain.uniq (ss.take k)).length : Int) := by
  have e1 : Plain.uniq (ss.take (k + 1)) = Plain.uniq (ss.take k) ++ [ss[k]] := by rw [Plain.uniq_take ss k h, Plain.step_miss hm]
  refine ⟨e1, ?_⟩
  obtain ⟨m, e⟩ := Plain.uniq_prefix ss (k + 1)
  rw [e, Plain.idx_append _ _ _ (by rw [e1]; simp), e1]
  exact Plain.idx_snoc _ _ hm
theorem uniq_len (ss : List ByteArray) (k : Nat) : (Plain.uniq (ss.take k)).length ≤ k := by
  have := Plain.length_uniq (ss.take k)
  simp at this
  omega

/-- Is it among them? -/
def memB (l : List ByteArray) (s : ByteArray) : Bool := decide (0 ≤ Lib.idxOfS l s)
theorem memB_iff (l : List ByteArray) (s : ByteArray) : memB l s = true ↔ s ∈ l := by rw [memB, decide_eq_true_eq, Lib.idxOfS_nonneg_iff]
theorem memB_nil (s : ByteArray) : memB [] s = false := rfl
theorem memB_succ (l : List ByteArray) (s : ByteArray) (q : Nat) (h : q < l.length) : memB (l.take (q + 1)) s = (memB (l.take q) s || l[q].toList == s.toList) := by
  rw [Bool.eq_iff_iff, Bool.or_eq_true, memB_iff, memB_iff, Lib.bytes_beq_iff, List.take_succ_eq_append_getElem h, List.mem_append, List.mem_singleton]
  exact or_congr Iff.rfl eq_comm
theorem memB_true {l : List ByteArray} {s : ByteArray} (h : s ∈ l) : memB l s = true := (memB_iff l s).2 h
theorem memB_false {l : List ByteArray} {s : ByteArray} (h : s ∉ l) : memB l s = false := by
  rw [← Bool.not_eq_true, memB_iff]; exact h

/-- Loop 1's state behind k rounds. -/
structure R1 (w1 wr : World) (ss : List ByteArray) (len k : Nat) : Prop where
  box : ∃ a ln cap, wr.heap[w1.heap.size]? = some (.cells #[.slice a ln cap] 35 (0, 0)) ∧ (Plain.uniq (ss.take k)).length = ln ∧ Own wr (w1.heap.size + 2) (.slice a ln cap) (Plain.uniq (ss.take k))
  idx : wr.ownsRow (w1.heap.size + 1) 3 1 (.slice (some ⟨w1.heap.size + 1, 0, none⟩) len len) len (ihalf ss k)
  below : Below w1.heap.size w1 wr
  size : w1.heap.size + 2 ≤ wr.heap.size

theorem R1.hit {w1 wr : World} {ss : List ByteArray} {len k : Nat} (h : R1 w1 wr ss len k) (hl : ss.length = len) (hk : k < ss.length) (hm : ss[k] ∈ Plain.uniq (ss.take k)) (j : Int) (hj : Lib.idxOfS (Plain.uniq (ss.take k)) ss[k] = j) (n : Nat) :
    R1 w1 ((wr.drewN n).setCell ⟨w1.heap.size + 1, k, none⟩ (.int .i64 j)) ss len (k + 1) := by
  obtain ⟨e1, e2⟩ := uniq_hit ss k hk hm
  obtain ⟨a, ln, cap, hB, hln, hown⟩ := h.box
  refine ⟨⟨a, ln, cap, ?_, by rw [e1]; exact hln, ?_⟩, ?_, ?_, ?_⟩
  · rw [Below.heap_setCell _ _ _ _ (by simp)]; exact hB
  · rw [e1]; exact ownsRow_setCell_below (w := wr.drewN n) hown (by simp) _
  · rw [← ihalf_set ss k hk j (by rw [e2, hj])]
    exact (World.ownsRow.stored (w := wr.drewN n) h.idx k _).1
  · exact (below_drewN h.below n).setCell (by simp) _
  · have := h.size; simp [World.setCell]; omega

theorem R1.miss {w1 wr w' : World} {ss : List ByteArray} {len k : Nat} (h : R1 w1 wr ss len k) (hl : ss.length = len) (hk : k < ss.length) (hm : ss[k] ∉ Plain.uniq (ss.take k)) (v : Value) (hv : ∀ g, v.ownBlock = some g → w1.heap.size + 2 ≤ g)
    (hM : Missed wr w' (w1.heap.size + 2) w1.heap.size v (Plain.uniq (ss.take k)) ss[k]) (j : Int) (hj : ((Plain.uniq (ss.take k)).length : Int) = j) (n : Nat) :
    R1 w1 ((w'.drewN n).setCell ⟨w1.heap.size + 1, k, none⟩ (.int .i64 j)) ss len (k + 1) := by
  obtain ⟨e1, e2⟩ := uniq_miss ss k hk hm
  obtain ⟨v', hB, hown, _⟩ := hM.box
  obtain ⟨a, cap, rfl⟩ := hown.form' rfl
  have hsz := h.size
  have hsz' := hM.kept.size
  have hidx : w'.ownsRow (w1.heap.size + 1) 3 1 (.slice (some ⟨w1.heap.size + 1, 0, none⟩) len len) len (ihalf ss k) := by
    refine World.ownsRow.kept (row := some w1.heap.size) h.idx ⟨rfl, rfl, rfl, Nat.le_refl _, fun _ _ _ => rfl⟩ (by simp [Value.ownBlock]) |> fun h' => ?_
    obtain ⟨q1, q2⟩ := h'
    refine ⟨q1, ?_⟩
    rcases q2 with q2 | ⟨g, c, cur, q3, q4, q5, r⟩
    · exact .inl q2
    · refine .inr ⟨g, c, cur, q3, q4, ?_, r⟩
      have hg : g = w1.heap.size + 1 := by simp at q3; omega
      subst hg
      rw [hM.kept.block _ (by omega) (by omega) (fun e => by have := hv _ e.symm; omega)]
      exact q5
  refine ⟨⟨a, (Plain.uniq (ss.take k) ++ [ss[k]]).length, cap, ?_, ?_, ?_⟩, ?_, ?_, ?_⟩
  · rw [Below.heap_setCell _ _ _ _ (by simp)]; exact hB
  · rw [e1]
  · rw [e1]; exact ownsRow_setCell_below (w := w'.drewN n) hown (by simp) _
  · rw [← ihalf_set ss k hk j (by rw [e2, hj])]
    exact (World.ownsRow.stored (w := w'.drewN n) hidx k _).1
  · exact (below_drewN (h.below.trans (Below.of_kept hM.kept (Nat.le_refl _) (by omega) (fun g hg => by have := hv g hg; omega))) n).setCell (by simp) _
  · simp [World.setCell]; omega

set_option maxHeartbeats 1000000 in
theorem walk4 (a0 : Option Addr) (len cap : Nat) (ss : List ByteArray) (w : World) (hl : ss.length = len) (hlen : len ≤ maxLen) (hr : SRow w a0 ss) :
    Calls Try.prog 4 #[.slice a0 len cap] w fun e w' => e = .returned (.bool true) ∧ Below w.heap.size w w' := by
  obtain ⟨i3, hi, hz0, hz1, hz2⟩ := info_parts Try.info3
  go_enter Try.func4, Try.ntmps4
  go_wp2_with fail
  refine (bytes15 a0 len cap ss _ hl hlen hr).mono ?_
  rintro e w' ⟨⟨r, rfl⟩, hw⟩
  obtain rfl := hw.symm
  cases r
  · go_wp2
    go_ret
    exact ⟨rfl, Below.refl _ _⟩
  by_cases hlong : 4096 < len
  · go_wp2
    go_ret
    exact ⟨rfl, Below.refl _ _⟩
  go_wp2_with fail
  refine (bytes16 a0 len cap ss _ hl hlen hr).mono ?_
  rintro e w' ⟨⟨n, rfl⟩, hw⟩
  obtain rfl := hw.symm
  go_wp2_with fail
  · go_ret
    exact ⟨rfl, Below.refl _ _⟩
  refine (clone17 a0 len cap ss _ hl (by omega) hr).mono ?_
  rintro e w1 ⟨v, rfl, hown1, hb1⟩
  obtain ⟨a1, cap1, rfl⟩ := hown1.form' hl
  have hr1 := hown1.srow
  have HL := hide hl
  clear hl hown1 hr
  go_wp2_with (at_make; refine wpList_make_full _ rfl _ _ 22 rfl (w1.heap.size + 1) 3 i3 (.int .i64 0) 1 Try.underlying22 hi hz0 hz1 .i64 .i64 _ _ len rfl rfl (by omega) (by omega) (by rw [hz2]; omega) (by unfold maxLen; omega) (by simp) ?_)
  intro w2 hidx hgrow
  have hR0 : R1 w1 w2 ss len 0 := by
    have hz := hgrow.size
    simp at hz
    have hB : w2.heap[w1.heap.size]? = some (.cells #[.slice none 0 0] 35 (0, 0)) := by
      rw [hgrow.block _ (by simp) (by simp)]
      exact heap_alloc_new w1 _
    refine ⟨⟨none, 0, 0, hB, rfl, World.ownsRow_nil _ _ _ _⟩, ?_, ?_, ?_⟩
    · rw [ihalf_zero, unhide HL, ← toList_madeCells_one]
      exact hidx
    · exact ((Below.refl _ _).alloc (Nat.le_refl _) _).grown hgrow (by simp) (fun k hk => by cases hk)
    · have := World.ownsRow.lt hidx (w1.heap.size + 1) (by simp [Value.ownBlock]); omega
  clear hidx hgrow
  go_wp2_with fail
  go_loopw [5] (fun i wr => ∃ k : Nat, k ≤ len ∧ i = .int .i64 k ∧ R1 w1 wr ss len k) (fun i _ => len - (intOf i).toNat)
  case atStart => exact ⟨0, Nat.zero_le _, rfl, hR0⟩
  case round =>
    obtain ⟨k, hk, rfl, hR⟩ := hrel
    clear hR0
    by_cases hlt : k < len
    · have hkl : k < ss.length := by have := unhide HL; omega
      rcases hr1.below hR.below with h | ⟨bs, offs, hads, hcs⟩
      · exfalso; have h' := h.out; omega
      obtain ⟨a3, ln, cap3, hB, hln, hown⟩ := hR.box
      have hul := uniq_len ss k
      have hcS : wr.cell? ⟨bs, offs + k, none⟩ = some (.string ss[k]) := by rw [hcs k hkl]; simp [hkl]
      have hidxc : wr.cell? ⟨w1.heap.size + 1, k, none⟩ = some ((ihalf ss k)[k]'(by rw [ihalf_length] <;> omega)) := by
        rw [hR.idx.cellAt k (by omega)]; exact List.getElem?_eq_getElem _
      have hidxf : wr.frozen? ⟨w1.heap.size + 1, k, none⟩ = false := hR.idx.frozenAt k
      have hcB := cell_of_one hB
      subst hads
      by_cases hm : ss[k] ∈ Plain.uniq (ss.take k)
      · obtain ⟨j, hj0, hj1, hj2⟩ := Plain.idx_get _ _ hm
        have HR := fun n => hide (hR.hit (unhide HL) hkl hm j hj1 n)
        have hnc : wr.cell? ⟨bs, offs + k, none⟩ = some (.string ss[k]) := hcS
        rcases hown.srow with h | ⟨b', off', had', hc'⟩
        · exfalso; have h' := h.out; omega
        have hcN : wr.cell? ⟨b', off' + j, none⟩ = some (.string ss[k]) := by rw [hc' j hj0, hj2]
        subst had'
        have C := var18_hit _ ln cap3 _ ss[k] _ _ hln (by omega) hown.srow hB hm
        rw [hj1] at C
        have HC := hide C
        have hjl : j < ln := by omega
        clear hj1 hj2 hc' hcs hown hB hR C hm hul hln
        generalize (ihalf ss k)[k]'_ = old at *
        generalize ss[k] = s at *
        go_wp2_with fail
        refine (unhide HC).mono ?_
        rintro e w' ⟨rfl, hw⟩
        obtain rfl := hw.symm
        go_wp2_with fail
        go_quiet (fail)
        go_wp2
        go_roundw
        case rel => exact ⟨k + 1, by omega, by go_num, unhide (HR _)⟩
        case measure => simp [intOf]; omega
      · have hne : ∀ g, (Value.slice a3 ln cap3).ownBlock = some g → w1.heap.size + 2 ≤ g := fun g hg => (hown.lt g hg).1
        have C := var18_miss _ ln cap3 _ ss[k] (w1.heap.size + 2) _ _ hln (by omega) hown.srow hown hR.size (by omega) hB hm
        have HC := hide C
        have hbS : bs < w1.heap.size := by
          rcases hr1 with h | ⟨b2, off2, had2, hc2⟩
          · exfalso; have h' := h.out; omega
          · have := World.block_lt_of_cell? w1 _ (hc2 k hkl)
            simp at had2
            rw [had2.1]
            exact this
        have hsz := hR.size
        clear hcs C
        go_wp2_with fail
        refine (unhide HC).mono ?_
        rintro e w' ⟨rfl, hM⟩
        have HR := fun n => hide (hR.miss (unhide HL) hkl hm _ hne hM ln (by rw [hln]) n)
        have kI : w'.heap[w1.heap.size + 1]? = wr.heap[w1.heap.size + 1]? := hM.kept.block (w1.heap.size + 1) (by omega) (by omega) (fun e => by have := hne _ e.symm; omega)
        have kS : w'.heap[bs]? = wr.heap[bs]? := hM.kept.block bs (by omega) (by omega) (fun e => by have := hne _ e.symm; omega)
        have hcS' : w'.cell? ⟨bs, offs + k, none⟩ = some (.string ss[k]) := by
          rw [World.cell?_of_block (a := ⟨bs, offs + k, none⟩) kS]
          exact hcS
        have hidxc' : w'.cell? ⟨w1.heap.size + 1, k, none⟩ = some ((ihalf ss k)[k]'(by rw [ihalf_length] <;> omega)) := by
          rw [World.cell?_of_block (a := ⟨w1.heap.size + 1, k, none⟩) kI]
          exact hidxc
        have hidxf' : w'.frozen? ⟨w1.heap.size + 1, k, none⟩ = false := by
          rw [World.frozen?_of_block (a := ⟨w1.heap.size + 1, k, none⟩) kI]
          exact hidxf
        obtain ⟨⟨v', hB', hown', _⟩, _⟩ := hM
        obtain ⟨L, hL1, hL2, hL3⟩ : ∃ L, L = ln + 1 ∧ ln < L ∧ L ≤ 4097 := ⟨ln + 1, rfl, by omega, by omega⟩
        obtain ⟨a4, cap4, rfl⟩ := hown'.form' (len := L) (by simp [hln, hL1])
        have hcB' := cell_of_one hB'
        rcases hown'.srow with h | ⟨b', off', had', hc'⟩
        · exfalso; have h' := h.out; simp at h'
        have hcN : w'.cell? ⟨b', off' + ln, none⟩ = some (.string ss[k]) := by
          rw [hc' ln (by simp [hln])]
          simp [← hln]
        subst had'
        clear hc' hown' hown hB hB' hR hm hul hln hcB hcS hidxc hidxf HC hne kI kS hL1
        generalize (ihalf ss k)[k]'_ = old at *
        generalize ss[k] = s at *
        go_wp2_with fail
        go_quiet (fail)
        go_wp2
        go_roundw
        case rel => exact ⟨k + 1, by omega, by go_num, unhide (HR _)⟩
        case measure => simp [intOf]; omega
    · obtain rfl : k = len := by omega
      have hl := unhide HL
      obtain ⟨a3, ln, cap3, hB, hln, hown⟩ := hR.box
      rw [show ss.take k = ss by rw [← hl]; exact List.take_length] at hln hown
      have hidx : ∀ i, (h : i < ss.length) → wr.cell? ⟨w1.heap.size + 1, i, none⟩ = some (.int .i64 (Lib.idxOfS (Plain.uniq ss) ss[i])) := fun i h => by
        rw [hR.idx.cellAt i (by omega), ← hl, ihalf_full ss i h]
      have hrS := hr1.below hR.below
      have hbw : Below w.heap.size w wr := hb1.trans (hR.below.mono hb1.size)
      have hw1 := hR.size
      have hlt1 : w1.heap.size + 1 < wr.heap.size := by omega
      have hwz : w.heap.size ≤ wr.heap.size := by have := hb1.size; omega
      have HI := hide hidx
      clear hR hidx hlt hk hi hz0 hz1 hz2 i3 hr1 hb1
      obtain ⟨i9, hi, hz0, hz1, hz2⟩ := info_parts Try.info9
      clear hl
      generalize wr = W2 at *
      go_wp2_with fail
      go_loopw [7, 8] (fun v i wq => ∃ q : Nat, q ≤ k ∧ i = .int .i64 q ∧ Own wq W2.heap.size v (Plain.uniq (ss.take q)) ∧ Below W2.heap.size W2 wq) (fun _ i _ => k - (intOf i).toNat)
      case atStart => exact ⟨0, Nat.zero_le _, rfl, World.ownsRow_nil _ _ _ _, Below.refl _ _⟩
      case round =>
        obtain ⟨q, hq, rfl, hmod, hbq⟩ := hrel
        generalize wr = W3 at *
        by_cases hqk : q < k
        · have hql : q < ss.length := by have := unhide HL; omega
          rcases hrS.below hbq with h | ⟨bs, offs, hads, hcs⟩
          · exfalso; have h' := h.out; omega
          have hcS : W3.cell? ⟨bs, offs + q, none⟩ = some (.string ss[q]) := by rw [hcs q hql]; simp [hql]
          have hul := uniq_len ss q
          subst hads
          obtain ⟨lm, hlm⟩ : ∃ lm, (Plain.uniq (ss.take q)).length = lm := ⟨_, rfl⟩
          have hlq : lm ≤ q := by omega
          obtain ⟨am, capm, rfl⟩ := hmod.form' hlm
          have hmR := hmod.srow
          have hstep : (memB (Plain.uniq (ss.take q)) ss[q] = true ∧ Plain.uniq (ss.take (q + 1)) = Plain.uniq (ss.take q)) ∨ (memB (Plain.uniq (ss.take q)) ss[q] = false ∧ Plain.uniq (ss.take (q + 1)) = Plain.uniq (ss.take q) ++ [ss[q]]) := by
            by_cases hm : ss[q] ∈ Plain.uniq (ss.take q)
            · exact .inl ⟨memB_true hm, (uniq_hit ss q hql hm).1⟩
            · exact .inr ⟨memB_false hm, (uniq_miss ss q hql hm).1⟩
          clear hcs
          generalize hU' : Plain.uniq (ss.take (q + 1)) = U' at *
          generalize hU : Plain.uniq (ss.take q) = U at *
          generalize hS : ss[q] = s at *
          have HLM := hide hlm
          have HST := hide hstep
          have HU' := hide hU'
          have HMOD := hide hmod
          clear hstep hlm hU hS hU' hmod hul
          go_wp2_with fail
          go_loopw [9, 10] (fun sn m wz => ∃ j n : Nat, j ≤ lm ∧ m = .int .i64 j ∧ sn = .bool (memB (U.take j) s) ∧ wz = W3.drewN n) (fun _ m _ => lm - (intOf m).toNat)
          case atStart => exact ⟨0, 0, Nat.zero_le _, rfl, by rw [List.take_zero, memB_nil], rfl⟩
          case round =>
            obtain ⟨j, n, hj, rfl, rfl, rfl⟩ := hrel
            by_cases hjl : j < lm
            · have hju : j < U.length := by have := unhide HLM; omega
              rcases hmR with h | ⟨bm, offm, hadm, hcm⟩
              · exfalso; have h' := h.out; omega
              have hcM : W3.cell? ⟨bm, offm + j, none⟩ = some (.string U[j]) := by rw [hcm j hju]; simp [hju]
              have HMS := hide (memB_succ U s j hju)
              clear hcm
              subst hadm
              generalize U[j] = t at *
              go_wp2
              go_quiet (fail)
              go_wp2
              · have ht : (t.toList == s.toList) = true := by assumption
                go_roundw
                case rel => exact ⟨j + 1, _, by omega, by go_num, by rw [unhide HMS, ht, Bool.or_true], rfl⟩
                case measure => simp [intOf]; omega
              · have ht : (t.toList == s.toList) = false := by assumption
                go_roundw
                case rel => exact ⟨j + 1, _, by omega, by go_num, by rw [unhide HMS, ht, Bool.or_false], rfl⟩
                case measure => simp [intOf]; omega
            · have ht : U.take j = U := List.take_of_length_le (by have := unhide HLM; omega)
              rw [ht]
              have hown9 : (W3.drewN n).ownsRow W2.heap.size 9 1 (.slice am lm capm) lm (U.map Value.string) := by
                have := unhide HMOD
                unfold Own at this
                rw [unhide HLM] at this
                exact this
              have hz3 := hbq.size
              rcases unhide HST with ⟨hm1, hm2⟩ | ⟨hm1, hm2⟩
              · have HM2 := hide hm2
                clear hm2 hown9
                rw [hm1]
                go_wp2
                go_roundw
                case rel =>
                  refine ⟨q + 1, by omega, by go_num, ?_, below_drewN hbq n⟩
                  rw [unhide HU', unhide HM2]
                  exact unhide HMOD
                case measure => simp [intOf]; omega
              · have HM2 := hide hm2
                clear hm2
                rw [hm1]
                go_wp2_with (at_builtin; refine wpList_append_own2 _ rfl _ _ 35 rfl W2.heap.size 9 i9 (.string ByteArray.empty) 1 16 Try.underlying35 hi hz0 hz1 hz2 rfl (by decide) _ _ _ rfl (hown9.alloc _) ⟨W3.heap.size, 0, none⟩ 1 1 [.string s] rfl rfl (cell_one_new (W3.drewN n) _ _) ?c2 (by unfold maxLen; omega) (by omega) (by simp; omega) ?_)
                case c2 => intro u hu; simp at hu; subst hu; rfl
                intro v' w9 hownA hgrowA _
                have hbA : Below W2.heap.size W2 w9 := ((below_drewN hbq n).alloc (by simpa using hz3) _).grown hgrowA (by simp; omega) (fun g hg => (hown9.lt g hg).1)
                clear hgrowA hown9
                go_wp2
                go_roundw
                case rel =>
                  refine ⟨q + 1, by omega, by go_num, ?_, hbA⟩
                  rw [unhide HU', unhide HM2]
                  unfold Own
                  rw [List.map_append, List.length_append, unhide HLM]
                  exact hownA
                case measure => simp [intOf]; omega
        · obtain rfl : q = k := by omega
          have hl := unhide HL
          rw [show ss.take q = ss by rw [← hl]; exact List.take_length] at hmod
          obtain ⟨am, capm, rfl⟩ := hmod.form' hln
          have hownN : Own W3 (w1.heap.size + 2) (.slice a3 ln cap3) (Plain.uniq ss) := hown.below hbq
          have hB3 : W3.heap[w1.heap.size]? = some (.cells #[.slice a3 ln cap3] 35 (0, 0)) := by rw [hbq.block _ (by omega)]; exact hB
          have hcB3 := cell_of_one hB3
          have hidx : ∀ i, (h : i < ss.length) → W3.cell? ⟨w1.heap.size + 1, i, none⟩ = some (.int .i64 (Lib.idxOfS (Plain.uniq ss) ss[i])) := fun i h => by
            rw [hbq.cell (p := ⟨w1.heap.size + 1, i, none⟩) hlt1]
            exact unhide HI i h
          have hrT := hrS.below hbq
          have hbe : Below w.heap.size w W3 := hbw.trans (hbq.mono hwz)
          have hlnm : ln ≤ maxLen := by
            have := Plain.length_uniq ss
            omega
          have C := same19 am ln capm (Plain.uniq ss) a3 cap3 W3 hln hlnm hmod.srow hownN.srow
          have HC := hide C
          have HX := hide hidx
          clear C hidx hmod hownN hown hB hB3 hrS hbq hbw hi hz0 hz1 hz2 HI hln hqk hl
          go_wp2_with fail
          refine (unhide HC).mono ?_
          rintro e w8 ⟨rfl, n8, rfl⟩
          clear HC hcB3
          go_wp2_with fail
          go_loopw [11] (fun i wz => ∃ a n : Nat, a ≤ q ∧ i = .int .i64 a ∧ wz = W3.drewN n) (fun i _ => q - (intOf i).toNat)
          case atStart => exact ⟨0, _, Nat.zero_le _, rfl, rfl⟩
          case round =>
            obtain ⟨a, n, ha, rfl, rfl⟩ := hrel
            by_cases haq : a < q
            · go_wp2_with fail
              go_loopw [12] (fun i wz => ∃ b n' : Nat, b ≤ q ∧ i = .int .i64 b ∧ wz = W3.drewN n') (fun i _ => q - (intOf i).toNat)
              case atStart => exact ⟨0, _, Nat.zero_le _, rfl, rfl⟩
              case round =>
                obtain ⟨b, n', hb, rfl, rfl⟩ := hrel
                by_cases hbq : b < q
                · have hal : a < ss.length := by have := unhide HL; omega
                  have hbl : b < ss.length := by have := unhide HL; omega
                  rcases hrT with h | ⟨bs, offs, hads, hcs⟩
                  · exfalso; have h' := h.out; omega
                  have c1 : W3.cell? ⟨bs, offs + a, none⟩ = some (.string ss[a]) := by rw [hcs a hal]; simp [hal]
                  have c2 : W3.cell? ⟨bs, offs + b, none⟩ = some (.string ss[b]) := by rw [hcs b hbl]; simp [hbl]
                  have c3 := unhide HX a hal
                  have c4 := unhide HX b hbl
                  have hinj := Plain.idx_inj ss[a] ss[b] (Plain.uniq ss) ((Plain.mem_uniq ss _).2 (List.getElem_mem _)) ((Plain.mem_uniq ss _).2 (List.getElem_mem _))
                  have hcmp : ((Lib.idxOfS (Plain.uniq ss) ss[a] == Lib.idxOfS (Plain.uniq ss) ss[b]) = true ∧ (ss[a].toList == ss[b].toList) = true) ∨ ((Lib.idxOfS (Plain.uniq ss) ss[a] == Lib.idxOfS (Plain.uniq ss) ss[b]) = false ∧ (ss[a].toList == ss[b].toList) = false) := by
                    by_cases hab : ss[a] = ss[b]
                    · exact .inl ⟨by rw [beq_iff_eq]; exact hinj.2 hab, (Lib.bytes_beq_iff _ _).2 hab⟩
                    · exact .inr ⟨by rw [beq_eq_false_iff_ne]; exact fun e => hab (hinj.1 e), (Lib.bytes_beq_false_iff _ _).2 hab⟩
                  clear hinj hcs
                  subst hads
                  generalize Lib.idxOfS (Plain.uniq ss) ss[a] = x at *
                  generalize Lib.idxOfS (Plain.uniq ss) ss[b] = y at *
                  generalize ss[a] = s at *
                  generalize ss[b] = t at *
                  rcases hcmp with ⟨g1, g2⟩ | ⟨g1, g2⟩
                  all_goals
                    go_wp2
                    go_quiet (fail)
                    go_wp2
                    go_roundw
                    case rel => exact ⟨b + 1, _, by omega, by go_num, rfl⟩
                    case measure => simp [intOf]; omega
                · go_wp2
                  go_roundw
                  case rel => exact ⟨a + 1, _, by omega, by go_num, rfl⟩
                  case measure => simp [intOf]; omega
            · go_wp2
              go_ret
              exact ⟨rfl, below_drewN hbe _⟩

end Go.Proofs.Qxb6003736a.Strs
