/- diag.List.Merge (seat b6003736a). -/
import Derived.Test.Qxb6003736aMrg
namespace Go.Proofs.Qxb6003736a.Diag
open Go.RowKit
set_option linter.unusedVariables false

/-- What Merge leaves of the rest. -/
structure Kept3 (w w' : World) (p : Nat) (own : Option Nat) (B : Nat) : Prop where
  os : w'.os = w.os
  tape : w'.tape = w.tape
  output : w'.output = w.output
  size : w.heap.size ≤ w'.heap.size
  block : ∀ k, k < w.heap.size → k ≠ p → some k ≠ own → k ≠ B → w'.heap[k]? = w.heap[k]?

def MergePost (w w' : World) (p : Nat) (v : Value) (cnt : Int) (B : Nat) (ds O : List D) : Prop :=
  ∃ S v', S.Perm O ∧ Sorted S ∧ LS w' p v' (cnt + (cpt S).length) ∧ SL w' v' ((cpt S).foldl add1 ds) ∧ Kept3 w w' p v.ownBlock B ∧ (∀ g, v'.ownBlock = some g → v.ownBlock = some g ∨ w.heap.size ≤ g)

theorem cmpt_up : ∀ (r : List D) (p : D), Sorted (p :: r) → (∀ y ∈ cmpt p r, p.fl < y.fl ∧ y ∈ r) ∧ Up (cmpt p r)
  | [], p, _ => ⟨fun y hy => by simp [cmpt] at hy, List.Pairwise.nil⟩
  | y :: r, p, h => by
    obtain ⟨h1, h2⟩ := List.pairwise_cons.1 h
    obtain ⟨i1, i2⟩ := cmpt_up r y h2
    have hpy := h1 y (by simp)
    rw [cmpt]
    by_cases he : y.fl = p.fl
    · rw [if_pos he]
      exact ⟨fun z hz => ⟨by have := (i1 z hz).1; omega, by simp [(i1 z hz).2]⟩, i2⟩
    · rw [if_neg he]
      have hlt : p.fl < y.fl := by unfold Lt at hpy; omega
      refine ⟨fun z hz => ?_, List.pairwise_cons.2 ⟨fun z hz => (i1 z hz).1, i2⟩⟩
      rcases List.mem_cons.1 hz with rfl | hz
      · exact ⟨hlt, by simp⟩
      · exact ⟨by have := (i1 z hz).1; omega, by simp [(i1 z hz).2]⟩
theorem cpt_up (S : List D) (h : Sorted S) : (∀ y ∈ cpt S, y ∈ S) ∧ Up (cpt S) := by
  cases S with
  | nil => exact ⟨fun y hy => hy, List.Pairwise.nil⟩
  | cons x r =>
    obtain ⟨h1, h2⟩ := cmpt_up r x h
    refine ⟨fun y hy => ?_, List.pairwise_cons.2 ⟨fun y hy => (h1 y hy).1, h2⟩⟩
    rcases List.mem_cons.1 hy with rfl | hy
    · simp
    · simp [(h1 y hy).2]
theorem cpt_len (S : List D) : (cpt S).length ≤ S.length := by
  have h : ∀ (r : List D) (p : D), (cmpt p r).length ≤ r.length := fun r => by
    induction r with
    | nil => intro p; simp [cmpt]
    | cons y r ih =>
      intro p
      rw [cmpt]
      split
      · have := ih y; simp; omega
      · have := ih y; simp; omega
  cases S with
  | nil => simp [cpt]
  | cons x r => have := h r x; simp [cpt]; omega

/-- Merge's loop, behind k elements. -/
def MInv (w wr : World) (p : Nat) (v : Value) (cnt : Int) (B : Nat) (ds ys J : List D) (k : Nat) : Prop :=
  ∃ v', LS wr p v' (cnt + k) ∧ SL wr v' ((ys.take k).foldl add1 ds) ∧ Rw wr B (ys ++ J) ∧ Kept3 w wr p v.ownBlock B ∧ (∀ g, v'.ownBlock = some g → v.ownBlock = some g ∨ w.heap.size ≤ g)

/-- The list so far. -/
theorem so_far (ds ys : List D) (k : Nat) (hu : Up ds) (hy : Up ys) (hl : ds.length ≤ 50) (hne : ∀ x ∈ ds, ∀ o ∈ ys, x.fl ≠ o.fl) :
    Up ((ys.take k).foldl add1 ds) ∧ ((ys.take k).foldl add1 ds).length ≤ 50 ∧ ∀ x ∈ (ys.take k).foldl add1 ds, x ∈ ds ∨ x ∈ ys.take k := by
  induction k with
  | zero => exact ⟨hu, hl, fun x hx => .inl hx⟩
  | succ k ih =>
    rcases Nat.lt_or_ge k ys.length with hk | hk
    · obtain ⟨i1, i2, i3⟩ := ih
      rw [List.take_succ_eq_append_getElem hk, List.foldl_append]
      refine ⟨add1_up _ _ i1 (fun x hx => ?_), add1_len _ _, fun x hx => ?_⟩
      · rcases i3 x hx with h | h
        · exact hne x h _ (List.getElem_mem hk)
        · obtain ⟨j, hj, rfl⟩ := List.getElem_of_mem h
          have hj' : j < k := by simp at hj; omega
          rw [List.getElem_take]
          have := (List.pairwise_iff_getElem.1 hy) j k (by omega) hk hj'
          omega
      · rcases add1_mem hx with h | h
        · rcases i3 x h with h | h
          · exact .inl h
          · exact .inr (List.mem_append_left _ h)
        · exact .inr (List.mem_append_right _ (by rw [h]; exact List.mem_singleton.2 rfl))
    · rw [List.take_of_length_le (by omega)]
      rw [List.take_of_length_le hk] at ih
      exact ih

/-- One round. -/
theorem minv_step {w wr W w' : World} {p B k : Nat} {v v' : Value} {cnt : Int} {ds ys J : List D} {y : D} (hpl : p < w.heap.size) (hbl : B < w.heap.size) (hP : v.ownBlock ≠ some p) (hBP : B ≠ p) (hBV : v.ownBlock ≠ some B)
    (hW : wr.grownBy W none) (hk : k < ys.length) (hy : ys[k] = y) (hR : Rw wr B (ys ++ J)) (hK : Kept3 w wr p v.ownBlock B) (hF : ∀ g, v'.ownBlock = some g → v.ownBlock = some g ∨ w.heap.size ≤ g)
    (hA : AddPost W w' p v' (cnt + k) (add1 ((ys.take k).foldl add1 ds) y)) : MInv w w' p v cnt B ds ys J (k + 1) := by
  obtain ⟨v2, a1, a2, a3, a4⟩ := hA
  have hsz : w.heap.size ≤ W.heap.size := Nat.le_trans hK.size hW.size
  refine ⟨v2, ?_, ?_, ?_, ⟨a3.os.trans (hW.os.trans hK.os), a3.tape.trans (hW.tape.trans hK.tape), a3.output.trans (hW.output.trans hK.output), Nat.le_trans hsz a3.size, fun q hq hqp hqv hqB => ?_⟩, fun g hg => ?_⟩
  · have : cnt + (k : Int) + 1 = cnt + ((k + 1 : Nat) : Int) := by omega
    rw [← this]; exact a1
  · rw [List.take_succ_eq_append_getElem hk, List.foldl_append, hy]; exact a2
  · refine (hR.grown hW).same (a3.block B (Nat.lt_of_lt_of_le hbl hsz) hBP (fun h => ?_))
    rcases hF B h.symm with h | h
    · exact hBV h
    · omega
  · refine (a3.block q (Nat.lt_of_lt_of_le hq hsz) hqp (fun h => ?_)).trans ((hW.block q (Nat.lt_of_lt_of_le hq hK.size) (by simp)).trans (hK.block q hq hqp hqv hqB))
    rcases hF q h.symm with h | h
    · exact hqv h.symm
    · omega
  · rcases a4 g hg with h | h
    · exact hF g h
    · exact .inr (by omega)

set_option maxRecDepth 100000 in
set_option maxHeartbeats 4000000 in
theorem merge12 (p : Nat) (v : Value) (cnt : Int) (ds O : List D) (B n : Nat) (w : World) (hL : LS w p v cnt) (hs : SL w v ds) (hlen : ds.length ≤ 50) (hbd : ∀ x ∈ ds, Bd x) (h0 : 0 ≤ cnt) (h1 : cnt ≤ 2048) (hp : v.ownBlock ≠ some p) (hu : Up ds)
    (hn : O.length = n) (hnb : n ≤ 1024) (hR : Rw w B O) (hob : ∀ x ∈ O, Bd x) (hri : Rise O) (hBp : B ≠ p) (hBv : v.ownBlock ≠ some B) (hne : ∀ x ∈ ds, ∀ o ∈ O, x.fl ≠ o.fl) :
    Calls Try.prog 12 #[.pointer (some ⟨p, 0, none⟩), .slice (some ⟨B, 0, none⟩) n n] w fun e w' => e = .returned (.tuple #[]) ∧ MergePost w w' p v cnt B ds O := by
  have HS := hide (sort25 B n O w hn (by omega) hob hri hR)
  have HBL : Hid (¬ w.heap.size ≤ B) := by have := hR.lt; show ¬ _; omega
  have HL := hide hL
  have HSL := hide hs
  have HLEN := hide hlen
  have HBD := hide hbd
  have HP := hide hp
  have HU := hide hu
  have HN := hide hn
  have HOB := hide hob
  have HBP := hide hBp
  have HBV := hide hBv
  have HNE := hide hne
  clear hL hs hlen hbd hp hu hn hob hri hBp hBv hne hR
  go_enter Try.func12, Try.ntmps12
  go_wp2_with fail
  refine (unhide HS).mono ?_
  rintro _ W1 ⟨rfl, ⟨S, hp1, hs1, hR1⟩, hg1⟩
  have HCP := hide (compact28 B n S W1 (hp1.length_eq.trans (unhide HN)) (by omega) hR1)
  have HP1 := hide hp1
  have HS1 := hide hs1
  have HG1 := hide hg1
  clear hp1 hs1 hR1 hg1 HS
  go_wp2_with fail
  refine (unhide HCP).mono ?_
  rintro _ W2 ⟨J, rfl, hR2, hg2⟩
  have hcu := cpt_up S (unhide HS1)
  have hcl := cpt_len S
  have hm1 : (cpt S).length ≤ 1024 := by have := (unhide HP1).length_eq; have := unhide HN; omega
  have hbl : B < w.heap.size := by
    rcases Nat.lt_or_ge B w.heap.size with h | h
    · exact h
    · exfalso; exact unhide HBL h
  have hpl : p < w.heap.size := lt_of_block (unhide HL)
  have hgg := grown_trans (unhide HG1) hg2
  have HM0 : Hid (MInv w W2 p v cnt B ds (cpt S) J 0) := by
    refine ⟨v, (unhide HL).same (hgg.block p hpl (fun h => unhide HBP (by simpa using h.symm))) |> fun h => by simpa using h, ?_, hR2, ⟨hgg.os, hgg.tape, hgg.output, hgg.size, fun k hk hkp hkv hkB => hgg.block k hk (by simpa using hkB)⟩, fun g hg => .inl hg⟩
    rcases unhide HSL with h | ⟨b, cap, J', hv, hR, hc, hcm⟩
    · exact .inl h
    · exact .inr ⟨b, cap, J', hv, hR.same (hgg.block b hR.lt (fun h => unhide HBV (by rw [hv]; simpa [Value.ownBlock] using h))), hc, hcm⟩
  obtain ⟨hc1, hc2⟩ := hcu
  have HFIN : Hid (∀ w', MInv w w' p v cnt B ds (cpt S) J (cpt S).length → MergePost w w' p v cnt B ds O) := fun w' ⟨v', m1, m2, m3, m4, m5⟩ => ⟨S, v', unhide HP1, unhide HS1, m1, by rw [List.take_length] at m2; exact m2, m4, m5⟩
  have HYB : Hid (∀ y ∈ cpt S, Bd y) := fun y hy => unhide HOB y ((unhide HP1).mem_iff.1 (hc1 y hy))
  have HYN : Hid (∀ x ∈ ds, ∀ o ∈ cpt S, x.fl ≠ o.fl) := fun x hx o ho => unhide HNE x hx o ((unhide HP1).mem_iff.1 (hc1 o ho))
  have HYU := hide hc2
  clear HCP HP1 HS1 HG1 hR2 hg2 hc1 hc2 hcl hgg HNE HOB
  generalize cpt S = ys at *
  obtain ⟨m, hm⟩ : ∃ m, ys.length = m := ⟨_, rfl⟩
  rw [hm]
  rw [hm] at hm1 HFIN
  have HM := hide hm
  clear hm
  go_wp2_with fail
  go_loopw [13] (fun I wr => ∃ k : Nat, k ≤ m ∧ I = .int .i64 k ∧ Hid (MInv w wr p v cnt B ds ys J k)) (fun I _ => m - (intOf I).toNat)
  case atStart => exact ⟨0, Nat.zero_le _, rfl, HM0⟩
  case round =>
    clear HM0
    obtain ⟨k, hkm, rfl, HI⟩ := hrel
    by_cases hk : k < m
    · obtain ⟨v', m1, m2, m3, m4, m5⟩ := unhide HI
      have hkl : k < ys.length := by rw [unhide HM]; exact hk
      obtain ⟨y, hy⟩ : ∃ y, ys[k] = y := ⟨_, rfl⟩
      have hyd : (ys ++ J).getD k D.no = y := by rw [List.getD, List.getElem?_append_left hkl, List.getElem?_eq_getElem hkl, hy]; rfl
      obtain ⟨d1, d2, d3, d4⟩ := Rw.el m3 k (by simp; omega) y hyd
      have hbl' := m3.lt
      have HM1 := hide m1
      have HM2 := hide m2
      have HM3 := hide m3
      have HM4 := hide m4
      have HM5 := hide m5
      have HY : Hid (∃ h : k < ys.length, ys[k] = y) := ⟨hkl, hy⟩
      clear m1 m2 m3 m4 m5 hy hyd hkl HI
      go_wp2_with fail
      have hW : wr.grownBy (wr.alloc (.cells #[.int .i64 y.line, .int .i64 y.fl, .string y.txt, .bool y.warn] 30)) none := World.grownBy_alloc _ _ _
      obtain ⟨hkl, hy⟩ := unhide HY
      obtain ⟨f1, f2, f3⟩ := so_far ds ys k (unhide HU) (unhide HYU) (unhide HLEN) (unhide HYN)
      have hym : y ∈ ys := by rw [← hy]; exact List.getElem_mem hkl
      refine (add11' p v' (cnt + k) _ y _ ((unhide HM1).grown hW) ((unhide HM2).grown hW) f2 (fun x hx => ?_) (unhide HYB y hym) (by omega) (by omega) (fun h => ?_) f1 (fun x hx => ?_)).mono ?_
      · rcases f3 x hx with h | h
        · exact unhide HBD x h
        · exact unhide HYB x (List.mem_of_mem_take h)
      · rcases unhide HM5 p h with h | h
        · exact unhide HP h
        · omega
      · rcases f3 x hx with h | h
        · exact unhide HYN x h y hym
        · obtain ⟨j, hj, rfl⟩ := List.getElem_of_mem h
          have hj' : j < k := by simp at hj; omega
          rw [List.getElem_take, ← hy]
          have := (List.pairwise_iff_getElem.1 (unhide HYU)) j k (by omega) hkl hj'
          omega
      · rintro _ w5 ⟨rfl, hA⟩
        have HN1 : Hid (MInv w w5 p v cnt B ds ys J (k + 1)) := minv_step hpl hbl (unhide HP) (unhide HBP) (unhide HBV) hW hkl hy (unhide HM3) (unhide HM4) (unhide HM5) hA
        clear hW hkl hy f1 f2 f3 hym hA d1 d2 d3 d4 HM1 HM2 HM3 HM4 HM5 HY
        go_wp2
        go_roundw
        case rel => exact ⟨k + 1, by omega, by go_num, HN1⟩
        case measure => simp [intOf]; omega
    · obtain rfl : k = m := by omega
      go_wp2
      go_end0
      exact ⟨rfl, unhide HFIN _ (unhide HI)⟩

end Go.Proofs.Qxb6003736a.Diag
