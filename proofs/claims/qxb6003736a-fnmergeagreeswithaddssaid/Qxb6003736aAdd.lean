/- diag.List.Add (seat b6003736a). -/
import Derived.Test.Qxb6003736aInsert2
import Derived.Deep.RegionWith
namespace Go.Proofs.Qxb6003736a.Diag
open Go.RowKit
set_option linter.unusedVariables false

/-- A List in memory: its block, its slice, its count. -/
def LS (w : World) (p : Nat) (v : Value) (cnt : Int) : Prop := w.heap[p]? = some (.cells #[v, .int .i64 cnt] 28 (0, 0))
theorem LS.cells {w : World} {p : Nat} {v : Value} {cnt : Int} (h : LS w p v cnt) : w.cell? ⟨p, 0, none⟩ = some v ∧ w.cell? ⟨p, 1, none⟩ = some (.int .i64 cnt) ∧ (∀ k, w.frozen? ⟨p, k, none⟩ = false) := by
  unfold LS at h
  exact ⟨by simp [World.cell?, h], by simp [World.cell?, h], fun k => by simp [World.frozen?, h]⟩
theorem LS.same {w w' : World} {p : Nat} {v : Value} {cnt : Int} (h : LS w p v cnt) (hb : w'.heap[p]? = w.heap[p]?) : LS w' p v cnt := by unfold LS; rw [hb]; exact h
theorem LS.set0 {w : World} {p : Nat} {v : Value} {cnt : Int} (h : LS w p v cnt) (v' : Value) : LS (w.setCell ⟨p, 0, none⟩ v') p v' cnt := by unfold LS; rw [heap_setCell_at h]; simp
theorem LS.set1 {w : World} {p : Nat} {v : Value} {cnt : Int} (h : LS w p v cnt) (c' : Int) : LS (w.setCell ⟨p, 1, none⟩ (.int .i64 c')) p v c' := by unfold LS; rw [heap_setCell_at h]; simp

/-- What Add leaves of the rest. -/
structure Kept2 (w w' : World) (p : Nat) (own : Option Nat) : Prop where
  os : w'.os = w.os
  tape : w'.tape = w.tape
  output : w'.output = w.output
  size : w.heap.size ≤ w'.heap.size
  block : ∀ k, k < w.heap.size → k ≠ p → some k ≠ own → w'.heap[k]? = w.heap[k]?

def AddPost (w w' : World) (p : Nat) (v : Value) (cnt : Int) (xs : List D) : Prop :=
  ∃ v', LS w' p v' (cnt + 1) ∧ SL w' v' xs ∧ Kept2 w w' p v.ownBlock ∧ (∀ g, v'.ownBlock = some g → v.ownBlock = some g ∨ w.heap.size ≤ g)

theorem SL.grown {w w' : World} {v : Value} {ds : List D} (h : SL w v ds) (hg : w.grownBy w' none) : SL w' v ds := by
  rcases h with h | ⟨b, cap, J, hv, hR, hc, hcm⟩
  · exact .inl h
  · exact .inr ⟨b, cap, J, hv, hR.grown hg, hc, hcm⟩
theorem LS.grown {w w' : World} {p : Nat} {v : Value} {cnt : Int} (h : LS w p v cnt) (hg : w.grownBy w' none) : LS w' p v cnt := h.same (hg.block p (lt_of_block h) (by simp))
theorem SL.search {w : World} {v : Value} {ds : List D} (h : SL w v ds) : (v = .slice none 0 0 ∧ ds = []) ∨ ∃ b cap J, v = .slice (some ⟨b, 0, none⟩) ds.length cap ∧ Rw w b (ds ++ J) := by
  rcases h with h | ⟨b, cap, J, hv, hR, hc, hcm⟩
  · exact .inl h
  · exact .inr ⟨b, cap, J, hv, hR⟩

/-- What the insertion leaves, of the world before the new element was laid. -/
def InsPost (W3 w' : World) (p : Nat) (v3 : Value) (cnt : Int) (xs : List D) (e : Ending) : Prop := Inserted W3 w' v3.ownBlock xs e ∧ LS w' p v3 cnt
theorem ins_at (W3 W : World) (p : Nat) (v3 : Value) (cnt : Int) (A C3 : List D) (d : D) (hW : W = (W3.alloc (.cells #[.int .i64 d.line, .int .i64 d.fl, .string d.txt, .bool d.warn] 30)).drew)
    (hnb : A.length + C3.length ≤ 1048576) (hL : LS W3 p v3 cnt) (hs : SL W3 v3 (A ++ C3)) (hp : v3.ownBlock ≠ some p) :
    Calls Try.prog 24 #[v3, .int .i64 A.length, .slice (some ⟨W3.heap.size, 0, none⟩) 1 1] W fun e w' => InsPost W3 w' p v3 cnt (A ++ d :: C3) e := by
  have hg : W3.grownBy W none := by rw [hW]; exact grown_drew (World.grownBy_alloc _ _ _)
  have hb : Rw W W3.heap.size [d] := by rw [hW]; exact (heap_alloc_new W3 _ : _)
  have hne : v3.ownBlock ≠ some W3.heap.size := fun h => by
    rcases hs with ⟨rfl, _⟩ | ⟨b, cap, J, rfl, hR, _⟩
    · simp [Value.ownBlock] at h
    · have h1 : b = W3.heap.size := by simpa [Value.ownBlock] using h
      have h2 := hR.lt
      omega
  refine (insert24 d A C3 v3 W3.heap.size W hnb (hs.grown hg) hb hne).mono ?_
  rintro e w' ⟨b, cap, J, h1, h2, h3, h4, h5, h6⟩
  refine ⟨⟨b, cap, J, h1, h2, h3, h4, grown_trans (grown_of_none' hg) h5, h6.imp id (fun h => Nat.le_trans hg.size h)⟩, (hL.grown hg).same (h5.block p (lt_of_block (hL.grown hg)) (fun h => hp h.symm))⟩

theorem add_fin {w W3 w5 : World} {p : Nat} {v v3 : Value} {cnt : Int} {xs J5 : List D} {b5 cap5 len5 : Nat} (hl5 : len5 = xs.length) (hK : Kept2 w W3 p v.ownBlock) (hO : v3.ownBlock = v.ownBlock) (hP : v.ownBlock ≠ some p) (hp3 : p < W3.heap.size) (hL5 : LS w5 p v3 (cnt + 1))
    (hI : Rw w5 b5 (xs ++ J5) ∧ xs.length + J5.length = cap5 ∧ cap5 ≤ maxLen ∧ W3.grownBy w5 v3.ownBlock ∧ (v3.ownBlock = some b5 ∨ W3.heap.size ≤ b5)) :
    AddPost w (w5.setCell ⟨p, 0, none⟩ (.slice (some ⟨b5, 0, none⟩) len5 cap5)) p v cnt xs := by
  obtain ⟨r1, r2, r3, r4, r5⟩ := hI
  subst hl5
  rw [hO] at r4 r5
  have hbp : b5 ≠ p := fun e => by
    rcases r5 with h | h
    · exact hP (by rw [h, e])
    · omega
  refine ⟨_, hL5.set0 _, .inr ⟨b5, cap5, J5, rfl, r1.same (Below.heap_setCell _ _ _ _ hbp), r2, r3⟩, ?_, fun g hg => ?_⟩
  · refine ⟨r4.os.trans hK.os, r4.tape.trans hK.tape, r4.output.trans hK.output, ?_, fun k hk hkp hkv => ?_⟩
    · have := r4.size
      have := hK.size
      simp [World.setCell]
      omega
    · rw [Below.heap_setCell _ _ _ _ hkp]
      exact (r4.block k (Nat.lt_of_lt_of_le hk hK.size) hkv).trans (hK.block k hk hkp hkv)
  · have hg' : b5 = g := by simpa [Value.ownBlock] using hg
    rcases r5 with h | h
    · exact .inl (by rw [h, hg'])
    · exact .inr (by have := hK.size; omega)

set_option maxRecDepth 100000 in
set_option maxHeartbeats 4000000 in
theorem add11 (p : Nat) (v : Value) (cnt : Int) (A C : List D) (d : D) (w : World) (hL : LS w p v cnt) (hs : SL w v (A ++ C)) (hlen : (A ++ C).length ≤ 50) (hbd : ∀ x ∈ A ++ C, Bd x) (hd : Bd d) (h0 : 0 ≤ cnt) (h1 : cnt ≤ 1048576) (hp : v.ownBlock ≠ some p)
    (hA : ∀ y ∈ A, y.fl < d.fl) (hC : ∀ y ∈ C, d.fl < y.fl) :
    Calls Try.prog 11 #[.pointer (some ⟨p, 0, none⟩), d.val] w fun e w' => e = .returned (.tuple #[]) ∧ AddPost w w' p v cnt ((A ++ d :: C).take 50) := by
  obtain ⟨c0, c1, fr⟩ := hL.cells
  have hpl : p < w.heap.size := lt_of_block hL
  have HA := hide hA
  have HC := hide hC
  have HBD := hide hbd
  have HD := hide hd
  have HLEN := hide hlen
  have HP := hide hp
  have HL := hide hL
  have HS := hide hs
  clear hA hC hbd hd hlen hp hL hs
  unfold D.val
  go_enter Try.func11, Try.ntmps11
  go_wp2_with fail
  -- the world at the search
  have hL1 : LS ((w.setCell ⟨p, 1, none⟩ (.int .i64 (cnt + 1))).alloc (.cells #[.int .i64 d.line, .int .i64 d.fl, .string d.txt, .bool d.warn] 30)) p v (cnt + 1) :=
    ((unhide HL).set1 (cnt + 1)).same (heap_alloc_old _ _ (by simpa [World.setCell] using hpl))
  have hs1 : SL ((w.setCell ⟨p, 1, none⟩ (.int .i64 (cnt + 1))).alloc (.cells #[.int .i64 d.line, .int .i64 d.fl, .string d.txt, .bool d.warn] 30)) v (A ++ C) := by
    rcases unhide HS with h | ⟨b, cap, J, hv, hR, hc, hcm⟩
    · exact .inl h
    · refine .inr ⟨b, cap, J, hv, hR.same ?_, hc, hcm⟩
      have hbp : b ≠ p := fun e => unhide HP (by rw [hv, e]; rfl)
      rw [heap_alloc_old _ _ (by simpa [World.setCell] using hR.lt), Below.heap_setCell _ _ _ _ hbp]
  have hbx : Rw ((w.setCell ⟨p, 1, none⟩ (.int .i64 (cnt + 1))).alloc (.cells #[.int .i64 d.line, .int .i64 d.fl, .string d.txt, .bool d.warn] 30)) w.heap.size [d] := by
    have h := heap_alloc_new (w.setCell ⟨p, 1, none⟩ (.int .i64 (cnt + 1))) (.cells #[.int .i64 d.line, .int .i64 d.fl, .string d.txt, .bool d.warn] 30)
    have hsz : (w.setCell ⟨p, 1, none⟩ (.int .i64 (cnt + 1))).heap.size = w.heap.size := by simp [World.setCell]
    rw [hsz] at h
    exact h
  have hk1 : Kept2 w ((w.setCell ⟨p, 1, none⟩ (.int .i64 (cnt + 1))).alloc (.cells #[.int .i64 d.line, .int .i64 d.fl, .string d.txt, .bool d.warn] 30)) p v.ownBlock :=
    ⟨rfl, rfl, rfl, by simp [World.setCell], fun k hk hkp _ => by rw [heap_alloc_old _ _ (by simpa [World.setCell] using hk), Below.heap_setCell _ _ _ _ hkp]⟩
  generalize (w.setCell ⟨p, 1, none⟩ (.int .i64 (cnt + 1))).alloc (.cells #[.int .i64 d.line, .int .i64 d.fl, .string d.txt, .bool d.warn] 30) = W1 at *
  have hbd := unhide HD
  have HSR : Hid (∀ q : GW W1, Calls Try.prog 22 #[v, .int .i64 d.fl, .func (.func 23) #[] #[]] q.w' fun e w' => e = .returned (.tuple #[.int .i64 A.length, .bool false]) ∧ q.w'.grownBy w' none) :=
    fun q => search22' v A C d.fl q.w' (hs1.grown q.h).search (by have := unhide HLEN; omega) (unhide HBD) hbd.1 hbd.2 (unhide HA) (unhide HC)
  obtain ⟨e0, e1, efr⟩ := hL1.cells
  have f0 := fun q : GW W1 => q.cell e0 (lt_of_block hL1)
  have f1 : ∀ q : GW W1, q.w'.cell? ⟨w.heap.size, 1, none⟩ = some (.int .i64 d.fl) := fun q => by
    have := (GW.el hbx 0 (by simp) d rfl).2.1 q
    simpa using this
  have HL1 := hide hL1
  have HS1 := hide hs1
  have HBX := hide hbx
  have HK1 := hide hk1
  clear hL1 hs1 hbx hk1 c0 c1 fr hbd e0 e1 efr
  generalize hgg : w.heap.size = g at *
  refine wp_region_gw (by kernel_rfl) (by kernel_rfl) ?_
  repeat (go_big_quiet_step ((go_at_call 22; exact GW.call _ (unhide HSR _))))
  refine wpQuiet_nil ?_
  rintro W2 ⟨q, hq⟩
  have hW := q.h
  rw [← hq] at hW
  clear hq q f0 f1
  have hL2 := (unhide HL1).grown hW
  have hs2 := (unhide HS1).grown hW
  have hb2 := (unhide HBX).grown hW
  have hk1 := unhide HK1
  have hk2 : Kept2 w W2 p v.ownBlock := ⟨hW.os.trans hk1.os, hW.tape.trans hk1.tape, hW.output.trans hk1.output, Nat.le_trans hk1.size hW.size, fun k hk hkp hkv => (hW.block k (Nat.lt_of_lt_of_le hk hk1.size) (by simp)).trans (hk1.block k hk hkp hkv)⟩
  have HL2 := hide hL2
  have HS2 := hide hs2
  have HB2 := hide hb2
  have HK2 := hide hk2
  clear hL2 hs2 hb2 hk1 hk2 hW HL1 HS1 HBX HK1 HSR HL HS
  by_cases hA50 : A.length = 50
  · have hfin : AddPost w W2 p v cnt ((A ++ d :: C).take 50) := by
      have hC0 : C = [] := List.eq_nil_of_length_eq_zero (by have := unhide HLEN; simp at this; omega)
      have ht : (A ++ d :: C).take 50 = A ++ C := by rw [hC0, ← hA50]; simp
      rw [ht]
      exact ⟨v, unhide HL2, unhide HS2, unhide HK2, fun g hg => .inl hg⟩
    have HFIN := hide hfin
    clear hfin
    have hA50' : (A.length : Int) = 50 := by omega
    go_wp2
    refine bodyPost_ret (results_none rfl _ _ _) rfl ?_
    exact ⟨rfl, unhide HFIN⟩
  · have hA50' : ¬ (A.length : Int) = 50 := by omega
    obtain ⟨ao, cap, len, hlen, hv⟩ : ∃ ao cap len, Hid ((A ++ C).length = len) ∧ v = .slice ao len cap := by
      rcases unhide HS2 with ⟨h, h'⟩ | ⟨b, cap, J, h, _⟩
      · exact ⟨none, 0, 0, by show _ = _; rw [h']; rfl, h⟩
      · exact ⟨_, cap, _, rfl, h⟩
    subst hv
    have HAL : Hid (A.length < 50) := by show _ < _; have := unhide HLEN; simp at this; omega
    have hl50 : len ≤ 50 := by have := unhide HLEN; have := unhide hlen; omega
    obtain ⟨c0, c1, fr⟩ := (unhide HL2).cells
    clear c1
    go_upto_if 30 with fail
    go_cut [] from 23 (fun wx => ∃ (v3 : Value) (C3 : List D), Hid (LS wx p v3 (cnt + 1)) ∧ Hid (SL wx v3 (A ++ C3)) ∧ Hid (Rw wx g [d]) ∧ Hid (Kept2 w wx p (Value.slice ao len cap).ownBlock) ∧ Hid (v3.ownBlock = (Value.slice ao len cap).ownBlock) ∧ Hid (A ++ d :: C3 = (A ++ d :: C).take 50))
    case first =>
      by_cases h50 : len = 50
      · have h50' : (len : Int) = 50 := by omega
        have hl := unhide hlen
        obtain ⟨b, J, hao, hR, hcJ, hcm⟩ : ∃ b J, ao = some ⟨b, 0, none⟩ ∧ Rw W2 b (A ++ C ++ J) ∧ (A ++ C).length + J.length = cap ∧ cap ≤ maxLen := by
          rcases unhide HS2 with ⟨_, h⟩ | ⟨b, cap', J, h, h1, h2, h3⟩
          · rw [h] at hl; simp at hl; omega
          · simp at h; exact ⟨b, J, h.1, h1, by rw [h.2.2]; exact h2, by rw [h.2.2]; exact h3⟩
        subst hao
        subst h50
        obtain ⟨C', z, hCe⟩ : ∃ C' z, C = C' ++ [z] := by
          rcases nil_or_snoc C with h | h
          · rw [h] at hl; simp at hl; omega
          · exact h
        have hbp : b ≠ p := fun e => unhide HP (by rw [e]; rfl)
        have hcap : 50 ≤ cap := by omega
        have hl3 : (A ++ C').length = 49 := by rw [hCe] at hl; simp at hl ⊢; omega
        have k1 : Hid (LS (W2.setCell ⟨p, 0, none⟩ (.slice (some ⟨b, 0, none⟩) 49 cap)) p (.slice (some ⟨b, 0, none⟩) 49 cap) (cnt + 1)) := (unhide HL2).set0 _
        have k2 : Hid (SL (W2.setCell ⟨p, 0, none⟩ (.slice (some ⟨b, 0, none⟩) 49 cap)) (.slice (some ⟨b, 0, none⟩) 49 cap) (A ++ C')) :=
          .inr ⟨b, cap, z :: J, by rw [hl3], (show Rw W2 b (A ++ C' ++ z :: J) by rw [hCe] at hR; simpa using hR).same (Below.heap_setCell _ _ _ _ hbp), by rw [hCe] at hcJ hl; simp at hcJ hl ⊢; omega, hcm⟩
        have hgp : g ≠ p := by omega
        have k3 : Hid (Rw (W2.setCell ⟨p, 0, none⟩ (.slice (some ⟨b, 0, none⟩) 49 cap)) g [d]) := (unhide HB2).same (Below.heap_setCell _ _ _ _ hgp)
        have hk2 := unhide HK2
        have k4 : Hid (Kept2 w (W2.setCell ⟨p, 0, none⟩ (.slice (some ⟨b, 0, none⟩) 49 cap)) p (Value.slice (some ⟨b, 0, none⟩) 50 cap).ownBlock) :=
          ⟨hk2.os, hk2.tape, hk2.output, by have := hk2.size; simp [World.setCell]; omega, fun k hk hkp hkv => (Below.heap_setCell _ _ _ _ hkp).trans (hk2.block k hk hkp hkv)⟩
        have k6 : Hid (A ++ d :: C' = (A ++ d :: C).take 50) := by
          show _ = _
          rw [hCe, show A ++ d :: (C' ++ [z]) = (A ++ d :: C') ++ [z] by simp, List.take_left' (by simp at hl3 ⊢; omega)]
        clear hl hR hcJ hcm hCe hk2 hlen hl3 hbp hgp
        go_wp2_with fail
        go_meet
        case rel => exact ⟨.slice (some ⟨b, 0, none⟩) 49 cap, C', k1, k2, k3, k4, rfl, k6⟩
      · have h50' : ¬ (len : Int) = 50 := by omega
        have ht : A ++ d :: C = (A ++ d :: C).take 50 := by rw [List.take_of_length_le]; have := unhide hlen; simp at this ⊢; omega
        have HT := hide ht
        clear ht
        go_wp2_with fail
        go_meet
        case rel => exact ⟨.slice ao len cap, C, HL2, HS2, HB2, HK2, rfl, HT⟩
    case rest =>
      obtain ⟨v3, C3, HL3, HS3, HB3, HK3, HO3, HT3⟩ := hcut
      clear HL2 HS2 HB2 HK2 c0 fr
      generalize wc = W3 at *
      obtain ⟨c0, c1, fr⟩ := (unhide HL3).cells
      obtain ⟨b1, b2, b3, b4⟩ := Rw.el (unhide HB3) 0 (by simp) d rfl
      simp only [Nat.zero_mul, Nat.zero_add] at b1 b2 b3 b4
      have HINS : Hid (∀ W, W = (W3.alloc (.cells #[.int .i64 d.line, .int .i64 d.fl, .string d.txt, .bool d.warn] 30)).drew → Calls Try.prog 24 #[v3, .int .i64 A.length, .slice (some ⟨W3.heap.size, 0, none⟩) 1 1] W fun e w' => InsPost W3 w' p v3 (cnt + 1) (A ++ d :: C3) e) := fun W hW => by
        refine ins_at W3 W p v3 (cnt + 1) A C3 d hW ?_ (unhide HL3) (unhide HS3) (by rw [unhide HO3]; exact unhide HP)
        have h := congrArg List.length (unhide HT3)
        simp at h
        omega
      have hg3 : g < W3.heap.size := (unhide HB3).lt
      have hp3 : p < W3.heap.size := lt_of_block (unhide HL3)
      clear c1
      go_wp2_with fail
      go_region_with (go_at_call 24; refine (unhide HINS _ rfl).mono ?_; rintro e w5 ⟨⟨b5, cap5, J5, rfl, hI⟩, hL5⟩; have c5 := hL5.cells.1; have fr5 := hL5.cells.2.2)
      all_goals
        go_end0
        refine ⟨rfl, ?_⟩
        rw [← unhide HT3]
        exact add_fin (by simp) (unhide HK3) (unhide HO3) (unhide HP) hp3 hL5 hI

end Go.Proofs.Qxb6003736a.Diag
