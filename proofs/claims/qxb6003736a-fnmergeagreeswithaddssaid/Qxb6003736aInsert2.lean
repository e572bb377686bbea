/- slices.Insert over diagnostics, where there is room (seat b6003736a). -/
import Derived.Test.Qxb6003736aInsert
namespace Go.Proofs.Qxb6003736a.Diag
open Go.RowKit
set_option linter.unusedVariables false

theorem Rw.shape {w : World} {b : Nat} {ds : List D} (h : Rw w b ds) : w.shape? b = some (30, 4 * ds.length) := by
  unfold Rw at h
  simp [World.shape?, h, enc_length]

theorem overlaps_apart (w : World) (bv b o lb cb : Nat) (d : D) (ds : List D) (hne : bv ≠ b) (hv : Rw w bv [d]) (hb : Rw w b ds) (hds : 0 < ds.length) :
    (callFunc 30 #[.slice (some ⟨bv, 0, none⟩) 1 1, .slice (some ⟨b, o, none⟩) lb cb]).run Try.prog w = .ok (.value (.bool false)) w := by
  rw [run_callFunc_extern Try.func30 (by kernel_rfl) (by kernel_rfl) (by kernel_rfl) (e := Extern.SlicesOverlaps.overlaps #[26, 26] #[4]) (by kernel_rfl),
    Lib.run_overlaps_apart w 26 4 30 under26 4 (fun w => by rfl) ⟨bv, 0, none⟩ ⟨b, o, none⟩ 1 1 lb cb hne 30 30 _ _ hv.shape hb.shape (by omega) (hv.free 0) (hv.free _)]
  rfl

set_option maxRecDepth 100000 in
set_option maxHeartbeats 4000000 in
theorem ins24room (d : D) (A C : List D) (x : D) (J : List D) (b i n cap bv : Nat) (w : World) (hi : A.length = i) (hn : A.length + C.length = n) (hin : i < n) (hnb : n ≤ 1048576) (hR : Rw w b (A ++ C ++ x :: J)) (hc : n + 1 + J.length = cap) (hcm : cap ≤ maxLen) (hv : Rw w bv [d]) (hne : bv ≠ b) :
    Calls Try.prog 24 #[.slice (some ⟨b, 0, none⟩) n cap, .int .i64 i, .slice (some ⟨bv, 0, none⟩) 1 1] w fun e w' => Inserted w w' (some b) (A ++ d :: C) e := by
  have hov := fun lb cb => overlaps_apart w bv b ((i + 1) * 4) lb cb d _ hne hv hR (by simp; omega)
  have hC : C.length = n - i := by omega
  have hc2 := copy_row w.drew b (i + 1) (n + 1 - (i + 1)) (cap - (i + 1)) b i (n + 1 - i) (cap - i) _ _ C hR.drew hR.drew (by rw [hC]; show n - i = min (n + 1 - i) (n + 1 - (i + 1)); omega) (by subst hi; simp [List.append_assoc]) (by simp; omega)
  obtain ⟨y, hl2⟩ : ∃ y, laid (A ++ C ++ x :: J) (i + 1) C = A ++ y :: C ++ J := by
    cases C with
    | nil => simp at hn; omega
    | cons c C' =>
      refine ⟨c, ?_⟩
      subst hi
      have e1 : (A ++ c :: C' ++ x :: J).take (A.length + 1) = A ++ [c] := by
        rw [show A ++ c :: C' ++ x :: J = (A ++ [c]) ++ (C' ++ x :: J) by simp, show A.length + 1 = (A ++ [c]).length by simp]
        exact List.take_left
      have e2 : (A ++ c :: C' ++ x :: J).drop (A.length + 1 + (c :: C').length) = J := by
        rw [show A ++ c :: C' ++ x :: J = (A ++ c :: C' ++ [x]) ++ J by simp, show A.length + 1 + (c :: C').length = (A ++ c :: C' ++ [x]).length by simp; omega]
        exact List.drop_left
      rw [laid, e1, e2]
      simp
  rw [hl2] at hc2
  have h5 := hR.drew.setRow (A ++ y :: C ++ J)
  have g5 := setRow_grown w.drew b (enc (A ++ y :: C ++ J)).toArray
  have hv5 : Rw (w.drew.setRow b (enc (A ++ y :: C ++ J)).toArray) bv [d] := hv.drew.same (g5.block bv hv.lt (by simpa using hne))
  generalize w.drew.setRow b (enc (A ++ y :: C ++ J)).toArray = w5 at *
  have hc3 := copy_row w5 b i (n + 1 - i) (cap - i) bv 0 1 1 _ [d] [d] h5 hv5 (by show 1 = min 1 (n + 1 - i); omega) (by simp) (by simp; omega)
  have hl3 : laid (A ++ y :: C ++ J) i [d] = A ++ d :: C ++ J := by
    subst hi
    have e1 : (A ++ y :: C ++ J).take A.length = A := by rw [List.append_assoc]; exact List.take_left
    have e2 : (A ++ y :: C ++ J).drop (A.length + [d].length) = C ++ J := by
      rw [show A ++ y :: C ++ J = (A ++ [y]) ++ (C ++ J) by simp, show A.length + [d].length = (A ++ [y]).length by simp]
      exact List.drop_left
    rw [laid, e1, e2]
    simp
  rw [hl3] at hc3
  simp only [Nat.zero_mul] at hc3
  have h6 := h5.setRow (A ++ d :: C ++ J)
  have g6 := setRow_grown w5 b (enc (A ++ d :: C ++ J)).toArray
  generalize w5.setRow b (enc (A ++ d :: C ++ J)).toArray = w6 at *
  have HF : Hid (∀ e, e = .returned (.slice (some ⟨b, 0, none⟩) (n + 1) cap) → Inserted w w6 (some b) (A ++ d :: C) e) := fun e he => by
    refine ⟨b, cap, J, by rw [he]; simp; omega, h6, by simp; omega, hcm, ?_, .inl rfl⟩
    exact ⟨g6.os.trans g5.os, g6.tape.trans g5.tape, g6.output.trans g5.output, Nat.le_trans g5.size g6.size, fun q hq hqb => (g6.block q (Nat.lt_of_lt_of_le hq g5.size) hqb).trans (g5.block q hq hqb)⟩
  have HC2 := hide hc2
  have HOV := hide hov
  have x1 : ¬ cap = i := by omega
  have x2 : ¬ cap = i + 1 := by omega
  have x3 : ¬ n = i := by omega
  have x4 : i + 1 ≤ n + 1 := by omega
  have x5 : cap ≤ 9223372036854775807 := by unfold maxLen at hcm; omega
  have x6 : n + 1 ≤ cap := by omega
  have x7 : ¬ ((cap : Int) < (n : Int) + 1) := by omega
  clear hc2 h5 h6 g5 g6 hR hv hv5 hl2 hl3 hC hi hn hc hcm HOV
  go_enter Try.func24, Try.ntmps24
  go_wp2_with fail
  have y1 : IntKind.i64.wrap ((i : Int) + 1) = (i : Int) + 1 := by rw [IntKind.wrap_i64]; omega
  have y2 : ((i : Int) + 1).toNat = i + 1 := by omega
  have y3 : (0 : Int) ≤ (i : Int) + 1 := by omega
  have y4 : (i : Int) + 1 ≤ (n : Int) + 1 := by omega
  have y5 : (i : Int) ≤ (n : Int) + 1 := by omega
  go_region_law (refine step_copy_run rfl (.tmp 73) (.tmp 76) 26 26 rfl _ _ _ _ (by simp [Act.eval, Act.put]) (by simp [Act.eval, Act.put]) (unhide HC2) ?_)
  go_wp2
  go_ret
  exact unhide HF _ rfl

/-- Insert, whatever the slice. -/
theorem insert24 (d : D) (A C : List D) (v : Value) (bv : Nat) (w : World) (hnb : A.length + C.length ≤ 1048576) (hs : SL w v (A ++ C)) (hv : Rw w bv [d]) (hne : v.ownBlock ≠ some bv) :
    Calls Try.prog 24 #[v, .int .i64 A.length, .slice (some ⟨bv, 0, none⟩) 1 1] w fun e w' => Inserted w w' v.ownBlock (A ++ d :: C) e := by
  rcases hs with ⟨rfl, h⟩ | ⟨b, cap, J, rfl, hR, hc, hcm⟩
  · obtain ⟨rfl, rfl⟩ := List.append_eq_nil_iff.1 h
    exact ins24nil d bv w hv
  · have hne' : bv ≠ b := fun h => hne (by rw [h]; rfl)
    cases C with
    | nil =>
      have h := ins24end d A J b A.length cap bv w rfl (by simpa using hnb) (by simpa using hR) (by simpa using hc) hcm hv
      simpa [Value.ownBlock] using h
    | cons c C =>
      cases J with
      | nil =>
        have hcap : cap = A.length + (c :: C).length := by simp at hc ⊢; omega
        have h := ins24grow d A (c :: C) b A.length (A.length + (c :: C).length) bv w rfl rfl (by simp) hnb (by simpa using hR) hv
        rw [hcap]
        simpa [Value.ownBlock] using h
      | cons x J =>
        have h := ins24room d A (c :: C) x J b A.length (A.length + (c :: C).length) cap bv w rfl rfl (by simp) hnb hR (by simp at hc ⊢; omega) hcm hv hne'
        simpa [Value.ownBlock] using h

end Go.Proofs.Qxb6003736a.Diag
