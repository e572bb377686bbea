/- append, copy over rows of diagnostics (seat b6003736a). -/
import Derived.Test.Qxb6003736aCpt
import Derived.Lib.AppendZerosOnto
import Derived.Lib.Overlaps
import Derived.Laws.AppendOwn
namespace Go.Proofs.Qxb6003736a.Diag
open Go.RowKit
set_option linter.unusedVariables false

theorem info30 : ∃ i, Try.prog.info? 30 = some i ∧ i.zero = some D.no.val ∧ i.size = 4 ∧ i.bytes = 40 := ⟨_, rfl, rfl, rfl, rfl⟩
theorem under26 : Try.prog.underlying 26 = some (.slice 30) := rfl

/-- Cells of a row, by their places. -/
theorem Rw.run {w : World} {b : Nat} {ds : List D} (h : Rw w b ds) (k : Nat) (es : List D) (he : (ds.drop k).take es.length = es) : ∀ j v, (enc es)[j]? = some v → w.cell? ((⟨b, k * 4, none⟩ : Addr).add j) = some v := fun j v hv => by
  have h1 : w.cell? ⟨b, k * 4 + j, none⟩ = (enc ds)[k * 4 + j]? := by
    unfold Rw at h
    simp [World.cell?, h]
  have h2 : (enc ds)[k * 4 + j]? = ((enc ds).drop (k * 4))[j]? := by rw [List.getElem?_drop]
  have h3 : ((enc ds).drop (k * 4)) = enc es ++ enc ((ds.drop k).drop es.length) := by
    rw [enc_drop, ← enc_append]
    congr 1
    conv => lhs; rw [← List.take_append_drop es.length (ds.drop k), he]
  rw [show (⟨b, k * 4, none⟩ : Addr).add j = ⟨b, k * 4 + j, none⟩ by unfold Addr.add; split <;> simp_all, h1, h2, h3, List.getElem?_append_left]
  · exact hv
  · rcases Nat.lt_or_ge j (enc es).length with h | h
    · exact h
    · rw [List.getElem?_eq_none h] at hv; simp at hv

/-- A new row behind an append. -/
theorem newRow_rw (w : World) (xs : List D) (k : Nat) (a : Array Value) (ha : a.toList = enc xs ++ enc (List.replicate k D.no)) :
    Rw (w.drew.alloc (.cells a 30)) w.heap.size (xs ++ List.replicate k D.no) ∧ w.grownBy (w.drew.alloc (.cells a 30)) none := by
  refine ⟨?_, ⟨rfl, rfl, rfl, by simp, fun k hk _ => heap_alloc_old w.drew _ hk⟩⟩
  unfold Rw
  have h := heap_alloc_new w.drew (.cells a 30)
  have he : a = (enc (xs ++ List.replicate k D.no)).toArray := by
    apply Array.ext'
    rw [ha, enc_append]
  rw [← he]
  exact h

theorem app_nil (w : World) (bv c : Nat) (d : D) (hv : Rw w bv [d]) :
    ∃ cap w', (∀ ty, (Builtin.append_ #[26, 26] ty #[.slice none 0 0, .slice (some ⟨bv, 0, none⟩) 1 c]).run Try.prog w = .ok (.slice (some ⟨w.heap.size, 0, none⟩) 1 cap) w') ∧ 1 ≤ cap ∧ cap ≤ maxLen ∧
      Rw w' w.heap.size ([d] ++ List.replicate (cap - 1) D.no) ∧ w.grownBy w' none := by
  obtain ⟨i, hi, hz, hs, hb⟩ := info30
  have hrun := fun ty => run_append_nil (P := Try.prog) w 26 ty 30 i D.no.val under26 hi hz ⟨bv, 0, none⟩ 1 c (enc [d]) (by rw [hs]; rfl) (by have := hv.run 0 [d] (by simp); simpa using this) (by omega) (by omega) (by rw [hb]; omega)
  have hn := newRow_rw w [d] (grownCap w 1 0 30 - 1) ((enc [d]).toArray ++ Builtin.zeroCells D.no.val.cells (grownCap w 1 0 30 - 1)) (by rw [Array.toList_append, zero_cells])
  exact ⟨grownCap w 1 0 30, _, hrun, grownCap_ge w 1 0 30, grownCap_le_maxLen w 1 0 30 (by unfold maxLen; omega), hn.1, hn.2⟩

theorem app_grow (w : World) (b n cap bv c : Nat) (ds J : List D) (d : D) (hn : ds.length = n) (hnb : n ≤ 1048576) (hR : Rw w b (ds ++ J)) (hv : Rw w bv [d]) (hc : cap < n + 1) :
    ∃ cap' w', (∀ ty, (Builtin.append_ #[26, 26] ty #[.slice (some ⟨b, 0, none⟩) n cap, .slice (some ⟨bv, 0, none⟩) 1 c]).run Try.prog w = .ok (.slice (some ⟨w.heap.size, 0, none⟩) (n + 1) cap') w') ∧ n + 1 ≤ cap' ∧ cap' ≤ maxLen ∧
      Rw w' w.heap.size ((ds ++ [d]) ++ List.replicate (cap' - (n + 1)) D.no) ∧ w.grownBy w' none := by
  obtain ⟨i, hi, hz, hs, hb⟩ := info30
  have hrun := fun ty => run_append_grow (P := Try.prog) w 26 ty 30 i D.no.val under26 hi hz ⟨b, 0, none⟩ n cap (enc ds) (by rw [hs, enc_length, hn]; omega) (by have := hR.run 0 ds (by simp); simpa using this) ⟨bv, 0, none⟩ 1 c (enc [d]) (by rw [hs]; rfl) (by have := hv.run 0 [d] (by simp); simpa using this) hc (by omega) (growslice_fits hc (by rw [hb]; omega))
  have hnr := newRow_rw w (ds ++ [d]) (grownCap w (n + 1) cap 30 - (n + 1)) ((enc ds).toArray ++ (enc [d]).toArray ++ Builtin.zeroCells D.no.val.cells (grownCap w (n + 1) cap 30 - (n + 1))) (by rw [Array.toList_append, Array.toList_append, zero_cells, enc_append])
  exact ⟨grownCap w (n + 1) cap 30, _, hrun, grownCap_ge w _ _ 30, grownCap_le_maxLen w _ _ 30 (by unfold maxLen; omega), hnr.1, hnr.2⟩

theorem app_zeros (w : World) (b i n cap : Nat) (A C J : List D) (hi : A.length = i) (hn : A.length + C.length = n) (hin : i < n) (hnb : n ≤ 1048576) (hR : Rw w b (A ++ C ++ J)) (hc : cap < n + 1) :
    ∃ cap' w', (∀ ty, (Builtin.append_ #[26, 3] ty #[.slice (some ⟨b, 0, none⟩) i cap, .int .i64 ((n : Int) + 1 - (i : Int))]).run Try.prog w = .ok (.slice (some ⟨w.heap.size, 0, none⟩) (n + 1) cap') w') ∧ n + 1 ≤ cap' ∧ cap' ≤ maxLen ∧
      Rw w' w.heap.size (A ++ List.replicate (cap' - i) D.no) ∧ w.grownBy w' none := by
  obtain ⟨i0, hi0, hz, hs, hb⟩ := info30
  have hk : i + (n + 1 - i) = n + 1 := by omega
  have hold : (Builtin.firstCells i0.size i (.slice (some ⟨b, 0, none⟩) i cap)).run Try.prog w.drew = .ok (enc A).toArray w.drew :=
    run_firstCells_some (P := Try.prog) w.drew i0.size i ⟨b, 0, none⟩ i cap (enc A) (by rw [hs, enc_length, hi]; omega) (by have := hR.run 0 A (by simp); simpa using this)
  have hrun := fun ty => Lib.run_append_grow_zeros (P := Try.prog) w 26 3 ty 30 i0 D.no.val .i64 .i64 under26 (by rfl) hi0 hz (some ⟨b, 0, none⟩) i cap (enc A) hold (n + 1 - i) (by omega) (by omega) (by omega) (by omega) (by rw [hb]; omega) (growslice_fits (by omega) (by rw [hb]; omega))
  rw [hk] at hrun
  have hge := grownCap_ge w (n + 1) cap 30
  have hnr := newRow_rw w A (grownCap w (n + 1) cap 30 - i) ((enc A).toArray ++ Builtin.zeroCells D.no.val.cells (n + 1 - i) ++ Builtin.zeroCells D.no.val.cells (grownCap w (n + 1) cap 30 - (n + 1))) (by
    rw [Array.toList_append, Array.toList_append, zero_cells, zero_cells, List.append_assoc, ← enc_append, List.replicate_append_replicate, show n + 1 - i + (grownCap w (n + 1) cap 30 - (n + 1)) = grownCap w (n + 1) cap 30 - i by omega])
  refine ⟨grownCap w (n + 1) cap 30, _, ?_, hge, grownCap_le_maxLen w _ _ 30 (by unfold maxLen; omega), hnr.1, hnr.2⟩
  intro ty
  rw [show (n : Int) + 1 - (i : Int) = ((n + 1 - i : Nat) : Int) by omega]
  exact hrun ty

theorem app_room (w : World) (b n cap bv c : Nat) (ds J : List D) (x d : D) (hn : ds.length = n) (hR : Rw w b (ds ++ x :: J)) (hv : Rw w bv [d]) (hc : n + 1 ≤ cap) :
    ∀ ty, (Builtin.append_ #[26, 26] ty #[.slice (some ⟨b, 0, none⟩) n cap, .slice (some ⟨bv, 0, none⟩) 1 c]).run Try.prog w = .ok (.slice (some ⟨b, 0, none⟩) (n + 1) cap) (w.setRow b (enc (ds ++ d :: J)).toArray) := fun ty => by
  obtain ⟨i, hi, hz, hs, hb⟩ := info30
  have hf := run_firstCells_some (P := Try.prog) w 4 1 ⟨bv, 0, none⟩ 1 c (enc [d]) rfl (by have := hv.run 0 [d] (by simp); simpa using this)
  have hst := store_row hR n [d] (by simp; omega)
  have hl : laid (ds ++ x :: J) n [d] = ds ++ d :: J := by subst hn; simp [laid]
  rw [hl] at hst
  have hadd : (⟨b, 0, none⟩ : Addr).add (n * 4) = ⟨b, n * 4, none⟩ := by unfold Addr.add; split <;> simp_all
  simp [Builtin.append_, run_underlying under26, sizeOf, typeInfo, hi, hs, Builtin.lenOf, hc, hf, hst, hadd]

theorem copy_row (w : World) (g o dLen dCap b p sLen sCap : Nat) (ds ss es : List D) (hg : Rw w g ds) (hb : Rw w b ss) (hn : es.length = Nat.min sLen dLen) (he : (ss.drop p).take es.length = es) (hfit : o + es.length ≤ ds.length) :
    ∀ ty, (Builtin.copy_ #[26, 26] ty #[.slice (some ⟨g, o * 4, none⟩) dLen dCap, .slice (some ⟨b, p * 4, none⟩) sLen sCap]).run Try.prog w = .ok (.int .i64 es.length) (w.setRow g (enc (laid ds o es)).toArray) := fun ty => by
  obtain ⟨i, hi, hz, hs, hb'⟩ := info30
  have hst := store_row hg o es hfit
  have hl := run_loadCells_list (P := Try.prog) w ⟨b, p * 4, none⟩ (enc es) (hb.run p es he)
  rw [show (enc es).length = es.length * 4 by rw [enc_length]; omega] at hl
  simp [Builtin.copy_, run_underlying under26, Builtin.lenOf, Builtin.firstCells, sizeOf, typeInfo, hi, hs, ← hn, hl, hst, goInt]

end Go.Proofs.Qxb6003736a.Diag
