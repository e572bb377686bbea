/- Rows of diagnostics in memory (seat b6003736a). -/
import Derived.Test.Qxb6003736aProg
import Derived.WalkKit
import Derived.WalkLawsBesides
import Derived.Deep.QuietTactic
import Derived.BigQuiet
import Derived.BigRegion
import Derived.RegionTactic
namespace Go.Proofs.Qxb6003736a.Diag
open Go.RowKit
set_option linter.unusedVariables false

theorem hide {p : Prop} (h : p) : Hid p := h
theorem unhide {p : Prop} (h : Hid p) : p := h

/-- A diagnostic. -/
structure D where
  line : Int
  fl : Int
  txt : ByteArray
  warn : Bool

def D.no : D := ⟨0, 0, ByteArray.empty, false⟩
def D.cells (d : D) : List Value := [.int .i64 d.line, .int .i64 d.fl, .string d.txt, .bool d.warn]
def D.val (d : D) : Value := .agg #[.int .i64 d.line, .int .i64 d.fl, .string d.txt, .bool d.warn]

/-- The cells of a row. -/
def enc (ds : List D) : List Value := ds.flatMap D.cells
theorem enc_length (ds : List D) : (enc ds).length = 4 * ds.length := by
  induction ds with
  | nil => rfl
  | cons d ds ih => rw [enc, List.flatMap_cons, List.length_append, ← enc, ih]; simp [D.cells]; omega
theorem enc_get (ds : List D) (i j : Nat) (hi : i < ds.length) (hj : j < 4) : (enc ds)[i * 4 + j]? = (ds.getD i D.no).cells[j]? := by
  induction ds generalizing i with
  | nil => simp at hi
  | cons d ds ih =>
    have e : enc (d :: ds) = d.cells ++ enc ds := rfl
    have hl : d.cells.length = 4 := rfl
    cases i with
    | zero => rw [e, List.getElem?_append_left (by omega)]; simp
    | succ i =>
      rw [e, List.getElem?_append_right (by omega), hl, show (i + 1) * 4 + j - 4 = i * 4 + j by omega, ih i (by simpa using hi)]
      simp
theorem enc_set (ds : List D) (i : Nat) (d : D) (hi : i < ds.length) :
    ((((enc ds).set (i * 4) (.int .i64 d.line)).set (i * 4 + 1) (.int .i64 d.fl)).set (i * 4 + 2) (.string d.txt)).set (i * 4 + 3) (.bool d.warn) = enc (ds.set i d) := by
  induction ds generalizing i with
  | nil => simp at hi
  | cons c ds ih =>
    have e : ∀ (c : D) ds, enc (c :: ds) = .int .i64 c.line :: .int .i64 c.fl :: .string c.txt :: .bool c.warn :: enc ds := fun c ds => rfl
    cases i with
    | zero => rw [e]; simp [e]
    | succ i =>
      rw [e, List.set_cons_succ, e, ← ih i (by simpa using hi)]
      rw [show (i + 1) * 4 + 1 = i * 4 + 1 + 4 by omega, show (i + 1) * 4 + 2 = i * 4 + 2 + 4 by omega, show (i + 1) * 4 + 3 = i * 4 + 3 + 4 by omega, show (i + 1) * 4 = i * 4 + 4 by omega]
      simp

/-- Block b is a row of these diagnostics. -/
def Rw (w : World) (b : Nat) (ds : List D) : Prop := w.heap[b]? = some (.cells (enc ds).toArray 30 (0, 0))

theorem Rw.cell {w : World} {b : Nat} {ds : List D} (h : Rw w b ds) (i : Nat) (hi : i < ds.length) :
    w.cell? ⟨b, i * 4, none⟩ = some (.int .i64 (ds.getD i D.no).line) ∧ w.cell? ⟨b, i * 4 + 1, none⟩ = some (.int .i64 (ds.getD i D.no).fl) ∧
    w.cell? ⟨b, i * 4 + 2, none⟩ = some (.string (ds.getD i D.no).txt) ∧ w.cell? ⟨b, i * 4 + 3, none⟩ = some (.bool (ds.getD i D.no).warn) := by
  have c : ∀ j, j < 4 → w.cell? ⟨b, i * 4 + j, none⟩ = (ds.getD i D.no).cells[j]? := fun j hj => by
    rw [← enc_get ds i j hi hj]
    unfold Rw at h
    simp [World.cell?, h]
  exact ⟨by have := c 0 (by omega); simpa [D.cells] using this, by have := c 1 (by omega); simpa [D.cells] using this, by have := c 2 (by omega); simpa [D.cells] using this, by have := c 3 (by omega); simpa [D.cells] using this⟩
theorem Rw.free {w : World} {b : Nat} {ds : List D} (h : Rw w b ds) (k : Nat) : w.frozen? ⟨b, k, none⟩ = false := by
  unfold Rw at h
  simp [World.frozen?, h]
theorem Rw.lt {w : World} {b : Nat} {ds : List D} (h : Rw w b ds) : b < w.heap.size := lt_of_block h
theorem Rw.drew {w : World} {b : Nat} {ds : List D} (h : Rw w b ds) : Rw w.drew b ds := h
theorem Rw.same {w w' : World} {b : Nat} {ds : List D} (h : Rw w b ds) (hb : w'.heap[b]? = w.heap[b]?) : Rw w' b ds := by unfold Rw; rw [hb]; exact h
theorem heap_setCell_at {w : World} {b k : Nat} {c : Array Value} {t : TypeId} {fz : Nat × Nat} {v : Value} (h : w.heap[b]? = some (.cells c t fz)) : (w.setCell ⟨b, k, none⟩ v).heap[b]? = some (.cells (c.setIfInBounds k v) t fz) := by
  have hlt := lt_of_block h
  have h' : w.heap[b] = .cells c t fz := by simpa [Array.getElem?_eq_getElem hlt] using h
  show (w.heap.modify b _)[b]? = _
  rw [Array.getElem?_eq_getElem (by simpa using hlt), Array.getElem_modify_self, h']
  rfl
theorem Rw.set {w : World} {b : Nat} {ds : List D} (h : Rw w b ds) (i : Nat) (hi : i < ds.length) (d : D) :
    Rw ((((w.setCell ⟨b, i * 4, none⟩ (.int .i64 d.line)).setCell ⟨b, i * 4 + 1, none⟩ (.int .i64 d.fl)).setCell ⟨b, i * 4 + 2, none⟩ (.string d.txt)).setCell ⟨b, i * 4 + 3, none⟩ (.bool d.warn)) b (ds.set i d) := by
  unfold Rw
  rw [heap_setCell_at (heap_setCell_at (heap_setCell_at (heap_setCell_at h))), ← enc_set ds i d hi]
  simp

/-- Element i is written. -/
def put (w : World) (b i : Nat) (d : D) : World :=
  (((w.setCell ⟨b, i * 4, none⟩ (.int .i64 d.line)).setCell ⟨b, i * 4 + 1, none⟩ (.int .i64 d.fl)).setCell ⟨b, i * 4 + 2, none⟩ (.string d.txt)).setCell ⟨b, i * 4 + 3, none⟩ (.bool d.warn)
theorem Rw.put {w : World} {b : Nat} {ds : List D} (h : Rw w b ds) (i : Nat) (hi : i < ds.length) (d : D) : Rw (Diag.put w b i d) b (ds.set i d) := h.set i hi d
theorem put_grown (w : World) (b i : Nat) (d : D) : w.grownBy (Diag.put w b i d) (some b) := by
  refine ⟨rfl, rfl, rfl, by simp [Diag.put, World.setCell], fun k _ hk => ?_⟩
  have hkb : k ≠ b := fun e => hk (by rw [e])
  unfold Diag.put
  rw [Below.heap_setCell _ _ _ _ hkb, Below.heap_setCell _ _ _ _ hkb, Below.heap_setCell _ _ _ _ hkb, Below.heap_setCell _ _ _ _ hkb]
theorem grown_trans {a b c : World} {row : Option Nat} (h : a.grownBy b row) (k : b.grownBy c row) : a.grownBy c row :=
  ⟨k.os.trans h.os, k.tape.trans h.tape, k.output.trans h.output, Nat.le_trans h.size k.size, fun i hi hne => (k.block i (Nat.lt_of_lt_of_le hi h.size) hne).trans (h.block i hi hne)⟩
theorem grown_drew {a b : World} {row : Option Nat} (h : a.grownBy b row) : a.grownBy b.drew row := ⟨h.os, h.tape, h.output, h.size, h.block⟩

/-- The swaps so far: the first k of the pairs (a + i, b + i). -/
def swp (ds : List D) (a b : Nat) : Nat → List D
  | 0 => ds
  | k + 1 => ((swp ds a b k).set (a + k) ((swp ds a b k).getD (b + k) D.no)).set (b + k) ((swp ds a b k).getD (a + k) D.no)
theorem swp_length (ds : List D) (a b k : Nat) : (swp ds a b k).length = ds.length := by
  induction k with
  | zero => rfl
  | succ k ih => rw [swp, List.length_set, List.length_set, ih]

set_option maxRecDepth 100000 in
set_option maxHeartbeats 1000000 in
theorem swapRange39 (B n a b k : Nat) (f : Value) (ds : List D) (w : World) (hl : ds.length = n) (hn : n ≤ 1048576) (hab : a + k ≤ b) (hb : b + k ≤ n) (hR : Rw w B ds) :
    Calls Try.prog 39 #[.slice (some ⟨B, 0, none⟩) n n, .int .i64 a, .int .i64 b, .int .i64 k, f] w fun e w' => e = .returned (.tuple #[]) ∧ Rw w' B (swp ds a b k) ∧ w.grownBy w' (some B) := by
  have HL := hide hl
  clear hl
  go_enter Try.func39, Try.ntmps39
  go_wp2_with fail
  go_loopw [10] (fun I wr => ∃ i : Nat, i ≤ k ∧ I = .int .i64 i ∧ Rw wr B (swp ds a b i) ∧ w.grownBy wr (some B)) (fun I _ => k - (intOf I).toNat)
  case atStart => exact ⟨0, Nat.zero_le _, rfl, hR, World.grownBy.refl _ _⟩
  case round =>
    obtain ⟨i, hi, rfl, hR, hg⟩ := hrel
    by_cases hik : i < k
    · have hlen : (swp ds a b i).length = n := by rw [swp_length]; exact unhide HL
      obtain ⟨a1, a2, a3, a4⟩ := hR.cell (a + i) (by omega)
      obtain ⟨b1, b2, b3, b4⟩ := hR.cell (b + i) (by omega)
      have fr := fun k => hR.free k
      have hN : Rw (put (put wr B (a + i) ((swp ds a b i).getD (b + i) D.no)) B (b + i) ((swp ds a b i).getD (a + i) D.no)) B (swp ds a b (i + 1)) :=
        (hR.put (a + i) (by omega) _).put (b + i) (by rw [List.length_set]; omega) _
      have hgN := grown_trans hg (grown_trans (put_grown wr B (a + i) ((swp ds a b i).getD (b + i) D.no)) (put_grown _ B (b + i) ((swp ds a b i).getD (a + i) D.no)))
      unfold put at hN hgN
      have HNN := hide hN
      have HG := hide hgN
      clear hN hgN hR hg
      generalize (swp ds a b i).getD (a + i) D.no = x at *
      generalize (swp ds a b i).getD (b + i) D.no = y at *
      go_wp2
      go_region
      go_wp2
      go_roundw
      case rel => exact ⟨i + 1, by omega, by go_num, (unhide HNN).drew, grown_drew (unhide HG)⟩
      case measure => simp [intOf]; omega
    · go_wp2
      go_end0
      obtain rfl : i = k := by omega
      exact ⟨rfl, hR, hg⟩

end Go.Proofs.Qxb6003736a.Diag
