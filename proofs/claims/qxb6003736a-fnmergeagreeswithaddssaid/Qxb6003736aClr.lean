/- Stores of runs of diagnostics, and clear (seat b6003736a). -/
import Derived.Test.Qxb6003736aSrch
import Derived.Laws.CopyRow
namespace Go.Proofs.Qxb6003736a.Diag
open Go.RowKit
set_option linter.unusedVariables false

theorem enc_append (a b : List D) : enc (a ++ b) = enc a ++ enc b := List.flatMap_append
theorem enc_take : ∀ (ds : List D) (k : Nat), (enc ds).take (k * 4) = enc (ds.take k)
  | [], k => by simp [enc]
  | d :: ds, 0 => by simp [enc]
  | d :: ds, k + 1 => by
    have e : ∀ (c : D) ds, enc (c :: ds) = .int .i64 c.line :: .int .i64 c.fl :: .string c.txt :: .bool c.warn :: enc ds := fun c ds => rfl
    rw [e, List.take_succ_cons, e, ← enc_take ds k, show (k + 1) * 4 = k * 4 + 4 by omega]
    simp
theorem enc_drop : ∀ (ds : List D) (k : Nat), (enc ds).drop (k * 4) = enc (ds.drop k)
  | [], k => by simp [enc]
  | d :: ds, 0 => by simp
  | d :: ds, k + 1 => by
    have e : ∀ (c : D) ds, enc (c :: ds) = .int .i64 c.line :: .int .i64 c.fl :: .string c.txt :: .bool c.warn :: enc ds := fun c ds => rfl
    rw [e, List.drop_succ_cons, ← enc_drop ds k, show (k + 1) * 4 = k * 4 + 4 by omega]
    simp
theorem enc_one (ds : List D) : ∀ v ∈ enc ds, v.oneCell' = true := fun v hv => by
  rw [enc, List.mem_flatMap] at hv
  obtain ⟨d, _, hd⟩ := hv
  simp [D.cells] at hd
  rcases hd with rfl | rfl | rfl | rfl <;> rfl

theorem setRow_grown (w : World) (B : Nat) (x : Array Value) : w.grownBy (w.setRow B x) (some B) := by
  refine ⟨rfl, rfl, rfl, by simp [World.setRow], fun k _ hk => ?_⟩
  have hkb : k ≠ B := fun e => hk (by rw [e])
  simp [World.setRow, Array.getElem?_modify, Ne.symm hkb]
theorem Rw.setRow {w : World} {B : Nat} {ds : List D} (h : Rw w B ds) (es : List D) : Rw (w.setRow B (enc es).toArray) B es := setRow_heap w B _ _ 30 _ h

/-- A run of elements is stored. -/
def laid (ds : List D) (k : Nat) (es : List D) : List D := ds.take k ++ es ++ ds.drop (k + es.length)
theorem laid_length (ds : List D) (k : Nat) (es : List D) (h : k + es.length ≤ ds.length) : (laid ds k es).length = ds.length := by simp [laid]; omega
theorem store_row {w : World} {B : Nat} {ds : List D} (h : Rw w B ds) (k : Nat) (es : List D) (hk : k + es.length ≤ ds.length) :
    (storeCells ⟨B, k * 4, none⟩ (enc es)).run Try.prog w = .ok () (w.setRow B (enc (laid ds k es)).toArray) := by
  have h0 := run_storeCells_at Try.prog B (k * 4) 30 (enc es) 0 (enc ds).toArray w h (by simp [enc_length]; omega) (enc_one es)
  rw [h0]
  congr 3
  rw [laid, enc_append, enc_append, ← enc_take, ← enc_drop, enc_length]
  simp [Nat.add_mul, Nat.mul_comm 4]

theorem zero_cells (n : Nat) : (Builtin.zeroCells (D.no.val).cells n).toList = enc (List.replicate n D.no) := by
  have hc : (D.no.val).cells = D.no.cells.toArray := rfl
  apply List.ext_getElem?
  intro i
  rw [hc]
  by_cases hi : i < n * 4
  · have h1 := enc_get (List.replicate n D.no) (i / 4) (i % 4) (by simp; omega) (by omega)
    rw [show i / 4 * 4 + i % 4 = i by omega] at h1
    rw [h1]
    have hd : (List.replicate n D.no).getD (i / 4) D.no = D.no := by
      rw [List.getD, List.getElem?_replicate]
      split <;> rfl
    rw [hd]
    have hs : D.no.cells.toArray.size = 4 := rfl
    simp only [Builtin.zeroCells, hs]
    rw [Array.getElem?_toList, Array.getElem?_map, Array.getElem?_range, if_pos hi]
    have : i % 4 = 0 ∨ i % 4 = 1 ∨ i % 4 = 2 ∨ i % 4 = 3 := by omega
    rcases this with h | h | h | h <;> rw [Option.map_some, h] <;> rfl
  · have hs : D.no.cells.toArray.size = 4 := rfl
    rw [List.getElem?_eq_none (by simp [Builtin.zeroCells, hs]; omega), List.getElem?_eq_none (by rw [enc_length]; simp; omega)]

theorem clear_row {w : World} {B : Nat} {ds : List D} (h : Rw w B ds) (k n c : Nat) (ty : TypeId) (hn : 0 < n) (hk : k + n = ds.length) :
    (Builtin.clear_ #[26] ty #[.slice (some ⟨B, k * 4, none⟩) n c]).run Try.prog w = .ok (.tuple #[]) (w.setRow B (enc (ds.take k ++ List.replicate n D.no)).toArray) := by
  have hst := store_row h k (List.replicate n D.no) (by simp; omega)
  have hl : laid ds k (List.replicate n D.no) = ds.take k ++ List.replicate n D.no := by simp [laid, hk]
  rw [hl] at hst
  have hz : ∀ w, (zeroValue 30).run Try.prog w = .ok D.no.val w := fun w => by rfl
  have hu : Try.prog.underlying 26 = some (.slice 30) := by rfl
  obtain ⟨m, rfl⟩ : ∃ m, n = m + 1 := ⟨n - 1, by omega⟩
  simp [Builtin.clear_, run_underlying hu, hz, zero_cells, hst]

end Go.Proofs.Qxb6003736a.Diag
