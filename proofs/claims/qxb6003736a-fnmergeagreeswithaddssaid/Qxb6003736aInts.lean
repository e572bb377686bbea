/- The small checks over []int (seat b6003736a). -/
import Derived.Test.Qxb6003736aLaw2
import Derived.WalkLawsBesides
import Derived.Below
namespace Go.Proofs.Qxb6003736a.Diag
open Go.RowKit
set_option linter.unusedVariables false

theorem info3 : (Try.prog.info? 3).map (fun i => (i.zero, i.size, i.bytes)) = some (some (.int .i64 0), 1, 8) := by kernel_rfl

/-- The slice's first cells hold these numbers. -/
def IRow (w : World) (a : Option Addr) (zs : List Int) : Prop :=
  Hid (zs.length < 1) ∨ ∃ b off, a = some ⟨b, off, none⟩ ∧ ∀ k, k < zs.length → w.cell? ⟨b, off + k, none⟩ = some (.int .i64 (zs.getD k 0))
theorem IRow.below {w w' : World} {a : Option Addr} {zs : List Int} (h : IRow w a zs) (hb : Below w.heap.size w w') : IRow w' a zs := by
  rcases h with h | ⟨b, off, ha, hc⟩
  · exact .inl h
  · exact .inr ⟨b, off, ha, fun k hk => (hb.cell (p := ⟨b, off + k, none⟩) (World.block_lt_of_cell? w _ (hc k hk))).trans (hc k hk)⟩
theorem IRow.at {w : World} {a : Option Addr} {zs : List Int} (h : IRow w a zs) (k : Nat) (hk : k < zs.length) : ∃ b off, a = some ⟨b, off, none⟩ ∧ w.cell? ⟨b, off + k, none⟩ = some (.int .i64 (zs.getD k 0)) := by
  rcases h with h | ⟨b, off, ha, hc⟩
  · exact absurd (show zs.length < 1 from h) (by omega)
  · exact ⟨b, off, ha, hc k hk⟩

/-- It answers a bool, and true only where P. -/
def Says (P : Prop) (e : Ending) : Prop := ∃ r : Bool, e = .returned (.bool r) ∧ (r = true → P)
theorem Says.yes {P : Prop} {e : Ending} (he : e = .returned (.bool true)) (h : P) : Says P e := ⟨true, he, fun _ => h⟩
theorem Says.no {P : Prop} {e : Ending} (he : e = .returned (.bool false)) : Says P e := ⟨false, he, fun h => by cases h⟩

theorem bytes6 (a0 : Option Addr) (l0 c0 : Nat) (a1 : Option Addr) (l1 c1 : Nat) (w : World) (h0 : l0 ≤ maxLen) (h1 : l1 ≤ maxLen) :
    Calls Try.prog 6 #[.slice a0 l0 c0, .slice a1 l1 c1] w fun e w' => Says True e ∧ w' = w := by
  unfold maxLen at h0 h1
  go_enter Try.func6, Try.ntmps6
  go_wp2
  all_goals
    go_ret
    first
      | exact ⟨.no rfl, rfl⟩
      | exact ⟨.yes rfl trivial, rfl⟩

set_option maxRecDepth 100000 in
theorem inBounds7 (a : Option Addr) (len cap : Nat) (zs : List Int) (w : World) (hl : zs.length = len) (hlen : len ≤ 1048576) (hr : IRow w a zs) :
    Calls Try.prog 7 #[.slice a len cap] w fun e w' => Says (∀ z ∈ zs, -536870912 ≤ z ∧ z ≤ 536870912) e ∧ w' = w := by
  have HL := hide hl
  have HR := hide hr
  clear hl hr
  go_enter Try.func7, Try.ntmps7
  go_wp2_with fail
  go_loopw [3] (fun I wr => ∃ k : Nat, k ≤ len ∧ I = .int .i64 k ∧ w = wr ∧ Hid (∀ i, i < k → -536870912 ≤ zs.getD i 0 ∧ zs.getD i 0 ≤ 536870912)) (fun I _ => len - (intOf I).toNat)
  case atStart => exact ⟨0, Nat.zero_le _, rfl, rfl, fun i hi => by omega⟩
  case round =>
    obtain ⟨k, hk, rfl, rfl, HK⟩ := hrel
    by_cases hlt : k < len
    · obtain ⟨b, off, rfl, hc⟩ := (unhide HR).at k (by rw [unhide HL]; exact hlt)
      obtain ⟨x, hx⟩ : ∃ x, zs.getD k 0 = x := ⟨_, rfl⟩
      rw [hx] at hc
      have HX := hide hx
      clear hx
      by_cases h1 : x < -536870912
      · have h1' : decide (x < -536870912) = true := decide_eq_true h1
        go_wp2
        go_ret
        exact ⟨.no rfl, rfl⟩
      · have h1' : decide (x < -536870912) = false := decide_eq_false h1
        by_cases h2 : 536870912 < x
        · go_wp2
          go_ret
          exact ⟨.no rfl, rfl⟩
        · go_wp2
          go_roundw
          case rel =>
            refine ⟨k + 1, by omega, by go_num, by trivial, fun i hi => ?_⟩
            rcases Nat.lt_or_ge i k with h | h
            · exact unhide HK i h
            · obtain rfl : i = k := by omega
              rw [unhide HX]
              omega
          case measure => simp [intOf]; omega
    · go_wp2
      go_ret
      refine ⟨.yes rfl (fun z hz => ?_), rfl⟩
      obtain ⟨j, hj, rfl⟩ := List.getElem_of_mem hz
      have := unhide HK j (by have := unhide HL; omega)
      rw [show zs.getD j 0 = zs[j] by simp [List.getD, hj]] at this
      exact this

set_option maxRecDepth 100000 in
theorem disjoint9 (a0 : Option Addr) (l0 c0 : Nat) (z0 : List Int) (a1 : Option Addr) (l1 c1 : Nat) (z1 : List Int) (w : World) (h0 : z0.length = l0) (hb0 : l0 ≤ 1048576) (h1 : z1.length = l1) (hb1 : l1 ≤ 1048576) (r0 : IRow w a0 z0) (r1 : IRow w a1 z1) :
    Calls Try.prog 9 #[.slice a0 l0 c0, .slice a1 l1 c1] w fun e w' => Says (∀ x ∈ z0, ∀ y ∈ z1, x ≠ y) e ∧ Below w.heap.size w w' := by
  have H0 := hide h0
  have H1 := hide h1
  have R0 := hide r0
  have R1 := hide r1
  clear h0 h1 r0 r1
  go_enter Try.func9, Try.ntmps9
  go_wp2_with fail
  go_loopw [5] (fun I wr => ∃ k : Nat, k ≤ l0 ∧ I = .int .i64 k ∧ Below w.heap.size w wr ∧ Hid (∀ i, i < k → ∀ y ∈ z1, z0.getD i 0 ≠ y)) (fun I _ => l0 - (intOf I).toNat)
  case atStart => exact ⟨0, Nat.zero_le _, rfl, Below.refl _ _, fun i hi => by omega⟩
  case round =>
    obtain ⟨k, hk, rfl, hbe, HK⟩ := hrel
    by_cases hlt : k < l0
    · obtain ⟨b, off, rfl, hc⟩ := (unhide R0).at k (by rw [unhide H0]; exact hlt)
      obtain ⟨x, hx⟩ : ∃ x, z0.getD k 0 = x := ⟨_, rfl⟩
      rw [hx] at hc
      have HX := hide hx
      have hblt : b < w.heap.size := World.block_lt_of_cell? w _ hc
      clear hx
      generalize wr = W at *
      go_wp2_with fail
      go_loopw [6] (fun J wr => ∃ j : Nat, j ≤ l1 ∧ J = .int .i64 j ∧ Below w.heap.size w wr ∧ Hid (∀ i, i < j → x ≠ z1.getD i 0)) (fun J _ => l1 - (intOf J).toNat)
      case atStart => exact ⟨0, Nat.zero_le _, rfl, hbe, fun i hi => by omega⟩
      case round =>
        clear hbe
        obtain ⟨j, hj, rfl, hbe, HJ⟩ := hrel
        by_cases hlt1 : j < l1
        · obtain ⟨b1, off1, rfl, hc1⟩ := (unhide R1).at j (by rw [unhide H1]; exact hlt1)
          obtain ⟨y, hy⟩ : ∃ y, z1.getD j 0 = y := ⟨_, rfl⟩
          rw [hy] at hc1
          have HY := hide hy
          have d0 := (hbe.cell (p := ⟨b, off + k, none⟩) hblt).trans hc
          have d1 := (hbe.cell (p := ⟨b1, off1 + j, none⟩) (World.block_lt_of_cell? w _ hc1)).trans hc1
          clear hy hc hc1
          by_cases hxy : x = y
          · go_wp2_with fail
            go_quiet (fail)
            go_wp2
            go_ret
            exact ⟨.no rfl, ⟨hbe.os, hbe.tape, hbe.output, hbe.size, hbe.block⟩⟩
          · go_wp2_with fail
            go_quiet (fail)
            go_wp2
            go_roundw
            case rel =>
              refine ⟨j + 1, by omega, by go_num, ⟨hbe.os, hbe.tape, hbe.output, hbe.size, hbe.block⟩, fun i hi => ?_⟩
              rcases Nat.lt_or_ge i j with h | h
              · exact unhide HJ i h
              · obtain rfl : i = j := by omega
                rw [unhide HY]
                exact hxy
            case measure => simp [intOf]; omega
        · go_wp2
          go_roundw
          case rel =>
            refine ⟨k + 1, by omega, by go_num, hbe, fun i hi y hy => ?_⟩
            rcases Nat.lt_or_ge i k with h | h
            · exact unhide HK i h y hy
            · obtain rfl : i = k := by omega
              rw [unhide HX]
              obtain ⟨m, hm, rfl⟩ := List.getElem_of_mem hy
              have := unhide HJ m (by have := unhide H1; omega)
              rw [show z1.getD m 0 = z1[m] by simp [List.getD, hm]] at this
              exact this
          case measure => simp [intOf]; omega
    · go_wp2
      go_ret
      refine ⟨.yes rfl (fun z hz y hy => ?_), hbe⟩
      obtain ⟨j, hj, rfl⟩ := List.getElem_of_mem hz
      have := unhide HK j (by have := unhide H0; omega) y hy
      rw [show z0.getD j 0 = z0[j] by simp [List.getD, hj]] at this
      exact this

end Go.Proofs.Qxb6003736a.Diag
