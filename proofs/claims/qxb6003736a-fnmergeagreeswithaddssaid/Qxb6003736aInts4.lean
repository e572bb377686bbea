/- zzDistinct (seat b6003736a). -/
import Derived.Test.Qxb6003736aInts3
namespace Go.Proofs.Qxb6003736a.Diag
open Go.RowKit
set_option linter.unusedVariables false

set_option maxRecDepth 100000 in
set_option maxHeartbeats 1000000 in
theorem distinct8 (a : Option Addr) (len cap : Nat) (zs : List Int) (w : World) (hl : zs.length = len) (hlen : len ≤ 1048576) (hr : IRow w a zs) :
    Calls Try.prog 8 #[.slice a len cap] w fun e w' => Says zs.Nodup e ∧ Below w.heap.size w w' := by
  have HS := hide (sorted21 a len cap zs w hl hlen hr)
  have HL := hide hl
  clear hl hr
  go_enter Try.func8, Try.ntmps8
  go_wp2_with fail
  refine (unhide HS).mono ?_
  rintro _ W ⟨⟨Y, rfl, hO, hW⟩, hB⟩
  rw [unhide HL]
  have HYL : Hid (Y.length = len) := hO.len.trans (unhide HL)
  have HO := hide hO
  have HW := hide hW
  clear HS hO hW
  go_wp2_with fail
  go_loopw [4] (fun I wr => ∃ q : Nat, q ≤ len ∧ I = .int .i64 ((q + 1 : Nat) : Int) ∧ Below w.heap.size w wr ∧ Hid (wr.heap[w.heap.size]? = W.heap[w.heap.size]?) ∧ Hid (∀ i, 1 ≤ i → i < q + 1 → Y.getD i 0 ≠ Y.getD (i - 1) 0)) (fun I _ => len + 1 - (intOf I).toNat)
  case atStart => exact ⟨0, by omega, rfl, hB, rfl, fun i h1 h2 => by omega⟩
  case round =>
    clear hB
    obtain ⟨q, hq, rfl, hbe, HE, HK⟩ := hrel
    by_cases hlt : q + 1 < len
    · have hW := (unhide HW).same (unhide HE)
      have hYl := unhide HYL
      have c1 := hW.cell q (by omega)
      have c2 := hW.cell (q + 1) (by omega)
      obtain ⟨x, hx⟩ : ∃ x, Y.getD q 0 = x := ⟨_, rfl⟩
      obtain ⟨y, hy⟩ : ∃ y, Y.getD (q + 1) 0 = y := ⟨_, rfl⟩
      rw [hx] at c1
      rw [hy] at c2
      have HX := hide hx
      have HY := hide hy
      clear hW hYl hx hy
      by_cases hxy : y = x
      · go_wp2_with fail
        go_quiet (fail)
        go_wp2
        go_ret
        exact ⟨.no rfl, ⟨hbe.os, hbe.tape, hbe.output, hbe.size, hbe.block⟩⟩
      · go_wp2_with fail
        go_quiet (fail)
        go_wp2
        go_roundw
        case rel =>
          refine ⟨q + 1, by omega, by go_num, ⟨hbe.os, hbe.tape, hbe.output, hbe.size, hbe.block⟩, unhide HE, fun i h1 h2 => ?_⟩
          rcases Nat.lt_or_ge i (q + 1) with h | h
          · exact unhide HK i h1 h
          · obtain rfl : i = q + 1 := by omega
            rw [Nat.add_sub_cancel, unhide HX, unhide HY]
            exact hxy
        case measure => simp [intOf]; omega
    · go_wp2
      go_ret
      exact ⟨.yes rfl ((unhide HO).nodup fun i h1 h2 => unhide HK i h1 (by have := unhide HYL; omega)), hbe⟩

end Go.Proofs.Qxb6003736a.Diag
