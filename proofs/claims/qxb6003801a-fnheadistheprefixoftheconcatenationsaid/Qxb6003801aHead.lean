/- spool.Head (seat b6003801a). -/
import Derived.Test.Qxb6003801aClone
import Derived.Deep.RegionLawGrows
namespace Go.Proofs.Qxb6003801a.Blk
open Go.RowKit
set_option linter.unusedVariables false

/-- What Head hands back: the first blocks and the start of one, or all. -/
def HeadSpec (xs : List B) (n : Nat) (ys : List B) : Prop :=
  (∃ k m, k < xs.length ∧ n = tot xs k + m ∧ m ≤ (xs.getD k B.no).bs.length ∧ ys = xs.take k ++ [⟨(xs.getD k B.no).a, (xs.getD k B.no).cap, (xs.getD k B.no).bs.take m⟩]) ∨ (ys = xs ∧ tot xs xs.length ≤ n)

/-- What Head leaves. -/
structure Headed (w w' : World) (xs : List B) (n : Nat) (e : Ending) : Prop where
  out : ∃ a cap ys, e = .returned (.slice a ys.length cap) ∧ HeadSpec xs n ys ∧ Outer w' a ys
  below : Below w.heap.size w w'

set_option maxRecDepth 100000 in
set_option maxHeartbeats 1000000 in
theorem head16 (a : Option Addr) (len cap n : Nat) (xs : List B) (w : World) (hl : xs.length = len) (hlen : len ≤ 1048576) (hcap : len ≤ cap) (hcapm : cap ≤ maxLen) (hn : n ≤ 9223372036854775807) (hr : Outer w a xs) (hgood : ∀ k, k < xs.length → Good (xs.getD k B.no)) :
    Calls Try.prog 16 #[.slice a len cap, .int .i64 n] w fun e w' => Headed w w' xs n e := by
  obtain ⟨i34, hi, hz0, hz1, hz2⟩ := info_parts Try.info34
  unfold maxLen at hcapm
  have HL := hide hl
  have HG := hide hgood
  clear hl hgood
  have HR := hide hr
  rcases hr with h | ⟨b, off, rfl, hc⟩
  · have hl0 : len = 0 := by have := h.out; have := unhide HL; omega
    have hfin : Headed w w xs n (.returned (.slice a len cap)) := by
      have hx0 : xs.length = 0 := by have := unhide HL; omega
      refine ⟨⟨a, cap, xs, by rw [unhide HL], .inr ⟨rfl, by rw [hx0]; exact Nat.zero_le _⟩, unhide HR⟩, Below.refl _ _⟩
    have HF := hide hfin
    have hz : ¬ ((0 : Int) < (len : Int)) := by omega
    clear hfin h hl0
    go_enter Try.func16, Try.ntmps16
    go_wp2_with fail
    refine wp_loop_rounds 1 ?_; rw [rounds_succ]
    go_wp2
    go_ret
    exact unhide HF
  · have HCC := hide hc
    clear hc
    go_enter Try.func16, Try.ntmps16
    go_wp2_with fail
    go_loop [1, 9] (fun N I => ∃ (k m : Nat), k ≤ len ∧ m ≤ 9223372036854775807 ∧ I = .int .i64 k ∧ N = .int .i64 m ∧ Hid (n = tot xs k + m)) (fun _ I => len - (intOf I).toNat)
    case atStart => exact ⟨0, n, Nat.zero_le _, hn, rfl, rfl, by show n = tot xs 0 + n; simp [tot]⟩
    case round =>
      obtain ⟨k, m, hk, hm, rfl, rfl, HN⟩ := hrel
      by_cases hlt : k < len
      · have hkx : k < xs.length := by have := unhide HL; omega
        have hcell := unhide HCC k hkx
        have hg := unhide HG k hkx
        have hg1 := hg.len
        have hg2 := hg.max
        unfold B.val at hcell
        by_cases hmb : m ≤ (xs.getD k B.no).bs.length
        · obtain ⟨olds, holds⟩ : ∃ o, o = (xs.take k).map B.val := ⟨_, rfl⟩
          have hol : olds.length = k * 1 := by rw [holds]; simp; omega
          have hoc : ∀ j u, olds[j]? = some u → w.cell? ⟨b, off + j, none⟩ = some u := fun j u hu => by
            have hj : j < k := by
              have := (List.getElem?_eq_some_iff.1 hu).1
              omega
            rw [unhide HCC j (by omega), ← hu, holds]
            simp [show j < xs.length by omega, hj]
          have hbw : b < w.heap.size := World.block_lt_of_cell? w _ hcell
          obtain ⟨y, hy⟩ : ∃ y : B, y = ⟨(xs.getD k B.no).a, (xs.getD k B.no).cap, (xs.getD k B.no).bs.take m⟩ := ⟨_, rfl⟩
          have hyv : y.val = .slice (xs.getD k B.no).a m (xs.getD k B.no).cap := by
            rw [hy]; unfold B.val; rw [List.length_take, Nat.min_eq_left hmb]
          have hspec : HeadSpec xs n (xs.take k ++ [y]) := .inl ⟨k, m, hkx, unhide HN, hmb, by rw [hy]⟩
          have hylen : (xs.take k ++ [y]).length = k + 1 := by simp; omega
          have HSP := hide hspec
          have HYL := hide hylen
          clear hspec hylen hg
          generalize (xs.getD k B.no).bs.length = q at *
          generalize (xs.getD k B.no).a = am at *
          generalize (xs.getD k B.no).cap = cm at *
          have HY := hide hyv
          have HO := hide holds
          have HO1 := hide hol
          have HO2 : Hid (∀ b', some (⟨b, off, none⟩ : Addr) = some b' → ∀ j u, olds[j]? = some u → ((w.alloc (.cells #[.slice am m cm] 34)).drew).cell? (b'.add j) = some u) := fun b' hb' j u hu => by
            obtain rfl := Option.some.inj hb'
            rw [Addr.add_lit]
            show (w.alloc (.cells #[.slice am m cm] 34)).cell? ⟨b, off + j, none⟩ = some u
            rw [World.cell?_of_block (w := w) (a := ⟨b, off + j, none⟩) (Below.heap_alloc w _ b hbw)]
            exact hoc j u hu
          have HO3 : Hid (∀ j u, [Value.slice am m cm][j]? = some u → ((w.alloc (.cells #[.slice am m cm] 34)).drew).cell? ((⟨w.heap.size, 0, none⟩ : Addr).add j) = some u) := cell_one_new w _ _
          have HO4 : Hid (∀ u ∈ [Value.slice am m cm], u.oneCell' = true) := fun u hu => by simp at hu; subst hu; rfl
          have i0 : (m : Int) ≤ (cm : Int) := by omega
          have i1 : (k : Int) ≤ (cap : Int) := by omega
          clear hyv hy holds hol hoc
          go_wp2
          go_region_law (refine step_append_grows rfl (.tmp 21) (.tmp 25) 29 rfl 34 i34 (.slice none 0 0) 1 24 Try.underlying29 hi hz0 hz1 hz2 rfl (by decide) (some ⟨b, off, none⟩) k k olds (by simp [Act.eval]) (by simp) HO1.out HO2.out ⟨w.heap.size, 0, none⟩ 1 1 [.slice am m cm] (by simp [Act.eval]) rfl HO3.out HO4.out (by omega) (by unfold maxLen; omega) (by omega) ?_; intro v' w9 hownA hgrowA)
          obtain ⟨g, cg, hv⟩ : ∃ g cg, v' = .slice (some ⟨g, 0, none⟩) (k + 1) cg := by
            rcases hownA.2 with ⟨_, h0⟩ | ⟨g, cg, _, h0, _⟩
            · omega
            · exact ⟨g, cg, h0⟩
          rw [hv] at hownA ⊢
          have hout : Outer w9 (some ⟨g, 0, none⟩) (xs.take k ++ [y]) := by
            refine .inr ⟨g, 0, rfl, fun i hi' => ?_⟩
            rw [unhide HYL] at hi'
            rw [Nat.zero_add, hownA.cellAt i (by omega)]
            have e : olds ++ [.slice am m cm] = (xs.take k ++ [y]).map B.val := by rw [unhide HO, ← unhide HY]; simp
            rw [e, List.getElem?_map, List.getElem?_eq_getElem (by rw [unhide HYL]; exact hi')]
            simp [List.getD, List.getElem?_eq_getElem (show i < (xs.take k ++ [y]).length by rw [unhide HYL]; exact hi')]
          have hbel : Below w.heap.size w w9 := ((Below.refl _ _).alloc (Nat.le_refl _) _).drew.grown hgrowA (by simp [World.drew]) (fun k hk => by cases hk)
          have hfin : Headed w w9 xs n (.returned (.slice (some ⟨g, 0, none⟩) (k + 1) cg)) := ⟨⟨_, cg, xs.take k ++ [y], by rw [unhide HYL], unhide HSP, hout⟩, hbel⟩
          have HF := hide hfin
          clear hfin hout hbel hownA hgrowA hv HO HO1 HO2 HO3 HO4 HY HSP HYL
          go_wp2
          go_ret
          exact unhide HF
        · have HT : Hid (tot xs (k + 1) = tot xs k + (xs.getD k B.no).bs.length) := rfl
          clear hg
          generalize (xs.getD k B.no).bs.length = q at *
          generalize (xs.getD k B.no).a = am at *
          generalize (xs.getD k B.no).cap = cm at *
          go_wp2
          go_round
          case rel => exact ⟨k + 1, m - q, by omega, by omega, by go_num, by go_num, by show n = tot xs (k + 1) + (m - q); rw [unhide HT, unhide HN]; omega⟩
          case measure => simp [intOf]; omega
      · have hfin : Headed w w xs n (.returned (.slice (some ⟨b, off, none⟩) len cap)) := by
          have hx0 := unhide HL
          have hkl : k = len := by omega
          have := unhide HN
          refine ⟨⟨_, cap, xs, by rw [hx0], .inr ⟨rfl, by rw [hx0, ← hkl]; omega⟩, unhide HR⟩, Below.refl _ _⟩
        have HF := hide hfin
        clear hfin
        go_wp2
        go_ret
        exact unhide HF

end Go.Proofs.Qxb6003801a.Blk
