/- Contracts over [][]byte (seat b6003801a): the bounds, equality, prefix, flatten. -/
import Derived.Test.Qxb6003801aProg
import Derived.WalkKit
import Derived.WalkLawsBesides
import Derived.Deep.QuietTactic
import Derived.BigQuiet
import Derived.Maps.AppendAt
namespace Go.Proofs.Qxb6003801a.Blk
open Go.RowKit
set_option linter.unusedVariables false

theorem hide {p : Prop} (h : p) : Hid p := h
theorem unhide {p : Prop} (h : Hid p) : p := h

theorem Try.info5 : (Try.prog.info? 5).map (fun i => (i.zero, i.size, i.bytes)) = some (some (.int .u8 0), 1, 1) := by kernel_rfl
theorem Try.info34 : (Try.prog.info? 34).map (fun i => (i.zero, i.size, i.bytes)) = some (some (.slice none 0 0), 1, 24) := by kernel_rfl

/-- A block: where it lies, its capacity, its bytes. -/
structure B where
  a : Option Addr
  cap : Nat
  bs : List Int

/-- The slice value of a block. -/
def B.val (x : B) : Value := .slice x.a x.bs.length x.cap
/-- No block. -/
def B.no : B := ⟨none, 0, []⟩

/-- The slice's first cells hold these bytes. -/
def BRow (w : World) (a : Option Addr) (bs : List Int) : Prop :=
  Hid (bs.length < 1) ∨ ∃ b off, a = some ⟨b, off, none⟩ ∧ ∀ k, k < bs.length → w.cell? ⟨b, off + k, none⟩ = some (.int .u8 (bs.getD k 0))

/-- The outer slice's first cells hold these blocks. -/
def Outer (w : World) (a : Option Addr) (xs : List B) : Prop :=
  Hid (xs.length < 1) ∨ ∃ b off, a = some ⟨b, off, none⟩ ∧ ∀ k, k < xs.length → w.cell? ⟨b, off + k, none⟩ = some (xs.getD k B.no).val

/-- Each block lies in memory. -/
def Inner (w : World) (xs : List B) : Prop := ∀ k, k < xs.length → BRow w (xs.getD k B.no).a (xs.getD k B.no).bs ∧ (xs.getD k B.no).bs.length ≤ maxLen

theorem BRow.below {w w' : World} {a : Option Addr} {zs : List Int} (h : BRow w a zs) (hb : Below w.heap.size w w') : BRow w' a zs := by
  rcases h with h | ⟨b, off, ha, hc⟩
  · exact .inl h
  · exact .inr ⟨b, off, ha, fun k hk => (hb.cell (p := ⟨b, off + k, none⟩) (World.block_lt_of_cell? w _ (hc k hk))).trans (hc k hk)⟩
theorem Outer.below {w w' : World} {a : Option Addr} {zs : List B} (h : Outer w a zs) (hb : Below w.heap.size w w') : Outer w' a zs := by
  rcases h with h | ⟨b, off, ha, hc⟩
  · exact .inl h
  · exact .inr ⟨b, off, ha, fun k hk => (hb.cell (p := ⟨b, off + k, none⟩) (World.block_lt_of_cell? w _ (hc k hk))).trans (hc k hk)⟩
theorem Inner.below {w w' : World} {zs : List B} (h : Inner w zs) (hb : Below w.heap.size w w') : Inner w' zs := fun k hk => ⟨(h k hk).1.below hb, (h k hk).2⟩

/-- The blocks' lengths, summed over the first k. -/
def tot (xs : List B) : Nat → Nat
  | 0 => 0
  | k + 1 => tot xs k + (xs.getD k B.no).bs.length

/-- It answers a bool; where that is true the lengths are small. -/
def RetB (xs : List B) (e : Ending) : Prop := ∃ r : Bool, e = .returned (.bool r) ∧ (r = true → xs.length + tot xs xs.length ≤ 1048576)
theorem RetB.mk {xs : List B} {e : Ending} (r : Bool) (h : e = .returned (.bool r)) (h2 : r = true → xs.length + tot xs xs.length ≤ 1048576) : RetB xs e := ⟨r, h, h2⟩
def RetI (e : Ending) : Prop := ∃ r : Int, e = .returned (.int .i64 r)
theorem RetI.mk {e : Ending} (r : Int) (h : e = .returned (.int .i64 r)) : RetI e := ⟨r, h⟩

theorem bytes13 (a : Option Addr) (len cap : Nat) (n : Int) (xs : List B) (w : World) (hl : xs.length = len) (hlen : len ≤ maxLen) (hr : Outer w a xs) (hin : Inner w xs) :
    Calls Try.prog 13 #[.slice a len cap, .int .i64 n] w fun e w' => RetB xs e ∧ w' = w := by
  unfold maxLen at hlen
  have HIN := hide hin
  clear hin
  rcases hr with h | ⟨b, off, rfl, hc⟩
  all_goals
    have HL := hide hl
    clear hl
    go_enter Try.func13, Try.ntmps13
    go_wp2
    · go_ret
      exact ⟨.mk _ rfl (by simp), rfl⟩
    · go_loop [5, 6] (fun t i => ∃ (k z : Nat), k ≤ len ∧ z ≤ 1048576 ∧ i = .int .i64 k ∧ t = .int .i64 z ∧ Hid (z = len + tot xs k)) (fun _ i => len - (intOf i).toNat)
      case atStart => exact ⟨0, len, Nat.zero_le _, by omega, rfl, rfl, rfl⟩
      case round =>
        obtain ⟨k, z, hk, hz, rfl, rfl, HZ⟩ := hrel
        by_cases hlt : k < len
        · first
            | (exfalso; have h' := h.out; have := unhide HL; omega)
            | (have hkx : k < xs.length := by have := unhide HL; omega
               have hcell := hc k hkx
               have hbl := (unhide HIN k hkx).2
               unfold maxLen at hbl
               have HT : Hid (tot xs (k + 1) = tot xs k + (xs.getD k B.no).bs.length) := rfl
               unfold B.val at hcell
               clear hc
               generalize (xs.getD k B.no).bs.length = m at *
               generalize (xs.getD k B.no).a = am at *
               generalize (xs.getD k B.no).cap = cm at *
               go_wp2
               all_goals first
                 | (go_ret; exact ⟨.mk _ rfl (by simp), rfl⟩)
                 | (go_round
                    case rel => exact ⟨k + 1, z + m, by omega, by omega, by go_num, by go_num, by show z + m = len + tot xs (k + 1); rw [unhide HT, unhide HZ]; omega⟩
                    case measure => simp [intOf]; omega))
        · have hfin : xs.length + tot xs xs.length ≤ 1048576 := by
            have e := unhide HZ
            have e2 := unhide HL
            have : k = len := by omega
            subst this
            rw [e2]
            omega
          go_wp2
          go_ret
          exact ⟨.mk _ rfl (fun _ => hfin), rfl⟩

theorem bytes14 (a : Option Addr) (len cap : Nat) (xs : List B) (w : World) (hl : xs.length = len) (hlen : len ≤ maxLen) (hr : Outer w a xs) :
    Calls Try.prog 14 #[.slice a len cap] w fun e w' => RetI e ∧ w' = w := by
  unfold maxLen at hlen
  rcases hr with h | ⟨b, off, rfl, hc⟩
  all_goals
    have HL := hide hl
    clear hl
    go_enter Try.func14, Try.ntmps14
    go_wp2
    go_loop [3, 4] (fun t i => ∃ (k : Nat) (z : Int), k ≤ len ∧ i = .int .i64 k ∧ t = .int .i64 z) (fun _ i => len - (intOf i).toNat)
    case atStart => exact ⟨0, _, Nat.zero_le _, rfl, rfl⟩
    case round =>
      obtain ⟨k, z, hk, rfl, rfl⟩ := hrel
      by_cases hlt : k < len
      · first
          | (exfalso; have h' := h.out; have := unhide HL; omega)
          | (have hkx : k < xs.length := by have := unhide HL; omega
             have hcell := hc k hkx
             unfold B.val at hcell
             clear hc
             generalize (xs.getD k B.no).bs.length = m at *
             generalize (xs.getD k B.no).a = am at *
             generalize (xs.getD k B.no).cap = cm at *
             go_wp2
             all_goals first
               | (go_ret; exact ⟨.mk _ rfl, rfl⟩)
               | (go_round
                  case rel => exact ⟨k + 1, _, by omega, by go_num, rfl⟩
                  case measure => simp [intOf]; omega))
      · go_wp2
        go_ret
        exact ⟨.mk _ rfl, rfl⟩

/-- zzSameBytesG1 at two blocks that hold the same. -/
theorem same18 (a : Option Addr) (len cap : Nat) (zs : List Int) (a' : Option Addr) (cap' : Nat) (w : World) (hl : zs.length = len) (hlen : len ≤ maxLen) (hr : BRow w a zs) (hr' : BRow w a' zs) :
    Calls Try.prog 18 #[.slice a len cap, .slice a' len cap'] w fun e w' => e = .returned (.bool true) ∧ ∃ n, w' = w.drewN n := by
  unfold maxLen at hlen
  rcases hr with h | ⟨b, off, rfl, hc⟩
  · go_enter Try.func18, Try.ntmps18
    go_wp2
    have h0 := h.out
    refine wp_loop_rounds 1 ?_; rw [rounds_succ]
    have hz : ¬ ((0 : Int) < (len : Int)) := by omega
    go_wp2
    go_ret
    exact ⟨rfl, 0, rfl⟩
  rcases hr' with h | ⟨b', off', rfl, hc'⟩
  · go_enter Try.func18, Try.ntmps18
    go_wp2
    have h0 := h.out
    refine wp_loop_rounds 1 ?_; rw [rounds_succ]
    have hz : ¬ ((0 : Int) < (len : Int)) := by omega
    go_wp2
    go_ret
    exact ⟨rfl, 0, rfl⟩
  · go_enter Try.func18, Try.ntmps18
    go_wp2
    go_loopw [5] (fun i wr => ∃ (k n : Nat), k ≤ len ∧ i = .int .i64 k ∧ wr = w.drewN n) (fun i _ => len - (intOf i).toNat)
    case atStart => exact ⟨0, 0, Nat.zero_le _, rfl, rfl⟩
    case round =>
      obtain ⟨k, n, hk, rfl, rfl⟩ := hrel
      by_cases hlt : k < len
      · have hcell := hc k (by omega)
        have hcell' := hc' k (by omega)
        clear hc hc'
        generalize zs.getD k 0 = z at *
        go_wp2
        go_quiet (fail)
        go_wp2
        go_roundw
        case rel => exact ⟨k + 1, _, by omega, by go_num, rfl⟩
        case measure => simp [intOf]; omega
      · go_wp2
        go_ret
        exact ⟨rfl, _, rfl⟩

/-- zzIsPrefixG1 at a block that begins with the other. -/
theorem prefix19 (a : Option Addr) (len cap : Nat) (ps : List Int) (a' : Option Addr) (len' cap' : Nat) (zs : List Int) (w : World) (hl : ps.length = len) (hl' : zs.length = len') (hlen' : len' ≤ maxLen) (hle : len ≤ len')
    (hpre : ∀ k, k < len → ps.getD k 0 = zs.getD k 0) (hr : BRow w a ps) (hr' : BRow w a' zs) :
    Calls Try.prog 19 #[.slice a len cap, .slice a' len' cap'] w fun e w' => e = .returned (.bool true) ∧ ∃ n, w' = w.drewN n := by
  unfold maxLen at hlen'
  have HP := hide hpre
  clear hpre
  rcases hr with h | ⟨b, off, rfl, hc⟩
  · go_enter Try.func19, Try.ntmps19
    go_wp2
    have h0 := h.out
    refine wp_loop_rounds 1 ?_; rw [rounds_succ]
    have hz : ¬ ((0 : Int) < (len : Int)) := by omega
    go_wp2
    go_ret
    exact ⟨rfl, 0, rfl⟩
  rcases hr' with h | ⟨b', off', rfl, hc'⟩
  · go_enter Try.func19, Try.ntmps19
    go_wp2
    have h0 := h.out
    refine wp_loop_rounds 1 ?_; rw [rounds_succ]
    have hz : ¬ ((0 : Int) < (len : Int)) := by omega
    go_wp2
    go_ret
    exact ⟨rfl, 0, rfl⟩
  · go_enter Try.func19, Try.ntmps19
    go_wp2
    go_loopw [5] (fun i wr => ∃ (k n : Nat), k ≤ len ∧ i = .int .i64 k ∧ wr = w.drewN n) (fun i _ => len - (intOf i).toNat)
    case atStart => exact ⟨0, 0, Nat.zero_le _, rfl, rfl⟩
    case round =>
      obtain ⟨k, n, hk, rfl, rfl⟩ := hrel
      by_cases hlt : k < len
      · have hcell := hc k (by omega)
        have hcell' := hc' k (by omega)
        clear hc hc'
        rw [unhide HP k hlt] at hcell
        generalize zs.getD k 0 = z at *
        go_wp2
        go_quiet (fail)
        go_wp2
        go_roundw
        case rel => exact ⟨k + 1, _, by omega, by go_num, rfl⟩
        case measure => simp [intOf]; omega
      · go_wp2
        go_ret
        exact ⟨rfl, _, rfl⟩

end Go.Proofs.Qxb6003801a.Blk
