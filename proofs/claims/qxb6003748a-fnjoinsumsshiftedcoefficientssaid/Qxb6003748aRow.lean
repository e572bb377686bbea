/- Contracts over []uint64 (seat b6003748a): the bound, the copy, zzAddWord, zzAddAt. -/
import Derived.Test.Qxb6003748aProg
import Derived.Test.Qxb6003748aWords
import Derived.WalkKit
import Derived.WalkLawsBesides
import Derived.Laws.Bits64b
import Derived.Deep.QuietTactic
import Derived.BigQuiet
namespace Go.Proofs.Qxb6003748a.Row
open Go.RowKit Go.Proofs.Qxb6003748a.Words
set_option linter.unusedVariables false

theorem hide {p : Prop} (h : p) : Hid p := h
theorem unhide {p : Prop} (h : Hid p) : p := h

theorem Try.info22 : (Try.prog.info? 22).map (fun i => (i.zero, i.size, i.bytes)) = some (some (.int .u64 0), 1, 8) := by kernel_rfl
theorem Try.info35 : (Try.prog.info? 35).map (fun i => (i.zero, i.size, i.bytes)) = some (some (.int .u64 0), 1, 8) := by kernel_rfl
theorem Try.info43 : (Try.prog.info? 43).map (fun i => (i.zero, i.size, i.bytes)) = some (some (.int .u64 0), 1, 8) := by kernel_rfl

/-- A word as a value. -/
def U (z : Nat) : Value := .int .u64 (z : Int)

/-- The slice's first cells hold these words. -/
def URow (w : World) (a : Option Addr) (zs : List Nat) : Prop :=
  Hid (zs.length < 1) ∨ ∃ b off, a = some ⟨b, off, none⟩ ∧ ∀ k, k < zs.length → w.cell? ⟨b, off + k, none⟩ = some (.int .u64 ((zs.getD k 0 : Nat) : Int))

/-- Block B is a row of the call's own that holds just these words. -/
def Own (e : TypeId) (w : World) (B : Nat) (zs : List Nat) : Prop := w.ownsRow B e 1 (.slice (some ⟨B, 0, none⟩) zs.length zs.length) zs.length (zs.map U)

theorem Own.cell {e : TypeId} {w : World} {B : Nat} {zs : List Nat} (h : Own e w B zs) (i : Nat) (hi : i < zs.length) : w.cell? ⟨B, i, none⟩ = some (.int .u64 ((zs.getD i 0 : Nat) : Int)) := by
  rw [World.ownsRow.cellAt h i (by omega)]
  simp [hi, U]
theorem Own.free {e : TypeId} {w : World} {B : Nat} {zs : List Nat} (h : Own e w B zs) (i : Nat) : w.frozen? ⟨B, i, none⟩ = false := World.ownsRow.frozenAt h i
theorem Own.set {e : TypeId} {w : World} {B : Nat} {zs : List Nat} (h : Own e w B zs) (i x : Nat) : Own e (w.setCell ⟨B, i, none⟩ (.int .u64 (x : Int))) B (zs.set i x) := by
  unfold Own
  rw [List.map_set, List.length_set]
  exact (World.ownsRow.stored h i _).1
theorem Own.row {e : TypeId} {w : World} {B : Nat} {zs : List Nat} (h : Own e w B zs) : URow w (some ⟨B, 0, none⟩) zs :=
  .inr ⟨B, 0, rfl, fun k hk => by rw [Nat.zero_add]; exact h.cell k hk⟩
theorem Own.same {e : TypeId} {w w' : World} {B : Nat} {zs : List Nat} (h : Own e w B zs) (hb : w'.heap[B]? = w.heap[B]?) : Own e w' B zs := by
  refine ⟨h.1, ?_⟩
  rcases h.2 with h' | ⟨g, cap, cur, hv, hg, hh, r⟩
  · exact .inl h'
  · refine .inr ⟨g, cap, cur, hv, hg, ?_, r⟩
    have : g = B := by simp at hv; exact hv.1.symm
    subst this
    rw [hb]; exact hh
theorem Own.lt {e : TypeId} {w : World} {B : Nat} {zs : List Nat} (h : Own e w B zs) : B < w.heap.size := (World.ownsRow.lt h B rfl).2
theorem Own.made {e : TypeId} {w w1 : World} {n : Nat} (h : w1.ownsRow w.heap.size e 1 (.slice (some ⟨w.heap.size, 0, none⟩) n n) n (madeCells #[.int .u64 0] n).toList) : Own e w1 w.heap.size (List.replicate n 0) := by
  unfold Own
  rw [List.length_replicate, List.map_replicate]
  rw [toList_madeCells_one] at h
  exact h

theorem URow.below {w w' : World} {a : Option Addr} {zs : List Nat} (h : URow w a zs) (hb : Below w.heap.size w w') : URow w' a zs := by
  rcases h with h | ⟨b, off, ha, hc⟩
  · exact .inl h
  · exact .inr ⟨b, off, ha, fun k hk => (hb.cell (p := ⟨b, off + k, none⟩) (World.block_lt_of_cell? w _ (hc k hk))).trans (hc k hk)⟩

/-- It answers some bool. -/
def RetB (e : Ending) : Prop := ∃ r : Bool, e = .returned (.bool r)
theorem RetB.mk {e : Ending} (r : Bool) (h : e = .returned (.bool r)) : RetB e := ⟨r, h⟩

theorem bytes13 (a : Option Addr) (len cap : Nat) (x y : Int) (w : World) (hlen : len ≤ maxLen) :
    Calls Try.prog 13 #[.slice a len cap, .int .i64 x, .int .i64 y] w fun e w' => RetB e ∧ w' = w := by
  unfold maxLen at hlen
  go_enter Try.func13, Try.ntmps13
  go_wp2
  all_goals
    go_ret
    exact ⟨.mk _ rfl, rfl⟩

/-- What a copy leaves. -/
structure Copied (w w' : World) (zs : List Nat) (e : Ending) : Prop where
  out : ∃ a cap, e = .returned (.slice a zs.length cap) ∧ URow w' a zs
  below : Below w.heap.size w w'

/-- The list that a copy has filled as far as k. -/
def half (zs : List Nat) (k : Nat) : List Nat := zs.take k ++ List.replicate (zs.length - k) 0
theorem half_zero (zs : List Nat) : half zs 0 = List.replicate zs.length 0 := by simp [half]
theorem half_full (zs : List Nat) (k : Nat) (h : zs.length ≤ k) : half zs k = zs := by simp [half, List.take_of_length_le h, show zs.length - k = 0 by omega]
theorem half_length (zs : List Nat) (k : Nat) (h : k ≤ zs.length) : (half zs k).length = zs.length := by simp [half]; omega
theorem half_set (zs : List Nat) (k : Nat) (h : k < zs.length) : (half zs k).set k (zs.getD k 0) = half zs (k + 1) := by
  unfold half
  have e1 : (zs.take k).length = k := by simp; omega
  rw [List.set_append_right _ _ (by omega), e1, Nat.sub_self, show zs.length - k = (zs.length - (k + 1)) + 1 by omega, List.replicate_succ, List.set_cons_zero, List.take_succ_eq_append_getElem h, show zs.getD k 0 = zs[k] by simp [h], List.append_assoc]
  rfl

theorem clone14 (a : Option Addr) (len cap : Nat) (zs : List Nat) (w : World) (hl : zs.length = len) (hlen : len ≤ 1048576) (hr : URow w a zs) :
    Calls Try.prog 14 #[.slice a len cap] w fun e w' => Copied w w' zs e := by
  have q28 : ∀ (w : World) (a : Option Addr) (n c n' c' : Nat), (binOp .eql 28 (.slice a n c) (.slice none n' c')).run Try.prog w = .ok (.bool a.isNone) w := fun w a n c n' c' => Lib.run_eql_slice_nil w _ _ a n c n' c' Try.underlying28
  obtain ⟨i0, hi, hz0, hz1, hz2⟩ := info_parts Try.info22
  cases a with
  | none =>
    have h0 : zs = [] := by
      rcases hr with h | ⟨b, off, h, _⟩
      · exact List.eq_nil_of_length_eq_zero (by have := h.out; omega)
      · simp at h
    subst h0
    go_enter Try.func14, Try.ntmps14
    go_wp2
    go_ret
    exact ⟨⟨none, 0, rfl, .inl (show 0 < 1 by omega)⟩, Below.refl _ _⟩
  | some ad =>
    go_enter Try.func14, Try.ntmps14
    go_wp2_with (at_make; refine wpList_make_full _ rfl _ _ 28 rfl w.heap.size 22 i0 (.int .u64 0) 1 Try.underlying28 hi hz0 hz1 .i64 .i64 _ _ len rfl rfl (by omega) (by omega) (by rw [hz2]; omega) (by unfold maxLen; omega) (Nat.le_refl _) ?_)
    intro w1 hown1 hgrow1
    have hown2 : Own 22 w1 w.heap.size (half zs 0) := by
      rw [half_zero, hl]
      exact Own.made hown1
    have hb1 : Below w.heap.size w w1 := (Below.refl _ _).grown hgrow1 (Nat.le_refl _) (fun k hk => by cases hk)
    have HL := hide hl
    clear hown1 hgrow1 hl
    go_wp2
    go_loopw [4] (fun i wr => ∃ (k : Nat), k ≤ len ∧ i = .int .i64 k ∧ Own 22 wr w.heap.size (half zs k) ∧ Below w.heap.size w wr) (fun i _ => len - (intOf i).toNat)
    case atStart => exact ⟨0, Nat.zero_le _, rfl, hown2, hb1⟩
    case round =>
      clear hown2 hb1
      obtain ⟨k, hk, rfl, hown, hb⟩ := hrel
      by_cases hlt : k < len
      · rcases hr with h | ⟨b, off, had, hc⟩
        · exfalso; have h' := h.out; have := unhide HL; omega
        · have hkl : k < zs.length := by have := unhide HL; omega
          have hbB : b < w.heap.size := World.block_lt_of_cell? w _ (hc k hkl)
          have hcell : wr.cell? ⟨b, off + k, none⟩ = some (.int .u64 ((zs.getD k 0 : Nat) : Int)) := (hb.cell (p := ⟨b, off + k, none⟩) hbB).trans (hc k hkl)
          have hdst := hown.cell k (by rw [half_length] <;> omega)
          have hfr := hown.free k
          have R := hown.set k (zs.getD k 0)
          rw [half_set zs k hkl] at R
          have R2 := hb.setCell (p := ⟨w.heap.size, k, none⟩) (Nat.le_refl _) (.int .u64 ((zs.getD k 0 : Nat) : Int))
          have hadd : ad = ⟨b, off, none⟩ := by simpa using had
          have HR := hide R; have HR2 := hide R2
          clear R R2 hown hb had hc
          generalize zs.getD k 0 = x at *
          generalize (half zs k).getD k 0 = y at *
          subst hadd
          go_wp2
          go_roundw
          case rel => exact ⟨k + 1, by omega, by go_num, unhide HR, unhide HR2⟩
          case measure => simp [intOf]; omega
      · have hfin : Own 22 wr w.heap.size zs := by rw [half_full zs k (by have := unhide HL; omega)] at hown; exact hown
        have hrow := hfin.row
        have hlz := unhide HL
        have HZ := hide hlz
        clear hown hfin hlz HL
        go_wp2
        go_ret
        exact ⟨⟨_, len, by rw [unhide HZ]; rfl, hrow⟩, hb⟩

/-- What zzAddWord and zzAddAt leave: X has been added to the words of block B, modulo their number. -/
structure Added (w w' : World) (B : Nat) (zs : List Nat) (X : Nat) : Prop where
  row : ∃ zs', zs'.length = zs.length ∧ Ok zs' ∧ Own 22 w' B zs' ∧ val zs' % 2 ^ (64 * zs.length) = (val zs + X) % 2 ^ (64 * zs.length)
  kept : w.grownBy w' (some B)

theorem grownBy_set (w : World) (B i : Nat) (v : Value) : w.grownBy (w.setCell ⟨B, i, none⟩ v) (some B) :=
  ⟨rfl, rfl, rfl, by simp [World.setCell], fun k _ hk => Below.heap_setCell _ _ _ _ (fun e => hk (by rw [e]))⟩
theorem grownBy_trans {a b c : World} {row : Option Nat} (h : a.grownBy b row) (k : b.grownBy c row) : a.grownBy c row :=
  ⟨k.os.trans h.os, k.tape.trans h.tape, k.output.trans h.output, Nat.le_trans h.size k.size, fun i hi hne => (k.block i (Nat.lt_of_lt_of_le hi h.size) hne).trans (h.block i hi hne)⟩

theorem no_carry {M a b c : Nat} (h : a = b) : a % M = b % M := by rw [h]

set_option maxHeartbeats 400000 in
theorem addWord21 (B n k v : Nat) (zs : List Nat) (w : World) (hl : zs.length = n) (hn : n ≤ 4096) (hk : k ≤ 1048576) (hv : v ≤ 18446744073709551615) (hok : Ok zs) (hown : Own 22 w B zs) :
    Calls Try.prog 21 #[.slice (some ⟨B, 0, none⟩) n n, .int .i64 k, .int .u64 v] w fun e w' => e = .returned (.tuple #[]) ∧ Added w w' B zs (v * 2 ^ (64 * k)) := by
  have HL := hide hl
  clear hl
  go_enter Try.func21, Try.ntmps21
  go_wp2_with fail
  go_loopw [1, 2] (fun K V wr => ∃ (k' v' : Nat) (xs : List Nat), k' ≤ 1048576 + 4096 ∧ v' ≤ 18446744073709551615 ∧ K = .int .i64 k' ∧ V = .int .u64 v' ∧ Hid (xs.length = n) ∧ Ok xs ∧ Own 22 wr B xs ∧ Hid ((val xs + v' * 2 ^ (64 * k')) % 2 ^ (64 * n) = (val zs + v * 2 ^ (64 * k)) % 2 ^ (64 * n)) ∧ w.grownBy wr (some B)) (fun K _ _ => n - (intOf K).toNat)
  case atStart => exact ⟨k, v, zs, by omega, hv, rfl, rfl, HL, hok, hown, rfl, World.grownBy.refl _ _⟩
  case round =>
    clear hown hok
    obtain ⟨k', v', xs, hk', hv', rfl, rfl, HX, hok, hown, HS, hgr⟩ := hrel
    have fin : v' = 0 ∨ n ≤ k' → Added w wr B zs (v * 2 ^ (64 * k)) := by
      intro hc
      have hS := unhide HS
      have hx := unhide HX
      refine ⟨⟨xs, by rw [hx, unhide HL], hok, hown, ?_⟩, hgr⟩
      rw [unhide HL, ← hS]
      rcases hc with hc | hc
      · rw [hc, Nat.zero_mul, Nat.add_zero]
      · exact (mod_drop _ _ _ (Nat.dvd_mul_left_of_dvd (Nat.pow_dvd_pow 2 (by omega)) _)).symm
    have HFin := hide fin
    clear fin
    by_cases hv0 : v' = 0
    · have hb : ((v' : Int) != 0) = false := by rw [hv0]; rfl
      have hf := unhide HFin (.inl hv0)
      clear hv0
      go_wp2
      go_end0
      exact ⟨rfl, hf⟩
    · have hb : ((v' : Int) != 0) = true := by rw [bne_iff_ne]; omega
      by_cases hkn : k' < n
      · have hxl : k' < xs.length := by have := unhide HX; omega
        have hc := hown.cell k' hxl
        have hf := hown.free k'
        have hz := hok.at k'
        have hadd := fun s c => add_round xs k' v' hxl s c
        generalize hZ : xs.getD k' 0 = z at *
        by_cases hov : z + v' ≤ 18446744073709551615
        · have R := hown.set k' (z + v')
          rw [show ((z + v' : Nat) : Int) = (z : Int) + (v' : Int) by omega] at R
          have R2 := hok.set k' (z + v') (by omega)
          have R3 := hadd (z + v') 0 (by omega)
          have HS' : Hid ((val (xs.set k' (z + v')) + 0 * 2 ^ (64 * (k' + 1))) % 2 ^ (64 * n) = (val zs + v * 2 ^ (64 * k)) % 2 ^ (64 * n)) := by
            show (val (xs.set k' (z + v')) + 0 * 2 ^ (64 * (k' + 1))) % 2 ^ (64 * n) = (val zs + v * 2 ^ (64 * k)) % 2 ^ (64 * n)
            rw [R3]; exact unhide HS
          have R4 := grownBy_trans hgr (grownBy_set wr B k' (.int .u64 ((z : Int) + (v' : Int))))
          have HX' : Hid ((xs.set k' (z + v')).length = n) := by show (xs.set k' (z + v')).length = n; rw [List.length_set]; exact unhide HX
          have b1 : (z : Int) + (v' : Int) ≤ 18446744073709551615 := by omega
          have b2 : ¬ ((z : Int) + (v' : Int) < (v' : Int)) := by omega
          have HR := hide R
          clear R R3 hadd hown hgr hZ HS HFin
          go_wp2
          go_roundw
          case rel => exact ⟨k' + 1, 0, _, by omega, by omega, by go_num, rfl, HX', R2, unhide HR, HS', R4⟩
          case measure => simp [intOf]; omega
        · obtain ⟨s, hs⟩ : ∃ s : Nat, z + v' = s + 1 * 2 ^ 64 := ⟨z + v' - 2 ^ 64, by omega⟩
          have R := hown.set k' s
          have R2 := hok.set k' s (by omega)
          have R3 := hadd s 1 hs
          have HS' : Hid ((val (xs.set k' s) + 1 * 2 ^ (64 * (k' + 1))) % 2 ^ (64 * n) = (val zs + v * 2 ^ (64 * k)) % 2 ^ (64 * n)) := by
            show (val (xs.set k' s) + 1 * 2 ^ (64 * (k' + 1))) % 2 ^ (64 * n) = (val zs + v * 2 ^ (64 * k)) % 2 ^ (64 * n)
            rw [R3]; exact unhide HS
          have R4 := grownBy_trans hgr (grownBy_set wr B k' (.int .u64 (s : Int)))
          have HX' : Hid ((xs.set k' s).length = n) := by show (xs.set k' s).length = n; rw [List.length_set]; exact unhide HX
          have b1 : IntKind.u64.wrap ((z : Int) + (v' : Int)) = (s : Int) := by rw [IntKind.wrap_u64]; omega
          have b2 : (s : Int) < (v' : Int) := by omega
          have HR := hide R
          clear R R3 hadd hown hgr hZ HS HFin hs hov
          go_wp2
          go_roundw
          case rel => exact ⟨k' + 1, 1, _, by omega, by omega, by go_num, rfl, HX', R2, unhide HR, HS', R4⟩
          case measure => simp [intOf]; omega
      · have hf := unhide HFin (.inr (by omega))
        go_wp2
        go_end0
        exact ⟨rfl, hf⟩

end Go.Proofs.Qxb6003748a.Row
