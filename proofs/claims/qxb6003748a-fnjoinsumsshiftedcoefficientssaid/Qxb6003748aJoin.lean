/- join, zzUints, ZZJoin (seat b6003748a). -/
import Derived.Test.Qxb6003748aAddAt
import Derived.BigRegion
import Derived.RegionTactic
namespace Go.Proofs.Qxb6003748a.Row
open Go.RowKit Go.Proofs.Qxb6003748a.Words
set_option linter.unusedVariables false

/-- What join leaves. -/
structure Joined (w w' : World) (cs : List Nat) (wd n : Nat) (e : Ending) : Prop where
  ret : e = .returned (.slice (some ⟨w.heap.size, 0, none⟩) n n)
  row : ∃ zs, zs.length = n ∧ Ok zs ∧ Own 43 w' w.heap.size zs ∧ val zs % 2 ^ (64 * n) = tot cs wd cs.length % 2 ^ (64 * n)
  below : Below w.heap.size w w'

set_option maxRecDepth 100000 in
set_option maxHeartbeats 1000000 in
theorem join23 (a : Option Addr) (len cap wd n : Nat) (cs : List Nat) (w : World) (hl : cs.length = len) (hlen : len ≤ 131072) (hw1 : 1 ≤ wd) (hw2 : wd ≤ 63) (hn : n ≤ 4096) (hc63 : ∀ i, cs.getD i 0 < 2 ^ 63) (hr : URow w a cs) :
    Calls Try.prog 23 #[.slice a len cap, .int .i64 wd, .int .i64 n] w fun e w' => Joined w w' cs wd n e := by
  obtain ⟨i0, hi, hz0, hz1, hz2⟩ := info_parts Try.info43
  have HL := hide hl
  have HC63 := hide hc63
  clear hl hc63
  go_enter Try.func23, Try.ntmps23
  go_wp2_with (at_make; refine wpList_make_full _ rfl _ _ 38 rfl w.heap.size 43 i0 (.int .u64 0) 1 Try.underlying38 hi hz0 hz1 .i64 .i64 _ _ n rfl rfl (by omega) (by omega) (by rw [hz2]; omega) (by unfold maxLen; omega) (Nat.le_refl _) ?_)
  intro w1 hown1 hgrow1
  have hown2 : Own 43 w1 w.heap.size (List.replicate n 0) := Own.made hown1
  have hb1 : Below w.heap.size w w1 := (Below.refl _ _).grown hgrow1 (Nat.le_refl _) (fun k hk => by cases hk)
  obtain ⟨P, hP⟩ : ∃ P : Nat, P = 2 ^ wd := ⟨_, rfl⟩
  have hP1 : 2 ≤ P := by rw [hP]; exact Nat.pow_le_pow_right (n := 2) (i := 1) (by decide) hw1
  have hP2 : P ≤ 9223372036854775808 := by rw [hP]; exact Nat.pow_le_pow_right (n := 2) (j := 63) (by decide) hw2
  have hPw : IntKind.u64.wrap ((2 : Int) ^ wd) = (P : Int) := by
    have e : ((2 : Int) ^ wd) = (P : Int) := by rw [hP, Int.natCast_pow]; rfl
    rw [e, IntKind.wrap_u64]; omega
  have HP := hide hP
  clear hown1 hgrow1 hP hi hz0 hz1 hz2
  go_wp2_with fail
  clear hPw
  go_loopw [9, 10] (fun C I wr => ∃ (i carry : Nat) (zs : List Nat), wd * i ≤ 262207 ∧ carry ≤ 18446744073709551615 ∧ C = .int .u64 carry ∧ I = .int .i64 i ∧ Own 43 wr w.heap.size zs ∧ J cs zs wd n i carry ∧ Below w.heap.size w wr) (fun _ I _ => 300000 - (intOf I).toNat)
  case atStart => exact ⟨0, 0, _, by omega, by omega, rfl, rfl, hown2, J.start cs wd n, hb1⟩
  case round =>
    clear hown2 hb1
    obtain ⟨i, carry, zs, hwi, hcb, rfl, rfl, hown, hJ, hb⟩ := hrel
    have hii : i ≤ 262207 := Nat.le_trans (Nat.le_mul_of_pos_left i hw1) hwi
    obtain ⟨A, hA⟩ : ∃ A : Nat, A = wd * i := ⟨_, rfl⟩
    rw [← hA] at hwi
    have hAi : (i : Int) * (wd : Int) = (A : Int) := by rw [hA, Int.natCast_mul, Int.mul_comm]
    have HA := hide hA
    clear hA
    have hsum := hJ.carry_lt hw1 hw2 (unhide HC63 i)
    obtain ⟨c, hc⟩ : ∃ c : Nat, c = cs.getD i 0 := ⟨_, rfl⟩
    have hc63 := unhide HC63 i
    rw [← hc] at hsum hc63
    by_cases hkn : A / 64 < n
    · have hAA : wd * i = 64 * (A / 64) + A % 64 := by rw [← unhide HA]; omega
      have hzk := hown.cell (A / 64) (by rw [hJ.len]; exact hkn)
      have hfk := hown.free (A / 64)
      have hlt := hJ.lt
      rw [hAA] at hlt
      have htop := top_lt zs (A / 64) (A % 64) hlt
      obtain ⟨p, hp⟩ : ∃ p : Nat, p = (carry + c) % 2 ^ wd := ⟨_, rfl⟩
      obtain ⟨q, hq⟩ : ∃ q : Nat, q = (carry + c) / 2 ^ wd := ⟨_, rfl⟩
      obtain ⟨lo, hlo⟩ : ∃ lo : Nat, lo = p * 2 ^ (A % 64) % 2 ^ 64 := ⟨_, rfl⟩
      have hpb : p ≤ 18446744073709551615 := by rw [hp]; exact Nat.le_trans (Nat.mod_le _ _) (by omega)
      have hqb : q ≤ 18446744073709551615 := by rw [hq]; exact Nat.le_trans (Nat.div_le_self _ _) (by omega)
      have hlob : lo ≤ 18446744073709551615 := by omega
      have rP : bits .and .u64 ((carry + c : Nat) : Int) ((P : Int) - 1) = (p : Int) := by
        have h1 := bits_and_u64_nat (carry + c) (P - 1) (by omega) (by omega)
        rw [unhide HP, Nat.and_two_pow_sub_one_eq_mod, ← hp, ← unhide HP] at h1
        rw [show (P : Int) - 1 = ((P - 1 : Nat) : Int) by omega]
        exact h1
      have rQ : ((carry + c : Nat) : Int) / 2 ^ wd = (q : Int) := by
        rw [hq, Int.natCast_ediv, Int.natCast_pow]; rfl
      have rLo : IntKind.u64.wrap ((p : Int) * 2 ^ (A % 64)) = (lo : Int) := by
        rw [IntKind.wrap_u64, hlo, Int.natCast_emod, Int.natCast_mul, Int.natCast_pow]; rfl
      have hzlo := low_sum _ p (A % 64) (by omega) htop
      have hor := or_low _ p (A % 64) (by omega) htop
      rw [← hlo] at hzlo hor
      generalize hz : zs.getD (A / 64) 0 = z at *
      have rOr : bits .or .u64 (z : Int) (lo : Int) = ((z + lo : Nat) : Int) := by
        have h1 := bits_or_u64_nat z lo (by omega) (by omega)
        rw [hor] at h1
        exact h1
      obtain ⟨zl, hzl⟩ : ∃ zl : Nat, zl = z + lo := ⟨_, rfl⟩
      rw [← hzl] at rOr hzlo
      have hset := hown.set (A / 64) zl
      have hlaid : zs.set (A / 64) zl = laid zs (A / 64) (A % 64) p := by unfold laid; rw [hzl, hlo, hz]
      rw [hlaid] at hset
      have hbset := hb.setCell (p := ⟨w.heap.size, A / 64, none⟩) (Nat.le_refl _) (.int .u64 (zl : Int))
      have hwi' : wd * (i + 1) ≤ 262207 := by rw [Nat.mul_add, Nat.mul_one, ← unhide HA]; omega
      have hkn2 : (A : Int) / 64 < (n : Int) := by omega
      have hsum2 : (carry : Int) + (c : Int) ≤ 18446744073709551615 := by omega
      have hcl63 := unhide HC63 i
      rcases (show A % 64 + wd ≤ 64 ∨ (64 < A % 64 + wd ∧ A / 64 + 1 < n) ∨ (64 < A % 64 + wd ∧ n ≤ A / 64 + 1) from by omega) with hcase | ⟨hcase, hk1⟩ | ⟨hcase, hk1⟩
      · have hJ' := hJ.place1 hw1 hw2 hcl63 hAA hkn hcase
        rw [← hc, ← hp, ← hq] at hJ'
        have hd64 : ¬ (64 < (A : Int) % 64 + (wd : Int)) := by omega
        have hd64' : decide (64 < (A : Int) % 64 + (wd : Int)) = false := by rw [decide_eq_false_iff_not]; exact hd64
        have HSET := hide hset
        have HB := hide hbset
        clear hset hbset
        by_cases hil : i < len
        · skip
          rcases hr with h | ⟨bs, off, had, hcc⟩
          · exfalso; have h' := h.out; have := unhide HL; omega
          have hcl : i < cs.length := by have := unhide HL; omega
          have hcell : wr.cell? ⟨bs, off + i, none⟩ = some (.int .u64 (c : Int)) := by
            rw [hb.cell (p := ⟨bs, off + i, none⟩) (World.block_lt_of_cell? w _ (hcc i hcl)), hcc i hcl, hc]
          subst had
          rw [show ((carry + c : Nat) : Int) = (carry : Int) + (c : Int) by omega] at rP rQ
          clear hcc
          clear hc hb hown hJ hlt htop hp hq hlo hz hor hlaid hzl hAA hcl63 hsum
          go_wp2
          go_region
          go_wp2
          go_roundw
          case rel => exact ⟨i + 1, q, _, hwi', hqb, rfl, by go_num, unhide HSET, hJ', by first | exact HB.out.drew | exact HB.out.drew.drew⟩
          case measure => simp [intOf]; omega
        · skip
          have hc0 : c = 0 := by rw [hc]; simp [show cs.length ≤ i by have := unhide HL; omega]
          rw [show carry + c = carry by omega] at rP rQ
          clear hc0
          clear hc hb hown hJ hlt htop hp hq hlo hz hor hlaid hzl hAA hcl63 hsum
          go_wp2
          go_region
          go_wp2
          go_roundw
          case rel => exact ⟨i + 1, q, _, hwi', hqb, rfl, by go_num, unhide HSET, hJ', by first | exact HB.out.drew | exact HB.out.drew.drew⟩
          case measure => simp [intOf]; omega
      · have hJ' := hJ.place2 hw1 hw2 hcl63 hAA hk1 (by omega)
        rw [← hc, ← hp, ← hq] at hJ'
        have hd64 : 64 < (A : Int) % 64 + (wd : Int) := by omega
        have hd64' : decide (64 < (A : Int) % 64 + (wd : Int)) = true := by rw [decide_eq_true_eq]; exact hd64
        have hk2 : (A : Int) / 64 + 1 < (n : Int) := by omega
        have hz1 : wr.cell? ⟨w.heap.size, A / 64 + 1, none⟩ = some (.int .u64 0) := by
          have e := hown.cell (A / 64 + 1) (by rw [hJ.len]; exact hk1)
          rw [next_zero zs (A / 64) (A % 64) (by omega) hlt] at e
          exact e
        have hf1 := hown.free (A / 64 + 1)
        obtain ⟨hi, hhi⟩ : ∃ hi : Nat, hi = p / 2 ^ (64 - A % 64) := ⟨_, rfl⟩
        have hhib : hi ≤ 18446744073709551615 := by rw [hhi]; exact Nat.le_trans (Nat.div_le_self _ _) hpb
        have rHi : (p : Int) / 2 ^ (64 - A % 64) = (hi : Int) := by rw [hhi, Int.natCast_ediv, Int.natCast_pow]; rfl
        have rOr2 : bits .or .u64 0 (hi : Int) = (hi : Int) := by
          have h1 := bits_or_u64_nat 0 hi (by omega) (by omega)
          rw [Nat.zero_or] at h1
          exact h1
        have hset2 := hset.set (A / 64 + 1) hi
        have hlaid2 : (laid zs (A / 64) (A % 64) p).set (A / 64 + 1) hi = laid2 zs (A / 64) (A % 64) p := by unfold laid2; rw [hhi]
        rw [hlaid2] at hset2
        have hbset2 := hbset.setCell (p := ⟨w.heap.size, A / 64 + 1, none⟩) (Nat.le_refl _) (.int .u64 (hi : Int))
        have HSET := hide hset2
        have HB := hide hbset2
        clear hset hset2 hbset hbset2 hhi hlaid2
        by_cases hil : i < len
        · skip
          rcases hr with h | ⟨bs, off, had, hcc⟩
          · exfalso; have h' := h.out; have := unhide HL; omega
          have hcl : i < cs.length := by have := unhide HL; omega
          have hcell : wr.cell? ⟨bs, off + i, none⟩ = some (.int .u64 (c : Int)) := by
            rw [hb.cell (p := ⟨bs, off + i, none⟩) (World.block_lt_of_cell? w _ (hcc i hcl)), hcc i hcl, hc]
          subst had
          rw [show ((carry + c : Nat) : Int) = (carry : Int) + (c : Int) by omega] at rP rQ
          clear hcc
          clear hc hb hown hJ hlt htop hp hq hlo hz hor hlaid hzl hAA hcl63 hsum
          go_wp2
          go_region
          go_wp2
          go_region
          go_wp2
          go_roundw
          case rel => exact ⟨i + 1, q, _, hwi', hqb, rfl, by go_num, unhide HSET, hJ', by first | exact HB.out.drew | exact HB.out.drew.drew⟩
          case measure => simp [intOf]; omega
        · skip
          have hc0 : c = 0 := by rw [hc]; simp [show cs.length ≤ i by have := unhide HL; omega]
          rw [show carry + c = carry by omega] at rP rQ
          clear hc0
          clear hc hb hown hJ hlt htop hp hq hlo hz hor hlaid hzl hAA hcl63 hsum
          go_wp2
          go_region
          go_wp2
          go_region
          go_wp2
          go_roundw
          case rel => exact ⟨i + 1, q, _, hwi', hqb, rfl, by go_num, unhide HSET, hJ', by first | exact HB.out.drew | exact HB.out.drew.drew⟩
          case measure => simp [intOf]; omega
      · have hJ' := hJ.place3 hw1 hw2 hcl63 hAA hkn hk1 (by omega)
        rw [← hc, ← hp, ← hq] at hJ'
        have hd64 : 64 < (A : Int) % 64 + (wd : Int) := by omega
        have hd64' : decide (64 < (A : Int) % 64 + (wd : Int)) = true := by rw [decide_eq_true_eq]; exact hd64
        have hk2 : ¬ ((A : Int) / 64 + 1 < (n : Int)) := by omega
        have hk2' : decide ((A : Int) / 64 + 1 < (n : Int)) = false := by rw [decide_eq_false_iff_not]; exact hk2
        have HSET := hide hset
        have HB := hide hbset
        clear hset hbset
        by_cases hil : i < len
        · skip
          rcases hr with h | ⟨bs, off, had, hcc⟩
          · exfalso; have h' := h.out; have := unhide HL; omega
          have hcl : i < cs.length := by have := unhide HL; omega
          have hcell : wr.cell? ⟨bs, off + i, none⟩ = some (.int .u64 (c : Int)) := by
            rw [hb.cell (p := ⟨bs, off + i, none⟩) (World.block_lt_of_cell? w _ (hcc i hcl)), hcc i hcl, hc]
          subst had
          rw [show ((carry + c : Nat) : Int) = (carry : Int) + (c : Int) by omega] at rP rQ
          clear hcc
          clear hc hb hown hJ hlt htop hp hq hlo hz hor hlaid hzl hAA hcl63 hsum
          go_wp2
          go_region
          go_wp2
          go_roundw
          case rel => exact ⟨i + 1, q, _, hwi', hqb, rfl, by go_num, unhide HSET, hJ', by first | exact HB.out.drew | exact HB.out.drew.drew⟩
          case measure => simp [intOf]; omega
        · skip
          have hc0 : c = 0 := by rw [hc]; simp [show cs.length ≤ i by have := unhide HL; omega]
          rw [show carry + c = carry by omega] at rP rQ
          clear hc0
          clear hc hb hown hJ hlt htop hp hq hlo hz hor hlaid hzl hAA hcl63 hsum
          go_wp2
          go_region
          go_wp2
          go_roundw
          case rel => exact ⟨i + 1, q, _, hwi', hqb, rfl, by go_num, unhide HSET, hJ', by first | exact HB.out.drew | exact HB.out.drew.drew⟩
          case measure => simp [intOf]; omega
    · -- the rest is zero
      have hdone : Joined w wr cs wd n (.returned (.slice (some ⟨w.heap.size, 0, none⟩) n n)) :=
        ⟨rfl, ⟨zs, hJ.len, hJ.ok, hown, hJ.done (by rw [← unhide HA]; omega)⟩, hb⟩
      have hkn2 : (n : Int) ≤ (A : Int) / 64 := by omega
      have HD := hide hdone
      clear hdone hown hJ
      by_cases hil : i < len
      · rcases hr with h | ⟨bs, off, had, hcc⟩
        · exfalso; have h' := h.out; have := unhide HL; omega
        have hcl : i < cs.length := by have := unhide HL; omega
        have hcell : wr.cell? ⟨bs, off + i, none⟩ = some (.int .u64 (c : Int)) := by
          rw [hb.cell (p := ⟨bs, off + i, none⟩) (World.block_lt_of_cell? w _ (hcc i hcl)), hcc i hcl, hc]
        subst had
        clear hcc hc hb
        go_wp2
        go_ret
        exact unhide HD
      · clear hc hb
        go_wp2
        go_ret
        exact unhide HD

/-- zzUints: the words once more, as uints. -/
theorem uints22 (B n : Nat) (zs : List Nat) (w : World) (hl : zs.length = n) (hn : n ≤ 4096) (hown : Own 43 w B zs) :
    Calls Try.prog 22 #[.slice (some ⟨B, 0, none⟩) n n] w fun e w' => e = .returned (.slice (some ⟨w.heap.size, 0, none⟩) n n) ∧ Own 35 w' w.heap.size zs ∧ Below w.heap.size w w' := by
  obtain ⟨i0, hi, hz0, hz1, hz2⟩ := info_parts Try.info35
  have HL := hide hl
  have hBlt := hown.lt
  clear hl
  go_enter Try.func22, Try.ntmps22
  go_wp2_with (at_make; refine wpList_make_full _ rfl _ _ 33 rfl w.heap.size 35 i0 (.int .u64 0) 1 Try.underlying33 hi hz0 hz1 .i64 .i64 _ _ n rfl rfl (by omega) (by omega) (by rw [hz2]; omega) (by unfold maxLen; omega) (Nat.le_refl _) ?_)
  intro w1 hown1 hgrow1
  have hown2 : Own 35 w1 w.heap.size (half zs 0) := by
    rw [half_zero, unhide HL]
    exact Own.made hown1
  have hb1 : Below w.heap.size w w1 := (Below.refl _ _).grown hgrow1 (Nat.le_refl _) (fun k hk => by cases hk)
  clear hown1 hgrow1 hi hz0 hz1 hz2
  go_wp2
  go_loopw [4] (fun i wr => ∃ (k : Nat), k ≤ n ∧ i = .int .i64 k ∧ Own 35 wr w.heap.size (half zs k) ∧ Below w.heap.size w wr) (fun i _ => n - (intOf i).toNat)
  case atStart => exact ⟨0, Nat.zero_le _, rfl, hown2, hb1⟩
  case round =>
    clear hown2 hb1
    obtain ⟨k, hk, rfl, howk, hb⟩ := hrel
    by_cases hlt : k < n
    · have hkl : k < zs.length := by have := unhide HL; omega
      have hcell : wr.cell? ⟨B, k, none⟩ = some (.int .u64 ((zs.getD k 0 : Nat) : Int)) := (hb.cell (p := ⟨B, k, none⟩) hBlt).trans (hown.cell k hkl)
      have hdst := howk.cell k (by rw [half_length] <;> omega)
      have hfr := howk.free k
      have R := howk.set k (zs.getD k 0)
      rw [half_set zs k hkl] at R
      have R2 := hb.setCell (p := ⟨w.heap.size, k, none⟩) (Nat.le_refl _) (.int .u64 ((zs.getD k 0 : Nat) : Int))
      have HR := hide R; have HR2 := hide R2
      clear R R2 howk hb hown
      generalize zs.getD k 0 = x at *
      generalize (half zs k).getD k 0 = y at *
      go_wp2
      go_roundw
      case rel => exact ⟨k + 1, by omega, by go_num, unhide HR, unhide HR2⟩
      case measure => simp [intOf]; omega
    · have hfin : Own 35 wr w.heap.size zs := by rw [half_full zs k (by have := unhide HL; omega)] at howk; exact howk
      clear howk
      go_wp2
      go_ret
      exact ⟨rfl, hfin, hb⟩

/-- What ZZJoin leaves. -/
structure ZZJoined (w w' : World) (cs : List Nat) (wd n : Nat) (e : Ending) : Prop where
  row : ∃ B zs, e = .returned (.slice (some ⟨B, 0, none⟩) n n) ∧ zs.length = n ∧ Ok zs ∧ Own 35 w' B zs ∧ val zs % 2 ^ (64 * n) = tot cs wd cs.length % 2 ^ (64 * n)
  below : Below w.heap.size w w'

theorem zzJoin16 (a : Option Addr) (len cap wd n : Nat) (cs : List Nat) (w : World) (hl : cs.length = len) (hlen : len ≤ 131072) (hw1 : 1 ≤ wd) (hw2 : wd ≤ 63) (hn : n ≤ 4096) (hc63 : ∀ i, cs.getD i 0 < 2 ^ 63) (hr : URow w a cs) :
    Calls Try.prog 16 #[.slice a len cap, .int .i64 wd, .int .i64 n] w fun e w' => ZZJoined w w' cs wd n e := by
  have C := join23 a len cap wd n cs w hl hlen hw1 hw2 hn hc63 hr
  have HC := hide C
  clear C hl hlen hw1 hw2 hc63 hr
  go_enter Try.func16, Try.ntmps16
  go_wp2_with fail
  refine (unhide HC).mono ?_
  rintro e w1 ⟨rfl, ⟨zs, hzl, hzok, hzown, hzval⟩, hb1⟩
  have C2 := uints22 w.heap.size n zs w1 hzl hn hzown
  have HC2 := hide C2
  have HV := hide hzval
  have HL := hide hzl
  clear C2 hzval hzl hzown HC
  go_wp2_with fail
  refine (unhide HC2).mono ?_
  rintro e w2 ⟨rfl, hown2, hb2⟩
  have hfin : ZZJoined w w2 cs wd n (.returned (.slice (some ⟨w1.heap.size, 0, none⟩) n n)) :=
    ⟨⟨w1.heap.size, zs, rfl, unhide HL, hzok, hown2, unhide HV⟩, hb1.trans (hb2.mono hb1.size)⟩
  clear hown2 hb2 hb1 HC2
  go_wp2
  go_ret
  exact hfin

end Go.Proofs.Qxb6003748a.Row
