/- slices.BinarySearchFunc over diagnostics (seat b6003736a). -/
import Derived.Test.Qxb6003736aStab
namespace Go.Proofs.Qxb6003736a.Diag
open Go.RowKit
set_option linter.unusedVariables false

/-- The search's answer. -/
def Found (ds : List D) (t : Int) (e : Ending) : Prop := ∃ (A C : List D) (f : Bool), (f = true → ∃ y ∈ ds, y.fl = t) ∧ ds = A ++ C ∧ (∀ R0 y, A = R0 ++ [y] → y.fl < t) ∧ (∀ y R3, C = y :: R3 → t ≤ y.fl) ∧ e = .returned (.tuple #[.int .i64 A.length, .bool f])

theorem srchAt (x : D) (n : Int) (hx : Bd x) (h1 : -536870912 ≤ n) (h2 : n ≤ 536870912) : Hid (∀ W, Calls Try.prog 23 #[.agg #[.int .i64 x.line, .int .i64 x.fl, .string x.txt, .bool x.warn], .int .i64 n] W
    fun e w' => e = .returned (.int .i64 (x.fl - n)) ∧ W.grownBy w' none) := fun W => srch23 x n W hx h1 h2

theorem search22nil (t : Int) (w : World) :
    Calls Try.prog 22 #[.slice none 0 0, .int .i64 t, .func (.func 23) #[] #[]] w fun e w' => Found [] t e ∧ w.grownBy w' none := by
  go_enter Try.func22, Try.ntmps22
  go_wp2_with fail
  go_loopw [9, 10] (fun I J wr => I = .int .i64 0 ∧ J = .int .i64 0 ∧ w = wr) (fun _ _ _ => 0)
  case atStart => exact ⟨rfl, rfl, rfl⟩
  case round =>
    obtain ⟨rfl, rfl, rfl⟩ := hrel
    go_wp2
    go_ret2
    exact ⟨⟨[], [], false, (fun h => by cases h), rfl, fun R0 y h => by simp at h, fun y R3 h => by simp at h, rfl⟩, World.grownBy.refl _ _⟩

set_option maxRecDepth 100000 in
set_option maxHeartbeats 4000000 in
theorem search22 (B n cap : Nat) (ds J : List D) (t : Int) (w : World) (hn : ds.length = n) (hnb : n ≤ 1048576) (hbd : ∀ d ∈ ds, Bd d) (t1 : -536870912 ≤ t) (t2 : t ≤ 536870912) (hR : Rw w B (ds ++ J)) :
    Calls Try.prog 22 #[.slice (some ⟨B, 0, none⟩) n cap, .int .i64 t, .func (.func 23) #[] #[]] w fun e w' => Found ds t e ∧ w.grownBy w' none := by
  have HN := hide hn
  have HBD := hide hbd
  have HRR := hide hR
  have HT1 := hide t1
  have HT2 := hide t2
  clear hn hbd hR t1 t2
  go_enter Try.func22, Try.ntmps22
  go_wp2_with fail
  go_loopw [9, 10] (fun I J' wr => ∃ (i j : Nat), i ≤ j ∧ j ≤ n ∧ I = .int .i64 i ∧ J' = .int .i64 j ∧ Hid (i = 0 ∨ ((ds ++ J).getD (i - 1) D.no).fl < t) ∧ Hid (j = n ∨ t ≤ ((ds ++ J).getD j D.no).fl) ∧ w.grownBy wr none) (fun I J' _ => (intOf J').toNat - (intOf I).toNat)
  case atStart => exact ⟨0, n, Nat.zero_le _, Nat.le_refl _, rfl, rfl, .inl rfl, .inl rfl, World.grownBy.refl _ _⟩
  case round =>
    obtain ⟨i, j, hij, hjb, rfl, rfl, HI, HJ, hg⟩ := hrel
    by_cases hlt : i < j
    · obtain ⟨h, hh⟩ : ∃ h : Nat, ((i : Int) + (j : Int)) / 2 = (h : Int) := ⟨(i + j) / 2, by omega⟩
      have hih : i ≤ h := by omega
      have hhj : h < j := by omega
      have hRw := (unhide HRR).grown hg
      have hlen := unhide HN
      have hy : (ds ++ J).getD h D.no ∈ ds := by have := getD_mid [] ds J h (by simp) (by simp; omega); simpa using this
      obtain ⟨y, hyd⟩ : ∃ y, (ds ++ J).getD h D.no = y := ⟨_, rfl⟩
      rw [hyd] at hy
      obtain ⟨d1, d2, d3, d4⟩ := Rw.el hRw h (by simp; omega) y hyd
      have HC := srchAt y t (unhide HBD y hy) (unhide HT1) (unhide HT2)
      have HYD := hide hyd
      have hh1 : h < n := by omega
      clear hRw hlen hy hyd
      go_wp2_with fail
      refine (unhide HC _).mono ?_
      rintro _ W ⟨rfl, hW⟩
      have hgW := grown_trans hg hW
      clear hg hW d1 d2 d3 d4
      by_cases hyx : y.fl < t
      · have hdec : y.fl - t < 0 := by omega
        go_wp2
        go_roundw
        case rel => exact ⟨h + 1, j, by omega, by omega, by go_num, rfl, .inr (by rw [Nat.add_sub_cancel, unhide HYD]; exact hyx), HJ, hgW⟩
        case measure => simp [intOf]; omega
      · have hdec : ¬ y.fl - t < 0 := by omega
        go_wp2
        go_roundw
        case rel => exact ⟨i, h, by omega, by omega, rfl, by go_num, HI, .inr (by rw [unhide HYD]; omega), hgW⟩
        case measure => simp [intOf]; omega
    · obtain rfl : i = j := by omega
      have q3 := unhide HN
      obtain ⟨A, C, hRe, hR1⟩ := split_at ds i (by omega)
      have hfound : ∀ f : Bool, (f = true → ∃ y ∈ ds, y.fl = t) → Found ds t (.returned (.tuple #[.int .i64 i, .bool f])) := fun f hf => by
        refine ⟨A, C, f, hf, hRe, fun R0 y he => ?_, fun y R3 he => ?_, by rw [hR1]⟩
        · have h1 := at_mid R0 (C ++ J) y
          rw [show R0.length = i - 1 by rw [he] at hR1; simp at hR1 ⊢; omega] at h1
          rcases unhide HI with h | h
          · exfalso; rw [he] at hR1; simp at hR1; omega
          · rw [hRe, he] at h
            rw [show R0 ++ [y] ++ C ++ J = R0 ++ y :: (C ++ J) by simp, h1] at h
            exact h
        · have h1 := at_mid A (R3 ++ J) y
          rw [hR1] at h1
          rcases unhide HJ with h | h
          · exfalso; rw [hRe, he] at q3; simp at q3; omega
          · rw [hRe, he] at h
            rw [show A ++ y :: R3 ++ J = A ++ y :: (R3 ++ J) by simp, h1] at h
            exact h
      have HF := hide hfound
      clear hfound hRe hR1 q3 HI HJ
      by_cases hin : i < n
      · have hRw := (unhide HRR).grown hg
        have hlen := unhide HN
        have hy : (ds ++ J).getD i D.no ∈ ds := by have := getD_mid [] ds J i (by simp) (by simp; omega); simpa using this
        obtain ⟨y, hyd⟩ : ∃ y, (ds ++ J).getD i D.no = y := ⟨_, rfl⟩
        rw [hyd] at hy
        obtain ⟨d1, d2, d3, d4⟩ := Rw.el hRw i (by simp; omega) y hyd
        have HC := srchAt y t (unhide HBD y hy) (unhide HT1) (unhide HT2)
        have hd : decide (i < n) = true := decide_eq_true hin
        have HY := hide hy
        clear hRw hlen hy hyd
        go_wp2_with fail
        refine (unhide HC _).mono ?_
        rintro _ W ⟨rfl, hW⟩
        have hgW := grown_trans hg hW
        clear hg hW d1 d2 d3 d4
        go_wp2
        go_ret2
        exact ⟨unhide HF _ (fun h => ⟨y, unhide HY, by have h' : y.fl - t = 0 := by simpa using h
                                                       omega⟩), hgW⟩
      · have hd : decide (i < n) = false := decide_eq_false hin
        go_wp2
        go_ret2
        exact ⟨unhide HF _ (fun h => by cases h), hg⟩

/-- A split is where the search says. -/
theorem split_unique (t : Int) (A C A' C' : List D) (h : A ++ C = A' ++ C') (h1 : ∀ y ∈ A, y.fl < t) (h2 : ∀ y ∈ C, t < y.fl) (h3 : ∀ R0 y, A' = R0 ++ [y] → y.fl < t) (h4 : ∀ y R3, C' = y :: R3 → t ≤ y.fl) : A' = A := by
  rcases Nat.lt_trichotomy A.length A'.length with hl | hl | hl
  · exfalso
    rcases nil_or_snoc A' with rfl | ⟨R0, y, rfl⟩
    · simp at hl
    · have e : (A ++ C)[R0.length]? = some y := by rw [h]; simp
      rw [List.getElem?_append_right (by simp at hl; omega)] at e
      have hm := List.mem_of_getElem? e
      have := h2 y hm
      have := h3 R0 y rfl
      omega
  · exact ((List.append_inj h hl).1).symm
  · exfalso
    cases C' with
    | nil =>
      have := congrArg List.length h
      simp at this
      omega
    | cons y R3 =>
      have e : (A ++ C)[A'.length]? = some y := by rw [h]; simp
      rw [List.getElem?_append_left hl] at e
      have hm := List.mem_of_getElem? e
      have := h1 y hm
      have := h4 y R3 rfl
      omega

/-- The search where the target is not in the list. -/
theorem search22' (v : Value) (A C : List D) (t : Int) (w : World) (hs : (v = .slice none 0 0 ∧ A ++ C = []) ∨ ∃ b cap J, v = .slice (some ⟨b, 0, none⟩) (A ++ C).length cap ∧ Rw w b (A ++ C ++ J)) (hnb : (A ++ C).length ≤ 1048576) (hbd : ∀ d ∈ A ++ C, Bd d) (t1 : -536870912 ≤ t) (t2 : t ≤ 536870912)
    (h1 : ∀ y ∈ A, y.fl < t) (h2 : ∀ y ∈ C, t < y.fl) :
    Calls Try.prog 22 #[v, .int .i64 t, .func (.func 23) #[] #[]] w fun e w' => e = .returned (.tuple #[.int .i64 A.length, .bool false]) ∧ w.grownBy w' none := by
  have key : ∀ e w', Found (A ++ C) t e ∧ w.grownBy w' none → e = .returned (.tuple #[.int .i64 A.length, .bool false]) ∧ w.grownBy w' none := fun e w' ⟨⟨A', C', f, hf, he, h3, h4, hr⟩, hg⟩ => by
    refine ⟨?_, hg⟩
    have := split_unique t A C A' C' he h1 h2 h3 h4
    subst this
    cases f with
    | false => exact hr
    | true =>
      exfalso
      obtain ⟨y, hy, hyt⟩ := hf rfl
      rcases List.mem_append.1 hy with h | h
      · have := h1 y h; omega
      · have := h2 y h; omega
  rcases hs with ⟨rfl, h⟩ | ⟨b, cap, J, rfl, hR⟩
  · refine (search22nil t w).mono fun e w' hh => key e w' ?_
    rw [h]
    exact hh
  · exact (search22 b _ cap (A ++ C) J t w rfl hnb hbd t1 t2 hR).mono key

end Go.Proofs.Qxb6003736a.Diag
