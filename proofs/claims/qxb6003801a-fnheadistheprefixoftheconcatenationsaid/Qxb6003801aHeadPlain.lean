/- What Head's answer comes to (seat b6003801a): plain facts on blocks. -/
import Derived.Test.Qxb6003801aHead
namespace Go.Proofs.Qxb6003801a.Blk
open Go.RowKit
set_option linter.unusedVariables false

theorem flat_congr {xs ys : List B} {k : Nat} (h : ∀ j, j < k → (xs.getD j B.no).bs = (ys.getD j B.no).bs) : flat xs k = flat ys k := by
  induction k with
  | zero => rfl
  | succ k ih => rw [flat, flat, ih (fun j hj => h j (by omega)), h k (by omega)]
theorem flat_prefix (xs : List B) {k l : Nat} (h : k ≤ l) : ∃ r, flat xs l = flat xs k ++ r := by
  induction l with
  | zero => have : k = 0 := by omega
            exact ⟨[], by rw [this]; simp⟩
  | succ l ih =>
    by_cases e : k = l + 1
    · exact ⟨[], by rw [e]; simp⟩
    · obtain ⟨r, hr⟩ := ih (by omega)
      exact ⟨r ++ (xs.getD l B.no).bs, by rw [flat, hr, List.append_assoc]⟩
theorem getD_cut (xs : List B) (k j : Nat) (y : B) (hk : k < xs.length) (hj : j < k) : (xs.take k ++ [y]).getD j B.no = xs.getD j B.no := by
  simp [List.getD, List.getElem?_append_left (show j < (xs.take k).length by simp; omega), hj]
theorem getD_cut_last (xs : List B) (k : Nat) (y : B) (hk : k < xs.length) : (xs.take k ++ [y]).getD k B.no = y := by
  have e : (xs.take k).length = k := by simp; omega
  have := List.getElem?_append_right (l₁ := xs.take k) (l₂ := [y]) (i := k) (by omega)
  rw [List.getD, this, e, Nat.sub_self]
  rfl

/-- All that the law asks of Head's answer. -/
structure HeadFacts (xs : List B) (n : Nat) (ys : List B) : Prop where
  flat : flat ys ys.length = (flat xs xs.length).take n
  len : ys.length ≤ xs.length
  same : ∀ k, k + 1 < ys.length → (ys.getD k B.no).bs = (xs.getD k B.no).bs
  last : ∀ k, k + 1 = ys.length → ∃ m, (ys.getD k B.no).bs = (xs.getD k B.no).bs.take m
  each : ∀ k, k < ys.length → (ys.getD k B.no).a = (xs.getD k B.no).a ∧ ∃ m, (ys.getD k B.no).bs = (xs.getD k B.no).bs.take m

theorem HeadSpec.facts {xs ys : List B} {n : Nat} (h : HeadSpec xs n ys) : HeadFacts xs n ys := by
  rcases h with ⟨k, m, hk, hn, hm, rfl⟩ | ⟨rfl, hT⟩
  · have e : (xs.take k).length = k := by simp; omega
    have hl : (xs.take k ++ [(⟨(xs.getD k B.no).a, (xs.getD k B.no).cap, (xs.getD k B.no).bs.take m⟩ : B)]).length = k + 1 := by rw [List.length_append, e]; rfl
    refine ⟨?_, by rw [hl]; omega, fun j hj => ?_, fun j hj => ?_, fun j hj => ?_⟩
    · rw [hl, Blk.flat, getD_cut_last xs k _ hk, flat_congr (ys := xs) (fun j hj => by rw [getD_cut xs k j _ hk hj])]
      obtain ⟨r, hr⟩ := flat_prefix xs (k := k + 1) (l := xs.length) hk
      rw [hr, Blk.flat, List.append_assoc, hn, ← flat_length, List.take_length_add_append, List.take_append_of_le_length hm]
    · rw [hl] at hj
      rw [getD_cut xs k j _ hk (by omega)]
    · rw [hl] at hj
      obtain rfl : j = k := by omega
      exact ⟨m, by rw [getD_cut_last xs j _ hk]⟩
    · rw [hl] at hj
      by_cases hjk : j < k
      · rw [getD_cut xs k j _ hk hjk]
        exact ⟨rfl, (xs.getD j B.no).bs.length, by rw [List.take_length]⟩
      · obtain rfl : j = k := by omega
        rw [getD_cut_last xs j _ hk]
        exact ⟨rfl, m, rfl⟩
  · refine ⟨?_, Nat.le_refl _, fun j hj => rfl, fun j hj => ⟨_, (List.take_length).symm⟩, fun j hj => ⟨rfl, _, (List.take_length).symm⟩⟩
    rw [List.take_of_length_le]
    rw [flat_length]; exact hT

theorem BRow.take {w : World} {a : Option Addr} {bs : List Int} (h : BRow w a bs) (m : Nat) : BRow w a (bs.take m) := by
  rcases h with h | ⟨b, off, ha, hc⟩
  · exact .inl (show (bs.take m).length < 1 by have := h.out; rw [List.length_take]; omega)
  · refine .inr ⟨b, off, ha, fun k hk => ?_⟩
    rw [List.length_take] at hk
    rw [hc k (by omega)]
    simp [List.getD, show k < m by omega]

theorem HeadFacts.inner {w : World} {xs ys : List B} {n : Nat} (h : HeadFacts xs n ys) (hin : Inner w xs) : Inner w ys := by
  intro k hk
  have hkx : k < xs.length := Nat.lt_of_lt_of_le hk h.len
  obtain ⟨e1, m, e2⟩ := h.each k hk
  obtain ⟨h1, h2⟩ := hin k hkx
  rw [e1, e2]
  exact ⟨h1.take m, by rw [List.length_take]; omega⟩

theorem HeadFacts.tot_le {xs ys : List B} {n : Nat} (h : HeadFacts xs n ys) : tot ys ys.length ≤ tot xs xs.length := by
  rw [← flat_length, ← flat_length, h.flat, List.length_take]
  omega

end Go.Proofs.Qxb6003801a.Blk
