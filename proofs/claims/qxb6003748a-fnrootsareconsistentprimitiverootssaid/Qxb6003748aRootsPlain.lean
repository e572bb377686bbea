/- Plain facts on the roots of unity 7^((p-1)/2^(j+1)) modulo p (seat b6003748a). -/
import Derived.Test.Qxb6003748aPow
namespace Go.Proofs.Qxb6003748a.Mod
set_option linter.unusedVariables false

/-- (p - 1) / 2^(j+1). -/
def Q (j : Nat) : Nat := 18446744069414584320 / 2 ^ (j + 1)

theorem Q_half (j : Nat) (h : j < 31) : Q j = Q (j + 1) * 2 := by
  have all : ∀ j : Fin 31, Q j.1 = Q (j.1 + 1) * 2 := by decide
  exact all ⟨j, h⟩
theorem Q_top (j : Nat) (h : j < 32) : Q j * 2 ^ j = 9223372034707292160 := by
  have all : ∀ j : Fin 32, Q j.1 * 2 ^ j.1 = 9223372034707292160 := by decide
  exact all ⟨j, h⟩

/-- The t-th power of the root of order 2^(j+1). -/
def F (j t : Nat) : Int := ipow 7 (Q j * t)

theorem ipow_zero (x : Int) : ipow x 0 = 1 := by unfold ipow; rw [Int.pow_zero]; decide
theorem ipow_bd (x : Int) (e : Nat) : 0 ≤ ipow x e ∧ ipow x e ≤ 18446744069414584320 := by unfold ipow; omega
theorem ipow_mul_self (x : Int) (e : Nat) : (ipow x e * ipow x e) % 18446744069414584321 = ipow x (e * 2) := by
  rw [← ipow_add, show e * 2 = e + e by omega]
theorem ipow_mod (x : Int) (e : Nat) : ipow x e % 18446744069414584321 = ipow x e := by unfold ipow; rw [Int.emod_emod]

theorem F_zero (j : Nat) : F j 0 = 1 := by unfold F; rw [Nat.mul_zero, ipow_zero]
theorem F_bd (j t : Nat) : 0 ≤ F j t ∧ F j t ≤ 18446744069414584320 := ipow_bd _ _
theorem F_half (j t : Nat) (h : j < 31) : F (j + 1) (2 * t) = F j t := by
  unfold F; rw [Q_half j h, Nat.mul_assoc]
theorem F_mul {j t : Nat} {a : Int} (h : a % 18446744069414584321 = F j t) : (a * F j 1) % 18446744069414584321 = F j (t + 1) := by
  have e : F j (t + 1) = (F j t * F j 1) % 18446744069414584321 := by unfold F; rw [Nat.mul_add, ipow_add]
  rw [e, Int.mul_emod, h]
  have e2 : F j 1 % 18446744069414584321 = F j 1 := ipow_mod _ _
  rw [e2]

/-- The square of the square .. (i times) of the root of order 2^(j+1). -/
def G (j i : Nat) : Int := ipow 7 (Q j * 2 ^ i)
theorem G_zero (j : Nat) : G j 0 = F j 1 := by unfold G F; rw [Nat.pow_zero]
theorem G_bd (j i : Nat) : 0 ≤ G j i ∧ G j i ≤ 18446744069414584320 := ipow_bd _ _
theorem G_step (j i : Nat) : (G j i * G j i) % 18446744069414584321 = G j (i + 1) := by
  unfold G
  rw [ipow_mul_self, Nat.pow_succ, Nat.mul_assoc]
theorem G_one (j : Nat) (h : j < 31) : G (j + 1) 1 = F j 1 := by
  unfold G F; rw [Q_half j h, Nat.mul_one, Nat.pow_one]
theorem G_top (j : Nat) (h : j < 32) : G j j = 18446744069414584320 := by
  unfold G
  obtain ⟨e, he⟩ : ∃ e, e = Q j * 2 ^ j := ⟨_, rfl⟩
  rw [← he]
  have he' : e = 9223372034707292160 := by rw [he, Q_top j h]
  have h7 := ipow_nat 7 e
  rw [Fermat.seven_half e he'] at h7
  exact h7

/-- The levels from i on (below m) are filled. -/
def Filled (zs : List Int) (m i : Nat) : Prop := ∀ j, i ≤ j → j < m → ∀ t, t < 2 ^ j → (zs.getD (2 ^ j + t) 0) % 18446744069414584321 = F j t

/-- Every entry is a uint64. -/
def Words (zs : List Int) : Prop := ∀ z ∈ zs, 0 ≤ z ∧ z ≤ 18446744073709551615
theorem Words.at {zs : List Int} (h : Words zs) (i : Nat) : 0 ≤ zs.getD i 0 ∧ zs.getD i 0 ≤ 18446744073709551615 := by
  by_cases hi : i < zs.length
  · have e : zs.getD i 0 = zs[i] := by simp [hi]
    rw [e]; exact h _ (List.getElem_mem hi)
  · have e : zs.getD i 0 = 0 := by simp [Nat.le_of_not_lt hi]
    rw [e]; decide
theorem Words.set {zs : List Int} (h : Words zs) (i : Nat) (x : Int) (h0 : 0 ≤ x) (h1 : x ≤ 18446744073709551615) : Words (zs.set i x) := by
  intro z hz
  rcases List.mem_or_eq_of_mem_set hz with hz | rfl
  · exact h z hz
  · exact ⟨h0, h1⟩
theorem Words.zeros (n : Nat) : Words (List.replicate n 0) := by
  intro z hz
  rw [List.eq_of_mem_replicate hz]
  decide

theorem getD_set_self {zs : List Int} {i : Nat} (x : Int) (h : i < zs.length) : (zs.set i x).getD i 0 = x := by simp [h]
theorem getD_set_other {zs : List Int} {i k : Nat} (x : Int) (h : k ≠ i) : (zs.set i x).getD k 0 = zs.getD k 0 := by
  simp [List.getD, Ne.symm h]

/-- A level half filled: entries h .. h + t - 1. -/
def Part (zs : List Int) (j h t : Nat) : Prop := ∀ s, s < t → (zs.getD (h + s) 0) % 18446744069414584321 = F j s

theorem Part.zero (zs : List Int) (j h : Nat) : Part zs j h 0 := fun s hs => by omega
theorem Part.next {zs : List Int} {j h t : Nat} (hP : Part zs j h t) (x : Int) (hx : x % 18446744069414584321 = F j t) (hl : h + t < zs.length) : Part (zs.set (h + t) x) j h (t + 1) := by
  intro s hs
  by_cases e : s = t
  · subst e; rw [getD_set_self x hl]; exact hx
  · rw [getD_set_other x (by omega)]; exact hP s (by omega)
theorem Filled.keep {zs : List Int} {m i k : Nat} (hF : Filled zs m i) (x : Int) (hk : k < 2 ^ i) : Filled (zs.set k x) m i := by
  intro j h1 h2 t h3
  have : 2 ^ i ≤ 2 ^ j := Nat.pow_le_pow_right (by decide) h1
  rw [getD_set_other x (by omega)]
  exact hF j h1 h2 t h3
theorem Filled.of_part {zs : List Int} {m i : Nat} (hF : Filled zs m (i + 1)) (hP : Part zs i (2 ^ i) (2 ^ i)) : Filled zs m i := by
  intro j h1 h2 t h3
  by_cases e : j = i
  · subst e; exact hP t h3
  · exact hF j (by omega) h2 t h3
theorem Filled.none (zs : List Int) (m i : Nat) (h : m ≤ i) : Filled zs m i := fun j h1 h2 => by omega

end Go.Proofs.Qxb6003748a.Mod
