/- Plain facts on numbers written in words of 64 bits (seat b6003748a). No Go in sight. -/
namespace Go.Proofs.Qxb6003748a.Words

/-- The number that the words spell, the least significant first. -/
def val : List Nat → Nat
  | [] => 0
  | z :: zs => z + 2 ^ 64 * val zs

/-- Every word is below 2^64. -/
def Ok (zs : List Nat) : Prop := ∀ z ∈ zs, z < 2 ^ 64

theorem Ok.set {zs : List Nat} (h : Ok zs) (i x : Nat) (hx : x < 2 ^ 64) : Ok (zs.set i x) := by
  intro z hz
  rcases List.mem_or_eq_of_mem_set hz with hz | rfl
  · exact h z hz
  · exact hx
theorem Ok.at {zs : List Nat} (h : Ok zs) (i : Nat) : zs.getD i 0 < 2 ^ 64 := by
  by_cases hi : i < zs.length
  · have e : zs.getD i 0 = zs[i] := by simp [hi]
    rw [e]; exact h _ (List.getElem_mem hi)
  · have e : zs.getD i 0 = 0 := by simp [Nat.le_of_not_lt hi]
    rw [e]; decide
theorem Ok.zeros (n : Nat) : Ok (List.replicate n 0) := by
  intro z hz
  rw [List.eq_of_mem_replicate hz]
  decide

theorem val_zeros (n : Nat) : val (List.replicate n 0) = 0 := by
  induction n with
  | zero => rfl
  | succ n ih => rw [List.replicate_succ, val, ih]

theorem pow64 (k : Nat) : 2 ^ (64 * (k + 1)) = 2 ^ 64 * 2 ^ (64 * k) := by rw [Nat.mul_add, Nat.mul_one, Nat.pow_add, Nat.mul_comm]

theorem val_set (zs : List Nat) (k s : Nat) (h : k < zs.length) : val (zs.set k s) + zs.getD k 0 * 2 ^ (64 * k) = val zs + s * 2 ^ (64 * k) := by
  induction zs generalizing k with
  | nil => simp at h
  | cons z zs ih =>
    cases k with
    | zero => simp [val]; omega
    | succ k =>
      have := ih k (by simpa using h)
      rw [List.set_cons_succ, val, val, List.getD_cons_succ, pow64, Nat.mul_left_comm, Nat.mul_left_comm s, Nat.add_assoc, Nat.add_assoc, ← Nat.mul_add, ← Nat.mul_add, this]

theorem val_ge (zs : List Nat) (k : Nat) : zs.getD k 0 * 2 ^ (64 * k) ≤ val zs := by
  induction zs generalizing k with
  | nil => simp
  | cons z zs ih =>
    cases k with
    | zero => simp [val]
    | succ k =>
      have := ih k
      rw [List.getD_cons_succ, pow64, Nat.mul_left_comm, val]
      have := Nat.mul_le_mul_left (2 ^ 64) this
      omega

theorem val_lt (zs : List Nat) (h : Ok zs) : val zs < 2 ^ (64 * zs.length) := by
  induction zs with
  | nil => simp [val]
  | cons z zs ih =>
    have h1 := ih (fun x hx => h x (by simp [hx]))
    have h2 := h z (by simp)
    rw [val, List.length_cons, pow64]
    have := Nat.mul_le_mul_left (2 ^ 64) h1
    rw [Nat.succ_eq_add_one, Nat.mul_add, Nat.mul_one] at this
    omega

theorem val_inj (xs ys : List Nat) (hl : xs.length = ys.length) (hx : Ok xs) (hy : Ok ys) (h : val xs = val ys) : xs = ys := by
  induction xs generalizing ys with
  | nil => cases ys with
    | nil => rfl
    | cons y ys => simp at hl
  | cons x xs ih => cases ys with
    | nil => simp at hl
    | cons y ys =>
      have h1 := hx x (by simp)
      have h2 := hy y (by simp)
      rw [val, val] at h
      have e : x = y := by
        have := congrArg (· % 2 ^ 64) h
        simp only [Nat.add_mul_mod_self_left] at this
        rwa [Nat.mod_eq_of_lt h1, Nat.mod_eq_of_lt h2] at this
      subst e
      have e2 : val xs = val ys := by omega
      rw [ih ys (by simpa using hl) (fun z hz => hx z (by simp [hz])) (fun z hz => hy z (by simp [hz])) e2]

/-- Two lists of words of one length that spell the same number modulo 2^(64 * n). -/
theorem eq_of_mod (xs ys : List Nat) (n T : Nat) (hlx : xs.length = n) (hly : ys.length = n) (hx : Ok xs) (hy : Ok ys) (h1 : val xs % 2 ^ (64 * n) = T % 2 ^ (64 * n)) (h2 : val ys % 2 ^ (64 * n) = T % 2 ^ (64 * n)) : xs = ys := by
  have b1 := val_lt xs hx
  have b2 := val_lt ys hy
  rw [hlx] at b1
  rw [hly] at b2
  rw [Nat.mod_eq_of_lt b1] at h1
  rw [Nat.mod_eq_of_lt b2] at h2
  exact val_inj xs ys (by omega) hx hy (by omega)

theorem mod_drop (M a b : Nat) (h : M ∣ b) : (a + b) % M = a % M := by
  obtain ⟨c, rfl⟩ := h
  rw [Nat.add_mul_mod_self_left]

/-! ### One word added -/
/-- Behind one round of zzAddWord: the word k becomes (z + v) mod 2^64, and 1 is carried where that overflows. -/
theorem add_round (zs : List Nat) (k v : Nat) (h : k < zs.length) (s c : Nat) (hs : zs.getD k 0 + v = s + c * 2 ^ 64) :
    val (zs.set k s) + c * 2 ^ (64 * (k + 1)) = val zs + v * 2 ^ (64 * k) := by
  have e := val_set zs k s h
  have e2 : c * 2 ^ (64 * (k + 1)) = (c * 2 ^ 64) * 2 ^ (64 * k) := by rw [pow64, Nat.mul_assoc]
  have e3 : (zs.getD k 0 + v) * 2 ^ (64 * k) = (s + c * 2 ^ 64) * 2 ^ (64 * k) := by rw [hs]
  rw [Nat.add_mul, Nat.add_mul] at e3
  omega

/-! ### A number shifted to a place -/
/-- v * 2^(64k + s), by the two words that it touches. -/
theorem split_at (v k s : Nat) : v * 2 ^ (64 * k + s) = (v * 2 ^ s % 2 ^ 64) * 2 ^ (64 * k) + (v * 2 ^ s / 2 ^ 64) * 2 ^ (64 * (k + 1)) := by
  rw [pow64, Nat.pow_add]
  have e := Nat.mod_add_div (v * 2 ^ s) (2 ^ 64)
  have e2 : v * (2 ^ (64 * k) * 2 ^ s) = (v * 2 ^ s) * 2 ^ (64 * k) := by rw [Nat.mul_assoc, Nat.mul_comm (2 ^ s)]
  rw [e2, ← Nat.mul_assoc, ← Nat.add_mul, Nat.mul_comm (v * 2 ^ s / 2 ^ 64), e]
theorem hi_part (v s : Nat) (h0 : s ≤ 64) : v * 2 ^ s / 2 ^ 64 = v / 2 ^ (64 - s) := by
  have e : (2 : Nat) ^ 64 = 2 ^ (64 - s) * 2 ^ s := by rw [← Nat.pow_add]; congr 1; omega
  rw [e, Nat.mul_div_mul_right _ _ (Nat.two_pow_pos s)]

/-! ### The sum of the shifted coefficients -/
/-- The sum of the first i coefficients, each shifted by its place. -/
def tot (cs : List Nat) (w : Nat) : Nat → Nat
  | 0 => 0
  | i + 1 => tot cs w i + cs.getD i 0 * 2 ^ (w * i)

theorem tot_over (cs : List Nat) (w i : Nat) (h : cs.length ≤ i) : tot cs w i = tot cs w cs.length := by
  induction i with
  | zero => have : cs.length = 0 := by omega
            rw [this]
  | succ i ih =>
    by_cases e : cs.length = i + 1
    · rw [e]
    · have hz : cs.getD i 0 = 0 := by simp [show cs.length ≤ i by omega]
      rw [tot, hz, Nat.zero_mul, Nat.add_zero, ih (by omega)]

theorem tot_mod (cs : List Nat) (w n i j : Nat) (hij : i ≤ j) (h : 64 * n ≤ w * i) : tot cs w j % 2 ^ (64 * n) = tot cs w i % 2 ^ (64 * n) := by
  induction j with
  | zero => have : i = 0 := by omega
            rw [this]
  | succ j ih =>
    by_cases e : i = j + 1
    · rw [e]
    · have hw : w * i ≤ w * j := Nat.mul_le_mul_left w (by omega)
      have hd : 2 ^ (64 * n) ∣ cs.getD j 0 * 2 ^ (w * j) := Nat.dvd_mul_left_of_dvd (Nat.pow_dvd_pow 2 (by omega)) _
      rw [tot, mod_drop _ _ _ hd, ih (by omega)]

/-! ### A piece laid behind what is there (join) -/
theorem top_lt (zs : List Nat) (k s : Nat) (h : val zs < 2 ^ (64 * k + s)) : zs.getD k 0 < 2 ^ s := by
  have h1 := val_ge zs k
  rw [Nat.pow_add, Nat.mul_comm] at h
  have h2 : zs.getD k 0 * 2 ^ (64 * k) < 2 ^ s * 2 ^ (64 * k) := by omega
  exact Nat.lt_of_mul_lt_mul_right h2
theorem next_zero (zs : List Nat) (k s : Nat) (hs : s ≤ 64) (h : val zs < 2 ^ (64 * k + s)) : zs.getD (k + 1) 0 = 0 := by
  have h1 : val zs < 2 ^ (64 * (k + 1) + 0) := Nat.lt_of_lt_of_le h (Nat.pow_le_pow_right (by decide) (by omega))
  have := top_lt zs (k + 1) 0 h1
  omega
theorem low_form (p s : Nat) (hs : s ≤ 64) : p * 2 ^ s % 2 ^ 64 = 2 ^ s * (p % 2 ^ (64 - s)) := by
  have e : (2 : Nat) ^ 64 = 2 ^ (64 - s) * 2 ^ s := by rw [← Nat.pow_add]; congr 1; omega
  rw [e, Nat.mul_mod_mul_right, Nat.mul_comm]
theorem or_low (z p s : Nat) (hs : s ≤ 64) (hz : z < 2 ^ s) : z ||| (p * 2 ^ s % 2 ^ 64) = z + p * 2 ^ s % 2 ^ 64 := by
  rw [low_form p s hs, Nat.or_comm, ← Nat.two_pow_add_eq_or_of_lt hz, Nat.add_comm]
theorem low_sum (z p s : Nat) (hs : s ≤ 64) (hz : z < 2 ^ s) : z + p * 2 ^ s % 2 ^ 64 < 2 ^ 64 := by
  rw [low_form p s hs]
  have h1 : p % 2 ^ (64 - s) + 1 ≤ 2 ^ (64 - s) := Nat.mod_lt _ (Nat.two_pow_pos _)
  have h2 := Nat.mul_le_mul_left (2 ^ s) h1
  rw [← Nat.pow_add, show s + (64 - s) = 64 by omega, Nat.mul_add, Nat.mul_one] at h2
  omega

/-- The list behind the piece p at bit 64k + s. -/
def laid (zs : List Nat) (k s : Nat) (p : Nat) : List Nat := zs.set k (zs.getD k 0 + p * 2 ^ s % 2 ^ 64)
def laid2 (zs : List Nat) (k s : Nat) (p : Nat) : List Nat := (laid zs k s p).set (k + 1) (p / 2 ^ (64 - s))

theorem val_laid (zs : List Nat) (k s p : Nat) (h : k < zs.length) : val (laid zs k s p) = val zs + (p * 2 ^ s % 2 ^ 64) * 2 ^ (64 * k) := by
  have e := val_set zs k (zs.getD k 0 + p * 2 ^ s % 2 ^ 64) h
  rw [Nat.add_mul] at e
  unfold laid
  omega
theorem laid_next (zs : List Nat) (k s p : Nat) : (laid zs k s p).getD (k + 1) 0 = zs.getD (k + 1) 0 := by
  unfold laid
  simp [List.getD]
/-- The piece whole, over two words. -/
theorem val_laid2 (zs : List Nat) (k s p : Nat) (hs : s ≤ 64) (h : k + 1 < zs.length) (hz : zs.getD (k + 1) 0 = 0) : val (laid2 zs k s p) = val zs + p * 2 ^ (64 * k + s) := by
  have e := val_set (laid zs k s p) (k + 1) (p / 2 ^ (64 - s)) (by simpa [laid] using h)
  rw [laid_next, hz, Nat.zero_mul, Nat.add_zero, val_laid zs k s p (by omega)] at e
  rw [split_at, hi_part p s hs]
  unfold laid2
  omega
/-- The piece whole, in one word. -/
theorem val_laid1 (zs : List Nat) (k s p w : Nat) (h : k < zs.length) (hp : p < 2 ^ w) (hw : s + w ≤ 64) : val (laid zs k s p) = val zs + p * 2 ^ (64 * k + s) := by
  have hlt : p * 2 ^ s < 2 ^ 64 := by
    have h1 : p * 2 ^ s < 2 ^ w * 2 ^ s := Nat.mul_lt_mul_of_pos_right hp (Nat.two_pow_pos s)
    rw [← Nat.pow_add] at h1
    exact Nat.lt_of_lt_of_le h1 (Nat.pow_le_pow_right (by decide) (by omega))
  rw [val_laid zs k s p h, Nat.mod_eq_of_lt hlt, Nat.pow_add, Nat.mul_assoc, Nat.mul_comm (2 ^ s)]
/-- The piece cut at the last word. -/
theorem val_laidcut (zs : List Nat) (k s p : Nat) (h : k < zs.length) : val (laid zs k s p) + (p * 2 ^ s / 2 ^ 64) * 2 ^ (64 * (k + 1)) = val zs + p * 2 ^ (64 * k + s) := by
  rw [val_laid zs k s p h, split_at]
  omega

/-- What join's loop keeps: z spells, modulo 2^(64n), with the carry at bit w*i, the sum of the first i shifted coefficients. -/
structure J (cs zs : List Nat) (w n i carry : Nat) : Prop where
  len : zs.length = n
  ok : Ok zs
  sum : (val zs + carry * 2 ^ (w * i)) % 2 ^ (64 * n) = tot cs w i % 2 ^ (64 * n)
  lt : val zs < 2 ^ (w * i)
  low : carry < 2 ^ (64 - w)

theorem J.start (cs : List Nat) (w n : Nat) : J cs (List.replicate n 0) w n 0 0 :=
  ⟨List.length_replicate, Ok.zeros n, by rw [val_zeros]; rfl, by rw [val_zeros]; exact Nat.two_pow_pos _, Nat.two_pow_pos _⟩

/-- One step of join, whatever the list behind it, if it spells enough. -/
theorem J.next {cs zs : List Nat} {w n i carry : Nat} (h : J cs zs w n i carry) (hw1 : 1 ≤ w) (hw : w ≤ 63) (hc : cs.getD i 0 < 2 ^ 63) (zs' : List Nat) (hl : zs'.length = n) (hok : Ok zs')
    (hle : val zs' ≤ val zs + (carry + cs.getD i 0) % 2 ^ w * 2 ^ (w * i)) (hmod : val zs' % 2 ^ (64 * n) = (val zs + (carry + cs.getD i 0) % 2 ^ w * 2 ^ (w * i)) % 2 ^ (64 * n)) :
    J cs zs' w n (i + 1) ((carry + cs.getD i 0) / 2 ^ w) := by
  have hpw := Nat.two_pow_pos w
  have hm : (carry + cs.getD i 0) % 2 ^ w + 1 ≤ 2 ^ w := Nat.mod_lt _ hpw
  have ewi : 2 ^ (w * (i + 1)) = 2 ^ w * 2 ^ (w * i) := by rw [Nat.mul_add, Nat.mul_one, Nat.pow_add, Nat.mul_comm]
  refine ⟨hl, hok, ?_, ?_, ?_⟩
  · have hs := h.sum
    rw [Nat.add_mod, hmod, ← Nat.add_mod, tot, Nat.add_mod (tot cs w i), ← hs, ← Nat.add_mod]
    have e : (carry + cs.getD i 0) % 2 ^ w * 2 ^ (w * i) + (carry + cs.getD i 0) / 2 ^ w * 2 ^ (w * (i + 1)) = (carry + cs.getD i 0) * 2 ^ (w * i) := by
      rw [ewi, ← Nat.mul_assoc, ← Nat.add_mul, Nat.mul_comm _ (2 ^ w), Nat.mod_add_div]
    rw [Nat.add_assoc, e, Nat.add_mul, ← Nat.add_assoc]
  · have h1 := h.lt
    have h2 := Nat.mul_le_mul_right (2 ^ (w * i)) hm
    rw [Nat.add_mul, Nat.one_mul] at h2
    rw [ewi]
    omega
  · have h3 := h.low
    have h4 : (2 : Nat) ^ (64 - w) ≤ 2 ^ 63 := Nat.pow_le_pow_right (by decide) (by omega)
    rw [Nat.div_lt_iff_lt_mul hpw, ← Nat.pow_add, show 64 - w + w = 64 by omega]
    omega

theorem J.carry_lt {cs zs : List Nat} {w n i carry : Nat} (h : J cs zs w n i carry) (hw1 : 1 ≤ w) (hw : w ≤ 63) (hc : cs.getD i 0 < 2 ^ 63) : carry + cs.getD i 0 < 2 ^ 64 := by
  have h3 := h.low
  have h4 : (2 : Nat) ^ (64 - w) ≤ 2 ^ 63 := Nat.pow_le_pow_right (by decide) (by omega)
  omega

theorem J.done {cs zs : List Nat} {w n i carry : Nat} (h : J cs zs w n i carry) (hi : 64 * n ≤ w * i) : val zs % 2 ^ (64 * n) = tot cs w cs.length % 2 ^ (64 * n) := by
  have hd : 2 ^ (64 * n) ∣ carry * 2 ^ (w * i) := Nat.dvd_mul_left_of_dvd (Nat.pow_dvd_pow 2 hi) _
  have hs := h.sum
  rw [mod_drop _ _ _ hd] at hs
  rw [hs]
  rcases Nat.le_total i cs.length with hle | hle
  · exact (tot_mod cs w n i cs.length hle hi).symm
  · rw [tot_over cs w i hle]

section
variable {cs zs : List Nat} {w n i carry k s : Nat}
theorem J.ok_laid (h : J cs zs w n i carry) (hs : s ≤ 64) (hA : w * i = 64 * k + s) (p : Nat) : Ok (laid zs k s p) := by
  have hlt := h.lt
  rw [hA] at hlt
  exact h.ok.set _ _ (low_sum _ p s hs (top_lt zs k s hlt))
theorem J.len_laid (h : J cs zs w n i carry) (p : Nat) : (laid zs k s p).length = n := by unfold laid; rw [List.length_set]; exact h.len

/-- The piece fits into one word. -/
theorem J.place1 (h : J cs zs w n i carry) (hw1 : 1 ≤ w) (hw : w ≤ 63) (hc : cs.getD i 0 < 2 ^ 63) (hA : w * i = 64 * k + s) (hk : k < n) (hs : s + w ≤ 64) :
    J cs (laid zs k s ((carry + cs.getD i 0) % 2 ^ w)) w n (i + 1) ((carry + cs.getD i 0) / 2 ^ w) := by
  have e := val_laid1 zs k s ((carry + cs.getD i 0) % 2 ^ w) w (by rw [h.len]; exact hk) (Nat.mod_lt _ (Nat.two_pow_pos w)) hs
  rw [← hA] at e
  exact h.next hw1 hw hc _ (h.len_laid _) (h.ok_laid (by omega) hA _) (by rw [e]; exact Nat.le_refl _) (by rw [e])
/-- The piece goes over into the next word. -/
theorem J.place2 (h : J cs zs w n i carry) (hw1 : 1 ≤ w) (hw : w ≤ 63) (hc : cs.getD i 0 < 2 ^ 63) (hA : w * i = 64 * k + s) (hk : k + 1 < n) (hs : s < 64) :
    J cs (laid2 zs k s ((carry + cs.getD i 0) % 2 ^ w)) w n (i + 1) ((carry + cs.getD i 0) / 2 ^ w) := by
  have hlt := h.lt
  rw [hA] at hlt
  have e := val_laid2 zs k s ((carry + cs.getD i 0) % 2 ^ w) (by omega) (by rw [h.len]; exact hk) (next_zero zs k s (by omega) hlt)
  rw [← hA] at e
  refine h.next hw1 hw hc _ (by unfold laid2; rw [List.length_set]; exact h.len_laid _) ((h.ok_laid (by omega) hA _).set _ _ ?_) (by rw [e]; exact Nat.le_refl _) (by rw [e])
  have h1 := h.carry_lt hw1 hw hc
  have h2 : (carry + cs.getD i 0) % 2 ^ w ≤ carry + cs.getD i 0 := Nat.mod_le _ _
  exact Nat.lt_of_le_of_lt (Nat.div_le_self _ _) (by omega)
/-- The piece is cut at the last word. -/
theorem J.place3 (h : J cs zs w n i carry) (hw1 : 1 ≤ w) (hw : w ≤ 63) (hc : cs.getD i 0 < 2 ^ 63) (hA : w * i = 64 * k + s) (hk : k < n) (hk1 : n ≤ k + 1) (hs : s < 64) :
    J cs (laid zs k s ((carry + cs.getD i 0) % 2 ^ w)) w n (i + 1) ((carry + cs.getD i 0) / 2 ^ w) := by
  have e := val_laidcut zs k s ((carry + cs.getD i 0) % 2 ^ w) (by rw [h.len]; exact hk)
  rw [← hA] at e
  refine h.next hw1 hw hc _ (h.len_laid _) (h.ok_laid (by omega) hA _) (by omega) ?_
  rw [← e]
  exact (mod_drop _ _ _ (Nat.dvd_mul_left_of_dvd (Nat.pow_dvd_pow 2 (by omega)) _)).symm
end

end Go.Proofs.Qxb6003748a.Words
