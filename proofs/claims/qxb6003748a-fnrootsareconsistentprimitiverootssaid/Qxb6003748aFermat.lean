/- Plain number theory (seat b6003748a): Fermat's little theorem, and that p = 2^64 - 2^32 + 1 is prime. No Go in sight. -/
namespace Go.Proofs.Qxb6003748a.Fermat

/-- q is prime. -/
def Pr (q : Nat) : Prop := 2 ≤ q ∧ ∀ d, d ∣ q → d = 1 ∨ d = q

theorem Pr.dvd_mul {q a b : Nat} (h : Pr q) (hd : q ∣ a * b) : q ∣ a ∨ q ∣ b := by
  rcases h.2 (Nat.gcd q a) (Nat.gcd_dvd_left q a) with h1 | h1
  · exact .inr (Nat.Coprime.dvd_of_dvd_mul_left h1 hd)
  · left
    have := Nat.gcd_dvd_right q a
    rwa [h1] at this

/-- Binomial coefficients. -/
def C : Nat → Nat → Nat
  | _, 0 => 1
  | 0, _ + 1 => 0
  | n + 1, k + 1 => C n k + C n (k + 1)

theorem C_zero (n : Nat) : C n 0 = 1 := by cases n <;> rfl
theorem C_over (n k : Nat) (h : n < k) : C n k = 0 := by
  induction n generalizing k with
  | zero => cases k with
    | zero => omega
    | succ k => rfl
  | succ n ih => cases k with
    | zero => omega
    | succ k => show C n k + C n (k + 1) = 0; rw [ih k (by omega), ih (k + 1) (by omega)]
theorem C_self (n : Nat) : C n n = 1 := by
  induction n with
  | zero => rfl
  | succ n ih => show C n n + C n (n + 1) = 1; rw [ih, C_over n (n + 1) (by omega)]

theorem absorb (n k : Nat) : (k + 1) * C (n + 1) (k + 1) = (n + 1) * C n k := by
  induction n generalizing k with
  | zero => cases k with
    | zero => rfl
    | succ k => show (k + 1 + 1) * (C 0 (k + 1) + C 0 (k + 1 + 1)) = (0 + 1) * 0; rw [C_over 0 (k + 1) (by omega), C_over 0 (k + 1 + 1) (by omega)]; simp
  | succ n ih =>
    show (k + 1) * (C (n + 1) k + C (n + 1) (k + 1)) = (n + 1 + 1) * C (n + 1) k
    rw [Nat.mul_add, ih k]
    cases k with
    | zero => rw [C_zero, C_zero]; omega
    | succ j =>
      have h1 := ih j
      have e1 : C (n + 1) (j + 1) = C n j + C n (j + 1) := rfl
      rw [show (j + 1 + 1) * C (n + 1) (j + 1) = (j + 1) * C (n + 1) (j + 1) + C (n + 1) (j + 1) by rw [Nat.add_mul (j + 1) 1, Nat.one_mul], h1,
        show (n + 1 + 1) * C (n + 1) (j + 1) = (n + 1) * C (n + 1) (j + 1) + C (n + 1) (j + 1) by rw [Nat.add_mul (n + 1) 1, Nat.one_mul]]
      rw [show (n + 1) * C (n + 1) (j + 1) = (n + 1) * C n j + (n + 1) * C n (j + 1) by rw [e1, Nat.mul_add]]
      omega

/-- The sum over k < m of C n k * x^k. -/
def S (n x : Nat) : Nat → Nat
  | 0 => 0
  | m + 1 => S n x m + C n m * x ^ m

theorem S_step (n x m : Nat) : S (n + 1) x (m + 1) = S n x (m + 1) + x * S n x m := by
  induction m with
  | zero => simp [S, C_zero]
  | succ m ih =>
    have e1 : S (n + 1) x (m + 1 + 1) = S (n + 1) x (m + 1) + C (n + 1) (m + 1) * x ^ (m + 1) := rfl
    have e2 : S n x (m + 1 + 1) = S n x (m + 1) + C n (m + 1) * x ^ (m + 1) := rfl
    have e3 : S n x (m + 1) = S n x m + C n m * x ^ m := rfl
    have e4 : C (n + 1) (m + 1) = C n m + C n (m + 1) := rfl
    rw [e1, ih, e2, e4, Nat.add_mul]
    have e5 : x * S n x (m + 1) = x * S n x m + C n m * x ^ (m + 1) := by
      rw [e3, Nat.mul_add, Nat.pow_succ, Nat.mul_left_comm x, Nat.mul_comm x (x ^ m)]
    rw [e5]
    omega

theorem binom (n x : Nat) : (x + 1) ^ n = S n x (n + 1) := by
  induction n with
  | zero => simp [S, C_zero]
  | succ n ih =>
    rw [Nat.pow_succ, ih, S_step]
    have e : S n x (n + 1 + 1) = S n x (n + 1) + C n (n + 1) * x ^ (n + 1) := rfl
    rw [e, C_over n (n + 1) (by omega), Nat.mul_add, Nat.mul_one, Nat.mul_comm x]
    omega

theorem dvd_C {q : Nat} (h : Pr q) (k : Nat) (h0 : 0 < k) (h1 : k < q) : q ∣ C q k := by
  have e := absorb (q - 1) (k - 1)
  rw [show q - 1 + 1 = q by omega, show k - 1 + 1 = k by omega] at e
  rcases h.dvd_mul (a := k) (b := C q k) ⟨_, e⟩ with hk | hk
  · have := Nat.le_of_dvd h0 hk; omega
  · exact hk

theorem S_mod {q : Nat} (h : Pr q) (x m : Nat) (hm : m + 1 ≤ q) : S q x (m + 1) % q = 1 % q := by
  induction m with
  | zero => simp [S, C_zero]
  | succ m ih =>
    have e : S q x (m + 1 + 1) = S q x (m + 1) + C q (m + 1) * x ^ (m + 1) := rfl
    have hd : q ∣ C q (m + 1) * x ^ (m + 1) := Nat.dvd_mul_right_of_dvd (dvd_C h (m + 1) (by omega) (by omega)) _
    rw [e, Nat.add_mod, Nat.mod_eq_zero_of_dvd hd, Nat.add_zero, Nat.mod_mod]
    exact ih (by omega)

theorem dream {q : Nat} (h : Pr q) (x : Nat) : (x + 1) ^ q % q = (x ^ q + 1) % q := by
  have e : S q x (q + 1) = S q x q + C q q * x ^ q := rfl
  have hq := h.1
  have hs := S_mod h x (q - 1) (by omega)
  rw [show q - 1 + 1 = q by omega] at hs
  rw [binom, e, C_self, Nat.one_mul, Nat.add_mod, hs, ← Nat.add_mod, Nat.add_comm]

theorem fermat {q : Nat} (h : Pr q) (x : Nat) : x ^ q % q = x % q := by
  induction x with
  | zero => rw [Nat.zero_pow (by have := h.1; omega)]
  | succ x ih => rw [dream h, Nat.add_mod, ih, ← Nat.add_mod]

theorem mod_one_of_dvd {q y : Nat} (hy : 1 ≤ y) (h : q ∣ y - 1) : y % q = 1 % q := by
  obtain ⟨c, hc⟩ := h
  have : y = 1 + q * c := by omega
  rw [this, Nat.add_mul_mod_self_left]

theorem dvd_of_mod_eq {q a b : Nat} (hab : b ≤ a) (h : a % q = b % q) : q ∣ a - b := by
  refine ⟨a / q - b / q, ?_⟩
  have h1 := Nat.div_add_mod a q
  have h2 := Nat.div_add_mod b q
  rw [Nat.mul_sub]
  omega

theorem fermat_one {q : Nat} (h : Pr q) (x : Nat) (hx : ¬ q ∣ x) : x ^ (q - 1) % q = 1 % q := by
  have hq := h.1
  have hx0 : 0 < x := by
    rcases Nat.eq_zero_or_pos x with h0 | h0
    · subst h0; exact absurd (Nat.dvd_zero q) hx
    · exact h0
  have hp : 1 ≤ x ^ (q - 1) := Nat.pow_pos hx0
  have e : x ^ q = x * x ^ (q - 1) := by
    have : x ^ (q - 1 + 1) = x ^ (q - 1) * x := Nat.pow_succ _ _
    rw [show q - 1 + 1 = q by omega] at this
    rw [this, Nat.mul_comm]
  have hle : x ≤ x ^ q := by rw [e]; exact Nat.le_mul_of_pos_right _ hp
  have hd := dvd_of_mod_eq hle (fermat h x)
  rw [e, show x * x ^ (q - 1) - x = x * (x ^ (q - 1) - 1) by rw [Nat.mul_sub, Nat.mul_one]] at hd
  rcases h.dvd_mul hd with h1 | h1
  · exact absurd h1 hx
  · exact mod_one_of_dvd hp h1

theorem fermat_one' {q : Nat} (h : Pr q) (x e : Nat) (he : e = q - 1) (hx : ¬ q ∣ x) : x ^ e % q = 1 % q := by
  rw [he]; exact fermat_one h x hx
theorem fermat' {q : Nat} (h : Pr q) (x e : Nat) (he : e = q) : x ^ e % q = x % q := by
  rw [he]; exact fermat h x

/-! ### Powers that are 1 -/
theorem pow_one_mod {q a m : Nat} (h : a ^ m % q = 1 % q) (k : Nat) : a ^ (m * k) % q = 1 % q := by
  rw [Nat.pow_mul, Nat.pow_mod, h, ← Nat.pow_mod, Nat.one_pow]

theorem pow_gcd {q a : Nat} (m n : Nat) (hm : a ^ m % q = 1 % q) (hn : a ^ n % q = 1 % q) : a ^ (Nat.gcd m n) % q = 1 % q := by
  induction m, n using Nat.gcd.induction with
  | H0 n => rw [Nat.gcd_zero_left]; exact hn
  | H1 m n hpos ih =>
    rw [Nat.gcd_rec]
    refine ih ?_ hm
    have e : a ^ n = a ^ (m * (n / m)) * a ^ (n % m) := by rw [← Nat.pow_add, Nat.div_add_mod]
    rw [e, Nat.mul_mod, pow_one_mod hm, ← Nat.mul_mod, Nat.one_mul] at hn
    exact hn

/-! ### A prime divisor -/
theorem least_dvd (n k : Nat) : ∀ d, d + k = n → 2 ≤ d → (∀ c, 2 ≤ c → c < d → ¬ c ∣ n) → ∃ q, 2 ≤ q ∧ q ∣ n ∧ ∀ c, 2 ≤ c → c < q → ¬ c ∣ n := by
  induction k with
  | zero => intro d hd h2 hno; exact ⟨d, h2, by rw [← hd, Nat.add_zero]; exact Nat.dvd_refl _, hno⟩
  | succ k ih =>
    intro d hd h2 hno
    by_cases hdn : d ∣ n
    · exact ⟨d, h2, hdn, hno⟩
    · refine ih (d + 1) (by omega) (by omega) (fun c hc hc' => ?_)
      by_cases e : c = d
      · rw [e]; exact hdn
      · exact hno c hc (by omega)

/-- n has a prime divisor q; and if n is not prime, q * q is at most n. -/
theorem prime_dvd (n : Nat) (h : 2 ≤ n) : ∃ q, Pr q ∧ q ∣ n ∧ (q = n ∨ q * q ≤ n) := by
  obtain ⟨q, h2, hd, hno⟩ := least_dvd n (n - 2) 2 (by omega) (Nat.le_refl _) (fun c hc hc' => by omega)
  refine ⟨q, ⟨h2, fun d hdq => ?_⟩, hd, ?_⟩
  · have hdn : d ∣ n := Nat.dvd_trans hdq hd
    have hle : d ≤ q := Nat.le_of_dvd (by omega) hdq
    rcases Nat.lt_or_ge d 2 with hd2 | hd2
    · have : d ≠ 0 := fun e => by rw [e] at hdq; have := Nat.eq_zero_of_zero_dvd hdq; omega
      left; omega
    · right
      rcases Nat.lt_or_ge d q with hl | hl
      · exact absurd hdn (hno d hd2 hl)
      · omega
  · obtain ⟨c, hc⟩ := hd
    have hc0 : c ≠ 0 := fun e => by rw [e] at hc; omega
    by_cases hc1 : c = 1
    · left; rw [hc, hc1, Nat.mul_one]
    · right
      have hcq : q ≤ c := by
        rcases Nat.lt_or_ge c q with hl | hl
        · exact absurd ⟨q, by rw [hc, Nat.mul_comm]⟩ (hno c (by omega) hl)
        · exact hl
      rw [hc]
      exact Nat.mul_le_mul_left q hcq

/-! ### Powers by squaring -/
def pm (m : Nat) : Nat → Nat → Nat → Nat → Nat
  | 0, _, _, r => r
  | f + 1, x, e, r => pm m f (x * x % m) (e / 2) (if e % 2 = 1 then r * x % m else r)

theorem pm_spec (m f x e r : Nat) (h : e < 2 ^ f) : pm m f x e r % m = r * x ^ e % m := by
  induction f generalizing x e r with
  | zero =>
    have : e = 0 := by simpa using h
    subst this
    simp [pm]
  | succ f ih =>
    rw [Nat.pow_succ] at h
    have e1 : pm m (f + 1) x e r = pm m f (x * x % m) (e / 2) (if e % 2 = 1 then r * x % m else r) := rfl
    rw [e1, ih _ _ _ (by omega), Nat.mul_mod, ← Nat.pow_mod, ← Nat.mul_mod]
    have e2 : x ^ e = x ^ (e % 2) * (x * x) ^ (e / 2) := by
      rw [show x * x = x ^ 2 by rw [Nat.pow_succ, Nat.pow_one], ← Nat.pow_mul, ← Nat.pow_add, Nat.mod_add_div]
    rw [e2]
    by_cases ho : e % 2 = 1
    · rw [if_pos ho, ho, Nat.pow_one, ← Nat.mul_assoc, Nat.mul_mod, Nat.mod_mod, ← Nat.mul_mod]
    · have : e % 2 = 0 := by omega
      rw [if_neg ho, this, Nat.pow_zero, Nat.one_mul]

/-- 7^((p-1)/2) is -1 modulo p. -/
theorem seven_half (e : Nat) (he : e = 9223372034707292160) : 7 ^ e % 18446744069414584321 = 18446744069414584320 := by
  have h := pm_spec 18446744069414584321 64 7 e 1 (by rw [he]; decide)
  rw [Nat.one_mul] at h
  rw [← h, he]
  decide +kernel

theorem seven_full (e : Nat) (he : e = 18446744069414584320) : 7 ^ e % 18446744069414584321 = 1 := by
  have h := pm_spec 18446744069414584321 64 7 e 1 (by rw [he]; decide)
  rw [Nat.one_mul] at h
  rw [← h, he]
  decide +kernel

theorem mod_of_mod {a p q c : Nat} (hq : q ∣ p) (h : a % p = c) : a % q = c % q := by
  rw [← h, Nat.mod_mod_of_dvd _ hq]

/-- p = 2^64 - 2^32 + 1 is prime (Pocklington's way: every prime divisor q has 2^32 | q - 1). -/
theorem p_prime : Pr 18446744069414584321 := by
  obtain ⟨q, hq, hd, h⟩ := prime_dvd 18446744069414584321 (by decide)
  have hq2 := hq.1
  rcases h with h | h
  · rw [← h]; exact hq
  · exfalso
    have hqlt : q < 4294967296 := by
      rcases Nat.lt_or_ge q 4294967296 with h' | h'
      · exact h'
      · have := Nat.mul_le_mul h' h'; omega
    obtain ⟨e, he⟩ : ∃ e : Nat, e = 18446744069414584320 := ⟨_, rfl⟩
    obtain ⟨e', he'⟩ : ∃ e : Nat, e = 9223372034707292160 := ⟨_, rfl⟩
    have s1 := mod_of_mod hd (seven_full e he)
    have s2 := mod_of_mod hd (seven_half e' he')
    have h7 : ¬ q ∣ 7 := fun h7 => by
      have hz : 7 ^ e % q = 0 := by
        obtain ⟨k, hk⟩ : ∃ k, e = k + 1 := ⟨e - 1, by omega⟩
        rw [hk, Nat.pow_succ]
        exact Nat.mod_eq_zero_of_dvd (Nat.dvd_trans h7 (Nat.dvd_mul_left _ _))
      rw [s1, Nat.mod_eq_of_lt (by omega)] at hz
      omega
    have s3 := pow_gcd e (q - 1) s1 (fermat_one hq 7 h7)
    obtain ⟨c, hc⟩ := Nat.gcd_dvd_left e (q - 1)
    have hgq := Nat.gcd_dvd_right e (q - 1)
    generalize Nat.gcd e (q - 1) = g at *
    by_cases hodd : c % 2 = 1
    · have hcop : Nat.Coprime 4294967296 c := by
        have h2 : Nat.Coprime 2 c := by rw [Nat.Coprime, Nat.gcd_rec, hodd]; decide
        have := Nat.Coprime.pow_left 32 h2
        exact this
      have hdv : 4294967296 ∣ g * c := ⟨4294967295, by omega⟩
      have hdg : 4294967296 ∣ g := Nat.Coprime.dvd_of_dvd_mul_right hcop hdv
      have := Nat.le_of_dvd (by omega) (Nat.dvd_trans hdg hgq)
      omega
    · have e2 : e' = g * (c / 2) := by
        have hcc : c = 2 * (c / 2) := by omega
        rw [hcc, Nat.mul_left_comm] at hc
        omega
      rw [e2, pow_one_mod s3] at s2
      have hd2 : q ∣ 18446744069414584320 - 1 := dvd_of_mod_eq (by decide) s2.symm
      have hd3 : q ∣ 18446744069414584321 - (18446744069414584320 - 1) := Nat.dvd_sub hd hd2
      have hle := Nat.le_of_dvd (by decide) hd3
      have hq22 : q = 2 := by omega
      rw [hq22] at hd
      omega

theorem fermat_p (x e : Nat) (he : e = 18446744069414584321) : x ^ e % 18446744069414584321 = x % 18446744069414584321 := by
  exact fermat' p_prime x e he

theorem fermat_p1 (x e : Nat) (he : e = 18446744069414584320) (hx : x % 18446744069414584321 ≠ 0) : x ^ e % 18446744069414584321 = 1 := by
  exact fermat_one' p_prime x e (by omega) (fun hd => hx (Nat.mod_eq_zero_of_dvd hd))

end Go.Proofs.Qxb6003748a.Fermat
