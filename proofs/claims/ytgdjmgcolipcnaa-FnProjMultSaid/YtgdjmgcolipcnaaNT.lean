/- Number theory in plain Lean: primes, Fermat's little theorem, Pocklington's test. No program in sight.
  Conditions: none.
-/
namespace Go.Proofs.Ytgdjmgcolipcnaa.Ecp

def IsPrime (p : Nat) : Prop := 2 ≤ p ∧ ∀ m, m ∣ p → m = 1 ∨ m = p

theorem IsPrime.pos {p : Nat} (h : IsPrime p) : 0 < p := Nat.lt_of_lt_of_le (by decide) h.1

theorem IsPrime.coprime {p a : Nat} (hp : IsPrime p) (ha : ¬ p ∣ a) : Nat.Coprime p a := by
  rcases hp.2 _ (Nat.gcd_dvd_left p a) with h1 | h1
  · exact h1
  · exact absurd (h1 ▸ Nat.gcd_dvd_right p a) ha

theorem IsPrime.dvd_mul {p a b : Nat} (hp : IsPrime p) (h : p ∣ a * b) : p ∣ a ∨ p ∣ b := by
  by_cases ha : p ∣ a
  · exact .inl ha
  · exact .inr (Nat.Coprime.dvd_of_dvd_mul_left (hp.coprime ha) h)

/-- Pascal's triangle. -/
def ch : Nat → Nat → Nat
  | _, 0 => 1
  | 0, _ + 1 => 0
  | n + 1, k + 1 => ch n k + ch n (k + 1)

theorem ch_zero (n : Nat) : ch n 0 = 1 := by cases n <;> rfl
theorem ch_succ (n k : Nat) : ch (n + 1) (k + 1) = ch n k + ch n (k + 1) := rfl

theorem ch_self_succ : ∀ n k, n < k → ch n k = 0
  | 0, k + 1, _ => rfl
  | n + 1, k + 1, h => by rw [ch_succ, ch_self_succ n k (by omega), ch_self_succ n (k + 1) (by omega)]

theorem ch_self : ∀ n, ch n n = 1
  | 0 => rfl
  | n + 1 => by rw [ch_succ, ch_self n, ch_self_succ n (n + 1) (by omega)]

theorem ch_mul : ∀ n k, (k + 1) * ch (n + 1) (k + 1) = (n + 1) * ch n k
  | 0, 0 => rfl
  | 0, k + 1 => by simp [ch]
  | n + 1, 0 => by
    have h : (0 + 1) * (ch n 0 + ch n 1) = (n + 1) * ch n 0 := ch_mul n 0
    show (0 + 1) * (ch (n + 1) 0 + (ch n 0 + ch n 1)) = (n + 1 + 1) * ch (n + 1) 0
    rw [ch_zero] at h
    rw [ch_zero, ch_zero]
    omega
  | n + 1, k + 1 => by
    have h1 := ch_mul n k
    have h2 := ch_mul n (k + 1)
    rw [ch_succ (n + 1) (k + 1)]
    have e : (k + 1 + 1) * (ch (n + 1) (k + 1) + ch (n + 1) (k + 1 + 1)) = (k + 1) * ch (n + 1) (k + 1) + ch (n + 1) (k + 1) + (k + 1 + 1) * ch (n + 1) (k + 1 + 1) := by
      rw [Nat.mul_add, Nat.add_mul (k + 1) 1, Nat.one_mul]
    rw [e, h1, h2, ch_succ n k, Nat.add_mul (n + 1) 1, Nat.one_mul, Nat.mul_add]
    omega

/-- The binomial sum of the first m terms. -/
def bs (a n : Nat) : Nat → Nat
  | 0 => 0
  | m + 1 => bs a n m + ch n m * a ^ m

theorem bs_step (a n : Nat) : ∀ m, bs a (n + 1) (m + 1) = a * bs a n m + bs a n (m + 1)
  | 0 => by simp [bs, ch_zero]
  | m + 1 => by
    have h := bs_step a n m
    rw [bs, h, ch_succ]
    simp only [bs]
    rw [Nat.add_mul, Nat.mul_add, Nat.pow_succ]
    have : a * (ch n m * a ^ m) = ch n m * (a ^ m * a) := by rw [Nat.mul_comm (a ^ m) a, Nat.mul_left_comm]
    rw [this]
    omega

theorem bs_all (a : Nat) : ∀ n, (a + 1) ^ n = bs a n (n + 1)
  | 0 => by simp [bs, ch]
  | n + 1 => by
    rw [bs_step, Nat.pow_succ, bs_all a n, Nat.mul_add, Nat.mul_one]
    have h : bs a n (n + 1 + 1) = bs a n (n + 1) := by
      rw [bs, ch_self_succ n (n + 1) (by omega)]; simp
    rw [h, Nat.mul_comm]

theorem bs_mod {p a : Nat} (hp : IsPrime p) : ∀ m, m < p → bs a p (m + 1) % p = 1 % p
  | 0, _ => by simp [bs, ch_zero]
  | m + 1, h => by
    have ih := bs_mod (a := a) hp m (by omega)
    rw [bs]
    have hd : p ∣ ch p (m + 1) := by
      obtain ⟨q, rfl⟩ : ∃ q, p = q + 1 := ⟨p - 1, by omega⟩
      have e := ch_mul q m
      have hd : (q + 1) ∣ (m + 1) * ch (q + 1) (m + 1) := e ▸ Nat.dvd_mul_right _ _
      rcases hp.dvd_mul hd with h1 | h1
      · exact absurd (Nat.le_of_dvd (by omega) h1) (by omega)
      · exact h1
    obtain ⟨c, hc⟩ := hd
    rw [hc, Nat.mul_assoc, Nat.add_mul_mod_self_left]
    exact ih

theorem fermat {p : Nat} (hp : IsPrime p) : ∀ a, a ^ p % p = a % p
  | 0 => by
    have := hp.1
    rw [Nat.zero_pow (by omega)]
  | a + 1 => by
    have ih := fermat hp a
    rw [bs_all, bs, ch_self, Nat.one_mul]
    obtain ⟨q, rfl⟩ : ∃ q, p = q + 1 := ⟨p - 1, by have := hp.1; omega⟩
    rw [Nat.add_mod, bs_mod hp q (by omega), ih, ← Nat.add_mod, Nat.add_comm]

theorem cancel_mod {p a x y : Nat} (hp : IsPrime p) (ha : ¬ p ∣ a) (h : (a * x) % p = (a * y) % p) : x % p = y % p := by
  have key : ∀ x y, x ≤ y → (a * x) % p = (a * y) % p → x % p = y % p := by
    intro x y hxy h
    have hd : p ∣ a * y - a * x := Nat.dvd_of_mod_eq_zero (Nat.sub_mod_eq_zero_of_mod_eq h.symm)
    rw [← Nat.mul_sub] at hd
    rcases hp.dvd_mul hd with h1 | h1
    · exact absurd h1 ha
    · obtain ⟨c, hc⟩ := h1
      rw [show y = x + p * c by omega, Nat.add_mul_mod_self_left]
  rcases Nat.le_total x y with hxy | hxy
  · exact key x y hxy h
  · exact (key y x hxy h.symm).symm

theorem fermat' {p a : Nat} (hp : IsPrime p) (ha : ¬ p ∣ a) : a ^ (p - 1) % p = 1 % p := by
  refine cancel_mod hp ha ?_
  have e : a * a ^ (p - 1) = a ^ p := by
    rw [Nat.mul_comm, ← Nat.pow_succ]
    congr 1
    have := hp.1; omega
  rw [e, fermat hp, Nat.mul_one]

theorem pow_mod_one {r a : Nat} (x k : Nat) (h : a ^ x % r = 1 % r) : a ^ (x * k) % r = 1 % r := by
  rw [Nat.pow_mul, Nat.pow_mod, h, ← Nat.pow_mod, Nat.one_pow]

theorem pow_gcd {r a : Nat} (x y : Nat) : a ^ x % r = 1 % r → a ^ y % r = 1 % r → a ^ (Nat.gcd x y) % r = 1 % r := by
  induction x, y using Nat.gcd.induction with
  | H0 y => intro _ h; simpa using h
  | H1 x y hx ih =>
    intro h1 h2
    rw [Nat.gcd_rec]
    refine ih ?_ h1
    have e : a ^ y = a ^ (x * (y / x)) * a ^ (y % x) := by rw [← Nat.pow_add, Nat.div_add_mod]
    rw [e, Nat.mul_mod, pow_mod_one _ _ h1, ← Nat.mul_mod, Nat.one_mul] at h2
    exact h2

/-- Each number from 2 on has a prime that divides it. -/
theorem exists_prime : ∀ n, 2 ≤ n → ∃ r, IsPrime r ∧ r ∣ n := by
  intro n
  induction n using Nat.strongRecOn with
  | ind n ih =>
    intro hn
    by_cases h : ∃ m, m ∣ n ∧ m ≠ 1 ∧ m ≠ n
    · obtain ⟨m, hm, h1, h2⟩ := h
      have hpos : 0 < m := Nat.pos_of_dvd_of_pos hm (by omega)
      have hlt : m < n := Nat.lt_of_le_of_ne (Nat.le_of_dvd (by omega) hm) h2
      obtain ⟨r, hr, hd⟩ := ih m hlt (by omega)
      exact ⟨r, hr, Nat.dvd_trans hd hm⟩
    · refine ⟨n, ⟨hn, fun m hm => ?_⟩, Nat.dvd_refl n⟩
      by_cases h1 : m = 1
      · exact .inl h1
      · by_cases h2 : m = n
        · exact .inr h2
        · exact absurd ⟨m, hm, h1, h2⟩ h

theorem prime_of_roots {n : Nat} (hn : 2 ≤ n) (h : ∀ r, IsPrime r → r ∣ n → n < r * r) : IsPrime n := by
  refine ⟨hn, fun m hm => ?_⟩
  by_cases h1 : m = 1
  · exact .inl h1
  by_cases h2 : m = n
  · exact .inr h2
  exfalso
  obtain ⟨k, hk⟩ := hm
  have hm0 : m ≠ 0 := by rintro rfl; simp at hk; omega
  have hk0 : k ≠ 0 := by rintro rfl; simp at hk; omega
  have hk1 : k ≠ 1 := by rintro rfl; simp at hk; omega
  obtain ⟨r, hr, hrm⟩ := exists_prime m (by omega)
  obtain ⟨s, hs, hsk⟩ := exists_prime k (by omega)
  have hr2 := h r hr (hk ▸ Nat.dvd_trans hrm (Nat.dvd_mul_right m k))
  have hs2 := h s hs (hk ▸ Nat.dvd_trans hsk (Nat.dvd_mul_left k m))
  have hrm' := Nat.le_of_dvd (by omega) hrm
  have hsk' := Nat.le_of_dvd (by omega) hsk
  have h3 : r * s ≤ n := hk ▸ Nat.mul_le_mul hrm' hsk'
  rcases Nat.le_total r s with h4 | h4
  · have := Nat.mul_le_mul_left r h4; omega
  · have := Nat.mul_le_mul_right s h4; omega

/-- One prime of n - 1 divides r - 1 for each prime r of n. -/
theorem pock_step {n r q m a : Nat} (hr : IsPrime r) (hrn : r ∣ n) (hq : IsPrime q) (hm : n - 1 = q * m) (hn : 2 ≤ n)
    (h1 : a ^ (n - 1) % n = 1 % n) (h2 : Nat.gcd (a ^ m % n + (n - 1)) n = 1) : q ∣ r - 1 := by
  have lift : ∀ x y, x % n = y % n → x % r = y % r := by
    intro x y h
    rw [← Nat.mod_mod_of_dvd x hrn, h, Nat.mod_mod_of_dvd y hrn]
  have h1r := lift _ _ h1
  have har : ¬ r ∣ a := by
    intro hd
    have h3 : a ^ (n - 1) % r = 0 := Nat.mod_eq_zero_of_dvd (Nat.dvd_trans hd (by rw [show n - 1 = (n - 2) + 1 by omega, Nat.pow_succ]; exact Nat.dvd_mul_left _ _))
    rw [h3, Nat.mod_eq_of_lt (by have := hr.1; omega)] at h1r
    exact absurd h1r (by decide)
  have hf := fermat' hr har
  by_cases hd : q ∣ r - 1
  · exact hd
  exfalso
  have hg := pow_gcd _ _ h1r hf
  have hc : Nat.Coprime (Nat.gcd (n - 1) (r - 1)) q := by
    have : Nat.Coprime q (r - 1) := hq.coprime hd
    exact (Nat.Coprime.coprime_dvd_right (Nat.gcd_dvd_right _ _) this).symm
  have hgm : Nat.gcd (n - 1) (r - 1) ∣ m := by
    refine Nat.Coprime.dvd_of_dvd_mul_left hc ?_
    rw [← hm]; exact Nat.gcd_dvd_left _ _
  obtain ⟨c, hcm⟩ := hgm
  have h5 : a ^ m % r = 1 % r := by rw [hcm]; exact pow_mod_one _ _ hg
  have h6 : r ∣ a ^ m % n + (n - 1) := by
    apply Nat.dvd_of_mod_eq_zero
    rw [Nat.add_mod, Nat.mod_mod_of_dvd _ hrn, h5, ← Nat.add_mod]
    have : 1 + (n - 1) = n := by omega
    rw [this]; exact Nat.mod_eq_zero_of_dvd hrn
  have h7 := Nat.dvd_gcd h6 hrn
  rw [h2] at h7
  have := Nat.le_of_dvd (by decide) h7
  have := hr.1; omega

/-- a ^ e % m, by squaring, the bits of e from the highest one. k: how many bits. -/
def pm (a e m : Nat) : Nat → Nat
  | 0 => 1 % m
  | k + 1 =>
    let h := pm a (e / 2) m k
    if e % 2 = 0 then h * h % m else h * h % m * a % m

theorem pm_eq (a m : Nat) : ∀ k e, e < 2 ^ k → pm a e m k = a ^ e % m
  | 0, e, h => by
    have : e = 0 := by simpa using h
    subst this; simp [pm]
  | k + 1, e, h => by
    have ih := pm_eq a m k (e / 2) (by rw [Nat.pow_succ] at h; omega)
    have hs : a ^ (e / 2) % m * (a ^ (e / 2) % m) % m = a ^ (e / 2 + e / 2) % m := by rw [← Nat.mul_mod, ← Nat.pow_add]
    simp only [pm, ih, hs]
    split
    · congr 2; omega
    · rw [Nat.mod_mul_mod, ← Nat.pow_succ]
      congr 2; omega

/-- A chain of primes of n - 1, with a witness each, to a product that is large enough. -/
def pockAll (n : Nat) : List (Nat × Nat) → Bool
  | [] => true
  | (q, a) :: l => decide ((n - 1) % q = 0) && decide (pm a (n - 1) n 256 = 1) && decide (Nat.gcd (pm a ((n - 1) / q) n 256 + (n - 1)) n = 1) && pockAll n l

def prod : List (Nat × Nat) → Nat
  | [] => 1
  | (q, _) :: l => q * prod l

def coprimes : List (Nat × Nat) → Bool
  | [] => true
  | (q, _) :: l => decide (Nat.gcd q (prod l) = 1) && coprimes l

theorem pock_dvd {n r : Nat} (hn : 2 ≤ n) (hb : n < 2 ^ 256) (hr : IsPrime r) (hrn : r ∣ n) : ∀ l : List (Nat × Nat), pockAll n l = true → coprimes l = true →
    (∀ x ∈ l, IsPrime x.1) → prod l ∣ r - 1
  | [], _, _, _ => ⟨r - 1, by simp [prod]⟩
  | (q, a) :: l, h, hc, hp => by
    simp only [pockAll, Bool.and_eq_true, decide_eq_true_eq] at h
    simp only [coprimes, Bool.and_eq_true, decide_eq_true_eq] at hc
    obtain ⟨⟨⟨h0, h1⟩, h2⟩, h3⟩ := h
    have ih := pock_dvd hn hb hr hrn l h3 hc.2 (fun x hx => hp x (List.mem_cons_of_mem _ hx))
    have hq : IsPrime q := hp (q, a) (List.mem_cons_self)
    rw [pm_eq _ _ _ _ (by omega)] at h1
    rw [pm_eq _ _ _ _ (Nat.lt_of_le_of_lt (Nat.div_le_self _ _) (by omega))] at h2
    have hm : n - 1 = q * ((n - 1) / q) := by
      have := Nat.div_add_mod (n - 1) q; omega
    have hd := pock_step hr hrn hq hm hn (by rw [h1, Nat.mod_eq_of_lt (by omega)]) h2
    exact Nat.Coprime.mul_dvd_of_dvd_of_dvd hc.1 hd ih

theorem pocklington {n : Nat} (l : List (Nat × Nat)) (hn : 2 ≤ n) (hb : n < 2 ^ 256) (h : pockAll n l = true) (hc : coprimes l = true)
    (hp : ∀ x ∈ l, IsPrime x.1) (hbig : n < (prod l + 1) * (prod l + 1)) : IsPrime n := by
  refine prime_of_roots hn fun r hr hrn => ?_
  have hd := pock_dvd hn hb hr hrn l h hc hp
  have h2 := hr.1
  have hle := Nat.le_of_dvd (by omega) hd
  have : prod l + 1 ≤ r := by omega
  exact Nat.lt_of_lt_of_le hbig (Nat.mul_le_mul this this)

/-- Trial division, for small numbers. -/
def trial (n : Nat) : Nat → Bool
  | 0 => true
  | k + 1 => decide (n % (k + 2) ≠ 0) && trial n k

theorem trial_ok (n : Nat) : ∀ k, trial n k = true → ∀ m, 2 ≤ m → m < k + 2 → ¬ m ∣ n
  | 0, _, m, h1, h2 => by omega
  | k + 1, h, m, h1, h2 => by
    simp only [trial, Bool.and_eq_true, decide_eq_true_eq] at h
    by_cases hm : m = k + 2
    · subst hm; intro hd; exact h.1 (Nat.mod_eq_zero_of_dvd hd)
    · exact trial_ok n k h.2 m h1 (by omega)

theorem prime_of_trial {n : Nat} (k : Nat) (hn : 2 ≤ n) (h : trial n k = true) (hk : n < (k + 2) * (k + 2)) : IsPrime n := by
  refine prime_of_roots hn fun r hr hrn => ?_
  by_cases h1 : r < k + 2
  · exact absurd hrn (trial_ok n k h r hr.1 h1)
  · exact Nat.lt_of_lt_of_le hk (Nat.mul_le_mul (by omega) (by omega))
theorem prime_704251 : IsPrime 704251 := prime_of_trial 838 (by decide) (by decide +kernel) (by decide +kernel)
theorem prime_78283 : IsPrime 78283 := prime_of_trial 278 (by decide) (by decide +kernel) (by decide +kernel)
theorem prime_46076956964474543 : IsPrime 46076956964474543 := by
  refine pocklington [(704251, 2), (78283, 2)] (by decide) (by decide +kernel) (by decide +kernel) (by decide +kernel) ?_ (by decide +kernel)
  intro x hx
  simp only [List.mem_cons, List.not_mem_nil, or_false] at hx
  rcases hx with rfl | rfl
  · exact prime_704251
  · exact prime_78283
theorem prime_3677 : IsPrime 3677 := prime_of_trial 59 (by decide) (by decide +kernel) (by decide +kernel)
theorem prime_197 : IsPrime 197 := prime_of_trial 13 (by decide) (by decide +kernel) (by decide +kernel)
theorem prime_66417393611 : IsPrime 66417393611 := by
  refine pocklington [(3677, 2), (197, 2)] (by decide) (by decide +kernel) (by decide +kernel) (by decide +kernel) ?_ (by decide +kernel)
  intro x hx
  simp only [List.mem_cons, List.not_mem_nil, or_false] at hx
  rcases hx with rfl | rfl
  · exact prime_3677
  · exact prime_197
theorem prime_11290956913871 : IsPrime 11290956913871 := by
  refine pocklington [(66417393611, 2)] (by decide) (by decide +kernel) (by decide +kernel) (by decide +kernel) ?_ (by decide +kernel)
  intro x hx
  simp only [List.mem_cons, List.not_mem_nil, or_false] at hx
  subst hx
  exact prime_66417393611
theorem prime_774023187263532362759620327192479577272145303 : IsPrime 774023187263532362759620327192479577272145303 := by
  refine pocklington [(46076956964474543, 2), (11290956913871, 2)] (by decide) (by decide +kernel) (by decide +kernel) (by decide +kernel) ?_ (by decide +kernel)
  intro x hx
  simp only [List.mem_cons, List.not_mem_nil, or_false] at hx
  rcases hx with rfl | rfl
  · exact prime_46076956964474543
  · exact prime_11290956913871
theorem prime_835945042244614951780389953367877943453916927241 : IsPrime 835945042244614951780389953367877943453916927241 := by
  refine pocklington [(774023187263532362759620327192479577272145303, 2)] (by decide) (by decide +kernel) (by decide +kernel) (by decide +kernel) ?_ (by decide +kernel)
  intro x hx
  simp only [List.mem_cons, List.not_mem_nil, or_false] at hx
  subst hx
  exact prime_774023187263532362759620327192479577272145303
theorem prime_115792089210356248762697446949407573530086143415290314195533631308867097853951 : IsPrime 115792089210356248762697446949407573530086143415290314195533631308867097853951 := by
  refine pocklington [(835945042244614951780389953367877943453916927241, 2)] (by decide) (by decide +kernel) (by decide +kernel) (by decide +kernel) ?_ (by decide +kernel)
  intro x hx
  simp only [List.mem_cons, List.not_mem_nil, or_false] at hx
  subst hx
  exact prime_835945042244614951780389953367877943453916927241
theorem prime_155317 : IsPrime 155317 := prime_of_trial 393 (by decide) (by decide +kernel) (by decide +kernel)
theorem prime_191039911 : IsPrime 191039911 := by
  refine pocklington [(155317, 2)] (by decide) (by decide +kernel) (by decide +kernel) (by decide +kernel) ?_ (by decide +kernel)
  intro x hx
  simp only [List.mem_cons, List.not_mem_nil, or_false] at hx
  subst hx
  exact prime_155317
theorem prime_3023 : IsPrime 3023 := prime_of_trial 53 (by decide) (by decide +kernel) (by decide +kernel)
theorem prime_208150935158385979 : IsPrime 208150935158385979 := by
  refine pocklington [(191039911, 2), (3023, 2)] (by decide) (by decide +kernel) (by decide +kernel) (by decide +kernel) ?_ (by decide +kernel)
  intro x hx
  simp only [List.mem_cons, List.not_mem_nil, or_false] at hx
  rcases hx with rfl | rfl
  · exact prime_191039911
  · exact prime_3023
theorem prime_2624747550333869278416773953 : IsPrime 2624747550333869278416773953 := by
  refine pocklington [(208150935158385979, 2)] (by decide) (by decide +kernel) (by decide +kernel) (by decide +kernel) ?_ (by decide +kernel)
  intro x hx
  simp only [List.mem_cons, List.not_mem_nil, or_false] at hx
  subst hx
  exact prime_208150935158385979
theorem prime_3969899 : IsPrime 3969899 := prime_of_trial 1991 (by decide) (by decide +kernel) (by decide +kernel)
theorem prime_1002328039319 : IsPrime 1002328039319 := by
  refine pocklington [(3969899, 2)] (by decide) (by decide +kernel) (by decide +kernel) (by decide +kernel) ?_ (by decide +kernel)
  intro x hx
  simp only [List.mem_cons, List.not_mem_nil, or_false] at hx
  subst hx
  exact prime_3969899
theorem prime_115792089210356248762697446949407573529996955224135760342422259061068512044369 : IsPrime 115792089210356248762697446949407573529996955224135760342422259061068512044369 := by
  refine pocklington [(2624747550333869278416773953, 2), (1002328039319, 2)] (by decide) (by decide +kernel) (by decide +kernel) (by decide +kernel) ?_ (by decide +kernel)
  intro x hx
  simp only [List.mem_cons, List.not_mem_nil, or_false] at hx
  rcases hx with rfl | rfl
  · exact prime_2624747550333869278416773953
  · exact prime_1002328039319
end Go.Proofs.Ytgdjmgcolipcnaa.Ecp
