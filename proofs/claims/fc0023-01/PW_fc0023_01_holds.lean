import PyProof.Rows.All
import Wide.All
import OpenK.AllK
import Wide.FinOn
import PySem.Challenge.RW_fc0023_01
set_option Elab.async false
set_option maxRecDepth 100000
namespace MineN
/-- a prime number -/
def Pr (p : Nat) : Prop := 1 < p ∧ ∀ d, d ∣ p → d = 1 ∨ d = p
theorem Pr.dvd_mul {p a b : Nat} (hp : Pr p) (h : p ∣ a * b) : p ∣ a ∨ p ∣ b := by
  rcases hp.2 (Nat.gcd p a) (Nat.gcd_dvd_left p a) with hg | hg
  · exact .inr (Nat.Coprime.dvd_of_dvd_mul_left hg h)
  · exact .inl (hg ▸ Nat.gcd_dvd_right p a)
theorem Pr.coprime {q g : Nat} (hq : Pr q) (h : ¬ q ∣ g) : Nat.Coprime g q := by
  rcases hq.2 (Nat.gcd g q) (Nat.gcd_dvd_right g q) with hg | hg
  · exact hg
  · exact absurd (hg ▸ Nat.gcd_dvd_left g q) h
theorem prime_factor : ∀ n : Nat, 1 < n → ∃ p, Pr p ∧ p ∣ n := by
  intro n
  induction n using Nat.strongRecOn with
  | ind n ih =>
    intro h1
    by_cases hn : Pr n
    · exact ⟨n, hn, Nat.dvd_refl n⟩
    · have : ∃ d, d ∣ n ∧ d ≠ 1 ∧ d ≠ n := by
        apply Classical.byContradiction
        intro hc
        apply hn
        refine ⟨h1, fun d hd => ?_⟩
        by_cases h : d = 1
        · exact .inl h
        · by_cases h' : d = n
          · exact .inr h'
          · exact absurd ⟨d, hd, h, h'⟩ hc
      obtain ⟨d, hd, hd1, hdn⟩ := this
      have hd0 : d ≠ 0 := by
        intro e
        subst e
        have := Nat.eq_zero_of_zero_dvd hd
        omega
      have hle : d ≤ n := Nat.le_of_dvd (by omega) hd
      obtain ⟨p, hp, hpd⟩ := ih d (by omega) (by omega)
      exact ⟨p, hp, Nat.dvd_trans hpd hd⟩

def C : Nat → Nat → Nat
  | _, 0 => 1
  | 0, _ + 1 => 0
  | n + 1, k + 1 => C n k + C n (k + 1)
theorem C_zero (n : Nat) : C n 0 = 1 := by cases n <;> rfl
theorem C_far : ∀ (n k : Nat), n < k → C n k = 0
  | 0, k + 1, _ => rfl
  | n + 1, k + 1, h => by
    show C n k + C n (k + 1) = 0
    rw [C_far n k (by omega), C_far n (k + 1) (by omega)]
  | _, 0, h => absurd h (Nat.not_lt_zero _)
theorem C_self : ∀ n : Nat, C n n = 1
  | 0 => rfl
  | n + 1 => by
    show C n n + C n (n + 1) = 1
    rw [C_self n, C_far n (n + 1) (by omega)]
theorem C_absorb : ∀ (n k : Nat), (k + 1) * C (n + 1) (k + 1) = (n + 1) * C n k
  | 0, 0 => rfl
  | 0, k + 1 => by
    show (k + 2) * (0 + 0) = 1 * 0
    simp
  | n + 1, 0 => by
    have ih := C_absorb n 0
    rw [C_zero] at ih
    show (0 + 1) * (C (n + 1) 0 + C (n + 1) (0 + 1)) = (n + 1 + 1) * C (n + 1) 0
    rw [C_zero, Nat.mul_add, ih]
    omega
  | n + 1, k + 1 => by
    have i1 := C_absorb n k
    have i2 := C_absorb n (k + 1)
    have e : C (n + 1) (k + 1) = C n k + C n (k + 1) := rfl
    show (k + 1 + 1) * (C (n + 1) (k + 1) + C (n + 1) (k + 1 + 1)) = (n + 1 + 1) * C (n + 1) (k + 1)
    rw [Nat.mul_add, i2, Nat.add_mul (k + 1) 1, i1, Nat.add_mul (n + 1) 1, e]
    rw [Nat.mul_add (n + 1)]
    omega
theorem C_dvd {p : Nat} (hp : Pr p) {k : Nat} (h0 : 0 < k) (h1 : k < p) : p ∣ C p k := by
  obtain ⟨j, rfl⟩ : ∃ j, k = j + 1 := ⟨k - 1, by omega⟩
  obtain ⟨n, rfl⟩ : ∃ n, p = n + 1 := ⟨p - 1, by omega⟩
  have h := C_absorb n j
  have hd : (n + 1) ∣ (j + 1) * C (n + 1) (j + 1) := ⟨C n j, h⟩
  rcases hp.dvd_mul hd with q | q
  · have := Nat.le_of_dvd (by omega) q
    omega
  · exact q

def S (n a : Nat) : Nat → Nat
  | 0 => 0
  | m + 1 => S n a m + C n m * a ^ m
theorem S_step (n a : Nat) : ∀ m : Nat, S (n + 1) a (m + 1) = S n a (m + 1) + a * S n a m
  | 0 => by
    show 0 + C (n + 1) 0 * a ^ 0 = (0 + C n 0 * a ^ 0) + a * 0
    rw [C_zero, C_zero]
    omega
  | m + 1 => by
    have ih := S_step n a m
    show S (n + 1) a (m + 1) + (C n m + C n (m + 1)) * a ^ (m + 1) = (S n a (m + 1) + C n (m + 1) * a ^ (m + 1)) + a * (S n a m + C n m * a ^ m)
    rw [ih, Nat.add_mul, Nat.mul_add a, Nat.pow_succ]
    have e : a * (C n m * a ^ m) = C n m * (a ^ m * a) := by
      rw [Nat.mul_comm a, Nat.mul_assoc]
    rw [e]
    omega
theorem S_pow (a : Nat) : ∀ (n m : Nat), n < m → S n a m = (a + 1) ^ n
  | 0, m, h => by
    have : ∀ j : Nat, S 0 a (j + 1) = 1 := by
      intro j
      induction j with
      | zero => show 0 + C 0 0 * a ^ 0 = 1; rw [C_zero, Nat.pow_zero]
      | succ j ih =>
        show S 0 a (j + 1) + C 0 (j + 1) * a ^ (j + 1) = 1
        rw [ih, C_far 0 (j + 1) (by omega)]
        omega
    obtain ⟨j, rfl⟩ : ∃ j, m = j + 1 := ⟨m - 1, by omega⟩
    rw [this j, Nat.pow_zero]
  | n + 1, m, h => by
    obtain ⟨j, rfl⟩ : ∃ j, m = j + 1 := ⟨m - 1, by omega⟩
    rw [S_step, S_pow a n (j + 1) (by omega), S_pow a n j (by omega), Nat.pow_succ, Nat.mul_comm ((a + 1) ^ n), Nat.add_mul]
    omega
theorem S_mod {p : Nat} (hp : Pr p) (a : Nat) : ∀ m : Nat, m < p → S p a (m + 1) % p = 1 % p
  | 0, _ => by
    show (0 + C p 0 * a ^ 0) % p = 1 % p
    rw [C_zero, Nat.pow_zero]
  | m + 1, h => by
    show (S p a (m + 1) + C p (m + 1) * a ^ (m + 1)) % p = 1 % p
    obtain ⟨t, ht⟩ := C_dvd hp (k := m + 1) (by omega) h
    rw [ht, Nat.mul_assoc, Nat.add_mul_mod_self_left]
    exact S_mod hp a m (by omega)
theorem frob {p : Nat} (hp : Pr p) (a : Nat) : (a + 1) ^ p % p = (a ^ p + 1) % p := by
  have h1 := hp.1
  obtain ⟨n, hn⟩ : ∃ n, p = n + 1 := ⟨p - 1, by omega⟩
  have h2 : S p a (p + 1) = (a + 1) ^ p := S_pow a p (p + 1) (by omega)
  have h3 : S p a (p + 1) = S p a p + C p p * a ^ p := rfl
  rw [C_self, Nat.one_mul] at h3
  have h4 : S p a p % p = 1 % p := by
    have := S_mod hp a n (by omega)
    rw [← hn] at this
    exact this
  rw [← h2, h3, Nat.add_mod, h4, ← Nat.add_mod, Nat.add_comm]
theorem fermat {p : Nat} (hp : Pr p) : ∀ a : Nat, a ^ p % p = a % p
  | 0 => by
    have h1 := hp.1
    rw [Nat.zero_pow (by omega)]
  | a + 1 => by
    rw [frob hp, Nat.add_mod, fermat hp a, ← Nat.add_mod]
/-- a factor may be struck -/
theorem cancel {p a x y : Nat} (hp : Pr p) (ha : ¬ p ∣ a) (h : a * x % p = a * y % p) : x % p = y % p := by
  have key : ∀ x y : Nat, x ≤ y → a * x % p = a * y % p → x % p = y % p := by
    intro x y hxy h
    obtain ⟨d, rfl⟩ := Nat.exists_eq_add_of_le hxy
    have hd : p ∣ a * d := by
      have e : a * (x + d) - a * x = a * d := by rw [Nat.mul_add]; omega
      rw [← e]
      exact Nat.dvd_of_mod_eq_zero (Nat.sub_mod_eq_zero_of_mod_eq h.symm)
    rcases hp.dvd_mul hd with q | q
    · exact absurd q ha
    · obtain ⟨t, rfl⟩ := q
      rw [Nat.add_mul_mod_self_left]
  rcases Nat.le_total x y with q | q
  · exact key x y q h
  · exact (key y x q h.symm).symm
theorem fermat1 {p a : Nat} (hp : Pr p) (ha : ¬ p ∣ a) : a ^ (p - 1) % p = 1 := by
  have h1 := hp.1
  have h : a * a ^ (p - 1) % p = a * 1 % p := by
    have e : a * a ^ (p - 1) = a ^ p := by
      obtain ⟨n, rfl⟩ : ∃ n, p = n + 1 := ⟨p - 1, by omega⟩
      rw [Nat.add_sub_cancel, Nat.pow_succ, Nat.mul_comm]
    rw [e, fermat hp, Nat.mul_one]
  have := cancel hp ha h
  rw [this, Nat.mod_eq_of_lt h1]

theorem pow_gcd {p a : Nat} (h1 : 1 < p) : ∀ m n : Nat, a ^ m % p = 1 → a ^ n % p = 1 → a ^ Nat.gcd m n % p = 1 := by
  intro m n
  induction m, n using Nat.gcd.induction with
  | H0 n => intro _ h; rw [Nat.gcd_zero_left]; exact h
  | H1 m n hm ih =>
    intro hm1 hn1
    rw [Nat.gcd_rec]
    refine ih ?_ hm1
    have e : n = m * (n / m) + n % m := (Nat.div_add_mod n m).symm
    rw [e, Nat.pow_add, Nat.pow_mul, Nat.mul_mod, Nat.pow_mod, hm1, Nat.one_pow, Nat.mod_eq_of_lt h1, Nat.one_mul, Nat.mod_mod] at hn1
    exact hn1
theorem pow_one_of_dvd {p a m n : Nat} (h1 : 1 < p) (h : a ^ m % p = 1) (hd : m ∣ n) : a ^ n % p = 1 := by
  obtain ⟨t, rfl⟩ := hd
  rw [Nat.pow_mul, Nat.pow_mod, h, Nat.one_pow, Nat.mod_eq_of_lt h1]
/-- Pocklington -/
theorem pock {N q m a : Nat} (hq : Pr q) (hN : 1 < N) (hm : N - 1 = q * m) (h1 : a ^ (N - 1) % N = 1) (hg : Nat.gcd (a ^ m % N + (N - 1)) N = 1) :
    ∀ p, Pr p → p ∣ N → q ∣ p - 1 := by
  intro p hp hpN
  have hp1 := hp.1
  have low : ∀ e : Nat, a ^ e % N % p = a ^ e % p := fun e => Nat.mod_mod_of_dvd _ hpN
  have hap : a ^ (N - 1) % p = 1 := by
    rw [← low, h1, Nat.mod_eq_of_lt hp1]
  have ha : ¬ p ∣ a := by
    intro hd
    have : a ^ (N - 1) % p = 0 := by
      obtain ⟨n, hn⟩ : ∃ n, N - 1 = n + 1 := ⟨N - 2, by omega⟩
      rw [hn, Nat.pow_succ]
      exact Nat.mod_eq_zero_of_dvd (Nat.dvd_trans hd (Nat.dvd_mul_left ..))
    omega
  apply Classical.byContradiction
  intro hnq
  have hg1 := pow_gcd hp1 (N - 1) (p - 1) hap (fermat1 hp ha)
  have hnd : ¬ q ∣ Nat.gcd (N - 1) (p - 1) := fun h => hnq (Nat.dvd_trans h (Nat.gcd_dvd_right ..))
  have hdm : Nat.gcd (N - 1) (p - 1) ∣ m := by
    have h2 : Nat.gcd (N - 1) (p - 1) ∣ q * m := hm ▸ Nat.gcd_dvd_left (N - 1) (p - 1)
    exact Nat.Coprime.dvd_of_dvd_mul_left (hq.coprime hnd) h2
  have ham : a ^ m % p = 1 := pow_one_of_dvd hp1 hg1 hdm
  have hdv : p ∣ a ^ m % N + (N - 1) := by
    apply Nat.dvd_of_mod_eq_zero
    obtain ⟨t, rfl⟩ := hpN
    have ht : 0 < t := by
      rcases Nat.eq_zero_or_pos t with e | e
      · subst e; omega
      · exact e
    have e1 : a ^ m % (p * t) % p = 1 := by rw [low, ham]
    have e2 : (p * t - 1) % p = p - 1 := by
      obtain ⟨u, rfl⟩ : ∃ u, t = u + 1 := ⟨t - 1, by omega⟩
      have e3 : p * (u + 1) - 1 = (p - 1) + p * u := by rw [Nat.mul_add, Nat.mul_one]; omega
      rw [e3, Nat.add_mul_mod_self_left, Nat.mod_eq_of_lt (by omega)]
    rw [Nat.add_mod, e1, e2]
    have e4 : 1 + (p - 1) = p := by omega
    rw [e4, Nat.mod_self]
  have := Nat.dvd_gcd hdv hpN
  rw [hg] at this
  have := Nat.le_of_dvd (by omega) this
  omega
/-- no prime factor is small: the number is prime -/
theorem prime_of {N F : Nat} (hN : 1 < N) (hF : N < (F + 1) * (F + 1)) (h : ∀ p, Pr p → p ∣ N → F ∣ p - 1) : Pr N := by
  refine ⟨hN, fun d hd => ?_⟩
  apply Classical.byContradiction
  intro hc
  have big : ∀ c : Nat, c ∣ N → 1 < c → F + 1 ≤ c := by
    intro c hcN hc1
    obtain ⟨p, hp, hpc⟩ := prime_factor c hc1
    have h1 := h p hp (Nat.dvd_trans hpc hcN)
    have hp1 := hp.1
    have h2 := Nat.le_of_dvd (by omega) h1
    have h3 := Nat.le_of_dvd (by omega) hpc
    omega
  obtain ⟨e, rfl⟩ := hd
  have hd0 : d ≠ 0 := by intro q; subst q; simp at hN
  have he0 : e ≠ 0 := by intro q; subst q; simp at hN
  have hd1 : d ≠ 1 := fun q => hc (.inl q)
  have he1 : e ≠ 1 := fun q => hc (.inr (by rw [q, Nat.mul_one]))
  have b1 := big d (Nat.dvd_mul_right d e) (by omega)
  have b2 := big e (Nat.dvd_mul_left e d) (by omega)
  have := Nat.mul_le_mul b1 b2
  omega

/-- a power by its digits of base 256 -/
def pmd (N a : Nat) (ds : List Nat) : Nat := ds.foldl (fun r d => r ^ 256 * a ^ d % N) (1 % N)
def val (ds : List Nat) : Nat := ds.foldl (fun e d => e * 256 + d) 0
theorem pmd_eq (N a : Nat) (ds : List Nat) : pmd N a ds = a ^ val ds % N := by
  have h : ∀ (ds : List Nat) (r e : Nat), r = a ^ e % N → ds.foldl (fun r d => r ^ 256 * a ^ d % N) r = a ^ (ds.foldl (fun e d => e * 256 + d) e) % N := by
    intro ds
    induction ds with
    | nil => exact fun r e h => h
    | cons d ds ih =>
      intro r e h
      rw [List.foldl_cons, List.foldl_cons]
      refine ih _ _ ?_
      rw [h, Nat.pow_add, Nat.pow_mul, Nat.mul_mod, ← Nat.pow_mod, ← Nat.mul_mod]
  exact h ds _ 0 (by rw [Nat.pow_zero])
theorem pockC {N q m a : Nat} (ds1 ds2 : List Nat) (hq : Pr q) (hN : 1 < N) (hm : N - 1 = q * m) (v1 : val ds1 = N - 1) (v2 : val ds2 = m) (c1 : pmd N a ds1 = 1) (c2 : Nat.gcd (pmd N a ds2 + (N - 1)) N = 1) :
    ∀ p, Pr p → p ∣ N → q ∣ p - 1 := by
  rw [pmd_eq, v1] at c1
  rw [pmd_eq, v2] at c2
  exact pock hq hN hm c1 c2
/-- trial division, for small numbers -/
theorem small_prime {n : Nat} (h : (1 < n ∧ ∀ d, d < n → 1 < d → n % d ≠ 0)) : Pr n := by
  refine ⟨h.1, fun d hd => ?_⟩
  have hle := Nat.le_of_dvd (by omega) hd
  by_cases h1 : d = 1
  · exact .inl h1
  · by_cases h2 : d = n
    · exact .inr h2
    · have hd0 : d ≠ 0 := by
        intro e
        subst e
        have := Nat.eq_zero_of_zero_dvd hd
        omega
      exact absurd (Nat.mod_eq_zero_of_dvd hd) (h.2 d (by omega) (by omega))
end MineN
namespace MineN
theorem pr_5 : Pr 5 := small_prime (by decide +kernel)
theorem pr_7 : Pr 7 := small_prime (by decide +kernel)
theorem pr_29 : Pr 29 := small_prime (by decide +kernel)
theorem pr_53 : Pr 53 := small_prime (by decide +kernel)
theorem pr_67 : Pr 67 := small_prime (by decide +kernel)
theorem pr_101 : Pr 101 := small_prime (by decide +kernel)
theorem pr_103 : Pr 103 := small_prime (by decide +kernel)
theorem pr_239 : Pr 239 := small_prime (by decide +kernel)
theorem pk_4423_67 : ∀ p, Pr p → p ∣ 4423 → 67 ∣ p - 1 :=
  pockC (m := 66) (a := 2) [17, 70] [66] pr_67 (by decide +kernel) (by decide +kernel) (by decide +kernel) (by decide +kernel) (by decide +kernel) (by decide +kernel)
theorem pr_4423 : Pr 4423 := by
  refine prime_of (F := 67) (by decide +kernel) (by decide +kernel) fun p hp hd => ?_
  have h0 := pk_4423_67 p hp hd
  exact h0
theorem pk_41201_103 : ∀ p, Pr p → p ∣ 41201 → 103 ∣ p - 1 :=
  pockC (m := 400) (a := 2) [160, 240] [1, 144] pr_103 (by decide +kernel) (by decide +kernel) (by decide +kernel) (by decide +kernel) (by decide +kernel) (by decide +kernel)
theorem pk_41201_5 : ∀ p, Pr p → p ∣ 41201 → 5 ∣ p - 1 :=
  pockC (m := 8240) (a := 3) [160, 240] [32, 48] pr_5 (by decide +kernel) (by decide +kernel) (by decide +kernel) (by decide +kernel) (by decide +kernel) (by decide +kernel)
theorem pr_41201 : Pr 41201 := by
  refine prime_of (F := 515) (by decide +kernel) (by decide +kernel) fun p hp hd => ?_
  have h0 := pk_41201_103 p hp hd
  have h1 : 515 ∣ p - 1 := Nat.Coprime.mul_dvd_of_dvd_of_dvd (m := 103) (n := 5) (by decide +kernel) h0 (pk_41201_5 p hp hd)
  exact h1
theorem pk_96557_239 : ∀ p, Pr p → p ∣ 96557 → 239 ∣ p - 1 :=
  pockC (m := 404) (a := 2) [1, 121, 44] [1, 148] pr_239 (by decide +kernel) (by decide +kernel) (by decide +kernel) (by decide +kernel) (by decide +kernel) (by decide +kernel)
theorem pk_96557_101 : ∀ p, Pr p → p ∣ 96557 → 101 ∣ p - 1 :=
  pockC (m := 956) (a := 2) [1, 121, 44] [3, 188] pr_101 (by decide +kernel) (by decide +kernel) (by decide +kernel) (by decide +kernel) (by decide +kernel) (by decide +kernel)
theorem pr_96557 : Pr 96557 := by
  refine prime_of (F := 24139) (by decide +kernel) (by decide +kernel) fun p hp hd => ?_
  have h0 := pk_96557_239 p hp hd
  have h1 : 24139 ∣ p - 1 := Nat.Coprime.mul_dvd_of_dvd_of_dvd (m := 239) (n := 101) (by decide +kernel) h0 (pk_96557_101 p hp hd)
  exact h1
theorem pk_107590001_7 : ∀ p, Pr p → p ∣ 107590001 → 7 ∣ p - 1 :=
  pockC (m := 15370000) (a := 2) [6, 105, 177, 112] [234, 135, 16] pr_7 (by decide +kernel) (by decide +kernel) (by decide +kernel) (by decide +kernel) (by decide +kernel) (by decide +kernel)
theorem pk_107590001_29 : ∀ p, Pr p → p ∣ 107590001 → 29 ∣ p - 1 :=
  pockC (m := 3710000) (a := 2) [6, 105, 177, 112] [56, 156, 48] pr_29 (by decide +kernel) (by decide +kernel) (by decide +kernel) (by decide +kernel) (by decide +kernel) (by decide +kernel)
theorem pk_107590001_53 : ∀ p, Pr p → p ∣ 107590001 → 53 ∣ p - 1 :=
  pockC (m := 2030000) (a := 2) [6, 105, 177, 112] [30, 249, 176] pr_53 (by decide +kernel) (by decide +kernel) (by decide +kernel) (by decide +kernel) (by decide +kernel) (by decide +kernel)
theorem pr_107590001 : Pr 107590001 := by
  refine prime_of (F := 10759) (by decide +kernel) (by decide +kernel) fun p hp hd => ?_
  have h0 := pk_107590001_7 p hp hd
  have h1 : 203 ∣ p - 1 := Nat.Coprime.mul_dvd_of_dvd_of_dvd (m := 7) (n := 29) (by decide +kernel) h0 (pk_107590001_29 p hp hd)
  have h2 : 10759 ∣ p - 1 := Nat.Coprime.mul_dvd_of_dvd_of_dvd (m := 203) (n := 53) (by decide +kernel) h1 (pk_107590001_53 p hp hd)
  exact h2
theorem pk_255515944373312847190720520512484175977_107590001 : ∀ p, Pr p → p ∣ 255515944373312847190720520512484175977 → 107590001 ∣ p - 1 :=
  pockC (m := 2374904191824599455024826335976) (a := 2) [192, 58, 148, 178, 211, 230, 68, 25, 160, 92, 216, 204, 191, 152, 112, 104] [29, 249, 186, 180, 67, 14, 223, 69, 255, 32, 216, 194, 232] pr_107590001 (by decide +kernel) (by decide +kernel) (by decide +kernel) (by decide +kernel) (by decide +kernel) (by decide +kernel)
theorem pk_255515944373312847190720520512484175977_96557 : ∀ p, Pr p → p ∣ 255515944373312847190720520512484175977 → 96557 ∣ p - 1 :=
  pockC (m := 2646270538369179315748423423599368) (a := 2) [192, 58, 148, 178, 211, 230, 68, 25, 160, 92, 216, 204, 191, 152, 112, 104] [130, 120, 161, 68, 232, 196, 123, 73, 252, 43, 34, 25, 163, 8] pr_96557 (by decide +kernel) (by decide +kernel) (by decide +kernel) (by decide +kernel) (by decide +kernel) (by decide +kernel)
theorem pk_255515944373312847190720520512484175977_41201 : ∀ p, Pr p → p ∣ 255515944373312847190720520512484175977 → 41201 ∣ p - 1 :=
  pockC (m := 6201692783507993669831327407404776) (a := 2) [192, 58, 148, 178, 211, 230, 68, 25, 160, 92, 216, 204, 191, 152, 112, 104] [1, 49, 196, 94, 35, 135, 32, 23, 209, 236, 98, 26, 79, 246, 232] pr_41201 (by decide +kernel) (by decide +kernel) (by decide +kernel) (by decide +kernel) (by decide +kernel) (by decide +kernel)
theorem pk_255515944373312847190720520512484175977_4423 : ∀ p, Pr p → p ∣ 255515944373312847190720520512484175977 → 4423 ∣ p - 1 :=
  pockC (m := 57769826898782013834664372713652312) (a := 2) [192, 58, 148, 178, 211, 230, 68, 25, 160, 92, 216, 204, 191, 152, 112, 104] [11, 32, 69, 186, 33, 55, 133, 136, 131, 252, 88, 65, 25, 128, 88] pr_4423 (by decide +kernel) (by decide +kernel) (by decide +kernel) (by decide +kernel) (by decide +kernel) (by decide +kernel)
theorem pr_255515944373312847190720520512484175977 : Pr 255515944373312847190720520512484175977 := by
  refine prime_of (F := 1893129712882992934811) (by decide +kernel) (by decide +kernel) fun p hp hd => ?_
  have h0 := pk_255515944373312847190720520512484175977_107590001 p hp hd
  have h1 : 10388567726557 ∣ p - 1 := Nat.Coprime.mul_dvd_of_dvd_of_dvd (m := 107590001) (n := 96557) (by decide +kernel) h0 (pk_255515944373312847190720520512484175977_96557 p hp hd)
  have h2 : 428019378901874957 ∣ p - 1 := Nat.Coprime.mul_dvd_of_dvd_of_dvd (m := 10388567726557) (n := 41201) (by decide +kernel) h1 (pk_255515944373312847190720520512484175977_41201 p hp hd)
  have h3 : 1893129712882992934811 ∣ p - 1 := Nat.Coprime.mul_dvd_of_dvd_of_dvd (m := 428019378901874957) (n := 4423) (by decide +kernel) h2 (pk_255515944373312847190720520512484175977_4423 p hp hd)
  exact h3
theorem pk_205115282021455665897114700593932402728804164701536103180137503955397371_255515944373312847190720520512484175977 : ∀ p, Pr p → p ∣ 205115282021455665897114700593932402728804164701536103180137503955397371 → 255515944373312847190720520512484175977 ∣ p - 1 :=
  pockC (m := 802749442992798076634733441528810) (a := 2) [29, 184, 38, 14, 94, 59, 70, 10, 70, 160, 8, 143, 204, 246, 163, 165, 147, 109, 117, 216, 154, 119, 109, 76, 13, 164, 243, 56, 170, 250] [39, 148, 31, 87, 251, 60, 3, 113, 129, 252, 7, 245, 51, 234] pr_255515944373312847190720520512484175977 (by decide +kernel) (by decide +kernel) (by decide +kernel) (by decide +kernel) (by decide +kernel) (by decide +kernel)
theorem pr_205115282021455665897114700593932402728804164701536103180137503955397371 : Pr 205115282021455665897114700593932402728804164701536103180137503955397371 := by
  refine prime_of (F := 255515944373312847190720520512484175977) (by decide +kernel) (by decide +kernel) fun p hp hd => ?_
  have h0 := pk_205115282021455665897114700593932402728804164701536103180137503955397371_255515944373312847190720520512484175977 p hp hd
  exact h0
theorem pk_115792089237316195423570985008687907853269984665640564039457584007908834671663_205115282021455665897114700593932402728804164701536103180137503955397371 : ∀ p, Pr p → p ∣ 115792089237316195423570985008687907853269984665640564039457584007908834671663 → 205115282021455665897114700593932402728804164701536103180137503955397371 ∣ p - 1 :=
  pockC (m := 564522) (a := 2) [255, 255, 255, 255, 255, 255, 255, 255, 255, 255, 255, 255, 255, 255, 255, 255, 255, 255, 255, 255, 255, 255, 255, 255, 255, 255, 255, 254, 255, 255, 252, 46] [8, 157, 42] pr_205115282021455665897114700593932402728804164701536103180137503955397371 (by decide +kernel) (by decide +kernel) (by decide +kernel) (by decide +kernel) (by decide +kernel) (by decide +kernel)
theorem pr_115792089237316195423570985008687907853269984665640564039457584007908834671663 : Pr 115792089237316195423570985008687907853269984665640564039457584007908834671663 := by
  refine prime_of (F := 205115282021455665897114700593932402728804164701536103180137503955397371) (by decide +kernel) (by decide +kernel) fun p hp hd => ?_
  have h0 := pk_115792089237316195423570985008687907853269984665640564039457584007908834671663_205115282021455665897114700593932402728804164701536103180137503955397371 p hp hd
  exact h0
def cubeE : List Nat := [85, 85, 85, 85, 85, 85, 85, 85, 85, 85, 85, 85, 85, 85, 85, 85, 85, 85, 85, 85, 85, 85, 85, 85, 85, 85, 85, 84, 255, 255, 254, 186]
theorem cubeE_val : 3 * val cubeE = 115792089237316195423570985008687907853269984665640564039457584007908834671663 - 1 := by decide +kernel
theorem noncube : pmd 115792089237316195423570985008687907853269984665640564039457584007908834671663 (115792089237316195423570985008687907853269984665640564039457584007908834671663 - 7) cubeE ≠ 1 := by decide +kernel
end MineN
namespace MineN
/-- what the law needs of the prime, in naturals -/
theorem euler_ok {p s E1 E2 : Nat} (hs : s < p) (h2 : 2 * E1 = E2 + 1) (he : s ^ E2 % p = 1) : (s ^ E1 % p) * (s ^ E1 % p) % p = s := by
  have e : s ^ E1 * s ^ E1 = s ^ E2 * s := by
    rw [← Nat.pow_add, ← Nat.pow_succ]
    congr 1
    omega
  rw [← Nat.mul_mod, e, Nat.mul_mod, he, Nat.one_mul, Nat.mod_mod, Nat.mod_eq_of_lt hs]
theorem ok_euler {p s E1 E2 : Nat} (hp : Pr p) (hs : s < p) (h0 : s ≠ 0) (h2 : 2 * E1 = E2 + 1) (he : (s ^ E1 % p) * (s ^ E1 % p) % p = s) : s ^ E2 % p = 1 := by
  have e : s ^ E1 * s ^ E1 = s * s ^ E2 := by
    rw [← Nat.pow_add, Nat.mul_comm s, ← Nat.pow_succ]
    congr 1
    omega
  rw [← Nat.mul_mod, e] at he
  have hd : ¬ p ∣ s := by
    intro h
    have := Nat.le_of_dvd (by omega) h
    omega
  have h3 : s * s ^ E2 % p = s * 1 % p := by rw [he, Nat.mul_one, Nat.mod_eq_of_lt hs]
  have := cancel hp hd h3
  rw [this, Nat.mod_eq_of_lt hp.1]
/-- x * x * x + 7 is never nought below the prime -/
theorem no_zero {p : Nat} (hp : Pr p) (h7 : 7 < p) (ds : List Nat) (hv : 3 * val ds = p - 1) (hn : pmd p (p - 7) ds ≠ 1) (x : Nat) : (x * x * x + 7) % p ≠ 0 := by
  intro hz
  rw [pmd_eq] at hn
  have hx : ¬ p ∣ x := by
    intro h
    obtain ⟨t, rfl⟩ := h
    have e : p * t * (p * t) * (p * t) + 7 = 7 + p * (t * (p * t) * (p * t)) := by
      rw [Nat.add_comm]
      congr 1
      simp only [Nat.mul_assoc]
    rw [e, Nat.add_mul_mod_self_left, Nat.mod_eq_of_lt h7] at hz
    omega
  have h3 : x ^ 3 % p = (p - 7) % p := by
    have e : x ^ 3 = x * x * x := by rw [Nat.pow_succ, Nat.pow_succ, Nat.pow_one]
    have h1 : (x * x * x % p + 7) % p = 0 := by rw [Nat.mod_add_mod]; exact hz
    have hlt : x * x * x % p < p := Nat.mod_lt _ (by omega)
    have h2 : x * x * x % p = p - 7 := by
      by_cases hc : x * x * x % p + 7 < p
      · rw [Nat.mod_eq_of_lt hc] at h1
        omega
      · have : (x * x * x % p + 7) % p = x * x * x % p + 7 - p := by
          rw [Nat.mod_eq_sub_mod (by omega), Nat.mod_eq_of_lt (by omega)]
        omega
    rw [e, h2, Nat.mod_eq_of_lt (by omega)]
  have h4 : (x ^ 3) ^ val ds % p = 1 := by
    rw [← Nat.pow_mul, hv]
    exact fermat1 hp hx
  rw [Nat.pow_mod, h3, ← Nat.pow_mod] at h4
  exact hn h4
end MineN
open PySem PySem.W PyProof.Rows
namespace Mine
set_option maxHeartbeats 8000000 in
open_top top0 for PySem.Challenge.rw_fc0023_01
end Mine
namespace Mine
open PySem.Calls PyProof
open PySem.Builtin.Int (intBits)
/-- the answer of pow(b, e, m) with three ints -/
@[irreducible] def powM (b e m : Int) : Int := ((Builtin.powMod (b % m).toNat e.natAbs m.natAbs : Nat) : Int)
/-- the bytes of x, big end first -/
@[irreducible] def be (n : Nat) (x : Int) : List Int := (KTBy.little n x).reverse
theorem be_def (n : Nat) (x : Int) : be n x = (KTBy.little n x).reverse := by unfold be; rfl
theorem be_length (n : Nat) (x : Int) : (be n x).length = n := by rw [be_def, List.length_reverse, KTBy.little_length]
/-- int.from_bytes(ks, 'big') -/
@[irreducible] def valueB (ks : List Int) : Int := KFB.value ks
theorem valueB_def (ks : List Int) : valueB ks = KFB.value ks := by unfold valueB; rfl
/-- the two keywords as the project says them -/
abbrev kwB (u : Tok) : List (PySem.Str × Value) := [(PySem.Str.ofString "byteorder", .str (PySem.Str.ofString "big") u), (PySem.Str.ofString "signed", .bool false)]
theorem bind_to {u v : Tok} : Builtin.Int.intBindNamed "to_bytes" ["length", "byteorder", "signed"] 0 2 [.int 32 u, .str (PySem.Str.ofString "big") v] [] = pure [some (.int 32 u), some (.str (PySem.Str.ofString "big") v), none] := by kernel_rfl
theorem bind_from {b : Array UInt8} {t u : Tok} : Builtin.Int.intBindNamed "from_bytes" ["bytes", "byteorder", "signed"] 1 2 [.bytes b t] (kwB u) = pure [some (.bytes b t), some (.str (PySem.Str.ofString "big") u), some (.bool false)] := by kernel_rfl
section
variable {prog : Program} {w : World} {M : Model} {A : Around} {E : Value → Shared → Prop} {s : Shared} {x : Int} {t u v : Tok}
theorem to_tree {P : Fin → Shared → Prop} (h0 : ¬ x < 0) (hb : ¬ ((intBits x : Int) > 8 * 32)) (h : ∀ (b : Array UInt8) t' k', b.toList = (KTBy.low x 32).reverse → P (.done (.ret (.bytes b t'))) { s with toks := k' }) :
    wpAny M A (Builtin.«int.to_bytes» ⟨[.int x t, .int 32 u, .str (PySem.Str.ofString "big") v], []⟩) P E s := by
  obtain ⟨hp, g, d, tk, os⟩ := s
  have e0 := bind_to (u := u) (v := v)
  have d0 : decide (x < 0) = false := decide_eq_false h0
  wp_walk
  refine wpAny_ite_false ?_ ?_
  · have z : (x != 0 && decide ((intBits x : Int) > 8 * 32)) = false := by rw [decide_eq_false hb, Bool.and_false]
    exact decide_eq_false fun hc => Bool.false_ne_true (z.symm.trans hc)
  · have hs : ((KTBy.low x 32).reverse.toArray).size ≤ sizeLine := by
      rw [List.size_toArray, List.length_reverse, KTBy.low_length, sizeLine_eq]
      decide
    exact wpAny_bind (wpAny_mkBytes (wpAny_pure (h (KTBy.low x 32).reverse.toArray _ _ rfl)) hs)
theorem to_big {Q : Value → Shared → Prop} (h0 : 0 ≤ x) (h2 : x < 115792089237316195423570985008687907853269984665640564039457584007913129639936) (h : ∀ (b : Array UInt8) t' k', KBw.bInts b = be 32 x → (be 32 x).length = 32 → Q (.bytes b t') { s with toks := k' }) :
    wpAny (model prog w) A (call (.builtin "int.to_bytes") [.int x t, .int 32 u, .str (PySem.Str.ofString "big") v]) Q E s := by
  have h1 : x < 256 ^ 32 := Int.lt_of_lt_of_le h2 (by decide +kernel)
  have hb : intBits x ≤ 8 * 32 := KTBy.bits_le (k := 32) rfl h0 h1
  refine wpAny_call_entry KTBy.slot (typeIs_int s x t) KTBy.entry (to_tree (by omega) (by omega) fun b t' k' e => ⟨_, rfl, h b t' k' ?_ (be_length 32 x)⟩) (KTBy.args _ _ _)
  show b.toList.map _ = _
  rw [e, List.map_reverse, KTBy.low_ints h0 h1, ← KTBy.little_eq, be_def]
theorem from_tree {b : Array UInt8} {P : Fin → Shared → Prop} (hl : b.size ≤ 100) (h : ∀ t' k, P (.done (.ret (.int (valueB (KBw.bInts b)) t'))) { s with toks := k }) :
    wpAny M A (Builtin.«int.from_bytes» ⟨[.type "int", .bytes b t], kwB u⟩) P E s := by
  have hn : b.toList.foldl (fun (acc : Nat) (b : UInt8) => acc * 256 + b.toNat) 0 < 256 ^ 100 := by
    have h1 := KFB.fold_lt b.toList 0
    have h2 : 256 ^ b.toList.length ≤ 256 ^ 100 := Nat.pow_le_pow_right (by decide) (by rw [Array.length_toList]; exact hl)
    omega
  have hv : b.toList.foldl (fun (acc : Int) (b : UInt8) => acc * 256 + (b.toNat : Int)) ((0 : Nat) : Int) = valueB (KBw.bInts b) := by
    rw [KFB.foldI_eq, KFB.fold_cast, valueB_def]
    rfl
  have hg : ¬ (valueB (KBw.bInts b)).natAbs.log2 ≥ bitsLine := by
    rw [← hv, KFB.foldI_eq, Int.natAbs_natCast]
    generalize b.toList.foldl (fun (acc : Nat) (b : UInt8) => acc * 256 + b.toNat) 0 = n at hn
    have hb : bitsLine = 134217728 := rfl
    by_cases hz : n = 0
    · rw [hz, hb]
      decide
    · have h3 : n < 2 ^ 800 := Nat.lt_of_lt_of_le hn (by decide +kernel)
      have h4 := (Nat.log2_lt hz).mpr h3
      omega
  obtain ⟨hp, g, d, tk, os⟩ := s
  have e0 := bind_from (b := b) (t := t) (u := u)
  have e1 := KFB.type_int
  have e2 := PySem.F.conv_sub_int
  wp_walk
  show wpAny M A (if (b.toList.foldl (fun (acc : Int) (b : UInt8) => acc * 256 + (b.toNat : Int)) ((0 : Nat) : Int)).natAbs.log2 ≥ bitsLine then _ else mkInt (b.toList.foldl (fun (acc : Int) (b : UInt8) => acc * 256 + (b.toNat : Int)) ((0 : Nat) : Int))) _ _ _
  rw [hv, if_neg hg]
  refine wpAny_mkInt' ?_
  refine wpAny_ite_true (by decide +kernel) (wpAny_pure (h _ _))
theorem from_check {b : Array UInt8} : checkBoundCall "int.from_bytes" ⟨[.type "int", .bytes b t], kwB u⟩ = pure () := by kernel_rfl
theorem from_call {a : Addr} {b : Array UInt8} {Q : Value → Shared → Prop} (ho : KFB.StandsAt a s.heap) (hl : b.size ≤ 100) (h : ∀ t' k, Q (.int (valueB (KBw.bInts b)) t') { s with toks := k }) :
    wpAny (model prog w) A (call (.ref a) [.bytes b t] (kwB u)) Q E s := by
  obtain ⟨hp, g, d, tk, os⟩ := s
  refine wpAny_call (codeAny_of_tree ?_)
  have t0 : (Value.type "builtin_function_or_method" == Value.type "method" || Value.type "builtin_function_or_method" == Value.type "builtin_function_or_method" || Value.type "builtin_function_or_method" == Value.type "method-wrapper") = true := by decide
  show wpAny _ _ (callAny (.ref a) ⟨[.bytes b t], kwB u⟩) _ _ _
  simp only [callAny]
  refine wpAny_bind (wpAny_load ho ?_)
  simp only [KFB.bound, t0, if_true]
  refine wpAny_ite_true (by decide) ?_
  refine wpAny_bind (wpAny_of_eq from_check (wpAny_bind (wpAny_pure (wpAny_pure ⟨KFB.quiet_fb, ?_⟩))))
  exact codeAny_builtin KFB.entry_fb (from_tree hl h)
variable {h₀ : Heap} {L : Addr} {news : List (Addr × Obj)}
theorem callWith_boundKW {pos : Pos} {a : Addr} {first : List Value} {env : Env} {e : Expr} {rest : List Expr} {kws : List Keyword} {Q : Value → Shared → Prop} (_N : News h₀ L s.heap news) (_hm : (a, KFB.bound) ∈ news)
    (hall : (backToKw pos (keywordEach kws env)).all (·.1.isSome) = true)
    (h : wpAny M A (spliced (backTo pos (starEach (e :: rest) env))) (fun vs s₁ => wpAny M A (evalAll ((backToKw pos (keywordEach kws env)).map (·.2)))
      (fun ks s₂ => KFB.StandsAt a s₂.heap ∧ wpAny M A (call (.ref a) (first ++ vs) (((backToKw pos (keywordEach kws env)).filterMap (·.1)).zip ks)) Q E s₂) E s₁) E s)
    (hplain : ((backTo pos (starEach (e :: rest) env)).any (·.1) || (backToKw pos (keywordEach kws env)).any (·.1.isNone)) = false := by rfl) (he : starEach (e :: rest) env = (false, eval e env) :: starEach rest env := by rfl) :
    wpAny M A (callWith pos (.ref a) first (backTo pos (starEach (e :: rest) env)) (backToKw pos (keywordEach kws env))) Q E s :=
  callWith_of (P := KFB.StandsAt a) hplain (fun g X => ⟨.machine, .inr (.inl rfl), (Looks.ld (part := none) X).andThen (Looks.of_pure (by kernel_rfl))⟩) (evalArgs_kw2 hall h he)
end
end Mine
namespace Mine
open PySem.Calls PyProof
theorem int_pow3 (x : Int) (t : Tok) (y : Int) (u : Tok) (m : Int) (v : Tok) (h0 : ¬ (m == 0) = true) (h1 : ¬ (m.natAbs == 1) = true) (hy : ¬ y < 0) :
    Gives (Builtin.«int.__pow__» ⟨[.int x t, .int y u, .int m v], []⟩) (.int (if (decide (m < 0) && ((Builtin.powMod (x % m.natAbs).toNat y.natAbs m.natAbs : Nat) : Int) != 0) = true then ((Builtin.powMod (x % m.natAbs).toNat y.natAbs m.natAbs : Nat) : Int) - m.natAbs else ((Builtin.powMod (x % m.natAbs).toNat y.natAbs m.natAbs : Nat) : Int))) :=
  .of_wp fun M A E s Q h => by
    obtain ⟨hp, g, d, tk, os⟩ := s
    wp_walk
    all_goals exact ⟨_, rfl, h⟩
theorem powM_eq {x y m : Int} (hm : 1 < m) : (if (decide (m < 0) && ((Builtin.powMod (x % m.natAbs).toNat y.natAbs m.natAbs : Nat) : Int) != 0) = true then ((Builtin.powMod (x % m.natAbs).toNat y.natAbs m.natAbs : Nat) : Int) - m.natAbs else ((Builtin.powMod (x % m.natAbs).toNat y.natAbs m.natAbs : Nat) : Int)) = powM x y m := by
  have h1 : ¬ m < 0 := by omega
  have h2 : ((m.natAbs : Nat) : Int) = m := by omega
  rw [decide_eq_false h1, Bool.false_and, if_neg (by decide), h2]
  unfold powM
  rfl
theorem pow_kind : builtinKind "pow" = none := by decide +kernel
theorem pow_plain : plainId "pow" = true := by decide +kernel
theorem pow_entry : entryFor table "pow" = some Builtin.«pow» := entryFor_of_tree (by kernel_rfl)
theorem pow_args (a b c : Value) : argsOk "pow" ⟨[a, b, c], []⟩ := by unfold argsOk; kernel_rfl
theorem slotP : Slot "int" (PySem.Str.ofString "__pow__") "int.__pow__" := by
  have e : PySem.dunder "pow" = PySem.Str.ofString "__pow__" := by decide +kernel
  rw [← e]
  exact F.slot_int_pow
section
variable {prog : Program} {w : World} {A : Around} {E : Value → Shared → Prop} {s : Shared} {x y m : Int} {t u v : Tok}
theorem call_int_pow3 {Q : Value → Shared → Prop} (hm : 1 < m) (hy : 0 ≤ y) (h : Q (.int (powM x y m) s.toks) { s with toks := s.toks + 1 }) :
    wpAny (model prog w) A (call (.builtin "int.__pow__") [.int x t, .int y u, .int m v]) Q E s := by
  refine call_gives F.slot_int_pow (typeIs_int s x t) F.entry_int_pow (F.args_int_pow_3 _ _ _) (int_pow3 x t y u m v (by simp; omega) (by simp; omega) (by omega)) ?_
  rw [powM_eq hm]
  exact h
set_option maxHeartbeats 4000000 in
theorem call_pow3 {Q : Value → Shared → Prop} (hm : 1 < m) (hy : 0 ≤ y) (h : ∀ t' k, Q (.int (powM x y m) t') { s with toks := k }) :
    wpAny (model prog w) A (call (.builtin "pow") [.int x t, .int y u, .int m v]) Q E s := by
  refine call_function_entry pow_kind pow_plain pow_entry (pow_args _ _ _) ?_
  have hT : s.TypeIs (.int x t) "int" := rfl
  unfold Builtin.«pow»
  have e0 : Builtin.Builtins.bindParams "pow" ["base", "exp", "mod"] 2 ⟨[.int x t, .int y u, .int m v], []⟩ = pure [some (.int x t), some (.int y u), some (.int m v)] := by kernel_rfl
  rw [e0]
  simp only [Option.getD]
  refine wpAny_bind (wpAny_pure ?_)
  dsimp only
  refine wpAny_bind (wpAny_rule ?_)
  refine wpAny_bind (wpAny_typeOf hT ?_)
  dsimp only
  have f := slotP.lookup
  with_reducible refine wpAny_bind (wpAny_of_eq (a := some (.builtin "int.__pow__")) f ?_)
  dsimp only
  have g : wpAny (model prog w) A.in1 (callSpecial? (.int x t) (PySem.Str.ofString "__pow__") [.int y u, .int m v]) (fun r s' => ∃ t' k, r = some (.int (powM x y m) t') ∧ s' = { s with toks := k }) E s :=
    wpAny_callSpecial?_slot hT slotP (call_int_pow3 hm hy ⟨_, _, rfl, rfl⟩)
  refine wpAny_bind (wpAny_mono g ?_ fun _ _ z => z)
  rintro r s' ⟨t', k, rfl, rfl⟩
  dsimp only
  refine wpAny_ite_true (by rfl) ?_
  exact wpAny_pure ⟨_, rfl, h _ _⟩
end
end Mine
namespace Mine
open PySem.Calls

/-- the value of big-end bytes, as the fold says it -/
theorem foldl256 : ∀ (l : List Int) (a : Int), l.foldl (fun a k => a * 256 + k) a = a * 256 ^ l.length + l.foldl (fun a k => a * 256 + k) 0
  | [], a => by simp
  | k :: r, a => by
    rw [List.foldl_cons, List.foldl_cons, foldl256 r (a * 256 + k), foldl256 r (0 * 256 + k), List.length_cons, Int.pow_succ]
    generalize List.foldl (fun a k => a * 256 + k) 0 r = X
    generalize (256 : Int) ^ r.length = Y
    rw [Int.zero_mul, Int.zero_add, Int.add_mul, Int.mul_assoc, Int.mul_comm 256 Y, Int.add_assoc]
theorem valueB_range : ∀ (ks : List Int), (∀ k ∈ ks, 0 ≤ k ∧ k < 256) → 0 ≤ valueB ks ∧ valueB ks < 256 ^ ks.length
  | [], _ => by rw [valueB_def]; simp [KFB.value]
  | k :: r, h => by
    have h1 := valueB_range r fun j hj => h j (List.mem_cons_of_mem _ hj)
    have h2 := h k (List.mem_cons_self ..)
    have e : valueB (k :: r) = k * 256 ^ r.length + valueB r := by
      rw [valueB_def, valueB_def]
      unfold KFB.value
      rw [List.foldl_cons, foldl256 r (0 * 256 + k), Int.zero_mul, Int.zero_add]
    rw [e, List.length_cons, Int.pow_succ]
    generalize valueB r = X at *
    have hY : (0 : Int) < 256 ^ r.length := Int.pow_pos (by decide)
    generalize (256 : Int) ^ r.length = Y at *
    have h3 : k * Y ≤ 255 * Y := Int.mul_le_mul_of_nonneg_right (by omega) (by omega)
    have h4 : 0 ≤ k * Y := Int.mul_nonneg h2.1 (by omega)
    omega
theorem little_value : ∀ (n : Nat) (x : Int), 0 ≤ x → x < 256 ^ n → valueB (KTBy.little n x).reverse = x
  | 0, x, h0, h1 => by
    have : x = 0 := by simp at h1; omega
    subst this
    rw [valueB_def]; rfl
  | n + 1, x, h0, h1 => by
    have e : (KTBy.little (n + 1) x).reverse = (KTBy.little n (x / 256)).reverse ++ [x % 256] := by
      show (x % 256 :: KTBy.little n (x / 256)).reverse = _
      rw [List.reverse_cons]
    have h2 : x / 256 < 256 ^ n := by
      rw [Int.pow_succ] at h1
      exact Int.ediv_lt_of_lt_mul (by decide) h1
    have ih := little_value n (x / 256) (by omega) h2
    rw [valueB_def] at ih
    unfold KFB.value at ih
    rw [e, valueB_def]
    unfold KFB.value
    rw [List.foldl_append, ih, List.foldl_cons, List.foldl_nil]
    omega
theorem be_value {n : Nat} {x : Int} (h0 : 0 ≤ x) (h1 : x < 256 ^ n) : valueB (be n x) = x := by
  rw [be_def]
  exact little_value n x h0 h1

theorem powMod_lt (b e m : Nat) (hm : 0 < m) : Builtin.powMod b e m < m := by
  unfold Builtin.powMod
  generalize (List.range (Builtin.Int.intBits (e : Int))).reverse = l
  have h : ∀ (l : List Nat) (p : Nat), p < m → l.foldl (fun p i => if e.testBit i then p * p % m * b % m else p * p % m) p < m := by
    intro l
    induction l with
    | nil => exact fun p h => h
    | cons i r ih =>
      intro p _
      rw [List.foldl_cons]
      refine ih _ ?_
      split <;> exact Nat.mod_lt _ hm
  exact h l _ (Nat.mod_lt _ hm)
theorem powM_range {x y m : Int} (hm : 1 < m) : 0 ≤ powM x y m ∧ powM x y m < m := by
  unfold powM
  have h := powMod_lt (x % m).toNat y.natAbs m.natAbs (by omega)
  omega

/-- a size in bits -/
def Sz (k : Nat) (x : Int) : Prop := x.natAbs < 2 ^ k
theorem Sz.mul {j k : Nat} {x y : Int} (hx : Sz j x) (hy : Sz k y) : Sz (j + k) (x * y) := by
  unfold Sz at *
  rw [Int.natAbs_mul, Nat.pow_add]
  exact Nat.mul_lt_mul'' hx hy
theorem Sz.of256 {x : Int} (h0 : 0 ≤ x) (h1 : x < 115792089237316195423570985008687907853269984665640564039457584007913129639936) : Sz 256 x := by
  unfold Sz
  have e : (2 : Nat) ^ 256 = 115792089237316195423570985008687907853269984665640564039457584007913129639936 := by decide +kernel
  rw [e]
  omega
theorem mulOk {j k : Nat} {x y : Int} (hx : Sz j x) (hy : Sz k y) (h : j + k ≤ 100000) : IntMulOk x y := by
  unfold IntMulOk Builtin.Int.intTooBig
  have h1 := PyProof.Rows.intBits_le hx
  have h2 := PyProof.Rows.intBits_le hy
  have hb : bitsLine = 134217728 := by first | rfl | decide
  rw [hb]
  simp only [Bool.and_eq_true, decide_eq_true_eq, not_and]
  intro _
  omega
section
variable {prog : Program} {w : World} {M : Model} {A : Around} {E : Value → Shared → Prop} {s : Shared} {x y m : Int} {t u v : Tok} {Q : Value → Shared → Prop}
theorem mulZ {j k : Nat} (hx : Sz j x) (hy : Sz k y) (hjk : j + k ≤ 100000) (h : ∀ t' k', Sz (j + k) (x * y) → Q (.int (x * y) t') { s with toks := k' }) : wpAny (model prog w) A (binaryOp .Mult (.int x t) (.int y u)) Q E s :=
  PyProof.Rows.mul_int (h _ _ (hx.mul hy)) (mulOk hx hy hjk)
theorem powZ (hm : 1 < m) (hy : 0 ≤ y) (h : ∀ t' k, 0 ≤ powM x y m → powM x y m < m → Q (.int (powM x y m) t') { s with toks := k }) :
    wpAny (model prog w) A (call (.builtin "pow") [.int x t, .int y u, .int m v]) Q E s :=
  call_pow3 hm hy fun t' k => h t' k (powM_range hm).1 (powM_range hm).2
variable {h₀ : Heap} {L : Addr} {news : List (Addr × Obj)}
theorem fromB {a : Addr} {b : Array UInt8} {ks : List Int} {z : Int} (N : News h₀ L s.heap news) (hm : (a, KFB.bound) ∈ news) (hb : KBw.bInts b = ks) (hl : ks.length ≤ 32) (hz : valueB ks = z)
    (h : ∀ t' k, 0 ≤ z → z < 115792089237316195423570985008687907853269984665640564039457584007913129639936 → Q (.int z t') { s with toks := k }) : wpAny (model prog w) A (call (.ref a) [.bytes b t] [(PySem.Str.ofString "byteorder", .str (PySem.Str.ofString "big") u), (PySem.Str.ofString "signed", .bool false)]) Q E s := by
  subst hz
  subst hb
  refine from_call (KFB.at_of N hm) (by rw [← KBw.ints_length]; omega) fun t' k => ?_
  have hr := valueB_range (KBw.bInts b) fun k hk => KBw.ints_in hk
  have h2 : (256 : Int) ^ (KBw.bInts b).length ≤ 256 ^ 32 := by
    have h3 : (256 : Nat) ^ (KBw.bInts b).length ≤ 256 ^ 32 := Nat.pow_le_pow_right (by decide) hl
    rw [KTBy.p256, KTBy.p256]
    exact Int.ofNat_le.mpr h3
  have h4 : (256 : Int) ^ 32 = 115792089237316195423570985008687907853269984665640564039457584007913129639936 := by decide +kernel
  rw [h4] at h2
  exact h t' k hr.1 (Int.lt_of_lt_of_le hr.2 h2)
end
section
variable {prog : Program} {w : World} {A : Around} {E : Value → Shared → Prop} {s : Shared} {h₀ : Heap} {L D : Addr} {m : PySem.Str → Option Value} {news : List (Addr × Obj)} {vs : List Value} {ns ks ls zs : List Int} {b c : Array UInt8} {t u : Tok} {Q : Value → Shared → Prop}
theorem makeB (F : Fr h₀ L s.heap m) (N : News h₀ L s.heap news) (hh : A.handled = none) (hl : s.heap.IsList D vs.toArray) (hi : IntsAre vs ns) (hr : KBa.In ns) (hn : ns.length ≤ 16777216)
    (h : ∀ b h' t' k, KBw.bInts b = ns → Fr h₀ L h' m → News h₀ L h' news → Q (.bytes b t') { s with heap := h', toks := k }) : wpAny (model prog w) A (call (.type "bytes") [.ref D]) Q E s :=
  KBa.make_K F N hh hl hi hr hn fun h' t' k F' N' hin => h _ h' t' k (KBa.ints_make hin) F' N'
theorem addB (hb : KBw.bInts b = ks) (hc : KBw.bInts c = ls) (hsz : ks.length + ls.length ≤ 16777216) (hz : ks ++ ls = zs) (h : ∀ d t' k, KBw.bInts d = zs → Q (.bytes d t') { s with toks := k }) : wpAny (model prog w) A (binaryOp .Add (.bytes b t) (.bytes c u)) Q E s := by
  subst hz
  exact KBa.add_K hb hc hsz fun t' k e => h _ t' k e
variable {value slice : PySem.Expr} {l v : Value} {lo hi : Option Int}
theorem sliceB (hF : Fr h₀ L s.heap m) (hN : News h₀ L s.heap news) (hk : KBw.bInts b = ks) (hl : IsPart l lo) (hu : IsPart v hi) (hz : ks.length ≤ 16777216)
    (hzs : (ks.drop (lo.elim 0 (clipAt ks.length))).take (hi.elim ks.length (clipAt ks.length) - lo.elim 0 (clipAt ks.length)) = zs)
    (h : ∀ d h' t' k, Fr h₀ L h' m → News h₀ L h' news → KBw.bInts d = zs → Q (.bytes d t') { s with heap := h', toks := k })
    (hs : subscripted slice false (.bytes b t) (.ref s.heap.objs.size) = operate [.ref s.heap.objs.size, .bytes b t] (getItem (.bytes b t) (.ref s.heap.objs.size)) := by with_unfolding_all rfl)
    (ht : ∀ r, letTemporaryGo value (.bytes b t) r = pure () := by intro _; with_unfolding_all rfl) :
    wpAny (model prog w) A (subscriptTail value slice (.bytes b t) (.ref s.heap.objs.size)) Q E { s with heap := s.heap.push { cls := .type "slice", data := .fields #[l, v, .none] } } :=
  KBc.slice_K hF hN hk hl hu hz (fun h' t' k F' N' e => h _ h' t' k F' N' (e.trans hzs)) hs ht
theorem itemB {i z : Int} {ui : Tok} (hk : KBw.bInts b = ks) (hfit : ks.length ≤ 1099511627776) (h0 : 0 ≤ i) (h1 : i < (ks.length : Int)) (hz : ks.getD i.toNat 0 = z)
    (h : ∀ t' k, 0 ≤ z → z < 256 → Q (.int z t') { s with toks := k })
    (hs : subscripted slice false (.bytes b t) (.int i ui) = operate [.bytes b t, .int i ui] (getItem (.bytes b t) (.int i ui)) := by with_unfolding_all rfl)
    (ht : ∀ r, letTemporaryGo value (.bytes b t) r = pure () := by intro _; with_unfolding_all rfl) : wpAny (model prog w) A (subscriptTail value slice (.bytes b t) (.int i ui)) Q E s := by
  subst hz
  exact KBw.item_K hk hfit h0 h1 h hs ht
end
theorem cut_key {f x : Int} : List.take ((some (33 : Int)).elim ([f] ++ be 32 x).length (clipAt ([f] ++ be 32 x).length) - (some (1 : Int)).elim 0 (clipAt ([f] ++ be 32 x).length)) (List.drop ((some (1 : Int)).elim 0 (clipAt ([f] ++ be 32 x).length)) ([f] ++ be 32 x)) = be 32 x := by
  have hl : ([f] ++ be 32 x).length = 33 := by rw [List.length_append, be_length]; rfl
  rw [hl]
  have c1 : (some (33 : Int)).elim 33 (clipAt 33) = 33 := by decide
  have c2 : (some (1 : Int)).elim 0 (clipAt 33) = 1 := by decide
  rw [c1, c2]
  have d : List.drop 1 ([f] ++ be 32 x) = be 32 x := rfl
  rw [d, List.take_of_length_le (by rw [be_length]; decide)]

/-- x * x * x + 7 below the prime -/
@[irreducible] def sq (x : Int) : Int := (x * x * x + 7) % 115792089237316195423570985008687907853269984665640564039457584007908834671663
/-- the root that the project takes -/
@[irreducible] def rt (x : Int) : Int := powM (sq x) (Int.fdiv (115792089237316195423570985008687907853269984665640564039457584007908834671663 + 1) 4) 115792089237316195423570985008687907853269984665640564039457584007908834671663
@[irreducible] def rt2 (x : Int) : Int := rt x * rt x % 115792089237316195423570985008687907853269984665640564039457584007908834671663
/-- Euler's power -/
@[irreducible] def eul (x : Int) : Int := powM (sq x) (Int.fdiv (115792089237316195423570985008687907853269984665640564039457584007908834671663 - 1) 2) 115792089237316195423570985008687907853269984665640564039457584007908834671663
/-- one where x is the x of a point, else nought -/
@[irreducible] def okI (x : Int) : Int := if x < 115792089237316195423570985008687907853269984665640564039457584007908834671663 ∧ rt2 x = sq x then 1 else 0
/-- the even root -/
@[irreducible] def ev (x : Int) : Int := if rt x % 2 = 0 then rt x else 115792089237316195423570985008687907853269984665640564039457584007908834671663 - rt x
theorem sq_eq (x : Int) : (x * x * x + 7) % 115792089237316195423570985008687907853269984665640564039457584007908834671663 = sq x := by unfold sq; rfl
theorem rt_eq (x : Int) : powM (sq x) (Int.fdiv (115792089237316195423570985008687907853269984665640564039457584007908834671663 + 1) 4) 115792089237316195423570985008687907853269984665640564039457584007908834671663 = rt x := by unfold rt; rfl
theorem rt2_eq (x : Int) : rt x * rt x % 115792089237316195423570985008687907853269984665640564039457584007908834671663 = rt2 x := by unfold rt2; rfl
theorem eul_eq (x : Int) : powM (sq x) (Int.fdiv (115792089237316195423570985008687907853269984665640564039457584007908834671663 - 1) 2) 115792089237316195423570985008687907853269984665640564039457584007908834671663 = eul x := by unfold eul; rfl
theorem okI_far {x : Int} (h : 115792089237316195423570985008687907853269984665640564039457584007908834671663 ≤ x) : okI x = 0 := by
  unfold okI
  rw [if_neg (by omega)]
theorem okI_no {x : Int} (h : rt2 x ≠ sq x) : okI x = 0 := by
  unfold okI
  rw [if_neg (fun q => h q.2)]
theorem okI_yes {x : Int} (h0 : x < 115792089237316195423570985008687907853269984665640564039457584007908834671663) (h : rt2 x = sq x) : okI x = 1 := by
  unfold okI
  rw [if_pos ⟨h0, h⟩]
theorem ev_even {x : Int} (h : rt x % 2 = 0) : ev x = rt x := by
  unfold ev
  rw [if_pos h]
theorem ev_odd {x : Int} (h : ¬ rt x % 2 = 0) : ev x = 115792089237316195423570985008687907853269984665640564039457584007908834671663 - rt x := by
  unfold ev
  rw [if_neg h]
theorem rt_range (x : Int) : 0 ≤ rt x ∧ rt x < 115792089237316195423570985008687907853269984665640564039457584007908834671663 := by
  unfold rt
  exact powM_range (by decide)
theorem ev_facts (x : Int) : 0 ≤ ev x ∧ ev x < 115792089237316195423570985008687907853269984665640564039457584007908834671663 ∧ ev x % 2 = 0 ∧ (ev x = rt x ∨ ev x = 115792089237316195423570985008687907853269984665640564039457584007908834671663 - rt x) := by
  have h := rt_range x
  by_cases q : rt x % 2 = 0
  · rw [ev_even q]; omega
  · rw [ev_odd q]; omega

section
variable {prog : Program} {w : World} {M : Model} {A : Around} {E : Value → Shared → Prop} {s : Shared} {x y m z : Int} {t u v : Tok} {Q : Value → Shared → Prop}
theorem modZ (hm : 0 < m) (hz : x % m = z) (h : ∀ t' k, 0 ≤ z → z < m → Q (.int z t') { s with toks := k }) : wpAny (model prog w) A (binaryOp .Mod (.int x t) (.int m u)) Q E s := by
  subst hz
  have e : x.fmod m = x % m := Int.fmod_eq_emod_of_nonneg x (by omega)
  refine mod_int' (by omega) ?_
  rw [e]
  exact h _ _ (Int.emod_nonneg x (by omega)) (Int.emod_lt_of_pos x hm)
theorem powZz (hm : 1 < m) (hy : 0 ≤ y) (hz : powM x y m = z) (h : ∀ t' k, 0 ≤ z → z < m → Q (.int z t') { s with toks := k }) :
    wpAny (model prog w) A (call (.builtin "pow") [.int x t, .int y u, .int m v]) Q E s := by
  subst hz
  exact powZ hm hy h
end
theorem of_allLt {d : Addr} {l : List (Addr × Obj)} (h : AllLt d l) : ∀ p ∈ l, p.1 < d := kst_ltOf h
theorem news_sub {h₀ h : Heap} {L : Addr} {news news' : List (Addr × Obj)} (N : News h₀ L h news') (hs : ∀ p ∈ news, p ∈ news') : News h₀ L h news := kst_newsOf N hs
theorem head_news {h₀ h : Heap} {L D : Addr} {o : Obj} {news rest : List (Addr × Obj)} (N : News h₀ L h ((D, o) :: rest)) (hs : ∀ p ∈ news, p ∈ rest) : News h₀ L h ((D, o) :: news) := fun p hp => by
  rcases List.mem_cons.mp hp with e | hp
  · exact N p (by rw [e]; exact List.mem_cons_self ..)
  · exact N p (List.mem_cons_of_mem _ (hs p hp))
theorem any2_yes {a b f : Int} (h : ([a, b].any fun x => x == f) = true) : a = f ∨ b = f := by
  simp only [List.any_cons, List.any_nil, Bool.or_false, Bool.or_eq_true, beq_iff_eq] at h
  omega
theorem any2_no {a b f : Int} (h : ([a, b].any fun x => x == f) = false) : a ≠ f ∧ b ≠ f := by
  simp only [List.any_cons, List.any_nil, Bool.or_false, Bool.or_eq_false_iff, beq_eq_false_iff_ne] at h
  omega
theorem cut_len (ks : List Int) : (List.take ((some (33 : Int)).elim ks.length (clipAt ks.length) - (some (1 : Int)).elim 0 (clipAt ks.length)) (List.drop ((some (1 : Int)).elim 0 (clipAt ks.length)) ks)).length ≤ 32 := by
  have c1 : (some (33 : Int)).elim ks.length (clipAt ks.length) = min 33 ks.length := KBc.clip_lit _ _
  have c2 : (some (1 : Int)).elim 0 (clipAt ks.length) = min 1 ks.length := KBc.clip_lit _ _
  rw [c1, c2, List.length_take]
  omega
theorem in23_yes {f : Int} (h : ([2, 3].any fun x => x == f) = true) : f = 2 ∨ f = 3 := by
  simp only [List.any_cons, List.any_nil, Bool.or_false, Bool.or_eq_true, beq_iff_eq] at h
  omega
theorem in23_no {f : Int} (h : ([2, 3].any fun x => x == f) = false) : f ≠ 2 ∧ f ≠ 3 := by
  simp only [List.any_cons, List.any_nil, Bool.or_false, Bool.or_eq_false_iff, beq_eq_false_iff_ne] at h
  omega
theorem len_key {f x : Int} : ((([f] ++ be 32 x).length : Nat) : Int) = 33 := by
  rw [List.length_append, be_length]; rfl
theorem len_long {f x y : Int} : ((([f] ++ be 32 x ++ be 32 y).length : Nat) : Int) = 65 := by
  rw [List.length_append, List.length_append, be_length, be_length]; rfl
theorem cut_long1 {f x y : Int} : List.take ((some (33 : Int)).elim ([f] ++ be 32 x ++ be 32 y).length (clipAt ([f] ++ be 32 x ++ be 32 y).length) - (some (1 : Int)).elim 0 (clipAt ([f] ++ be 32 x ++ be 32 y).length)) (List.drop ((some (1 : Int)).elim 0 (clipAt ([f] ++ be 32 x ++ be 32 y).length)) ([f] ++ be 32 x ++ be 32 y)) = be 32 x := by
  have hl : ([f] ++ be 32 x ++ be 32 y).length = 65 := by rw [List.length_append, List.length_append, be_length, be_length]; rfl
  rw [hl]
  have c1 : (some (33 : Int)).elim 65 (clipAt 65) = 33 := by decide
  have c2 : (some (1 : Int)).elim 0 (clipAt 65) = 1 := by decide
  rw [c1, c2]
  have d : List.drop 1 ([f] ++ be 32 x ++ be 32 y) = be 32 x ++ be 32 y := rfl
  rw [d, List.take_append_of_le_length (by rw [be_length]; decide), List.take_of_length_le (by rw [be_length]; decide)]
theorem cut_long2 {f x y : Int} : List.take ((none : Option Int).elim ([f] ++ be 32 x ++ be 32 y).length (clipAt ([f] ++ be 32 x ++ be 32 y).length) - (some (33 : Int)).elim 0 (clipAt ([f] ++ be 32 x ++ be 32 y).length)) (List.drop ((some (33 : Int)).elim 0 (clipAt ([f] ++ be 32 x ++ be 32 y).length)) ([f] ++ be 32 x ++ be 32 y)) = be 32 y := by
  have hl : ([f] ++ be 32 x ++ be 32 y).length = 65 := by rw [List.length_append, List.length_append, be_length, be_length]; rfl
  rw [hl]
  have c1 : (none : Option Int).elim 65 (clipAt 65) = 65 := by decide
  have c2 : (some (33 : Int)).elim 0 (clipAt 65) = 33 := by decide
  rw [c1, c2]
  have d : ([f] ++ be 32 x).length = 33 := by rw [List.length_append, be_length]; rfl
  rw [← d, List.drop_left, List.take_of_length_le (by rw [be_length, d]; decide)]
theorem head_long {f : Int} {l r : List Int} : ([f] ++ l ++ r).getD (Int.toNat 0) 0 = f := rfl
theorem lit2 : KBw.bInts #[2] = [2] := by decide +kernel
theorem lit4 : KBw.bInts #[4] = [4] := by decide +kernel
theorem lit0 : KBw.bInts #[0] = [0] := by decide +kernel
theorem litE : KBw.bInts #[] = [] := by decide +kernel
section
variable {prog : Program} {w : World} {M : Model} {A : Around} {E : Value → Shared → Prop} {s : Shared} {z : Int} {ks : List Int} {b : Array UInt8} {t : Tok} {Q : Value → Shared → Prop}
theorem lenB (hk : KBw.bInts b = ks) (hfit : ks.length ≤ 1099511627776) (hz : (ks.length : Int) = z) (h : ∀ t' k, Q (.int z t') { s with toks := k }) : wpAny (model prog w) A (call (.builtin "len") [.bytes b t]) Q E s := by
  subst hz
  exact KBw.len_K hk hfit (h _ _)
end
theorem Sz.pow {j : Nat} {x : Int} (hx : Sz j x) : ∀ n : Nat, x = x → Sz (j * n + 1) (x ^ n)
  | 0, _ => by
    rw [Int.pow_zero, Nat.mul_zero]
    show (1 : Int).natAbs < 2 ^ (0 + 1)
    decide
  | n + 1, _ => by
    have ih := Sz.pow hx n rfl
    have e : j * (n + 1) + 1 = (j * n + 1) + j := by rw [Nat.mul_add, Nat.mul_one]; omega
    rw [Int.pow_succ, e]
    exact ih.mul hx
theorem pow2_256 : (2 : Int) ^ (256 : Int).toNat = 115792089237316195423570985008687907853269984665640564039457584007913129639936 := by decide +kernel
section
variable {prog : Program} {w : World} {M : Model} {A : Around} {E : Value → Shared → Prop} {s : Shared} {x n z : Int} {t u : Tok} {Q : Value → Shared → Prop}
theorem powS {j : Nat} (hx : Sz j x) (hn : 0 ≤ n) (hjn : j * n.toNat ≤ 100000) (hz : x ^ n.toNat = z) (h : ∀ t' k', Sz (j * n.toNat + 1) z → Q (.int z t') { s with toks := k' }) : wpAny (model prog w) A (binaryOp .Pow (.int x t) (.int n u)) Q E s := by
  subst hz
  refine pow_int hn ?_ (h _ _ (hx.pow _ rfl))
  have h1 := PyProof.Rows.intBits_le hx
  obtain ⟨k, rfl⟩ := Int.eq_ofNat_of_zero_le hn
  rw [Int.toNat_natCast] at hjn
  have h2 : Builtin.Int.intBits x * k ≤ j * k := Nat.mul_le_mul_right _ h1
  have h3 : Builtin.Int.intBits x * k ≤ 100000 := Nat.le_trans h2 hjn
  have h4 : ((Builtin.Int.intBits x : Int) * (k : Int)) = ((Builtin.Int.intBits x * k : Nat) : Int) := by push_cast; rfl
  rw [h4]
  omega
end
theorem head_key {f : Int} {l : List Int} : ([f] ++ l).getD (Int.toNat 0) 0 = f := rfl
/-- the two other numbers with the cube of x -/
@[irreducible] def tw (x : Int) : Int := x * 55594575648329892869085402983802832744385952214688224221778511981742606582254 % 115792089237316195423570985008687907853269984665640564039457584007908834671663
@[irreducible] def tw2 (x : Int) : Int := x * 55594575648329892869085402983802832744385952214688224221778511981742606582254 * 55594575648329892869085402983802832744385952214688224221778511981742606582254 % 115792089237316195423570985008687907853269984665640564039457584007908834671663
theorem tw_eq (x : Int) : x * 55594575648329892869085402983802832744385952214688224221778511981742606582254 % 115792089237316195423570985008687907853269984665640564039457584007908834671663 = tw x := by unfold tw; rfl
theorem tw2_eq (x : Int) : x * 55594575648329892869085402983802832744385952214688224221778511981742606582254 * 55594575648329892869085402983802832744385952214688224221778511981742606582254 % 115792089237316195423570985008687907853269984665640564039457584007908834671663 = tw2 x := by unfold tw2; rfl
@[irreducible] def cutS (f x : Int) : List Int := List.take 32 ([f] ++ be 32 x)
theorem cutS_len (f x : Int) : (cutS f x).length = 32 := by
  unfold cutS
  rw [List.length_take, List.length_append, be_length]
  rfl
theorem cut_short {f x : Int} : List.take ((some (32 : Int)).elim ([f] ++ be 32 x).length (clipAt ([f] ++ be 32 x).length) - (none : Option Int).elim 0 (clipAt ([f] ++ be 32 x).length)) (List.drop ((none : Option Int).elim 0 (clipAt ([f] ++ be 32 x).length)) ([f] ++ be 32 x)) = cutS f x := by
  have hl : ([f] ++ be 32 x).length = 33 := by rw [List.length_append, be_length]; rfl
  rw [hl]
  have c1 : (some (32 : Int)).elim 33 (clipAt 33) = 32 := by decide
  have c2 : (none : Option Int).elim 0 (clipAt 33) = 0 := by decide
  rw [c1, c2]
  unfold cutS
  rfl
theorem readS {f x : Int} : (cutS f x).length ≤ 64 ∧ (cutS f x).length ≠ 33 := by rw [cutS_len]; decide
theorem readL {f z x : Int} : ([f] ++ be 32 x ++ [z]).length ≤ 64 ∧ ([f] ++ be 32 x ++ [z]).length ≠ 33 := by
  have hl : ([f] ++ be 32 x ++ [z]).length = 34 := by rw [List.length_append, List.length_append, be_length]; rfl
  rw [hl]
  decide
theorem readE : ([] : List Int).length ≤ 64 ∧ ([] : List Int).length ≠ 33 := by decide
@[irreducible] def evsq (x : Int) : Int := ev x * ev x % 115792089237316195423570985008687907853269984665640564039457584007908834671663
theorem evsq_eq (x : Int) : ev x * ev x % 115792089237316195423570985008687907853269984665640564039457584007908834671663 = evsq x := by unfold evsq; rfl
end Mine
namespace Mine
open MineN
theorem shift_step (e k : Nat) : e >>> k = 2 * (e >>> (k + 1)) + (if e.testBit k then 1 else 0) := by
  rw [Nat.shiftRight_succ, Nat.testBit_eq_decide_div_mod_eq, ← Nat.shiftRight_eq_div_pow]
  generalize e >>> k = X
  by_cases h : X % 2 = 1
  · rw [if_pos (by simpa using h)]
    omega
  · rw [if_neg (by simpa using h)]
    omega
theorem powMod_eq (b e m : Nat) : Builtin.powMod b e m = b ^ e % m := by
  have step : ∀ (k p : Nat), p = b ^ (e >>> k) % m → (List.range k).reverse.foldl (fun p i => if e.testBit i then p * p % m * b % m else p * p % m) p = b ^ e % m := by
    intro k
    induction k with
    | zero =>
      intro p h
      rw [h, Nat.shiftRight_zero]
      rfl
    | succ k ih =>
      intro p h
      rw [List.range_succ, List.reverse_append, List.reverse_singleton, List.singleton_append, List.foldl_cons]
      refine ih _ ?_
      have e1 : b ^ (e >>> (k + 1)) * b ^ (e >>> (k + 1)) = b ^ (2 * (e >>> (k + 1))) := by
        rw [← Nat.pow_add]
        congr 1
        omega
      have e2 : p * p % m = b ^ (2 * (e >>> (k + 1))) % m := by
        rw [h, ← Nat.mul_mod, e1]
      by_cases hb : e.testBit k = true
      · rw [if_pos hb, e2, shift_step e k, if_pos hb, Nat.pow_succ, Nat.mod_mul_mod]
      · rw [if_neg hb, e2, shift_step e k, if_neg hb]
        rfl
  unfold Builtin.powMod
  have hb : e < 2 ^ Builtin.Int.intBits (e : Int) := by
    have h := (intBits_le_iff (m := Builtin.Int.intBits (e : Int)) (x := (e : Int))).mp (Nat.le_refl _)
    simpa using h
  refine step _ _ ?_
  rw [Nat.shiftRight_eq_div_pow, Nat.div_eq_of_lt hb, Nat.pow_zero]
theorem powM_nat {s p E : Nat} (hs : s < p) {x y m : Int} (hx : x = (s : Int)) (hy : y.natAbs = E) (hm : m = (p : Int)) : powM x y m = ((s ^ E % p : Nat) : Int) := by
  subst hx hm
  unfold powM
  have e : ((s : Int) % (p : Int)).toNat = s := by
    rw [← Int.natCast_emod, Int.toNat_natCast, Nat.mod_eq_of_lt hs]
  rw [e, hy, Int.natAbs_natCast, powMod_eq]

theorem e1e2 : 2 * (Int.fdiv (115792089237316195423570985008687907853269984665640564039457584007908834671663 + 1) 4).natAbs = (Int.fdiv (115792089237316195423570985008687907853269984665640564039457584007908834671663 - 1) 2).natAbs + 1 := by decide +kernel
theorem sq_range (x : Int) : 0 ≤ sq x ∧ sq x < 115792089237316195423570985008687907853269984665640564039457584007908834671663 := by
  unfold sq
  exact ⟨Int.emod_nonneg _ (by decide), Int.emod_lt_of_pos _ (by decide)⟩
/-- the three powers of a square below the prime, in naturals -/
theorem rt_nat {p s E1 : Nat} (hs : s < p) {y m : Int} {x : Int} (hx : sq x = (s : Int)) (hy : y.natAbs = E1) (hm : m = (p : Int)) : powM (sq x) y m = ((s ^ E1 % p : Nat) : Int) := powM_nat hs hx hy hm
theorem cast3 (n p : Nat) : (((n * n * n + 7) % p : Nat) : Int) = ((n : Int) * n * n + 7) % (p : Int) := by
  rw [Int.natCast_emod]
  push_cast
  rfl
theorem cast2 (r p : Nat) : ((r * r % p : Nat) : Int) = (r : Int) * r % (p : Int) := by
  rw [Int.natCast_emod]
  push_cast
  rfl
theorem sq_nat {x : Int} (h0 : 0 ≤ x) : (sq x).toNat = (x.toNat * x.toNat * x.toNat + 7) % 115792089237316195423570985008687907853269984665640564039457584007908834671663 := by
  obtain ⟨n, rfl⟩ := Int.eq_ofNat_of_zero_le h0
  unfold sq
  rw [Int.toNat_natCast]
  have e : ((n : Int) * n * n + 7) % 115792089237316195423570985008687907853269984665640564039457584007908834671663 = (((n * n * n + 7) % 115792089237316195423570985008687907853269984665640564039457584007908834671663 : Nat) : Int) := (cast3 n 115792089237316195423570985008687907853269984665640564039457584007908834671663).symm
  rw [e, Int.toNat_natCast]
theorem sq_nz {x : Int} (h0 : 0 ≤ x) : (sq x).toNat ≠ 0 := by
  rw [sq_nat h0]
  exact no_zero pr_115792089237316195423570985008687907853269984665640564039457584007908834671663 (by decide +kernel) cubeE cubeE_val noncube _
theorem rt2_nat {x : Int} {s r : Nat} (hr : rt x = (r : Int)) (hs : sq x = (s : Int)) : rt2 x = sq x ↔ r * r % 115792089237316195423570985008687907853269984665640564039457584007908834671663 = s := by
  unfold rt2
  rw [hr, hs]
  have e : (r : Int) * (r : Int) % 115792089237316195423570985008687907853269984665640564039457584007908834671663 = ((r * r % 115792089237316195423570985008687907853269984665640564039457584007908834671663 : Nat) : Int) := (cast2 r 115792089237316195423570985008687907853269984665640564039457584007908834671663).symm
  rw [e]
  exact Int.ofNat_inj
theorem main_eul {p : Nat} (hpP : p = 115792089237316195423570985008687907853269984665640564039457584007908834671663) {x : Int} (h0 : 0 ≤ x) : (eul x = 1 → rt2 x = sq x) ∧ (rt2 x = sq x → eul x = 1) := by
  have hr := sq_range x
  obtain ⟨s, hs⟩ := Int.eq_ofNat_of_zero_le hr.1
  have hlt : s < p := by omega
  have hz : s ≠ 0 := by
    have := sq_nz h0
    rw [hs, Int.toNat_natCast] at this
    exact this
  have hp : Pr p := by rw [hpP]; exact pr_115792089237316195423570985008687907853269984665640564039457584007908834671663
  have hm : (115792089237316195423570985008687907853269984665640564039457584007908834671663 : Int) = (p : Int) := by rw [hpP]; rfl
  have q1 : rt x = ((s ^ (Int.fdiv (115792089237316195423570985008687907853269984665640564039457584007908834671663 + 1) 4).natAbs % p : Nat) : Int) := by
    rw [← rt_eq]
    exact rt_nat hlt hs rfl hm
  have q2 : eul x = ((s ^ (Int.fdiv (115792089237316195423570985008687907853269984665640564039457584007908834671663 - 1) 2).natAbs % p : Nat) : Int) := by
    rw [← eul_eq]
    exact rt_nat hlt hs rfl hm
  have e12 := e1e2
  generalize (Int.fdiv (115792089237316195423570985008687907853269984665640564039457584007908834671663 + 1) 4).natAbs = E1 at q1 e12
  generalize (Int.fdiv (115792089237316195423570985008687907853269984665640564039457584007908834671663 - 1) 2).natAbs = E2 at q2 e12
  have q3 := rt2_nat q1 hs
  rw [← hpP] at q3
  rw [q3, q2]
  constructor
  · intro h
    exact euler_ok hlt e12 (by omega)
  · intro h
    have := ok_euler hp hlt hz e12 h
    omega
theorem cube_tw {x y : Int} (h : ∃ r : Int, (r * r * r) % 115792089237316195423570985008687907853269984665640564039457584007908834671663 = 1 ∧ y = x * r % 115792089237316195423570985008687907853269984665640564039457584007908834671663) : sq y = sq x := by
  obtain ⟨r, hr, rfl⟩ := h
  unfold sq
  have e1 : (x * r % 115792089237316195423570985008687907853269984665640564039457584007908834671663) * (x * r % 115792089237316195423570985008687907853269984665640564039457584007908834671663) * (x * r % 115792089237316195423570985008687907853269984665640564039457584007908834671663) % 115792089237316195423570985008687907853269984665640564039457584007908834671663 = x * x * x % 115792089237316195423570985008687907853269984665640564039457584007908834671663 := by
    have a : (x * r % 115792089237316195423570985008687907853269984665640564039457584007908834671663) * (x * r % 115792089237316195423570985008687907853269984665640564039457584007908834671663) * (x * r % 115792089237316195423570985008687907853269984665640564039457584007908834671663) % 115792089237316195423570985008687907853269984665640564039457584007908834671663 = (x * r) * (x * r) * (x * r) % 115792089237316195423570985008687907853269984665640564039457584007908834671663 := by
      rw [Int.mul_emod, Int.mul_emod (x * r % 115792089237316195423570985008687907853269984665640564039457584007908834671663) (x * r % 115792089237316195423570985008687907853269984665640564039457584007908834671663), Int.emod_emod, ← Int.mul_emod (x * r) (x * r), ← Int.mul_emod]
    have b : (x * r) * (x * r) * (x * r) = (x * x * x) * (r * r * r) := by
      simp only [Int.mul_assoc, Int.mul_comm, Int.mul_left_comm]
    rw [a, b, Int.mul_emod, hr, Int.mul_one, Int.emod_emod]
  rw [Int.add_emod, e1, ← Int.add_emod]
theorem rt_same {x y : Int} (h : sq y = sq x) : rt y = rt x ∧ rt2 y = rt2 x ∧ ev y = ev x := by
  have h1 : rt y = rt x := by rw [← rt_eq, ← rt_eq, h]
  refine ⟨h1, ?_, ?_⟩
  · rw [← rt2_eq, ← rt2_eq, h1]
  · by_cases q : rt x % 2 = 0
    · rw [ev_even q, ev_even (h1 ▸ q), h1]
    · rw [ev_odd q, ev_odd (by rw [h1]; exact q), h1]
theorem okI_same {x y : Int} (h : sq y = sq x) (hx : x < 115792089237316195423570985008687907853269984665640564039457584007908834671663) (hy : y < 115792089237316195423570985008687907853269984665640564039457584007908834671663) : okI y = okI x := by
  have h2 := (rt_same h).2.1
  by_cases q : rt2 x = sq x
  · rw [okI_yes hx q, okI_yes hy (by rw [h2, h]; exact q)]
  · rw [okI_no q, okI_no (by rw [h2, h]; exact q)]
theorem tw_cube (x : Int) : sq (tw x) = sq x := cube_tw ⟨55594575648329892869085402983802832744385952214688224221778511981742606582254, by decide +kernel, (tw_eq x).symm⟩
theorem tw2_cube (x : Int) : sq (tw2 x) = sq x := by
  refine cube_tw ⟨55594575648329892869085402983802832744385952214688224221778511981742606582254 * 55594575648329892869085402983802832744385952214688224221778511981742606582254, by decide +kernel, ?_⟩
  rw [← tw2_eq, Int.mul_assoc]
theorem tw_lt (x : Int) : tw x < 115792089237316195423570985008687907853269984665640564039457584007908834671663 := by rw [← tw_eq]; exact Int.emod_lt_of_pos _ (by decide)
theorem tw2_lt (x : Int) : tw2 x < 115792089237316195423570985008687907853269984665640564039457584007908834671663 := by rw [← tw2_eq]; exact Int.emod_lt_of_pos _ (by decide)
theorem okI_two (x : Int) : okI x = 0 ∨ (okI x = 1 ∧ x < 115792089237316195423570985008687907853269984665640564039457584007908834671663 ∧ rt2 x = sq x) := by
  by_cases q : rt2 x = sq x
  · by_cases hx : x < 115792089237316195423570985008687907853269984665640564039457584007908834671663
    · exact .inr ⟨okI_yes hx q, hx, q⟩
    · exact .inl (okI_far (by omega))
  · exact .inl (okI_no q)
theorem evsq_rt2 (x : Int) : evsq x = rt2 x := by
  rw [← evsq_eq, ← rt2_eq]
  rcases (ev_facts x).2.2.2 with h | h
  · rw [h]
  · rw [h]
    have e : (115792089237316195423570985008687907853269984665640564039457584007908834671663 - rt x) * (115792089237316195423570985008687907853269984665640564039457584007908834671663 - rt x) = rt x * rt x + 115792089237316195423570985008687907853269984665640564039457584007908834671663 * (115792089237316195423570985008687907853269984665640564039457584007908834671663 - 2 * rt x) := by
      generalize rt x = r
      rw [Int.sub_mul, Int.mul_sub, Int.mul_sub, Int.mul_sub]
      rw [Int.mul_comm r 115792089237316195423570985008687907853269984665640564039457584007908834671663]
      have : (115792089237316195423570985008687907853269984665640564039457584007908834671663 : Int) * (2 * r) = 115792089237316195423570985008687907853269984665640564039457584007908834671663 * r + 115792089237316195423570985008687907853269984665640564039457584007908834671663 * r := by
        rw [Int.two_mul, Int.mul_add]
      rw [this]
      omega
    rw [e, Int.add_mul_emod_self_left]
theorem law_facts {x : Int} (h0 : 0 ≤ x) : (x < 115792089237316195423570985008687907853269984665640564039457584007908834671663 → eul x = 1 → okI x = 1) ∧ (okI x = 1 → eul x = 1) ∧ (okI x = 0 ∨ okI x = 1) ∧ (okI x = 1 → x < 115792089237316195423570985008687907853269984665640564039457584007908834671663) ∧ (x < 115792089237316195423570985008687907853269984665640564039457584007908834671663 → okI (tw x) = okI x) ∧ (x < 115792089237316195423570985008687907853269984665640564039457584007908834671663 → okI (tw2 x) = okI x) ∧ ev (tw x) = ev x ∧ ev (tw2 x) = ev x ∧ (okI x = 1 → evsq x = sq x) := by
  have hm := main_eul rfl h0
  have h2 := okI_two x
  refine ⟨fun hx he => okI_yes hx (hm.1 he), fun ho => hm.2 ?_, ?_, ?_, fun hx => okI_same (tw_cube x) hx (tw_lt x), fun hx => okI_same (tw2_cube x) hx (tw2_lt x), (rt_same (tw_cube x)).2.2, (rt_same (tw2_cube x)).2.2, fun ho => ?_⟩
  · rcases h2 with h | h
    · omega
    · exact h.2.2
  · rcases h2 with h | h
    · exact .inl h
    · exact .inr h.1
  · intro ho
    rcases h2 with h | h
    · omega
    · exact h.2.1
  · rw [evsq_rt2]
    rcases h2 with h | h
    · omega
    · exact h.2.2
theorem law_cases {x : Int} (h0 : 0 ≤ x) : (okI x = 1 ∧ x < 115792089237316195423570985008687907853269984665640564039457584007908834671663 ∧ eul x = 1 ∧ okI (tw x) = 1 ∧ okI (tw2 x) = 1 ∧ ev (tw x) = ev x ∧ ev (tw2 x) = ev x ∧ evsq x = sq x ∧ 0 ≤ ev x ∧ ev x < 115792089237316195423570985008687907853269984665640564039457584007908834671663 ∧ ev x % 2 = 0) ∨ (okI x = 0 ∧ 115792089237316195423570985008687907853269984665640564039457584007908834671663 ≤ x) ∨ (okI x = 0 ∧ x < 115792089237316195423570985008687907853269984665640564039457584007908834671663 ∧ eul x ≠ 1 ∧ okI (tw x) = 0) := by
  obtain ⟨f1, f2, f3, f4, f5, f6, f7, f8, f9⟩ := law_facts h0
  obtain ⟨g1, g2, g3, _⟩ := ev_facts x
  rcases f3 with h | h
  · by_cases hx : x < 115792089237316195423570985008687907853269984665640564039457584007908834671663
    · have h5 := f5 hx
      refine .inr (.inr ⟨h, hx, fun he => ?_, by omega⟩)
      have := f1 hx he
      omega
    · exact .inr (.inl ⟨h, by omega⟩)
  · have hx := f4 h
    have h5 := f5 hx
    have h6 := f6 hx
    exact .inl ⟨h, hx, f2 h, by omega, by omega, f7, f8, f9 h, g1, g2, g3⟩
end Mine
namespace Mine
def tup2 (x y : Int) (t u : Tok) : Obj := { cls := .type "tuple", data := .seq #[.int x t, .int y u] }

/-- what a call of a reader of keys gives: none, or a pair -/
def Claim (w : World) (loose : List Str) (mean : ExcName → Option Value) (mg mb : Str → Option Value) (f : Addr) (vs : List Value) (bad : Prop) (good : Int → Int → Prop) : Prop :=
  ∀ (dp un : Nat) (gd : Option (List Code)) (cn : Str) (cs : Scope) (a : Addr) (ccd : Value) (A₀ : Around) (base h₀ : Heap) (L : Addr) (m : Str → Option Value) (news : List (Addr × Obj)) (s : Shared) (Q E : Value → Shared → Prop),
    Below A₀ base [] h₀ → Fr h₀ L s.heap m → (top0.heap_39 w.params).In h₀ → News h₀ L s.heap news → Top top0.view_39 loose mean mg mb h₀ → cs.kind = .function →
    (top0.heap_39 w.params).In base → Top top0.view_39 loose mean mg mb base →
    dp + 10 < recursionLimit → un + 80 < cLine →
    (∀ h' tk', bad → Fr h₀ L h' m → News h₀ L h' news → Q .none { s with heap := h', toks := tk' }) →
    (∀ r h' tk' x y t1 t2, good x y → Fr h₀ L h' m → News h₀ L h' ((r, tup2 x y t1 t2) :: news) → (∀ p ∈ news, p.1 < r) → Q (.ref r) { s with heap := h', toks := tk' }) →
      wpAny (model PySem.Challenge.rw_fc0023_01.row.prog w) (ktrTop dp un gd cn cs L a ccd [] []) (call (.ref f) vs) Q E s


/-- what a call that draws from the state gives: an int, and the state turned -/
def ClaimN (w : World) (loose : List Str) (mean : ExcName → Option Value) (mg mb : Str → Option Value) (f : Addr) (vs : Addr → List Value) (k : Nat) (lo hi steps cap : Int) : Prop :=
  ∀ (dp un : Nat) (gd : Option (List Code)) (cn : Str) (cs : Scope) (a : Addr) (ccd : Value) (cl : List (Str × Addr)) (outer : List Env) (A₀ : Around) (base h₀ : Heap) (L : Addr) (m : Str → Option Value) (l D : Addr) (ws : List Value) (ns : List Int) (c : Int) (tc : Tok) (n nn : Nat) (rest : List (Addr × Obj)) (s : Shared) (Q E : Value → Shared → Prop),
    Below A₀ base outer h₀ → Fr h₀ L s.heap m → (top0.heap_39 w.params).In h₀ → News h₀ L s.heap ((l, W.listOf #[.ref D, .int c tc] n) :: (D, W.listOf ws.toArray nn) :: rest) → Top top0.view_39 loose mean mg mb h₀ → cs.kind = .function →
    dp + k < recursionLimit → un + 8 * k < cLine → D < l → (∀ p ∈ rest, p.1 ≠ l) → IntsAre ws ns → ns.length ≤ 12 → 0 ≤ c → c ≤ cap →
    (∀ v tv h' tk' c' tc' n', lo ≤ v → v < hi → c < c' → c' ≤ c + steps → Fr h₀ L h' m → News h₀ L h' ((l, W.listOf #[.ref D, .int c' tc'] n') :: (D, W.listOf ws.toArray nn) :: rest) → Q (.int v tv) { s with heap := h', toks := tk' }) →
      wpAny (model PySem.Challenge.rw_fc0023_01.row.prog w) (ktrTop dp un gd cn cs L a ccd cl outer) (call (.ref f) (vs l)) Q E s
theorem ClaimN.use {w : World} {loose : List Str} {mean : ExcName → Option Value} {mg mb : Str → Option Value} {f : Addr} {vs : Addr → List Value} {k : Nat} {lo hi steps cap : Int} (C : ClaimN w loose mean mg mb f vs k lo hi steps cap)
    {dp un : Nat} {gd : Option (List Code)} {cn : Str} {cs : Scope} {a : Addr} {ccd : Value} {cl : List (Str × Addr)} {outer : List Env} {A₀ : Around} {base h₀ : Heap} {L : Addr} {m : Str → Option Value} {l D : Addr} {ws : List Value} {ns : List Int} {c : Int} {tc : Tok} {n nn : Nat} {rest : List (Addr × Obj)} {s : Shared} {Q E : Value → Shared → Prop}
    (B : Below A₀ base outer h₀) (F : Fr h₀ L s.heap m) (X : (top0.heap_39 w.params).In h₀) (N : News h₀ L s.heap ((l, W.listOf #[.ref D, .int c tc] n) :: (D, W.listOf ws.toArray nn) :: rest)) (T : Top top0.view_39 loose mean mg mb h₀) (hk : cs.kind = .function)
    (hd : dp + k < recursionLimit) (hu : un + 8 * k < cLine) (hDl : @LT.lt Nat _ D l) (hr : ∀ p ∈ rest, p.1 ≠ l) (hI : IntsAre ws ns) (hlen : ns.length ≤ 12) (h0 : 0 ≤ c) (h1 : c ≤ cap)
    (ret : ∀ v tv h' tk' c' tc' n', lo ≤ v → v < hi → c < c' → c' ≤ c + steps → Fr h₀ L h' m → News h₀ L h' ((l, W.listOf #[.ref D, .int c' tc'] n') :: (D, W.listOf ws.toArray nn) :: rest) → Q (.int v tv) { s with heap := h', toks := tk' }) :
    wpAny (model PySem.Challenge.rw_fc0023_01.row.prog w) (ktrTop dp un gd cn cs L a ccd cl outer) (call (.ref f) (vs l)) Q E s :=
  C _ _ _ _ _ _ _ _ _ _ _ _ _ _ _ _ _ _ _ _ _ _ _ _ _ _ B F X N T hk hd hu hDl hr hI hlen h0 h1 ret
theorem Claim.use {w : World} {loose : List Str} {mean : ExcName → Option Value} {mg mb : Str → Option Value} {f : Addr} {vs : List Value} {bad : Prop} {good : Int → Int → Prop} (C : Claim w loose mean mg mb f vs bad good)
    {dp un : Nat} {gd : Option (List Code)} {cn : Str} {cs : Scope} {a : Addr} {ccd : Value} {A₀ : Around} {base h₀ : Heap} {L : Addr} {m : Str → Option Value} {news : List (Addr × Obj)} {s : Shared} {Q E : Value → Shared → Prop}
    (B : Below A₀ base [] h₀) (F : Fr h₀ L s.heap m) (X : (top0.heap_39 w.params).In h₀) (N : News h₀ L s.heap news) (T : Top top0.view_39 loose mean mg mb h₀) (hk : cs.kind = .function) (XB : (top0.heap_39 w.params).In base) (TB : Top top0.view_39 loose mean mg mb base)
    (hd : dp + 10 < recursionLimit) (hu : un + 80 < cLine)
    (r1 : ∀ h' tk', bad → Fr h₀ L h' m → News h₀ L h' news → Q .none { s with heap := h', toks := tk' })
    (r2 : ∀ r h' tk' x y t1 t2, good x y → Fr h₀ L h' m → News h₀ L h' ((r, tup2 x y t1 t2) :: news) → (∀ p ∈ news, p.1 < r) → Q (.ref r) { s with heap := h', toks := tk' }) :
    wpAny (model PySem.Challenge.rw_fc0023_01.row.prog w) (ktrTop dp un gd cn cs L a ccd [] []) (call (.ref f) vs) Q E s :=
  C _ _ _ _ _ _ _ _ _ _ _ _ _ _ _ _ B F X N T hk XB TB hd hu r1 r2

def ledL (l D : Addr) (ws : List Value) (nn : Nat) (c : Int × Tok × Nat) : List (Addr × Obj) := [(l, W.listOf #[.ref D, .int c.1 c.2.1] c.2.2), (D, W.listOf ws.toArray nn)]
def storedL : List Str := [Str.ofString "x", Str.ofString "even", Str.ofString "odd", Str.ofString "square", Str.ofString "y", Str.ofString "other", Str.ofString "short"]
def invL (pre : List Int) (c : Int × Tok × Nat) : Prop := 0 ≤ c.1 ∧ c.1 ≤ 1 + 3 * (pre.length : Int)
section
variable {prog : Program} {w : World} {A : Around} {E : Value → Shared → Prop} {s : Shared} {env : Env} {h₀ : Heap} {body : List Stmt} {Q : Flow → Shared → Prop}
theorem law_range {l D r : Addr} {ws : List Value} {b₀ c₀ : Int} {t₀ u₀ v₀ tc₀ : Tok} {n₀ nn : Nat} {m₀ : Str → Option Value}
    (hh : A.handled = none) (hr : IsRange s.heap r 0 b₀ 1 t₀ u₀ v₀) (hb0 : 0 ≤ b₀) (hb1 : b₀ ≤ 4) (F : Fr h₀ env.locals s.heap m₀) (N : News h₀ env.locals s.heap [(l, W.listOf #[.ref D, .int c₀ tc₀] n₀), (D, W.listOf ws.toArray nn)]) (h0 : 0 ≤ c₀) (h1 : c₀ ≤ 1)
    (turn : ∀ (c : Int) (tc : Tok) (n : Nat) (pre : List Int) (k : Int) t (u : Str → Option Value) h tk own, 0 ≤ c → c ≤ 20 → c ≤ 1 + 3 * (pre.length : Int) → (∀ p ∈ own, p.1 ≠ l) →
      Fr h₀ env.locals h (fun y => if y = Str.ofString "k" then some (.int k t) else if storedL.contains y then u y else m₀ y) → News h₀ env.locals h ((l, W.listOf #[.ref D, .int c tc] n) :: (D, W.listOf ws.toArray nn) :: own) →
      wpAny (model prog w) A (execs body env) (InvPostN h₀ env.locals (KstS (ledL l D ws nn) (fun _ => []) (fun _ => True) (Str.ofString "k") storedL m₀ invL (pre ++ [k])) own [l, D] { s with heap := h, toks := tk } Q) E { s with heap := h, toks := tk })
    (done : ∀ (c : Int) (tc : Tok) (n : Nat) (u : Str → Option Value) h tk, Fr h₀ env.locals h (fun y => if y = Str.ofString "k" then u y else if storedL.contains y then u y else m₀ y) → News h₀ env.locals h [(l, W.listOf #[.ref D, .int c tc] n), (D, W.listOf ws.toArray nn)] → Q .next { s with heap := h, toks := tk }) :
    wpAny (model prog w) A (pyIter (.ref r)) (fun it s₂ => LoopAtV prog w A h₀ env (Str.ofString "k") body Q E it s₂) E s := by
  obtain ⟨n, rfl⟩ := Int.eq_ofNat_of_zero_le hb0
  refine kst_range (n := n) (ledL l D ws nn) (fun _ => []) (fun _ => True) storedL invL (c₀, tc₀, n₀) hh hr (small_one (by omega) (by omega) (by omega) (by omega)) (by rw [rangeSize_nat]; omega) F N trivial (fun p hp => nomatch hp) ⟨h0, by simpa using h1⟩ ?_ ?_
  · rintro ⟨c, tc, n⟩ pre k t u h tk own hk hlt hoff _ ⟨i0, i1⟩ F' N'
    exact turn c tc n pre k t u h tk own i0 (by dsimp only at i1; omega) i1 (fun p hp => hoff p hp l (List.mem_cons_self ..)) F' N'
  · rintro ⟨c, tc, n⟩ u h tk _ _ F' N'
    exact done c tc n u h tk F' N'
end
theorem law_end {h₀ : Heap} {L l D : Addr} {ws : List Value} {nn : Nat} {c : Int} {tc : Tok} {n : Nat} {m₀ m' : Str → Option Value} {pre : List Int} {k : Int} {own news' : List (Addr × Obj)} {s₁ : Shared} {h' : Heap} {tk : Nat}
    (F : Fr h₀ L h' m') (N : News h₀ L h' news') (hl : (l, W.listOf #[.ref D, .int c tc] n) ∈ news') (hD : (D, W.listOf ws.toArray nn) ∈ news') (ho : ∀ p ∈ own, p ∈ news') (h0 : 0 ≤ c) (h1 : c ≤ 1 + 3 * ((pre.length : Int) + 1))
    (hr : ∀ z, z ≠ Str.ofString "k" → storedL.contains z = false → m' z = m₀ z) :
    InvEndN h₀ L (KstS (ledL l D ws nn) (fun _ => []) (fun _ => True) (Str.ofString "k") storedL m₀ invL (pre ++ [k])) own [l, D] s₁ { s₁ with heap := h', toks := tk } := by
  refine kst_end (c, tc, n) F N ?_ ho rfl trivial (fun p hp => nomatch hp) (fun z a _ b => hr z a b) ⟨h0, ?_⟩
  · intro p hp
    rcases List.mem_cons.mp hp with e | hp
    · rw [e]
      exact hl
    · rcases List.mem_cons.mp hp with e | hp
      · rw [e]
        exact hD
      · nomatch hp
  · rw [List.length_append]
    show c ≤ 1 + 3 * ((pre.length + 1 : Nat) : Int)
    omega
theorem Claim.mono {w : World} {loose : List Str} {mean : ExcName → Option Value} {mg mb : Str → Option Value} {f : Addr} {vs : List Value} {bad bad' : Prop} {good good' : Int → Int → Prop} (C : Claim w loose mean mg mb f vs bad good) (hb : bad → bad') (hg : ∀ x y, good x y → good' x y) :
    Claim w loose mean mg mb f vs bad' good' :=
  fun _ _ _ _ _ _ _ _ _ _ _ _ _ _ _ _ B F X N T hk XB TB hd hu r1 r2 => C _ _ _ _ _ _ _ _ _ _ _ _ _ _ _ _ B F X N T hk XB TB hd hu (fun h' tk' b F' N' => r1 h' tk' (hb b) F' N') (fun r h' tk' x y t1 t2 g F' N' lt => r2 r h' tk' x y t1 t2 (hg x y g) F' N' lt)
theorem unr_one {h₀ : Heap} {L I : Addr} {o : Obj} {news all : List (Addr × Obj)} {rest : (Str → Option Value) → List (Addr × Obj) → Prop} {s₁ : Shared} {h' : Heap} {tk : Nat} {m' : Str → Option Value} (F : Fr h₀ L h' m') (N : News h₀ L h' all) (l1 : ∀ p ∈ news, p.1 < I) (hI : (I, o) ∈ all) (hs : ∀ p ∈ news, p ∈ all)
    (r : rest m' news) : UnrEndW h₀ L s₁ [(I, o)] rest { s₁ with heap := h', toks := tk } :=
  ⟨h', tk, m', news, rfl, F, fun p hp => by
    rcases List.mem_cons.mp hp with e | hp
    · rw [e]
      exact N _ hI
    · exact N p (hs p hp), fun p hp q hq => by
    rw [List.mem_singleton.mp hq]
    exact Nat.ne_of_lt (l1 p hp), r⟩
end Mine
namespace Mine
local macro_rules | `(tactic| k_room) => `(tactic| ktr_room)
local macro_rules | `(tactic| walk_at "callWith ref") => `(tactic| (k_here; (with_reducible show wpAny _ _ (callWith _ (Value.ref _) _ (backTo _ (starEach (_ :: _) _)) (backToKw _ (keywordEach (_ :: _) _))) _ _ _); kfb_any; k_dflt (refine' callWith_boundKW ?kfbN ?kfbM ?kfbA ?_; (case kfbN => k_asm); (case kfbM => k_mem); (case kfbA => exact rfl); k_whole)))
local macro_rules | `(tactic| walk_at "call ref") => `(tactic| (k_here; (with_reducible show wpAny _ _ (call (Value.ref _) [Value.bytes _ _] (List.zip _ _)) _ _ _); kfb_any; (show wpAny _ _ (call (Value.ref _) [Value.bytes _ _] [(PySem.Str.ofString "byteorder", Value.str (PySem.Str.ofString "big") _), (PySem.Str.ofString "signed", Value.bool false)]) _ _ _); k_dflt (refine fromB (by k_asm) (by k_mem) (by assumption) (by first | exact cut_len _ | kba_size) (by first | exact be_value (by assumption) (by assumption) | exact rfl) ?_); intro _ _ _ _))
local macro_rules | `(tactic| walk_at "call type:bytes") => `(tactic| (k_here; (with_reducible show wpAny _ _ (call (Value.type "bytes") [Value.ref _]) _ _ _); k_dflt (refine' makeB ?kbaF ?kbaN ?kbah ?kbal ?kbai ?kbar ?kban ?_; (case kbaF => k_asm); (case kbaN => k_asm); (case kbah => rfl); (case kbal => kba_isList); (case kbai => kba_listInts); (case kbar => first | kba_in | (intro k9 hk9; rw [List.mem_singleton.mp hk9]; exact ⟨by omega, by omega⟩)); (case kban => kba_size)); intro _ _ _ _ _ F' N'))
local macro_rules | `(tactic| walk_at "binaryOp Add bytes bytes") => `(tactic| (k_here; (with_reducible show wpAny _ _ (binaryOp Operator.Add (Value.bytes _ _) (Value.bytes _ _)) _ _ _); (refine addB (by first | assumption | exact lit4 | exact lit2) (by first | assumption | exact lit0) (by kba_size) (by exact rfl) ?_); intro _ _ _ _))
local macro_rules | `(tactic| walk_at "subscriptTail") => `(tactic| (k_here; (with_reducible show wpAny _ _ (subscriptTail _ _ (Value.bytes _ _) (Value.int _ _)) _ _ _); (refine itemB (by assumption) (by kba_size) (by kba_idx) (by kba_idx) (by first | exact head_key | exact head_long | exact rfl) ?_); intro _ _ _ _))
local macro_rules | `(tactic| walk_at "subscriptTail") => `(tactic| (k_here; (with_reducible show wpAny _ _ (subscriptTail _ (Expr.Slice _ _ none _) (Value.bytes _ _) (Value.ref _)) _ _ _); (with_reducible rename Fr _ _ _ _ => F'); (with_reducible rename News _ _ _ _ => N'); (refine sliceB (s := ⟨_, _, _, _, _⟩) F' N' (by assumption) (by constructor) (by constructor) (by kba_size) (by first | exact cut_key | exact cut_long1 | exact cut_long2 | exact cut_short | exact rfl) ?_); intro _ _ _ _ _ _ _))
local macro_rules | `(tactic| walk_at "call builtin:pow") => `(tactic| (k_here; (with_reducible show wpAny _ _ (call (Value.builtin "pow") [Value.int _ _, Value.int _ _, Value.int _ _]) _ _ _); (refine powZz (by first | decide | omega) (by first | decide | omega) (by first | exact rt_eq _ | exact eul_eq _ | exact rfl) ?_); intro _ _ _ _))
local macro_rules | `(tactic| walk_at "binaryOp Mod int int") => `(tactic| (k_here; (with_reducible show wpAny _ _ (binaryOp Operator.Mod (Value.int _ _) (Value.int _ _)) _ _ _); (refine modZ (by first | decide | omega) (by first | exact sq_eq _ | exact rt2_eq _ | exact evsq_eq _ | exact tw2_eq _ | exact tw_eq _ | exact rfl) ?_); intro _ _ _ _))
local macro_rules | `(tactic| walk_at "call builtin:int.to_bytes") => `(tactic| (k_here; (with_reducible show wpAny _ _ (call (Value.builtin "int.to_bytes") [Value.int _ _, Value.int _ _, Value.str _ _]) _ _ _); (with_unfolding_all refine to_big (by omega) (by omega) ?_); intro _ _ _ _ _))
local macro_rules | `(tactic| walk_at "binaryOp Mult int int") => `(tactic| (k_here; (with_reducible show wpAny _ _ (binaryOp Operator.Mult (Value.int _ _) (Value.int _ _)) _ _ _); (refine mulZ (by first | assumption | exact Sz.of256 (by first | decide | omega) (by first | decide | omega)) (by first | assumption | exact Sz.of256 (by first | decide | omega) (by first | decide | omega)) (by decide) ?_); intro _ _ _))
local macro_rules | `(tactic| walk_at "call builtin:len") => `(tactic| (k_here; (with_reducible show wpAny _ _ (call (Value.builtin "len") [Value.bytes _ _]) _ _ _); (refine lenB (by assumption) (by kba_size) (by first | exact len_key | exact len_long | exact rfl) ?_); intro _ _))
local macro_rules | `(tactic| k_all) => `(tactic| assumption)
set_option maxHeartbeats 8000000 in
theorem key_tells (w : World) (loose : List Str) (mean : ExcName → Option Value) (mg mb : Str → Option Value) (f x : Int) (t u : Tok) (hf0 : 0 ≤ f) (hf1 : f < 256) (hx0 : 0 ≤ x) (hx1 : x < 115792089237316195423570985008687907853269984665640564039457584007913129639936) (af : Addr) (haf : af = 69) :
    Claim w loose mean mg mb af [.int f t, .int x u] (okI x = 0 ∨ (f ≠ 2 ∧ f ≠ 3)) (fun x' y' => okI x = 1 ∧ x' = x ∧ ((f = 2 ∧ y' = ev x) ∨ (f = 3 ∧ y' = 115792089237316195423570985008687907853269984665640564039457584007908834671663 - ev x))) := by
  subst haf
  have hx2 : x < 256 ^ 32 := Int.lt_of_lt_of_le hx1 (by decide +kernel)
  have hev := ev_facts x
  have hrt := rt_range x
  have he0 : rt x % 2 = 0 → ev x = rt x := ev_even
  have he1 : ¬ rt x % 2 = 0 → ev x = 115792089237316195423570985008687907853269984665640564039457584007908834671663 - rt x := ev_odd
  have ho0 : 115792089237316195423570985008687907853269984665640564039457584007908834671663 ≤ x → okI x = 0 := okI_far
  have ho1 : rt2 x ≠ sq x → okI x = 0 := okI_no
  have ho2 : x < 115792089237316195423570985008687907853269984665640564039457584007908834671663 → rt2 x = sq x → okI x = 1 := okI_yes
  unfold Claim
  k_fill
  w_top off
  intro dp un gd cn cs a ccd A₀ base h₀ L m news s Q E B F X N T hk XB TB hd hu hret1 hret2
  refine wpAny_call ?_
  k_dflt (refine' code_defS0 ?k1 ?k2 ?k3 ?k4 ?k5 ?kA ?k6 ?k7 ?k8 ?k9 ?kB ?_ ?cK ?c2 ?c3 ?c4 ?c5; (case kA => exact rfl); (case k2 => k_asm); (case k1 => k_asm); (case k3 => k_asm); (case k4 => k_asm); (case k5 => k_asm); (case k6 => k_is); (case k7 => k_is); (case k8 => ktr_room); (case k9 => exact BindsTo.of_eq rfl); (case kB => exact locs rfl); (case cK => assumption); (case c2 => exact rfl); (case c3 => exact rfl); (case c4 => exact rfl); (case c5 => decide); k_whole; intro g' L' h' FG' F' N' B' X' T' D'; (try dsimp only); (try k_lift B'); (try k_fold))
  k_steps
  all_goals (try (exfalso; omega))
  all_goals (first
    | (refine hret1 _ _ ?_ (by k_asm) (news_sub (by assumption) ?_)
       · first | omega | (have hq := any2_yes (by assumption); omega) | (have hq := any2_no (by assumption); omega) | trivial
       · intro p hp
         repeat (first | exact hp | refine List.mem_cons_of_mem _ ?_))
    | (refine' hret2 _ _ _ x _ _ _ ⟨?g1, rfl, ?g2⟩ ?gf (head_news ?gn ?gs) (of_allLt ?gl)
       case gn => assumption
       case gf => k_asm
       case gs =>
         intro p hp
         repeat (first | exact hp | refine List.mem_cons_of_mem _ ?_)
       case gl => first | assumption | exact (by assumption : _ ∧ AllLt _ _).2 | exact (by assumption : _ ∧ _ ∧ AllLt _ _).2.2 | exact (by assumption : _ ∧ _ ∧ _ ∧ AllLt _ _).2.2.2 | exact (by assumption : _ ∧ _ ∧ _ ∧ _ ∧ AllLt _ _).2.2.2.2 | exact (by assumption : _ ∧ _ ∧ _ ∧ _ ∧ _ ∧ AllLt _ _).2.2.2.2.2
       case g1 => first | omega | (have hq := any2_yes (by assumption); omega)
       case g2 => first | omega | (have hq := any2_yes (by assumption); omega)))
set_option maxHeartbeats 8000000 in
theorem long_tells (w : World) (loose : List Str) (mean : ExcName → Option Value) (mg mb : Str → Option Value) (x y : Int) (t u : Tok) (hx0 : 0 ≤ x) (hx1 : x < 115792089237316195423570985008687907853269984665640564039457584007913129639936) (hy0 : 0 ≤ y) (hy1 : y < 115792089237316195423570985008687907853269984665640564039457584007913129639936) (af : Addr) (haf : af = 76) :
    Claim w loose mean mg mb af [.int x t, .int y u] (okI x = 0 ∨ (y ≠ ev x ∧ y ≠ 115792089237316195423570985008687907853269984665640564039457584007908834671663 - ev x)) (fun x' y' => okI x = 1 ∧ x' = x ∧ (y' = y ∧ (y = ev x ∨ y = 115792089237316195423570985008687907853269984665640564039457584007908834671663 - ev x))) := by
  subst haf
  have hx2 : x < 256 ^ 32 := Int.lt_of_lt_of_le hx1 (by decide +kernel)
  have hy2 : y < 256 ^ 32 := Int.lt_of_lt_of_le hy1 (by decide +kernel)
  have hev := ev_facts x
  have hrt := rt_range x
  have he0 : rt x % 2 = 0 → ev x = rt x := ev_even
  have he1 : ¬ rt x % 2 = 0 → ev x = 115792089237316195423570985008687907853269984665640564039457584007908834671663 - rt x := ev_odd
  have ho0 : 115792089237316195423570985008687907853269984665640564039457584007908834671663 ≤ x → okI x = 0 := okI_far
  have ho1 : rt2 x ≠ sq x → okI x = 0 := okI_no
  have ho2 : x < 115792089237316195423570985008687907853269984665640564039457584007908834671663 → rt2 x = sq x → okI x = 1 := okI_yes
  unfold Claim
  k_fill
  w_top off
  intro dp un gd cn cs a ccd A₀ base h₀ L m news s Q E B F X N T hk XB TB hd hu hret1 hret2
  refine wpAny_call ?_
  k_dflt (refine' code_defS0 ?k1 ?k2 ?k3 ?k4 ?k5 ?kA ?k6 ?k7 ?k8 ?k9 ?kB ?_ ?cK ?c2 ?c3 ?c4 ?c5; (case kA => exact rfl); (case k2 => k_asm); (case k1 => k_asm); (case k3 => k_asm); (case k4 => k_asm); (case k5 => k_asm); (case k6 => k_is); (case k7 => k_is); (case k8 => ktr_room); (case k9 => exact BindsTo.of_eq rfl); (case kB => exact locs rfl); (case cK => assumption); (case c2 => exact rfl); (case c3 => exact rfl); (case c4 => exact rfl); (case c5 => decide); k_whole; intro g' L' h' FG' F' N' B' X' T' D'; (try dsimp only); (try k_lift B'); (try k_fold))
  k_steps
  all_goals (try (exfalso; omega))
  all_goals (first
    | (refine hret1 _ _ ?_ (by k_asm) (news_sub (by assumption) ?_)
       · first | omega | (have hq := any2_yes (by assumption); omega) | (have hq := any2_no (by assumption); omega) | trivial
       · intro p hp
         repeat (first | exact hp | refine List.mem_cons_of_mem _ ?_))
    | (refine' hret2 _ _ _ x _ _ _ ⟨?g1, rfl, ?g2⟩ ?gf (head_news ?gn ?gs) (of_allLt ?gl)
       case gn => assumption
       case gf => k_asm
       case gs =>
         intro p hp
         repeat (first | exact hp | refine List.mem_cons_of_mem _ ?_)
       case gl => first | assumption | exact (by assumption : _ ∧ AllLt _ _).2 | exact (by assumption : _ ∧ _ ∧ AllLt _ _).2.2 | exact (by assumption : _ ∧ _ ∧ _ ∧ AllLt _ _).2.2.2 | exact (by assumption : _ ∧ _ ∧ _ ∧ _ ∧ AllLt _ _).2.2.2.2 | exact (by assumption : _ ∧ _ ∧ _ ∧ _ ∧ _ ∧ AllLt _ _).2.2.2.2.2
       case g1 => first | omega | (have hq := any2_yes (by assumption); omega)
       case g2 => first | omega | (have hq := any2_yes (by assumption); omega)))
set_option maxHeartbeats 8000000 in
theorem read_tells (w : World) (loose : List Str) (mean : ExcName → Option Value) (mg mb : Str → Option Value) (b : Array UInt8) (ks : List Int) (t : Tok) (hb : KBw.bInts b = ks) (x : Int) (hks : ks.length ≤ 64) (hk3 : ks.length ≠ 33) (af : Addr) (haf : af = 62) :
    Claim w loose mean mg mb af [.bytes b t] (True) (fun x' y' => False ∧ x' = x ∧ False) := by
  subst haf
  unfold Claim
  k_fill
  w_top off
  intro dp un gd cn cs a ccd A₀ base h₀ L m news s Q E B F X N T hk XB TB hd hu hret1 hret2
  refine wpAny_call ?_
  k_dflt (refine' code_defS0 ?k1 ?k2 ?k3 ?k4 ?k5 ?kA ?k6 ?k7 ?k8 ?k9 ?kB ?_ ?cK ?c2 ?c3 ?c4 ?c5; (case kA => exact rfl); (case k2 => k_asm); (case k1 => k_asm); (case k3 => k_asm); (case k4 => k_asm); (case k5 => k_asm); (case k6 => k_is); (case k7 => k_is); (case k8 => ktr_room); (case k9 => exact BindsTo.of_eq rfl); (case kB => exact locs rfl); (case cK => assumption); (case c2 => exact rfl); (case c3 => exact rfl); (case c4 => exact rfl); (case c5 => decide); k_whole; intro g' L' h' FG' F' N' B' X' T' D'; (try dsimp only); (try k_lift B'); (try k_fold))
  k_steps
  all_goals (try (exfalso; omega))
  all_goals (first
    | (refine hret1 _ _ ?_ (by k_asm) (news_sub (by assumption) ?_)
       · first | omega | (have hq := any2_yes (by assumption); omega) | (have hq := any2_no (by assumption); omega) | trivial
       · intro p hp
         repeat (first | exact hp | refine List.mem_cons_of_mem _ ?_))
    | (refine' hret2 _ _ _ x _ _ _ ⟨?g1, rfl, ?g2⟩ ?gf (head_news ?gn ?gs) (of_allLt ?gl)
       case gn => assumption
       case gf => k_asm
       case gs =>
         intro p hp
         repeat (first | exact hp | refine List.mem_cons_of_mem _ ?_)
       case gl => first | assumption | exact (by assumption : _ ∧ AllLt _ _).2 | exact (by assumption : _ ∧ _ ∧ AllLt _ _).2.2 | exact (by assumption : _ ∧ _ ∧ _ ∧ AllLt _ _).2.2.2 | exact (by assumption : _ ∧ _ ∧ _ ∧ _ ∧ AllLt _ _).2.2.2.2 | exact (by assumption : _ ∧ _ ∧ _ ∧ _ ∧ _ ∧ AllLt _ _).2.2.2.2.2
       case g1 => first | omega | (have hq := any2_yes (by assumption); omega)
       case g2 => first | omega | (have hq := any2_yes (by assumption); omega)))
set_option maxHeartbeats 8000000 in
theorem next_tells (w : World) (loose : List Str) (mean : ExcName → Option Value) (mg mb : Str → Option Value) (limit : Int) (u : Tok) (hl : 0 < limit) (af : Addr) (haf : af = 48) :
    ClaimN w loose mean mg mb af (fun l => [.ref l, .int limit u]) 1 0 limit 1 1000 := by
  subst haf
  unfold ClaimN
  k_fill
  w_top off
  intro dp un gd cn cs a ccd cl outer A₀ base h₀ L m l D ws ns c tc n nn rest s Q E B F X N T hk hd hu hDl hrest hI hlen hc0 hc1 hret
  dsimp only
  replace hDl := ltN hDl
  refine wpAny_call ?_
  first | k_dflt cell_enter | fail "no enter"
  k_steps
  all_goals (refine hret _ _ _ _ _ _ _ ?_ ?_ ?_ ?_ (by k_asm) (by assumption) <;> omega)
local macro_rules | `(tactic| walk_at "call ref") => `(tactic| (k_here; (with_reducible show wpAny _ _ (call (Value.ref 48) [Value.ref _, Value.int _ _]) _ _ _); k_dflt (refine' ClaimN.use (next_tells _ _ _ _ _ _ _ ?hl 48 rfl) ?k1 ?k2 ?k3 ?k4 ?k5 ?kK ?kd ?ku ?hDl ?hr ?hI ?hlen ?c0 ?c1 ?_; (case k1 => k_asm); (case k2 => k_asm); (case k4 => k_asm); (case k3 => k_asm); (case k5 => k_asm); (case kK => first | exact rfl | assumption); (case kd => ktr_room); (case ku => ktr_units); (case hl => first | decide | omega); (case hDl => assumption); (case hr => assumption); (case hI => assumption); (case hlen => assumption); (case c0 => omega); (case c1 => omega); k_whole; intro v9 tv9 h9 tk9 c9 tc9 n9 lo9 hi9 cc9 cd9 F9 N9; (try dsimp only); (try k_fold))))
local macro_rules | `(tactic| walk_at "binaryOp Pow int int") => `(tactic| (k_here; (with_reducible show wpAny _ _ (binaryOp Operator.Pow (Value.int _ _) (Value.int _ _)) _ _ _); (refine powS (by first | assumption | exact Sz.of256 (by first | decide | omega) (by first | decide | omega)) (by decide) (by decide) (by first | exact pow2_256 | exact rfl) ?_); intro _ _ _))
set_option maxHeartbeats 8000000 in
theorem number_tells (w : World) (loose : List Str) (mean : ExcName → Option Value) (mg mb : Str → Option Value) (af : Addr) (haf : af = 55) :
    ClaimN w loose mean mg mb af (fun l => [.ref l]) 2 0 115792089237316195423570985008687907853269984665640564039457584007913129639936 3 900 := by
  subst haf
  unfold ClaimN
  k_fill
  w_top off
  intro dp un gd cn cs a ccd cl outer A₀ base h₀ L m l D ws ns c tc n nn rest s Q E B F X N T hk hd hu hDl hrest hI hlen hc0 hc1 hret
  dsimp only
  replace hDl := ltN hDl
  refine wpAny_call ?_
  first | k_dflt cell_enter | fail "no enter"
  k_steps
  all_goals (refine hret _ _ _ _ _ _ _ ?_ ?_ ?_ ?_ (by k_asm) (by assumption) <;> omega)
theorem key2_tells (w : World) (loose : List Str) (mean : ExcName → Option Value) (mg mb : Str → Option Value) (x : Int) (t u : Tok) (hx0 : 0 ≤ x) (hx1 : x < 115792089237316195423570985008687907853269984665640564039457584007913129639936) : Claim w loose mean mg mb 69 [.int 2 t, .int x u] (okI x = 0) (fun x' y' => okI x = 1 ∧ x = x' ∧ ev x = y') :=
  (key_tells w loose mean mg mb 2 x t u (by decide) (by decide) hx0 hx1 69 rfl).mono (by intro h; omega) (by intro x' y' h; exact ⟨by omega, by omega, by omega⟩)
theorem key3_tells (w : World) (loose : List Str) (mean : ExcName → Option Value) (mg mb : Str → Option Value) (x : Int) (t u : Tok) (hx0 : 0 ≤ x) (hx1 : x < 115792089237316195423570985008687907853269984665640564039457584007913129639936) : Claim w loose mean mg mb 69 [.int 3 t, .int x u] (okI x = 0) (fun x' y' => okI x = 1 ∧ x = x' ∧ 115792089237316195423570985008687907853269984665640564039457584007908834671663 - ev x = y') :=
  (key_tells w loose mean mg mb 3 x t u (by decide) (by decide) hx0 hx1 69 rfl).mono (by intro h; omega) (by intro x' y' h; exact ⟨by omega, by omega, by omega⟩)
theorem keyN_tells (w : World) (loose : List Str) (mean : ExcName → Option Value) (mg mb : Str → Option Value) (f x : Int) (t u : Tok) (hf0 : 4 ≤ f) (hf1 : f < 256) (hx0 : 0 ≤ x) (hx1 : x < 115792089237316195423570985008687907853269984665640564039457584007913129639936) : Claim w loose mean mg mb 69 [.int f t, .int x u] True (fun x' y' => False ∧ x = x' ∧ x = y') :=
  (key_tells w loose mean mg mb f x t u (by omega) hf1 hx0 hx1 69 rfl).mono (fun _ => trivial) (by intro x' y' h; exfalso; omega)
theorem long2_tells (w : World) (loose : List Str) (mean : ExcName → Option Value) (mg mb : Str → Option Value) (x y : Int) (t u : Tok) (hx0 : 0 ≤ x) (hx1 : x < 115792089237316195423570985008687907853269984665640564039457584007913129639936) (hy0 : 0 ≤ y) (hy1 : y < 115792089237316195423570985008687907853269984665640564039457584007913129639936) : Claim w loose mean mg mb 76 [.int x t, .int y u] (okI x = 0 ∨ (y ≠ ev x ∧ y ≠ 115792089237316195423570985008687907853269984665640564039457584007908834671663 - ev x)) (fun x' y' => (okI x = 1 ∧ (y = ev x ∨ y = 115792089237316195423570985008687907853269984665640564039457584007908834671663 - ev x)) ∧ x = x' ∧ y = y') :=
  (long_tells w loose mean mg mb x y t u hx0 hx1 hy0 hy1 76 rfl).mono (fun h => h) (by intro x' y' h; exact ⟨⟨by omega, by omega⟩, by omega, by omega⟩)
theorem read2_tells (w : World) (loose : List Str) (mean : ExcName → Option Value) (mg mb : Str → Option Value) (b : Array UInt8) (ks : List Int) (t : Tok) (hb : KBw.bInts b = ks) (hks : ks.length ≤ 64) (hk3 : ks.length ≠ 33) : Claim w loose mean mg mb 62 [.bytes b t] True (fun x' y' => False ∧ (0 : Int) = x' ∧ (0 : Int) = y') :=
  (read_tells w loose mean mg mb b ks t hb 0 hks hk3 62 rfl).mono (fun h => h) (fun _ _ h => h.1.elim)
local macro_rules | `(tactic| walk_at "call ref") => `(tactic| (k_here; (with_reducible show wpAny _ _ (call (Value.ref 48) [Value.ref _, Value.int _ _]) _ _ _); k_dflt (refine' ClaimN.use (next_tells _ _ _ _ _ _ _ ?hl 48 rfl) ?k1 ?k2 ?k3 ?k4 ?k5 ?kK ?kd ?ku ?hDl ?hr ?hI ?hlen ?c0 ?c1 ?_; (case k1 => k_asm); (case k2 => k_asm); (case k4 => k_asm); (case k3 => k_asm); (case k5 => k_asm); (case kK => first | exact rfl | assumption); (case kd => ktr_room); (case ku => ktr_units); (case hl => first | decide | omega); (case hDl => first | assumption | omega); (case hr => first | assumption | (intro p hp; nomatch hp)); (case hI => assumption); (case hlen => first | assumption | omega); (case c0 => omega); (case c1 => omega); k_whole; intro v9 tv9 h9 tk9 c9 tc9 n9 lo9 hi9 cc9 cd9 F9 N9; (try dsimp only); (try k_fold))))
local macro_rules | `(tactic| walk_at "call ref") => `(tactic| (k_here; (with_reducible show wpAny _ _ (call (Value.ref 55) [Value.ref _]) _ _ _); k_dflt (refine' ClaimN.use (number_tells _ _ _ _ _ 55 rfl) ?k1 ?k2 ?k3 ?k4 ?k5 ?kK ?kd ?ku ?hDl ?hr ?hI ?hlen ?c0 ?c1 ?_; (case k1 => k_asm); (case k2 => k_asm); (case k4 => k_asm); (case k3 => k_asm); (case k5 => k_asm); (case kK => first | exact rfl | assumption); (case kd => ktr_room); (case ku => ktr_units); (case hDl => first | assumption | omega); (case hr => assumption); (case hI => assumption); (case hlen => omega); (case c0 => omega); (case c1 => omega); k_whole; intro v9 tv9 h9 tk9 c9 tc9 n9 lo9 hi9 cc9 cd9 F9 N9; (rcases law_cases lo9 with ⟨w1, w2, w3, w4, w5, w6, w7, w8, wa, wb, wc⟩ | ⟨w1, w2⟩ | ⟨w1, w2, w3, w4⟩); (all_goals (try dsimp only)); (all_goals (try k_fold)))))
local macro_rules | `(tactic| walk_at "call ref") => `(tactic| (k_here; (with_reducible show wpAny _ _ (call (Value.ref 69) [Value.int _ _, Value.int _ _]) _ _ _); k_dflt (refine' Claim.use (keyN_tells _ _ _ _ _ _ _ _ _ ?p1 ?p2 ?p3 ?p4) ?k1 ?k2 ?k3 ?k4 ?k5 ?kK ?kXB ?kTB ?kd ?ku ?_ ?_; (case k1 => k_asm); (case k2 => k_asm); (case k4 => k_asm); (case k3 => k_asm); (case k5 => k_asm); (case kK => first | exact rfl | assumption); (case kd => ktr_room); (case ku => ktr_units); (case kXB => assumption); (case kTB => assumption); (case p1 => omega); (case p2 => omega); (case p3 => omega); (case p4 => omega); k_whole; (all_goals (first | (intro r9 h9 tk9 x9 y9 ta9 tb9 good9 F9 N9 lt9; (dsimp only [tup2] at N9); (obtain ⟨gk9, gx9, gy9⟩ := good9); (subst gx9 gy9); (try k_lt lt9)) | (intro h9 tk9 bad9 F9 N9))); (all_goals ((try dsimp only); (first | (exfalso; omega) | (try k_fold)))))))
local macro_rules | `(tactic| walk_at "call ref") => `(tactic| (k_here; (with_reducible show wpAny _ _ (call (Value.ref 69) [Value.int 3 _, Value.int _ _]) _ _ _); k_dflt (refine' Claim.use (key3_tells _ _ _ _ _ _ _ _ ?p1 ?p2) ?k1 ?k2 ?k3 ?k4 ?k5 ?kK ?kXB ?kTB ?kd ?ku ?_ ?_; (case k1 => k_asm); (case k2 => k_asm); (case k4 => k_asm); (case k3 => k_asm); (case k5 => k_asm); (case kK => first | exact rfl | assumption); (case kd => ktr_room); (case ku => ktr_units); (case kXB => assumption); (case kTB => assumption); (case p1 => omega); (case p2 => omega); k_whole; (all_goals (first | (intro r9 h9 tk9 x9 y9 ta9 tb9 good9 F9 N9 lt9; (dsimp only [tup2] at N9); (obtain ⟨gk9, gx9, gy9⟩ := good9); (subst gx9 gy9); (try k_lt lt9)) | (intro h9 tk9 bad9 F9 N9))); (all_goals ((try dsimp only); (first | (exfalso; omega) | (try k_fold)))))))
local macro_rules | `(tactic| walk_at "call ref") => `(tactic| (k_here; (with_reducible show wpAny _ _ (call (Value.ref 69) [Value.int 2 _, Value.int _ _]) _ _ _); k_dflt (refine' Claim.use (key2_tells _ _ _ _ _ _ _ _ ?p1 ?p2) ?k1 ?k2 ?k3 ?k4 ?k5 ?kK ?kXB ?kTB ?kd ?ku ?_ ?_; (case k1 => k_asm); (case k2 => k_asm); (case k4 => k_asm); (case k3 => k_asm); (case k5 => k_asm); (case kK => first | exact rfl | assumption); (case kd => ktr_room); (case ku => ktr_units); (case kXB => assumption); (case kTB => assumption); (case p1 => omega); (case p2 => omega); k_whole; (all_goals (first | (intro r9 h9 tk9 x9 y9 ta9 tb9 good9 F9 N9 lt9; (dsimp only [tup2] at N9); (obtain ⟨gk9, gx9, gy9⟩ := good9); (subst gx9 gy9); (try k_lt lt9)) | (intro h9 tk9 bad9 F9 N9))); (all_goals ((try dsimp only); (first | (exfalso; omega) | (try k_fold)))))))
local macro_rules | `(tactic| walk_at "call ref") => `(tactic| (k_here; (with_reducible show wpAny _ _ (call (Value.ref 76) [Value.int _ _, Value.int _ _]) _ _ _); k_dflt (refine' Claim.use (long2_tells _ _ _ _ _ _ _ _ _ ?p1 ?p2 ?p3 ?p4) ?k1 ?k2 ?k3 ?k4 ?k5 ?kK ?kXB ?kTB ?kd ?ku ?_ ?_; (case k1 => k_asm); (case k2 => k_asm); (case k4 => k_asm); (case k3 => k_asm); (case k5 => k_asm); (case kK => first | exact rfl | assumption); (case kd => ktr_room); (case ku => ktr_units); (case kXB => assumption); (case kTB => assumption); (case p1 => omega); (case p2 => omega); (case p3 => omega); (case p4 => omega); k_whole; (all_goals (first | (intro r9 h9 tk9 x9 y9 ta9 tb9 good9 F9 N9 lt9; (dsimp only [tup2] at N9); (obtain ⟨gk9, gx9, gy9⟩ := good9); (subst gx9 gy9); (try k_lt lt9)) | (intro h9 tk9 bad9 F9 N9))); (all_goals ((try dsimp only); (first | (exfalso; omega) | (try k_fold)))))))
local macro_rules | `(tactic| walk_at "call ref") => `(tactic| (k_here; (with_reducible show wpAny _ _ (call (Value.ref 62) [Value.bytes _ _]) _ _ _); k_dflt (refine' Claim.use (read2_tells _ _ _ _ _ _ _ _ ?hb ?p1 ?p2) ?k1 ?k2 ?k3 ?k4 ?k5 ?kK ?kXB ?kTB ?kd ?ku ?_ ?_; (case hb => first | assumption | exact litE); (case k1 => k_asm); (case k2 => k_asm); (case k4 => k_asm); (case k3 => k_asm); (case k5 => k_asm); (case kK => first | exact rfl | assumption); (case kd => ktr_room); (case ku => ktr_units); (case kXB => assumption); (case kTB => assumption); (case p1 => first | exact readS.1 | exact readL.1 | exact readE.1); (case p2 => first | exact readS.2 | exact readL.2 | exact readE.2); k_whole; (all_goals (first | (intro r9 h9 tk9 x9 y9 ta9 tb9 good9 F9 N9 lt9; (dsimp only [tup2] at N9); (obtain ⟨gk9, gx9, gy9⟩ := good9); (subst gx9 gy9); (try k_lt lt9)) | (intro h9 tk9 bad9 F9 N9))); (all_goals ((try dsimp only); (first | (exfalso; omega) | (try k_fold)))))))
local macro_rules | `(tactic| walk_at "exec For Name Call cons nil") => `(tactic| (k_here; (rename Fr _ _ _ _ => lF'); (with_unfolding_all refine' For_invVF lF' ?k1 ?k2 ?_; (case k1 => exact rfl); (case k2 => exact rfl); k_whole)))
local macro_rules | `(tactic| walk_at "pyIter ref") => `(tactic| ((with_reducible show wpAny _ _ (pyIter (Value.ref _)) (fun it s₂ => LoopAtV _ _ _ _ _ _ _ _ _ it s₂) _ _); k_here; (rename IsRange _ _ _ _ _ _ _ _ => rgX); (rename Fr _ _ _ _ => lF'); (rename News _ _ _ _ => lN'); (with_unfolding_all refine' law_range (by rfl) rgX ?b0 ?b1 lF' (news_sub lN' ?hs) ?c0 ?c1 ?_ ?_; (case hs => (intro p hp; first | exact hp | exact List.mem_cons_of_mem _ hp)); (case b0 => omega); (case b1 => omega); (case c0 => omega); (case c1 => omega)); (clear rgX lF' lN'); (all_goals (first | (intro c9 tc9 n9 pre9 k9 t9 u9 h9 tk9 own9 i09 i19 i29 off9 F9 N9; (try k_fold)) | (intro c9 tc9 n9 u9 h9 tk9 F9 N9; (try k_fold))))))
local macro_rules | `(tactic| walk_at "InvEndN") => `(tactic| ((rename News _ _ _ _ => nE'); (refine' law_end ?F nE' ?hl ?hD ?ho ?c0 ?c1 ?hr; (case F => assumption); (case hl => k_mem); (case hD => k_mem); (case ho => (intro p hp; repeat (first | exact hp | refine List.mem_cons_of_mem _ ?_))); (case c0 => omega); (case c1 => omega); (case hr => (intro z h1 h3; (have h4 := h3); (have h5 : ¬ (z ∈ storedL) := by simpa using h3); (simp only [storedL, List.contains_cons, List.contains_nil, Bool.or_false, Bool.or_eq_false_iff, beq_eq_false_iff_ne, ne_eq] at h4); simp [h1, h3, h4, h5])))))
local macro_rules | `(tactic| walk_at "pyIter ref") => `(tactic| (k_here; (with_reducible show wpAny _ _ (pyIter (Value.ref _)) (fun it s₂ => TurnsAt _ _ _ _ _ _ _ _ _ it s₂) _ _); (rename Fr _ _ _ _ => lF'); (rename News _ _ _ _ => lN'); (with_unfolding_all refine iter_tupTurns (vs := [_, _]) (by rfl) lF' lN' (by k_mem) (by rfl) (by rfl) ?_); (clear lF' lN'); intro i' l1))
local macro_rules | `(tactic| walk_at "UnrEndW") => `(tactic| ((rename News _ _ _ _ => nE'); (refine' unr_one ?F nE' ?l ?hI ?hs ⟨?hk, ?_⟩; (case F => assumption); (case l => assumption); (case hI => k_mem); (case hs => (intro p hp; repeat (first | exact hp | refine List.mem_cons_of_mem _ ?_))); (case hk => k_subL))))
local macro_rules | `(tactic| walk_at "ite") => `(tactic| (first | (refine' ite_pos ?hc ?_; (case hc => first | (simp only [bne_iff_ne, beq_iff_eq, ne_eq, decide_eq_true_eq, Bool.not_eq_true', Bool.and_eq_true, Bool.or_eq_true, beq_eq_false_iff_ne, not_true_eq_false, not_false_eq_true]; done) | (simp only [bne_iff_ne, beq_iff_eq, ne_eq, decide_eq_true_eq, Bool.not_eq_true', Bool.and_eq_true, Bool.or_eq_true, beq_eq_false_iff_ne, not_true_eq_false, not_false_eq_true]; omega) | omega)) | (refine' ite_neg ?hc ?_; (case hc => first | (simp only [bne_iff_ne, beq_iff_eq, ne_eq, decide_eq_true_eq, Bool.not_eq_true', Bool.and_eq_true, Bool.or_eq_true, beq_eq_false_iff_ne, not_true_eq_false, not_false_eq_true]; done) | (simp only [bne_iff_ne, beq_iff_eq, ne_eq, decide_eq_true_eq, Bool.not_eq_true', Bool.and_eq_true, Bool.or_eq_true, beq_eq_false_iff_ne, not_true_eq_false, not_false_eq_true]; omega) | omega))))
local macro_rules | `(tactic| walk_at "execs nil") => `(tactic| with_reducible refine wpAny_execs_nil ?_)
local macro_rules | `(tactic| walk_at "execs cons") => `(tactic| with_reducible refine wpAny_execs_cons ?_)
set_option maxHeartbeats 16000000 in
theorem law_walk : PySem.Challenge.rw_fc0023_01.Holds := top0 (by
  k_go0
  all_goals try k_fold
  repeat' (first | (k_unfold; (try dsimp only)) | walk1 | (dsimp only; walk1) | (leave1; walk_say "STEP leave1"; try dsimp only) | fail "no step")
  show GoodW _ _ _ _ _ (.ok (.ret (.bool _))) _
  refine' goodW_bool ?gwF ?gwG (raisesW_false ?gwN) ?gwP
  case gwF => assumption
  case gwG => assumption
  case gwN => exact allW_false_nil
  case gwP => wrow_post)
end Mine
theorem PySem.Challenge.cw_fc0023_01_holds : PySem.Challenge.rw_fc0023_01.Holds := by
  exact Mine.law_walk
