/- Prime numbers: Fermat's little theorem, Pocklington's test. No program. -/
import Derived.Test.YthahnloabllniaaGreatDoorM18
import Derived.KernelRfl
section
set_option linter.unusedSimpArgs false
set_option linter.unusedVariables false
namespace Go.Vc

def Prm (p : Nat) : Prop := 2 ≤ p ∧ ∀ m, m ∣ p → m = 1 ∨ m = p

theorem Prm.cop {p a : Nat} (h : Prm p) (ha : ¬ p ∣ a) : Nat.Coprime p a := by
  rcases h.2 (Nat.gcd p a) (Nat.gcd_dvd_left p a) with h1 | h1
  · exact h1
  · exact absurd (h1 ▸ Nat.gcd_dvd_right p a) ha

theorem Prm.dvd {p a b : Nat} (h : Prm p) (hd : p ∣ a * b) : p ∣ a ∨ p ∣ b := by
  rcases Classical.em (p ∣ a) with h1 | h1
  · exact .inl h1
  · exact .inr ((h.cop h1).dvd_of_dvd_mul_left hd)

theorem prm_exists : ∀ (n : Nat), 2 ≤ n → ∃ p, Prm p ∧ p ∣ n := by
  intro n
  induction n using Nat.strongRecOn with
  | _ n ih =>
    intro hn
    rcases Classical.em (Prm n) with h | h
    · exact ⟨n, h, Nat.dvd_refl n⟩
    · have : ∃ m, m ∣ n ∧ m ≠ 1 ∧ m ≠ n := by
        refine Classical.byContradiction fun hne => h ⟨hn, fun m hm => ?_⟩
        refine Classical.byContradiction fun h2 => hne ⟨m, hm, fun e => h2 (.inl e), fun e => h2 (.inr e)⟩
      obtain ⟨m, hm, m1, mn⟩ := this
      have hle := Nat.le_of_dvd (by omega) hm
      have h0 : m ≠ 0 := fun e => by rw [e] at hm; have := Nat.eq_zero_of_zero_dvd hm; omega
      obtain ⟨p, hp, hpm⟩ := ih m (by omega) (by omega)
      exact ⟨p, hp, Nat.dvd_trans hpm hm⟩

/-- No divisor up to the root: prime. -/
theorem prm_of_root {n : Nat} (hn : 2 ≤ n) (h : ∀ p, Prm p → p ∣ n → n < p * p) : Prm n := by
  refine ⟨hn, fun m hm => ?_⟩
  obtain ⟨k, hk⟩ := hm
  rcases Classical.em (m = 1) with h1 | h1
  · exact .inl h1
  rcases Classical.em (k = 1) with h2 | h2
  · right; rw [hk, h2, Nat.mul_one]
  exfalso
  have m0 : m ≠ 0 := fun e => by rw [e] at hk; simp at hk; omega
  have k0 : k ≠ 0 := fun e => by rw [e] at hk; simp at hk; omega
  have key : ∀ x y : Nat, n = x * y → 2 ≤ x → x ≤ y → False := fun x y e hx hxy => by
    obtain ⟨p, hp, hpx⟩ := prm_exists x hx
    have hlt := h p hp (Nat.dvd_trans hpx ⟨y, e⟩)
    have hle := Nat.le_of_dvd (by omega) hpx
    have : p * p ≤ x * y := Nat.mul_le_mul hle (by omega)
    omega
  rcases Nat.le_total m k with h3 | h3
  · exact key m k hk (by omega) h3
  · exact key k m (by rw [Nat.mul_comm]; exact hk) (by omega) h3

/-! Binomials. -/
def ch : Nat → Nat → Nat
  | _, 0 => 1
  | 0, _ + 1 => 0
  | n + 1, k + 1 => ch n k + ch n (k + 1)

theorem ch_zero (n : Nat) : ch n 0 = 1 := by cases n <;> rfl
theorem ch_gt : ∀ (n k : Nat), n < k → ch n k = 0
  | 0, 0, h => by omega
  | 0, k + 1, _ => rfl
  | n + 1, 0, h => by omega
  | n + 1, k + 1, h => by simp only [ch]; rw [ch_gt n k (by omega), ch_gt n (k + 1) (by omega)]

theorem ch_self : ∀ (n : Nat), ch n n = 1
  | 0 => rfl
  | n + 1 => by simp only [ch]; rw [ch_self n, ch_gt n (n + 1) (by omega)]

theorem ch_absorb : ∀ (n k : Nat), (n + 1) * ch n k = ch (n + 1) (k + 1) * (k + 1)
  | 0, 0 => by decide
  | 0, k + 1 => by simp [ch]
  | n + 1, 0 => by
    have := ch_absorb n 0
    simp only [ch, ch_zero] at *
    omega
  | n + 1, k + 1 => by
    have h1 := ch_absorb n k
    have h2 := ch_absorb n (k + 1)
    have e1 : ch (n + 1 + 1) (k + 1 + 1) = ch (n + 1) (k + 1) + ch (n + 1) (k + 1 + 1) := rfl
    have e2 : ch (n + 1) (k + 1) = ch n k + ch n (k + 1) := rfl
    rw [e1]
    grind

/-- The sum of the first m terms of (a + 1) ^ n. -/
def bsum (n a : Nat) : Nat → Nat
  | 0 => 0
  | m + 1 => bsum n a m + ch n m * a ^ m

theorem bsum_succ (n a : Nat) : ∀ m, bsum (n + 1) a (m + 1) = (1 + a) * bsum n a m + ch n m * a ^ m
  | 0 => by simp [bsum, ch_zero]
  | m + 1 => by
    have h := bsum_succ n a m
    rw [show bsum (n + 1) a (m + 1 + 1) = bsum (n + 1) a (m + 1) + ch (n + 1) (m + 1) * a ^ (m + 1) from rfl, h]
    rw [show bsum n a (m + 1) = bsum n a m + ch n m * a ^ m from rfl, show ch (n + 1) (m + 1) = ch n m + ch n (m + 1) from rfl]
    rw [Nat.pow_succ]
    grind

theorem binom (a : Nat) : ∀ n, bsum n a (n + 1) = (1 + a) ^ n
  | 0 => by simp [bsum, ch_zero]
  | n + 1 => by
    rw [bsum_succ, ch_gt n (n + 1) (by omega), binom a n, Nat.zero_mul, Nat.add_zero, Nat.mul_comm]
    rfl

theorem Prm.ch {p : Nat} (h : Prm p) {k : Nat} (h0 : 0 < k) (hk : k < p) : p ∣ Vc.ch p k := by
  obtain ⟨n, rfl⟩ : ∃ n, p = n + 1 := ⟨p - 1, by have := h.1; omega⟩
  obtain ⟨j, rfl⟩ : ∃ j, k = j + 1 := ⟨k - 1, by omega⟩
  have e := ch_absorb n j
  rcases h.dvd ⟨_, e.symm⟩ with h1 | h1
  · exact h1
  · have := Nat.le_of_dvd (by omega) h1; omega

theorem Prm.bsum {p : Nat} (h : Prm p) (a : Nat) : ∀ m, m < p → Vc.bsum p a (m + 1) % p = 1
  | 0, _ => by simp only [Vc.bsum, ch_zero, Nat.pow_zero]; exact Nat.mod_eq_of_lt (by have := h.1; omega)
  | m + 1, hm => by
    have e : Vc.bsum p a (m + 1 + 1) = Vc.bsum p a (m + 1) + Vc.ch p (m + 1) * a ^ (m + 1) := rfl
    rw [e, Nat.add_mod, Prm.bsum h a m (by omega), Nat.mod_eq_zero_of_dvd (Nat.dvd_trans (h.ch (by omega) hm) (Nat.dvd_mul_right _ _)), Nat.add_zero]
    exact Nat.mod_eq_of_lt (by have := h.1; omega)

theorem Prm.succ_pow {p : Nat} (h : Prm p) (a : Nat) : (1 + a) ^ p % p = (1 + a ^ p) % p := by
  rw [← binom a p]
  have hp := h.1
  have h2 := Prm.bsum h a (p - 1) (by omega)
  rw [show p - 1 + 1 = p by omega] at h2
  rw [show Vc.bsum p a (p + 1) = Vc.bsum p a p + Vc.ch p p * a ^ p from rfl, ch_self, Nat.one_mul, Nat.add_mod, h2, Nat.add_mod_mod]

theorem Prm.fermat' {p : Nat} (h : Prm p) : ∀ a, a ^ p % p = a % p
  | 0 => by rw [Nat.zero_pow (by have := h.1; omega)]
  | a + 1 => by rw [Nat.add_comm a 1, h.succ_pow, Nat.add_mod, Prm.fermat' h a, ← Nat.add_mod]

theorem Prm.fermat {p a : Nat} (h : Prm p) (ha : ¬ p ∣ a) : a ^ (p - 1) % p = 1 := by
  have hp := h.1
  have h1 := Prm.fermat' h a
  rw [show p = (p - 1) + 1 by omega, Nat.pow_succ] at h1
  rw [show (p - 1) + 1 = p by omega] at h1
  have h1' := h1.symm
  have hpos : 1 ≤ a ^ (p - 1) := Nat.one_le_pow _ _ (by rcases Nat.eq_zero_or_pos a with e | e; (· subst e; exact absurd (Nat.dvd_zero p) ha); exact e)
  have h2 : p ∣ a ^ (p - 1) * a - a := (Nat.dvd_iff_mod_eq_zero).2 (Nat.sub_mod_eq_zero_of_mod_eq h1)
  have h3 : a ^ (p - 1) * a - a = a * (a ^ (p - 1) - 1) := by rw [Nat.mul_sub, Nat.mul_one, Nat.mul_comm]
  rw [h3] at h2
  rcases h.dvd h2 with h4 | h4
  · exact absurd h4 ha
  · obtain ⟨k, hk⟩ := h4
    have : a ^ (p - 1) = 1 + p * k := by omega
    rw [this, Nat.add_mul_mod_self_left]
    exact Nat.mod_eq_of_lt (by omega)

/-! Pocklington. -/
theorem pow_one_gcd {r a : Nat} (hr : 2 ≤ r) (hc : Nat.Coprime r a) : ∀ (m n : Nat), a ^ m % r = 1 → a ^ n % r = 1 → a ^ Nat.gcd m n % r = 1 := by
  intro m
  induction m using Nat.strongRecOn with
  | _ m ih =>
    intro n hm hn
    rcases Nat.eq_zero_or_pos m with e | e
    · subst e; rw [Nat.gcd_zero_left]; exact hn
    · rw [Nat.gcd_rec]
      refine ih (n % m) (Nat.mod_lt _ e) m ?_ hm
      have h1 : a ^ n = (a ^ m) ^ (n / m) * a ^ (n % m) := by rw [← Nat.pow_mul, ← Nat.pow_add, Nat.div_add_mod]
      rw [h1, Nat.mul_mod, Nat.pow_mod (a ^ m), hm, Nat.one_pow, Nat.mod_eq_of_lt (show 1 < r by omega), Nat.one_mul, Nat.mod_mod] at hn
      exact hn

theorem Prm.coprime_pow {q k : Nat} (h : Prm q) (hk : ¬ q ∣ k) (e : Nat) : Nat.Coprime (q ^ e) k := by
  have := Nat.Coprime.pow e 1 (h.cop hk)
  rwa [Nat.pow_one] at this

theorem pock_step {N r q e m a : Nat} (hr : Prm r) (hq : Prm q) (he : N - 1 = q ^ (e + 1) * m) (h1 : a ^ (N - 1) % r = 1) (h2 : a ^ (q ^ e * m) % r ≠ 1) : q ^ (e + 1) ∣ r - 1 := by
  have hr2 := hr.1
  have hra : ¬ r ∣ a := fun hd => by
    rcases Nat.eq_zero_or_pos (N - 1) with h0 | h0
    · rcases Nat.eq_zero_or_pos m with hm | hm
      · subst hm; rw [Nat.mul_zero, Nat.pow_zero] at h2; rw [h0, Nat.pow_zero] at h1; exact h2 h1
      · have := Nat.mul_pos (Nat.pow_pos (n := e + 1) (show 0 < q by have := hq.1; omega)) hm; omega
    · have h3 : r ∣ a ^ (N - 1) := Nat.dvd_trans hd (by rw [show N - 1 = (N - 1 - 1) + 1 by omega, Nat.pow_succ]; exact Nat.dvd_mul_left _ _)
      rw [Nat.mod_eq_zero_of_dvd h3] at h1; omega
  have hf := hr.fermat hra
  have hg := pow_one_gcd hr2 (hr.cop hra) _ _ h1 hf
  refine Classical.byContradiction fun hn => h2 ?_
  obtain ⟨k, hk⟩ := Nat.gcd_dvd_left (N - 1) (r - 1)
  have hgr := Nat.gcd_dvd_right (N - 1) (r - 1)
  generalize Nat.gcd (N - 1) (r - 1) = g at *
  rcases Classical.em (q ∣ k) with hqk | hqk
  · obtain ⟨j, hj⟩ := hqk
    have hqe : q ^ e * m = g * j := by
      have h3 : q * (q ^ e * m) = q * (g * j) := by
        rw [← Nat.mul_assoc, Nat.mul_comm q (q ^ e), ← Nat.pow_succ, ← he, hk, hj, Nat.mul_left_comm]
      exact Nat.eq_of_mul_eq_mul_left (by have := hq.1; omega) h3
    rw [hqe, Nat.pow_mul, Nat.pow_mod, hg, Nat.one_pow]
    exact Nat.mod_eq_of_lt (by omega)
  · exfalso
    refine hn (Nat.dvd_trans ?_ hgr)
    refine (hq.coprime_pow hqk (e + 1)).dvd_of_dvd_mul_right ?_
    rw [← hk, he]
    exact Nat.dvd_mul_right _ _

/-- Powers modulo N, by squaring. -/
def pmF : Nat → Nat → Nat → Nat → Nat
  | 0, _, _, _ => 0
  | f + 1, a, n, N => match n with
    | 0 => 1 % N
    | n + 1 => match (n + 1) % 2 with
      | 0 => pmF f (a * a % N) ((n + 1) / 2) N
      | _ => a * pmF f (a * a % N) ((n + 1) / 2) N % N

theorem pmF_spec : ∀ (f a n N : Nat), n < 2 ^ f → pmF (f + 1) a n N = a ^ n % N
  | 0, a, n, N, h => by
    have : n = 0 := by simp at h; exact h
    subst this; simp [pmF]
  | f + 1, a, n, N, h => by
    cases n with
    | zero => simp [pmF]
    | succ n =>
      have hlt : (n + 1) / 2 < 2 ^ f := by rw [Nat.pow_succ] at h; omega
      have ih := pmF_spec f (a * a % N) ((n + 1) / 2) N hlt
      have e : a ^ (n + 1) = a ^ ((n + 1) % 2) * (a * a) ^ ((n + 1) / 2) := by
        rw [← Nat.pow_two, ← Nat.pow_mul, ← Nat.pow_add, Nat.mod_add_div]
      rw [← Nat.pow_mod] at ih
      have h2 := Nat.mod_two_eq_zero_or_one (n + 1)
      unfold pmF
      dsimp only
      rcases h2 with h2 | h2
      · rw [h2] at e; rw [h2]; simp only; rw [ih, e]; simp
      · rw [h2] at e; rw [h2]; simp only; rw [ih, e]; simp [Nat.mul_mod]

/-- What is to be checked for one prime of N - 1. -/
def pkOk (f N q e a : Nat) : Bool :=
  Nat.beq ((N - 1) % q ^ (e + 1)) 0 && Nat.beq (pmF (f + 1) a (N - 1) N) 1 && Nat.beq (Nat.gcd (pmF (f + 1) a ((N - 1) / q) N + (N - 1)) N) 1

theorem pk_dvd {f N q e a : Nat} (hN : 2 ≤ N) (hf : N < 2 ^ f) (hq : Prm q) (h : pkOk f N q e a = true) {r : Nat} (hr : Prm r) (hrN : r ∣ N) : q ^ (e + 1) ∣ r - 1 := by
  simp only [pkOk, Bool.and_eq_true] at h
  obtain ⟨⟨h1, h2⟩, h3⟩ := h
  replace h1 := Nat.eq_of_beq_eq_true h1
  replace h2 := Nat.eq_of_beq_eq_true h2
  replace h3 := Nat.eq_of_beq_eq_true h3
  rw [pmF_spec f _ _ _ (by omega)] at h2
  rw [pmF_spec f _ _ _ (Nat.lt_of_le_of_lt (Nat.div_le_self _ _) (by omega))] at h3
  have hd := (Nat.dvd_iff_mod_eq_zero).2 h1
  obtain ⟨m, hm⟩ := hd
  have hq0 : 0 < q := by have := hq.1; omega
  have hdiv : (N - 1) / q = q ^ e * m := by
    rw [hm, Nat.pow_succ, Nat.mul_comm (q ^ e) q, Nat.mul_assoc, Nat.mul_div_cancel_left _ hq0]
  refine pock_step (a := a) hr hq hm ?_ ?_
  · rw [← Nat.mod_mod_of_dvd _ hrN, h2]
    exact Nat.mod_eq_of_lt (by have := hr.1; omega)
  · intro h4
    rw [hdiv] at h3
    have h5 : r ∣ a ^ (q ^ e * m) % N + (N - 1) := by
      refine (Nat.dvd_iff_mod_eq_zero).2 ?_
      rw [Nat.add_mod, Nat.mod_mod_of_dvd _ hrN, h4]
      obtain ⟨k, hk⟩ := hrN
      have hk0 : k ≠ 0 := fun e => by rw [e] at hk; simp at hk; omega
      obtain ⟨j, rfl⟩ := Nat.exists_eq_succ_of_ne_zero hk0
      have hr2 := hr.1
      have e1 : N - 1 = (r - 1) + r * j := by rw [hk, Nat.mul_succ]; omega
      rw [e1, Nat.add_mul_mod_self_left, Nat.mod_eq_of_lt (show r - 1 < r by omega), show 1 + (r - 1) = r by omega, Nat.mod_self]
    have h6 := Nat.dvd_gcd h5 hrN
    rw [h3] at h6
    have := Nat.le_of_dvd (by omega) h6
    have := hr.1
    omega

/-- Pairwise coprime divisors, one by one. -/
theorem cop_mul {x y n : Nat} (h : Nat.gcd x y = 1) (h1 : x ∣ n) (h2 : y ∣ n) : x * y ∣ n := Nat.Coprime.mul_dvd_of_dvd_of_dvd h h1 h2

theorem pock {N F : Nat} (hN : 2 ≤ N) (hF : N < (F + 1) * (F + 1)) (h : ∀ r, Prm r → r ∣ N → F ∣ r - 1) : Prm N := by
  refine prm_of_root hN fun r hr hrN => ?_
  have h1 := Nat.le_of_dvd (by have := hr.1; omega) (h r hr hrN)
  have h2 : (F + 1) * (F + 1) ≤ r * r := Nat.mul_le_mul (by have := hr.1; omega) (by have := hr.1; omega)
  omega

/-- Small primes by trial. -/
def triF : Nat → Nat → Nat → Bool
  | 0, _, _ => true
  | f + 1, d, n => match Nat.beq (n % (d + 2)) 0 with
    | true => false
    | false => triF f (d + 1) n

theorem triF_spec : ∀ (f d n : Nat), triF f d n = true → ∀ k, d ≤ k → k < d + f → ¬ (k + 2) ∣ n
  | 0, d, n, _, k, h1, h2 => by omega
  | f + 1, d, n, h, k, h1, h2 => by
    rw [triF] at h
    cases hb : Nat.beq (n % (d + 2)) 0 with
    | true => rw [hb] at h; cases h
    | false =>
      rw [hb] at h
      rcases Nat.eq_or_lt_of_le h1 with e | e
      · subst e
        intro hd
        rw [Nat.mod_eq_zero_of_dvd hd] at hb
        cases hb
      · exact triF_spec f (d + 1) n h k (by omega) (by omega)

theorem prm_tri {n f : Nat} (hn : 2 ≤ n) (hf : n < (f + 2) * (f + 2)) (h : triF f 0 n = true) : Prm n := by
  refine prm_of_root hn fun p hp hd => ?_
  have hp2 := hp.1
  rcases Nat.lt_or_ge p (f + 2) with hlt | hge
  · have := triF_spec f 0 n h (p - 2) (by omega) (by omega)
    rw [show p - 2 + 2 = p by omega] at this
    exact absurd hd this
  · have : (f + 2) * (f + 2) ≤ p * p := Nat.mul_le_mul hge hge
    omega

end Go.Vc
end

section
/- The three primes of the fields: certificates (printed by cert.py). -/
set_option linter.unusedVariables false
set_option exponentiation.threshold 2000
namespace Go.Vc

theorem prm_11 : Prm 11 := prm_tri (f := 2) (by decide) (by decide) (by kernel_rfl)

theorem prm_23 : Prm 23 := prm_tri (f := 3) (by decide) (by decide) (by kernel_rfl)

theorem prm_107 : Prm 107 := prm_tri (f := 9) (by decide) (by decide) (by kernel_rfl)

theorem prm_204061199 : Prm 204061199 := by

  refine pock (F := 11 ^ (0 + 1) * 23 ^ (0 + 1) * 107 ^ (0 + 1)) (Nat.le_of_ble_eq_true (by kernel_rfl)) (Nat.le_of_ble_eq_true (by kernel_rfl)) fun r hr hd => ?_

  exact (cop_mul (by kernel_rfl) (cop_mul (by kernel_rfl) (pk_dvd (f := 28) (q := 11) (e := 0) (a := 3) (Nat.le_of_ble_eq_true (by kernel_rfl)) (Nat.le_of_ble_eq_true (by kernel_rfl)) prm_11 (by kernel_rfl) hr hd) (pk_dvd (f := 28) (q := 23) (e := 0) (a := 2) (Nat.le_of_ble_eq_true (by kernel_rfl)) (Nat.le_of_ble_eq_true (by kernel_rfl)) prm_23 (by kernel_rfl) hr hd)) (pk_dvd (f := 28) (q := 107) (e := 0) (a := 2) (Nat.le_of_ble_eq_true (by kernel_rfl)) (Nat.le_of_ble_eq_true (by kernel_rfl)) prm_107 (by kernel_rfl) hr hd))

theorem prm_x4 : Prm 34282281433 := by

  refine pock (F := 204061199 ^ (0 + 1)) (Nat.le_of_ble_eq_true (by kernel_rfl)) (Nat.le_of_ble_eq_true (by kernel_rfl)) fun r hr hd => ?_

  exact (pk_dvd (f := 35) (q := 204061199) (e := 0) (a := 2) (Nat.le_of_ble_eq_true (by kernel_rfl)) (Nat.le_of_ble_eq_true (by kernel_rfl)) prm_204061199 (by kernel_rfl) hr hd)

theorem prm_2 : Prm 2 := prm_tri (f := 0) (by decide) (by decide) (by kernel_rfl)

theorem prm_5 : Prm 5 := prm_tri (f := 1) (by decide) (by decide) (by kernel_rfl)

theorem prm_173 : Prm 173 := prm_tri (f := 12) (by decide) (by decide) (by kernel_rfl)

theorem prm_197 : Prm 197 := prm_tri (f := 13) (by decide) (by decide) (by kernel_rfl)

theorem prm_x9 : Prm 66417393611 := by

  refine pock (F := 2 ^ (0 + 1) * 5 ^ (0 + 1) * 173 ^ (0 + 1) * 197 ^ (0 + 1)) (Nat.le_of_ble_eq_true (by kernel_rfl)) (Nat.le_of_ble_eq_true (by kernel_rfl)) fun r hr hd => ?_

  exact (cop_mul (by kernel_rfl) (cop_mul (by kernel_rfl) (cop_mul (by kernel_rfl) (pk_dvd (f := 36) (q := 2) (e := 0) (a := 2) (Nat.le_of_ble_eq_true (by kernel_rfl)) (Nat.le_of_ble_eq_true (by kernel_rfl)) prm_2 (by kernel_rfl) hr hd) (pk_dvd (f := 36) (q := 5) (e := 0) (a := 3) (Nat.le_of_ble_eq_true (by kernel_rfl)) (Nat.le_of_ble_eq_true (by kernel_rfl)) prm_5 (by kernel_rfl) hr hd)) (pk_dvd (f := 36) (q := 173) (e := 0) (a := 2) (Nat.le_of_ble_eq_true (by kernel_rfl)) (Nat.le_of_ble_eq_true (by kernel_rfl)) prm_173 (by kernel_rfl) hr hd)) (pk_dvd (f := 36) (q := 197) (e := 0) (a := 2) (Nat.le_of_ble_eq_true (by kernel_rfl)) (Nat.le_of_ble_eq_true (by kernel_rfl)) prm_197 (by kernel_rfl) hr hd))

theorem prm_x10 : Prm 11290956913871 := by

  refine pock (F := 66417393611 ^ (0 + 1)) (Nat.le_of_ble_eq_true (by kernel_rfl)) (Nat.le_of_ble_eq_true (by kernel_rfl)) fun r hr hd => ?_

  exact (pk_dvd (f := 44) (q := 66417393611) (e := 0) (a := 2) (Nat.le_of_ble_eq_true (by kernel_rfl)) (Nat.le_of_ble_eq_true (by kernel_rfl)) prm_x9 (by kernel_rfl) hr hd)

theorem prm_x11 : Prm 774023187263532362759620327192479577272145303 := by

  refine pock (F := 34282281433 ^ (0 + 1) * 11290956913871 ^ (0 + 1)) (Nat.le_of_ble_eq_true (by kernel_rfl)) (Nat.le_of_ble_eq_true (by kernel_rfl)) fun r hr hd => ?_

  exact (cop_mul (by kernel_rfl) (pk_dvd (f := 150) (q := 34282281433) (e := 0) (a := 2) (Nat.le_of_ble_eq_true (by kernel_rfl)) (Nat.le_of_ble_eq_true (by kernel_rfl)) prm_x4 (by kernel_rfl) hr hd) (pk_dvd (f := 150) (q := 11290956913871) (e := 0) (a := 2) (Nat.le_of_ble_eq_true (by kernel_rfl)) (Nat.le_of_ble_eq_true (by kernel_rfl)) prm_x10 (by kernel_rfl) hr hd))

theorem prm_x12 : Prm 835945042244614951780389953367877943453916927241 := by

  refine pock (F := 774023187263532362759620327192479577272145303 ^ (0 + 1)) (Nat.le_of_ble_eq_true (by kernel_rfl)) (Nat.le_of_ble_eq_true (by kernel_rfl)) fun r hr hd => ?_

  exact (pk_dvd (f := 160) (q := 774023187263532362759620327192479577272145303) (e := 0) (a := 2) (Nat.le_of_ble_eq_true (by kernel_rfl)) (Nat.le_of_ble_eq_true (by kernel_rfl)) prm_x11 (by kernel_rfl) hr hd)

theorem prm_x13 : Prm 115792089210356248762697446949407573530086143415290314195533631308867097853951 := by

  refine pock (F := 835945042244614951780389953367877943453916927241 ^ (0 + 1)) (Nat.le_of_ble_eq_true (by kernel_rfl)) (Nat.le_of_ble_eq_true (by kernel_rfl)) fun r hr hd => ?_

  exact (pk_dvd (f := 256) (q := 835945042244614951780389953367877943453916927241) (e := 0) (a := 2) (Nat.le_of_ble_eq_true (by kernel_rfl)) (Nat.le_of_ble_eq_true (by kernel_rfl)) prm_x12 (by kernel_rfl) hr hd)

theorem prm_8389 : Prm 8389 := prm_tri (f := 90) (by decide) (by decide) (by kernel_rfl)

theorem prm_38557 : Prm 38557 := prm_tri (f := 195) (by decide) (by decide) (by kernel_rfl)

theorem prm_59 : Prm 59 := prm_tri (f := 6) (by decide) (by decide) (by kernel_rfl)

theorem prm_599 : Prm 599 := prm_tri (f := 23) (by decide) (by decide) (by kernel_rfl)

theorem prm_513928823 : Prm 513928823 := by

  refine pock (F := 59 ^ (0 + 1) * 599 ^ (0 + 1)) (Nat.le_of_ble_eq_true (by kernel_rfl)) (Nat.le_of_ble_eq_true (by kernel_rfl)) fun r hr hd => ?_

  exact (cop_mul (by kernel_rfl) (pk_dvd (f := 29) (q := 59) (e := 0) (a := 2) (Nat.le_of_ble_eq_true (by kernel_rfl)) (Nat.le_of_ble_eq_true (by kernel_rfl)) prm_59 (by kernel_rfl) hr hd) (pk_dvd (f := 29) (q := 599) (e := 0) (a := 2) (Nat.le_of_ble_eq_true (by kernel_rfl)) (Nat.le_of_ble_eq_true (by kernel_rfl)) prm_599 (by kernel_rfl) hr hd))

theorem prm_x19 : Prm 53448597593 := by

  refine pock (F := 513928823 ^ (0 + 1)) (Nat.le_of_ble_eq_true (by kernel_rfl)) (Nat.le_of_ble_eq_true (by kernel_rfl)) fun r hr hd => ?_

  exact (pk_dvd (f := 36) (q := 513928823) (e := 0) (a := 2) (Nat.le_of_ble_eq_true (by kernel_rfl)) (Nat.le_of_ble_eq_true (by kernel_rfl)) prm_513928823 (by kernel_rfl) hr hd)

theorem prm_x20 : Prm 1357291859799823621 := by

  refine pock (F := 53448597593 ^ (0 + 1)) (Nat.le_of_ble_eq_true (by kernel_rfl)) (Nat.le_of_ble_eq_true (by kernel_rfl)) fun r hr hd => ?_

  exact (pk_dvd (f := 61) (q := 53448597593) (e := 0) (a := 2) (Nat.le_of_ble_eq_true (by kernel_rfl)) (Nat.le_of_ble_eq_true (by kernel_rfl)) prm_x19 (by kernel_rfl) hr hd)

theorem prm_181 : Prm 181 := prm_tri (f := 12) (by decide) (by decide) (by kernel_rfl)

theorem prm_3 : Prm 3 := prm_tri (f := 0) (by decide) (by decide) (by kernel_rfl)

theorem prm_19 : Prm 19 := prm_tri (f := 3) (by decide) (by decide) (by kernel_rfl)

theorem prm_211 : Prm 211 := prm_tri (f := 13) (by decide) (by decide) (by kernel_rfl)

theorem prm_105957871 : Prm 105957871 := by

  refine pock (F := 3 ^ (0 + 1) * 19 ^ (0 + 1) * 211 ^ (0 + 1)) (Nat.le_of_ble_eq_true (by kernel_rfl)) (Nat.le_of_ble_eq_true (by kernel_rfl)) fun r hr hd => ?_

  exact (cop_mul (by kernel_rfl) (cop_mul (by kernel_rfl) (pk_dvd (f := 27) (q := 3) (e := 0) (a := 2) (Nat.le_of_ble_eq_true (by kernel_rfl)) (Nat.le_of_ble_eq_true (by kernel_rfl)) prm_3 (by kernel_rfl) hr hd) (pk_dvd (f := 27) (q := 19) (e := 0) (a := 2) (Nat.le_of_ble_eq_true (by kernel_rfl)) (Nat.le_of_ble_eq_true (by kernel_rfl)) prm_19 (by kernel_rfl) hr hd)) (pk_dvd (f := 27) (q := 211) (e := 0) (a := 2) (Nat.le_of_ble_eq_true (by kernel_rfl)) (Nat.le_of_ble_eq_true (by kernel_rfl)) prm_211 (by kernel_rfl) hr hd))

theorem prm_x26 : Prm 529709925838459440593 := by

  refine pock (F := 2 ^ (3 + 1) * 181 ^ (0 + 1) * 105957871 ^ (0 + 1)) (Nat.le_of_ble_eq_true (by kernel_rfl)) (Nat.le_of_ble_eq_true (by kernel_rfl)) fun r hr hd => ?_

  exact (cop_mul (by kernel_rfl) (cop_mul (by kernel_rfl) (pk_dvd (f := 69) (q := 2) (e := 3) (a := 3) (Nat.le_of_ble_eq_true (by kernel_rfl)) (Nat.le_of_ble_eq_true (by kernel_rfl)) prm_2 (by kernel_rfl) hr hd) (pk_dvd (f := 69) (q := 181) (e := 0) (a := 2) (Nat.le_of_ble_eq_true (by kernel_rfl)) (Nat.le_of_ble_eq_true (by kernel_rfl)) prm_181 (by kernel_rfl) hr hd)) (pk_dvd (f := 69) (q := 105957871) (e := 0) (a := 2) (Nat.le_of_ble_eq_true (by kernel_rfl)) (Nat.le_of_ble_eq_true (by kernel_rfl)) prm_105957871 (by kernel_rfl) hr hd))

theorem prm_x27 : Prm 19173790298027098165721053155794528970226934547887232785722672956982046098136719667167519737147526097 := by

  refine pock (F := 11 ^ (2 + 1) * 8389 ^ (0 + 1) * 38557 ^ (0 + 1) * 1357291859799823621 ^ (0 + 1) * 529709925838459440593 ^ (0 + 1)) (Nat.le_of_ble_eq_true (by kernel_rfl)) (Nat.le_of_ble_eq_true (by kernel_rfl)) fun r hr hd => ?_

  exact (cop_mul (by kernel_rfl) (cop_mul (by kernel_rfl) (cop_mul (by kernel_rfl) (cop_mul (by kernel_rfl) (pk_dvd (f := 334) (q := 11) (e := 2) (a := 2) (Nat.le_of_ble_eq_true (by kernel_rfl)) (Nat.le_of_ble_eq_true (by kernel_rfl)) prm_11 (by kernel_rfl) hr hd) (pk_dvd (f := 334) (q := 8389) (e := 0) (a := 2) (Nat.le_of_ble_eq_true (by kernel_rfl)) (Nat.le_of_ble_eq_true (by kernel_rfl)) prm_8389 (by kernel_rfl) hr hd)) (pk_dvd (f := 334) (q := 38557) (e := 0) (a := 2) (Nat.le_of_ble_eq_true (by kernel_rfl)) (Nat.le_of_ble_eq_true (by kernel_rfl)) prm_38557 (by kernel_rfl) hr hd)) (pk_dvd (f := 334) (q := 1357291859799823621) (e := 0) (a := 2) (Nat.le_of_ble_eq_true (by kernel_rfl)) (Nat.le_of_ble_eq_true (by kernel_rfl)) prm_x20 (by kernel_rfl) hr hd)) (pk_dvd (f := 334) (q := 529709925838459440593) (e := 0) (a := 2) (Nat.le_of_ble_eq_true (by kernel_rfl)) (Nat.le_of_ble_eq_true (by kernel_rfl)) prm_x26 (by kernel_rfl) hr hd))

theorem prm_x28 : Prm 39402006196394479212279040100143613805079739270465446667948293404245721771496870329047266088258938001861606973112319 := by

  refine pock (F := 19173790298027098165721053155794528970226934547887232785722672956982046098136719667167519737147526097 ^ (0 + 1)) (Nat.le_of_ble_eq_true (by kernel_rfl)) (Nat.le_of_ble_eq_true (by kernel_rfl)) fun r hr hd => ?_

  exact (pk_dvd (f := 384) (q := 19173790298027098165721053155794528970226934547887232785722672956982046098136719667167519737147526097) (e := 0) (a := 2) (Nat.le_of_ble_eq_true (by kernel_rfl)) (Nat.le_of_ble_eq_true (by kernel_rfl)) prm_x27 (by kernel_rfl) hr hd)

theorem prm_17 : Prm 17 := prm_tri (f := 3) (by decide) (by decide) (by kernel_rfl)

theorem prm_31 : Prm 31 := prm_tri (f := 4) (by decide) (by decide) (by kernel_rfl)

theorem prm_41 : Prm 41 := prm_tri (f := 5) (by decide) (by decide) (by kernel_rfl)

theorem prm_53 : Prm 53 := prm_tri (f := 6) (by decide) (by decide) (by kernel_rfl)

theorem prm_131 : Prm 131 := prm_tri (f := 10) (by decide) (by decide) (by kernel_rfl)

theorem prm_157 : Prm 157 := prm_tri (f := 11) (by decide) (by decide) (by kernel_rfl)

theorem prm_521 : Prm 521 := prm_tri (f := 21) (by decide) (by decide) (by kernel_rfl)

theorem prm_1613 : Prm 1613 := prm_tri (f := 39) (by decide) (by decide) (by kernel_rfl)

theorem prm_8191 : Prm 8191 := prm_tri (f := 89) (by decide) (by decide) (by kernel_rfl)

theorem prm_42641 : Prm 42641 := prm_tri (f := 205) (by decide) (by decide) (by kernel_rfl)

theorem prm_51481 : Prm 51481 := prm_tri (f := 225) (by decide) (by decide) (by kernel_rfl)

theorem prm_61681 : Prm 61681 := prm_tri (f := 247) (by decide) (by decide) (by kernel_rfl)

theorem prm_409891 : Prm 409891 := prm_tri (f := 639) (by decide) (by decide) (by kernel_rfl)

theorem prm_858001 : Prm 858001 := prm_tri (f := 925) (by decide) (by decide) (by kernel_rfl)

theorem prm_13 : Prm 13 := prm_tri (f := 2) (by decide) (by decide) (by kernel_rfl)

theorem prm_5746001 : Prm 5746001 := by

  refine pock (F := 2 ^ (3 + 1) * 13 ^ (1 + 1)) (Nat.le_of_ble_eq_true (by kernel_rfl)) (Nat.le_of_ble_eq_true (by kernel_rfl)) fun r hr hd => ?_

  exact (cop_mul (by kernel_rfl) (pk_dvd (f := 23) (q := 2) (e := 3) (a := 3) (Nat.le_of_ble_eq_true (by kernel_rfl)) (Nat.le_of_ble_eq_true (by kernel_rfl)) prm_2 (by kernel_rfl) hr hd) (pk_dvd (f := 23) (q := 13) (e := 1) (a := 3) (Nat.le_of_ble_eq_true (by kernel_rfl)) (Nat.le_of_ble_eq_true (by kernel_rfl)) prm_13 (by kernel_rfl) hr hd))

theorem prm_37 : Prm 37 := prm_tri (f := 5) (by decide) (by decide) (by kernel_rfl)

theorem prm_7623851 : Prm 7623851 := by

  refine pock (F := 5 ^ (1 + 1) * 13 ^ (0 + 1) * 37 ^ (0 + 1)) (Nat.le_of_ble_eq_true (by kernel_rfl)) (Nat.le_of_ble_eq_true (by kernel_rfl)) fun r hr hd => ?_

  exact (cop_mul (by kernel_rfl) (cop_mul (by kernel_rfl) (pk_dvd (f := 23) (q := 5) (e := 1) (a := 3) (Nat.le_of_ble_eq_true (by kernel_rfl)) (Nat.le_of_ble_eq_true (by kernel_rfl)) prm_5 (by kernel_rfl) hr hd) (pk_dvd (f := 23) (q := 13) (e := 0) (a := 2) (Nat.le_of_ble_eq_true (by kernel_rfl)) (Nat.le_of_ble_eq_true (by kernel_rfl)) prm_13 (by kernel_rfl) hr hd)) (pk_dvd (f := 23) (q := 37) (e := 0) (a := 3) (Nat.le_of_ble_eq_true (by kernel_rfl)) (Nat.le_of_ble_eq_true (by kernel_rfl)) prm_37 (by kernel_rfl) hr hd))

theorem prm_34110701 : Prm 34110701 := by

  refine pock (F := 5 ^ (1 + 1) * 13 ^ (0 + 1) * 19 ^ (0 + 1)) (Nat.le_of_ble_eq_true (by kernel_rfl)) (Nat.le_of_ble_eq_true (by kernel_rfl)) fun r hr hd => ?_

  exact (cop_mul (by kernel_rfl) (cop_mul (by kernel_rfl) (pk_dvd (f := 26) (q := 5) (e := 1) (a := 5) (Nat.le_of_ble_eq_true (by kernel_rfl)) (Nat.le_of_ble_eq_true (by kernel_rfl)) prm_5 (by kernel_rfl) hr hd) (pk_dvd (f := 26) (q := 13) (e := 0) (a := 2) (Nat.le_of_ble_eq_true (by kernel_rfl)) (Nat.le_of_ble_eq_true (by kernel_rfl)) prm_13 (by kernel_rfl) hr hd)) (pk_dvd (f := 26) (q := 19) (e := 0) (a := 3) (Nat.le_of_ble_eq_true (by kernel_rfl)) (Nat.le_of_ble_eq_true (by kernel_rfl)) prm_19 (by kernel_rfl) hr hd))

theorem prm_49481 : Prm 49481 := prm_tri (f := 221) (by decide) (by decide) (by kernel_rfl)

theorem prm_308761441 : Prm 308761441 := by

  refine pock (F := 49481 ^ (0 + 1)) (Nat.le_of_ble_eq_true (by kernel_rfl)) (Nat.le_of_ble_eq_true (by kernel_rfl)) fun r hr hd => ?_

  exact (pk_dvd (f := 29) (q := 49481) (e := 0) (a := 3) (Nat.le_of_ble_eq_true (by kernel_rfl)) (Nat.le_of_ble_eq_true (by kernel_rfl)) prm_49481 (by kernel_rfl) hr hd)

theorem prm_x50 : Prm 6864797660130609714981900799081393217269435300143305409394463459185543183397656052122559640661454554977296311391480858037121987999716643812574028291115057151 := by

  refine pock (F := 3 ^ (0 + 1) * 5 ^ (1 + 1) * 11 ^ (0 + 1) * 17 ^ (0 + 1) * 31 ^ (0 + 1) * 41 ^ (0 + 1) * 53 ^ (0 + 1) * 131 ^ (0 + 1) * 157 ^ (0 + 1) * 521 ^ (0 + 1) * 1613 ^ (0 + 1) * 8191 ^ (0 + 1) * 42641 ^ (0 + 1) * 51481 ^ (0 + 1) * 61681 ^ (0 + 1) * 409891 ^ (0 + 1) * 858001 ^ (0 + 1) * 5746001 ^ (0 + 1) * 7623851 ^ (0 + 1) * 34110701 ^ (0 + 1) * 308761441 ^ (0 + 1)) (Nat.le_of_ble_eq_true (by kernel_rfl)) (Nat.le_of_ble_eq_true (by kernel_rfl)) fun r hr hd => ?_

  exact (cop_mul (by kernel_rfl) (cop_mul (by kernel_rfl) (cop_mul (by kernel_rfl) (cop_mul (by kernel_rfl) (cop_mul (by kernel_rfl) (cop_mul (by kernel_rfl) (cop_mul (by kernel_rfl) (cop_mul (by kernel_rfl) (cop_mul (by kernel_rfl) (cop_mul (by kernel_rfl) (cop_mul (by kernel_rfl) (cop_mul (by kernel_rfl) (cop_mul (by kernel_rfl) (cop_mul (by kernel_rfl) (cop_mul (by kernel_rfl) (cop_mul (by kernel_rfl) (cop_mul (by kernel_rfl) (cop_mul (by kernel_rfl) (cop_mul (by kernel_rfl) (cop_mul (by kernel_rfl) (pk_dvd (f := 521) (q := 3) (e := 0) (a := 3) (Nat.le_of_ble_eq_true (by kernel_rfl)) (Nat.le_of_ble_eq_true (by kernel_rfl)) prm_3 (by kernel_rfl) hr hd) (pk_dvd (f := 521) (q := 5) (e := 1) (a := 3) (Nat.le_of_ble_eq_true (by kernel_rfl)) (Nat.le_of_ble_eq_true (by kernel_rfl)) prm_5 (by kernel_rfl) hr hd)) (pk_dvd (f := 521) (q := 11) (e := 0) (a := 3) (Nat.le_of_ble_eq_true (by kernel_rfl)) (Nat.le_of_ble_eq_true (by kernel_rfl)) prm_11 (by kernel_rfl) hr hd)) (pk_dvd (f := 521) (q := 17) (e := 0) (a := 3) (Nat.le_of_ble_eq_true (by kernel_rfl)) (Nat.le_of_ble_eq_true (by kernel_rfl)) prm_17 (by kernel_rfl) hr hd)) (pk_dvd (f := 521) (q := 31) (e := 0) (a := 3) (Nat.le_of_ble_eq_true (by kernel_rfl)) (Nat.le_of_ble_eq_true (by kernel_rfl)) prm_31 (by kernel_rfl) hr hd)) (pk_dvd (f := 521) (q := 41) (e := 0) (a := 3) (Nat.le_of_ble_eq_true (by kernel_rfl)) (Nat.le_of_ble_eq_true (by kernel_rfl)) prm_41 (by kernel_rfl) hr hd)) (pk_dvd (f := 521) (q := 53) (e := 0) (a := 3) (Nat.le_of_ble_eq_true (by kernel_rfl)) (Nat.le_of_ble_eq_true (by kernel_rfl)) prm_53 (by kernel_rfl) hr hd)) (pk_dvd (f := 521) (q := 131) (e := 0) (a := 3) (Nat.le_of_ble_eq_true (by kernel_rfl)) (Nat.le_of_ble_eq_true (by kernel_rfl)) prm_131 (by kernel_rfl) hr hd)) (pk_dvd (f := 521) (q := 157) (e := 0) (a := 3) (Nat.le_of_ble_eq_true (by kernel_rfl)) (Nat.le_of_ble_eq_true (by kernel_rfl)) prm_157 (by kernel_rfl) hr hd)) (pk_dvd (f := 521) (q := 521) (e := 0) (a := 2) (Nat.le_of_ble_eq_true (by kernel_rfl)) (Nat.le_of_ble_eq_true (by kernel_rfl)) prm_521 (by kernel_rfl) hr hd)) (pk_dvd (f := 521) (q := 1613) (e := 0) (a := 3) (Nat.le_of_ble_eq_true (by kernel_rfl)) (Nat.le_of_ble_eq_true (by kernel_rfl)) prm_1613 (by kernel_rfl) hr hd)) (pk_dvd (f := 521) (q := 8191) (e := 0) (a := 3) (Nat.le_of_ble_eq_true (by kernel_rfl)) (Nat.le_of_ble_eq_true (by kernel_rfl)) prm_8191 (by kernel_rfl) hr hd)) (pk_dvd (f := 521) (q := 42641) (e := 0) (a := 3) (Nat.le_of_ble_eq_true (by kernel_rfl)) (Nat.le_of_ble_eq_true (by kernel_rfl)) prm_42641 (by kernel_rfl) hr hd)) (pk_dvd (f := 521) (q := 51481) (e := 0) (a := 3) (Nat.le_of_ble_eq_true (by kernel_rfl)) (Nat.le_of_ble_eq_true (by kernel_rfl)) prm_51481 (by kernel_rfl) hr hd)) (pk_dvd (f := 521) (q := 61681) (e := 0) (a := 3) (Nat.le_of_ble_eq_true (by kernel_rfl)) (Nat.le_of_ble_eq_true (by kernel_rfl)) prm_61681 (by kernel_rfl) hr hd)) (pk_dvd (f := 521) (q := 409891) (e := 0) (a := 3) (Nat.le_of_ble_eq_true (by kernel_rfl)) (Nat.le_of_ble_eq_true (by kernel_rfl)) prm_409891 (by kernel_rfl) hr hd)) (pk_dvd (f := 521) (q := 858001) (e := 0) (a := 3) (Nat.le_of_ble_eq_true (by kernel_rfl)) (Nat.le_of_ble_eq_true (by kernel_rfl)) prm_858001 (by kernel_rfl) hr hd)) (pk_dvd (f := 521) (q := 5746001) (e := 0) (a := 3) (Nat.le_of_ble_eq_true (by kernel_rfl)) (Nat.le_of_ble_eq_true (by kernel_rfl)) prm_5746001 (by kernel_rfl) hr hd)) (pk_dvd (f := 521) (q := 7623851) (e := 0) (a := 3) (Nat.le_of_ble_eq_true (by kernel_rfl)) (Nat.le_of_ble_eq_true (by kernel_rfl)) prm_7623851 (by kernel_rfl) hr hd)) (pk_dvd (f := 521) (q := 34110701) (e := 0) (a := 3) (Nat.le_of_ble_eq_true (by kernel_rfl)) (Nat.le_of_ble_eq_true (by kernel_rfl)) prm_34110701 (by kernel_rfl) hr hd)) (pk_dvd (f := 521) (q := 308761441) (e := 0) (a := 3) (Nat.le_of_ble_eq_true (by kernel_rfl)) (Nat.le_of_ble_eq_true (by kernel_rfl)) prm_308761441 (by kernel_rfl) hr hd))

theorem prm256 : Prm 115792089210356248762697446949407573530086143415290314195533631308867097853951 := prm_x13

theorem prm384 : Prm 39402006196394479212279040100143613805079739270465446667948293404245721771496870329047266088258938001861606973112319 := prm_x28

theorem prm521 : Prm 6864797660130609714981900799081393217269435300143305409394463459185543183397656052122559640661454554977296311391480858037121987999716643812574028291115057151 := prm_x50

end Go.Vc
end
