/-
  THE PLAIN LAWS ON PRIMES: no Go in sight.
-/
namespace Go.Proofs.Qxb6603342a

/-- n is prime: at least 2, and no number from 2 up to n - 1 divides it. -/
def prB (n : Nat) : Bool := decide (2 ≤ n ∧ ∀ d, d < n → 2 ≤ d → n % d ≠ 0)

theorem prB_iff (n : Nat) : prB n = true ↔ 2 ≤ n ∧ ∀ d, d < n → 2 ≤ d → n % d ≠ 0 := by
  unfold prB; exact decide_eq_true_iff

theorem prB_small (n : Nat) (h : n < 2) : prB n = false := by
  cases hp : prB n with
  | false => rfl
  | true => have := ((prB_iff n).1 hp).1; omega

theorem prB_div (n d : Nat) (h2 : 2 ≤ d) (hd : d * d ≤ n) (hm : n % d = 0) : prB n = false := by
  cases hp : prB n with
  | false => rfl
  | true =>
    obtain ⟨_, hall⟩ := (prB_iff n).1 hp
    have h1 : 2 * d ≤ d * d := Nat.mul_le_mul_right d h2
    exact absurd hm (hall d (by omega) h2)

/-- No divisor up to the root: prime. -/
theorem prB_root (n k : Nat) (h2 : 2 ≤ n) (hk : n < k * k) (hall : ∀ d, d < k → 2 ≤ d → n % d ≠ 0) : prB n = true := by
  rw [prB_iff]
  refine ⟨h2, fun d hd hd2 hm => ?_⟩
  by_cases hdk : d < k
  · exact hall d hdk hd2 hm
  · have hq : n = d * (n / d) := by
      have := Nat.div_add_mod n d; omega
    have hq1 : n / d < k := by
      refine Nat.lt_of_not_le fun hle => ?_
      have : k * k ≤ d * (n / d) := Nat.mul_le_mul (by omega) hle
      omega
    have hq2 : 2 ≤ n / d := by
      refine Nat.le_of_not_lt fun hlt => ?_
      generalize n / d = q at hq hlt
      match q, hlt with
      | 0, _ => omega
      | 1, _ => omega
    refine hall (n / d) hq1 hq2 ?_
    have hqq : n = (n / d) * d := by rw [Nat.mul_comm]; exact hq
    exact Nat.mod_eq_zero_of_dvd ⟨d, hqq⟩

/-- How many of 1 .. k divide n. -/
def cnt (n : Nat) : Nat → Nat
  | 0 => 0
  | k + 1 => cnt n k + if n % (k + 1) = 0 then 1 else 0

theorem cnt_le (n : Nat) : ∀ k, cnt n k ≤ k
  | 0 => Nat.le_refl _
  | k + 1 => by have := cnt_le n k; unfold cnt; split <;> omega

theorem cnt_one (n : Nat) : cnt n 1 = 1 := by simp [cnt, Nat.mod_one]

theorem cnt_pos (n : Nat) : ∀ k, 1 ≤ k → 1 ≤ cnt n k
  | 0, h => by omega
  | 1, _ => by rw [cnt_one]; exact Nat.le_refl _
  | k + 2, _ => by have := cnt_pos n (k + 1) (by omega); rw [cnt]; omega

theorem cnt_eq_one (n : Nat) : ∀ k, 1 ≤ k → (cnt n k = 1 ↔ ∀ d, d ≤ k → 2 ≤ d → n % d ≠ 0)
  | 0, h => by omega
  | 1, _ => by rw [cnt_one]; exact ⟨fun _ d h1 h2 => by omega, fun _ => rfl⟩
  | k + 2, _ => by
    have ih := cnt_eq_one n (k + 1) (by omega)
    have hp := cnt_pos n (k + 1) (by omega)
    rw [cnt]
    constructor
    · intro h d hd hd2
      by_cases hm : n % (k + 1 + 1) = 0
      · rw [if_pos hm] at h; omega
      · rw [if_neg hm] at h
        by_cases e : d = k + 2
        · subst e; exact hm
        · exact ih.1 (by omega) d (by omega) hd2
    · intro h
      rw [if_neg (h (k + 2) (Nat.le_refl _) (by omega)), ih.2 fun d hd hd2 => h d (by omega) hd2]

/-- Prime exactly when the divisors are two. -/
theorem prB_cnt (n : Nat) : prB n = decide (cnt n n = 2) := by
  match n with
  | 0 => rw [prB_small 0 (by omega)]; rfl
  | 1 => rw [prB_small 1 (by omega), cnt_one]; rfl
  | k + 2 =>
    have hc : cnt (k + 2) (k + 2) = cnt (k + 2) (k + 1) + 1 := by
      show cnt (k + 2) (k + 1) + (if (k + 2) % (k + 1 + 1) = 0 then 1 else 0) = _
      rw [if_pos (Nat.mod_self _)]
    have h1 := cnt_eq_one (k + 2) (k + 1) (by omega)
    rw [Bool.eq_iff_iff, prB_iff, decide_eq_true_iff, hc]
    constructor
    · rintro ⟨_, hall⟩
      have := h1.2 fun d hd hd2 => hall d (by omega) hd2
      omega
    · intro h
      exact ⟨by omega, fun d hd hd2 => h1.1 (by omega) d (by omega) hd2⟩

/-! ### Bertrand up to 65536 -/
theorem prB_by (n k : Nat) (h : (decide (2 ≤ n) && decide (n < k * k) && (List.range k).all fun d => decide (d < 2) || decide (n % d ≠ 0)) = true) : prB n = true := by
  simp only [Bool.and_eq_true, decide_eq_true_eq, List.all_eq_true, List.mem_range, Bool.or_eq_true] at h
  obtain ⟨⟨h2, hk⟩, hall⟩ := h
  exact prB_root n k h2 hk fun d hd hd2 => by
    rcases hall d hd with h | h
    · omega
    · exact h

/-- Some prime lies behind n and not behind 2n. -/
def Bert (n : Nat) : Prop := ∃ p, n < p ∧ p ≤ 2 * n ∧ prB p = true

theorem bert_of {n : Nat} (p k : Nat) (hp : (decide (2 ≤ p) && decide (p < k * k) && (List.range k).all fun d => decide (d < 2) || decide (p % d ≠ 0)) = true) (h1 : n < p) (h2 : p ≤ 2 * n) : Bert n :=
  ⟨p, h1, h2, prB_by p k hp⟩

theorem bertrand (n : Nat) (h1 : 1 ≤ n) (h2 : n ≤ 65536) : Bert n := by
  by_cases a1 : n < 2
  · exact bert_of 2 2 (by decide +kernel) a1 (by omega)
  by_cases a2 : n < 3
  · exact bert_of 3 2 (by decide +kernel) a2 (by omega)
  by_cases a3 : n < 5
  · exact bert_of 5 3 (by decide +kernel) a3 (by omega)
  by_cases a4 : n < 7
  · exact bert_of 7 3 (by decide +kernel) a4 (by omega)
  by_cases a5 : n < 13
  · exact bert_of 13 4 (by decide +kernel) a5 (by omega)
  by_cases a6 : n < 23
  · exact bert_of 23 5 (by decide +kernel) a6 (by omega)
  by_cases a7 : n < 43
  · exact bert_of 43 7 (by decide +kernel) a7 (by omega)
  by_cases a8 : n < 83
  · exact bert_of 83 10 (by decide +kernel) a8 (by omega)
  by_cases a9 : n < 163
  · exact bert_of 163 13 (by decide +kernel) a9 (by omega)
  by_cases a10 : n < 317
  · exact bert_of 317 18 (by decide +kernel) a10 (by omega)
  by_cases a11 : n < 631
  · exact bert_of 631 26 (by decide +kernel) a11 (by omega)
  by_cases a12 : n < 1259
  · exact bert_of 1259 36 (by decide +kernel) a12 (by omega)
  by_cases a13 : n < 2503
  · exact bert_of 2503 51 (by decide +kernel) a13 (by omega)
  by_cases a14 : n < 5003
  · exact bert_of 5003 71 (by decide +kernel) a14 (by omega)
  by_cases a15 : n < 9973
  · exact bert_of 9973 100 (by decide +kernel) a15 (by omega)
  by_cases a16 : n < 19937
  · exact bert_of 19937 142 (by decide +kernel) a16 (by omega)
  by_cases a17 : n < 39869
  · exact bert_of 39869 200 (by decide +kernel) a17 (by omega)
  exact bert_of 79699 283 (by decide +kernel) (by omega) (by omega)

end Go.Proofs.Qxb6603342a
