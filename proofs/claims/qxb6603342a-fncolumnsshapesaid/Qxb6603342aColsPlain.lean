/-
  THE PLAIN LAWS for FnColumnsShape: no Go in sight.
-/
import Derived.Test.Qxb6603342aPrimes
namespace Go.Proofs.Qxb6603342a

/-- Multiples of s come to 1 modulo a prime. -/
theorem one_of (p s : Nat) (hp : prB p = true) : ∀ (g : Nat), 0 < g → g < p → (∃ k, k * s % p = g) → ∃ k, k * s % p = 1 := by
  intro g
  induction g using Nat.strongRecOn with
  | ind g ih =>
    intro h0 hlt hk
    by_cases h1 : g = 1
    · subst h1; exact hk
    · obtain ⟨k, hk⟩ := hk
      have hr := Nat.div_add_mod p g
      have hrl : p % g < g := Nat.mod_lt _ h0
      by_cases hz : p % g = 0
      · exact absurd hz (((prB_iff p).1 hp).2 g hlt (by omega))
      · refine ih (g - p % g) (by omega) (by omega) (by omega) ⟨(p / g + 1) * k, ?_⟩
        have e1 : (p / g + 1) * k * s % p = (p / g + 1) * g % p := by
          rw [Nat.mul_assoc, ← Nat.mul_mod_mod, hk]
        rw [e1, Nat.add_mul, Nat.one_mul, Nat.mul_comm (p / g) g]
        have e2 : g * (p / g) + g = p + (g - p % g) := by omega
        rw [e2, Nat.add_mod_left, Nat.mod_eq_of_lt (by omega)]

/-- From every place a walk of step s comes to 0 modulo a prime. -/
theorem comes (p s x : Nat) (hp : prB p = true) (h0 : 0 < s) (hs : s < p) (hx : x < p) : ∃ k, (x + k * s) % p = 0 := by
  obtain ⟨k, hk⟩ := one_of p s hp s h0 hs ⟨1, by rw [Nat.one_mul, Nat.mod_eq_of_lt hs]⟩
  refine ⟨(p - x) * k, ?_⟩
  rw [Nat.mul_assoc, Nat.add_mod, Nat.mul_mod, hk, Nat.mul_one, Nat.mod_mod, ← Nat.add_mod]
  rw [show x + (p - x) = p from by omega, Nat.mod_self]

/-- One step of the walk: (x + s) mod p, then k more, is x and k + 1 more. -/
theorem step_more (p s x k : Nat) : ((x + s) % p + k * s) % p = (x + (k + 1) * s) % p := by
  rw [Nat.mod_add_mod]
  congr 1
  rw [Nat.add_mul, Nat.one_mul]
  omega

/-- The LT columns: from a by steps of s modulo w. -/
def lt (a s w : Nat) : Nat → Nat
  | 0 => a
  | k + 1 => (lt a s w k + s) % w

theorem lt_lt (a s w : Nat) (h : a < w) : ∀ k, lt a s w k < w
  | 0 => h
  | k + 1 => Nat.mod_lt _ (by omega)

/-- The step read off the first two columns. -/
theorem lt_step (a s w : Nat) (h : a < w) (h0 : 0 < s) (hs : s < w) :
    (¬ ((lt a s w 1 : Nat) : Int) - (a : Int) < 0 ∧ ((lt a s w 1 : Nat) : Int) - (a : Int) = s) ∨ (((lt a s w 1 : Nat) : Int) - (a : Int) < 0 ∧ ((lt a s w 1 : Nat) : Int) - (a : Int) + w = s) := by
  show (¬ (((a + s) % w : Nat) : Int) - (a : Int) < 0 ∧ (((a + s) % w : Nat) : Int) - (a : Int) = s) ∨ ((((a + s) % w : Nat) : Int) - (a : Int) < 0 ∧ (((a + s) % w : Nat) : Int) - (a : Int) + w = s)
  by_cases hc : a + s < w
  · rw [Nat.mod_eq_of_lt hc]; omega
  · rw [Nat.mod_eq_sub_mod (by omega), Nat.mod_eq_of_lt (by omega)]; omega

end Go.Proofs.Qxb6603342a
