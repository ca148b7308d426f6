/-
  MASKS AND POWERS OF TWO.
-/
import Derived.Laws.BitsAllLaws
import Derived.Laws.BitsLemmas
namespace Go.Proofs.Qxb6603362a

/-- l is a power of two up to 2^32. -/
def Pow2 (l : Nat) : Prop := ∃ e, e ≤ 32 ∧ l = 2 ^ e

theorem Pow2.pos {l : Nat} (h : Pow2 l) : 0 < l := by
  obtain ⟨e, _, rfl⟩ := h; exact Nat.two_pow_pos e
theorem Pow2.le {l : Nat} (h : Pow2 l) : l ≤ 4294967296 := by
  obtain ⟨e, he, rfl⟩ := h
  exact Nat.pow_le_pow_right (n := 2) (by decide) he
theorem Pow2.two {l : Nat} (h : Pow2 l) (hl : l ≤ 2147483648) : Pow2 (2 * l) := by
  obtain ⟨e, he, rfl⟩ := h
  refine ⟨e + 1, ?_, by rw [Nat.pow_succ, Nat.mul_comm]⟩
  have : e < 32 := by
    refine Nat.lt_of_not_le fun h => ?_
    have : 2 ^ 32 ≤ 2 ^ e := Nat.pow_le_pow_right (by decide) h
    omega
  omega

/-- '&' with a mask of ones is the remainder, also below zero. -/
theorem and_mask (x : Int) {l : Nat} (h : Pow2 l) : bits .and .i64 x ((l : Int) - 1) = x % (l : Int) := by
  obtain ⟨e, he, rfl⟩ := h
  have hpos : 0 < 2 ^ e := Nat.two_pow_pos e
  have hle : 2 ^ e ≤ 4294967296 := Nat.pow_le_pow_right (n := 2) (by decide) he
  have hc : (((2 ^ e : Nat) : Int) - 1) = ((2 ^ e - 1 : Nat) : Int) := by omega
  have hm : (BitVec.ofInt 64 ((2 ^ e - 1 : Nat) : Int)).toNat = 2 ^ e - 1 := by
    rw [BitVec.ofInt_natCast, BitVec.toNat_ofNat, Nat.mod_eq_of_lt (by omega)]
  have key : (BitVec.ofInt 64 x &&& BitVec.ofInt 64 ((2 ^ e - 1 : Nat) : Int)).toNat = (x % ((2 ^ 64 : Nat) : Int)).toNat % 2 ^ e := by
    rw [BitVec.toNat_and, BitVec.toNat_ofInt, hm, Nat.and_two_pow_sub_one_eq_mod]
  rw [hc]
  show IntKind.i64.wrap ((BitVec.ofInt 64 x &&& BitVec.ofInt 64 ((2 ^ e - 1 : Nat) : Int)).toNat : Nat) = x % ((2 ^ e : Nat) : Int)
  rw [key]
  have hlt : (x % ((2 ^ 64 : Nat) : Int)).toNat % 2 ^ e < 2 ^ e := Nat.mod_lt _ hpos
  have hw : ∀ v : Nat, v < 2 ^ e → IntKind.i64.wrap (v : Int) = v := by
    intro v hv
    rw [IntKind.wrap_i64]; omega
  rw [hw _ hlt]
  have hd : ((2 ^ e : Nat) : Int) ∣ ((2 ^ 64 : Nat) : Int) := by
    refine ⟨((2 ^ (64 - e) : Nat) : Int), ?_⟩
    rw [← Int.natCast_mul, ← Nat.pow_add, show e + (64 - e) = 64 from by omega]
  have h0 : 0 ≤ x % ((2 ^ 64 : Nat) : Int) := Int.emod_nonneg _ (by decide)
  rw [Int.natCast_emod, Int.toNat_of_nonneg h0, Int.emod_emod_of_dvd x hd]

theorem and_mask_u (x : Int) (h0 : 0 ≤ x) (h1 : x < 18446744073709551616) {l : Nat} (h : Pow2 l) : bits .and .u64 x ((l : Int) - 1) = x % (l : Int) := by
  obtain ⟨e, he, rfl⟩ := h
  have hpos : 0 < 2 ^ e := Nat.two_pow_pos e
  have hle : 2 ^ e ≤ 4294967296 := Nat.pow_le_pow_right (n := 2) (by decide) he
  have hc : (((2 ^ e : Nat) : Int) - 1) = ((2 ^ e - 1 : Nat) : Int) := by omega
  obtain ⟨y, rfl⟩ := Int.eq_ofNat_of_zero_le h0
  rw [hc, u64_and_nat y _ (by omega) (by omega), Nat.and_two_pow_sub_one_eq_mod]
  simp

/-- l & (l - 1) is 0 exactly at the powers of two. -/
theorem and_pred (n : Nat) : 0 < n → (n &&& (n - 1) = 0 ↔ ∃ e, n = 2 ^ e) := by
  induction n using Nat.strongRecOn with
  | ind n ih =>
    intro h0
    have hd : (n &&& (n - 1)) / 2 = n / 2 &&& (n - 1) / 2 := Nat.and_div_two
    by_cases h2 : n % 2 = 0
    · have ih' := ih (n / 2) (by omega) (by omega)
      have e1 : (n - 1) / 2 = n / 2 - 1 := by omega
      rw [e1] at hd
      have hm : (n &&& (n - 1)) % 2 = 0 := by
        have := Nat.and_mod_two_pow (a := n) (b := n - 1) (n := 1)
        simp only [Nat.pow_one] at this
        rw [this, h2]; simp
      constructor
      · intro hz
        rw [hz] at hd
        obtain ⟨e, he⟩ := ih'.1 (by omega)
        exact ⟨e + 1, by rw [Nat.pow_succ]; omega⟩
      · rintro ⟨e, he⟩
        cases e with
        | zero => rw [Nat.pow_zero] at he; omega
        | succ e =>
          have := ih'.2 ⟨e, by rw [Nat.pow_succ] at he; omega⟩
          omega
    · by_cases h1 : n = 1
      · subst h1; exact ⟨fun _ => ⟨0, rfl⟩, fun _ => rfl⟩
      · have hx : n / 2 &&& (n - 1) / 2 = n / 2 := by rw [show (n - 1) / 2 = n / 2 from by omega, Nat.and_self]
        constructor
        · intro hz; rw [hz, hx] at hd; omega
        · rintro ⟨e, he⟩
          cases e with
          | zero => rw [Nat.pow_zero] at he; omega
          | succ e => rw [Nat.pow_succ] at he; omega

end Go.Proofs.Qxb6603362a
