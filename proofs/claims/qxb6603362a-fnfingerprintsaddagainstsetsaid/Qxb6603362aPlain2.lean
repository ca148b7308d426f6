/-
  THE PLAIN LAWS on growth: no Go in sight.
-/
import Derived.Test.Qxb6603362aPlain
namespace Go.Proofs.Qxb6603362a

/-- Behind k of the old slots: what stands in the new table of 2 l slots. -/
structure GrowSt (l : Nat) (F : Nat → Int × Int) (k : Nat) (G : Nat → Int × Int) (m : Nat) : Prop where
  inv : Inv (2 * l) G
  num : cnt (2 * l) G = m
  few : m ≤ cnt k F
  only : ∀ j, j < 2 * l → G j ≠ (0, 0) → ∃ i, i < k ∧ F i = G j
  all : 32 ≤ 2 * l → cnt l F ≤ 32 → ∀ i, i < k → F i ≠ (0, 0) → Held (2 * l) G (F i)

theorem GrowSt.start (l : Nat) (F : Nat → Int × Int) : GrowSt l F 0 (fun _ => (0, 0)) 0 :=
  ⟨inv_empty _, cnt_none _, Nat.zero_le _, fun _ _ h => absurd rfl h, fun _ _ i hi => by omega⟩

theorem GrowSt.skip {l k : Nat} {F G : Nat → Int × Int} {m : Nat} (h : GrowSt l F k G m) (hz : F k = (0, 0)) : GrowSt l F (k + 1) G m := by
  refine ⟨h.inv, h.num, by rw [cnt_succ, if_pos hz]; exact h.few, fun j hj hne => ?_, fun h1 h2 i hi hne => ?_⟩
  · obtain ⟨i, hi, e⟩ := h.only j hj hne
    exact ⟨i, by omega, e⟩
  · by_cases e : i = k
    · subst e; exact absurd hz hne
    · exact h.all h1 h2 i (by omega) hne

theorem GrowSt.step {l k : Nat} {F G G' : Nat → Int × Int} {m m' : Nat} {r : Bool} (h : GrowSt l F k G m) (hk : k < l) (hne : F k ≠ (0, 0)) (ha : Added (2 * l) G m (F k) G' m' r) : GrowSt l F (k + 1) G' m' := by
  obtain ⟨hi, hc⟩ := ha.inv (by omega) h.inv h.num hne
  refine ⟨hi, hc, ?_, fun j hj hnj => ?_, fun h1 h2 i hik hni => ?_⟩
  · have := ha.count
    rw [cnt_succ, if_neg hne]
    have := h.few
    omega
  · rcases ha.only hj with e | e
    · exact ⟨k, by omega, e.symm⟩
    · rw [e] at hnj
      obtain ⟨i, hi, e2⟩ := h.only j hj hnj
      exact ⟨i, by omega, by rw [e]; exact e2⟩
  · by_cases e : i = k
    · subst e
      obtain ⟨t, _, ht⟩ := ha.near
      exact ⟨_, win_lt _ t (by omega), ht⟩
    · refine ha.keeps h1 ?_ hni (h.all h1 h2 i (by omega) hni)
      have h3 := h.few
      have h4 : cnt (k + 1) F ≤ cnt l F := cnt_mono F hk
      rw [cnt_succ, if_neg hne] at h4
      rw [h.num]
      omega

/-- An add, growth and all: the new table has l' slots. -/
def AddRes (l : Nat) (F : Nat → Int × Int) (n : Nat) (max : Int) (x : Int × Int) (l' : Nat) (F' : Nat → Int × Int) (n' : Nat) (r : Bool) : Prop :=
  ((3 * (l : Int) ≤ 4 * (n : Int) ∧ (l : Int) < max) ∧ l' = 2 * l ∧ ∃ G m, GrowSt l F l G m ∧ Added (2 * l) G m x F' n' r) ∨
  (¬ (3 * (l : Int) ≤ 4 * (n : Int) ∧ (l : Int) < max) ∧ l' = l ∧ Added l F n x F' n' r)

end Go.Proofs.Qxb6603362a
