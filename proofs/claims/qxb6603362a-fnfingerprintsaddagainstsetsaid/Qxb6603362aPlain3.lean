/-
  THE PLAIN LAWS on well-formedness: what the law's own check looks at, and the invariant: no Go in sight.
-/
import Derived.Test.Qxb6603362aPlain2
namespace Go.Proofs.Qxb6603362a

/-- How far behind its place slot j lies. -/
def dist (l : Nat) (x : Int × Int) (j : Nat) : Nat := (((j : Int) - (place l x : Int)) % (l : Int)).toNat

/-- What the check asks of slot j. -/
structure Ok (l : Nat) (F : Nat → Int × Int) (j : Nat) : Prop where
  far : dist l (F j) j < 32
  gap : ∀ t, t < dist l (F j) j → F (win l (F j) t) ≠ (0, 0)
  once : ∀ t, t < 32 → win l (F j) t ≠ j → F (win l (F j) t) ≠ F j

def AllOk (l : Nat) (F : Nat → Int × Int) (m : Nat) : Prop := ∀ j, j < m → F j ≠ (0, 0) → Ok l F j

theorem dist_eq {l : Nat} (x : Int × Int) {j : Nat} (hl : 0 < l) (hj : j < l) : dist l x j = if place l x ≤ j then j - place l x else j + l - place l x := by
  have hp := place_lt x hl
  unfold dist
  generalize place l x = p at hp
  by_cases h : p ≤ j
  · rw [if_pos h, Int.emod_eq_of_lt (by omega) (by omega)]; omega
  · rw [if_neg h]
    have : ((j : Int) - (p : Int)) % (l : Int) = (j : Int) - p + l := by
      rw [← Int.add_emod_right, Int.emod_eq_of_lt (by omega) (by omega)]
    rw [this]; omega

theorem dist_lt {l : Nat} (x : Int × Int) {j : Nat} (hl : 0 < l) (hj : j < l) : dist l x j < l := by
  have hp := place_lt x hl
  rw [dist_eq x hl hj]; split <;> omega

theorem win_dist {l : Nat} (x : Int × Int) {j : Nat} (hl : 0 < l) (hj : j < l) : win l x (dist l x j) = j := by
  have hp := place_lt x hl
  rw [dist_eq x hl hj]
  unfold win
  split
  · rw [Nat.mod_eq_of_lt (by omega)]; omega
  · rw [Nat.mod_eq_sub_mod (by omega), Nat.mod_eq_of_lt (by omega)]; omega

theorem dist_min {l : Nat} (x : Int × Int) {j t : Nat} (hl : 0 < l) (hj : j < l) (h : win l x t = j) : dist l x j ≤ t := by
  have hp := place_lt x hl
  have h1 : win l x (t % l) = j := by rw [← h]; unfold win; rw [Nat.add_mod_mod]
  have h2 : t % l ≤ t := Nat.mod_le _ _
  have h3 : t % l < l := Nat.mod_lt _ hl
  refine Nat.le_trans ?_ h2
  generalize t % l = u at h1 h3
  rw [dist_eq x hl hj]
  unfold win at h1
  by_cases hc : place l x + u < l
  · rw [Nat.mod_eq_of_lt hc] at h1; split <;> omega
  · rw [Nat.mod_eq_sub_mod (by omega), Nat.mod_eq_of_lt (by omega)] at h1; split <;> omega

theorem allOk_iff {l : Nat} {F : Nat → Int × Int} (hl : 0 < l) : AllOk l F l ↔ Inv l F := by
  constructor
  · intro h
    refine ⟨fun j hj hne => ?_, fun i j hi hj hne e => ?_⟩
    · have o := h j hj hne
      exact ⟨dist l (F j) j, o.far, win_dist _ hl hj, o.gap⟩
    · refine Decidable.byContradiction fun hij => ?_
      have oi := h i hi hne
      have oj := h j hj (by rw [← e]; exact hne)
      have hw : win l (F i) (dist l (F j) j) = j := by rw [e]; exact win_dist _ hl hj
      have := oi.once _ oj.far (by rw [hw]; exact fun e => hij e.symm)
      rw [hw] at this
      exact this e.symm
  · intro h j hj hne
    obtain ⟨t, ht, hw, hs⟩ := h.near j hj hne
    have hm := dist_min (F j) hl hj hw
    refine ⟨by omega, fun s hs' => hs s (by omega), fun s _ hne' e => ?_⟩
    exact hne' (h.once _ _ (win_lt _ _ hl) hj (by rw [e]; exact hne) e)

/-- x stands near its place. -/
def Near (l : Nat) (F : Nat → Int × Int) (x : Int × Int) : Prop := ∃ t, t < 32 ∧ F (win l x t) = x

theorem near_held {l : Nat} {F : Nat → Int × Int} {x : Int × Int} (hl : 0 < l) (h : Near l F x) : Held l F x := by
  obtain ⟨t, _, e⟩ := h
  exact ⟨_, win_lt x t hl, e⟩
theorem Inv.near_iff {l : Nat} {F : Nat → Int × Int} (h : Inv l F) (hl : 0 < l) {x : Int × Int} (hx : x ≠ (0, 0)) : Near l F x ↔ Held l F x :=
  ⟨near_held hl, fun hh => by obtain ⟨t, ht, e, _⟩ := h.held_near hx hh; exact ⟨t, ht, e⟩⟩

end Go.Proofs.Qxb6603362a
