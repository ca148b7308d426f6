/-
  THE PLAIN LAWS that FnFingerprintsAddAgainstSet tests: no Go in sight.
-/
import Derived.Test.Qxb6603362aPlain4
namespace Go.Proofs.Qxb6603362a

/-- What holds of an add, whether the table grows or not. -/
structure Both (l : Nat) (F : Nat → Int × Int) (x : Int × Int) (l' : Nat) (F' : Nat → Int × Int) (n' : Nat) (r : Bool) : Prop where
  inv : Inv l' F'
  num : cnt l' F' = n'
  near : Near l' F' x
  held : r = false → Held l F x

theorem both_of {l : Nat} {F : Nat → Int × Int} {n : Nat} {max : Int} {x : Int × Int} {l' : Nat} {F' : Nat → Int × Int} {n' : Nat} {r : Bool} (ha : AddRes l F n max x l' F' n' r) (hl : 0 < l) (hF : Inv l F) (hn : cnt l F = n) (hx : x ≠ (0, 0)) : Both l F x l' F' n' r := by
  rcases ha with ⟨_, rfl, G, m, hG, ha⟩ | ⟨_, rfl, ha⟩
  · obtain ⟨h1, h2⟩ := ha.inv (by omega) hG.inv hG.num hx
    refine ⟨h1, h2, ha.near, fun hr => ?_⟩
    obtain ⟨j, hj, e⟩ := (ha.fresh (by omega) hG.inv hx).1 hr
    obtain ⟨i, hi, e2⟩ := hG.only j hj (by rw [e]; exact hx)
    exact ⟨i, hi, e2.trans e⟩
  · obtain ⟨h1, h2⟩ := ha.inv hl hF hn hx
    exact ⟨h1, h2, ha.near, (ha.fresh hl hF hx).1⟩

theorem grown_of {l : Nat} {F : Nat → Int × Int} {n : Nat} {max : Int} {x : Int × Int} {l' : Nat} {F' : Nat → Int × Int} {n' : Nat} {r : Bool} (ha : AddRes l F n max x l' F' n' r) (hl : 0 < l) (hF : Inv l F) (hg : 3 * (l : Int) ≤ 4 * (n : Int) ∧ (l : Int) < max) :
    l' = 2 * l ∧ ∀ j, j < l' → F' j ≠ (0, 0) → F' j ≠ x → Near l F (F' j) := by
  rcases ha with ⟨_, rfl, G, m, hG, ha⟩ | ⟨h, _⟩
  · refine ⟨rfl, fun j hj h0 hx => ?_⟩
    rcases ha.only hj with e | e
    · exact absurd e hx
    · rw [e] at h0 ⊢
      obtain ⟨i, hi, e2⟩ := hG.only j hj h0
      exact (hF.near_iff hl h0).2 ⟨i, hi, e2⟩
  · exact absurd hg h

/-- What a fresh add without growth does: one slot turns. -/
structure One (l : Nat) (F : Nat → Int × Int) (n : Nat) (x : Int × Int) (F' : Nat → Int × Int) (n' : Nat) (full : Bool) (k : Nat) : Prop where
  lt : k < l
  upd : F' = upd F k x
  ne : F k ≠ x
  how : (full = false ∧ F k = (0, 0) ∧ n' = n + 1) ∨ (full = true ∧ F k ≠ (0, 0) ∧ n' = n ∧ k = win l x (x.2 % 32).toNat)

theorem still_of {l : Nat} {F : Nat → Int × Int} {n : Nat} {max : Int} {x : Int × Int} {l' : Nat} {F' : Nat → Int × Int} {n' : Nat} {r full : Bool} (ha : AddRes l F n max x l' F' n' r) (hl : 0 < l) (hF : Inv l F) (hx : x ≠ (0, 0)) (hg : ¬ (3 * (l : Int) ≤ 4 * (n : Int) ∧ (l : Int) < max))
    (hfull : full = true ↔ ∀ t, t < 32 → F (win l x t) ≠ (0, 0)) :
    l' = l ∧ (r = false ↔ Held l F x) ∧ (r = false → n' = n ∧ F' = F) ∧ (r = true → ∃ k, One l F n x F' n' full k) := by
  rcases ha with ⟨h, _⟩ | ⟨_, rfl, ha⟩
  · exact absurd h hg
  · refine ⟨rfl, ha.fresh hl hF hx, ?_, ?_⟩
    · intro hr
      rcases ha with ⟨t, ht, hp, he, rfl, rfl, _⟩ | ⟨t, ht, hp, he, rfl, rfl, hb⟩ | ⟨hp, rfl, rfl, hb⟩
      · exact ⟨rfl, rfl⟩
      · rw [hb] at hr; cases hr
      · rw [hb] at hr; cases hr
    · intro hr
      rcases ha with ⟨t, ht, hp, he, rfl, rfl, hb⟩ | ⟨t, ht, hp, he, rfl, rfl, hb⟩ | ⟨hp, rfl, rfl, hb⟩
      · rw [hb] at hr; cases hr
      · refine ⟨_, win_lt x t hl, rfl, by rw [he]; exact fun e => hx e.symm, Or.inl ⟨?_, he, rfl⟩⟩
        cases full
        · rfl
        · exact absurd he (hfull.1 rfl t ht)
      · refine ⟨_, win_lt x _ hl, rfl, (hp _ (rem32 _)).1, Or.inr ⟨hfull.2 fun t ht => (hp t ht).2, (hp _ (rem32 _)).2, rfl, rfl⟩⟩

end Go.Proofs.Qxb6603362a
