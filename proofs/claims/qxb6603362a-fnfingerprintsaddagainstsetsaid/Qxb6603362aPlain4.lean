/-
  THE PLAIN LAW of the script of adds: no Go in sight.
-/
import Derived.Test.Qxb6603362aPlain3
namespace Go.Proofs.Qxb6603362a

/-- Where a script of adds stands: S is what was added, in a table of l slots. -/
structure St (l0 : Nat) (max : Int) (S : List (Int × Int)) (l : Nat) (F : Nat → Int × Int) (n : Nat) : Prop where
  pow : Pow2 l
  big : l0 ≤ l
  inv : Inv l F
  num : cnt l F = n
  sub : ∀ j, j < l → F j ≠ (0, 0) → F j ∈ S
  all : 32 ≤ l0 → S.length ≤ 32 → ∀ y, y ∈ S → Held l F y
  cap : l = l0 ∨ ∃ h : Nat, l = 2 * h ∧ (h : Int) < max
  nz : ∀ y, y ∈ S → y ≠ (0, 0)

theorem St.start {l0 : Nat} {max : Int} (h : Pow2 l0) : St l0 max [] l0 (fun _ => (0, 0)) 0 :=
  ⟨h, Nat.le_refl _, inv_empty _, cnt_none _, fun _ _ h => absurd rfl h, fun _ _ y hy => by simp at hy, Or.inl rfl, fun y hy => by simp at hy⟩

theorem St.few {l0 : Nat} {max : Int} {S : List (Int × Int)} {l : Nat} {F : Nat → Int × Int} {n : Nat} (h : St l0 max S l F n) : n ≤ S.length := by
  rw [← h.num]; exact cnt_le_of h.inv S h.sub

/-- What was added, with x. -/
def addS (S : List (Int × Int)) (x : Int × Int) : List (Int × Int) := if x ∈ S then S else S ++ [x]

theorem mem_addS {S : List (Int × Int)} {x y : Int × Int} : y ∈ addS S x ↔ y ∈ S ∨ y = x := by
  unfold addS
  by_cases h : x ∈ S
  · rw [if_pos h]
    exact ⟨Or.inl, fun h2 => by rcases h2 with h2 | rfl; exact h2; exact h⟩
  · rw [if_neg h, List.mem_append, List.mem_singleton]

theorem le_addS (S : List (Int × Int)) (x : Int × Int) : S.length ≤ (addS S x).length := by
  unfold addS; split
  · exact Nat.le_refl _
  · simp

/-- One add without growth. -/
theorem St.added {l0 : Nat} {max : Int} {S : List (Int × Int)} {l : Nat} {F F' : Nat → Int × Int} {n n' : Nat} {x : Int × Int} {r : Bool} (h : St l0 max S l F n) (hx : x ≠ (0, 0)) (ha : Added l F n x F' n' r) :
    St l0 max (addS S x) l F' n' ∧ (r = false → x ∈ S) ∧ Near l F' x ∧ (32 ≤ l0 → (addS S x).length ≤ 32 → (r = false ↔ x ∈ S)) := by
  have hl := h.pow.pos
  have hfr := ha.fresh hl h.inv hx
  obtain ⟨hi, hc⟩ := ha.inv hl h.inv h.num hx
  have held_sub : Held l F x → x ∈ S := by
    rintro ⟨j, hj, rfl⟩
    exact h.sub j hj hx
  have hless : x ∉ S → (addS S x).length ≤ 32 → cnt l F < 32 := by
    intro hn hlen
    have h1 := h.few
    have h2 := h.num
    unfold addS at hlen
    rw [if_neg hn, List.length_append, List.length_singleton] at hlen
    omega
  refine ⟨⟨h.pow, h.big, hi, hc, fun j hj hne => ?_, fun h32 hlen y hy => ?_, h.cap, fun y hy => ?_⟩, fun hr => held_sub (hfr.1 hr), ?_, fun h32 hlen => ⟨fun hr => held_sub (hfr.1 hr), fun hxS => ?_⟩⟩
  · rcases ha.only hj with e | e
    · exact mem_addS.2 (Or.inr e)
    · rw [e] at hne ⊢
      exact mem_addS.2 (Or.inl (h.sub j hj hne))
  · by_cases hxS : x ∈ S
    · have hlen' := Nat.le_trans (le_addS S x) hlen
      have hh := h.all h32 hlen' x hxS
      have hr := hfr.2 hh
      have hF : F' = F := by
        rcases ha with ⟨_, _, _, _, e, _⟩ | ⟨_, _, _, _, _, _, e⟩ | ⟨_, _, _, e⟩
        · exact e
        · rw [e] at hr; cases hr
        · rw [e] at hr; cases hr
      subst hF
      rcases mem_addS.1 hy with hy | rfl
      · exact h.all h32 hlen' y hy
      · exact hh
    · rcases mem_addS.1 hy with hy | rfl
      · exact ha.keeps (Nat.le_trans h32 h.big) (hless hxS hlen) (h.nz y hy) (h.all h32 (Nat.le_trans (le_addS S x) hlen) y hy)
      · exact near_held hl ha.near
  · rcases mem_addS.1 hy with hy | rfl
    · exact h.nz y hy
    · exact hx
  · exact ha.near
  · exact hfr.2 (h.all h32 (Nat.le_trans (le_addS S x) hlen) x hxS)

/-- The table doubled. -/
theorem St.grown {l0 : Nat} {max : Int} {S : List (Int × Int)} {l : Nat} {F G : Nat → Int × Int} {n m : Nat} (h : St l0 max S l F n) (hm : (l : Int) < max) (hl2 : l ≤ 2147483648) (hg : GrowSt l F l G m) : St l0 max S (2 * l) G m := by
  refine ⟨h.pow.two hl2, by have := h.big; omega, hg.inv, hg.num, fun j hj hne => ?_, fun h32 hlen y hy => ?_, Or.inr ⟨l, rfl, hm⟩, h.nz⟩
  · obtain ⟨i, hi, e⟩ := hg.only j hj hne
    rw [← e] at hne ⊢
    exact h.sub i hi hne
  · obtain ⟨i, hi, rfl⟩ := h.all h32 hlen y hy
    refine hg.all (by have := h.big; omega) ?_ i hi (h.nz _ hy)
    rw [h.num]
    exact Nat.le_trans h.few hlen

/-- One step of a script. -/
theorem St.step {l0 : Nat} {max : Int} {S : List (Int × Int)} {l l' : Nat} {F F' : Nat → Int × Int} {n n' : Nat} {x : Int × Int} {r : Bool} (h : St l0 max S l F n) (hl2 : l ≤ 2147483648) (hx : x ≠ (0, 0)) (ha : AddRes l F n max x l' F' n' r) :
    St l0 max (addS S x) l' F' n' ∧ (r = false → x ∈ S) ∧ Near l' F' x ∧ (32 ≤ l0 → (addS S x).length ≤ 32 → (r = false ↔ x ∈ S)) := by
  rcases ha with ⟨⟨_, hm⟩, rfl, G, m, hg, ha⟩ | ⟨_, rfl, ha⟩
  · exact (h.grown hm hl2 hg).added hx ha
  · exact h.added hx ha

theorem addRes_size {l l' : Nat} {F F' : Nat → Int × Int} {n n' : Nat} {max : Int} {x : Int × Int} {r : Bool} (ha : AddRes l F n max x l' F' n' r) : l' = l ∨ l' = 2 * l ∧ 3 * l ≤ 4 * n := by
  rcases ha with ⟨⟨h, _⟩, rfl, _⟩ | ⟨_, rfl, _⟩
  · exact Or.inr ⟨rfl, by omega⟩
  · exact Or.inl rfl

/-- Every entry behind an add was there, or is x, or is free. -/
theorem addRes_from {l l' : Nat} {F F' : Nat → Int × Int} {n n' : Nat} {max : Int} {x : Int × Int} {r : Bool} (ha : AddRes l F n max x l' F' n' r) {j : Nat} (hj : j < l') : F' j = x ∨ F' j = (0, 0) ∨ ∃ i, i < l ∧ F i = F' j := by
  rcases ha with ⟨_, rfl, G, m, hg, ha⟩ | ⟨_, rfl, ha⟩
  · rcases ha.only hj with e | e
    · exact Or.inl e
    · by_cases hz : F' j = (0, 0)
      · exact Or.inr (Or.inl hz)
      · rw [e] at hz
        obtain ⟨i, hi, e2⟩ := hg.only j hj hz
        exact Or.inr (Or.inr ⟨i, hi, by rw [e]; exact e2⟩)
  · rcases ha.only hj with e | e
    · exact Or.inl e
    · exact Or.inr (Or.inr ⟨j, hj, e.symm⟩)

end Go.Proofs.Qxb6603362a
