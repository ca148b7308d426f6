/-
  THE PLAIN LAWS on the table of fingerprints: no Go in sight.
-/
import Derived.Test.Qxb6603362aBits
namespace Go.Proofs.Qxb6603362a

/-- Where a fingerprint belongs in a table of l slots. -/
def place (l : Nat) (x : Int × Int) : Nat := (x.1 % (l : Int)).toNat
/-- The t-th slot from there, round the end. -/
def win (l : Nat) (x : Int × Int) (t : Nat) : Nat := (place l x + t) % l

theorem place_lt {l : Nat} (x : Int × Int) (h : 0 < l) : place l x < l := by
  unfold place
  have := Int.emod_lt_of_pos x.1 (show (0 : Int) < (l : Int) by omega)
  have := Int.emod_nonneg x.1 (show (l : Int) ≠ 0 by omega)
  omega
theorem win_lt {l : Nat} (x : Int × Int) (t : Nat) (h : 0 < l) : win l x t < l := Nat.mod_lt _ h

/-- How many of the first l slots are taken. -/
def cnt (l : Nat) (F : Nat → Int × Int) : Nat := ((List.range l).filter fun j => decide (F j ≠ (0, 0))).length
theorem cnt_zero (F : Nat → Int × Int) : cnt 0 F = 0 := rfl
theorem cnt_succ (l : Nat) (F : Nat → Int × Int) : cnt (l + 1) F = cnt l F + if F l = (0, 0) then 0 else 1 := by
  unfold cnt
  rw [List.range_succ, List.filter_append, List.length_append]
  by_cases h : F l = (0, 0) <;> simp [h]
theorem cnt_le (l : Nat) (F : Nat → Int × Int) : cnt l F ≤ l := by
  have := List.length_filter_le (fun j => decide (F j ≠ (0, 0))) (List.range l)
  unfold cnt
  simpa using this
theorem cnt_mono {a b : Nat} (F : Nat → Int × Int) (h : a ≤ b) : cnt a F ≤ cnt b F := by
  induction b with
  | zero => obtain rfl : a = 0 := by omega
            exact Nat.le_refl _
  | succ b ih =>
    by_cases e : a = b + 1
    · subst e; exact Nat.le_refl _
    · have := ih (by omega); rw [cnt_succ]; omega
theorem cnt_congr {l : Nat} {F G : Nat → Int × Int} (h : ∀ i, i < l → F i = G i) : cnt l F = cnt l G := by
  induction l with
  | zero => rfl
  | succ l ih => rw [cnt_succ, cnt_succ, ih fun i hi => h i (by omega), h l (by omega)]
theorem cnt_none (l : Nat) : cnt l (fun _ => (0, 0)) = 0 := by
  induction l with
  | zero => rfl
  | succ l ih => rw [cnt_succ, ih]; rfl

/-- One entry replaced. -/
def upd (F : Nat → Int × Int) (k : Nat) (x : Int × Int) (i : Nat) : Int × Int := if i = k then x else F i
theorem upd_same (F : Nat → Int × Int) (k : Nat) (x : Int × Int) : upd F k x k = x := if_pos rfl
theorem upd_other (F : Nat → Int × Int) {k i : Nat} (x : Int × Int) (h : i ≠ k) : upd F k x i = F i := if_neg h

theorem cnt_upd_free {l : Nat} {F : Nat → Int × Int} {k : Nat} {x : Int × Int} (hk : k < l) (hF : F k = (0, 0)) (hx : x ≠ (0, 0)) : cnt l (upd F k x) = cnt l F + 1 := by
  induction l with
  | zero => omega
  | succ l ih =>
    rw [cnt_succ, cnt_succ]
    by_cases e : k = l
    · subst e
      rw [upd_same, if_neg hx, if_pos hF, cnt_congr (G := F) fun i hi => upd_other F x (by omega)]
    · rw [ih (by omega), upd_other F x (by omega)]
      omega
theorem cnt_upd_taken {l : Nat} {F : Nat → Int × Int} {k : Nat} {x : Int × Int} (hF : F k ≠ (0, 0)) (hx : x ≠ (0, 0)) : cnt l (upd F k x) = cnt l F := by
  induction l with
  | zero => rfl
  | succ l ih =>
    rw [cnt_succ, cnt_succ, ih]
    by_cases e : l = k
    · subst e; rw [upd_same, if_neg hx, if_neg hF]
    · rw [upd_other F x e]

/-- A list without repeats is no longer than one that holds it. -/
theorem nodup_len {α : Type} [DecidableEq α] : ∀ (l S : List α), l.Nodup → (∀ x, x ∈ l → x ∈ S) → l.length ≤ S.length
  | [], S, _, _ => Nat.zero_le _
  | x :: l, S, hn, hs => by
    have hx : x ∈ S := hs x (by simp)
    obtain ⟨hxl, hn'⟩ := List.nodup_cons.1 hn
    have := nodup_len l (S.erase x) hn' fun y hy => by
      have hne : y ≠ x := fun e => hxl (e ▸ hy)
      exact (List.mem_erase_of_ne hne).2 (hs y (by simp [hy]))
    rw [List.length_erase_of_mem hx] at this
    have hpos : 0 < S.length := List.length_pos_of_mem hx
    simp only [List.length_cons]
    omega

theorem nodup_map_on {α β : Type} (f : α → β) : ∀ (l : List α), l.Nodup → (∀ a, a ∈ l → ∀ b, b ∈ l → f a = f b → a = b) → (l.map f).Nodup
  | [], _, _ => by simp
  | x :: l, hn, h => by
    obtain ⟨hxl, hn'⟩ := List.nodup_cons.1 hn
    rw [List.map_cons, List.nodup_cons]
    refine ⟨fun hm => ?_, nodup_map_on f l hn' fun a ha b hb e => h a (by simp [ha]) b (by simp [hb]) e⟩
    obtain ⟨y, hy, e⟩ := List.mem_map.1 hm
    have := h y (by simp [hy]) x (by simp) e
    exact hxl (this ▸ hy)

/-- Every fingerprint stands fewer than 32 slots behind its place, no free slot between; none stands twice. -/
structure Inv (l : Nat) (F : Nat → Int × Int) : Prop where
  near : ∀ j, j < l → F j ≠ (0, 0) → ∃ t, t < 32 ∧ win l (F j) t = j ∧ ∀ s, s < t → F (win l (F j) s) ≠ (0, 0)
  once : ∀ i j, i < l → j < l → F i ≠ (0, 0) → F i = F j → i = j

theorem inv_empty (l : Nat) : Inv l (fun _ => (0, 0)) := ⟨fun _ _ h => absurd rfl h, fun _ _ _ _ h => absurd rfl h⟩

/-- x stands in some slot. -/
def Held (l : Nat) (F : Nat → Int × Int) (x : Int × Int) : Prop := ∃ j, j < l ∧ F j = x

theorem Inv.held_near {l : Nat} {F : Nat → Int × Int} (h : Inv l F) {x : Int × Int} (hx : x ≠ (0, 0)) (hh : Held l F x) : ∃ t, t < 32 ∧ F (win l x t) = x ∧ ∀ s, s < t → F (win l x s) ≠ (0, 0) := by
  obtain ⟨j, hj, rfl⟩ := hh
  obtain ⟨t, ht, hw, hs⟩ := h.near j hj hx
  exact ⟨t, ht, by rw [hw], hs⟩

/-- As many as the slots that are taken, all of them in S. -/
theorem cnt_le_of {l : Nat} {F : Nat → Int × Int} (h : Inv l F) (S : List (Int × Int)) (hS : ∀ j, j < l → F j ≠ (0, 0) → F j ∈ S) : cnt l F ≤ S.length := by
  have hn : (((List.range l).filter fun j => decide (F j ≠ (0, 0))).map F).Nodup := by
    refine nodup_map_on F _ (List.Pairwise.filter _ List.nodup_range) fun a ha b hb e => ?_
    simp only [List.mem_filter, List.mem_range, decide_eq_true_eq] at ha hb
    exact h.once a b ha.1 hb.1 ha.2 e
  have := nodup_len _ S hn fun y hy => by
    obtain ⟨j, hj, rfl⟩ := List.mem_map.1 hy
    simp only [List.mem_filter, List.mem_range, decide_eq_true_eq] at hj
    exact hS j hj.1 hj.2
  simpa [cnt] using this

/-- A window of 32 slots is 32 slots, in a table that has as many. -/
theorem window_cnt {l : Nat} {F : Nat → Int × Int} {x : Int × Int} (hl : 32 ≤ l) (h : ∀ t, t < 32 → F (win l x t) ≠ (0, 0)) : 32 ≤ cnt l F := by
  have hn : ((List.range 32).map (win l x)).Nodup := by
    refine nodup_map_on (win l x) _ List.nodup_range fun a ha b hb e => ?_
    rw [List.mem_range] at ha hb
    have hp := place_lt x (show 0 < l by omega)
    unfold win at e
    generalize place l x = p at hp e
    by_cases h1 : p + a < l
    · rw [Nat.mod_eq_of_lt h1] at e
      by_cases h2 : p + b < l
      · rw [Nat.mod_eq_of_lt h2] at e; omega
      · rw [Nat.mod_eq_sub_mod (by omega), Nat.mod_eq_of_lt (by omega)] at e; omega
    · rw [Nat.mod_eq_sub_mod (by omega), Nat.mod_eq_of_lt (by omega)] at e
      by_cases h2 : p + b < l
      · rw [Nat.mod_eq_of_lt h2] at e; omega
      · rw [Nat.mod_eq_sub_mod (by omega), Nat.mod_eq_of_lt (by omega)] at e; omega
  have := nodup_len _ ((List.range l).filter fun j => decide (F j ≠ (0, 0))) hn fun y hy => by
    obtain ⟨t, ht, rfl⟩ := List.mem_map.1 hy
    rw [List.mem_range] at ht
    simp only [List.mem_filter, List.mem_range, decide_eq_true_eq]
    exact ⟨win_lt x t (by omega), h t ht⟩
  simpa [cnt] using this

/-- No slot of x's window ahead of the t-th is free or holds x. -/
def Past (l : Nat) (F : Nat → Int × Int) (x : Int × Int) (t : Nat) : Prop := ∀ s, s < t → F (win l x s) ≠ x ∧ F (win l x s) ≠ (0, 0)

/-- What an add (without growth) does: x is there; or it goes into the first free slot; or into the slot that its second half picks. -/
def Added (l : Nat) (F : Nat → Int × Int) (n : Nat) (x : Int × Int) (F' : Nat → Int × Int) (n' : Nat) (b : Bool) : Prop :=
  (∃ t, t < 32 ∧ Past l F x t ∧ F (win l x t) = x ∧ F' = F ∧ n' = n ∧ b = false) ∨
  (∃ t, t < 32 ∧ Past l F x t ∧ F (win l x t) = (0, 0) ∧ F' = upd F (win l x t) x ∧ n' = n + 1 ∧ b = true) ∨
  (Past l F x 32 ∧ F' = upd F (win l x (x.2 % 32).toNat) x ∧ n' = n ∧ b = true)

theorem fresh_free {l : Nat} {F : Nat → Int × Int} (h : Inv l F) {x : Int × Int} (hx : x ≠ (0, 0)) {t : Nat} (hp : Past l F x t) (hz : F (win l x t) = (0, 0)) : ¬ Held l F x := by
  intro hh
  obtain ⟨u, _, hu1, hu2⟩ := h.held_near hx hh
  by_cases h1 : u < t
  · exact (hp u h1).1 hu1
  · by_cases h2 : u = t
    · subst h2; rw [hz] at hu1; exact hx hu1.symm
    · exact hu2 t (by omega) hz
theorem fresh_full {l : Nat} {F : Nat → Int × Int} (h : Inv l F) {x : Int × Int} (hx : x ≠ (0, 0)) (hp : Past l F x 32) : ¬ Held l F x := by
  intro hh
  obtain ⟨u, hu, hu1, _⟩ := h.held_near hx hh
  exact (hp u hu).1 hu1

/-- A fingerprint that is not held, laid into a slot of its window behind taken ones. -/
theorem inv_upd {l : Nat} {F : Nat → Int × Int} (h : Inv l F) {x : Int × Int} (hx : x ≠ (0, 0)) (hnew : ¬ Held l F x) {t : Nat} (ht : t < 32) (hp : ∀ s, s < t → F (win l x s) ≠ (0, 0)) : Inv l (upd F (win l x t) x) := by
  have keep : ∀ i, F i ≠ (0, 0) → upd F (win l x t) x i ≠ (0, 0) := by
    intro i hi
    by_cases e : i = win l x t
    · subst e; rw [upd_same]; exact hx
    · rw [upd_other F x e]; exact hi
  refine ⟨fun j hj hne => ?_, fun i j hi hj hne e => ?_⟩
  · by_cases e : j = win l x t
    · subst e
      rw [upd_same]
      exact ⟨t, ht, rfl, fun s hs => keep _ (hp s hs)⟩
    · rw [upd_other F x e] at hne ⊢
      obtain ⟨u, hu, hw, hs⟩ := h.near j hj hne
      exact ⟨u, hu, hw, fun s hs' => keep _ (hs s hs')⟩
  · by_cases ei : i = win l x t
    · by_cases ej : j = win l x t
      · omega
      · rw [ei, upd_same, upd_other F x ej] at e
        exact absurd ⟨j, hj, e.symm⟩ hnew
    · by_cases ej : j = win l x t
      · rw [upd_other F x ei, ej, upd_same] at e
        exact absurd ⟨i, hi, e⟩ hnew
      · rw [upd_other F x ei] at hne e
        rw [upd_other F x ej] at e
        exact h.once i j hi hj hne e

theorem rem32 (y : Int) : (y % 32).toNat < 32 := by omega

section
variable {l : Nat} {F F' : Nat → Int × Int} {n n' : Nat} {x : Int × Int} {b : Bool}

theorem Added.inv (h : Added l F n x F' n' b) (hl : 0 < l) (hF : Inv l F) (hn : cnt l F = n) (hx : x ≠ (0, 0)) : Inv l F' ∧ cnt l F' = n' := by
  rcases h with ⟨t, ht, hp, he, rfl, rfl, _⟩ | ⟨t, ht, hp, he, rfl, rfl, _⟩ | ⟨hp, rfl, rfl, _⟩
  · exact ⟨hF, hn⟩
  · exact ⟨inv_upd hF hx (fresh_free hF hx hp he) ht fun s hs => (hp s hs).2, by rw [cnt_upd_free (win_lt x t hl) he hx, hn]⟩
  · have h32 := rem32 x.2
    exact ⟨inv_upd hF hx (fresh_full hF hx hp) h32 fun s hs => (hp s (by omega)).2, by rw [cnt_upd_taken (hp _ h32).2 hx, hn]⟩

/-- Behind an add x stands in its window. -/
theorem Added.near (h : Added l F n x F' n' b) : ∃ t, t < 32 ∧ F' (win l x t) = x := by
  rcases h with ⟨t, ht, hp, he, rfl, rfl, _⟩ | ⟨t, ht, hp, he, rfl, rfl, _⟩ | ⟨hp, rfl, rfl, _⟩
  · exact ⟨t, ht, he⟩
  · exact ⟨t, ht, upd_same _ _ _⟩
  · exact ⟨_, rem32 x.2, upd_same _ _ _⟩

/-- 'New' exactly where x was not held. -/
theorem Added.fresh (h : Added l F n x F' n' b) (hl : 0 < l) (hF : Inv l F) (hx : x ≠ (0, 0)) : b = false ↔ Held l F x := by
  rcases h with ⟨t, ht, hp, he, rfl, rfl, rfl⟩ | ⟨t, ht, hp, he, rfl, rfl, rfl⟩ | ⟨hp, rfl, rfl, rfl⟩
  · exact ⟨fun _ => ⟨_, win_lt x t hl, he⟩, fun _ => rfl⟩
  · exact ⟨(fun h => by cases h), fun h => absurd h (fresh_free hF hx hp he)⟩
  · exact ⟨(fun h => by cases h), fun h => absurd h (fresh_full hF hx hp)⟩

/-- Nothing comes in but x. -/
theorem Added.only (h : Added l F n x F' n' b) {j : Nat} (hj : j < l) : F' j = x ∨ F' j = F j := by
  rcases h with ⟨t, ht, hp, he, rfl, rfl, _⟩ | ⟨t, ht, hp, he, rfl, rfl, _⟩ | ⟨hp, rfl, rfl, _⟩
  · exact Or.inr rfl
  · by_cases e : j = win l x t
    · subst e; exact Or.inl (upd_same _ _ _)
    · exact Or.inr (upd_other _ _ e)
  · by_cases e : j = win l x (x.2 % 32).toNat
    · subst e; exact Or.inl (upd_same _ _ _)
    · exact Or.inr (upd_other _ _ e)

/-- With fewer than 32 fingerprints in a table of 32 slots or more nothing is forgotten. -/
theorem Added.keeps (h : Added l F n x F' n' b) (h32 : 32 ≤ l) (hc : cnt l F < 32) {y : Int × Int} (hy0 : y ≠ (0, 0)) (hy : Held l F y) : Held l F' y := by
  rcases h with ⟨t, ht, hp, he, rfl, rfl, _⟩ | ⟨t, ht, hp, he, rfl, rfl, _⟩ | ⟨hp, rfl, rfl, _⟩
  · exact hy
  · obtain ⟨j, hj, rfl⟩ := hy
    refine ⟨j, hj, upd_other _ _ fun e => ?_⟩
    subst e; exact hy0 he
  · have := window_cnt h32 fun t ht => (hp t ht).2
    omega
theorem Added.count (h : Added l F n x F' n' b) : n ≤ n' ∧ n' ≤ n + 1 := by
  rcases h with ⟨t, ht, hp, he, rfl, rfl, _⟩ | ⟨t, ht, hp, he, rfl, rfl, _⟩ | ⟨hp, rfl, rfl, _⟩ <;> omega
end

end Go.Proofs.Qxb6603362a
