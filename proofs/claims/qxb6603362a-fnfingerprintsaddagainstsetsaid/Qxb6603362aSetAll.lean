/-
  THE WALK of the law FnFingerprintsAddAgainstSet: what is turned away, and the whole.
-/
import Derived.Test.Qxb6603362aSet
namespace Go.Proofs.Qxb6603362a
open Go.RowKit
attribute [local go_sem] eqFP

set_option maxRecDepth 20000 in
set_option maxHeartbeats 1000000 in
theorem set_big (n max : Int) (y : Int × Int) (a : Option Addr) (l c : Nat) (w : World) (h : 1048576 < l) :
    Calls Try.prog 6 #[.slice a l c, .int .i64 n, .int .i64 max, .agg #[.int .u64 y.1, .int .u64 y.2]] w fun e w' => e = .returned (.bool true) ∧ Below w.heap.size w w' := by
  go_enter Try.func6, Try.ntmps6
  go_wp2_with fail
  refine (bytes9_no _ _ _ _ _ _ _ (by omega)).mono ?_
  rintro e w1 ⟨rfl, hw1⟩
  subst hw1
  go_wp2_with fail
  go_ret
  exact ⟨rfl, ((Below.refl _ _).alloc (Nat.le_refl _) _).alloc (by simp) _⟩

set_option maxRecDepth 20000 in
set_option maxHeartbeats 1000000 in
theorem set_long (n max : Int) (y : Int × Int) (a : Option Addr) (l c : Nat) (w : World) (h0 : l ≤ 1048576) (h : 32768 < l) :
    Calls Try.prog 6 #[.slice a l c, .int .i64 n, .int .i64 max, .agg #[.int .u64 y.1, .int .u64 y.2]] w fun e w' => e = .returned (.bool true) ∧ Below w.heap.size w w' := by
  go_enter Try.func6, Try.ntmps6
  go_wp2_with fail
  refine (bytes9_yes _ _ _ _ _ _ _ h0).mono ?_
  rintro e w1 ⟨rfl, hw1⟩
  subst hw1
  go_wp2_with fail
  go_ret
  exact ⟨rfl, ((Below.refl _ _).alloc (Nat.le_refl _) _).alloc (by simp) _⟩

set_option maxRecDepth 20000 in
set_option maxHeartbeats 1000000 in
theorem set_odd (n max : Int) (y : Int × Int) (a : Option Addr) (l c : Nat) (w : World) (h0 : l ≤ 32768) (h : ¬ Pow2 l) :
    Calls Try.prog 6 #[.slice a l c, .int .i64 n, .int .i64 max, .agg #[.int .u64 y.1, .int .u64 y.2]] w fun e w' => e = .returned (.bool true) ∧ Below w.heap.size w w' := by
  have hpb : pow2B l = false := by
    cases hb : pow2B l
    · rfl
    · exact absurd ((pow2B_iff l (by omega)).1 hb) h
  have HB := hide hpb
  clear hpb
  go_enter Try.func6, Try.ntmps6
  go_wp2_with fail
  refine (bytes9_yes _ _ _ _ _ _ _ (by omega)).mono ?_
  rintro e w1 ⟨rfl, hw1⟩
  subst hw1
  go_wp2_with fail
  refine (pow2_any l _ (by omega)).mono ?_
  rintro e w2 ⟨rfl, hw2⟩
  subst hw2
  rw [HB.out]
  go_wp2_with fail
  go_ret
  exact ⟨rfl, ((Below.refl _ _).alloc (Nat.le_refl _) _).alloc (by simp) _⟩

set_option maxRecDepth 20000 in
set_option maxHeartbeats 1000000 in
theorem set_bad (bi off l cap : Nat) (n max : Int) (y : Int × Int) (F : Nat → Int × Int) (w : World) (hl : Pow2 l) (hl2 : l ≤ 32768) (hS : Slots w bi off l F) (hw : Words l F) (hF : ¬ (Inv l F ∧ ((cnt l F : Nat) : Int) = n)) :
    Calls Try.prog 6 #[.slice (some ⟨bi, off, none⟩) l cap, .int .i64 n, .int .i64 max, .agg #[.int .u64 y.1, .int .u64 y.2]] w fun e w' => e = .returned (.bool true) ∧ Below w.heap.size w w' := by
  have HB := hide ((pow2B_iff l (by omega)).2 hl)
  go_enter Try.func6, Try.ntmps6
  go_wp2_with fail
  refine (bytes9_yes _ _ _ _ _ _ _ (by omega)).mono ?_
  rintro e w1 ⟨rfl, hw1⟩
  have hb1 : Below w.heap.size w w1 := by rw [hw1]; exact ((Below.refl _ _).alloc (Nat.le_refl _) _).alloc (by simp) _
  subst hw1
  go_wp2_with fail
  refine (pow2_any l _ (by omega)).mono ?_
  rintro e w2 ⟨rfl, hw2⟩
  subst hw2
  rw [HB.out]
  go_wp2_with fail
  refine (wf_any bi off l F cap n _ (by exact hS.below hb1) hl (by omega) hw).mono ?_
  rintro e w3 ⟨r, rfl, hr, hb3⟩
  have hr' : r = false := by
    cases r
    · rfl
    · exact absurd (hr.1 rfl) hF
  subst hr'
  have hbel : Below w.heap.size w w3 := hb1.trans (hb3.mono hb1.size)
  clear hr hF
  go_wp2_with fail
  go_ret
  exact ⟨rfl, hbel⟩

theorem set_any (n max : Int) (x : Int × Int) (a : Option Addr) (l c : Nat) (w : World) (h1 : U64 x.1) (h2 : U64 x.2)
    (h : (a = none ∧ l = 0 ∧ c = 0) ∨ ∃ (y : Addr) (P : Nat → Int × Int), a = some y ∧ Words l P ∧ (0 < l → ∃ b off, y = ⟨b, off, none⟩ ∧ Slots w b off l P)) :
    Calls Try.prog 6 #[.slice a l c, .int .i64 n, .int .i64 max, .agg #[.int .u64 x.1, .int .u64 x.2]] w fun e w' => e = .returned (.bool true) ∧ Below w.heap.size w w' := by
  by_cases g1 : 1048576 < l
  · exact set_big n max x a l c w g1
  by_cases g2 : 32768 < l
  · exact set_long n max x a l c w (by omega) g2
  by_cases g3 : Pow2 l
  · rcases h with ⟨rfl, rfl, rfl⟩ | ⟨y, P, rfl, hw, hz⟩
    · exact absurd g3.pos (by omega)
    · obtain ⟨b, off, rfl, hS⟩ := hz g3.pos
      by_cases g4 : Inv l P ∧ ((cnt l P : Nat) : Int) = n
      · obtain ⟨hF, hn⟩ := g4
        subst hn
        exact set_main b off l c (cnt l P) max x P w g3 (by omega) hS hw hF rfl h1 h2
      · exact set_bad b off l c n max x P w g3 (by omega) hS hw g4
  · exact set_odd n max x a l c w (by omega) g3

end Go.Proofs.Qxb6603362a
