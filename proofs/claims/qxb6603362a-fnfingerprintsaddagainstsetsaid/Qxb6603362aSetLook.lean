/-
  THE WALKS: is it anywhere in the table, is its window full.
-/
import Derived.Test.Qxb6603362aLook
import Derived.Test.Qxb6603362aPlain4
namespace Go.Proofs.Qxb6603362a
open Go.RowKit
attribute [local go_sem] eqFP

set_option maxHeartbeats 400000 in
theorem bytes9_yes (n m : Value) (x : Int × Int) (a : Option Addr) (l c : Nat) (w : World) (h : l ≤ 1048576) :
    Calls Try.prog 9 #[.slice a l c, n, m, .agg #[.int .u64 x.1, .int .u64 x.2]] w fun e w' => e = .returned (.bool true) ∧ w' = w.alloc (.cells #[.int .u64 x.1, .int .u64 x.2] 29) := by
  go_enter Try.func9, Try.ntmps9
  go_wp2
  go_ret
  exact ⟨rfl, rfl⟩
set_option maxHeartbeats 400000 in
theorem bytes9_no (n m : Value) (x : Int × Int) (a : Option Addr) (l c : Nat) (w : World) (h : ¬ l ≤ 1048576) :
    Calls Try.prog 9 #[.slice a l c, n, m, .agg #[.int .u64 x.1, .int .u64 x.2]] w fun e w' => e = .returned (.bool false) ∧ w' = w.alloc (.cells #[.int .u64 x.1, .int .u64 x.2] 29) := by
  have h' : (1048576 : Int) < l := by omega
  go_enter Try.func9, Try.ntmps9
  go_wp2
  go_ret
  exact ⟨rfl, rfl⟩

/-- The loop over the table: no slot ahead of the j-th holds x. -/
def Any1 (l : Nat) (F : Nat → Int × Int) (x : Int × Int) (w1 : World) (c : Value) (wr : World) : Prop := ∃ t nn : Nat, t ≤ l ∧ c = .int .i64 t ∧ (∀ s, s < t → F s ≠ x) ∧ wr = w1.drewN nn

set_option maxHeartbeats 2000000 in
theorem anywhere_any (b l : Nat) (F : Nat → Int × Int) (x : Int × Int) (c : Nat) (w : World) (hT : Tab w b l F) (hl2 : l ≤ 131072) :
    Calls Try.prog 14 #[.slice (some ⟨b, 0, none⟩) l c, .agg #[.int .u64 x.1, .int .u64 x.2]] w fun e w' => Says (Held l F x) w e w' := by
  have hbs := hT.lt
  go_enter Try.func14, Try.ntmps14
  go_wp2_with fail
  have hb1 : Below w.heap.size w (w.alloc (.cells #[.int .u64 x.1, .int .u64 x.2] 29)) := (Below.refl _ _).alloc (Nat.le_refl _) _
  have hT1 := hT.below hb1
  go_loopw [5] (fun c wr => Any1 l F x (w.alloc (.cells #[.int .u64 x.1, .int .u64 x.2] 29)) c wr) (fun c _ => l - (intOf c).toNat)
  case atStart => exact ⟨0, 0, by omega, rfl, fun s hs => by omega, rfl⟩
  case round =>
    obtain ⟨t, nn, ht, rfl, hpast, hwr⟩ := hrel
    subst hwr
    have HPA := hide hpast
    clear hpast
    by_cases htl : t < l
    · have e0 : (w.alloc (.cells #[.int .u64 x.1, .int .u64 x.2] 29)).cell? ⟨b, t * 2, none⟩ = some (.int .u64 (F t).1) := hT1.cell0 htl
      have e1 : (w.alloc (.cells #[.int .u64 x.1, .int .u64 x.2] 29)).cell? ⟨b, t * 2 + 1, none⟩ = some (.int .u64 (F t).2) := hT1.cell1 htl
      by_cases heq : F t = x
      · have g1 := feq_yes heq
        have HE := hide heq
        clear heq
        go_wp2_with fail
        go_quiet (fail)
        go_wp2_with fail
        go_ret
        exact ⟨true, rfl, ⟨fun _ => ⟨t, htl, HE.out⟩, fun _ => rfl⟩, below_drewN (below_drewN hb1 _) _⟩
      · have g1 := feq_no heq
        have HE := hide heq
        clear heq
        go_wp2_with fail
        go_quiet (fail)
        go_wp2_with fail
        go_roundw
        case rel =>
          refine ⟨t + 1, _, by omega, by go_num, fun s hs => ?_, rfl⟩
          by_cases e : s = t
          · subst e; exact HE.out
          · exact HPA.out s (by omega)
        case measure => simp [intOf]; omega
    · go_wp2_with fail
      go_ret
      refine ⟨false, rfl, ⟨(fun h => by cases h), fun h => ?_⟩, below_drewN hb1 _⟩
      obtain ⟨s, hs, e⟩ := h
      exact absurd e (HPA.out s (by omega))

/-- The loop over the window: no slot ahead of the t-th is free. -/
def Full1 (l : Nat) (F : Nat → Int × Int) (x : Int × Int) (w1 : World) (c : Value) (wr : World) : Prop := ∃ t nn : Nat, t ≤ 32 ∧ c = .int .i64 t ∧ (∀ s, s < t → F (win l x s) ≠ (0, 0)) ∧ wr = w1.drewN nn

set_option maxHeartbeats 2000000 in
theorem full_any (b l : Nat) (F : Nat → Int × Int) (x : Int × Int) (c : Nat) (w : World) (hT : Tab w b l F) (hl : Pow2 l) (hl2 : l ≤ 131072) (h1 : U64 x.1) :
    Calls Try.prog 15 #[.slice (some ⟨b, 0, none⟩) l c, .agg #[.int .u64 x.1, .int .u64 x.2]] w fun e w' => Says (∀ t, t < 32 → F (win l x t) ≠ (0, 0)) w e w' := by
  have hp := hl.pos
  have hbs := hT.lt
  go_enter Try.func15, Try.ntmps15
  go_wp2_with fail
  refine (place_any x.1 x.2 l _ hl h1).mono ?_
  rintro e w1 ⟨rfl, rfl⟩
  rw [place_cast x hp]
  have hpl := place_lt x hp
  go_wp2_with fail
  have hb1 : Below w.heap.size w ((w.alloc (.cells #[.int .u64 x.1, .int .u64 x.2] 29)).alloc (.cells #[.int .u64 x.1, .int .u64 x.2] 29)) := ((Below.refl _ _).alloc (Nat.le_refl _) _).alloc (by simp) _
  have hT1 := hT.below hb1
  go_loopw [7] (fun c wr => Full1 l F x ((w.alloc (.cells #[.int .u64 x.1, .int .u64 x.2] 29)).alloc (.cells #[.int .u64 x.1, .int .u64 x.2] 29)) c wr) (fun c _ => 32 - (intOf c).toNat)
  case atStart => exact ⟨0, 0, by omega, rfl, fun s hs => by omega, rfl⟩
  case round =>
    obtain ⟨t, nn, ht, rfl, hpast, hwr⟩ := hrel
    subst hwr
    have HPA := hide hpast
    clear hpast
    have hwl := win_lt x t hp
    have hwin := win_int l x t hl
    have e0 : ((w.alloc (.cells #[.int .u64 x.1, .int .u64 x.2] 29)).alloc (.cells #[.int .u64 x.1, .int .u64 x.2] 29)).cell? ⟨b, win l x t * 2, none⟩ = some (.int .u64 (F (win l x t)).1) := hT1.cell0 hwl
    have e1 : ((w.alloc (.cells #[.int .u64 x.1, .int .u64 x.2] 29)).alloc (.cells #[.int .u64 x.1, .int .u64 x.2] 29)).cell? ⟨b, win l x t * 2 + 1, none⟩ = some (.int .u64 (F (win l x t)).2) := hT1.cell1 hwl
    by_cases ht32 : t < 32
    · by_cases heq : F (win l x t) = (0, 0)
      · have g1 := feq_zero heq
        have HE := hide heq
        clear heq
        go_wp2_with fail
        go_ret
        exact ⟨false, rfl, ⟨(fun h => by cases h), fun h => absurd HE.out (h t ht32)⟩, below_drewN hb1 _⟩
      · have g1 := feq_nonzero heq
        have HE := hide heq
        clear heq
        go_wp2_with fail
        refine ⟨⟨t + 1, _, by omega, by go_num, fun s hs => ?_, rfl⟩, by simp [intOf]; omega⟩
        by_cases e : s = t
        · subst e; exact HE.out
        · exact HPA.out s (by omega)
    · obtain rfl : t = 32 := by omega
      go_wp2_with fail
      go_ret
      exact ⟨true, rfl, ⟨fun _ => HPA.out, fun _ => rfl⟩, below_drewN hb1 _⟩
end Go.Proofs.Qxb6603362a
