/-
  THE WALK of the law FnFingerprintsAddScriptStaysSound: the nil script, and the scripts that are turned away.
-/
import Derived.Test.Qxb6603362aScript
namespace Go.Proofs.Qxb6603362a
open Go.RowKit
attribute [local go_sem] eqFP

set_option maxHeartbeats 4000000 in
theorem script_nil (k : Nat) (max : Int) (cap : Nat) (w : World) (hk : k ≤ 12) :
    Calls Try.prog 7 #[.int .u8 k, .int .i64 max, .slice none 0 cap] w fun e w' => e = .returned (.bool true) ∧ Below w.heap.size w w' := by
  obtain ⟨l0, hl0⟩ : ∃ l0, l0 = 2 ^ k := ⟨_, rfl⟩
  have hp0 : Pow2 l0 := ⟨k, by omega, hl0⟩
  have hle : l0 ≤ 4096 := by rw [hl0]; exact Nat.pow_le_pow_right (n := 2) (by decide) hk
  have hlp := hp0.pos
  have hwr : wrap64 (2 ^ k) = (l0 : Int) := by
    have : ((2 : Int) ^ k) = ((2 ^ k : Nat) : Int) := by simp
    rw [this, ← hl0]
    exact IntWalk.wrap64_in _ ⟨by omega, by omega⟩
  have HL0 := hide hl0
  clear hl0
  have hmk := make2 l0 (by omega)
  obtain ⟨i0, hi, hz0, hz1, hz2⟩ := info_parts info29
  go_enter Try.func7, Try.ntmps7
  go_wp2_with fail
  refine (bytes19_yes _ _ _ _ _ _ (by omega)).mono ?_
  rintro e w1 ⟨rfl, hw1⟩
  subst hw1
  go_wp2_with fail
  refine (clone_nil cap _).mono ?_
  rintro e w2 ⟨rfl, hw2⟩
  subst hw2
  go_wp2_with (refine wpList_make_own _ rfl _ _ 27 rfl (w2.heap.size + 1) 29 i0 _ 2 Try.underlying27 hi hz0 hz1 .i64 .i64 _ 0 rfl rfl rfl (by rw [hz2]; omega) (by unfold maxLen; omega) (by simp) ?_)
  intro w4 hown hgrow
  have hTab0 : Tab w4 w2.heap.size l0 (fun _ => (0, 0)) := (tab_made w2 l0).of_block (hgrow.block w2.heap.size (by simp) (by simp))
  have hb4 : Below w2.heap.size w2 w4 := (((Below.refl w2.heap.size w2).alloc (Nat.le_refl _) _).grown hgrow (by simp) (fun k hk => by cases hk))
  clear hown hgrow hmk
  go_wp2_with fail
  go_loopw [8, 9, 10, 11] (fun c8 c9 c10 c11 wr => c8 = .slice (some ⟨w2.heap.size, 0, none⟩) l0 l0 ∧ c9 = .int .i64 0 ∧ (∃ g, c10 = .slice g 0 0) ∧ c11 = .int .i64 0 ∧ wr = w4) (fun _ _ _ _ _ => 0)
  case atStart => exact ⟨rfl, rfl, ⟨_, rfl⟩, rfl, rfl⟩
  case round =>
    obtain ⟨rfl, rfl, ⟨g, rfl⟩, rfl, hwr4⟩ := hrel
    subst hwr4
    go_wp2_with fail
    refine (wf_any w2.heap.size 0 l0 _ l0 0 _ hTab0.slots hp0 (by omega) (words_zero l0)).mono ?_
    rintro e w6 ⟨r6, rfl, hr6, hb6⟩
    have hr6' := hr6.2 ⟨inv_empty _, by rw [cnt_none]; rfl⟩
    subst hr6'
    clear hr6
    have hbel6 : Below w2.heap.size w2 w6 := hb4.trans (hb6.mono hb4.size)
    go_wp2_with fail
    go_ret
    exact ⟨rfl, hbel6⟩

set_option maxHeartbeats 400000 in
theorem script_big (k : Nat) (max : Int) (a : Option Addr) (l c : Nat) (w : World) (h : 1048576 < l) :
    Calls Try.prog 7 #[.int .u8 k, .int .i64 max, .slice a l c] w fun e w' => e = .returned (.bool true) ∧ Below w.heap.size w w' := by
  go_enter Try.func7, Try.ntmps7
  go_wp2_with (go_at_call 19; refine (bytes19_no _ _ _ _ _ _ (by omega)).mono ?_; rintro e w' ⟨rfl, rfl⟩)
  go_ret
  exact ⟨rfl, Below.refl _ _⟩

set_option maxHeartbeats 400000 in
theorem script_long (k : Nat) (max : Int) (a : Option Addr) (l c : Nat) (w : World) (h0 : l ≤ 1048576) (h : 4096 < l) :
    Calls Try.prog 7 #[.int .u8 k, .int .i64 max, .slice a l c] w fun e w' => e = .returned (.bool true) ∧ Below w.heap.size w w' := by
  go_enter Try.func7, Try.ntmps7
  go_wp2_with (go_at_call 19; refine (bytes19_yes _ _ _ _ _ _ h0).mono ?_; rintro e w' ⟨rfl, rfl⟩)
  go_ret
  exact ⟨rfl, Below.refl _ _⟩

set_option maxHeartbeats 400000 in
theorem script_deep (k : Nat) (max : Int) (a : Option Addr) (l c : Nat) (w : World) (h0 : l ≤ 4096) (h : 12 < k) :
    Calls Try.prog 7 #[.int .u8 k, .int .i64 max, .slice a l c] w fun e w' => e = .returned (.bool true) ∧ Below w.heap.size w w' := by
  go_enter Try.func7, Try.ntmps7
  go_wp2_with (go_at_call 19; refine (bytes19_yes _ _ _ _ _ _ (by omega)).mono ?_; rintro e w' ⟨rfl, rfl⟩)
  go_ret
  exact ⟨rfl, Below.refl _ _⟩

theorem script_any (k : Nat) (max : Int) (a : Option Addr) (l c : Nat) (w : World)
    (h : (a = none ∧ l = 0 ∧ c = 0) ∨ ∃ (y : Addr) (P : Nat → Int × Int), a = some y ∧ Words l P ∧ (0 < l → ∃ b off, y = ⟨b, off, none⟩ ∧ Slots w b off l P)) :
    Calls Try.prog 7 #[.int .u8 k, .int .i64 max, .slice a l c] w fun e w' => e = .returned (.bool true) ∧ Below w.heap.size w w' := by
  by_cases h1 : 1048576 < l
  · exact script_big k max a l c w h1
  by_cases h2 : 4096 < l
  · exact script_long k max a l c w (by omega) h2
  by_cases h3 : 12 < k
  · exact script_deep k max a l c w (by omega) h3
  rcases h with ⟨rfl, rfl, rfl⟩ | ⟨y, P, rfl, hw, hz⟩
  · exact script_nil k max 0 w (by omega)
  · exact script_main k max y l c P w (by omega) (by omega) hz hw

end Go.Proofs.Qxb6603362a
