/-
  THE WALKS of zzBytes, zzCloneU32, zzCloneRows.
-/
import Derived.Test.Qxb6603342aRows
import Derived.WalkKit
import Derived.WalkSpells
import Derived.WalkLawsBesides
import Derived.Deep.QuietTactic
import Derived.BigQuiet
import Derived.Deep.LoopGhost
import Derived.Deep.OwnRows
import Derived.Deep.WholeRow
namespace Go.Proofs.Qxb6603342a
open Go.RowKit

set_option maxHeartbeats 400000 in
theorem bytes_yes (V : Array Value) (a1 a2 : Option Addr) (l1 c1 l2 c2 : Nat) (w : World) (h : l1 + l2 ≤ 1048576) :
    Calls Try.prog 10 #[.agg V, .slice a1 l1 c1, .slice a2 l2 c2] w fun e w' => e = .returned (.bool true) ∧ Below w.heap.size w w' := by
  go_enter Try.func10, Try.ntmps10
  go_wp2
  go_ret
  exact ⟨rfl, (Below.refl _ _).alloc (Nat.le_refl _) _⟩

set_option maxHeartbeats 400000 in
theorem bytes_no (V : Array Value) (a1 a2 : Option Addr) (l1 c1 l2 c2 : Nat) (w : World) (m1 : l1 ≤ maxLen) (m2 : l2 ≤ maxLen) (h : ¬ l1 + l2 ≤ 1048576) :
    Calls Try.prog 10 #[.agg V, .slice a1 l1 c1, .slice a2 l2 c2] w fun e w' => e = .returned (.bool false) ∧ Below w.heap.size w w' := by
  unfold maxLen at m1 m2
  by_cases h1 : (1048576 : Int) < l1
  · go_enter Try.func10, Try.ntmps10
    go_wp2
    go_ret
    exact ⟨rfl, (Below.refl _ _).alloc (Nat.le_refl _) _⟩
  by_cases h2 : (1048576 : Int) < l2
  · go_enter Try.func10, Try.ntmps10
    go_wp2
    go_ret
    exact ⟨rfl, (Below.refl _ _).alloc (Nat.le_refl _) _⟩
  · have h3 : (1048576 : Int) < (l1 : Int) + l2 := by omega
    go_enter Try.func10, Try.ntmps10
    go_wp2
    go_ret
    exact ⟨rfl, (Below.refl _ _).alloc (Nat.le_refl _) _⟩

/-! ### A slice of uint32 that is copied -/
theorem info24 : (Try.prog.info? 24).map (fun i => (i.zero, i.size, i.bytes)) = some (some (.int .u32 0), 1, 4) := by kernel_rfl

/-- What is known of a slice of uint32: where there is an element the address is one of a row, and the numbers are Z. -/
def IntsAt (w : World) (a : Option Addr) (len : Nat) (Z : Nat → Int) : Prop :=
  0 < len → ∃ b off, a = some ⟨b, off, none⟩ ∧ b < w.heap.size ∧ ∀ i, i < len → w.cell? ⟨b, off + i, none⟩ = some (.int .u32 (Z i))

set_option maxHeartbeats 400000 in
theorem cloneU32_nil (c : Nat) (w : World) :
    Calls Try.prog 11 #[.slice none 0 c] w fun e w' => e = .returned (.slice none 0 0) ∧ w' = w := by
  have q : ∀ (w : World) (a : Option Addr) (n c n' c' : Nat), (binOp .eql 27 (.slice a n c) (.slice none n' c')).run Try.prog w = .ok (.bool a.isNone) w := fun w a n c n' c' => Lib.run_eql_slice_nil w _ _ a n c n' c' Try.underlying27
  go_enter Try.func11, Try.ntmps11
  go_wp2
  go_ret
  exact ⟨rfl, rfl⟩

set_option maxHeartbeats 400000 in
theorem cloneU32_any (x : Addr) (len cap : Nat) (Z : Nat → Int) (w : World) (hl : len ≤ 1048576) (hz : IntsAt w (some x) len Z) :
    Calls Try.prog 11 #[.slice (some x) len cap] w fun e w' => e = .returned (.slice (some ⟨w.heap.size, 0, none⟩) len len) ∧ w'.rowIs w.heap.size 24 len (fun i => .int .u32 (Z i)) ∧ Below w.heap.size w w' := by
  have q : ∀ (w : World) (a : Option Addr) (n c n' c' : Nat), (binOp .eql 27 (.slice a n c) (.slice none n' c')).run Try.prog w = .ok (.bool a.isNone) w := fun w a n c n' c' => Lib.run_eql_slice_nil w _ _ a n c n' c' Try.underlying27
  have hmk := run_make_row' (P := Try.prog) 27 24 (.int .u32 0) 4 Try.underlying27 info24 rfl .i64 .i64 len (by omega) (by omega)
  go_enter Try.func11, Try.ntmps11
  go_wp2
  clear hmk q
  go_loopw [4] (fun i wr => ∃ k : Nat, k ≤ len ∧ i = .int .i64 k ∧ wr.rowIs w.heap.size 24 len (fun j => if j < k then .int .u32 (Z j) else .int .u32 0) ∧ Below w.heap.size w wr) (fun i _ => len - (intOf i).toNat)
  case atStart =>
    exact ⟨0, Nat.zero_le _, rfl, (World.rowIs_made _ _ _ _).congr (fun i _ => by simp), (Below.refl _ _).alloc (Nat.le_refl _) _⟩
  case round =>
    obtain ⟨k, hk, rfl, hrow, hb⟩ := hrel
    by_cases hlt : k < len
    · obtain ⟨b, off, hx, hbs, hc⟩ := hz (by omega)
      obtain rfl : x = ⟨b, off, none⟩ := by simpa using hx
      have hck : wr.cell? ⟨b, off + k, none⟩ = some (.int .u32 (Z k)) := (hb.cell hbs).trans (hc k hlt)
      have hr0 := hrow.cell hlt
      have hf0 := hrow.frozen k
      have HR : Hid ((wr.setCell ⟨w.heap.size, k, none⟩ (.int .u32 (Z k))).rowIs w.heap.size 24 len (fun j => if j < k + 1 then .int .u32 (Z j) else .int .u32 0)) := by
        refine (hrow.set k _).congr fun j hj => ?_
        by_cases e : j = k
        · subst e; simp
        · by_cases e2 : j < k
          · simp [e, e2, show j < k + 1 by omega]
          · simp [e, e2, show ¬ j < k + 1 by omega]
      clear hrow hc hx
      go_wp2
      go_roundw
      case rel => exact ⟨k + 1, by omega, by go_num, HR.out, hb.setCell (Nat.le_refl _) _⟩
      case measure => simp [intOf]; omega
    · obtain rfl : k = len := by omega
      go_wp2
      go_ret
      exact ⟨rfl, hrow.congr (fun i hi => by simp [hi]), hb⟩

/-! ### A slice of Row that is copied -/
theorem info31 : (Try.prog.info? 31).map (fun i => (i.zero, i.size, i.bytes)) = some (some (.agg #[.int .i64 0, .int .i64 0, .int .i64 0, .int .i64 0, .int .i64 0]), 5, 40) := by kernel_rfl

/-- What is known of a slice of Row: cell j of element i is the number 'R (i * 5 + j)'. -/
def RowsAt (w : World) (a : Option Addr) (len : Nat) (R : Nat → Int) : Prop :=
  0 < len → ∃ b off, a = some ⟨b, off, none⟩ ∧ b < w.heap.size ∧ ∀ i, i < len * 5 → w.cell? ⟨b, off + i, none⟩ = some (.int .i64 (R i))

theorem rowIs_made5 (w : World) (n t : Nat) : (w.alloc (.cells (madeCells #[.int .i64 0, .int .i64 0, .int .i64 0, .int .i64 0, .int .i64 0] n) t)).rowIs w.heap.size t n (fun _ => .int .i64 0) := by
  refine ⟨_, heap_alloc_new _ _, size_madeCells _ _, fun i hi => ?_⟩
  have h5 : i % 5 = 0 ∨ i % 5 = 1 ∨ i % 5 = 2 ∨ i % 5 = 3 ∨ i % 5 = 4 := by omega
  rcases h5 with h | h | h | h | h <;> simp [madeCells, hi, h]

theorem make5 (t e : TypeId) (ht : Try.prog.underlying t = some (.slice e)) (hinfo : (Try.prog.info? e).map (fun i => (i.zero, i.size, i.bytes)) = some (some (.agg #[.int .i64 0, .int .i64 0, .int .i64 0, .int .i64 0, .int .i64 0]), 5, 40))
    (n : Nat) (hn : n ≤ 1048576) (w : World) :
    (Instr.makeSlice t (.int .i64 (n : Int)) (.int .i64 (n : Int))).run Try.prog w = .ok (.slice (some ⟨w.heap.size, 0, none⟩) n n) (w.alloc (.cells (madeCells #[.int .i64 0, .int .i64 0, .int .i64 0, .int .i64 0, .int .i64 0] (n * 5)) e)) := by
  obtain ⟨i, hi, hz0, hz1, hz2⟩ := info_parts hinfo
  have hr := run_make (P := Try.prog) w t e i _ ht hi hz0 .i64 .i64 n n (by omega) (Int.le_refl _) (by rw [hz2]; omega) (by omega)
  simpa [hz1, Value.cells] using hr

theorem row5_step (R : Nat → Int) (k j : Nat) : (if j = k * 5 + 4 then Value.int .i64 (R (k * 5 + 4)) else if j = k * 5 + 3 then .int .i64 (R (k * 5 + 3)) else if j = k * 5 + 2 then .int .i64 (R (k * 5 + 2)) else if j = k * 5 + 1 then .int .i64 (R (k * 5 + 1)) else if j = k * 5 then .int .i64 (R (k * 5)) else if j < k * 5 then .int .i64 (R j) else .int .i64 0) =
    if j < (k + 1) * 5 then .int .i64 (R j) else .int .i64 0 := by
  by_cases e4 : j = k * 5 + 4
  · subst e4; rw [if_pos rfl, if_pos (by omega)]
  rw [if_neg e4]
  by_cases e3 : j = k * 5 + 3
  · subst e3; rw [if_pos rfl, if_pos (by omega)]
  rw [if_neg e3]
  by_cases e2 : j = k * 5 + 2
  · subst e2; rw [if_pos rfl, if_pos (by omega)]
  rw [if_neg e2]
  by_cases e1 : j = k * 5 + 1
  · subst e1; rw [if_pos rfl, if_pos (by omega)]
  rw [if_neg e1]
  by_cases e0 : j = k * 5
  · subst e0; rw [if_pos rfl, if_pos (by omega)]
  rw [if_neg e0]
  by_cases e : j < k * 5
  · rw [if_pos e, if_pos (by omega)]
  · rw [if_neg e, if_neg (by omega)]

set_option maxHeartbeats 400000 in
theorem cloneRows_nil (c : Nat) (w : World) :
    Calls Try.prog 12 #[.slice none 0 c] w fun e w' => e = .returned (.slice none 0 0) ∧ w' = w := by
  have q : ∀ (w : World) (a : Option Addr) (n c n' c' : Nat), (binOp .eql 28 (.slice a n c) (.slice none n' c')).run Try.prog w = .ok (.bool a.isNone) w := fun w a n c n' c' => Lib.run_eql_slice_nil w _ _ a n c n' c' Try.underlying28
  go_enter Try.func12, Try.ntmps12
  go_wp2
  go_ret
  exact ⟨rfl, rfl⟩

set_option maxHeartbeats 400000 in
theorem cloneRows_any (x : Addr) (len cap : Nat) (R : Nat → Int) (w : World) (hl : len ≤ 1048576) (hz : RowsAt w (some x) len R) :
    Calls Try.prog 12 #[.slice (some x) len cap] w fun e w' => e = .returned (.slice (some ⟨w.heap.size, 0, none⟩) len len) ∧ w'.rowIs w.heap.size 31 (len * 5) (fun i => .int .i64 (R i)) ∧ Below w.heap.size w w' := by
  have q : ∀ (w : World) (a : Option Addr) (n c n' c' : Nat), (binOp .eql 28 (.slice a n c) (.slice none n' c')).run Try.prog w = .ok (.bool a.isNone) w := fun w a n c n' c' => Lib.run_eql_slice_nil w _ _ a n c n' c' Try.underlying28
  have hmk := make5 28 31 Try.underlying28 info31 len hl
  go_enter Try.func12, Try.ntmps12
  go_wp2
  clear hmk q
  go_loopw [4] (fun i wr => ∃ k : Nat, k ≤ len ∧ i = .int .i64 k ∧ wr.rowIs w.heap.size 31 (len * 5) (fun j => if j < k * 5 then .int .i64 (R j) else .int .i64 0) ∧ Below w.heap.size w wr) (fun i _ => len - (intOf i).toNat)
  case atStart =>
    exact ⟨0, Nat.zero_le _, rfl, (rowIs_made5 _ _ _).congr (fun i _ => by simp), (Below.refl _ _).alloc (Nat.le_refl _) _⟩
  case round =>
    obtain ⟨k, hk, rfl, hrow, hb⟩ := hrel
    by_cases hlt : k < len
    · obtain ⟨b, off, hx, hbs, hc⟩ := hz (by omega)
      obtain rfl : x = ⟨b, off, none⟩ := by simpa using hx
      have hc0 : wr.cell? ⟨b, off + k * 5, none⟩ = some (.int .i64 (R (k * 5))) := (hb.cell hbs).trans (hc (k * 5) (by omega))
      have hc1 : wr.cell? ⟨b, off + k * 5 + 1, none⟩ = some (.int .i64 (R (k * 5 + 1))) := (hb.cell hbs).trans (by rw [Nat.add_assoc]; exact hc (k * 5 + 1) (by omega))
      have hc2 : wr.cell? ⟨b, off + k * 5 + 2, none⟩ = some (.int .i64 (R (k * 5 + 2))) := (hb.cell hbs).trans (by rw [Nat.add_assoc]; exact hc (k * 5 + 2) (by omega))
      have hc3 : wr.cell? ⟨b, off + k * 5 + 3, none⟩ = some (.int .i64 (R (k * 5 + 3))) := (hb.cell hbs).trans (by rw [Nat.add_assoc]; exact hc (k * 5 + 3) (by omega))
      have hc4 : wr.cell? ⟨b, off + k * 5 + 4, none⟩ = some (.int .i64 (R (k * 5 + 4))) := (hb.cell hbs).trans (by rw [Nat.add_assoc]; exact hc (k * 5 + 4) (by omega))
      have hr0 : wr.cell? ⟨w.heap.size, k * 5, none⟩ = some (.int .i64 0) := by rw [hrow.cell (by omega), if_neg (by omega)]
      have hf0 := hrow.frozen (k * 5)
      have hr1 : wr.cell? ⟨w.heap.size, k * 5 + 1, none⟩ = some (.int .i64 0) := by rw [hrow.cell (by omega), if_neg (by omega)]
      have hf1 := hrow.frozen (k * 5 + 1)
      have hr2 : wr.cell? ⟨w.heap.size, k * 5 + 2, none⟩ = some (.int .i64 0) := by rw [hrow.cell (by omega), if_neg (by omega)]
      have hf2 := hrow.frozen (k * 5 + 2)
      have hr3 : wr.cell? ⟨w.heap.size, k * 5 + 3, none⟩ = some (.int .i64 0) := by rw [hrow.cell (by omega), if_neg (by omega)]
      have hf3 := hrow.frozen (k * 5 + 3)
      have hr4 : wr.cell? ⟨w.heap.size, k * 5 + 4, none⟩ = some (.int .i64 0) := by rw [hrow.cell (by omega), if_neg (by omega)]
      have hf4 := hrow.frozen (k * 5 + 4)
      have HR : Hid (((((((wr.setCell ⟨w.heap.size, k * 5, none⟩ (.int .i64 (R (k * 5)))).setCell ⟨w.heap.size, k * 5 + 1, none⟩ (.int .i64 (R (k * 5 + 1)))).setCell ⟨w.heap.size, k * 5 + 2, none⟩ (.int .i64 (R (k * 5 + 2)))).setCell ⟨w.heap.size, k * 5 + 3, none⟩ (.int .i64 (R (k * 5 + 3)))).setCell ⟨w.heap.size, k * 5 + 4, none⟩ (.int .i64 (R (k * 5 + 4)))).rowIs w.heap.size 31 (len * 5) (fun j => if j < (k + 1) * 5 then .int .i64 (R j) else .int .i64 0)) ∧ Below w.heap.size w (((((wr.setCell ⟨w.heap.size, k * 5, none⟩ (.int .i64 (R (k * 5)))).setCell ⟨w.heap.size, k * 5 + 1, none⟩ (.int .i64 (R (k * 5 + 1)))).setCell ⟨w.heap.size, k * 5 + 2, none⟩ (.int .i64 (R (k * 5 + 2)))).setCell ⟨w.heap.size, k * 5 + 3, none⟩ (.int .i64 (R (k * 5 + 3)))).setCell ⟨w.heap.size, k * 5 + 4, none⟩ (.int .i64 (R (k * 5 + 4))))) := by
        refine ⟨(((((hrow.set _ _).set _ _).set _ _).set _ _).set _ _).congr fun j hj => ?_, ((((hb.setCell (Nat.le_refl _) _).setCell (Nat.le_refl _) _).setCell (Nat.le_refl _) _).setCell (Nat.le_refl _) _).setCell (Nat.le_refl _) _⟩
        exact row5_step R k j
      clear hrow hc hx hz
      go_wp2
      go_roundw
      case rel => exact ⟨k + 1, by omega, by go_num, HR.out.1, HR.out.2⟩
      case measure => simp [intOf]; omega
    · obtain rfl : k = len := by omega
      go_wp2
      go_ret
      exact ⟨rfl, hrow.congr (fun i hi => by simp [hi]), hb⟩

end Go.Proofs.Qxb6603342a
