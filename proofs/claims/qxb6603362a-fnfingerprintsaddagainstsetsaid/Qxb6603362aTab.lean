/-
  A TABLE OF FINGERPRINTS IN MEMORY; the walks of normFP, placeOf, cloneSlots, isPow2Len.
-/
import Derived.Test.Qxb6603362aRows
import Derived.Test.Qxb6603362aBits
import Derived.Test.Qxb6603362aPlain
import Derived.WalkKit
import Derived.WalkSpells
import Derived.WalkLawsBesides
import Derived.Deep.QuietTactic
import Derived.BigQuiet
import Derived.Deep.LoopGhost
import Derived.Deep.OwnRows
namespace Go.Proofs.Qxb6603362a
open Go.RowKit

theorem hide {p : Prop} (h : p) : Hid p := h

/-- A word of 64 bits. -/
def U64 (x : Int) : Prop := 0 ≤ x ∧ x < 18446744073709551616

/-- Block b is a row of l fingerprints, the i-th 'F i'. -/
def Tab (w : World) (b l : Nat) (F : Nat → Int × Int) : Prop :=
  ∃ c : Array Value, w.heap[b]? = some (.cells c 29 (0, 0)) ∧ c.size = l * 2 ∧ ∀ i, i < l → c[i * 2]? = some (.int .u64 (F i).1) ∧ c[i * 2 + 1]? = some (.int .u64 (F i).2)

namespace Tab
variable {w : World} {b l : Nat} {F G : Nat → Int × Int}

theorem cell0 (h : Tab w b l F) {i : Nat} (hi : i < l) : w.cell? ⟨b, i * 2, none⟩ = some (.int .u64 (F i).1) := by
  obtain ⟨c, hb, _, hc⟩ := h
  simp [World.cell?, hb, (hc i hi).1]
theorem cell1 (h : Tab w b l F) {i : Nat} (hi : i < l) : w.cell? ⟨b, i * 2 + 1, none⟩ = some (.int .u64 (F i).2) := by
  obtain ⟨c, hb, _, hc⟩ := h
  simp [World.cell?, hb, (hc i hi).2]
theorem frozen (h : Tab w b l F) (i : Nat) : w.frozen? ⟨b, i, none⟩ = false := by
  obtain ⟨c, hb, _, _⟩ := h
  simp [World.frozen?, hb]
theorem lt (h : Tab w b l F) : b < w.heap.size := by
  obtain ⟨c, hb, _, _⟩ := h
  exact (Array.getElem?_eq_some_iff.1 hb).1
theorem congr (h : Tab w b l F) (e : ∀ i, i < l → F i = G i) : Tab w b l G := by
  obtain ⟨c, hb, hn, hc⟩ := h
  exact ⟨c, hb, hn, fun i hi => by rw [← e i hi]; exact hc i hi⟩
theorem of_block {w' : World} (h : Tab w b l F) (e : w'.heap[b]? = w.heap[b]?) : Tab w' b l F := by
  obtain ⟨c, hb, hn, hc⟩ := h
  exact ⟨c, e.trans hb, hn, hc⟩
theorem below {w' : World} (h : Tab w b l F) (hb : Below w.heap.size w w') : Tab w' b l F := h.of_block (hb.block b h.lt)
theorem drew (h : Tab w b l F) : Tab w.drew b l F := h
theorem drewN (h : Tab w b l F) (n : Nat) : Tab (w.drewN n) b l F := h

/-- An entry stored: two cells. -/
theorem set (h : Tab w b l F) {k : Nat} (hk : k < l) (x : Int × Int) : Tab ((w.setCell ⟨b, k * 2, none⟩ (.int .u64 x.1)).setCell ⟨b, k * 2 + 1, none⟩ (.int .u64 x.2)) b l (upd F k x) := by
  obtain ⟨c, hb, hn, hc⟩ := h
  refine ⟨(c.setIfInBounds (k * 2) (.int .u64 x.1)).setIfInBounds (k * 2 + 1) (.int .u64 x.2), ?_, by simpa using hn, fun i hi => ?_⟩
  · simp [World.setCell, Array.getElem?_modify, hb]
  · rw [Array.getElem?_setIfInBounds, Array.getElem?_setIfInBounds, Array.getElem?_setIfInBounds, Array.getElem?_setIfInBounds]
    simp only [Array.size_setIfInBounds]
    by_cases e : i = k
    · subst e
      rw [upd_same, if_neg (by omega), if_pos rfl, if_pos (by omega), if_pos rfl, if_pos (by omega)]
      exact ⟨rfl, rfl⟩
    · rw [upd_other _ _ e, if_neg (by omega), if_neg (by omega), if_neg (by omega), if_neg (by omega)]
      exact hc i hi
end Tab

/-! ### '==' on two fingerprints -/
def feq (a b c d : Int) : Bool := a == c && b == d
theorem feq_iff (p q : Int × Int) : feq p.1 p.2 q.1 q.2 = true ↔ p = q := by
  unfold feq
  rw [Bool.and_eq_true, beq_iff_eq, beq_iff_eq]
  constructor
  · rintro ⟨h1, h2⟩; exact Prod.ext h1 h2
  · rintro rfl; exact ⟨rfl, rfl⟩
theorem feq_yes {p q : Int × Int} (h : p = q) : feq p.1 p.2 q.1 q.2 = true := (feq_iff p q).2 h
theorem feq_no {p q : Int × Int} (h : p ≠ q) : feq p.1 p.2 q.1 q.2 = false := by
  cases hb : feq p.1 p.2 q.1 q.2 with
  | false => rfl
  | true => exact absurd ((feq_iff p q).1 hb) h
theorem feq_zero {p : Int × Int} (h : p = (0, 0)) : feq p.1 p.2 0 0 = true := (feq_iff p (0, 0)).2 h
theorem feq_nonzero {p : Int × Int} (h : p ≠ (0, 0)) : feq p.1 p.2 0 0 = false := feq_no (q := (0, 0)) h

theorem eqFP (a b c d : Int) (w : World) : (Op.equalIn 10000 29 (.agg #[.int .u64 a, .int .u64 b]) (.agg #[.int .u64 c, .int .u64 d])).run Try.prog w = .ok (feq a b c d) w := by
  have u3 := Try.underlying28
  have a3 := Try.isAgg28
  have z3 := Try.sizeOf28
  rw [show (10000 : Nat) = 9999 + 1 from rfl, Op.equalIn]
  simp only [Sem.run_bind, run_underlying Try.underlying29, Result.andThen_ok]
  simp only [Std.Legacy.Range.forIn_eq_forIn_range', Std.Legacy.Range.size, Nat.sub_zero, Nat.add_sub_cancel, Nat.div_one, List.range'_succ, List.range'_zero, List.forIn_cons, List.forIn_nil]
  unfold feq
  go_simp
  by_cases h1 : a = c <;> by_cases h2 : b = d <;> simp [h1, h2]
attribute [local go_sem] eqFP

set_option maxHeartbeats 400000 in
theorem place_any (x y : Int) (l : Nat) (w : World) (hl : Pow2 l) (hx : U64 x) :
    Calls Try.prog 18 #[.agg #[.int .u64 x, .int .u64 y], .int .i64 ((l : Int) - 1)] w fun e w' => e = .returned (.int .i64 (x % (l : Int))) ∧ w' = w.alloc (.cells #[.int .u64 x, .int .u64 y] 29) := by
  have hp := hl.pos
  have hle := hl.le
  have HM := hide (and_mask_u x hx.1 hx.2 hl)
  have HW : Hid (wrap64 (x % (l : Int)) = x % (l : Int)) := by
    have h1 := Int.emod_nonneg x (show (l : Int) ≠ 0 by omega)
    have h2 := Int.emod_lt_of_pos x (show 0 < (l : Int) by omega)
    exact IntWalk.wrap64_in _ ⟨by omega, by omega⟩
  go_enter Try.func18, Try.ntmps18
  go_wp2
  go_ret
  refine ⟨?_, rfl⟩
  show Ending.returned (Value.int IntKind.i64 (wrap64 (bits BinOp.and IntKind.u64 x (↑l - 1)))) = _
  rw [HM.out, HW.out]

/-- What normFP makes of a fingerprint. -/
def norm (x : Int × Int) : Int × Int := if x = (0, 0) then (0, 1) else x

set_option maxHeartbeats 400000 in
theorem norm_any (x : Int × Int) (w : World) :
    Calls Try.prog 13 #[.agg #[.int .u64 x.1, .int .u64 x.2]] w fun e w' => e = .returned (.agg #[.int .u64 (norm x).1, .int .u64 (norm x).2]) ∧ ∃ c1 c2, w' = (w.alloc (.cells c1 29)).alloc (.cells c2 29) := by
  by_cases hx : x = (0, 0)
  · subst hx
    have hf : feq 0 0 0 0 = true := rfl
    go_enter Try.func13, Try.ntmps13
    go_wp2
    refine bodyPost_ret (v := .agg #[.int .u64 0, .int .u64 1]) (by simp [results, Try.results13, go_sem]) rfl ⟨rfl, _, _, rfl⟩
  · have hf := feq_nonzero hx
    have hn : norm x = x := if_neg hx
    rw [hn]
    clear hn hx
    go_enter Try.func13, Try.ntmps13
    go_wp2
    refine bodyPost_ret (v := .agg #[.int .u64 x.1, .int .u64 x.2]) (by simp [results, Try.results13, go_sem]) rfl ⟨rfl, _, _, rfl⟩

/-! ### A slice of fingerprints that is read -/
/-- At block b, from cell off on, lie l fingerprints. -/
def Slots (w : World) (b off l : Nat) (F : Nat → Int × Int) : Prop :=
  b < w.heap.size ∧ ∀ i, i < l → w.cell? ⟨b, off + i * 2, none⟩ = some (.int .u64 (F i).1) ∧ w.cell? ⟨b, off + i * 2 + 1, none⟩ = some (.int .u64 (F i).2)

theorem Slots.below {w w' : World} {b off l : Nat} {F : Nat → Int × Int} (h : Slots w b off l F) (hb : Below w.heap.size w w') : Slots w' b off l F :=
  ⟨Nat.lt_of_lt_of_le h.1 hb.size, fun i hi => ⟨(hb.cell h.1).trans (h.2 i hi).1, (hb.cell h.1).trans (h.2 i hi).2⟩⟩
theorem Slots.belowB {w w' : World} {b off l B : Nat} {F : Nat → Int × Int} (h : Slots w b off l F) (hb : Below B w w') (hB : b < B) : Slots w' b off l F :=
  ⟨Nat.lt_of_lt_of_le h.1 hb.size, fun i hi => ⟨(hb.cell hB).trans (h.2 i hi).1, (hb.cell hB).trans (h.2 i hi).2⟩⟩
theorem Tab.slots {w : World} {b l : Nat} {F : Nat → Int × Int} (h : Tab w b l F) : Slots w b 0 l F :=
  ⟨h.lt, fun i hi => by rw [Nat.zero_add]; exact ⟨h.cell0 hi, h.cell1 hi⟩⟩

theorem info29 : (Try.prog.info? 29).map (fun i => (i.zero, i.size, i.bytes)) = some (some (.agg #[.int .u64 0, .int .u64 0]), 2, 16) := by kernel_rfl

theorem tab_made (w : World) (n : Nat) : Tab (w.alloc (.cells (madeCells #[.int .u64 0, .int .u64 0] (n * 2)) 29)) w.heap.size n (fun _ => (0, 0)) := by
  refine ⟨_, heap_alloc_new _ _, size_madeCells _ _, fun i hi => ?_⟩
  have h0 : i * 2 < n * 2 := by omega
  have h1 : i * 2 + 1 < n * 2 := by omega
  have e0 : i * 2 % 2 = 0 := by omega
  have e1 : (i * 2 + 1) % 2 = 1 := by omega
  constructor <;> simp [madeCells, h0, h1, e0, e1]

theorem make2 (n : Nat) (hn : n ≤ 16777216) (w : World) :
    (Instr.makeSlice 27 (.int .i64 (n : Int)) (.int .i64 (n : Int))).run Try.prog w = .ok (.slice (some ⟨w.heap.size, 0, none⟩) n n) (w.alloc (.cells (madeCells #[.int .u64 0, .int .u64 0] (n * 2)) 29)) := by
  obtain ⟨i, hi, hz0, hz1, hz2⟩ := info_parts info29
  have hr := run_make (P := Try.prog) w 27 29 i _ Try.underlying27 hi hz0 .i64 .i64 n n (by omega) (Int.le_refl _) (by rw [hz2]; omega) (by omega)
  simpa [hz1, Value.cells] using hr

set_option maxHeartbeats 400000 in
theorem clone_nil (c : Nat) (w : World) :
    Calls Try.prog 12 #[.slice none 0 c] w fun e w' => e = .returned (.slice none 0 0) ∧ w' = w := by
  have q : ∀ (w : World) (a : Option Addr) (n c n' c' : Nat), (binOp .eql 27 (.slice a n c) (.slice none n' c')).run Try.prog w = .ok (.bool a.isNone) w := fun w a n c n' c' => Lib.run_eql_slice_nil w _ _ a n c n' c' Try.underlying27
  go_enter Try.func12, Try.ntmps12
  go_wp2
  go_ret
  exact ⟨rfl, rfl⟩

theorem round2 {wr w : World} {b n k B : Nat} {F : Nat → Int × Int} (h : Tab wr b n (fun j => if j < k then F j else (0, 0))) (hk : k < n) (hb : Below B w wr) (hB : B ≤ b) :
    Tab ((wr.setCell ⟨b, k * 2, none⟩ (.int .u64 (F k).1)).setCell ⟨b, k * 2 + 1, none⟩ (.int .u64 (F k).2)) b n (fun j => if j < k + 1 then F j else (0, 0)) ∧
    Below B w ((wr.setCell ⟨b, k * 2, none⟩ (.int .u64 (F k).1)).setCell ⟨b, k * 2 + 1, none⟩ (.int .u64 (F k).2)) := by
  refine ⟨(h.set hk (F k)).congr fun i hi => ?_, (hb.setCell hB _).setCell hB _⟩
  by_cases e : i = k
  · subst e; rw [upd_same, if_pos (by omega)]
  · rw [upd_other _ _ e]
    by_cases e2 : i < k
    · rw [if_pos e2, if_pos (by omega)]
    · rw [if_neg e2, if_neg (by omega)]

set_option maxHeartbeats 400000 in
theorem clone_any (x : Addr) (len cap : Nat) (F : Nat → Int × Int) (w : World) (hl : len ≤ 1048576) (hz : 0 < len → ∃ b off, x = ⟨b, off, none⟩ ∧ Slots w b off len F) :
    Calls Try.prog 12 #[.slice (some x) len cap] w fun e w' => e = .returned (.slice (some ⟨w.heap.size, 0, none⟩) len len) ∧ Tab w' w.heap.size len F ∧ Below w.heap.size w w' := by
  have q : ∀ (w : World) (a : Option Addr) (n c n' c' : Nat), (binOp .eql 27 (.slice a n c) (.slice none n' c')).run Try.prog w = .ok (.bool a.isNone) w := fun w a n c n' c' => Lib.run_eql_slice_nil w _ _ a n c n' c' Try.underlying27
  have hmk := make2 len (by omega)
  go_enter Try.func12, Try.ntmps12
  go_wp2
  clear hmk q
  go_loopw [4] (fun i wr => ∃ k : Nat, k ≤ len ∧ i = .int .i64 k ∧ Tab wr w.heap.size len (fun j => if j < k then F j else (0, 0)) ∧ Below w.heap.size w wr) (fun i _ => len - (intOf i).toNat)
  case atStart =>
    exact ⟨0, Nat.zero_le _, rfl, (tab_made _ _).congr (fun i _ => by simp), (Below.refl _ _).alloc (Nat.le_refl _) _⟩
  case round =>
    obtain ⟨k, hk, rfl, hrow, hb⟩ := hrel
    by_cases hlt : k < len
    · obtain ⟨b, off, rfl, hbs, hc⟩ := hz (by omega)
      have hc0 := (hb.cell hbs).trans (hc k hlt).1
      have hc1 := (hb.cell hbs).trans (hc k hlt).2
      have hr0 : wr.cell? ⟨w.heap.size, k * 2, none⟩ = some (.int .u64 0) := by rw [hrow.cell0 hlt, if_neg (by omega)]
      have hr1 : wr.cell? ⟨w.heap.size, k * 2 + 1, none⟩ = some (.int .u64 0) := by rw [hrow.cell1 hlt, if_neg (by omega)]
      have hf0 := hrow.frozen (k * 2)
      have hf1 := hrow.frozen (k * 2 + 1)
      have HR := hide (round2 hrow hlt hb (Nat.le_refl _))
      clear hrow hc hb
      go_wp2
      go_roundw
      case rel => exact ⟨k + 1, by omega, by go_num, HR.out⟩
      case measure => simp [intOf]; omega
    · obtain rfl : k = len := by omega
      go_wp2
      go_ret
      exact ⟨rfl, hrow.congr (fun i hi => by simp [hi]), hb⟩

/-! ### isPow2Len -/
def pow2B (l : Nat) : Bool := decide (0 < l ∧ l &&& (l - 1) = 0)
theorem pow2B_iff (l : Nat) (h : l ≤ 4294967296) : pow2B l = true ↔ Pow2 l := by
  unfold pow2B
  rw [decide_eq_true_iff]
  constructor
  · rintro ⟨h0, h1⟩
    obtain ⟨e, rfl⟩ := (and_pred l h0).1 h1
    refine ⟨e, ?_, rfl⟩
    refine Nat.le_of_not_lt fun hlt => ?_
    have : 2 ^ 33 ≤ 2 ^ e := Nat.pow_le_pow_right (by decide) hlt
    omega
  · intro hp
    obtain ⟨e, _, he⟩ := id hp
    exact ⟨hp.pos, (and_pred l hp.pos).2 ⟨e, he⟩⟩

theorem and_i64_nat (a b : Nat) (ha : a < 4611686018427387904) (hb : b < 4611686018427387904) : bits .and .i64 (a : Int) (b : Int) = ((a &&& b : Nat) : Int) :=
  (bits_nat .i64 62 (by decide) (fun n h0 h1 => by rw [IntKind.wrap_i64]; omega) a b ha hb).1

set_option maxHeartbeats 400000 in
theorem pow2_any (l : Nat) (w : World) (hl : l ≤ 1048576) :
    Calls Try.prog 10 #[.int .i64 l] w fun e w' => e = .returned (.bool (pow2B l)) ∧ w' = w := by
  by_cases h0 : 0 < l
  · have ha := and_i64_nat l (l - 1) (by omega) (by omega)
    have hc : ((l - 1 : Nat) : Int) = (l : Int) - 1 := by omega
    rw [hc] at ha
    have hb : (bits .and .i64 (l : Int) ((l : Int) - 1) == 0) = pow2B l := by
      rw [ha, Bool.eq_iff_iff, beq_iff_eq]
      unfold pow2B
      rw [decide_eq_true_iff]
      constructor
      · intro h; exact ⟨h0, by omega⟩
      · rintro ⟨_, h⟩; rw [h]; rfl
    have HB := hide hb
    clear hb ha hc
    go_enter Try.func10, Try.ntmps10
    go_wp2
    go_ret
    refine ⟨?_, rfl⟩
    rw [← HB.out]
    rfl
  · obtain rfl : l = 0 := by omega
    go_enter Try.func10, Try.ntmps10
    go_wp2
    go_ret
    exact ⟨rfl, rfl⟩

end Go.Proofs.Qxb6603362a
