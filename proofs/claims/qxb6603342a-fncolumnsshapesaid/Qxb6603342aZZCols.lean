/-
  THE WALKS of ZZColumns, zzColumns, zzBytes_FnColumnsShape.
-/
import Derived.Test.Qxb6603342aCols
namespace Go.Proofs.Qxb6603342a
open Go.RowKit

theorem own_mono {w : World} {base base' : Nat} {e : TypeId} {size : Nat} {v : Value} {n : Nat} {xs : List Value} (h : w.ownsRow base e size v n xs) (hb : base' ≤ base) : w.ownsRow base' e size v n xs := by
  refine ⟨h.1, ?_⟩
  rcases h.2 with h | ⟨g, cap, cur, h1, h2, h3⟩
  · exact Or.inl h
  · exact Or.inr ⟨g, cap, cur, h1, Nat.le_trans hb h2, h3⟩

theorem Cols.mono {W P : Nat} {w w2 : World} {e : Ending} {w' : World} (h : Cols W P w2 e w') (hb : Below w.heap.size w w2) : Cols W P w e w' := by
  obtain ⟨v, a, s, n, l, h1, h2, h3, h4, h5, h6, h7, h8, h9, h10⟩ := h
  exact ⟨v, a, s, n, l, h1, own_mono h2 hb.size, h3, h4, h5, h6, h7, h8, h9, hb.trans (h10.mono hb.size)⟩

/-- A Code as the call itself made it. -/
structure CodeAt (w : World) (g : Nat) (T : Nat → Int) (a : Option Addr) (len : Nat) (Z : Nat → Int) : Prop where
  hg : g < w.heap.size
  tab : ∀ j, j < 1024 → w.cell? ⟨g, j, none⟩ = some (.int .u32 (T j))
  deg : w.cell? ⟨g, 1024, none⟩ = some (.slice a len len)
  ints : IntsAt w a len Z

theorem CodeAt.below {w w' : World} {g : Nat} {T : Nat → Int} {a : Option Addr} {len : Nat} {Z : Nat → Int} (h : CodeAt w g T a len Z) (hb : Below w.heap.size w w') : CodeAt w' g T a len Z :=
  ⟨Nat.lt_of_lt_of_le h.hg hb.size, fun j hj => (hb.cell h.hg).trans (h.tab j hj), (hb.cell h.hg).trans h.deg, h.ints.below hb⟩

theorem codeAt_of {w : World} {g : Nat} {V : Array Value} {T : Nat → Int} {a : Option Addr} {len : Nat} {s : Value} {Z : Nat → Int} (hr : w.rowIs g 46 1026 (codeF V (.slice a len len) s)) (hV : ∀ i, i < 1024 → V[i]? = some (.int .u32 (T i)) ∧ U32 (T i)) (hz : IntsAt w a len Z) : CodeAt w g T a len Z := by
  refine ⟨hr.lt, fun j hj => ?_, ?_, hz⟩
  · rw [hr.cell (show j < 1026 by omega)]
    unfold codeF
    rw [if_pos hj, Array.getD_eq_getD_getElem?, (hV j hj).1]
    rfl
  · rw [hr.cell (show 1024 < 1026 by omega)]
    unfold codeF
    rw [if_neg (by omega), if_pos rfl]

set_option maxHeartbeats 1000000 in
theorem zzcols_any (g : Nat) (T : Nat → Int) (a : Option Addr) (len : Nat) (Z : Nat → Int) (k K J S H : Int) (W : Nat) (l : Int) (P P1 : Nat) (b isi : Int) (w : World) (hC : CodeAt w g T a len Z)
    (hW : 2 ≤ W) (hW2 : W ≤ 65536) (hP : 1 ≤ P) (hP1 : P ≤ P1) (hP2 : P1 ≤ 65536) (hpr : prB P1 = true) (hl : len ≤ 65536) (hisi : U32 isi) :
    Calls Try.prog 19 #[.pointer (some ⟨g, 0, none⟩), .int .i64 k, .agg #[.int .i64 K, .int .i64 J, .int .i64 S, .int .i64 H, .int .i64 W], .int .i64 l, .int .i64 P, .int .i64 P1, .int .i64 b, .int .u32 isi] w fun e w' => Cols W P w e w' := by
  go_enter Try.func19, Try.ntmps19
  go_wp2_with fail
  have hb : Below w.heap.size w ((w.alloc (Obj.cells #[Value.int IntKind.i64 K, Value.int IntKind.i64 J, Value.int IntKind.i64 S, Value.int IntKind.i64 H, Value.int IntKind.i64 ↑W] 44)).alloc
    (Obj.cells #[Value.pointer (some ⟨g, 0, none⟩), Value.int IntKind.i64 k, Value.int IntKind.i64 K, Value.int IntKind.i64 J, Value.int IntKind.i64 S, Value.int IntKind.i64 H, Value.int IntKind.i64 ↑W, Value.int IntKind.i64 l, Value.int IntKind.i64 ↑P, Value.int IntKind.i64 ↑P1, Value.int IntKind.i64 b] 50)) :=
    ((Below.refl _ _).alloc (Nat.le_refl _) _).alloc (by simp) _
  have hC2 := hC.below hb
  refine (columns_any (w.heap.size + 1) g T a len Z J W P P1 isi _ ⟨by simp, hC2.hg, by simp, by simp, by simp, by simp, by simp, hC2.tab, hC2.deg, hC2.ints⟩ hW hW2 hP hP1 hP2 hpr hl hisi).mono ?_
  rintro e w' hcols
  have hcols' := hcols.mono hb
  obtain ⟨v, _, _, _, _, rfl, _⟩ := hcols
  have HC := hide hcols'
  clear hcols' hb hC hC2
  go_wp2_with fail
  go_ret
  exact HC.out

set_option maxHeartbeats 1000000 in
theorem bytes15_yes (V B : Array Value) (a1 a2 : Option Addr) (l1 c1 l2 c2 : Nat) (x : Value) (w : World) (h : l1 + l2 ≤ 1048576) :
    Calls Try.prog 15 #[.agg V, .slice a1 l1 c1, .slice a2 l2 c2, .agg B, x] w fun e w' => e = .returned (.bool true) ∧ Below w.heap.size w w' := by
  go_enter Try.func15, Try.ntmps15
  go_wp2
  go_ret
  exact ⟨rfl, ((Below.refl _ _).alloc (Nat.le_refl _) _).alloc (by simp) _⟩

set_option maxHeartbeats 1000000 in
theorem bytes15_no (V B : Array Value) (a1 a2 : Option Addr) (l1 c1 l2 c2 : Nat) (x : Value) (w : World) (m1 : l1 ≤ maxLen) (m2 : l2 ≤ maxLen) (h : ¬ l1 + l2 ≤ 1048576) :
    Calls Try.prog 15 #[.agg V, .slice a1 l1 c1, .slice a2 l2 c2, .agg B, x] w fun e w' => e = .returned (.bool false) ∧ Below w.heap.size w w' := by
  unfold maxLen at m1 m2
  by_cases h1 : (1048576 : Int) < l1
  · go_enter Try.func15, Try.ntmps15
    go_wp2
    go_ret
    exact ⟨rfl, ((Below.refl _ _).alloc (Nat.le_refl _) _).alloc (by simp) _⟩
  by_cases h2 : (1048576 : Int) < l2
  · go_enter Try.func15, Try.ntmps15
    go_wp2
    go_ret
    exact ⟨rfl, ((Below.refl _ _).alloc (Nat.le_refl _) _).alloc (by simp) _⟩
  · have h3 : (1048576 : Int) < (l1 : Int) + l2 := by omega
    go_enter Try.func15, Try.ntmps15
    go_wp2
    go_ret
    exact ⟨rfl, ((Below.refl _ _).alloc (Nat.le_refl _) _).alloc (by simp) _⟩

/-- A Blk by value. -/
def blkV (ks K J S H : Int) (W : Nat) (L : Int) (P P1 : Nat) (B : Int) : Array Value := #[.int .i64 ks, .int .i64 K, .int .i64 J, .int .i64 S, .int .i64 H, .int .i64 W, .int .i64 L, .int .i64 P, .int .i64 P1, .int .i64 B]

set_option maxHeartbeats 1000000 in
set_option maxRecDepth 100000 in
theorem zzColumns_any (V : Array Value) (hV : V.size = 1024) (T : Nat → Int) (hVT : ∀ i, i < 1024 → V[i]? = some (.int .u32 (T i)) ∧ U32 (T i)) (a1 : Option Addr) (l1 : Nat) (Z : Nat → Int) (a2 : Option Addr) (l2 : Nat) (R : Nat → Int)
    (ks K J S H : Int) (W : Nat) (L : Int) (P P1 : Nat) (B isi : Int) (w : World) (hZ : IntsAt w a1 l1 Z) (hR : OwnRows w 31 a2 l2 R)
    (hW : 2 ≤ W) (hW2 : W ≤ 65536) (hP : 1 ≤ P) (hP1 : P ≤ P1) (hP2 : P1 ≤ 65536) (hpr : prB P1 = true) (hl : l1 ≤ 65536) (hl2 : l2 ≤ 1048576) (hisi : U32 isi) :
    Calls Try.prog 16 #[.agg V, .slice a1 l1 l1, .slice a2 l2 l2, .agg (blkV ks K J S H W L P P1 B), .int .u32 isi] w fun e w' => Cols W P w e w' := by
  have HPR := hide hpr
  clear hpr
  have hsz := size26 V hV
  have hg : ((w.alloc (.cells V 26)).alloc (.cells (blkV ks K J S H W L P P1 B) 38)).heap[w.heap.size]? = some (.cells V 26 (0, 0)) := heap_alloc2_old _ _ _
  have hb0 : Below w.heap.size w ((w.alloc (.cells V 26)).alloc (.cells (blkV ks K J S H W L P P1 B) 38)) := ((Below.refl _ _).alloc (Nat.le_refl _) _).alloc (by simp) _
  go_enter Try.func16, Try.ntmps16
  go_wp2_with (refine wpList_load_row rfl 26 _ rfl w.heap.size rfl 26 V (0, 0) _ hg Try.underlying26 rfl hsz ?_)
  have hZ0 := hZ.below hb0
  refine (code_u V hV a1 l1 l1 a2 l2 R _ hl2 (hR.below hb0)).mono ?_
  rintro e w1 ⟨g, s, rfl, hg1, hrow, hsys, hb1⟩
  have hC1 := codeAt_of hrow hVT (hZ0.below hb1)
  have hbw1 : Below w.heap.size w w1 := hb0.trans (hb1.mono (by simp; omega))
  have hs1 : w.heap.size + 1 < w1.heap.size := by have := hb1.size; simp at this; omega
  have c0 : w1.cell? ⟨w.heap.size + 1, 0, none⟩ = some (.int .i64 ks) := (hb1.cell (by simp)).trans (by simp [blkV])
  have c1 : w1.cell? ⟨w.heap.size + 1, 1, none⟩ = some (.int .i64 K) := (hb1.cell (by simp)).trans (by simp [blkV])
  have c2 : w1.cell? ⟨w.heap.size + 1, 2, none⟩ = some (.int .i64 J) := (hb1.cell (by simp)).trans (by simp [blkV])
  have c3 : w1.cell? ⟨w.heap.size + 1, 3, none⟩ = some (.int .i64 S) := (hb1.cell (by simp)).trans (by simp [blkV])
  have c4 : w1.cell? ⟨w.heap.size + 1, 4, none⟩ = some (.int .i64 H) := (hb1.cell (by simp)).trans (by simp [blkV])
  have c5 : w1.cell? ⟨w.heap.size + 1, 5, none⟩ = some (.int .i64 (W : Nat)) := (hb1.cell (by simp)).trans (by simp [blkV])
  have c6 : w1.cell? ⟨w.heap.size + 1, 6, none⟩ = some (.int .i64 L) := (hb1.cell (by simp)).trans (by simp [blkV])
  have c7 : w1.cell? ⟨w.heap.size + 1, 7, none⟩ = some (.int .i64 (P : Nat)) := (hb1.cell (by simp)).trans (by simp [blkV])
  have c8 : w1.cell? ⟨w.heap.size + 1, 8, none⟩ = some (.int .i64 (P1 : Nat)) := (hb1.cell (by simp)).trans (by simp [blkV])
  have c9 : w1.cell? ⟨w.heap.size + 1, 9, none⟩ = some (.int .i64 B) := (hb1.cell (by simp)).trans (by simp [blkV])
  clear hrow hsys hb1 hZ hZ0 hR hb0 hg hVT hg1
  go_wp2_with fail
  have hb2 : Below w1.heap.size w1 (w1.alloc (Obj.cells #[Value.int IntKind.i64 K, Value.int IntKind.i64 J, Value.int IntKind.i64 S, Value.int IntKind.i64 H, Value.int IntKind.i64 ↑W] 44)) := (Below.refl _ _).alloc (Nat.le_refl _) _
  refine (zzcols_any g T a1 l1 Z ks K J S H W L P P1 B isi _ (hC1.below hb2) hW hW2 hP hP1 hP2 HPR.out hl hisi).mono ?_
  rintro e w' hcols
  have hcols' := hcols.mono (hbw1.trans (hb2.mono hbw1.size))
  obtain ⟨v, _, _, _, _, rfl, _⟩ := hcols
  have HC := hide hcols'
  clear hcols' hb2 hC1
  go_wp2_with fail
  go_ret
  exact HC.out

end Go.Proofs.Qxb6603342a
