/-
  THE WALK of the law FnColumnsShape: the ways on which it answers true at once; and all ways together.
-/
import Derived.Test.Qxb6603342aColsLaw
namespace Go.Proofs.Qxb6603342a
open Go.RowKit

/-- A Blk by value, whatever its numbers. -/
def blkI (ks K J S H W L P P1 B : Int) : Array Value := #[.int .i64 ks, .int .i64 K, .int .i64 J, .int .i64 S, .int .i64 H, .int .i64 W, .int .i64 L, .int .i64 P, .int .i64 P1, .int .i64 B]
theorem size38I (ks K J S H W L P P1 B : Int) : (Try.prog.info? 38).map (·.size) = some (blkI ks K J S H W L P P1 B).size := by
  have h : (Try.prog.info? 38).map (·.size) = some 10 := by kernel_rfl
  exact h

set_option maxHeartbeats 2000000 in
set_option maxRecDepth 100000 in
theorem shapeLaw (V : Array Value) (hV : V.size = 1024) (T : Nat → Int) (hVT : ∀ i, i < 1024 → V[i]? = some (.int .u32 (T i)) ∧ U32 (T i)) (a1 : Option Addr) (l1 c1 : Nat) (Z : Nat → Int) (a2 : Option Addr) (l2 c2 : Nat) (R : Nat → Int)
    (ks K J S H W L P P1 B isi : Int) (w : World) (m1 : l1 ≤ maxLen) (m2 : l2 ≤ maxLen) (n1 : a1 = none → l1 = 0) (n2 : a2 = none → l2 = 0) (hZ : IntsAt w a1 l1 Z) (hR : RowsAt w a2 l2 R) (hisi : U32 isi) :
    Calls Try.prog 7 #[.agg V, .slice a1 l1 c1, .slice a2 l2 c2, .agg (blkI ks K J S H W L P P1 B), .int .u32 isi] w fun e w' => e = .returned (.bool true) ∧ Below w.heap.size w w' := by
  have hsz := size26 V hV
  have hg : ((w.alloc (.cells V 26)).alloc (.cells (blkI ks K J S H W L P P1 B) 38)).heap[w.heap.size]? = some (.cells V 26 (0, 0)) := heap_alloc2_old _ _ _
  have hgb : ((w.alloc (.cells V 26)).alloc (.cells (blkI ks K J S H W L P P1 B) 38)).heap[w.heap.size + 1]? = some (.cells (blkI ks K J S H W L P P1 B) 38 (0, 0)) := heap_alloc2_new _ _ _
  have hs38 : (Try.prog.info? 38).map (·.size) = some (blkI ks K J S H W L P P1 B).size := size38I _ _ _ _ _ _ _ _ _ _
  by_cases hs : l1 + l2 ≤ 1048576
  rotate_left
  · go_enter Try.func7, Try.ntmps7
    go_wp2_with (first | refine wpList_load_row rfl 26 _ rfl w.heap.size rfl 26 V (0, 0) _ hg Try.underlying26 rfl hsz ?_ | refine wpList_load_row rfl 38 _ rfl (w.heap.size + 1) rfl 38 (blkI ks K J S H W L P P1 B) (0, 0) _ hgb Try.underlying38 rfl hs38 ?_)
    refine (bytes15_no V (blkI ks K J S H W L P P1 B) a1 a2 l1 c1 l2 c2 _ _ m1 m2 hs).mono ?_
    rintro e w1 ⟨rfl, hb1⟩
    have k1 := (Kept.start w V (blkI ks K J S H W L P P1 B)).next hb1
    clear hb1 hg hgb
    go_wp2_with fail
    go_ret
    exact ⟨rfl, k1.bel⟩
  by_cases x1 : (65536 : Int) < l1
  · go_enter Try.func7, Try.ntmps7
    go_wp2_with (first | refine wpList_load_row rfl 26 _ rfl w.heap.size rfl 26 V (0, 0) _ hg Try.underlying26 rfl hsz ?_ | refine wpList_load_row rfl 38 _ rfl (w.heap.size + 1) rfl 38 (blkI ks K J S H W L P P1 B) (0, 0) _ hgb Try.underlying38 rfl hs38 ?_)
    refine (bytes15_yes V (blkI ks K J S H W L P P1 B) a1 a2 l1 c1 l2 c2 _ _ hs).mono ?_
    rintro e w1 ⟨rfl, hb1⟩
    have k1 := (Kept.start w V (blkI ks K J S H W L P P1 B)).next hb1
    have c5 : w1.cell? ⟨w.heap.size + 1, 5, none⟩ = some (.int .i64 W) := k1.cell 5
    have c7 : w1.cell? ⟨w.heap.size + 1, 7, none⟩ = some (.int .i64 P) := k1.cell 7
    have c8 : w1.cell? ⟨w.heap.size + 1, 8, none⟩ = some (.int .i64 P1) := k1.cell 8
    clear hb1 hg hgb
    go_wp2_with fail
    go_ret
    exact ⟨rfl, k1.bel⟩
  by_cases x2 : (8192 : Int) < l2
  · go_enter Try.func7, Try.ntmps7
    go_wp2_with (first | refine wpList_load_row rfl 26 _ rfl w.heap.size rfl 26 V (0, 0) _ hg Try.underlying26 rfl hsz ?_ | refine wpList_load_row rfl 38 _ rfl (w.heap.size + 1) rfl 38 (blkI ks K J S H W L P P1 B) (0, 0) _ hgb Try.underlying38 rfl hs38 ?_)
    refine (bytes15_yes V (blkI ks K J S H W L P P1 B) a1 a2 l1 c1 l2 c2 _ _ hs).mono ?_
    rintro e w1 ⟨rfl, hb1⟩
    have k1 := (Kept.start w V (blkI ks K J S H W L P P1 B)).next hb1
    have c5 : w1.cell? ⟨w.heap.size + 1, 5, none⟩ = some (.int .i64 W) := k1.cell 5
    have c7 : w1.cell? ⟨w.heap.size + 1, 7, none⟩ = some (.int .i64 P) := k1.cell 7
    have c8 : w1.cell? ⟨w.heap.size + 1, 8, none⟩ = some (.int .i64 P1) := k1.cell 8
    clear hb1 hg hgb
    go_wp2_with fail
    go_ret
    exact ⟨rfl, k1.bel⟩
  by_cases x3 : W < 2
  · go_enter Try.func7, Try.ntmps7
    go_wp2_with (first | refine wpList_load_row rfl 26 _ rfl w.heap.size rfl 26 V (0, 0) _ hg Try.underlying26 rfl hsz ?_ | refine wpList_load_row rfl 38 _ rfl (w.heap.size + 1) rfl 38 (blkI ks K J S H W L P P1 B) (0, 0) _ hgb Try.underlying38 rfl hs38 ?_)
    refine (bytes15_yes V (blkI ks K J S H W L P P1 B) a1 a2 l1 c1 l2 c2 _ _ hs).mono ?_
    rintro e w1 ⟨rfl, hb1⟩
    have k1 := (Kept.start w V (blkI ks K J S H W L P P1 B)).next hb1
    have c5 : w1.cell? ⟨w.heap.size + 1, 5, none⟩ = some (.int .i64 W) := k1.cell 5
    have c7 : w1.cell? ⟨w.heap.size + 1, 7, none⟩ = some (.int .i64 P) := k1.cell 7
    have c8 : w1.cell? ⟨w.heap.size + 1, 8, none⟩ = some (.int .i64 P1) := k1.cell 8
    clear hb1 hg hgb
    go_wp2_with fail
    go_ret
    exact ⟨rfl, k1.bel⟩
  by_cases x4 : 65536 < W
  · go_enter Try.func7, Try.ntmps7
    go_wp2_with (first | refine wpList_load_row rfl 26 _ rfl w.heap.size rfl 26 V (0, 0) _ hg Try.underlying26 rfl hsz ?_ | refine wpList_load_row rfl 38 _ rfl (w.heap.size + 1) rfl 38 (blkI ks K J S H W L P P1 B) (0, 0) _ hgb Try.underlying38 rfl hs38 ?_)
    refine (bytes15_yes V (blkI ks K J S H W L P P1 B) a1 a2 l1 c1 l2 c2 _ _ hs).mono ?_
    rintro e w1 ⟨rfl, hb1⟩
    have k1 := (Kept.start w V (blkI ks K J S H W L P P1 B)).next hb1
    have c5 : w1.cell? ⟨w.heap.size + 1, 5, none⟩ = some (.int .i64 W) := k1.cell 5
    have c7 : w1.cell? ⟨w.heap.size + 1, 7, none⟩ = some (.int .i64 P) := k1.cell 7
    have c8 : w1.cell? ⟨w.heap.size + 1, 8, none⟩ = some (.int .i64 P1) := k1.cell 8
    clear hb1 hg hgb
    go_wp2_with fail
    go_ret
    exact ⟨rfl, k1.bel⟩
  by_cases x5 : P < 1
  · go_enter Try.func7, Try.ntmps7
    go_wp2_with (first | refine wpList_load_row rfl 26 _ rfl w.heap.size rfl 26 V (0, 0) _ hg Try.underlying26 rfl hsz ?_ | refine wpList_load_row rfl 38 _ rfl (w.heap.size + 1) rfl 38 (blkI ks K J S H W L P P1 B) (0, 0) _ hgb Try.underlying38 rfl hs38 ?_)
    refine (bytes15_yes V (blkI ks K J S H W L P P1 B) a1 a2 l1 c1 l2 c2 _ _ hs).mono ?_
    rintro e w1 ⟨rfl, hb1⟩
    have k1 := (Kept.start w V (blkI ks K J S H W L P P1 B)).next hb1
    have c5 : w1.cell? ⟨w.heap.size + 1, 5, none⟩ = some (.int .i64 W) := k1.cell 5
    have c7 : w1.cell? ⟨w.heap.size + 1, 7, none⟩ = some (.int .i64 P) := k1.cell 7
    have c8 : w1.cell? ⟨w.heap.size + 1, 8, none⟩ = some (.int .i64 P1) := k1.cell 8
    clear hb1 hg hgb
    go_wp2_with fail
    go_ret
    exact ⟨rfl, k1.bel⟩
  by_cases x6 : P1 < P
  · go_enter Try.func7, Try.ntmps7
    go_wp2_with (first | refine wpList_load_row rfl 26 _ rfl w.heap.size rfl 26 V (0, 0) _ hg Try.underlying26 rfl hsz ?_ | refine wpList_load_row rfl 38 _ rfl (w.heap.size + 1) rfl 38 (blkI ks K J S H W L P P1 B) (0, 0) _ hgb Try.underlying38 rfl hs38 ?_)
    refine (bytes15_yes V (blkI ks K J S H W L P P1 B) a1 a2 l1 c1 l2 c2 _ _ hs).mono ?_
    rintro e w1 ⟨rfl, hb1⟩
    have k1 := (Kept.start w V (blkI ks K J S H W L P P1 B)).next hb1
    have c5 : w1.cell? ⟨w.heap.size + 1, 5, none⟩ = some (.int .i64 W) := k1.cell 5
    have c7 : w1.cell? ⟨w.heap.size + 1, 7, none⟩ = some (.int .i64 P) := k1.cell 7
    have c8 : w1.cell? ⟨w.heap.size + 1, 8, none⟩ = some (.int .i64 P1) := k1.cell 8
    clear hb1 hg hgb
    go_wp2_with fail
    go_ret
    exact ⟨rfl, k1.bel⟩
  by_cases x7 : 65536 < P1
  · go_enter Try.func7, Try.ntmps7
    go_wp2_with (first | refine wpList_load_row rfl 26 _ rfl w.heap.size rfl 26 V (0, 0) _ hg Try.underlying26 rfl hsz ?_ | refine wpList_load_row rfl 38 _ rfl (w.heap.size + 1) rfl 38 (blkI ks K J S H W L P P1 B) (0, 0) _ hgb Try.underlying38 rfl hs38 ?_)
    refine (bytes15_yes V (blkI ks K J S H W L P P1 B) a1 a2 l1 c1 l2 c2 _ _ hs).mono ?_
    rintro e w1 ⟨rfl, hb1⟩
    have k1 := (Kept.start w V (blkI ks K J S H W L P P1 B)).next hb1
    have c5 : w1.cell? ⟨w.heap.size + 1, 5, none⟩ = some (.int .i64 W) := k1.cell 5
    have c7 : w1.cell? ⟨w.heap.size + 1, 7, none⟩ = some (.int .i64 P) := k1.cell 7
    have c8 : w1.cell? ⟨w.heap.size + 1, 8, none⟩ = some (.int .i64 P1) := k1.cell 8
    clear hb1 hg hgb
    go_wp2_with fail
    go_ret
    exact ⟨rfl, k1.bel⟩
  · obtain ⟨W, rfl⟩ := Int.eq_ofNat_of_zero_le (show 0 ≤ W by omega)
    obtain ⟨P, rfl⟩ := Int.eq_ofNat_of_zero_le (show 0 ≤ P by omega)
    obtain ⟨P1, rfl⟩ := Int.eq_ofNat_of_zero_le (show 0 ≤ P1 by omega)
    cases hpr : prB P1 with
    | true => exact shape_main V hV T hVT a1 l1 c1 Z a2 l2 c2 R ks K J S H W L P P1 B isi w n1 n2 hZ hR (by omega) (by omega) (by omega) (by omega) (by omega) hpr (by omega) (by omega) hisi
    | false =>
      go_enter Try.func7, Try.ntmps7
      go_wp2_with (first | refine wpList_load_row rfl 26 _ rfl w.heap.size rfl 26 V (0, 0) _ hg Try.underlying26 rfl hsz ?_ | refine wpList_load_row rfl 38 _ rfl (w.heap.size + 1) rfl 38 (blkI ks K J S H (W : Nat) L (P : Nat) (P1 : Nat) B) (0, 0) _ hgb Try.underlying38 rfl hs38 ?_)
      refine (bytes15_yes V (blkI ks K J S H (W : Nat) L (P : Nat) (P1 : Nat) B) a1 a2 l1 c1 l2 c2 _ _ hs).mono ?_
      rintro e w1 ⟨rfl, hb1⟩
      have k1 := (Kept.start w V (blkI ks K J S H (W : Nat) L (P : Nat) (P1 : Nat) B)).next hb1
      have c5 : w1.cell? ⟨w.heap.size + 1, 5, none⟩ = some (.int .i64 W) := k1.cell 5
      have c7 : w1.cell? ⟨w.heap.size + 1, 7, none⟩ = some (.int .i64 P) := k1.cell 7
      have c8 : w1.cell? ⟨w.heap.size + 1, 8, none⟩ = some (.int .i64 P1) := k1.cell 8
      clear hb1 hg hgb
      have HPR := hide hpr
      clear hpr
      go_wp2_with fail
      refine (zzprime_any (P1 : Int) _ (by omega)).mono ?_
      rintro e wx ⟨rfl, hwx⟩
      subst hwx
      rw [Int.toNat_natCast, HPR.out]
      go_wp2_with fail
      go_ret
      exact ⟨rfl, k1.bel⟩

end Go.Proofs.Qxb6603342a
