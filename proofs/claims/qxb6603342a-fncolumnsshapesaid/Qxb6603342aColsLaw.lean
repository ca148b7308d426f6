/-
  THE WALK of the law FnColumnsShape.
-/
import Derived.Test.Qxb6603342aZZCols
import Derived.Test.Qxb6603342aIsPrime
namespace Go.Proofs.Qxb6603342a
open Go.RowKit

/-- What the law reads of the columns. -/
def Shape (W P : Nat) (w : World) (e : Ending) (w' : World) : Prop :=
  ∃ (gc cap n m a s : Nat) (C : Nat → Nat), e = .returned (.slice (some ⟨gc, 0, none⟩) (n + m) cap) ∧ (∀ j, j < n + m → w'.cell? ⟨gc, j, none⟩ = some (.int .i64 (C j : Nat))) ∧ 1 ≤ n ∧ (n ≤ 1 ∨ n ≤ W - 2) ∧ (m = 2 ∨ m = 3 ∧ n < 4) ∧
    (∀ j, j < n → C j = lt a s W j) ∧ (∀ j, n ≤ j → j < n + m → W ≤ C j ∧ C j < W + P) ∧ a < W ∧ 0 < s ∧ s < W ∧ Below w.heap.size w w'

theorem Cols.shape {W P : Nat} {w : World} {e : Ending} {w' : World} (h : Cols W P w e w') : Shape W P w e w' := by
  obtain ⟨v, a, s, n, l, rfl, hown, hn1, hn2, ha, hs0, hs, hl, hall, hb⟩ := h
  have hown' := hown
  rcases hown.2 with ⟨_, h0⟩ | ⟨gc, cap, cur, rfl, hg, hh, hcap, hm, hsz, htake⟩
  · omega
  refine ⟨gc, cap, n, l.length, a, s, fun j => if j < n then lt a s W j else l.getD (j - n) 0, rfl, fun j hj => ?_, hn1, hn2, hl, fun j hj => if_pos hj, fun j h1 h2 => ?_, ha, hs0, hs, hb⟩
  · rw [hown'.cellAt j (by omega)]
    by_cases hjn : j < n
    · rw [List.getElem?_append_left (by simp [lts]; exact hjn)]
      simp [lts, hjn]
    · rw [List.getElem?_append_right (by simp [lts]; omega)]
      have : j - n < l.length := by omega
      simp [lts, pis, hjn, this]
  · show W ≤ (if j < n then lt a s W j else l.getD (j - n) 0) ∧ (if j < n then lt a s W j else l.getD (j - n) 0) < W + P
    rw [if_neg (by omega)]
    have : j - n < l.length := by omega
    rw [List.getD_eq_getElem?_getD, List.getElem?_eq_getElem this]
    exact hall _ (List.getElem_mem this)

/-- The two boxes that the law's own parameters lie in are as they were laid. -/
structure Kept (w : World) (V B : Array Value) (wx : World) : Prop where
  v : wx.heap[w.heap.size]? = some (.cells V 26 (0, 0))
  b : wx.heap[w.heap.size + 1]? = some (.cells B 38 (0, 0))
  bel : Below w.heap.size w wx

theorem Kept.start (w : World) (V B : Array Value) : Kept w V B ((w.alloc (.cells V 26)).alloc (.cells B 38)) :=
  ⟨heap_alloc2_old _ _ _, heap_alloc2_new _ _ _, ((Below.refl _ _).alloc (Nat.le_refl _) _).alloc (by simp) _⟩

theorem Kept.next {w : World} {V B : Array Value} {wx wy : World} (h : Kept w V B wx) (hb : Below wx.heap.size wx wy) : Kept w V B wy :=
  ⟨(hb.block _ (lt_of_block h.v)).trans h.v, (hb.block _ (lt_of_block h.b)).trans h.b, h.bel.trans (hb.mono h.bel.size)⟩

theorem Kept.cell {w : World} {V B : Array Value} {wx : World} (h : Kept w V B wx) (i : Nat) : wx.cell? ⟨w.heap.size + 1, i, none⟩ = B[i]? := cell_of_row _ _ i B 38 (0, 0) h.b

/-- The loop over the PI columns: it only reads. -/
def L4 (w4 : World) (k m : Nat) (x : Value) (wr : World) : Prop := ∃ q nn : Nat, k ≤ q ∧ q ≤ k + m ∧ x = .int .i64 q ∧ wr = w4.drewN nn

/-- The loop over the steps: it only reads. -/
def L5 (w4 : World) (k : Nat) (x : Value) (wr : World) : Prop := ∃ q nn : Nat, q + 1 ≤ k ∧ x = .int .i64 q ∧ wr = w4.drewN nn

theorem size38 (ks K J S H : Int) (W : Nat) (L : Int) (P P1 : Nat) (B : Int) : (Try.prog.info? 38).map (·.size) = some (blkV ks K J S H W L P P1 B).size := by
  have h : (Try.prog.info? 38).map (·.size) = some 10 := by kernel_rfl
  exact h

set_option maxHeartbeats 2000000 in
set_option maxRecDepth 100000 in
theorem shape_main (V : Array Value) (hV : V.size = 1024) (T : Nat → Int) (hVT : ∀ i, i < 1024 → V[i]? = some (.int .u32 (T i)) ∧ U32 (T i)) (a1 : Option Addr) (l1 c1 : Nat) (Z : Nat → Int) (a2 : Option Addr) (l2 c2 : Nat) (R : Nat → Int)
    (ks K J S H : Int) (W : Nat) (L : Int) (P P1 : Nat) (B isi : Int) (w : World) (n1 : a1 = none → l1 = 0) (n2 : a2 = none → l2 = 0) (hZ : IntsAt w a1 l1 Z) (hR : RowsAt w a2 l2 R)
    (hW : 2 ≤ W) (hW2 : W ≤ 65536) (hP : 1 ≤ P) (hP1 : P ≤ P1) (hP2 : P1 ≤ 65536) (hpr : prB P1 = true) (hl1 : l1 ≤ 65536) (hl2 : l2 ≤ 8192) (hisi : U32 isi) :
    Calls Try.prog 7 #[.agg V, .slice a1 l1 c1, .slice a2 l2 c2, .agg (blkV ks K J S H W L P P1 B), .int .u32 isi] w fun e w' => e = .returned (.bool true) ∧ Below w.heap.size w w' := by
  have hsz := size26 V hV
  have hg : ((w.alloc (.cells V 26)).alloc (.cells (blkV ks K J S H W L P P1 B) 38)).heap[w.heap.size]? = some (.cells V 26 (0, 0)) := heap_alloc2_old _ _ _
  have hgb : ((w.alloc (.cells V 26)).alloc (.cells (blkV ks K J S H W L P P1 B) 38)).heap[w.heap.size + 1]? = some (.cells (blkV ks K J S H W L P P1 B) 38 (0, 0)) := heap_alloc2_new _ _ _
  have hb0 : Below w.heap.size w ((w.alloc (.cells V 26)).alloc (.cells (blkV ks K J S H W L P P1 B) 38)) := ((Below.refl _ _).alloc (Nat.le_refl _) _).alloc (by simp) _
  have hs38 : (Try.prog.info? 38).map (·.size) = some (blkV ks K J S H W L P P1 B).size := size38 _ _ _ _ _ _ _ _ _ _
  go_enter Try.func7, Try.ntmps7
  go_wp2_with (first | refine wpList_load_row rfl 26 _ rfl w.heap.size rfl 26 V (0, 0) _ hg Try.underlying26 rfl hsz ?_ | refine wpList_load_row rfl 38 _ rfl (w.heap.size + 1) rfl 38 (blkV ks K J S H W L P P1 B) (0, 0) _ hgb Try.underlying38 rfl hs38 ?_)
  refine (bytes15_yes V (blkV ks K J S H W L P P1 B) a1 a2 l1 c1 l2 c2 _ _ (by omega)).mono ?_
  rintro e w1 ⟨rfl, hb1⟩
  have k1 := (Kept.start w V (blkV ks K J S H W L P P1 B)).next hb1
  have c5 : w1.cell? ⟨w.heap.size + 1, 5, none⟩ = some (.int .i64 W) := k1.cell 5
  have c7 : w1.cell? ⟨w.heap.size + 1, 7, none⟩ = some (.int .i64 P) := k1.cell 7
  have c8 : w1.cell? ⟨w.heap.size + 1, 8, none⟩ = some (.int .i64 P1) := k1.cell 8
  have HPR := hide hpr
  clear hb1 hpr hg hgb hb0
  go_wp2_with fail
  refine (zzprime_any (P1 : Int) _ (by omega)).mono ?_
  rintro e wx ⟨rfl, hwx⟩
  subst hwx
  rw [Int.toNat_natCast, HPR.out]
  clear c5 c7 c8
  go_wp2_with fail
  refine (cloneU32_u a1 l1 c1 Z _ (by omega) n1 (hZ.below k1.bel)).mono ?_
  rintro e w2 ⟨d1, rfl, hZ2, hb2⟩
  have k2 := k1.next hb2
  clear k1 hb2
  go_wp2_with fail
  refine (cloneRows_u a2 l2 c2 R _ (by omega) n2 (hR.below k2.bel)).mono ?_
  rintro e w3 ⟨d2, rfl, hown3, hb3⟩
  have k3 := k2.next hb3
  have hZ3 := hZ2.below hb3
  have hg3 := k3.v
  have hgb3 := k3.b
  clear k2 hb3 hZ2
  go_wp2_with (first | refine wpList_load_row rfl 26 _ rfl w.heap.size rfl 26 V (0, 0) _ hg3 Try.underlying26 rfl hsz ?_ | refine wpList_load_row rfl 38 _ rfl (w.heap.size + 1) rfl 38 (blkV ks K J S H W L P P1 B) (0, 0) _ hgb3 Try.underlying38 rfl hs38 ?_)
  clear hg3 hgb3
  refine (zzColumns_any V hV T hVT d1 l1 Z d2 l2 R ks K J S H W L P P1 B isi _ hZ3 hown3 hW hW2 hP hP1 hP2 HPR.out hl1 (by omega) hisi).mono ?_
  rintro e w4 hcols
  obtain ⟨gc, cap, n, m, a, s, C, rfl, hcell, hn1, hn2, hm, hlt, hpi, ha, hs0, hs, hb4⟩ := hcols.shape
  have k4 := k3.next hb4
  have c5 : w4.cell? ⟨w.heap.size + 1, 5, none⟩ = some (.int .i64 W) := k4.cell 5
  have HL := hide hlt
  have HP := hide hpi
  have HC := hide hcell
  clear hb4 k3 hcols hZ3 hown3 hlt hpi hcell hZ hR hVT hsz hs38 n1 n2
  go_wp2_with fail
  go_loop [13] (fun x => ∃ k : Nat, k ≤ n ∧ x = .int .i64 k) (fun x => n - (intOf x).toNat)
  case atStart => exact ⟨0, Nat.zero_le _, rfl⟩
  case round =>
    obtain ⟨k, hk, rfl⟩ := hrel
    have hck := HC.out k (by omega)
    by_cases hkn : k < n
    · have hCk : C k < W := by rw [HL.out k hkn]; exact lt_lt a s W ha k
      go_wp2_with fail
      go_round
      case rel => exact ⟨k + 1, by omega, by go_num⟩
      case measure => simp [intOf]; omega
    · obtain rfl : k = n := by omega
      have hCk : W ≤ C k := (HP.out k (by omega) (by omega)).1
      have hms : (2 ≤ m ∧ m ≤ 2) ∨ (3 ≤ m ∧ m ≤ 3 ∧ k < 4) := by omega
      clear hm
      rcases hms with ⟨hlo, hhi⟩ | ⟨hlo, hhi, hn4⟩
      rotate_left
      have hd4 : decide ((4 : Int) ≤ (k : Int)) = false := by simp; omega
      have hd3 : ((k : Int) + (m : Int) - (k : Int) != 3) = false := by simp; omega
      all_goals by_cases hw3 : (W : Int) - 2 < 1
      all_goals
        go_wp2_with fail
        go_loop [16] (fun x => ∃ j : Nat, j ≤ k ∧ x = .int .i64 j) (fun x => k - (intOf x).toNat)
        case atStart => exact ⟨0, Nat.zero_le _, rfl⟩
        case round =>
          obtain ⟨j, hj, rfl⟩ := hrel
          by_cases hjk : j < k
          · have hcj := HC.out j (by omega)
            go_wp2_with fail
            go_round
            case rel => exact ⟨j + 1, by omega, by go_num⟩
            case measure => simp [intOf]; omega
          · obtain rfl : j = k := by omega
            have c7 : w4.cell? ⟨w.heap.size + 1, 7, none⟩ = some (.int .i64 P) := k4.cell 7
            go_wp2_with fail
            go_loopw [17] (fun x wr => L4 w4 j m x wr) (fun x _ => j + m - (intOf x).toNat)
            case atStart => exact ⟨j, 0, Nat.le_refl _, by omega, rfl, rfl⟩
            case round =>
              obtain ⟨q, nn, hq1, hq2, rfl, hwr⟩ := hrel
              subst hwr
              by_cases hqm : q < j + m
              · have hcq := HC.out q hqm
                have hw1 := (HP.out q hq1 hqm).1
                have hw2 := (HP.out q hq1 hqm).2
                have g1 : decide ((C q : Int) < (W : Int)) = false := by simp; omega
                have g2 : decide (C q < W) = false := by simp; omega
                go_wp2_with fail
                go_quiet (fail)
                go_wp2_with fail
                go_roundw
                case rel => exact ⟨q + 1, _, by omega, by omega, by go_num, rfl⟩
                case measure => simp [intOf]; omega
              · by_cases hj2 : 2 ≤ j
                · first | (exfalso; omega) | skip
                  all_goals
                    have h0 := HC.out 0 (by omega)
                    have h1 := HC.out 1 (by omega)
                    have e0 : C 0 = a := HL.out 0 (by omega)
                    have e1 : C 1 = lt a s W 1 := HL.out 1 (by omega)
                    have hC0 : C 0 < W := by rw [e0]; exact ha
                    have hC1 : C 1 < W := by rw [e1]; exact lt_lt a s W ha 1
                    have hst := lt_step a s W ha hs0 hs
                    rw [← e1, ← e0] at hst
                    clear e0 e1
                    rcases hst with ⟨hst1, hst2⟩ | ⟨hst1, hst2⟩
                    all_goals
                      go_wp2_with fail
                      go_quiet (fail)
                      go_wp2_with fail
                      clear hst1 hst2
                      go_loopw [19] (fun x wr => L5 w4 j x wr) (fun x _ => j - (intOf x).toNat)
                      case atStart => exact ⟨0, _, by omega, rfl, rfl⟩
                      case round =>
                        obtain ⟨z, nz, hz, rfl, hwr⟩ := hrel
                        subst hwr
                        by_cases hzj : z + 1 < j
                        · have hcz := HC.out z (by omega)
                          have hcz1 := HC.out (z + 1) (by omega)
                          have hez : C (z + 1) = (C z + s) % W := by rw [HL.out (z + 1) hzj, HL.out z (by omega)]; rfl
                          have hbz : C z < W := by rw [HL.out z (by omega)]; exact lt_lt a s W ha z
                          have hf : (((C z : Int) + (s : Int)) % (W : Int) != ((C (z + 1) : Nat) : Int)) = false := by rw [hez]; simp
                          clear hez
                          go_wp2_with fail
                          go_quiet (fail)
                          go_wp2_with fail
                          go_roundw
                          case rel => exact ⟨z + 1, _, by omega, by go_num, rfl⟩
                          case measure => simp [intOf]; omega
                        · go_wp2_with fail
                          go_ret
                          exact ⟨rfl, below_drewN k4.bel _⟩
                · have hj2' : decide ((2 : Int) ≤ (j : Int)) = false := by simp; omega
                  go_wp2_with fail
                  go_ret
                  exact ⟨rfl, below_drewN k4.bel _⟩

end Go.Proofs.Qxb6603342a
