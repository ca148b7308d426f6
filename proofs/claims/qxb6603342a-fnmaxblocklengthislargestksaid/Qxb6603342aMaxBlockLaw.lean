/-
  THE WALK of the law FnMaxBlockLengthIsLargestK.
-/
import Derived.Test.Qxb6603342aMaxBlock
namespace Go.Proofs.Qxb6603342a
open Go.RowKit

theorem lastK_succ (R : Nat → Int) (m : Nat) : lastK R (m + 1) = R (m * 5) := by
  rw [lastK, if_neg (by omega), Nat.add_sub_cancel]

set_option maxHeartbeats 1000000 in
set_option maxRecDepth 100000 in
theorem maxLaw (V : Array Value) (hV : V.size = 1024) (a1 : Option Addr) (l1 c1 : Nat) (Z : Nat → Int) (a2 : Option Addr) (l2 c2 : Nat) (R : Nat → Int) (w : World)
    (m1 : l1 ≤ maxLen) (m2 : l2 ≤ maxLen) (n1 : a1 = none → l1 = 0) (n2 : a2 = none → l2 = 0) (hZ : IntsAt w a1 l1 Z) (hR : RowsAt w a2 l2 R) :
    Calls Try.prog 6 #[.agg V, .slice a1 l1 c1, .slice a2 l2 c2] w fun e w' => e = .returned (.bool true) ∧ Below w.heap.size w w' := by
  have hg := heap_alloc_new w (.cells V 26)
  have hsz := size26 V hV
  by_cases hs : l1 + l2 ≤ 1048576
  · by_cases h1 : (65536 : Int) < l1
    · go_enter Try.func6, Try.ntmps6
      go_wp2_with (refine wpList_load_row rfl 26 _ rfl w.heap.size rfl 26 V (0, 0) _ hg Try.underlying26 rfl hsz ?_)
      refine (bytes_yes V a1 a2 l1 c1 l2 c2 _ hs).mono ?_
      rintro e w1 ⟨rfl, hb1⟩
      have hb0 : Below w.heap.size w w1 := ((Below.refl _ _).alloc (Nat.le_refl _) _).trans (hb1.mono (by simp))
      go_wp2
      go_ret
      exact ⟨rfl, hb0⟩
    by_cases h2 : (8192 : Int) < l2
    · go_enter Try.func6, Try.ntmps6
      go_wp2_with (refine wpList_load_row rfl 26 _ rfl w.heap.size rfl 26 V (0, 0) _ hg Try.underlying26 rfl hsz ?_)
      refine (bytes_yes V a1 a2 l1 c1 l2 c2 _ hs).mono ?_
      rintro e w1 ⟨rfl, hb1⟩
      have hb0 : Below w.heap.size w w1 := ((Below.refl _ _).alloc (Nat.le_refl _) _).trans (hb1.mono (by simp))
      go_wp2
      go_ret
      exact ⟨rfl, hb0⟩
    go_enter Try.func6, Try.ntmps6
    go_wp2_with (refine wpList_load_row rfl 26 _ rfl w.heap.size rfl 26 V (0, 0) _ hg Try.underlying26 rfl hsz ?_)
    refine (bytes_yes V a1 a2 l1 c1 l2 c2 _ hs).mono ?_
    rintro e w1 ⟨rfl, hb1⟩
    have hb0 : Below w.heap.size w w1 := ((Below.refl _ _).alloc (Nat.le_refl _) _).trans (hb1.mono (by simp))
    have hV1 : w1.heap[w.heap.size]? = some (.cells V 26 (0, 0)) := (hb1.block _ (by simp)).trans hg
    clear hb1 hg
    go_wp2
    go_loopw [7] (fun i wr => ∃ k : Nat, 1 ≤ k ∧ k ≤ l2 + 1 ∧ i = .int .i64 k ∧ (∀ j, 1 ≤ j → j < k → R ((j - 1) * 5) ≤ R (j * 5)) ∧ wr.heap[w.heap.size]? = some (.cells V 26 (0, 0)) ∧ Below w.heap.size w wr) (fun i _ => l2 + 1 - (intOf i).toNat)
    case atStart => exact ⟨1, Nat.le_refl _, by omega, rfl, fun j h1 h2 => by omega, hV1, hb0⟩
    case round =>
      obtain ⟨k, hk1, hk2, rfl, hasc, hVr, hbr⟩ := hrel
      have HA := hide hasc
      clear hasc hV1 hb0
      by_cases hlt : k < l2
      · obtain ⟨b, off, hx, hbs, hc⟩ := hR (by omega)
        obtain rfl : a2 = some ⟨b, off, none⟩ := hx
        have e1 : wr.cell? ⟨b, off + k * 5, none⟩ = some (.int .i64 (R (k * 5))) := (hbr.cell hbs).trans (hc (k * 5) (by omega))
        have e2 : wr.cell? ⟨b, off + (k - 1) * 5, none⟩ = some (.int .i64 (R ((k - 1) * 5))) := (hbr.cell hbs).trans (hc ((k - 1) * 5) (by omega))
        clear hc
        by_cases hd : R (k * 5) < R ((k - 1) * 5)
        · go_wp2
          go_quiet (fail)
          go_wp2
          go_ret
          exact ⟨rfl, below_drewN hbr _⟩
        · go_wp2
          go_quiet (fail)
          go_wp2
          go_roundw
          case rel =>
            refine ⟨k + 1, by omega, by omega, by go_num, fun j h1 h2 => ?_, hVr, below_drewN hbr _⟩
            by_cases e : j = k
            · subst e; omega
            · exact HA.out j h1 (by omega)
          case measure => simp [intOf]; omega
      · have HA2 : Hid (∀ j, 1 ≤ j → j < l2 → R ((j - 1) * 5) ≤ R (j * 5)) := fun j h1 h2 => HA.out j h1 (by omega)
        clear HA
        have hZr : IntsAt wr a1 l1 Z := hZ.below hbr
        have hRr : RowsAt wr a2 l2 R := hR.below hbr
        go_wp2_with fail
        refine (cloneU32_u a1 l1 c1 Z _ (by omega) n1 hZr).mono ?_
        rintro e w2 ⟨d1, rfl, _, hb2⟩
        have hRr2 : RowsAt w2 a2 l2 R := hRr.below hb2
        have hbw2 : Below w.heap.size w w2 := hbr.trans (hb2.mono hbr.size)
        have hV2 : w2.heap[w.heap.size]? = some (.cells V 26 (0, 0)) := (hb2.block _ (lt_of_block hVr)).trans hVr
        clear hRr hZr hVr hbr hb2
        go_wp2_with fail
        refine (cloneRows_u a2 l2 c2 R _ (by omega) n2 hRr2).mono ?_
        rintro e w3 ⟨d2, rfl, hown3, hb3⟩
        have hbw3 : Below w.heap.size w w3 := hbw2.trans (hb3.mono hbw2.size)
        have hV3 : w3.heap[w.heap.size]? = some (.cells V 26 (0, 0)) := (hb3.block _ (lt_of_block hV2)).trans hV2
        clear hRr2 hbw2 hb3 hV2
        go_wp2_with (refine wpList_load_row rfl 26 _ rfl w.heap.size rfl 26 V (0, 0) _ hV3 Try.underlying26 rfl hsz ?_)
        refine (code_u V hV d1 l1 l1 d2 l2 R _ (by omega) hown3).mono ?_
        rintro e w4 ⟨g, s, rfl, hg4, hrow4, hsys4, hb4⟩
        have hbw4 : Below w.heap.size w w4 := hbw3.trans (hb4.mono hbw3.size)
        have hown4 := hown3.below hb4
        clear hbw3 hb4 hV3 hown3
        go_wp2_with fail
        refine (maxBlock_u V _ s l2 R g _ (by omega) hrow4 hsys4).mono ?_
        rintro e w5 ⟨rfl, n5, rfl⟩
        clear hrow4 hsys4
        go_wp2_with fail
        go_loop [10, 11] (fun c i => ∃ m : Nat, m ≤ l2 ∧ i = .int .i64 m ∧ c = .int .i64 (lastK R m)) (fun _ i => l2 - (intOf i).toNat)
        case atStart => exact ⟨0, Nat.zero_le _, rfl, rfl⟩
        case round =>
          obtain ⟨m, hm, rfl, rfl⟩ := hrel
          by_cases hml : m < l2
          · obtain ⟨b, hx, hc⟩ := hown4.cell (by omega)
            obtain rfl : d2 = some ⟨b, 0, none⟩ := hx
            have e1 : w4.cell? ⟨b, m * 5, none⟩ = some (.int .i64 (R (m * 5))) := hc (m * 5) (by omega)
            have HK : Hid (lastK R (m + 1) = R (m * 5)) := lastK_succ R m
            clear hc hown4
            by_cases h0 : m = 0
            · have h0' : ((m : Int) == 0) = true := by simp [h0]
              have H0 := hide h0
              clear h0
              go_wp2
              go_round
              case rel => exact ⟨m + 1, by omega, by go_num, by rw [HK.out]⟩
              case measure => simp [intOf]; omega
            · have h0' : ((m : Int) == 0) = false := by simp [h0]
              have HL : Hid (lastK R m ≤ R (m * 5)) := by
                show lastK R m ≤ R (m * 5)
                rw [lastK, if_neg h0]; exact HA2.out m (by omega) hml
              by_cases hgt : lastK R m < R (m * 5)
              · go_wp2
                go_round
                case rel => exact ⟨m + 1, by omega, by go_num, by rw [HK.out]⟩
                case measure => simp [intOf]; omega
              · have HE : Hid (lastK R m = R (m * 5)) := by
                  have := HL.out
                  show lastK R m = R (m * 5)
                  omega
                go_wp2
                go_round
                case rel => exact ⟨m + 1, by omega, by go_num, by rw [HK.out, HE.out]⟩
                case measure => simp [intOf]; omega
          · obtain rfl : m = l2 := by omega
            go_wp2
            go_ret
            exact ⟨rfl, below_drewN hbw4 _⟩
  · go_enter Try.func6, Try.ntmps6
    go_wp2_with (refine wpList_load_row rfl 26 _ rfl w.heap.size rfl 26 V (0, 0) _ hg Try.underlying26 rfl hsz ?_)
    refine (bytes_no V a1 a2 l1 c1 l2 c2 _ m1 m2 hs).mono ?_
    rintro e w1 ⟨rfl, hb1⟩
    have hb0 : Below w.heap.size w w1 := ((Below.refl _ _).alloc (Nat.le_refl _) _).trans (hb1.mono (by simp))
    go_wp2
    go_ret
    exact ⟨rfl, hb0⟩

end Go.Proofs.Qxb6603342a
