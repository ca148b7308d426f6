/-
  THE WALK of the law FnFingerprintsAddAgainstSet.
-/
import Derived.Test.Qxb6603362aSetLook
import Derived.Test.Qxb6603362aPlain5
import Derived.Test.Qxb6603362aScript
import Derived.Deep.RegionHeld3
namespace Go.Proofs.Qxb6603362a
open Go.RowKit
attribute [local go_sem] eqFP

/-- The loop over the grown table. -/
def SetG (l : Nat) (w9 : World) (c : Value) (wr : World) : Prop := ∃ j : Nat, j ≤ l ∧ c = .int .i64 j ∧ Below w9.heap.size w9 wr

/-- The loop over a table that did not turn. -/
def SetN (l : Nat) (w9 : World) (c : Value) (wr : World) : Prop := ∃ j nn : Nat, j ≤ l ∧ c = .int .i64 j ∧ wr = w9.drewN nn
/-- The loop over a table in which slot k turned. -/
def SetO (l k : Nat) (w9 : World) (c23 c24 c25 : Value) (wr : World) : Prop := ∃ (j nn : Nat) (z1 z2 : Int), j ≤ l ∧ c25 = .int .i64 j ∧ c23 = .int .i64 z1 ∧ c24 = .int .i64 z2 ∧ z1 = (if k < j then 1 else 0) ∧ z2 = (if k < j then (k : Int) else -1) ∧ wr = w9.drewN nn

set_option maxRecDepth 20000 in
set_option maxHeartbeats 16000000 in
theorem set_main (bi off l cap n : Nat) (max : Int) (y : Int × Int) (F : Nat → Int × Int) (w : World) (hl : Pow2 l) (hl2 : l ≤ 32768) (hS : Slots w bi off l F) (hw : Words l F) (hF : Inv l F) (hn : cnt l F = n) (h1 : U64 y.1) (h2 : U64 y.2) :
    Calls Try.prog 6 #[.slice (some ⟨bi, off, none⟩) l cap, .int .i64 n, .int .i64 max, .agg #[.int .u64 y.1, .int .u64 y.2]] w fun e w' => e = .returned (.bool true) ∧ Below w.heap.size w w' := by
  have hp := hl.pos
  have hnl : n ≤ l := by rw [← hn]; exact cnt_le l F
  have hpb := (pow2B_iff l (by omega)).2 hl
  have HB := hide hpb
  clear hpb
  go_enter Try.func6, Try.ntmps6
  go_wp2_with fail
  refine (bytes9_yes _ _ _ _ _ _ _ (by omega)).mono ?_
  rintro e w1 ⟨rfl, hw1⟩
  have hb1 : Below w.heap.size w w1 := by rw [hw1]; exact ((Below.refl _ _).alloc (Nat.le_refl _) _).alloc (by simp) _
  go_wp2_with fail
  refine (pow2_any l _ (by omega)).mono ?_
  rintro e w1' ⟨rfl, hw1'⟩
  subst hw1'
  rw [HB.out]
  have hbox1 : ((w.alloc (.cells #[.int .u64 y.1, .int .u64 y.2] 29)).alloc (.cells #[.int .u64 y.1, .int .u64 y.2] 29)).heap[w.heap.size]? = some (.cells #[.int .u64 y.1, .int .u64 y.2] 29 (0, 0)) := by
    rw [Below.heap_alloc _ _ _ (by simp)]
    exact heap_alloc_new _ _
  subst hw1
  go_wp2_with fail
  refine (wf_any bi off l F cap n _ (by exact hS.below hb1) hl (by omega) hw).mono ?_
  rintro e w2 ⟨r2, rfl, hr2, hb2⟩
  have hr2' := hr2.2 ⟨hF, by rw [hn]⟩
  subst hr2'
  clear hr2
  have hbel2 : Below w.heap.size w w2 := hb1.trans (hb2.mono hb1.size)
  have hS2 : Slots w2 bi off l F := hS.below hbel2
  have hbox2 : w2.heap[w.heap.size]? = some (.cells #[.int .u64 y.1, .int .u64 y.2] 29 (0, 0)) := (hb2.block _ (by simp; omega)).trans hbox1
  have hlt2 := lt_of_block hbox2
  clear hb1 hb2 hbox1 hS
  go_wp2_with fail
  refine (clone_any ⟨bi, off, none⟩ l cap F _ (by omega) (fun _ => ⟨bi, off, rfl, hS2⟩)).mono ?_
  rintro e w3 ⟨rfl, hT3, hb3⟩
  have hlt3 : w2.heap.size < w3.heap.size := hT3.lt
  have hbox3 := (hb3.block _ hlt2).trans hbox2
  have hbel3 : Below w.heap.size w w3 := hbel2.trans (hb3.mono hbel2.size)
  clear hb3 hbox2 hbel2 hS2
  go_wp2_with fail
  refine (clone_any ⟨w2.heap.size, 0, none⟩ l l F _ (by omega) (fun _ => ⟨w2.heap.size, 0, rfl, hT3.slots⟩)).mono ?_
  rintro e w4 ⟨rfl, hT4, hb4⟩
  have hlt4 : w3.heap.size < w4.heap.size := hT4.lt
  have hbox4 := (hb4.block _ (by omega)).trans hbox3
  have hbel4 : Below w.heap.size w w4 := hbel3.trans (hb4.mono hbel3.size)
  have hS4 : Tab w4 w2.heap.size l F := hT3.below hb4
  clear hb4 hbox3 hbel3 hT3
  have hy0 : w4.cell? ⟨w.heap.size, 0, none⟩ = some (.int .u64 y.1) := by simp [World.cell?, hbox4]
  have hy1 : w4.cell? ⟨w.heap.size, 1, none⟩ = some (.int .u64 y.2) := by simp [World.cell?, hbox4]
  go_wp2_with fail
  refine (norm_any y _).mono ?_
  rintro e wn ⟨rfl, c1, c2, hwn⟩
  subst hwn
  clear hy0 hy1
  have hba : Below w4.heap.size w4 (((w4.alloc (.cells c1 29)).alloc (.cells c2 29)).alloc (.cells #[.int .u64 (norm y).1, .int .u64 (norm y).2] 29)) := (((Below.refl _ _).alloc (Nat.le_refl _) _).alloc (by simp) _).alloc (by simp; omega) _
  have hx4 : (((w4.alloc (.cells c1 29)).alloc (.cells c2 29)).alloc (.cells #[.int .u64 (norm y).1, .int .u64 (norm y).2] 29)).heap[w4.heap.size + 1 + 1]? = some (.cells #[.int .u64 (norm y).1, .int .u64 (norm y).2] 29 (0, 0)) := heap3 _ _ _ _
  go_wp2_with fail
  refine (anywhere_any w3.heap.size l F (norm y) l _ (by exact hT4.below hba) (by omega)).mono ?_
  rintro e w5 ⟨r5, rfl, hr5, hb5⟩
  have hT5 : Tab w5 w3.heap.size l F := (hT4.below hba).below hb5
  have hS5 : Tab w5 w2.heap.size l F := (hS4.below hba).below hb5
  have hx5 := (hb5.block _ (lt_of_block hx4)).trans hx4
  have hbox5 := (hb5.block _ (by simp; omega)).trans ((hba.block _ (by omega)).trans hbox4)
  have hbel5 : Below w.heap.size w w5 := (hbel4.trans (hba.mono hbel4.size)).trans (hb5.mono (hbel4.trans (hba.mono hbel4.size)).size)
  have hltx : w4.heap.size + 1 + 1 < w5.heap.size := lt_of_block hx5
  have HR5 := hide hr5
  clear hr5 hb5 hba hx4 hT4 hS4 hbox4 hbel4
  have hx0 : w5.cell? ⟨w4.heap.size + 1 + 1, 0, none⟩ = some (.int .u64 (norm y).1) := by simp [World.cell?, hx5]
  have hx1 : w5.cell? ⟨w4.heap.size + 1 + 1, 1, none⟩ = some (.int .u64 (norm y).2) := by simp [World.cell?, hx5]
  go_wp2_with fail
  refine (full_any w3.heap.size l F (norm y) l _ (by exact hT5) hl (by omega) (norm_words h1 h2).1).mono ?_
  rintro e w6 ⟨r6, rfl, hr6, hb6⟩
  have hT6 : Tab w6 w3.heap.size l F := hT5.below hb6
  have hS6 : Tab w6 w2.heap.size l F := hS5.below hb6
  have hx6 : w6.heap[w4.heap.size + 1 + 1]? = some (.cells #[.int .u64 (norm y).1, .int .u64 (norm y).2] 29 (0, 0)) := (hb6.block _ hltx).trans hx5
  have hbox6 : w6.heap[w.heap.size]? = some (.cells #[.int .u64 y.1, .int .u64 y.2] 29 (0, 0)) := (hb6.block _ (by omega)).trans hbox5
  have hbel6 : Below w.heap.size w w6 := hbel5.trans (hb6.mono hbel5.size)
  have hlt6 : w5.heap.size ≤ w6.heap.size := hb6.size
  have HR6 := hide hr6
  clear hr6 hb6 hx5 hT5 hS5 hbox5 hbel5 hx0 hx1
  have hy0 : w6.cell? ⟨w.heap.size, 0, none⟩ = some (.int .u64 y.1) := by simp [World.cell?, hbox6]
  have hy1 : w6.cell? ⟨w.heap.size, 1, none⟩ = some (.int .u64 y.2) := by simp [World.cell?, hbox6]
  have hxz := norm_nonzero y
  have HXZ := hide hxz
  clear hxz
  have hmm : (max != max) = false := by simp
  by_cases hg : 3 * (l : Int) ≤ 4 * (n : Int) ∧ (l : Int) < max
  · have hg1 := hg.1
    have hg2 := hg.2
    have HG := hide hg
    clear hg
    go_wp2_with fail
    refine (zzadd_any w2.heap.size l F n max y _ (by exact hS6) hl (by omega) hnl hw h1 h2).mono ?_
    rintro e w7 ⟨b', l', F', n', r, rfl, hres, hT7, hb7, hsep⟩
    obtain ⟨rfl, hnear⟩ := grown_of hres hp hF HG.out
    have hboth := both_of hres hp hF hn HXZ.out
    have HN := hide hnear
    have HBO := hide hboth
    have hwF' := words_step hres hw (norm_words h1 h2).1 (norm_words h1 h2).2
    have hQ7 : Tab w7 w3.heap.size l F := hT6.of_block (hsep.block _ hT6.lt (by omega) (by omega))
    have hx7 : w7.heap[w4.heap.size + 1 + 1]? = some (.cells #[.int .u64 (norm y).1, .int .u64 (norm y).2] 29 (0, 0)) := (hsep.block _ (by omega) (by omega) (by omega)).trans hx6
    have hbel7 : Below w.heap.size w w7 := hbel6.trans (hsep.below (by omega) (by omega) hbel6.size)
    clear hnear hboth hres hb7 hsep hS6 hT6 hx6 hbox6 hbel6 hy0 hy1
    have hl' : Pow2 (2 * l) := hl.two (by omega)
    go_wp2_with fail
    refine (wf_any b' 0 (2 * l) F' (2 * l) n' _ (by exact hT7.slots) hl' (by omega) hwF').mono ?_
    rintro e w8 ⟨r8, rfl, hr8, hb8⟩
    have hr8' := hr8.2 ⟨HBO.out.inv, by rw [HBO.out.num]⟩
    subst hr8'
    clear hr8
    have hT8 : Tab w8 b' (2 * l) F' := hT7.below hb8
    have hQ8 : Tab w8 w3.heap.size l F := hQ7.below hb8
    have hx8 : w8.heap[w4.heap.size + 1 + 1]? = some (.cells #[.int .u64 (norm y).1, .int .u64 (norm y).2] 29 (0, 0)) := (hb8.block _ (lt_of_block hx7)).trans hx7
    have hbel8 : Below w.heap.size w w8 := hbel7.trans (hb8.mono hbel7.size)
    have hltx8 : w4.heap.size + 1 + 1 < w8.heap.size := lt_of_block hx8
    clear hb8 hx7 hT7 hQ7 hbel7
    have hx0 : w8.cell? ⟨w4.heap.size + 1 + 1, 0, none⟩ = some (.int .u64 (norm y).1) := by simp [World.cell?, hx8]
    have hx1 : w8.cell? ⟨w4.heap.size + 1 + 1, 1, none⟩ = some (.int .u64 (norm y).2) := by simp [World.cell?, hx8]
    go_wp2_with fail
    refine (near_any b' (2 * l) F' (norm y) (2 * l) _ (by exact hT8) hl' (by omega) (norm_words h1 h2).1).mono ?_
    rintro e w9 ⟨r9, rfl, hr9, hb9⟩
    have hr9' := hr9.2 HBO.out.near
    subst hr9'
    clear hr9
    have hT9 : Tab w9 b' (2 * l) F' := hT8.below hb9
    have hQ9 : Tab w9 w3.heap.size l F := hQ8.below hb9
    have hx9 : w9.heap[w4.heap.size + 1 + 1]? = some (.cells #[.int .u64 (norm y).1, .int .u64 (norm y).2] 29 (0, 0)) := (hb9.block _ hltx8).trans hx8
    have hbel9 : Below w.heap.size w w9 := hbel8.trans (hb9.mono hbel8.size)
    have hltx9 : w4.heap.size + 1 + 1 < w9.heap.size := lt_of_block hx9
    have hltb9 := hT9.lt
    have hltq9 := hQ9.lt
    clear hb9 hx8 hT8 hQ8 hbel8 hx0 hx1
    have hrr : r = true ∨ r5 = true := by
      cases r
      · exact Or.inr (HR5.out.2 (HBO.out.held rfl))
      · exact Or.inl rfl
    have hnn : (((2 * l : Nat) : Int) != 2 * (l : Int)) = false := by simp
    cases r <;> cases r5
    · rcases hrr with h | h <;> cases h
    all_goals
      clear hrr
      go_wp2_with fail
      go_loopw [20] (fun c wr => SetG (2 * l) w9 c wr) (fun c _ => 2 * l - (intOf c).toNat)
      case atStart => exact ⟨0, Nat.zero_le _, rfl, Below.refl _ _⟩
      case round =>
        obtain ⟨j, hj, rfl, hbr⟩ := hrel
        have hTr : Tab wr b' (2 * l) F' := hT9.below hbr
        have hQr : Tab wr w3.heap.size l F := hQ9.below hbr
        have hxr := (hbr.block _ hltx9).trans hx9
        have hltr : w4.heap.size + 1 + 1 < wr.heap.size := lt_of_block hxr
        have hltbr := hTr.lt
        have hltqr := hQr.lt
        have hx0 : wr.cell? ⟨w4.heap.size + 1 + 1, 0, none⟩ = some (.int .u64 (norm y).1) := by simp [World.cell?, hxr]
        have hx1 : wr.cell? ⟨w4.heap.size + 1 + 1, 1, none⟩ = some (.int .u64 (norm y).2) := by simp [World.cell?, hxr]
        by_cases hj' : j < 2 * l
        · have e0 := hTr.cell0 hj'
          have e1 := hTr.cell1 hj'
          by_cases hz : F' j = (0, 0)
          · have g1 := feq_zero hz
            clear hz
            go_wp2_with fail
            exact ⟨⟨j + 1, by omega, by go_num, hbr.alloc hbr.size _⟩, by simp [intOf]; omega⟩
          · have g1 := feq_nonzero hz
            by_cases hq : F' j = norm y
            · have g2 := feq_yes hq
              clear hz hq
              go_wp2_with fail
              exact ⟨⟨j + 1, by omega, by go_num, hbr.alloc hbr.size _⟩, by simp [intOf]; omega⟩
            · have g2 := feq_no hq
              have HNJ := hide (HN.out j hj' hz hq)
              clear hz hq
              have hbal : Below wr.heap.size wr (wr.alloc (.cells #[.int .u64 (F' j).1, .int .u64 (F' j).2] 29)) := (Below.refl _ _).alloc (Nat.le_refl _) _
              have hQl := hQr.below hbal
              go_wp2_with fail
              refine (near_any w3.heap.size l F (F' j) l _ (by exact hQl) hl (by omega) (hwF' j hj').1).mono ?_
              rintro e wk ⟨rk, rfl, hrk, hbk⟩
              have hrk' := hrk.2 HNJ.out
              subst hrk'
              have hbrk : Below w9.heap.size w9 wk := (hbr.trans (hbal.mono hbr.size)).trans (hbk.mono (hbr.trans (hbal.mono hbr.size)).size)
              clear hrk hbk hbal hQl e0 e1 g1 g2
              go_wp2_with fail
              exact ⟨⟨j + 1, by omega, by go_num, hbrk⟩, by simp [intOf]; omega⟩
        · go_wp2_with fail
          go_ret
          exact ⟨rfl, hbel9.trans (hbr.mono hbel9.size)⟩
  · have HG := hide hg
    clear hg
    by_cases hg1 : 3 * (l : Int) ≤ 4 * (n : Int)
    · have hg2 : ¬ (l : Int) < max := fun h => HG.out ⟨hg1, h⟩
      go_wp2_with fail
      refine (zzadd_any w2.heap.size l F n max y _ (by exact hS6) hl (by omega) hnl hw h1 h2).mono ?_
      rintro e w7 ⟨b', l', F', n', r, rfl, hres, hT7, hb7, hsep⟩
      obtain ⟨rfl, hrh, hno, hyes⟩ := still_of hres hp hF HXZ.out HG.out HR6.out
      have hboth := both_of hres hp hF hn HXZ.out
      have HBO := hide hboth
      have hwF' := words_step hres hw (norm_words h1 h2).1 (norm_words h1 h2).2
      have hQ7 : Tab w7 w3.heap.size l' F := hT6.of_block (hsep.block _ hT6.lt (by omega) (by omega))
      have hx7 : w7.heap[w4.heap.size + 1 + 1]? = some (.cells #[.int .u64 (norm y).1, .int .u64 (norm y).2] 29 (0, 0)) := (hsep.block _ (by omega) (by omega) (by omega)).trans hx6
      have hbel7 : Below w.heap.size w w7 := hbel6.trans (hsep.below (by omega) (by omega) hbel6.size)
      have HRH := hide hrh
      have HNO := hide hno
      have HYES := hide hyes
      clear hrh hno hyes hboth hres hb7 hsep hS6 hT6 hx6 hbox6 hbel6 hy0 hy1
      go_wp2_with fail
      refine (wf_any b' 0 l' F' l' n' _ (by exact hT7.slots) hl (by omega) hwF').mono ?_
      rintro e w8 ⟨r8, rfl, hr8, hb8⟩
      have hr8' := hr8.2 ⟨HBO.out.inv, by rw [HBO.out.num]⟩
      subst hr8'
      clear hr8
      have hT8 : Tab w8 b' l' F' := hT7.below hb8
      have hQ8 : Tab w8 w3.heap.size l' F := hQ7.below hb8
      have hx8 : w8.heap[w4.heap.size + 1 + 1]? = some (.cells #[.int .u64 (norm y).1, .int .u64 (norm y).2] 29 (0, 0)) := (hb8.block _ (lt_of_block hx7)).trans hx7
      have hbel8 : Below w.heap.size w w8 := hbel7.trans (hb8.mono hbel7.size)
      have hltx8 : w4.heap.size + 1 + 1 < w8.heap.size := lt_of_block hx8
      clear hb8 hx7 hT7 hQ7 hbel7
      have hx0 : w8.cell? ⟨w4.heap.size + 1 + 1, 0, none⟩ = some (.int .u64 (norm y).1) := by simp [World.cell?, hx8]
      have hx1 : w8.cell? ⟨w4.heap.size + 1 + 1, 1, none⟩ = some (.int .u64 (norm y).2) := by simp [World.cell?, hx8]
      go_wp2_with fail
      refine (near_any b' l' F' (norm y) l' _ (by exact hT8) hl (by omega) (norm_words h1 h2).1).mono ?_
      rintro e w9 ⟨r9, rfl, hr9, hb9⟩
      have hr9' := hr9.2 HBO.out.near
      subst hr9'
      clear hr9
      have hT9 : Tab w9 b' l' F' := hT8.below hb9
      have hQ9 : Tab w9 w3.heap.size l' F := hQ8.below hb9
      have hx9 : w9.heap[w4.heap.size + 1 + 1]? = some (.cells #[.int .u64 (norm y).1, .int .u64 (norm y).2] 29 (0, 0)) := (hb9.block _ hltx8).trans hx8
      have hbel9 : Below w.heap.size w w9 := hbel8.trans (hb9.mono hbel8.size)
      have hltx9 : w4.heap.size + 1 + 1 < w9.heap.size := lt_of_block hx9
      have hltb9 := hT9.lt
      have hltq9 := hQ9.lt
      clear hb9 hx8 hT8 hQ8 hbel8 hx0 hx1
      have hx0 : w9.cell? ⟨w4.heap.size + 1 + 1, 0, none⟩ = some (.int .u64 (norm y).1) := by simp [World.cell?, hx9]
      have hx1 : w9.cell? ⟨w4.heap.size + 1 + 1, 1, none⟩ = some (.int .u64 (norm y).2) := by simp [World.cell?, hx9]
      have hll : ((l' : Int) != (l' : Int)) = false := by simp
      cases r
      · have hr5 : r5 = true := HR5.out.2 (HRH.out.1 rfl)
        obtain ⟨hn', hF'⟩ := HNO.out rfl
        subst hr5 hn' hF'
        go_wp2_with fail
        go_loopw [22] (fun c wr => SetN l' w9 c wr) (fun c _ => l' - (intOf c).toNat)
        case atStart => exact ⟨0, 0, Nat.zero_le _, rfl, rfl⟩
        case round =>
          obtain ⟨j, nn, hj, rfl, hwr⟩ := hrel
          subst hwr
          by_cases hj' : j < l'
          · have e0 := hT9.cell0 hj'
            have e1 := hT9.cell1 hj'
            have q0 := hQ9.cell0 hj'
            have q1 := hQ9.cell1 hj'
            have g1 := feq_yes (rfl : F' j = F' j)
            go_wp2_with fail
            go_quiet (fail)
            go_wp2_with fail
            go_roundw
            case rel => exact ⟨j + 1, _, by omega, by go_num, rfl⟩
            case measure => simp [intOf]; omega
          · go_wp2_with fail
            go_ret
            exact ⟨rfl, below_drewN hbel9 _⟩
      · have hr5 : r5 = false := by
          cases r5
          · rfl
          · exact absurd (HRH.out.2 (HR5.out.1 rfl)) (by simp)
        obtain ⟨k, hone⟩ := HYES.out rfl
        have HO := hide hone
        have hkl := hone.lt
        clear hone
        subst hr5
        go_wp2_with fail
        go_loopw [23, 24, 25] (fun c23 c24 c25 wr => SetO l' k w9 c23 c24 c25 wr) (fun _ _ c _ => l' - (intOf c).toNat)
        case atStart => exact ⟨0, 0, _, _, Nat.zero_le _, rfl, rfl, rfl, by simp, by simp, rfl⟩
        case round =>
          obtain ⟨j, nn, z1, z2, hj, rfl, rfl, rfl, hz1, hz2, hwr⟩ := hrel
          subst hwr
          by_cases hj' : j < l'
          · have e0 := hT9.cell0 hj'
            have e1 := hT9.cell1 hj'
            have q0 := hQ9.cell0 hj'
            have q1 := hQ9.cell1 hj'
            by_cases hjk : j = k
            · subst hjk
              have g1 := feq_no (p := F' j) (q := F j) (by rw [HO.out.upd, upd_same]; exact fun e => HO.out.ne e.symm)
              rw [if_neg (by omega)] at hz1 hz2
              subst hz1 hz2
              go_wp2_with fail
              go_quiet (fail)
              go_wp2_with fail
              go_roundw
              case rel => exact ⟨j + 1, _, _, _, by omega, by go_num, by go_num, rfl, by simp, by simp, rfl⟩
              case measure => simp [intOf]; omega
            · have g1 := feq_yes (p := F' j) (q := F j) (by rw [HO.out.upd, upd_other _ _ hjk])
              have HZ1 := hide hz1
              have HZ2 := hide hz2
              clear hz1 hz2
              go_wp2_with fail
              go_quiet (fail)
              go_wp2_with fail
              go_roundw
              case rel =>
                refine ⟨j + 1, _, _, _, by omega, by go_num, rfl, rfl, ?_, ?_, rfl⟩
                · rw [HZ1.out]
                  by_cases h : k < j
                  · rw [if_pos h, if_pos (by omega)]
                  · rw [if_neg h, if_neg (by omega)]
                · rw [HZ2.out]
                  by_cases h : k < j
                  · rw [if_pos h, if_pos (by omega)]
                  · rw [if_neg h, if_neg (by omega)]
              case measure => simp [intOf]; omega
          · obtain rfl : j = l' := by omega
            rw [if_pos hkl] at hz1 hz2
            subst hz1 hz2
            have e0 := hT9.cell0 hkl
            have e1 := hT9.cell1 hkl
            have q0 := hQ9.cell0 hkl
            have q1 := hQ9.cell1 hkl
            have g1 := feq_yes (p := F' k) (q := norm y) (by rw [HO.out.upd, upd_same])
            rcases HO.out.how with ⟨hf, hz, hn'⟩ | ⟨hf, hz, hn', hk⟩
            · have g2 := feq_zero hz
              clear hz
              subst hf hn'
              go_wp2_with fail
              go_quiet (fail)
              go_wp2_with fail
              go_ret
              exact ⟨rfl, below_drewN hbel9 _⟩
            · have g2 := feq_nonzero hz
              clear hz
              have HK := hide hk
              clear hk
              subst hf hn'
              go_wp2_with fail
              go_quiet (fail)
              go_wp2_with fail
              clear e0 e1 q0 q1 g1
              have hu := (norm_words h1 h2).1
              have hpl := place_lt (norm y) hp
              have hpc := place_cast (norm y) hp
              have hwin := win_int j (norm y) ((norm y).2 % 32).toNat hl
              rw [Int.toNat_of_nonneg (show 0 ≤ (norm y).2 % 32 by omega)] at hwin
              have hkw : ((k : Int) == ((win j (norm y) ((norm y).2 % 32).toNat : Nat) : Int)) = true := by
                rw [← HK.out]; simp
              go_region_held3 (fun w' => w'.cell? ⟨w4.heap.size + 1 + 1, 0, none⟩ = some (.int .u64 (norm y).1) ∧ w'.cell? ⟨w4.heap.size + 1 + 1, 1, none⟩ = some (.int .u64 (norm y).2)) (go_keep) (first | (go_at_call 18; refine (place_any (norm y).1 (norm y).2 j _ hl hu).mono ?_; rintro e w' ⟨rfl, rfl⟩))
              have hval : ((k : Int) == bits .and .i64 (IntKind.i64.wrap ((place j (norm y) : Int) + IntKind.i64.wrap ((norm y).2.tmod 32))) ((j : Int) - 1)) = true := by
                rw [Int.tmod_eq_emod_of_nonneg (norm_words h1 h2).2.1]
                have t1 : IntKind.i64.wrap ((norm y).2 % 32) = (norm y).2 % 32 := IntWalk.i64_in _ ⟨by omega, by omega⟩
                have t2 : IntKind.i64.wrap ((place j (norm y) : Int) + (norm y).2 % 32) = (place j (norm y) : Int) + (norm y).2 % 32 := IntWalk.i64_in _ ⟨by omega, by omega⟩
                rw [t1, t2, hwin]
                exact hkw
              rw [hval]
              go_wp2_with fail
              go_ret
              exact ⟨rfl, (below_drewN hbel9 _).alloc (by have := hbel9.size; simpa using this) _⟩
    · go_wp2_with fail
      refine (zzadd_any w2.heap.size l F n max y _ (by exact hS6) hl (by omega) hnl hw h1 h2).mono ?_
      rintro e w7 ⟨b', l', F', n', r, rfl, hres, hT7, hb7, hsep⟩
      obtain ⟨rfl, hrh, hno, hyes⟩ := still_of hres hp hF HXZ.out HG.out HR6.out
      have hboth := both_of hres hp hF hn HXZ.out
      have HBO := hide hboth
      have hwF' := words_step hres hw (norm_words h1 h2).1 (norm_words h1 h2).2
      have hQ7 : Tab w7 w3.heap.size l' F := hT6.of_block (hsep.block _ hT6.lt (by omega) (by omega))
      have hx7 : w7.heap[w4.heap.size + 1 + 1]? = some (.cells #[.int .u64 (norm y).1, .int .u64 (norm y).2] 29 (0, 0)) := (hsep.block _ (by omega) (by omega) (by omega)).trans hx6
      have hbel7 : Below w.heap.size w w7 := hbel6.trans (hsep.below (by omega) (by omega) hbel6.size)
      have HRH := hide hrh
      have HNO := hide hno
      have HYES := hide hyes
      clear hrh hno hyes hboth hres hb7 hsep hS6 hT6 hx6 hbox6 hbel6 hy0 hy1
      go_wp2_with fail
      refine (wf_any b' 0 l' F' l' n' _ (by exact hT7.slots) hl (by omega) hwF').mono ?_
      rintro e w8 ⟨r8, rfl, hr8, hb8⟩
      have hr8' := hr8.2 ⟨HBO.out.inv, by rw [HBO.out.num]⟩
      subst hr8'
      clear hr8
      have hT8 : Tab w8 b' l' F' := hT7.below hb8
      have hQ8 : Tab w8 w3.heap.size l' F := hQ7.below hb8
      have hx8 : w8.heap[w4.heap.size + 1 + 1]? = some (.cells #[.int .u64 (norm y).1, .int .u64 (norm y).2] 29 (0, 0)) := (hb8.block _ (lt_of_block hx7)).trans hx7
      have hbel8 : Below w.heap.size w w8 := hbel7.trans (hb8.mono hbel7.size)
      have hltx8 : w4.heap.size + 1 + 1 < w8.heap.size := lt_of_block hx8
      clear hb8 hx7 hT7 hQ7 hbel7
      have hx0 : w8.cell? ⟨w4.heap.size + 1 + 1, 0, none⟩ = some (.int .u64 (norm y).1) := by simp [World.cell?, hx8]
      have hx1 : w8.cell? ⟨w4.heap.size + 1 + 1, 1, none⟩ = some (.int .u64 (norm y).2) := by simp [World.cell?, hx8]
      go_wp2_with fail
      refine (near_any b' l' F' (norm y) l' _ (by exact hT8) hl (by omega) (norm_words h1 h2).1).mono ?_
      rintro e w9 ⟨r9, rfl, hr9, hb9⟩
      have hr9' := hr9.2 HBO.out.near
      subst hr9'
      clear hr9
      have hT9 : Tab w9 b' l' F' := hT8.below hb9
      have hQ9 : Tab w9 w3.heap.size l' F := hQ8.below hb9
      have hx9 : w9.heap[w4.heap.size + 1 + 1]? = some (.cells #[.int .u64 (norm y).1, .int .u64 (norm y).2] 29 (0, 0)) := (hb9.block _ hltx8).trans hx8
      have hbel9 : Below w.heap.size w w9 := hbel8.trans (hb9.mono hbel8.size)
      have hltx9 : w4.heap.size + 1 + 1 < w9.heap.size := lt_of_block hx9
      have hltb9 := hT9.lt
      have hltq9 := hQ9.lt
      clear hb9 hx8 hT8 hQ8 hbel8 hx0 hx1
      have hx0 : w9.cell? ⟨w4.heap.size + 1 + 1, 0, none⟩ = some (.int .u64 (norm y).1) := by simp [World.cell?, hx9]
      have hx1 : w9.cell? ⟨w4.heap.size + 1 + 1, 1, none⟩ = some (.int .u64 (norm y).2) := by simp [World.cell?, hx9]
      have hll : ((l' : Int) != (l' : Int)) = false := by simp
      cases r
      · have hr5 : r5 = true := HR5.out.2 (HRH.out.1 rfl)
        obtain ⟨hn', hF'⟩ := HNO.out rfl
        subst hr5 hn' hF'
        go_wp2_with fail
        go_loopw [22] (fun c wr => SetN l' w9 c wr) (fun c _ => l' - (intOf c).toNat)
        case atStart => exact ⟨0, 0, Nat.zero_le _, rfl, rfl⟩
        case round =>
          obtain ⟨j, nn, hj, rfl, hwr⟩ := hrel
          subst hwr
          by_cases hj' : j < l'
          · have e0 := hT9.cell0 hj'
            have e1 := hT9.cell1 hj'
            have q0 := hQ9.cell0 hj'
            have q1 := hQ9.cell1 hj'
            have g1 := feq_yes (rfl : F' j = F' j)
            go_wp2_with fail
            go_quiet (fail)
            go_wp2_with fail
            go_roundw
            case rel => exact ⟨j + 1, _, by omega, by go_num, rfl⟩
            case measure => simp [intOf]; omega
          · go_wp2_with fail
            go_ret
            exact ⟨rfl, below_drewN hbel9 _⟩
      · have hr5 : r5 = false := by
          cases r5
          · rfl
          · exact absurd (HRH.out.2 (HR5.out.1 rfl)) (by simp)
        obtain ⟨k, hone⟩ := HYES.out rfl
        have HO := hide hone
        have hkl := hone.lt
        clear hone
        subst hr5
        go_wp2_with fail
        go_loopw [23, 24, 25] (fun c23 c24 c25 wr => SetO l' k w9 c23 c24 c25 wr) (fun _ _ c _ => l' - (intOf c).toNat)
        case atStart => exact ⟨0, 0, _, _, Nat.zero_le _, rfl, rfl, rfl, by simp, by simp, rfl⟩
        case round =>
          obtain ⟨j, nn, z1, z2, hj, rfl, rfl, rfl, hz1, hz2, hwr⟩ := hrel
          subst hwr
          by_cases hj' : j < l'
          · have e0 := hT9.cell0 hj'
            have e1 := hT9.cell1 hj'
            have q0 := hQ9.cell0 hj'
            have q1 := hQ9.cell1 hj'
            by_cases hjk : j = k
            · subst hjk
              have g1 := feq_no (p := F' j) (q := F j) (by rw [HO.out.upd, upd_same]; exact fun e => HO.out.ne e.symm)
              rw [if_neg (by omega)] at hz1 hz2
              subst hz1 hz2
              go_wp2_with fail
              go_quiet (fail)
              go_wp2_with fail
              go_roundw
              case rel => exact ⟨j + 1, _, _, _, by omega, by go_num, by go_num, rfl, by simp, by simp, rfl⟩
              case measure => simp [intOf]; omega
            · have g1 := feq_yes (p := F' j) (q := F j) (by rw [HO.out.upd, upd_other _ _ hjk])
              have HZ1 := hide hz1
              have HZ2 := hide hz2
              clear hz1 hz2
              go_wp2_with fail
              go_quiet (fail)
              go_wp2_with fail
              go_roundw
              case rel =>
                refine ⟨j + 1, _, _, _, by omega, by go_num, rfl, rfl, ?_, ?_, rfl⟩
                · rw [HZ1.out]
                  by_cases h : k < j
                  · rw [if_pos h, if_pos (by omega)]
                  · rw [if_neg h, if_neg (by omega)]
                · rw [HZ2.out]
                  by_cases h : k < j
                  · rw [if_pos h, if_pos (by omega)]
                  · rw [if_neg h, if_neg (by omega)]
              case measure => simp [intOf]; omega
          · obtain rfl : j = l' := by omega
            rw [if_pos hkl] at hz1 hz2
            subst hz1 hz2
            have e0 := hT9.cell0 hkl
            have e1 := hT9.cell1 hkl
            have q0 := hQ9.cell0 hkl
            have q1 := hQ9.cell1 hkl
            have g1 := feq_yes (p := F' k) (q := norm y) (by rw [HO.out.upd, upd_same])
            rcases HO.out.how with ⟨hf, hz, hn'⟩ | ⟨hf, hz, hn', hk⟩
            · have g2 := feq_zero hz
              clear hz
              subst hf hn'
              go_wp2_with fail
              go_quiet (fail)
              go_wp2_with fail
              go_ret
              exact ⟨rfl, below_drewN hbel9 _⟩
            · have g2 := feq_nonzero hz
              clear hz
              have HK := hide hk
              clear hk
              subst hf hn'
              go_wp2_with fail
              go_quiet (fail)
              go_wp2_with fail
              clear e0 e1 q0 q1 g1
              have hu := (norm_words h1 h2).1
              have hpl := place_lt (norm y) hp
              have hpc := place_cast (norm y) hp
              have hwin := win_int j (norm y) ((norm y).2 % 32).toNat hl
              rw [Int.toNat_of_nonneg (show 0 ≤ (norm y).2 % 32 by omega)] at hwin
              have hkw : ((k : Int) == ((win j (norm y) ((norm y).2 % 32).toNat : Nat) : Int)) = true := by
                rw [← HK.out]; simp
              go_region_held3 (fun w' => w'.cell? ⟨w4.heap.size + 1 + 1, 0, none⟩ = some (.int .u64 (norm y).1) ∧ w'.cell? ⟨w4.heap.size + 1 + 1, 1, none⟩ = some (.int .u64 (norm y).2)) (go_keep) (first | (go_at_call 18; refine (place_any (norm y).1 (norm y).2 j _ hl hu).mono ?_; rintro e w' ⟨rfl, rfl⟩))
              have hval : ((k : Int) == bits .and .i64 (IntKind.i64.wrap ((place j (norm y) : Int) + IntKind.i64.wrap ((norm y).2.tmod 32))) ((j : Int) - 1)) = true := by
                rw [Int.tmod_eq_emod_of_nonneg (norm_words h1 h2).2.1]
                have t1 : IntKind.i64.wrap ((norm y).2 % 32) = (norm y).2 % 32 := IntWalk.i64_in _ ⟨by omega, by omega⟩
                have t2 : IntKind.i64.wrap ((place j (norm y) : Int) + (norm y).2 % 32) = (place j (norm y) : Int) + (norm y).2 % 32 := IntWalk.i64_in _ ⟨by omega, by omega⟩
                rw [t1, t2, hwin]
                exact hkw
              rw [hval]
              go_wp2_with fail
              go_ret
              exact ⟨rfl, (below_drewN hbel9 _).alloc (by have := hbel9.size; simpa using this) _⟩
end Go.Proofs.Qxb6603362a
