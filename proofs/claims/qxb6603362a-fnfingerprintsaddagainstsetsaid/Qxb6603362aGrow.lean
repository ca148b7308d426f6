/-
  THE WALKS of (*fingerprints).grow, of add in full, of ZZFingerprintsAdd.
-/
import Derived.Test.Qxb6603362aAdd
import Derived.Test.Qxb6603362aPlain2
namespace Go.Proofs.Qxb6603362a
open Go.RowKit
attribute [local go_sem] eqFP

/-- Every entry is two words. -/
def Words (l : Nat) (F : Nat → Int × Int) : Prop := ∀ i, i < l → U64 (F i).1 ∧ U64 (F i).2

theorem norm_ne {x : Int × Int} (h : x ≠ (0, 0)) : norm x = x := if_neg h
theorem norm_nonzero (x : Int × Int) : norm x ≠ (0, 0) := by
  unfold norm
  by_cases h : x = (0, 0)
  · rw [if_pos h]; intro e; cases e
  · rw [if_neg h]; exact h

/-- What holds at the head of each round of grow's loop. -/
def G1 (w : World) (gf l : Nat) (F : Nat → Int × Int) (max : Int) (c : Value) (wr : World) : Prop :=
  ∃ (k m : Nat) (G : Nat → Int × Int), k ≤ l ∧ c = .int .i64 k ∧ GrowSt l F k G m ∧ FpAt wr gf w.heap.size (2 * l) G m max ∧ Sep gf w.heap.size w wr

/-- What grow leaves. -/
def GrowPost (gf l : Nat) (F : Nat → Int × Int) (max : Int) (w : World) (e : Ending) (w' : World) : Prop :=
  ∃ (m : Nat) (G : Nat → Int × Int), e = .returned (.tuple #[]) ∧ GrowSt l F l G m ∧ FpAt w' gf w.heap.size (2 * l) G m max ∧ Sep gf w.heap.size w w'

theorem grow_start {w : World} {gf b l : Nat} {F : Nat → Int × Int} {n : Nat} {max : Int} (hf : FpAt w gf b l F n max) :
    FpAt (((w.setCell ⟨gf, 0, none⟩ (.slice (some ⟨w.heap.size, 0, none⟩) (2 * l) (2 * l))).setCell ⟨gf, 1, none⟩ (.int .i64 0)).alloc (.cells (madeCells #[.int .u64 0, .int .u64 0] (2 * l * 2)) 29)) gf w.heap.size (2 * l) (fun _ => (0, 0)) 0 max ∧
    Sep gf w.heap.size w (((w.setCell ⟨gf, 0, none⟩ (.slice (some ⟨w.heap.size, 0, none⟩) (2 * l) (2 * l))).setCell ⟨gf, 1, none⟩ (.int .i64 0)).alloc (.cells (madeCells #[.int .u64 0, .int .u64 0] (2 * l * 2)) 29)) := by
  have hlt := hf.lt
  have hs : ((w.setCell ⟨gf, 0, none⟩ (.slice (some ⟨w.heap.size, 0, none⟩) (2 * l) (2 * l))).setCell ⟨gf, 1, none⟩ (.int .i64 0)).heap.size = w.heap.size := by simp [World.setCell]
  refine ⟨⟨?_, ?_, by omega⟩, (((Sep.refl _ _ _).setF _ _).setF _ _).alloc _⟩
  · rw [Below.heap_alloc _ _ _ (by omega), heap_setCell_same _ _ _ _ _ _ (heap_setCell_same _ _ _ _ _ _ hf.hd)]
    rfl
  · have := tab_made ((w.setCell ⟨gf, 0, none⟩ (.slice (some ⟨w.heap.size, 0, none⟩) (2 * l) (2 * l))).setCell ⟨gf, 1, none⟩ (.int .i64 0)) (2 * l)
    rw [hs] at this
    exact this

set_option maxHeartbeats 2000000 in
theorem grow_any (gf b l : Nat) (F : Nat → Int × Int) (n : Nat) (max : Int) (w : World) (hf : FpAt w gf b l F n max) (hl : Pow2 l) (hl2 : l ≤ 65536) (hw : Words l F) :
    Calls Try.prog 22 #[.pointer (some ⟨gf, 0, none⟩)] w fun e w' => GrowPost gf l F max w e w' := by
  have hp := hl.pos
  have q0 := hf.c0
  have q1 := hf.c1
  have f0 := hf.fz 0
  have f1 := hf.fz 1
  have hgs := hf.lt
  have hbs := hf.tab.lt
  have hmk := make2 (2 * l) (by omega)
  rw [show ((2 * l : Nat) : Int) = 2 * (l : Int) from by omega] at hmk
  go_enter Try.func22, Try.ntmps22
  go_wp2_with fail
  have HST := hide (grow_start hf)
  clear hmk q0 q1 f0 f1
  go_loopw [21] (fun c wr => G1 w gf l F max c wr) (fun c _ => l - (intOf c).toNat)
  case atStart => exact ⟨0, 0, _, Nat.zero_le _, rfl, GrowSt.start l F, HST.out.1, HST.out.2⟩
  case round =>
    obtain ⟨k, m, G, hk, rfl, hst, hfp, hsep⟩ := hrel
    clear HST
    have HS := hide hst
    by_cases hkl : k < l
    · have htab : Tab wr b l F := hf.tab.of_block (hsep.block b hbs hf.ne.symm (by omega))
      have e0 := htab.cell0 hkl
      have e1 := htab.cell1 hkl
      by_cases hz : F k = (0, 0)
      · have g1 := feq_zero hz
        have HZ := hide hz
        clear hz hst
        go_wp2_with fail
        go_roundw
        case rel => exact ⟨k + 1, m, G, by omega, by go_num, HS.out.skip HZ.out, hfp.alloc _, hsep.alloc _⟩
        case measure => simp [intOf]; omega
      · have g1 := feq_nonzero hz
        have HZ := hide hz
        have hm : m ≤ k := Nat.le_trans hst.few (cnt_le k F)
        clear hz hst
        go_wp2_with fail
        refine (add_still gf w.heap.size (2 * l) G m max (F k) _ (hfp.alloc _) (hl.two (by omega)) (by omega) (by omega) (by omega) (hw k hkl).1 (hw k hkl).2).mono ?_
        rintro e w2 ⟨G', m', r, rfl, hadd, hfp2, hsep2⟩
        rw [norm_ne HZ.out] at hadd
        have HA := hide hadd
        clear hadd
        go_wp2_with fail
        go_roundw
        case rel => exact ⟨k + 1, m', G', by omega, by go_num, HS.out.step hkl HZ.out HA.out, hfp2, (hsep.alloc _).trans hsep2⟩
        case measure => simp [intOf]; omega
    · obtain rfl : k = l := by omega
      go_wp2_with fail
      go_end0
      exact ⟨m, G, rfl, HS.out, hfp, hsep⟩

end Go.Proofs.Qxb6603362a
