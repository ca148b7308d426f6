/-
  THE WALK of (*fingerprints).add where the table does not grow.
-/
import Derived.Test.Qxb6603362aTab
namespace Go.Proofs.Qxb6603362a
open Go.RowKit
attribute [local go_sem] eqFP

/-- All blocks but gf and b are as they were. -/
structure Sep (gf b : Nat) (w w' : World) : Prop where
  os : w'.os = w.os
  tape : w'.tape = w.tape
  output : w'.output = w.output
  size : w.heap.size ≤ w'.heap.size
  block : ∀ k, k < w.heap.size → k ≠ gf → k ≠ b → w'.heap[k]? = w.heap[k]?

namespace Sep
variable {gf b : Nat} {w w' w'' : World}
theorem refl (gf b : Nat) (w : World) : Sep gf b w w := ⟨rfl, rfl, rfl, Nat.le_refl _, fun _ _ _ _ => rfl⟩
theorem trans (h : Sep gf b w w') (k : Sep gf b w' w'') : Sep gf b w w'' :=
  ⟨k.os.trans h.os, k.tape.trans h.tape, k.output.trans h.output, Nat.le_trans h.size k.size, fun i hi h1 h2 => (k.block i (Nat.lt_of_lt_of_le hi h.size) h1 h2).trans (h.block i hi h1 h2)⟩
theorem drewN (h : Sep gf b w w') (n : Nat) : Sep gf b w (w'.drewN n) := ⟨h.os, h.tape, h.output, h.size, h.block⟩
theorem drew (h : Sep gf b w w') : Sep gf b w w'.drew := ⟨h.os, h.tape, h.output, h.size, h.block⟩
theorem alloc (h : Sep gf b w w') (o : Obj) : Sep gf b w (w'.alloc o) :=
  h.trans ⟨rfl, rfl, rfl, by simp, fun k hk _ _ => Below.heap_alloc _ _ _ hk⟩
theorem setF (h : Sep gf b w w') (i : Nat) (v : Value) : Sep gf b w (w'.setCell ⟨gf, i, none⟩ v) :=
  h.trans ⟨rfl, rfl, rfl, by simp [World.setCell], fun k _ h1 _ => Below.heap_setCell _ _ _ _ h1⟩
theorem setB (h : Sep gf b w w') (i : Nat) (v : Value) : Sep gf b w (w'.setCell ⟨b, i, none⟩ v) :=
  h.trans ⟨rfl, rfl, rfl, by simp [World.setCell], fun k _ _ h2 => Below.heap_setCell _ _ _ _ h2⟩
theorem below (h : Sep gf b w w') {B : Nat} (h1 : B ≤ gf) (h2 : B ≤ b) (h3 : B ≤ w.heap.size) : Below B w w' :=
  ⟨h.os, h.tape, h.output, h.size, fun k hk => h.block k (by omega) (by omega) (by omega)⟩
end Sep

/-- A set of fingerprints behind a pointer: its slots lie at block b. -/
structure FpAt (w : World) (gf b l : Nat) (F : Nat → Int × Int) (n : Nat) (max : Int) : Prop where
  hd : w.heap[gf]? = some (.cells #[.slice (some ⟨b, 0, none⟩) l l, .int .i64 n, .int .i64 max] 50 (0, 0))
  tab : Tab w b l F
  ne : gf ≠ b

namespace FpAt
variable {w : World} {gf b l : Nat} {F : Nat → Int × Int} {n : Nat} {max : Int}
theorem c0 (h : FpAt w gf b l F n max) : w.cell? ⟨gf, 0, none⟩ = some (.slice (some ⟨b, 0, none⟩) l l) := cell_of_row _ _ 0 _ 50 _ h.hd
theorem c1 (h : FpAt w gf b l F n max) : w.cell? ⟨gf, 1, none⟩ = some (.int .i64 n) := cell_of_row _ _ 1 _ 50 _ h.hd
theorem c2 (h : FpAt w gf b l F n max) : w.cell? ⟨gf, 2, none⟩ = some (.int .i64 max) := cell_of_row _ _ 2 _ 50 _ h.hd
theorem fz (h : FpAt w gf b l F n max) (i : Nat) : w.frozen? ⟨gf, i, none⟩ = false := frozen_of_row _ _ i _ 50 h.hd
theorem lt (h : FpAt w gf b l F n max) : gf < w.heap.size := lt_of_block h.hd
theorem alloc (h : FpAt w gf b l F n max) (o : Obj) : FpAt (w.alloc o) gf b l F n max :=
  ⟨(Below.heap_alloc _ _ _ h.lt).trans h.hd, h.tab.of_block (Below.heap_alloc _ _ _ h.tab.lt), h.ne⟩
theorem drewN (h : FpAt w gf b l F n max) (k : Nat) : FpAt (w.drewN k) gf b l F n max := ⟨h.hd, h.tab, h.ne⟩
theorem drew (h : FpAt w gf b l F n max) : FpAt w.drew gf b l F n max := ⟨h.hd, h.tab, h.ne⟩
theorem setN (h : FpAt w gf b l F n max) (m : Nat) : FpAt (w.setCell ⟨gf, 1, none⟩ (.int .i64 m)) gf b l F m max :=
  ⟨by rw [heap_setCell_same _ _ _ _ _ _ h.hd]; rfl, h.tab.of_block (heap_setCell_other _ _ _ _ h.ne.symm), h.ne⟩
theorem setT (h : FpAt w gf b l F n max) {k : Nat} (hk : k < l) (x : Int × Int) : FpAt ((w.setCell ⟨b, k * 2, none⟩ (.int .u64 x.1)).setCell ⟨b, k * 2 + 1, none⟩ (.int .u64 x.2)) gf b l (upd F k x) n max :=
  ⟨by rw [heap_setCell_other _ _ _ _ h.ne, heap_setCell_other _ _ _ _ h.ne]; exact h.hd, h.tab.set hk x, h.ne⟩
end FpAt

theorem win_int (l : Nat) (x : Int × Int) (t : Nat) (hl : Pow2 l) : bits .and .i64 ((place l x : Int) + (t : Int)) ((l : Int) - 1) = ((win l x t : Nat) : Int) := by
  rw [and_mask _ hl]
  unfold win
  simp
theorem place_int (l : Nat) (x : Int × Int) (hl : Pow2 l) : bits .and .i64 (wrap64 x.1) ((l : Int) - 1) = ((place l x : Nat) : Int) := by
  rw [and_mask _ hl]
  have hp := hl.pos
  unfold place
  rw [Int.toNat_of_nonneg (Int.emod_nonneg _ (by omega))]
  obtain ⟨e, he, rfl⟩ := hl
  have hd : ((2 ^ e : Nat) : Int) ∣ (18446744073709551616 : Int) := by
    refine ⟨((2 ^ (64 - e) : Nat) : Int), ?_⟩
    rw [← Int.natCast_mul, ← Nat.pow_add, show e + (64 - e) = 64 from by omega]
    rfl
  have hw : wrap64 x.1 % 18446744073709551616 = x.1 % 18446744073709551616 := by unfold wrap64; omega
  rw [← Int.emod_emod_of_dvd (wrap64 x.1) hd, hw, Int.emod_emod_of_dvd x.1 hd]

/-- What an add leaves. -/
def AddPost (gf b l : Nat) (F : Nat → Int × Int) (n : Nat) (max : Int) (x : Int × Int) (w : World) (e : Ending) (w' : World) : Prop :=
  ∃ F' n' r, e = .returned (.bool r) ∧ Added l F n (norm x) F' n' r ∧ FpAt w' gf b l F' n' max ∧ Sep gf b w w'

/-- What holds at the head of each round of add's loop. -/
def A1 (l : Nat) (F : Nat → Int × Int) (y : Int × Int) (w1 : World) (c : Value) (wr : World) : Prop := ∃ t nn : Nat, t ≤ 32 ∧ c = .int .i64 t ∧ Past l F y t ∧ wr = w1.drewN nn

set_option maxHeartbeats 2000000 in
theorem add_plain (gf b l : Nat) (F : Nat → Int × Int) (n : Nat) (max : Int) (y : Int × Int) (w : World) (hf : FpAt w gf b l F n max) (hl : Pow2 l) (hl2 : l ≤ 131072) (hn : n ≤ l)
    (hg : ¬ (3 * (l : Int) ≤ 4 * (n : Int) ∧ (l : Int) < max)) (_hy1 : U64 y.1) (hy2 : U64 y.2) (hy : y ≠ (0, 0)) :
    Calls Try.prog 21 #[.pointer (some ⟨gf, 0, none⟩), .agg #[.int .u64 y.1, .int .u64 y.2]] w fun e w' => AddPost gf b l F n max y w e w' := by
  have hnz := feq_nonzero hy
  have hp := hl.pos
  have q0 := hf.c0
  have q1 := hf.c1
  have q2 := hf.c2
  have hgs := hf.lt
  have hplace := place_int l y hl
  have hpl := place_lt y hp
  have k1 : FpAt (w.alloc (.cells #[.int .u64 y.1, .int .u64 y.2] 29)) gf b l F n max := hf.alloc _
  have s1 : Sep gf b w (w.alloc (.cells #[.int .u64 y.1, .int .u64 y.2] 29)) := (Sep.refl _ _ _).alloc _
  have hgb : gf ≠ w.heap.size := by omega
  have hbb : b < w.heap.size := hf.tab.lt
  have hnorm : norm y = y := if_neg hy
  have HN := hide hnorm
  clear hnorm
  by_cases h34 : 3 * (l : Int) ≤ 4 * (n : Int)
  rotate_left
  have h34' : decide (3 * (l : Int) ≤ 4 * (n : Int)) = false := by simpa using h34
  rotate_left
  have hlm : decide ((l : Int) < max) = false := by simp; omega
  all_goals
    clear hg
    go_enter Try.func21, Try.ntmps21
    go_wp2_with fail
    go_quiet (fail)
    go_wp2_with fail
    go_loopw [50] (fun c wr => A1 l F y (w.alloc (.cells #[.int .u64 y.1, .int .u64 y.2] 29)) c wr) (fun c _ => 32 - (intOf c).toNat)
    case atStart => exact ⟨0, _, by omega, rfl, fun s hs => by omega, rfl⟩
    case round =>
      obtain ⟨t, nn, ht, rfl, hpast, hwr⟩ := hrel
      subst hwr
      have HPA := hide hpast
      clear hpast
      have hwl := win_lt y t hp
      have hwin := win_int l y t hl
      have r0 := k1.c0
      have e0 : (w.alloc (.cells #[.int .u64 y.1, .int .u64 y.2] 29)).cell? ⟨b, win l y t * 2, none⟩ = some (.int .u64 (F (win l y t)).1) := k1.tab.cell0 hwl
      have e1 : (w.alloc (.cells #[.int .u64 y.1, .int .u64 y.2] 29)).cell? ⟨b, win l y t * 2 + 1, none⟩ = some (.int .u64 (F (win l y t)).2) := k1.tab.cell1 hwl
      by_cases ht32 : t < 32
      · by_cases heq : F (win l y t) = y
        · have g1 := feq_yes heq
          have HE := hide heq
          clear heq
          go_wp2_with fail
          go_quiet (fail)
          go_wp2_with fail
          go_ret
          exact ⟨F, n, false, rfl, by rw [HN.out]; exact Or.inl ⟨t, ht32, HPA.out, HE.out, rfl, rfl, rfl⟩, (k1.drewN _).drewN _, (s1.drewN _).drewN _⟩
        · have g1 := feq_no heq
          have HE := hide heq
          clear heq
          by_cases hz : F (win l y t) = (0, 0)
          · have g2 := feq_zero hz
            have HZ := hide hz
            clear hz
            have f0 := k1.tab.frozen (win l y t * 2)
            have f1 := k1.tab.frozen (win l y t * 2 + 1)
            have f2 := k1.fz 1
            have r1 := k1.c1
            have hne := k1.ne
            go_wp2_with fail
            go_quiet (fail)
            go_wp2_with fail
            go_ret
            exact ⟨upd F (win l y t) y, n + 1, true, rfl, by rw [HN.out]; exact Or.inr (Or.inl ⟨t, ht32, HPA.out, HZ.out, rfl, rfl, rfl⟩), ((k1.drewN _).setT hwl y).setN (n + 1), (((s1.drewN _).setB _ _).setB _ _).setF _ _⟩
          · have g2 := feq_nonzero hz
            have HZ := hide hz
            clear hz
            go_wp2_with fail
            go_quiet (fail)
            go_wp2_with fail
            go_roundw
            case rel =>
              refine ⟨t + 1, _, by omega, by go_num, fun s hs => ?_, rfl⟩
              by_cases e : s = t
              · subst e; exact ⟨HE.out, HZ.out⟩
              · exact HPA.out s (by omega)
            case measure => simp [intOf]; omega
      · obtain rfl : t = 32 := by omega
        clear hwl hwin e0 e1
        have h32 := rem32 y.2
        have hwl := win_lt y (y.2 % 32).toNat hp
        have hwin := win_int l y (y.2 % 32).toNat hl
        rw [Int.toNat_of_nonneg (show 0 ≤ y.2 % 32 by omega)] at hwin
        obtain ⟨hu1, hu2⟩ := hy2
        have e0 : (w.alloc (.cells #[.int .u64 y.1, .int .u64 y.2] 29)).cell? ⟨b, win l y (y.2 % 32).toNat * 2, none⟩ = some (.int .u64 (F (win l y (y.2 % 32).toNat)).1) := k1.tab.cell0 hwl
        have e1 : (w.alloc (.cells #[.int .u64 y.1, .int .u64 y.2] 29)).cell? ⟨b, win l y (y.2 % 32).toNat * 2 + 1, none⟩ = some (.int .u64 (F (win l y (y.2 % 32).toNat)).2) := k1.tab.cell1 hwl
        have f0 := k1.tab.frozen (win l y (y.2 % 32).toNat * 2)
        have f1 := k1.tab.frozen (win l y (y.2 % 32).toNat * 2 + 1)
        go_wp2_with fail
        go_region
        go_wp2_with fail
        go_ret
        exact ⟨upd F (win l y (y.2 % 32).toNat) y, n, true, rfl, by rw [HN.out]; exact Or.inr (Or.inr ⟨HPA.out, rfl, rfl, rfl⟩), (k1.drewN _).setT hwl y, ((s1.drewN _).setB _ _).setB _ _⟩

set_option maxHeartbeats 2000000 in
theorem add_zero (gf b l : Nat) (F : Nat → Int × Int) (n : Nat) (max : Int) (w : World) (hf : FpAt w gf b l F n max) (hl : Pow2 l) (hl2 : l ≤ 131072) (hn : n ≤ l)
    (hg : ¬ (3 * (l : Int) ≤ 4 * (n : Int) ∧ (l : Int) < max)) :
    Calls Try.prog 21 #[.pointer (some ⟨gf, 0, none⟩), .agg #[.int .u64 0, .int .u64 0]] w fun e w' => AddPost gf b l F n max (0, 0) w e w' := by
  have hnz : feq 0 0 0 0 = true := rfl
  have hp := hl.pos
  have q0 := hf.c0
  have q1 := hf.c1
  have q2 := hf.c2
  have hgs := hf.lt
  have hplace : bits .and .i64 0 ((l : Int) - 1) = 0 := by rw [and_mask _ hl]; simp
  have hpl0 : place l (0, 1) = 0 := by simp [place]
  have HP0 := hide hpl0
  clear hpl0
  have k1 : FpAt (w.alloc (.cells #[.int .u64 0, .int .u64 1] 29)) gf b l F n max := hf.alloc _
  have s1 : Sep gf b w (w.alloc (.cells #[.int .u64 0, .int .u64 1] 29)) := (Sep.refl _ _ _).alloc _
  have hgb : gf ≠ w.heap.size := by omega
  have hbb : b < w.heap.size := hf.tab.lt
  have hnorm : norm (0, 0) = (0, 1) := rfl
  have HN := hide hnorm
  clear hnorm
  by_cases h34 : 3 * (l : Int) ≤ 4 * (n : Int)
  rotate_left
  have h34' : decide (3 * (l : Int) ≤ 4 * (n : Int)) = false := by simpa using h34
  rotate_left
  have hlm : decide ((l : Int) < max) = false := by simp; omega
  all_goals
    clear hg
    go_enter Try.func21, Try.ntmps21
    go_wp2_with fail
    go_quiet (fail)
    go_wp2_with fail
    go_loopw [50] (fun c wr => A1 l F (0, 1) (w.alloc (.cells #[.int .u64 0, .int .u64 1] 29)) c wr) (fun c _ => 32 - (intOf c).toNat)
    case atStart => exact ⟨0, _, by omega, rfl, fun s hs => by omega, rfl⟩
    case round =>
      obtain ⟨t, nn, ht, rfl, hpast, hwr⟩ := hrel
      subst hwr
      have HPA := hide hpast
      clear hpast
      have hwl := win_lt (l := l) (0, 1) t hp
      have hwin := win_int l (0, 1) t hl
      rw [HP0.out, Int.natCast_zero, Int.zero_add] at hwin
      have r0 := k1.c0
      have e0 : (w.alloc (.cells #[.int .u64 0, .int .u64 1] 29)).cell? ⟨b, win l (0, 1) t * 2, none⟩ = some (.int .u64 (F (win l (0, 1) t)).1) := k1.tab.cell0 hwl
      have e1 : (w.alloc (.cells #[.int .u64 0, .int .u64 1] 29)).cell? ⟨b, win l (0, 1) t * 2 + 1, none⟩ = some (.int .u64 (F (win l (0, 1) t)).2) := k1.tab.cell1 hwl
      by_cases ht32 : t < 32
      · by_cases heq : F (win l (0, 1) t) = (0, 1)
        · have g1 : feq (F (win l (0, 1) t)).1 (F (win l (0, 1) t)).2 0 1 = true := (feq_yes (q := (0, 1)) heq)
          have HE := hide heq
          clear heq
          go_wp2_with fail
          go_quiet (fail)
          go_wp2_with fail
          go_ret
          exact ⟨F, n, false, rfl, by rw [HN.out]; exact Or.inl ⟨t, ht32, HPA.out, HE.out, rfl, rfl, rfl⟩, (k1.drewN _).drewN _, (s1.drewN _).drewN _⟩
        · have g1 : feq (F (win l (0, 1) t)).1 (F (win l (0, 1) t)).2 0 1 = false := (feq_no (q := (0, 1)) heq)
          have HE := hide heq
          clear heq
          by_cases hz : F (win l (0, 1) t) = (0, 0)
          · have g2 := feq_zero hz
            have HZ := hide hz
            clear hz
            have f0 := k1.tab.frozen (win l (0, 1) t * 2)
            have f1 := k1.tab.frozen (win l (0, 1) t * 2 + 1)
            have f2 := k1.fz 1
            have r1 := k1.c1
            have hne := k1.ne
            go_wp2_with fail
            go_quiet (fail)
            go_wp2_with fail
            go_ret
            exact ⟨upd F (win l (0, 1) t) (0, 1), n + 1, true, rfl, by rw [HN.out]; exact Or.inr (Or.inl ⟨t, ht32, HPA.out, HZ.out, rfl, rfl, rfl⟩), ((k1.drewN _).setT hwl (0, 1)).setN (n + 1), (((s1.drewN _).setB _ _).setB _ _).setF _ _⟩
          · have g2 := feq_nonzero hz
            have HZ := hide hz
            clear hz
            go_wp2_with fail
            go_quiet (fail)
            go_wp2_with fail
            go_roundw
            case rel =>
              refine ⟨t + 1, _, by omega, by go_num, fun s hs => ?_, rfl⟩
              by_cases e : s = t
              · subst e; exact ⟨HE.out, HZ.out⟩
              · exact HPA.out s (by omega)
            case measure => simp [intOf]; omega
      · obtain rfl : t = 32 := by omega
        clear hwl hwin e0 e1
        have hwl := win_lt (l := l) (0, 1) 1 hp
        have hwin := win_int l (0, 1) 1 hl
        rw [HP0.out, Int.natCast_zero, Int.zero_add, Int.natCast_one] at hwin
        have e0 : (w.alloc (.cells #[.int .u64 0, .int .u64 1] 29)).cell? ⟨b, win l (0, 1) 1 * 2, none⟩ = some (.int .u64 (F (win l (0, 1) 1)).1) := k1.tab.cell0 hwl
        have e1 : (w.alloc (.cells #[.int .u64 0, .int .u64 1] 29)).cell? ⟨b, win l (0, 1) 1 * 2 + 1, none⟩ = some (.int .u64 (F (win l (0, 1) 1)).2) := k1.tab.cell1 hwl
        have f0 := k1.tab.frozen (win l (0, 1) 1 * 2)
        have f1 := k1.tab.frozen (win l (0, 1) 1 * 2 + 1)
        go_wp2_with fail
        go_region
        go_wp2_with fail
        go_ret
        exact ⟨upd F (win l (0, 1) 1) (0, 1), n, true, rfl, by rw [HN.out]; exact Or.inr (Or.inr ⟨HPA.out, rfl, rfl, rfl⟩), (k1.drewN _).setT hwl (0, 1), ((s1.drewN _).setB _ _).setB _ _⟩

/-- Both together. -/
theorem add_still (gf b l : Nat) (F : Nat → Int × Int) (n : Nat) (max : Int) (x : Int × Int) (w : World) (hf : FpAt w gf b l F n max) (hl : Pow2 l) (hl2 : l ≤ 131072) (hn : n ≤ l)
    (hg : ¬ (3 * (l : Int) ≤ 4 * (n : Int) ∧ (l : Int) < max)) (h1 : U64 x.1) (h2 : U64 x.2) :
    Calls Try.prog 21 #[.pointer (some ⟨gf, 0, none⟩), .agg #[.int .u64 x.1, .int .u64 x.2]] w fun e w' => AddPost gf b l F n max x w e w' := by
  by_cases hx : x = (0, 0)
  · subst hx
    exact add_zero gf b l F n max w hf hl hl2 hn hg
  · exact add_plain gf b l F n max x w hf hl hl2 hn hg h1 h2 hx

end Go.Proofs.Qxb6603362a
