/-
  THE WALK of (*fingerprints).add where the table grows first; and in full.
-/
import Derived.Test.Qxb6603362aGrow
namespace Go.Proofs.Qxb6603362a
open Go.RowKit
attribute [local go_sem] eqFP

theorem Sep.other {gf b b' : Nat} {w w' : World} (h : Sep gf b' w w') (hb : w.heap.size ≤ b') : Sep gf b w w' :=
  ⟨h.os, h.tape, h.output, h.size, fun k hk h1 _ => h.block k hk h1 (by omega)⟩

/-- What an add in full leaves. -/
def AddFull (gf b l : Nat) (F : Nat → Int × Int) (n : Nat) (max : Int) (x : Int × Int) (w : World) (e : Ending) (w' : World) : Prop :=
  ∃ b' l' F' n' r, e = .returned (.bool r) ∧ AddRes l F n max (norm x) l' F' n' r ∧ FpAt w' gf b' l' F' n' max ∧ (b' = b ∨ w.heap.size ≤ b') ∧ Sep gf b w w'

set_option maxHeartbeats 2000000 in
theorem addG_plain (gf b l : Nat) (F : Nat → Int × Int) (n : Nat) (max : Int) (y : Int × Int) (w : World) (hf : FpAt w gf b l F n max) (hl : Pow2 l) (hl2 : l ≤ 65536) (hn : n ≤ l) (hw : Words l F)
    (hg : 3 * (l : Int) ≤ 4 * (n : Int) ∧ (l : Int) < max) (hy2 : U64 y.2) (hy : y ≠ (0, 0)) :
    Calls Try.prog 21 #[.pointer (some ⟨gf, 0, none⟩), .agg #[.int .u64 y.1, .int .u64 y.2]] w fun e w' => AddFull gf b l F n max y w e w' := by
  have hnz := feq_nonzero hy
  have hnorm : norm y = y := if_neg hy
  have HN := hide hnorm
  clear hnorm
  have HG := hide hg
  have hp := hl.pos
  have hp2 : 0 < 2 * l := by omega
  have hL : Pow2 (2 * l) := hl.two (by omega)
  have q0 := hf.c0
  have q1 := hf.c1
  have q2 := hf.c2
  have hgs := hf.lt
  have hbb : b < w.heap.size := hf.tab.lt
  have k0 : FpAt (w.alloc (.cells #[.int .u64 y.1, .int .u64 y.2] 29)) gf b l F n max := hf.alloc _
  have s0 : Sep gf (w.heap.size + 1) w (w.alloc (.cells #[.int .u64 y.1, .int .u64 y.2] 29)) := (Sep.refl _ _ _).alloc _
  obtain ⟨h34, hlm⟩ := hg
  go_enter Try.func21, Try.ntmps21
  go_wp2_with fail
  go_quiet (fail)
  go_wp2_with fail
  refine (grow_any gf b l F n max _ (k0.drewN _) hl hl2 hw).mono ?_
  rintro e w2 ⟨m, G, rfl, hst, hfp, hsep⟩
  have k1 : FpAt w2 gf (w.heap.size + 1) (2 * l) G m max := by simpa using hfp
  have s1 : Sep gf (w.heap.size + 1) w w2 := by
    refine (s0.drewN nq).trans ?_
    simpa using hsep
  have x0 : w2.cell? ⟨w.heap.size, 0, none⟩ = some (.int .u64 y.1) := by
    refine (World.cell?_of_block (hsep.block w.heap.size (by simp) (by omega) (by simp))).trans ?_
    simp
  have x1 : w2.cell? ⟨w.heap.size, 1, none⟩ = some (.int .u64 y.2) := by
    refine (World.cell?_of_block (hsep.block w.heap.size (by simp) (by omega) (by simp))).trans ?_
    simp
  have HS := hide hst
  have hm : m ≤ l := Nat.le_trans hst.few (cnt_le l F)
  have r00 := k1.c0
  have hplace := place_int (2 * l) y hL
  have hpl := place_lt y hp2
  rw [show ((2 * l : Nat) : Int) = 2 * (l : Int) from by omega] at hplace
  clear hst hfp hsep k0 s0 q0 q1 q2 hf hw
  go_wp2_with fail
  go_loopw [50] (fun c wr => A1 (2 * l) G y w2 c wr) (fun c _ => 32 - (intOf c).toNat)
  case atStart => exact ⟨0, 0, by omega, rfl, fun s hs => by omega, rfl⟩
  case round =>
    obtain ⟨t, nn, ht, rfl, hpast, hwr⟩ := hrel
    subst hwr
    have HPA := hide hpast
    clear hpast
    have hwl := win_lt y t hp2
    have hwin := win_int (2 * l) y t hL
    rw [show ((2 * l : Nat) : Int) = 2 * (l : Int) from by omega] at hwin
    have r0 := k1.c0
    have e0 : w2.cell? ⟨w.heap.size + 1, win (2 * l) y t * 2, none⟩ = some (.int .u64 (G (win (2 * l) y t)).1) := k1.tab.cell0 hwl
    have e1 : w2.cell? ⟨w.heap.size + 1, win (2 * l) y t * 2 + 1, none⟩ = some (.int .u64 (G (win (2 * l) y t)).2) := k1.tab.cell1 hwl
    by_cases ht32 : t < 32
    · by_cases heq : G (win (2 * l) y t) = y
      · have g1 := feq_yes heq
        have HE := hide heq
        clear heq
        go_wp2_with fail
        go_quiet (fail)
        go_wp2_with fail
        go_ret
        exact ⟨w.heap.size + 1, 2 * l, G, m, false, rfl, by rw [HN.out]; exact Or.inl ⟨HG.out, rfl, G, m, HS.out, Or.inl ⟨t, ht32, HPA.out, HE.out, rfl, rfl, rfl⟩⟩, (k1.drewN _).drewN _, by omega, Sep.other ((s1.drewN _).drewN _) (by omega)⟩
      · have g1 := feq_no heq
        have HE := hide heq
        clear heq
        by_cases hz : G (win (2 * l) y t) = (0, 0)
        · have g2 := feq_zero hz
          have HZ := hide hz
          clear hz
          have f0 := k1.tab.frozen (win (2 * l) y t * 2)
          have f1 := k1.tab.frozen (win (2 * l) y t * 2 + 1)
          have f2 := k1.fz 1
          have r1 := k1.c1
          have hne := k1.ne
          go_wp2_with fail
          go_quiet (fail)
          go_wp2_with fail
          go_ret
          exact ⟨w.heap.size + 1, 2 * l, upd G (win (2 * l) y t) y, m + 1, true, rfl, by rw [HN.out]; exact Or.inl ⟨HG.out, rfl, G, m, HS.out, Or.inr (Or.inl ⟨t, ht32, HPA.out, HZ.out, rfl, rfl, rfl⟩)⟩, ((k1.drewN _).setT hwl y).setN (m + 1), by omega, Sep.other ((((s1.drewN _).setB _ _).setB _ _).setF _ _) (by omega)⟩
        · have g2 := feq_nonzero hz
          have HZ := hide hz
          clear hz
          go_wp2_with fail
          go_quiet (fail)
          go_wp2_with fail
          go_roundw
          case rel =>
            refine ⟨t + 1, _, by omega, by go_num, fun s hs => ?_, rfl⟩
            by_cases e : s = t
            · subst e; exact ⟨HE.out, HZ.out⟩
            · exact HPA.out s (by omega)
          case measure => simp [intOf]; omega
    · obtain rfl : t = 32 := by omega
      clear hwl hwin e0 e1
      have h32 := rem32 y.2
      have hwl := win_lt y (y.2 % 32).toNat hp2
      have hwin := win_int (2 * l) y (y.2 % 32).toNat hL
      rw [show ((2 * l : Nat) : Int) = 2 * (l : Int) from by omega] at hwin
      rw [Int.toNat_of_nonneg (show 0 ≤ y.2 % 32 by omega)] at hwin
      obtain ⟨hu1, hu2⟩ := hy2
      have e0 : w2.cell? ⟨w.heap.size + 1, win (2 * l) y (y.2 % 32).toNat * 2, none⟩ = some (.int .u64 (G (win (2 * l) y (y.2 % 32).toNat)).1) := k1.tab.cell0 hwl
      have e1 : w2.cell? ⟨w.heap.size + 1, win (2 * l) y (y.2 % 32).toNat * 2 + 1, none⟩ = some (.int .u64 (G (win (2 * l) y (y.2 % 32).toNat)).2) := k1.tab.cell1 hwl
      have f0 := k1.tab.frozen (win (2 * l) y (y.2 % 32).toNat * 2)
      have f1 := k1.tab.frozen (win (2 * l) y (y.2 % 32).toNat * 2 + 1)
      go_wp2_with fail
      go_region
      go_wp2_with fail
      go_ret
      exact ⟨w.heap.size + 1, 2 * l, upd G (win (2 * l) y (y.2 % 32).toNat) y, m, true, rfl, by rw [HN.out]; exact Or.inl ⟨HG.out, rfl, G, m, HS.out, Or.inr (Or.inr ⟨HPA.out, rfl, rfl, rfl⟩)⟩, (k1.drewN _).setT hwl y, by omega, Sep.other (((s1.drewN _).setB _ _).setB _ _) (by omega)⟩

set_option maxHeartbeats 2000000 in
theorem addG_zero (gf b l : Nat) (F : Nat → Int × Int) (n : Nat) (max : Int) (w : World) (hf : FpAt w gf b l F n max) (hl : Pow2 l) (hl2 : l ≤ 65536) (hn : n ≤ l) (hw : Words l F)
    (hg : 3 * (l : Int) ≤ 4 * (n : Int) ∧ (l : Int) < max) :
    Calls Try.prog 21 #[.pointer (some ⟨gf, 0, none⟩), .agg #[.int .u64 0, .int .u64 0]] w fun e w' => AddFull gf b l F n max (0, 0) w e w' := by
  have hnz : feq 0 0 0 0 = true := rfl
  have hnorm : norm (0, 0) = (0, 1) := rfl
  have HN := hide hnorm
  clear hnorm
  have HG := hide hg
  have hp := hl.pos
  have hp2 : 0 < 2 * l := by omega
  have hL : Pow2 (2 * l) := hl.two (by omega)
  have q0 := hf.c0
  have q1 := hf.c1
  have q2 := hf.c2
  have hgs := hf.lt
  have hbb : b < w.heap.size := hf.tab.lt
  have k0 : FpAt (w.alloc (.cells #[.int .u64 0, .int .u64 1] 29)) gf b l F n max := hf.alloc _
  have s0 : Sep gf (w.heap.size + 1) w (w.alloc (.cells #[.int .u64 0, .int .u64 1] 29)) := (Sep.refl _ _ _).alloc _
  obtain ⟨h34, hlm⟩ := hg
  go_enter Try.func21, Try.ntmps21
  go_wp2_with fail
  go_quiet (fail)
  go_wp2_with fail
  refine (grow_any gf b l F n max _ (k0.drewN _) hl hl2 hw).mono ?_
  rintro e w2 ⟨m, G, rfl, hst, hfp, hsep⟩
  have k1 : FpAt w2 gf (w.heap.size + 1) (2 * l) G m max := by simpa using hfp
  have s1 : Sep gf (w.heap.size + 1) w w2 := by
    refine (s0.drewN nq).trans ?_
    simpa using hsep
  have x0 : w2.cell? ⟨w.heap.size, 0, none⟩ = some (.int .u64 0) := by
    refine (World.cell?_of_block (hsep.block w.heap.size (by simp) (by omega) (by simp))).trans ?_
    simp
  have x1 : w2.cell? ⟨w.heap.size, 1, none⟩ = some (.int .u64 1) := by
    refine (World.cell?_of_block (hsep.block w.heap.size (by simp) (by omega) (by simp))).trans ?_
    simp
  have HS := hide hst
  have hm : m ≤ l := Nat.le_trans hst.few (cnt_le l F)
  have r00 := k1.c0
  have hplace : bits .and .i64 0 (((2 * l : Nat) : Int) - 1) = 0 := by rw [and_mask _ hL]; simp
  have hpl0 : place (2 * l) (0, 1) = 0 := by simp [place]
  have HP0 := hide hpl0
  clear hpl0
  rw [show ((2 * l : Nat) : Int) = 2 * (l : Int) from by omega] at hplace
  clear hst hfp hsep k0 s0 q0 q1 q2 hf hw
  go_wp2_with fail
  go_loopw [50] (fun c wr => A1 (2 * l) G (0, 1) w2 c wr) (fun c _ => 32 - (intOf c).toNat)
  case atStart => exact ⟨0, 0, by omega, rfl, fun s hs => by omega, rfl⟩
  case round =>
    obtain ⟨t, nn, ht, rfl, hpast, hwr⟩ := hrel
    subst hwr
    have HPA := hide hpast
    clear hpast
    have hwl := win_lt (l := 2 * l) (0, 1) t hp2
    have hwin := win_int (2 * l) (0, 1) t hL
    rw [show ((2 * l : Nat) : Int) = 2 * (l : Int) from by omega] at hwin
    rw [HP0.out, Int.natCast_zero, Int.zero_add] at hwin
    have r0 := k1.c0
    have e0 : w2.cell? ⟨w.heap.size + 1, win (2 * l) (0, 1) t * 2, none⟩ = some (.int .u64 (G (win (2 * l) (0, 1) t)).1) := k1.tab.cell0 hwl
    have e1 : w2.cell? ⟨w.heap.size + 1, win (2 * l) (0, 1) t * 2 + 1, none⟩ = some (.int .u64 (G (win (2 * l) (0, 1) t)).2) := k1.tab.cell1 hwl
    by_cases ht32 : t < 32
    · by_cases heq : G (win (2 * l) (0, 1) t) = (0, 1)
      · have g1 : feq (G (win (2 * l) (0, 1) t)).1 (G (win (2 * l) (0, 1) t)).2 0 1 = true := (feq_yes (q := (0, 1)) heq)
        have HE := hide heq
        clear heq
        go_wp2_with fail
        go_quiet (fail)
        go_wp2_with fail
        go_ret
        exact ⟨w.heap.size + 1, 2 * l, G, m, false, rfl, by rw [HN.out]; exact Or.inl ⟨HG.out, rfl, G, m, HS.out, Or.inl ⟨t, ht32, HPA.out, HE.out, rfl, rfl, rfl⟩⟩, (k1.drewN _).drewN _, by omega, Sep.other ((s1.drewN _).drewN _) (by omega)⟩
      · have g1 : feq (G (win (2 * l) (0, 1) t)).1 (G (win (2 * l) (0, 1) t)).2 0 1 = false := (feq_no (q := (0, 1)) heq)
        have HE := hide heq
        clear heq
        by_cases hz : G (win (2 * l) (0, 1) t) = (0, 0)
        · have g2 := feq_zero hz
          have HZ := hide hz
          clear hz
          have f0 := k1.tab.frozen (win (2 * l) (0, 1) t * 2)
          have f1 := k1.tab.frozen (win (2 * l) (0, 1) t * 2 + 1)
          have f2 := k1.fz 1
          have r1 := k1.c1
          have hne := k1.ne
          go_wp2_with fail
          go_quiet (fail)
          go_wp2_with fail
          go_ret
          exact ⟨w.heap.size + 1, 2 * l, upd G (win (2 * l) (0, 1) t) (0, 1), m + 1, true, rfl, by rw [HN.out]; exact Or.inl ⟨HG.out, rfl, G, m, HS.out, Or.inr (Or.inl ⟨t, ht32, HPA.out, HZ.out, rfl, rfl, rfl⟩)⟩, ((k1.drewN _).setT hwl (0, 1)).setN (m + 1), by omega, Sep.other ((((s1.drewN _).setB _ _).setB _ _).setF _ _) (by omega)⟩
        · have g2 := feq_nonzero hz
          have HZ := hide hz
          clear hz
          go_wp2_with fail
          go_quiet (fail)
          go_wp2_with fail
          go_roundw
          case rel =>
            refine ⟨t + 1, _, by omega, by go_num, fun s hs => ?_, rfl⟩
            by_cases e : s = t
            · subst e; exact ⟨HE.out, HZ.out⟩
            · exact HPA.out s (by omega)
          case measure => simp [intOf]; omega
    · obtain rfl : t = 32 := by omega
      clear hwl hwin e0 e1
      have hwl := win_lt (l := 2 * l) (0, 1) 1 hp2
      have hwin := win_int (2 * l) (0, 1) 1 hL
      rw [show ((2 * l : Nat) : Int) = 2 * (l : Int) from by omega] at hwin
      rw [HP0.out, Int.natCast_zero, Int.zero_add, Int.natCast_one] at hwin
      have e0 : w2.cell? ⟨w.heap.size + 1, win (2 * l) (0, 1) 1 * 2, none⟩ = some (.int .u64 (G (win (2 * l) (0, 1) 1)).1) := k1.tab.cell0 hwl
      have e1 : w2.cell? ⟨w.heap.size + 1, win (2 * l) (0, 1) 1 * 2 + 1, none⟩ = some (.int .u64 (G (win (2 * l) (0, 1) 1)).2) := k1.tab.cell1 hwl
      have f0 := k1.tab.frozen (win (2 * l) (0, 1) 1 * 2)
      have f1 := k1.tab.frozen (win (2 * l) (0, 1) 1 * 2 + 1)
      go_wp2_with fail
      go_region
      go_wp2_with fail
      go_ret
      exact ⟨w.heap.size + 1, 2 * l, upd G (win (2 * l) (0, 1) 1) (0, 1), m, true, rfl, by rw [HN.out]; exact Or.inl ⟨HG.out, rfl, G, m, HS.out, Or.inr (Or.inr ⟨HPA.out, rfl, rfl, rfl⟩)⟩, (k1.drewN _).setT hwl (0, 1), by omega, Sep.other (((s1.drewN _).setB _ _).setB _ _) (by omega)⟩

theorem add_full (gf b l : Nat) (F : Nat → Int × Int) (n : Nat) (max : Int) (x : Int × Int) (w : World) (hf : FpAt w gf b l F n max) (hl : Pow2 l) (hl2 : l ≤ 65536) (hn : n ≤ l) (hw : Words l F) (h1 : U64 x.1) (h2 : U64 x.2) :
    Calls Try.prog 21 #[.pointer (some ⟨gf, 0, none⟩), .agg #[.int .u64 x.1, .int .u64 x.2]] w fun e w' => AddFull gf b l F n max x w e w' := by
  by_cases hg : 3 * (l : Int) ≤ 4 * (n : Int) ∧ (l : Int) < max
  · by_cases hx : x = (0, 0)
    · subst hx
      exact addG_zero gf b l F n max w hf hl hl2 hn hw hg
    · exact addG_plain gf b l F n max x w hf hl hl2 hn hw hg h2 hx
  · refine (add_still gf b l F n max x w hf hl (by omega) hn hg h1 h2).mono ?_
    rintro e w' ⟨F', n', r, rfl, ha, hf', hs⟩
    exact ⟨b, l, F', n', r, rfl, Or.inr ⟨hg, rfl, ha⟩, hf', Or.inl rfl, hs⟩

/-- What ZZFingerprintsAdd leaves. -/
def ZPost (b l : Nat) (F : Nat → Int × Int) (n : Nat) (max : Int) (x : Int × Int) (w : World) (e : Ending) (w' : World) : Prop :=
  ∃ b' l' F' n' r, e = .returned (.tuple #[.slice (some ⟨b', 0, none⟩) l' l', .int .i64 (n' : Nat), .int .i64 max, .bool r]) ∧ AddRes l F n max (norm x) l' F' n' r ∧ Tab w' b' l' F' ∧ (b' = b ∨ w.heap.size ≤ b') ∧ Sep b b w w'

set_option maxHeartbeats 2000000 in
theorem zzadd_any (b l : Nat) (F : Nat → Int × Int) (n : Nat) (max : Int) (x : Int × Int) (w : World) (hT : Tab w b l F) (hl : Pow2 l) (hl2 : l ≤ 65536) (hn : n ≤ l) (hw : Words l F) (h1 : U64 x.1) (h2 : U64 x.2) :
    Calls Try.prog 16 #[.slice (some ⟨b, 0, none⟩) l l, .int .i64 n, .int .i64 max, .agg #[.int .u64 x.1, .int .u64 x.2]] w fun e w' => ZPost b l F n max x w e w' := by
  have hbs := hT.lt
  go_enter Try.func16, Try.ntmps16
  go_wp2_with fail
  refine (add_full (w.heap.size + 1) b l F n max x _ ?hfp hl hl2 hn hw h1 h2).mono ?_
  case hfp =>
    refine ⟨heap_alloc2_new _ _ _, hT.of_block ?_, by omega⟩
    rw [Below.heap_alloc _ _ _ (by simp; omega), Below.heap_alloc _ _ _ hbs]
  rintro e w2 ⟨b', l', F', n', r, rfl, hres, hf2, hb', hs2⟩
  have q0 := hf2.c0
  have q1 := hf2.c1
  have q2 := hf2.c2
  have hss := hs2.size
  have ht2 := hf2.tab
  have HRES := hide hres
  have HB : Hid (b' = b ∨ w.heap.size ≤ b') := by
    rcases hb' with h | h
    · exact Or.inl h
    · exact Or.inr (by simp at h; omega)
  have HSEP : Hid (Sep b b w w2) := by
    refine ⟨hs2.os, hs2.tape, hs2.output, by have := hs2.size; simp at this; omega, fun k hk h1 _ => ?_⟩
    rw [hs2.block k (by simp; omega) (by omega) h1, Below.heap_alloc _ _ _ (by simp; omega), Below.heap_alloc _ _ _ hk]
  clear hres hb' hs2 hf2
  go_wp2_with fail
  go_quiet (fail)
  go_wp2_with fail
  refine bodyPost_ret (v := .tuple #[.slice (some ⟨b', 0, none⟩) l' l', .int .i64 (n' : Nat), .int .i64 max, .bool r]) ?_ rfl ?_
  · simp [results, Try.results16, go_sem]
  · exact ⟨b', l', F', n', r, rfl, HRES.out, ht2.drewN _, HB.out, HSEP.out.drewN _⟩

end Go.Proofs.Qxb6603362a
