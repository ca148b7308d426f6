/-
  THE WALK of (*block).columns.
-/
import Derived.Test.Qxb6603342aRand
import Derived.Test.Qxb6603342aCode
import Derived.Test.Qxb6603342aColsPlain
import Derived.Test.Qxb6603342aMaxBlock
import Derived.Deep.Cut
import Derived.Deep.CutRange
import Derived.Deep.DeepCutAuto
namespace Go.Proofs.Qxb6603342a
open Go.RowKit

theorem info3 : (Try.prog.info? 3).map (fun i => (i.zero, i.size, i.bytes)) = some (some (.int .i64 0), 1, 8) := by kernel_rfl

theorem u32_wrap (x : Int) : U32 (IntKind.u32.wrap x) := by rw [IntKind.wrap_u32]; unfold U32; omega

theorem u32_mod (x : Int) : U32 (x % 4294967296) := by unfold U32; omega

theorem own_base {w : World} {base : Nat} {e : TypeId} {size : Nat} {v : Value} {n : Nat} {xs : List Value} (h : w.ownsRow base e size v n xs) : ∀ k, v.ownBlock = some k → base ≤ k := by
  intro k hk
  rcases h.2 with ⟨hv, _⟩ | ⟨g, cap, cur, hv, hb, _⟩
  · subst hv; cases hk
  · subst hv
    simp only [Value.ownBlock, Option.some.injEq] at hk
    omega

/-- 'cols = append(cols, x)': one int more. -/
theorem wpList_push {ops : Array Oper} {rest : List Oper} {o : Oper} {a : Act} {w : World} {Q : Exit → Act → World → Prop} (hgd : o.guard = none) (s x : Operand)
    (ho : o.op = .call { callee := .builtin .append, args := #[s, x], argTypes := #[40, 40] }) (base : Nat) (v : Value) (n : Nat) (xs : List Value) (hs : a.eval s = v) (hown : w.ownsRow base 3 1 v n xs)
    (g c : Nat) (hx : a.eval x = .slice (some ⟨g, 0, none⟩) 1 c) (u : Int) (hcell : w.cell? ⟨g, 0, none⟩ = some (.int .i64 u)) (hn : n ≤ 1000000) (hbase : base ≤ w.heap.size)
    (h : ∀ v' w', w'.ownsRow base 3 1 v' (n + 1) (xs ++ [.int .i64 u]) → Below base w w' → wpList Try.prog ops Q rest (a.put o.dst v') w') : wpList Try.prog ops Q (o :: rest) a w := by
  obtain ⟨i0, hi, hz0, hz1, hz2⟩ := info_parts info3
  refine wpList_append_own w hgd s x 40 ho base 3 i0 (.int .i64 0) 1 8 Try.underlying40 hi hz0 hz1 hz2 rfl (by decide) v n xs hs hown ⟨g, 0, none⟩ 1 c [.int .i64 u] hx rfl ?_ ?_ ?_ ?_ hbase ?_
  · intro j u' hj
    match j, hj with
    | 0, hj => simp at hj; subst hj; exact hcell
  · intro u' hu'; simp at hu'; subst hu'; rfl
  · unfold maxLen; omega
  · omega
  · intro v' w' h1 h2 _
    exact h v' w' h1 ((Below.refl _ _).grown h2 hbase (own_base hown))

/-- A block as columns reads it. -/
structure BlkAt (w : World) (gb g : Nat) (T : Nat → Int) (a : Option Addr) (len : Nat) (Z : Nat → Int) (J : Int) (W P P1 : Nat) : Prop where
  hgb : gb < w.heap.size
  hg : g < w.heap.size
  c0 : w.cell? ⟨gb, 0, none⟩ = some (.pointer (some ⟨g, 0, none⟩))
  c3 : w.cell? ⟨gb, 3, none⟩ = some (.int .i64 J)
  c6 : w.cell? ⟨gb, 6, none⟩ = some (.int .i64 W)
  c8 : w.cell? ⟨gb, 8, none⟩ = some (.int .i64 P)
  c9 : w.cell? ⟨gb, 9, none⟩ = some (.int .i64 P1)
  tab : ∀ j, j < 1024 → w.cell? ⟨g, j, none⟩ = some (.int .u32 (T j))
  deg : w.cell? ⟨g, 1024, none⟩ = some (.slice a len len)
  ints : IntsAt w a len Z

theorem BlkAt.below {w w' : World} {gb g : Nat} {T : Nat → Int} {a : Option Addr} {len : Nat} {Z : Nat → Int} {J : Int} {W P P1 : Nat} (h : BlkAt w gb g T a len Z J W P P1) (hb : Below w.heap.size w w') : BlkAt w' gb g T a len Z J W P P1 :=
  ⟨Nat.lt_of_lt_of_le h.hgb hb.size, Nat.lt_of_lt_of_le h.hg hb.size, (hb.cell h.hgb).trans h.c0, (hb.cell h.hgb).trans h.c3, (hb.cell h.hgb).trans h.c6, (hb.cell h.hgb).trans h.c8, (hb.cell h.hgb).trans h.c9,
   fun j hj => (hb.cell h.hg).trans (h.tab j hj), (hb.cell h.hg).trans h.deg, h.ints.below hb⟩

/-- The first n LT columns, as values. -/
def lts (a s W n : Nat) : List Value := (List.range n).map fun k => Value.int .i64 (lt a s W k : Nat)
theorem lts_succ (a s W n : Nat) : lts a s W (n + 1) = lts a s W n ++ [.int .i64 (lt a s W n : Nat)] := by simp [lts, List.range_succ]
/-- PI columns, as values. -/
def pis (l : List Nat) : List Value := l.map fun x => Value.int .i64 (x : Nat)

theorem pis_snoc (l : List Nat) (x : Nat) : pis (l ++ [x]) = pis l ++ [.int .i64 (x : Nat)] := by simp [pis]

/-- What columns leaves. -/
def Cols (W P : Nat) (w : World) (e : Ending) (w' : World) : Prop :=
  ∃ (v : Value) (a s n : Nat) (l : List Nat), e = .returned v ∧ w'.ownsRow w.heap.size 3 1 v (n + l.length) (lts a s W n ++ pis l) ∧ 1 ≤ n ∧ (n ≤ 1 ∨ n ≤ W - 2) ∧ a < W ∧ 0 < s ∧ s < W ∧
    (l.length = 2 ∨ l.length = 3 ∧ n < 4) ∧ (∀ x ∈ l, W ≤ x ∧ x < W + P) ∧ Below w.heap.size w w'

/-- What holds at the head of each round of the LT loop. -/
def L1 (w0 : World) (at0 s W d : Nat) (x v c : Value) (wr : World) : Prop :=
  ∃ k : Nat, k ≤ d - 1 ∧ x = .int .i64 (lt at0 s W k : Nat) ∧ c = .int .i64 k ∧ wr.ownsRow w0.heap.size 3 1 v (k + 1) (lts at0 s W (k + 1)) ∧ Below w0.heap.size w0 wr

/-- What holds at the head of each round of the PI loop. -/
def L2 (w0 : World) (at0 s W P P1 n d1 : Nat) (x v c : Value) (wr : World) : Prop :=
  ∃ (z : Nat) (l : List Nat), x = .int .i64 z ∧ z < P1 ∧ c = .int .i64 l.length ∧ l.length ≤ d1 ∧ wr.ownsRow w0.heap.size 3 1 v (n + l.length) (lts at0 s W n ++ pis l) ∧ (∀ y ∈ l, W ≤ y ∧ y < W + P) ∧ Below w0.heap.size w0 wr

/-- What holds at the head of each round of the walk to a place below P: q rounds more and it is there. -/
def L3 (P P1 s : Nat) (w : World) (q : Nat) (x : Value) (wr : World) : Prop := ∃ z : Nat, x = .int .i64 z ∧ z < P1 ∧ (z + q * s) % P1 < P ∧ wr = w

/-- What stands behind 'if d < 4 { d1 += .. }'. -/
def D1Rel (d : Nat) (w0 : World) (x : Value) (w' : World) : Prop := ∃ (d1 n : Nat), x = .int .i64 d1 ∧ (d1 = 2 ∨ d1 = 3 ∧ d < 4) ∧ w' = w0.drewN n

set_option maxHeartbeats 1000000 in
set_option maxRecDepth 100000 in
theorem columns_any (gb g : Nat) (T : Nat → Int) (a : Option Addr) (len : Nat) (Z : Nat → Int) (J : Int) (W P P1 : Nat) (isi : Int) (w : World) (hB : BlkAt w gb g T a len Z J W P P1)
    (hW : 2 ≤ W) (hW2 : W ≤ 65536) (hP : 1 ≤ P) (_hP1 : P ≤ P1) (hP2 : P1 ≤ 65536) (hpr : prB P1 = true) (hl : len ≤ 65536) (hisi : U32 isi) :
    Calls Try.prog 20 #[.pointer (some ⟨gb, 0, none⟩), .int .u32 isi] w fun e w' => Cols W P w e w' := by
  have HPR := hide hpr
  have hP3 : 2 ≤ P1 := ((prB_iff P1).1 hpr).1
  clear hpr
  have h3 := hB.c3
  go_enter Try.func20, Try.ntmps20
  go_upto_if 24 with fail
  go_cut [5] from 14 to 26 (fun x wc => ∃ y, x = .int .u32 y ∧ U32 y ∧ wc = w)
  case first =>
    go_wp2
    all_goals
      go_meet
      case rel => exact ⟨_, rfl, u32_mod _, rfl⟩
  case rest =>
    obtain ⟨aa, rfl, haa, hwc⟩ := hcut
    subst hwc
    go_upto_region 4 with fail
    go_cut [6] from 27 to 38 (fun x w' => ∃ y, x = .int .u32 y ∧ U32 y ∧ w' = wc)
    case first =>
      go_wp2
      go_meet
      case rel => exact ⟨_, rfl, u32_mod _, rfl⟩
    case rest =>
      obtain ⟨y, rfl, hy, hwc⟩ := hcut
      subst hwc
      clear h3 haa
      rename World => w0
      have hBn : ∀ n, BlkAt (w0.drewN n) gb g T a len Z J W P P1 := fun n => hB.below (below_drewN (Below.refl _ _) n)
      go_wp2_with fail
      refine (rand_any gb g T y 0 1048576 _ hy (by omega) (by omega) (by omega) hB.c0 hB.tab).mono ?_
      rintro e w1 ⟨r0, rfl, hr0, n1, rfl⟩
      go_wp2_with fail
      refine (deg_any gb g a len len Z W (r0 : Int) _ hW hW2 (by omega) (by omega) hr0 (hBn _).c0 (hBn _).c6 (hBn _).deg (hBn _).ints).mono ?_
      rintro e w2 ⟨d, rfl, hd1, hd2, hw2⟩
      subst hw2
      clear hr0
      have h6 := hB.c6
      have h9 := hB.c9
      go_wp2_with fail
      refine (rand_any gb g T y 1 ((W : Int) - 1) _ hy (by omega) (by omega) (by omega) (hBn _).c0 (hBn _).tab).mono ?_
      rintro e w3 ⟨s0, rfl, hs0, n3, rfl⟩
      go_wp2_with fail
      refine (rand_any gb g T y 2 (W : Int) _ hy (by omega) (by omega) (by omega) (hBn _).c0 (hBn _).tab).mono ?_
      rintro e w4 ⟨at0, rfl, hat0, n4, rfl⟩
      go_upto_if 63 with fail
      go_cut [10] from 63 to 68 (fun x w' => D1Rel d w0 x w')
      case first =>
        by_cases hd4 : (d : Int) < 4
        · go_wp2_with fail
          refine (rand_any gb g T isi 3 2 _ hisi (by omega) (by omega) (by omega) (hBn _).c0 (hBn _).tab).mono ?_
          rintro e w5 ⟨r5, rfl, hr5, n5, rfl⟩
          go_wp2_with fail
          go_meet
          case rel => exact ⟨2 + r5, _, by go_num, by omega, rfl⟩
        · have hd4' : decide ((d : Int) < 4) = false := by simpa using hd4
          go_wp2_with fail
          go_meet
          case rel => exact ⟨2, _, rfl, by omega, rfl⟩
      case rest =>
        obtain ⟨d1, n5, rfl, hd1', hwc⟩ := hcut
        subst hwc
        go_wp2_with fail
        refine (rand_any gb g T isi 4 ((P1 : Int) - 1) _ hisi (by omega) (by omega) (by omega) (hBn _).c0 (hBn _).tab).mono ?_
        rintro e w6 ⟨s1, rfl, hs1, n6, rfl⟩
        go_wp2_with fail
        refine (rand_any gb g T isi 5 (P1 : Int) _ hisi (by omega) (by omega) (by omega) (hBn _).c0 (hBn _).tab).mono ?_
        rintro e w7 ⟨at1, rfl, hat1, n7, rfl⟩
        obtain ⟨i0, hi, hz0, hz1, hz2⟩ := info_parts info3
        go_wp2_with (refine wpList_make_own _ rfl _ _ 40 rfl w0.heap.size 3 i0 (.int .i64 0) 1 Try.underlying40 hi hz0 hz1 .i64 .i64 _ (d + d1) rfl rfl (by omega) (by rw [hz2]; omega) (by unfold maxLen; omega) (Nat.le_refl _) ?_)
        intro wm hown hgrow
        have hbm : Below w0.heap.size w0 wm := (below_drewN (Below.refl _ _) _).grown hgrow (Nat.le_refl _) (fun k hk => by cases hk)
        clear hgrow
        go_wp2_with (at_builtin; refine wpList_push rfl _ _ rfl w0.heap.size _ _ _ rfl (hown.alloc _) wm.heap.size 1 rfl at0 ?hcell (by omega) ?hbase ?_)
        case hcell => simp
        case hbase => have := hbm.size; simp; omega
        intro v1 wp hown1 hb1
        have hbp : Below w0.heap.size w0 wp := (hbm.alloc (by have := hbm.size; omega) _).trans hb1
        clear hb1 hown hbm
        have hs0' : 1 + s0 < W := by omega
        go_wp2_with fail
        go_loopw [9, 13, 95] (fun x v c wr => L1 w0 at0 (1 + s0) W d x v c wr) (fun _ _ c _ => d - (intOf c).toNat)
        case atStart => exact ⟨0, Nat.zero_le _, rfl, rfl, hown1, hbp⟩
        case round =>
          obtain ⟨k, hk, rfl, rfl, hownk, hbk⟩ := hrel
          have hlt := lt_lt at0 (1 + s0) W (by omega) k
          have h6 := (hB.below hbk).c6
          by_cases hkd : (k : Int) < (d : Int) - 1
          · have HL : Hid ((((lt at0 (1 + s0) W (k + 1) : Nat)) : Int) = ((lt at0 (1 + s0) W k : Nat) + (1 + (s0 : Int))) % (W : Int)) := by
              show ((((lt at0 (1 + s0) W k + (1 + s0)) % W : Nat)) : Int) = _
              simp
            go_wp2_with (at_builtin; refine wpList_push rfl _ _ rfl w0.heap.size _ _ _ rfl (hownk.alloc _) wr.heap.size 1 rfl (((lt at0 (1 + s0) W k : Nat) + (1 + (s0 : Int))) % (W : Int)) ?hcell1 (by omega) ?hbase1 ?_)
            case hcell1 => simp
            case hbase1 => have := hbk.size; simp; omega
            intro v2 w2 hown2 hb2
            have hbw2 : Below w0.heap.size w0 w2 := (hbk.alloc (by have := hbk.size; omega) _).trans hb2
            clear hb2 hownk hbk
            go_wp2_with fail
            go_roundw
            case rel => exact ⟨k + 1, by omega, by rw [HL.out], by go_num, by rw [lts_succ, HL.out]; exact hown2, hbw2⟩
            case measure => simp [intOf]; omega
          · clear h6
            go_wp2_with fail
            have hkn : k + 1 = 1 ∨ k + 1 ≤ d := by omega
            have hnd : k + 1 ≤ d ∨ d = 0 := by omega
            have hkd1 : d ≤ k + 1 := by omega
            have hs1' : 1 + s1 < P1 := by omega
            go_loopw [12, 13, 112] (fun x v c w' => L2 w0 at0 (1 + s0) W P P1 (k + 1) d1 x v c w') (fun _ _ c _ => d1 - (intOf c).toNat)
            case atStart => exact ⟨at1, [], rfl, by omega, rfl, Nat.zero_le _, by simpa [pis] using hownk, (fun y hy => by simp at hy), hbk⟩
            case round =>
              obtain ⟨z, l, rfl, hz, rfl, hld, hownl, hall, hbl⟩ := hrel
              clear hownk hbk hbp hown1
              by_cases hlt2 : l.length < d1
              · obtain ⟨k0, hk0⟩ := comes P1 (1 + s1) z HPR.out (by omega) hs1' hz
                have HK0 := hide hk0
                have HALL := hide hall
                clear hk0 hall
                go_wp2_with fail
                go_loopg [12] k0 (fun q x w' => L3 P P1 (1 + s1) wr q x w')
                case atStart => exact ⟨z, rfl, hz, by rw [HK0.out]; omega, rfl⟩
                case round =>
                  obtain ⟨z2, rfl, hz2, hq2, hw2⟩ := hrel
                  subst hw2
                  have HQ := hide hq2
                  clear hq2 HK0
                  have h6 := (hB.below hbl).c6
                  have h8 := (hB.below hbl).c8
                  have h9 := (hB.below hbl).c9
                  have HM : Hid ((((z2 + (1 + s1)) % P1 : Nat) : Int) = ((z2 : Int) + (1 + (s1 : Int))) % (P1 : Int)) := by
                    show (((z2 + (1 + s1)) % P1 : Nat) : Int) = _
                    simp
                  by_cases hge : P ≤ z2
                  · go_wp2_with fail
                    go_roundg (gk - 1)
                    case measure =>
                      have := HQ.out
                      by_cases h0 : gk = 0
                      · subst h0
                        rw [Nat.zero_mul, Nat.add_zero, Nat.mod_eq_of_lt hz2] at this
                        omega
                      · omega
                    case rel =>
                      have hqq := HQ.out
                      have h0 : gk ≠ 0 := by
                        intro h0
                        subst h0
                        rw [Nat.zero_mul, Nat.add_zero, Nat.mod_eq_of_lt hz2] at hqq
                        omega
                      refine ⟨(z2 + (1 + s1)) % P1, by rw [HM.out], Nat.mod_lt _ (by omega), ?_, rfl⟩
                      rw [step_more, show gk - 1 + 1 = gk from by omega]
                      exact hqq
                  · go_wp2_with (at_builtin; refine wpList_push rfl _ _ rfl w0.heap.size _ _ _ rfl (hownl.alloc _) wr.heap.size 1 rfl ((W : Int) + (z2 : Int)) ?hcell2 (by omega) ?hbase2 ?_)
                    case hcell2 => simp
                    case hbase2 => have := hbl.size; simp; omega
                    intro v3 w3 hown3 hb3
                    have hbw3 : Below w0.heap.size w0 w3 := (hbl.alloc (by have := hbl.size; omega) _).trans hb3
                    have h9' := (hB.below hbw3).c9
                    clear hb3 hownl hbl
                    go_wp2_with fail
                    go_roundw
                    case rel =>
                      refine ⟨(z2 + (1 + s1)) % P1, l ++ [W + z2], by rw [HM.out], Nat.mod_lt _ (by omega), by rw [List.length_append]; go_num, by rw [List.length_append]; exact hlt2, ?_, ?_, hbw3⟩
                      · rw [pis_snoc, List.length_append]
                        exact hown3
                      · intro x hx
                        rcases List.mem_append.1 hx with hx | hx
                        · exact HALL.out x hx
                        · simp only [List.mem_singleton] at hx
                          omega
                    case measure => simp [intOf]; omega
              · go_wp2_with fail
                go_ret
                exact ⟨_, at0, 1 + s0, k + 1, l, rfl, hownl, by omega, by omega, by omega, by omega, hs0', by omega, hall, hbl⟩

end Go.Proofs.Qxb6603342a
