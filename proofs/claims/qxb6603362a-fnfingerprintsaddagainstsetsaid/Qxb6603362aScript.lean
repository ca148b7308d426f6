/-
  THE WALK of the law FnFingerprintsAddScriptStaysSound.
-/
import Derived.Test.Qxb6603362aLook
import Derived.Test.Qxb6603362aPlain4
namespace Go.Proofs.Qxb6603362a
open Go.RowKit
attribute [local go_sem] eqFP

set_option maxHeartbeats 400000 in
theorem bytes19_yes (k m : Value) (a : Option Addr) (l c : Nat) (w : World) (h : l ≤ 1048576) :
    Calls Try.prog 19 #[k, m, .slice a l c] w fun e w' => e = .returned (.bool true) ∧ w' = w := by
  go_enter Try.func19, Try.ntmps19
  go_wp2
  go_ret
  exact ⟨rfl, rfl⟩
set_option maxHeartbeats 400000 in
theorem bytes19_no (k m : Value) (a : Option Addr) (l c : Nat) (w : World) (h : ¬ l ≤ 1048576) :
    Calls Try.prog 19 #[k, m, .slice a l c] w fun e w' => e = .returned (.bool false) ∧ w' = w := by
  have h' : (1048576 : Int) < l := by omega
  go_enter Try.func19, Try.ntmps19
  go_wp2
  go_ret
  exact ⟨rfl, rfl⟩

/-- A list of fingerprints, cell by cell. -/
def flat (S : List (Int × Int)) : List Value := S.flatMap fun p => [.int .u64 p.1, .int .u64 p.2]
theorem flat_nil : flat [] = [] := rfl
theorem flat_snoc (S : List (Int × Int)) (x : Int × Int) : flat (S ++ [x]) = flat S ++ [.int .u64 x.1, .int .u64 x.2] := by simp [flat]
theorem flat_get : ∀ (S : List (Int × Int)) (i : Nat) (h : i < S.length), (flat S)[i * 2]? = some (.int .u64 (S[i]).1) ∧ (flat S)[i * 2 + 1]? = some (.int .u64 (S[i]).2)
  | [], i, h => by simp at h
  | p :: S, 0, _ => by simp [flat]
  | p :: S, i + 1, h => by
    have ih := flat_get S i (by simpa using h)
    have e1 : (i + 1) * 2 = i * 2 + 1 + 1 := by omega
    have e2 : (i + 1) * 2 + 1 = (i * 2 + 1) + 1 + 1 := by omega
    have ef : flat (p :: S) = .int .u64 p.1 :: .int .u64 p.2 :: flat S := by simp [flat]
    rw [e1, ef]
    simp only [List.getElem?_cons_succ, List.getElem_cons_succ]
    exact ih

/-- The list of what was added, at block gs, with room for ls. -/
def Seen (w : World) (gs ls : Nat) (S : List (Int × Int)) : Prop := w.ownsRow gs 29 2 (.slice (some ⟨gs, 0, none⟩) S.length ls) S.length (flat S)

theorem Seen.cells {w : World} {gs ls : Nat} {S : List (Int × Int)} (h : Seen w gs ls S) {i : Nat} (hi : i < S.length) : w.cell? ⟨gs, i * 2, none⟩ = some (.int .u64 (S[i]).1) ∧ w.cell? ⟨gs, i * 2 + 1, none⟩ = some (.int .u64 (S[i]).2) :=
  ⟨(h.cellAt (i * 2) (by omega)).trans (flat_get S i hi).1, (h.cellAt (i * 2 + 1) (by omega)).trans (flat_get S i hi).2⟩
theorem Seen.of_block {w w' : World} {gs ls : Nat} {S : List (Int × Int)} (h : Seen w gs ls S) (e : w'.heap[gs]? = w.heap[gs]?) : Seen w' gs ls S := by
  obtain ⟨h1, h2⟩ := h
  refine ⟨h1, ?_⟩
  rcases h2 with h2 | ⟨g, cap, cur, hv, hb, hh, r⟩
  · exact Or.inl h2
  · have hg : g = gs := by
      simp only [Value.slice.injEq, Option.some.injEq, Addr.mk.injEq, and_true, true_and] at hv
      exact hv.1.symm
    subst hg
    exact Or.inr ⟨g, cap, cur, hv, hb, e.trans hh, r⟩
theorem Seen.lt {w : World} {gs ls : Nat} {S : List (Int × Int)} (h : Seen w gs ls S) : gs < w.heap.size := by
  rcases h.2 with ⟨h2, _⟩ | ⟨g, cap, cur, hv, hb, hh, r⟩
  · cases h2
  · have hg : g = gs := by
      simp only [Value.slice.injEq, Option.some.injEq, Addr.mk.injEq, and_true, true_and] at hv
      exact hv.1.symm
    subst hg
    exact lt_of_block hh

theorem heap3 (w : World) (o1 o2 o3 : Obj) : (((w.alloc o1).alloc o2).alloc o3).heap[w.heap.size + 2]? = some o3 := by
  have h := heap_alloc_new ((w.alloc o1).alloc o2) o3
  have e : ((w.alloc o1).alloc o2).heap.size = w.heap.size + 2 := by simp
  rw [e] at h
  exact h

theorem words_zero (l : Nat) : Words l (fun _ => (0, 0)) := by
  intro i _
  show U64 0 ∧ U64 0
  unfold U64
  exact ⟨⟨by decide, by decide⟩, ⟨by decide, by decide⟩⟩

theorem norm_words {x : Int × Int} (h1 : U64 x.1) (h2 : U64 x.2) : U64 (norm x).1 ∧ U64 (norm x).2 := by
  unfold norm
  by_cases h : x = (0, 0)
  · rw [if_pos h]; unfold U64; exact ⟨⟨by decide, by decide⟩, ⟨by decide, by decide⟩⟩
  · rw [if_neg h]; exact ⟨h1, h2⟩

theorem words_step {l l' : Nat} {F F' : Nat → Int × Int} {n n' : Nat} {max : Int} {x : Int × Int} {r : Bool} (ha : AddRes l F n max x l' F' n' r) (hw : Words l F) (h1 : U64 x.1) (h2 : U64 x.2) : Words l' F' := by
  intro j hj
  rcases addRes_from ha hj with e | e | ⟨i, hi, e⟩
  · rw [e]; exact ⟨h1, h2⟩
  · rw [e]; exact words_zero 1 0 (by omega)
  · rw [← e]; exact hw i hi

/-- What holds behind the add of a round, ahead of what the law then tests. -/
structure Rd (w1 : World) (bs ls gs l0 : Nat) (P : Nat → Int × Int) (max : Int) (i b l n : Nat) (F : Nat → Int × Int) (S : List (Int × Int)) (r : Bool) (bx : Nat) (w : World) : Prop where
  st : St l0 max (addS S (norm (P i))) l F n
  yes : r = false → norm (P i) ∈ S
  near : Near l F (norm (P i))
  few : 32 ≤ l0 → (addS S (norm (P i))).length ≤ 32 → (r = false ↔ norm (P i) ∈ S)
  sml : l ≤ 16384
  wrd : Words l F
  tab : Tab w b l F
  seen : Seen w gs ls S
  scr : Tab w bs ls P
  box : w.heap[bx]? = some (.cells #[.int .u64 (norm (P i)).1, .int .u64 (norm (P i)).2] 29 (0, 0))
  bg : b ≠ gs
  bp : b ≠ bs
  bw : w1.heap.size ≤ b
  bel : Below w1.heap.size w1 w

/-- What holds at the head of each round of the script. -/
def Sc (w : World) (bs ls gs l0 : Nat) (P : Nat → Int × Int) (max : Int) (c8 c9 c10 c11 : Value) (wr : World) : Prop :=
  ∃ (i b l n : Nat) (F : Nat → Int × Int) (S : List (Int × Int)), i ≤ ls ∧ c8 = .slice (some ⟨b, 0, none⟩) l l ∧ c9 = .int .i64 n ∧ c10 = .slice (some ⟨gs, 0, none⟩) S.length ls ∧ c11 = .int .i64 i ∧ St l0 max S l F n ∧ l ≤ 16384 ∧ S.length ≤ i ∧ Words l F ∧
    Tab wr b l F ∧ Seen wr gs ls S ∧ Tab wr bs ls P ∧ b ≠ gs ∧ b ≠ bs ∧ w.heap.size ≤ b ∧ Below w.heap.size w wr

/-- What holds at the head of each round of the search in what was added. -/
def Sn (S : List (Int × Int)) (x : Int × Int) (w1 : World) (c13 c14 : Value) (wr : World) : Prop := ∃ j nn : Nat, j ≤ S.length ∧ c14 = .int .i64 j ∧ c13 = .bool false ∧ (∀ s (h : s < S.length), s < j → S[s] ≠ x) ∧ wr = w1.drewN nn

theorem rd_mk {w1 wa w5 : World} {bs ls gs l0 : Nat} {P : Nat → Int × Int} {max : Int} {i b b' l l' n n' : Nat} {F F' : Nat → Int × Int} {S : List (Int × Int)} {r : Bool} {bx : Nat}
    (hst : St l0 max S l F n) (hlb : l ≤ 16384) (hSi : S.length ≤ i) (hi : i ≤ 4096) (hwF : Words l F) (h1 : U64 (P i).1) (h2 : U64 (P i).2) (hbg : b ≠ gs) (hbp : b ≠ bs) (hbw : w1.heap.size ≤ b)
    (hsa : Seen wa gs ls S) (htp : Tab wa bs ls P) (hx : wa.heap[bx]? = some (.cells #[.int .u64 (norm (P i)).1, .int .u64 (norm (P i)).2] 29 (0, 0))) (hbel : Below w1.heap.size w1 wa) (hbx : b ≠ bx)
    (hres : AddRes l F n max (norm (P i)) l' F' n' r) (htab5 : Tab w5 b' l' F') (hb5 : b' = b ∨ wa.heap.size ≤ b') (hsep : Sep b b wa w5) :
    Rd w1 bs ls gs l0 P max i b' l' n' F' S r bx w5 := by
  obtain ⟨s1, s2, s3, s4⟩ := hst.step (by omega) (norm_nonzero _) hres
  have hn := hst.few
  have hg := hsa.lt
  have hp := htp.lt
  have hxl := lt_of_block hx
  have hsz := hbel.size
  refine ⟨s1, s2, s3, s4, ?_, words_step hres hwF (norm_words h1 h2).1 (norm_words h1 h2).2, htab5, hsa.of_block (hsep.block _ hg hbg.symm hbg.symm), htp.of_block (hsep.block _ hp hbp.symm hbp.symm),
    (hsep.block _ hxl hbx.symm hbx.symm).trans hx, ?_, ?_, ?_, hbel.trans (hsep.below hbw hbw hsz)⟩
  · rcases addRes_size hres with e | ⟨e, h⟩ <;> omega
  · rcases hb5 with e | e <;> omega
  · rcases hb5 with e | e <;> omega
  · rcases hb5 with e | e <;> omega

theorem Rd.cells {w1 : World} {bs ls gs l0 : Nat} {P : Nat → Int × Int} {max : Int} {i b l n : Nat} {F : Nat → Int × Int} {S : List (Int × Int)} {r : Bool} {bx : Nat} {w : World}
    (h : Rd w1 bs ls gs l0 P max i b l n F S r bx w) : w.cell? ⟨bx, 0, none⟩ = some (.int .u64 (norm (P i)).1) ∧ w.cell? ⟨bx, 1, none⟩ = some (.int .u64 (norm (P i)).2) ∧ bx < w.heap.size :=
  ⟨by simp [World.cell?, h.box], by simp [World.cell?, h.box], lt_of_block h.box⟩

theorem two_cells {W : World} {B : Nat} {x : Int × Int} (hh : W.heap[B]? = some (.cells #[.int .u64 x.1, .int .u64 x.2] 29 (0, 0))) : ∀ j u, [Value.int .u64 x.1, .int .u64 x.2][j]? = some u → W.cell? ((⟨B, 0, none⟩ : Addr).add j) = some u := by
  intro j u hj
  rcases j with _ | _ | j
  · simp only [List.getElem?_cons_zero, Option.some.injEq] at hj
    subst hj
    simp [World.cell?, Addr.add, hh]
  · simp only [List.getElem?_cons_succ, List.getElem?_cons_zero, Option.some.injEq] at hj
    subst hj
    simp [World.cell?, Addr.add, hh]
  · simp at hj

/-- At the head of the next round. -/
theorem sc_next {w1 : World} {bs ls gs l0 : Nat} {P : Nat → Int × Int} {max : Int} {i b l n : Nat} {F : Nat → Int × Int} {S S' : List (Int × Int)} {r : Bool} {bx : Nat} {w w6 : World} {c10 c11 : Value}
    (h : Rd w1 bs ls gs l0 P max i b l n F S r bx w) (hS : S' = addS S (norm (P i))) (hi : i < ls) (hSi : S.length ≤ i)
    (htab : Tab w6 b l F) (hseen : Seen w6 gs ls S') (hscr : Tab w6 bs ls P) (hbel : Below w1.heap.size w1 w6) (h10 : c10 = .slice (some ⟨gs, 0, none⟩) S'.length ls) (h11 : c11 = .int .i64 ((i + 1 : Nat) : Int)) :
    Sc w1 bs ls gs l0 P max (.slice (some ⟨b, 0, none⟩) l l) (.int .i64 n) c10 c11 w6 := by
  refine ⟨i + 1, b, l, n, F, S', by omega, rfl, rfl, h10, h11, hS ▸ h.st, h.sml, ?_, h.wrd, htab, hseen, hscr, h.bg, h.bp, h.bw, hbel⟩
  rw [hS]; unfold addS
  by_cases hm : norm (P i) ∈ S
  · rw [if_pos hm]; omega
  · rw [if_neg hm]; simp; omega

set_option maxRecDepth 20000 in
set_option maxHeartbeats 4000000 in
theorem script_main (k : Nat) (max : Int) (x0 : Addr) (ls cap : Nat) (P : Nat → Int × Int) (w : World) (hk : k ≤ 12) (hls : ls ≤ 4096) (hz : 0 < ls → ∃ b off, x0 = ⟨b, off, none⟩ ∧ Slots w b off ls P) (hw : Words ls P) :
    Calls Try.prog 7 #[.int .u8 k, .int .i64 max, .slice (some x0) ls cap] w fun e w' => e = .returned (.bool true) ∧ Below w.heap.size w w' := by
  obtain ⟨l0, hl0⟩ : ∃ l0, l0 = 2 ^ k := ⟨_, rfl⟩
  have hp0 : Pow2 l0 := ⟨k, by omega, hl0⟩
  have hle : l0 ≤ 4096 := by rw [hl0]; exact Nat.pow_le_pow_right (n := 2) (by decide) hk
  have hlp := hp0.pos
  have hwr : wrap64 (2 ^ k) = (l0 : Int) := by
    have : ((2 : Int) ^ k) = ((2 ^ k : Nat) : Int) := by simp
    rw [this, ← hl0]
    exact IntWalk.wrap64_in _ ⟨by omega, by omega⟩
  have HL0 := hide hl0
  clear hl0
  have hmk := make2 l0 (by omega)
  obtain ⟨i0, hi, hz0, hz1, hz2⟩ := info_parts info29
  go_enter Try.func7, Try.ntmps7
  go_wp2_with fail
  refine (bytes19_yes _ _ _ _ _ _ (by omega)).mono ?_
  rintro e w1 ⟨rfl, hw1⟩
  subst hw1
  go_wp2_with fail
  refine (clone_any x0 ls cap P _ (by omega) hz).mono ?_
  rintro e w2 ⟨rfl, hT2, hb2⟩
  have hs2 : w1.heap.size < w2.heap.size := hT2.lt
  go_wp2_with (refine wpList_make_own _ rfl _ _ 27 rfl (w2.heap.size + 1) 29 i0 _ 2 Try.underlying27 hi hz0 hz1 .i64 .i64 _ ls rfl rfl rfl (by rw [hz2]; omega) (by unfold maxLen; omega) (by simp) ?_)
  intro w4 hown hgrow
  have hTab0 : Tab w4 w2.heap.size l0 (fun _ => (0, 0)) := (tab_made w2 l0).of_block (hgrow.block w2.heap.size (by simp) (by simp))
  have hTs : Tab w4 w1.heap.size ls P := hT2.of_block ((hgrow.block w1.heap.size (by simp; omega) (by simp)).trans (Below.heap_alloc _ _ _ hs2))
  have hseen : Seen w4 (w2.heap.size + 1) ls [] := by simpa [Seen, flat_nil] using hown
  have hb4 : Below w1.heap.size w1 w4 := ((hb2.alloc (by omega) _).grown hgrow (by simp; omega) (fun k hk => by cases hk))
  clear hown hgrow hmk hT2 hb2 hz
  go_wp2_with fail
  go_loopw [8, 9, 10, 11] (fun c8 c9 c10 c11 wr => Sc w1 w1.heap.size ls (w2.heap.size + 1) l0 P max c8 c9 c10 c11 wr) (fun _ _ _ c _ => ls - (intOf c).toNat)
  case atStart => exact ⟨0, w2.heap.size, l0, 0, _, [], Nat.zero_le _, rfl, rfl, rfl, rfl, St.start hp0, by omega, Nat.zero_le _, words_zero l0, hTab0, hseen, hTs, by omega, by omega, by omega, hb4⟩
  case round =>
    obtain ⟨i, b, l, n, F, S, hil, rfl, rfl, rfl, rfl, hst, hlb, hSi, hwF, htab, hsn, htp, hbg, hbp, hbw, hbel⟩ := hrel
    clear hTab0 hTs hseen hb4 hwr
    have HST := hide hst
    have hlp2 := hst.pow.pos
    have hnl : n ≤ l := by rw [← hst.num]; exact cnt_le l F
    have hnS := hst.few
    have hps := htp.lt
    have hgs := hsn.lt
    have hbs := htab.lt
    clear hst
    by_cases hi' : i < ls
    · have e0 := htp.cell0 hi'
      have e1 := htp.cell1 hi'
      have hxz := norm_nonzero (P i)
      have HXZ := hide hxz
      clear hxz
      go_wp2_with fail
      refine (norm_any (P i) _).mono ?_
      rintro e wn ⟨rfl, c1, c2, rfl⟩
      have hba : Below wr.heap.size wr (((wr.alloc (.cells c1 29)).alloc (.cells c2 29)).alloc (.cells #[.int .u64 (norm (P i)).1, .int .u64 (norm (P i)).2] 29)) := (((Below.refl _ _).alloc (Nat.le_refl _) _).alloc (by simp) _).alloc (by simp; omega) _
      have hta : Tab (((wr.alloc (.cells c1 29)).alloc (.cells c2 29)).alloc (.cells #[.int .u64 (norm (P i)).1, .int .u64 (norm (P i)).2] 29)) b l F := htab.below hba
      have htpa : Tab (((wr.alloc (.cells c1 29)).alloc (.cells c2 29)).alloc (.cells #[.int .u64 (norm (P i)).1, .int .u64 (norm (P i)).2] 29)) w1.heap.size ls P := htp.below hba
      have f0 := htpa.cell0 hi'
      have f1 := htpa.cell1 hi'
      have hxa : (((wr.alloc (.cells c1 29)).alloc (.cells c2 29)).alloc (.cells #[.int .u64 (norm (P i)).1, .int .u64 (norm (P i)).2] 29)).heap[wr.heap.size + 2]? = some (.cells #[.int .u64 (norm (P i)).1, .int .u64 (norm (P i)).2] 29 (0, 0)) := heap3 _ _ _ _
      have hbela : Below w1.heap.size w1 (((wr.alloc (.cells c1 29)).alloc (.cells c2 29)).alloc (.cells #[.int .u64 (norm (P i)).1, .int .u64 (norm (P i)).2] 29)) := hbel.trans (hba.mono hbel.size)
      have hsa : Seen (((wr.alloc (.cells c1 29)).alloc (.cells c2 29)).alloc (.cells #[.int .u64 (norm (P i)).1, .int .u64 (norm (P i)).2] 29)) (w2.heap.size + 1) ls S := hsn.of_block (hba.block _ hsn.lt)
      go_wp2_with fail
      go_loopw [13, 14] (fun c13 c14 w' => Sn S (norm (P i)) (((wr.alloc (.cells c1 29)).alloc (.cells c2 29)).alloc (.cells #[.int .u64 (norm (P i)).1, .int .u64 (norm (P i)).2] 29)) c13 c14 w') (fun _ c _ => S.length - (intOf c).toNat)
      case atStart => exact ⟨0, 0, Nat.zero_le _, rfl, rfl, fun s h hs => by omega, rfl⟩
      case round =>
        obtain ⟨j, nn, hj, rfl, rfl, hno, hwr⟩ := hrel
        subst hwr
        have HNO := hide hno
        clear hno
        by_cases hjS : j < S.length
        · have s0 := (hsa.cells hjS).1
          have s1 := (hsa.cells hjS).2
          by_cases heq : S[j] = norm (P i)
          · have g1 := feq_yes heq
            have HX : Hid (norm (P i) ∈ S) := by rw [← heq]; exact List.getElem_mem hjS
            clear heq
            go_wp2_with fail
            go_quiet (fail)
            go_wp2_with fail
            refine (zzadd_any b l F n max (P i) _ (by exact hta) HST.out.pow (by omega) hnl hwF (hw i hi').1 (hw i hi').2).mono ?_
            rintro e w5 ⟨b', l', F', n', r, rfl, hres, htab5, hb5, hsep5⟩
            have hrd := rd_mk HST.out hlb hSi (by omega) hwF (hw i hi').1 (hw i hi').2 hbg hbp hbw (by exact hsa) (by exact htpa) (by exact hxa) (below_drewN hbela _) (by simp; omega) hres htab5 hb5 hsep5
            clear hres htab5 hb5 hsep5
            have hx0 : w5.cell? ⟨wr.heap.size + 1 + 1, 0, none⟩ = _ := hrd.cells.1
            have hx1 : w5.cell? ⟨wr.heap.size + 1 + 1, 1, none⟩ = _ := hrd.cells.2.1
            have hxl : wr.heap.size + 1 + 1 < w5.heap.size := hrd.cells.2.2
            have HRD := hide hrd
            have hmm : (max != max) = false := by simp
            clear hrd hta htpa f0 f1 hxa hbela hsa s0 s1 g1 hba htab hsn htp e0 e1
            have hS' : Hid (S = addS S (norm (P i))) := by show S = addS S (norm (P i)); unfold addS; rw [if_pos HX.out]
            have HCAP : Hid (l' = l0 ∨ (l' : Int) / 2 < max) := by
              rcases HRD.out.st.cap with e | ⟨h, e, hm⟩
              · exact Or.inl e
              · exact Or.inr (by omega)
            have HFEW : Hid (r = false ∨ ¬ (32 ≤ l0 ∧ S.length ≤ 32)) := by
              by_cases hc : 32 ≤ l0 ∧ S.length ≤ 32
              · exact Or.inl ((HRD.out.few hc.1 (by rw [← hS'.out]; exact hc.2)).2 HX.out)
              · exact Or.inr hc
            cases r
            all_goals
              go_wp2_with fail
              refine (near_any b' l' F' (norm (P i)) l' _ (by exact HRD.out.tab) HRD.out.st.pow (by have := HRD.out.sml; omega) (norm_words (hw i hi').1 (hw i hi').2).1).mono ?_
              rintro e w6 ⟨r6, rfl, hr6, hb6⟩
              have hr6' := hr6.2 HRD.out.near
              subst hr6'
              clear hr6
              have htab6 : Tab w6 b' l' F' := HRD.out.tab.below hb6
              have hseen6 : Seen w6 (w2.heap.size + 1) ls S := HRD.out.seen.of_block (hb6.block _ HRD.out.seen.lt)
              have hscr6 : Tab w6 w1.heap.size ls P := HRD.out.scr.below hb6
              have hbel6 : Below w1.heap.size w1 w6 := HRD.out.bel.trans (hb6.mono HRD.out.bel.size)
              have HSC : Hid (Sc w1 w1.heap.size ls (w2.heap.size + 1) l0 P max (.slice (some ⟨b', 0, none⟩) l' l') (.int .i64 n') (.slice (some ⟨w2.heap.size + 1, 0, none⟩) S.length ls) (.int .i64 ((i : Int) + 1)) w6) :=
                sc_next HRD.out hS'.out hi' hSi htab6 hseen6 hscr6 hbel6 rfl (by go_num)
              have HM : Hid (ls - (intOf (Value.int IntKind.i64 (↑i + 1))).toNat < ls - (intOf (Value.int IntKind.i64 ↑i)).toNat) := by
                show _ < _
                simp [intOf]; omega
              have hwl : wrap64 ((l' : Int) / 2) = (l' : Int) / 2 := by
                have := HRD.out.sml
                exact IntWalk.wrap64_in _ ⟨by omega, by omega⟩
              clear htab6 hseen6 hscr6 hbel6 hb6
              go_wp2_with fail
              all_goals first
                | exact ⟨HSC.out, HM.out⟩
                | (exfalso; rcases HFEW.out with h | h <;> rcases HCAP.out with h' | h' <;> first | (cases h; done) | omega)
                | (have e : l' = l0 := by omega
                   subst e
                   exact ⟨HSC.out, HM.out⟩)
                | go_show
          · have g1 := feq_no heq
            have HE := hide heq
            clear heq
            go_wp2_with fail
            go_quiet (fail)
            go_wp2_with fail
            go_roundw
            case rel =>
              refine ⟨j + 1, _, by omega, by go_num, rfl, fun s h hs => ?_, rfl⟩
              by_cases e : s = j
              · subst e; exact HE.out
              · exact HNO.out s h (by omega)
            case measure => simp [intOf]; omega
        · have HX : Hid (norm (P i) ∉ S) := by
            intro hm
            obtain ⟨s, hs, e⟩ := List.mem_iff_getElem.1 hm
            exact HNO.out s hs (by omega) e
          go_wp2_with fail
          refine (zzadd_any b l F n max (P i) _ (by exact hta) HST.out.pow (by omega) hnl hwF (hw i hi').1 (hw i hi').2).mono ?_
          rintro e w5 ⟨b', l', F', n', r, rfl, hres, htab5, hb5, hsep5⟩
          have hrd := rd_mk HST.out hlb hSi (by omega) hwF (hw i hi').1 (hw i hi').2 hbg hbp hbw (by exact hsa) (by exact htpa) (by exact hxa) (below_drewN hbela _) (by simp; omega) hres htab5 hb5 hsep5
          clear hres htab5 hb5 hsep5
          have hx0 : w5.cell? ⟨wr.heap.size + 1 + 1, 0, none⟩ = _ := hrd.cells.1
          have hx1 : w5.cell? ⟨wr.heap.size + 1 + 1, 1, none⟩ = _ := hrd.cells.2.1
          have hxl : wr.heap.size + 1 + 1 < w5.heap.size := hrd.cells.2.2
          have hr : r = true := by
            cases r
            · exact absurd (hrd.yes rfl) HX.out
            · rfl
          subst hr
          have HRD := hide hrd
          have hmm : (max != max) = false := by simp
          clear hrd hta htpa f0 f1 hxa hbela hsa hba htab hsn htp e0 e1
          have hS' : Hid (S ++ [norm (P i)] = addS S (norm (P i))) := by show S ++ [norm (P i)] = addS S (norm (P i)); unfold addS; rw [if_neg HX.out]
          have HCAP : Hid (l' = l0 ∨ (l' : Int) / 2 < max) := by
            rcases HRD.out.st.cap with e | ⟨h, e, hm⟩
            · exact Or.inl e
            · exact Or.inr (by omega)
          have hsn5 : Seen w5 (w2.heap.size + 1) ls S := HRD.out.seen
          have hg5 := hsn5.lt
          have ha5 : Below w5.heap.size w5 (w5.alloc (.cells #[.int .u64 (norm (P i)).1, .int .u64 (norm (P i)).2] 29)) := (Below.refl _ _).alloc (Nat.le_refl _) _
          have hsn6 : Seen (w5.alloc (.cells #[.int .u64 (norm (P i)).1, .int .u64 (norm (P i)).2] 29)) (w2.heap.size + 1) ls S := hsn5.of_block (ha5.block _ hsn5.lt)
          have hc6 : ∀ j u, [Value.int .u64 (norm (P i)).1, .int .u64 (norm (P i)).2][j]? = some u → (w5.alloc (.cells #[.int .u64 (norm (P i)).1, .int .u64 (norm (P i)).2] 29)).cell? ((⟨w5.heap.size, 0, none⟩ : Addr).add j) = some u := by
            exact fun j u hj => two_cells (heap_alloc_new w5 (.cells #[.int .u64 (norm (P i)).1, .int .u64 (norm (P i)).2] 29)) j u hj
          have HC6 := hide hc6
          clear hc6
          go_wp2_with (refine wpList_append_fits _ rfl _ _ 27 rfl (w2.heap.size + 1) 29 i0 2 Try.underlying27 hi hz1 _ _ _ (flat S) rfl (by exact hsn6) _ 1 _ [.int .u64 (norm (P i)).1, .int .u64 (norm (P i)).2] rfl rfl (by exact HC6.out) (by simp [Value.oneCell']) (by omega) ?_)
          intro w6 hown6 hgrow6
          have hseen6 : Seen w6 (w2.heap.size + 1) ls (S ++ [norm (P i)]) := by
            unfold Seen
            rw [flat_snoc, List.length_append]
            exact hown6
          have htab6 : Tab w6 b' l' F' := HRD.out.tab.of_block ((hgrow6.block b' (by have := HRD.out.tab.lt; simp; omega) (by have := HRD.out.bg; simp; omega)).trans (ha5.block _ HRD.out.tab.lt))
          have hscr6 : Tab w6 w1.heap.size ls P := HRD.out.scr.of_block ((hgrow6.block w1.heap.size (by have := HRD.out.scr.lt; simp; omega) (by simp; omega)).trans (ha5.block _ HRD.out.scr.lt))
          have hbel6 : Below w1.heap.size w1 w6 := (HRD.out.bel.trans (ha5.mono HRD.out.bel.size)).grown hgrow6 (by have := HRD.out.bel.size; simp; omega) (fun k hk => by cases hk; omega)
          have hy0 : w6.cell? ⟨wr.heap.size + 1 + 1, 0, none⟩ = some (.int .u64 (norm (P i)).1) := by
            have hb : w6.heap[wr.heap.size + 1 + 1]? = _ := (hgrow6.block (wr.heap.size + 1 + 1) (by simp; omega) (by simp; omega)).trans (ha5.block _ hxl)
            simpa [World.cell?, hb] using hx0
          have hy1 : w6.cell? ⟨wr.heap.size + 1 + 1, 1, none⟩ = some (.int .u64 (norm (P i)).2) := by
            have hb : w6.heap[wr.heap.size + 1 + 1]? = _ := (hgrow6.block (wr.heap.size + 1 + 1) (by simp; omega) (by simp; omega)).trans (ha5.block _ hxl)
            simpa [World.cell?, hb] using hx1
          clear hown6 hgrow6 HC6 hsn6 ha5 hsn5 hx0 hx1
          go_wp2_with fail
          refine (near_any b' l' F' (norm (P i)) l' _ (by exact htab6) HRD.out.st.pow (by have := HRD.out.sml; omega) (norm_words (hw i hi').1 (hw i hi').2).1).mono ?_
          rintro e w7 ⟨r6, rfl, hr6, hb6⟩
          have hr6' := hr6.2 HRD.out.near
          subst hr6'
          clear hr6
          have htab7 : Tab w7 b' l' F' := htab6.below hb6
          have hseen7 : Seen w7 (w2.heap.size + 1) ls (S ++ [norm (P i)]) := hseen6.of_block (hb6.block _ hseen6.lt)
          have hscr7 : Tab w7 w1.heap.size ls P := hscr6.below hb6
          have hbel7 : Below w1.heap.size w1 w7 := hbel6.trans (hb6.mono hbel6.size)
          have HSC : Hid (Sc w1 w1.heap.size ls (w2.heap.size + 1) l0 P max (.slice (some ⟨b', 0, none⟩) l' l') (.int .i64 n') (.slice (some ⟨w2.heap.size + 1, 0, none⟩) (S.length + 1) ls) (.int .i64 ((i : Int) + 1)) w7) :=
            sc_next HRD.out hS'.out hi' hSi htab7 hseen7 hscr7 hbel7 (by simp) (by go_num)
          have HM : Hid (ls - (intOf (Value.int IntKind.i64 (↑i + 1))).toNat < ls - (intOf (Value.int IntKind.i64 ↑i)).toNat) := by
            show _ < _
            simp [intOf]; omega
          have hwl : wrap64 ((l' : Int) / 2) = (l' : Int) / 2 := by
            have := HRD.out.sml
            exact IntWalk.wrap64_in _ ⟨by omega, by omega⟩
          clear htab6 hseen6 hscr6 hbel6 hb6 htab7 hseen7 hscr7 hbel7 hy0 hy1
          go_wp2_with fail
          all_goals first
            | exact ⟨HSC.out, HM.out⟩
            | (exfalso; rcases HCAP.out with h' | h' <;> omega)
            | (have e : l' = l0 := by omega
               subst e
               exact ⟨HSC.out, HM.out⟩)
            | go_show
    · go_wp2_with fail
      refine (wf_any b 0 l F l n _ htab.slots HST.out.pow (by omega) hwF).mono ?_
      rintro e w6 ⟨r6, rfl, hr6, hb6⟩
      have hr6' := hr6.2 ⟨HST.out.inv, by rw [HST.out.num]⟩
      subst hr6'
      clear hr6
      have hbel6 : Below w1.heap.size w1 w6 := hbel.trans (hb6.mono hbel.size)
      go_wp2_with fail
      go_ret
      exact ⟨rfl, hbel6⟩

end Go.Proofs.Qxb6603362a
