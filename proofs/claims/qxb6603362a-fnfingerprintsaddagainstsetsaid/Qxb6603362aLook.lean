/-
  THE WALKS of heldNear and wellFormed.
-/
import Derived.Test.Qxb6603362aAddFull
import Derived.Test.Qxb6603362aPlain3
namespace Go.Proofs.Qxb6603362a
open Go.RowKit
attribute [local go_sem] eqFP

/-- An answer that says whether p holds; nothing old has turned. -/
def Says (p : Prop) (w : World) (e : Ending) (w' : World) : Prop := ∃ r : Bool, e = .returned (.bool r) ∧ (r = true ↔ p) ∧ Below w.heap.size w w'

theorem place_cast {l : Nat} (x : Int × Int) (hl : 0 < l) : x.1 % (l : Int) = ((place l x : Nat) : Int) := by
  unfold place
  rw [Int.toNat_of_nonneg (Int.emod_nonneg _ (by omega))]

/-- The loop over the window: no slot ahead of the t-th holds x. -/
def H1 (l : Nat) (F : Nat → Int × Int) (x : Int × Int) (w1 : World) (c : Value) (wr : World) : Prop := ∃ t nn : Nat, t ≤ 32 ∧ c = .int .i64 t ∧ (∀ s, s < t → F (win l x s) ≠ x) ∧ wr = w1.drewN nn

set_option maxHeartbeats 2000000 in
theorem near_any (b l : Nat) (F : Nat → Int × Int) (x : Int × Int) (c : Nat) (w : World) (hT : Tab w b l F) (hl : Pow2 l) (hl2 : l ≤ 131072) (h1 : U64 x.1) :
    Calls Try.prog 17 #[.slice (some ⟨b, 0, none⟩) l c, .agg #[.int .u64 x.1, .int .u64 x.2]] w fun e w' => Says (Near l F x) w e w' := by
  have hp := hl.pos
  have hbs := hT.lt
  have hz : ((l : Int) == 0) = false := by simp; omega
  go_enter Try.func17, Try.ntmps17
  go_wp2_with fail
  refine (place_any x.1 x.2 l _ hl h1).mono ?_
  rintro e w1 ⟨rfl, rfl⟩
  rw [place_cast x hp]
  have hpl := place_lt x hp
  go_wp2_with fail
  have hb1 : Below w.heap.size w ((w.alloc (.cells #[.int .u64 x.1, .int .u64 x.2] 29)).alloc (.cells #[.int .u64 x.1, .int .u64 x.2] 29)) := ((Below.refl _ _).alloc (Nat.le_refl _) _).alloc (by simp) _
  have hT1 := hT.below hb1
  go_loopw [8] (fun c wr => H1 l F x ((w.alloc (.cells #[.int .u64 x.1, .int .u64 x.2] 29)).alloc (.cells #[.int .u64 x.1, .int .u64 x.2] 29)) c wr) (fun c _ => 32 - (intOf c).toNat)
  case atStart => exact ⟨0, 0, by omega, rfl, fun s hs => by omega, rfl⟩
  case round =>
    obtain ⟨t, nn, ht, rfl, hpast, hwr⟩ := hrel
    subst hwr
    have HPA := hide hpast
    clear hpast
    have hwl := win_lt x t hp
    have hwin := win_int l x t hl
    have e0 : ((w.alloc (.cells #[.int .u64 x.1, .int .u64 x.2] 29)).alloc (.cells #[.int .u64 x.1, .int .u64 x.2] 29)).cell? ⟨b, win l x t * 2, none⟩ = some (.int .u64 (F (win l x t)).1) := hT1.cell0 hwl
    have e1 : ((w.alloc (.cells #[.int .u64 x.1, .int .u64 x.2] 29)).alloc (.cells #[.int .u64 x.1, .int .u64 x.2] 29)).cell? ⟨b, win l x t * 2 + 1, none⟩ = some (.int .u64 (F (win l x t)).2) := hT1.cell1 hwl
    by_cases ht32 : t < 32
    · by_cases heq : F (win l x t) = x
      · have g1 := feq_yes heq
        have HE := hide heq
        clear heq
        go_wp2_with fail
        go_quiet (fail)
        go_wp2_with fail
        go_ret
        exact ⟨true, rfl, ⟨fun _ => ⟨t, ht32, HE.out⟩, fun _ => rfl⟩, below_drewN (below_drewN hb1 _) _⟩
      · have g1 := feq_no heq
        have HE := hide heq
        clear heq
        go_wp2_with fail
        go_quiet (fail)
        go_wp2_with fail
        go_roundw
        case rel =>
          refine ⟨t + 1, _, by omega, by go_num, fun s hs => ?_, rfl⟩
          by_cases e : s = t
          · subst e; exact HE.out
          · exact HPA.out s (by omega)
        case measure => simp [intOf]; omega
    · obtain rfl : t = 32 := by omega
      go_wp2_with fail
      go_ret
      refine ⟨false, rfl, ⟨(fun h => by cases h), fun h => ?_⟩, below_drewN hb1 _⟩
      obtain ⟨s, hs, e⟩ := h
      exact absurd e (HPA.out s hs)

/-- The check's outer loop. -/
def W1 (l : Nat) (F : Nat → Int × Int) (w : World) (k c : Value) (wr : World) : Prop := ∃ j : Nat, j ≤ l ∧ c = .int .i64 j ∧ k = .int .i64 (cnt j F : Nat) ∧ AllOk l F j ∧ Below w.heap.size w wr
/-- The check's loop over the slots between. -/
def W2 (l : Nat) (F : Nat → Int × Int) (x : Int × Int) (d : Nat) (c : Value) : Prop := ∃ t : Nat, t ≤ d ∧ c = .int .i64 t ∧ ∀ s, s < t → F (win l x s) ≠ (0, 0)
/-- The check's loop over the window. -/
def W3 (l : Nat) (F : Nat → Int × Int) (x : Int × Int) (j : Nat) (w1 : World) (c : Value) (wr : World) : Prop := ∃ t nn : Nat, t ≤ 32 ∧ c = .int .i64 t ∧ (∀ s, s < t → win l x s ≠ j → F (win l x s) ≠ x) ∧ wr = w1.drewN nn

set_option maxHeartbeats 2000000 in
theorem wf_any (b off l : Nat) (F : Nat → Int × Int) (c : Nat) (n : Int) (w : World) (hT : Slots w b off l F) (hl : Pow2 l) (hl2 : l ≤ 131072) (hw : Words l F) :
    Calls Try.prog 11 #[.slice (some ⟨b, off, none⟩) l c, .int .i64 n] w fun e w' => Says (Inv l F ∧ ((cnt l F : Nat) : Int) = n) w e w' := by
  have hp := hl.pos
  have hpb := (pow2B_iff l (by omega)).2 hl
  have HB := hide hpb
  clear hpb
  go_enter Try.func11, Try.ntmps11
  go_wp2_with fail
  refine (pow2_any l _ (by omega)).mono ?_
  rintro e w1 ⟨rfl, hw1⟩
  subst hw1
  rw [HB.out]
  go_wp2_with fail
  go_loopw [7, 8] (fun k c wr => W1 l F w1 k c wr) (fun _ c _ => l - (intOf c).toNat)
  case atStart => exact ⟨0, Nat.zero_le _, rfl, rfl, fun j hj => by omega, Below.refl _ _⟩
  case round =>
    obtain ⟨j, hj, rfl, rfl, hok, hb⟩ := hrel
    have HOK := hide hok
    clear hok
    have hcl := cnt_le j F
    by_cases hjl : j < l
    · have hT1 := hT.below hb
      have e0 := (hT1.2 j hjl).1
      have e1 := (hT1.2 j hjl).2
      have HC := hide (cnt_succ j F)
      by_cases hz : F j = (0, 0)
      · have g1 := feq_zero hz
        have HZ := hide hz
        clear hz
        go_wp2_with fail
        go_roundw
        case rel =>
          refine ⟨j + 1, by omega, by go_num, by rw [HC.out, if_pos HZ.out]; rfl, fun i hi hne => ?_, hb.alloc (by have := hb.size; omega) _⟩
          by_cases e : i = j
          · subst e; exact absurd HZ.out hne
          · exact HOK.out i (by omega) hne
        case measure => simp [intOf]; omega
      · have g1 := feq_nonzero hz
        have HZ := hide hz
        clear hz
        go_wp2_with fail
        refine (place_any (F j).1 (F j).2 l _ hl (hw j hjl).1).mono ?_
        rintro e w2 ⟨rfl, rfl⟩
        rw [place_cast (F j) hp]
        have hpl := place_lt (F j) hp
        have hdl := dist_lt (F j) hp hjl
        have hdist : bits .and .i64 ((j : Int) - ((place l (F j) : Nat) : Int)) ((l : Int) - 1) = ((dist l (F j) j : Nat) : Int) := by
          rw [and_mask _ hl]
          unfold dist
          rw [Int.toNat_of_nonneg (Int.emod_nonneg _ (by omega))]
        have hb2 : Below w1.heap.size w1 ((wr.alloc (.cells #[.int .u64 (F j).1, .int .u64 (F j).2] 29)).alloc (.cells #[.int .u64 (F j).1, .int .u64 (F j).2] 29)) := (hb.alloc (by have := hb.size; omega) _).alloc (by have := hb.size; simp; omega) _
        have HB2 := hide hb2
        have hT2 := hT.below hb2
        have HT2 := hide hT2
        clear hT1 hT2 hb hb2 e0 e1 hT
        by_cases hfar : dist l (F j) j < 32
        · go_wp2_with fail
          go_loop [12] (fun c => W2 l F (F j) (dist l (F j) j) c) (fun c => dist l (F j) j - (intOf c).toNat)
          case atStart => exact ⟨0, Nat.zero_le _, rfl, fun s hs => by omega⟩
          case round =>
            obtain ⟨t, ht, rfl, hpast⟩ := hrel
            have HPA := hide hpast
            clear hpast
            by_cases htd : t < dist l (F j) j
            · have hwl := win_lt (F j) t hp
              have hwin := win_int l (F j) t hl
              have e0 := (HT2.out.2 (win l (F j) t) hwl).1
              have e1 := (HT2.out.2 (win l (F j) t) hwl).2
              by_cases hzt : F (win l (F j) t) = (0, 0)
              · have g2 := feq_zero hzt
                have HZT := hide hzt
                clear hzt
                go_wp2_with fail
                go_ret
                refine ⟨false, rfl, ⟨(fun h => by cases h), fun h => ?_⟩, HB2.out⟩
                exact absurd HZT.out (((allOk_iff hp).2 h.1 j hjl HZ.out).gap t htd)
              · have g2 := feq_nonzero hzt
                have HZT := hide hzt
                clear hzt
                go_wp2_with fail
                go_round
                case rel =>
                  refine ⟨t + 1, by omega, by go_num, fun s hs => ?_⟩
                  by_cases e : s = t
                  · subst e; exact HZT.out
                  · exact HPA.out s (by omega)
                case measure => simp [intOf]; omega
            · obtain rfl : t = dist l (F j) j := by omega
              have HGAP := HPA
              clear HPA
              go_wp2_with fail
              go_loopw [13] (fun c w' => W3 l F (F j) j ((wr.alloc (.cells #[.int .u64 (F j).1, .int .u64 (F j).2] 29)).alloc (.cells #[.int .u64 (F j).1, .int .u64 (F j).2] 29)) c w') (fun c _ => 32 - (intOf c).toNat)
              case atStart => exact ⟨0, 0, by omega, rfl, (fun s hs => by omega), rfl⟩
              case round =>
                obtain ⟨t, nn, ht2, rfl, hpast, hwr⟩ := hrel
                subst hwr
                have HPA := hide hpast
                clear hpast
                by_cases ht32 : t < 32
                · have hwl := win_lt (F j) t hp
                  have hwin := win_int l (F j) t hl
                  have e0 := (HT2.out.2 (win l (F j) t) hwl).1
                  have e1 := (HT2.out.2 (win l (F j) t) hwl).2
                  by_cases hwj : win l (F j) t = j
                  · have g2 : ((((win l (F j) t : Nat)) : Int) != (j : Int)) = false := by simp [hwj]
                    have HWJ := hide hwj
                    clear hwj
                    go_wp2_with fail
                    go_quiet (fail)
                    go_wp2_with fail
                    go_roundw
                    case rel =>
                      refine ⟨t + 1, _, by omega, by go_num, fun s hs hne => ?_, rfl⟩
                      by_cases e : s = t
                      · subst e; exact absurd HWJ.out hne
                      · exact HPA.out s (by omega) hne
                    case measure => simp [intOf]; omega
                  · have g2 : ((((win l (F j) t : Nat)) : Int) != (j : Int)) = true := by simp; omega
                    have HWJ := hide hwj
                    clear hwj
                    by_cases heq : F (win l (F j) t) = F j
                    · have g3 := feq_yes heq
                      have HE := hide heq
                      clear heq
                      go_wp2_with fail
                      go_quiet (fail)
                      go_wp2_with fail
                      go_ret
                      refine ⟨false, rfl, ⟨(fun h => by cases h), fun h => ?_⟩, below_drewN (below_drewN HB2.out _) _⟩
                      exact absurd HE.out (((allOk_iff hp).2 h.1 j hjl HZ.out).once t ht32 HWJ.out)
                    · have g3 := feq_no heq
                      have HE := hide heq
                      clear heq
                      go_wp2_with fail
                      go_quiet (fail)
                      go_wp2_with fail
                      go_roundw
                      case rel =>
                        refine ⟨t + 1, _, by omega, by go_num, fun s hs hne => ?_, rfl⟩
                        by_cases e : s = t
                        · subst e; exact HE.out
                        · exact HPA.out s (by omega) hne
                      case measure => simp [intOf]; omega
                · obtain rfl : t = 32 := by omega
                  go_wp2_with fail
                  go_roundw
                  case rel =>
                    refine ⟨j + 1, by omega, by go_num, by rw [HC.out, if_neg HZ.out]; go_num, fun i hi hne => ?_, below_drewN HB2.out _⟩
                    by_cases e : i = j
                    · subst e; exact ⟨hfar, HGAP.out, HPA.out⟩
                    · exact HOK.out i (by omega) hne
                  case measure => simp [intOf]; omega
        · go_wp2_with fail
          go_ret
          refine ⟨false, rfl, ⟨(fun h => by cases h), fun h => ?_⟩, HB2.out⟩
          exact absurd ((allOk_iff hp).2 h.1 j hjl HZ.out).far hfar
    · obtain rfl : j = l := by omega
      go_wp2_with fail
      go_ret
      refine ⟨_, rfl, ?_, hb⟩
      rw [beq_iff_eq]
      exact ⟨fun h => ⟨(allOk_iff hp).1 HOK.out, h⟩, fun h => h.2⟩

end Go.Proofs.Qxb6603362a
