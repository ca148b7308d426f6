/-
  'Rows.FnSkipSpacesIdempotentFromWithinRunSaid', proved: the frame is the shell's; the walk by the contracts of Qxb6603284aSkip.
-/
import Derived.Test.Qxb6603284aRows
import Derived.Test.Qxb6603284aSkip
import Derived.WalkKit
import Derived.ProofKit
import Derived.OpenShut
import Derived.ShutString
import Derived.ChangeOld
import Derived.Below
namespace Go.Proofs.Qxb6603284a.fnSkipSpacesIdempotentFromWithinRun
open Go.ChangeShapes Go.WideShapes Go.ChangeAt Go.RowKit
open Go.ChangeMaps (open_string shut_string)
set_option linter.unusedVariables false

theorem own : ownKnob Try.prog.godebug = none := by kernel_rfl

set_option maxHeartbeats 400000 in
theorem bytes_yes (s : ByteArray) (p : Int) (w : World) (h : s.size ≤ 1048576) :
    Calls Try.prog 10 #[.string s, .int .i64 p] w fun e w' => e = .returned (.bool true) ∧ w' = w := by
  go_enter Try.func10, Try.ntmps10
  go_wp2
  go_ret
  exact ⟨rfl, rfl⟩
set_option maxHeartbeats 400000 in
theorem bytes_no (s : ByteArray) (p : Int) (w : World) (h : ¬ s.size ≤ 1048576) :
    Calls Try.prog 10 #[.string s, .int .i64 p] w fun e w' => e = .returned (.bool false) ∧ w' = w := by
  have h' : (1048576 : Int) < s.size := by omega
  go_enter Try.func10, Try.ntmps10
  go_wp2
  go_ret
  exact ⟨rfl, rfl⟩

set_option maxHeartbeats 400000 in
theorem walk (a0 : ByteArray) (a1 : Int) (w0 : a0.size ≤ maxLen) (w1 : (Lit.int .i64 a1).wf = true) (w : World) :
    Calls Try.prog 4 #[.string a0, .int .i64 a1] w fun e w' => e = .returned (.bool true) ∧ Below w.heap.size w w' := by
  by_cases hs : a0.size ≤ 1048576
  · by_cases hp : a1 < 0
    · go_enter Try.func4, Try.ntmps4
      go_wp2_with (go_at_call 10; refine (bytes_yes _ _ _ hs).mono ?_; rintro e w' ⟨rfl, rfl⟩)
      go_ret
      exact ⟨rfl, Below.refl _ _⟩
    · obtain ⟨p, rfl⟩ := Int.eq_ofNat_of_zero_le (show 0 ≤ a1 by omega)
      have heq : (((sk a0 (sk a0 p) : Nat) : Int) != ((sk a0 p : Nat) : Int)) = false := by simp [sk_idem]
      by_cases hl : p < a0.size
      · by_cases hc : a0[p] = 32
        · have h32 : ((a0[p].toNat : Int) == 32) = true := by rw [hc]; rfl
          have hst : (((sk a0 (p + 1) : Nat) : Int) != ((sk a0 p : Nat) : Int)) = false := by simp [sk_step a0 p hl hc]
          clear hc
          go_enter Try.func4, Try.ntmps4
          go_wp2_with (go_at_call 10; refine (bytes_yes _ _ _ hs).mono ?_; rintro e wx ⟨rfl, hwx⟩; subst hwx)
          refine (zzskip_any _ _ _ hs).mono ?_
          rintro e w1 ⟨rfl, hb1⟩
          go_wp2_with fail
          refine (zzskip_any _ _ _ hs).mono ?_
          rintro e w2 ⟨rfl, hb2⟩
          go_wp2_with fail
          rw [show ((p : Int) + 1) = ((p + 1 : Nat) : Int) from by omega]
          refine (zzskip_any _ _ _ hs).mono ?_
          rintro e w3 ⟨rfl, hb3⟩
          have hbe := (hb1.trans (hb2.mono hb1.size)).trans (hb3.mono (Nat.le_trans hb1.size hb2.size))
          clear hb1 hb2 hb3
          go_wp2_with fail
          go_ret
          exact ⟨rfl, hbe⟩
        · have h32 : ((a0[p].toNat : Int) == 32) = false := by
            rw [beq_eq_false_iff_ne]
            intro h
            exact hc (UInt8.toNat_inj.1 (show (a0[p]).toNat = 32 by omega))
          clear hc
          go_enter Try.func4, Try.ntmps4
          go_wp2_with (go_at_call 10; refine (bytes_yes _ _ _ hs).mono ?_; rintro e wx ⟨rfl, hwx⟩; subst hwx)
          refine (zzskip_any _ _ _ hs).mono ?_
          rintro e w1 ⟨rfl, hb1⟩
          go_wp2_with fail
          refine (zzskip_any _ _ _ hs).mono ?_
          rintro e w2 ⟨rfl, hb2⟩
          have hbe := hb1.trans (hb2.mono hb1.size)
          clear hb1 hb2
          go_wp2_with fail
          go_ret
          exact ⟨rfl, hbe⟩
      · have hqd : decide (p < a0.size) = false := by simpa using hl
        go_enter Try.func4, Try.ntmps4
        go_wp2_with (go_at_call 10; refine (bytes_yes _ _ _ hs).mono ?_; rintro e wx ⟨rfl, hwx⟩; subst hwx)
        refine (zzskip_any _ _ _ hs).mono ?_
        rintro e w1 ⟨rfl, hb1⟩
        go_wp2_with fail
        refine (zzskip_any _ _ _ hs).mono ?_
        rintro e w2 ⟨rfl, hb2⟩
        have hbe := hb1.trans (hb2.mono hb1.size)
        clear hb1 hb2
        go_wp2_with fail
        go_ret
        exact ⟨rfl, hbe⟩
  · go_enter Try.func4, Try.ntmps4
    go_wp2_with (go_at_call 10; refine (bytes_no _ _ _ hs).mono ?_; rintro e w' ⟨rfl, rfl⟩)
    go_ret
    exact ⟨rfl, Below.refl _ _⟩

/-! ### THE ROW's STEP -/
set_option maxRecDepth 100000 in
theorem lifted (os : Os) (started : os.Started) (H : Type) (enc : TypeId × Value → H) :
    ReturnsInHanded {} Try.checked os 4 .any (Rows.fnSkipSpacesIdempotentFromWithinRunSpec.pre6 enc Try.prog Try.f4 Rows.fnSkipSpacesIdempotentFromWithinRunRow.domain false) (Rows.fnSkipSpacesIdempotentFromWithinRunSpec.post enc Try.prog Try.f4 false true false false) := by
  refine returnsInHanded_of_change (C := Try.checked) own started (by kernel_rfl) Try.func4
    (ChangeSpec.witness6 (enc := enc) (C := Try.checked) false ⟨#[], #[.string ByteArray.empty, .int .i64 0], []⟩ 8 (by kernel_rfl) (by kernel_rfl) (by kernel_rfl) (by kernel_rfl)) ?_
  intro W base args ds gs before hval0 hW hcnd _
  have hval : ∀ (j : Nat) t v, Try.f4.params[j]? = some t → args[j]? = some v → Value.okWide Try.prog W .any base t v := hval0
  have hW' := hW
  obtain ⟨p, q, hA0, hV, rfl, hfz, hnd⟩ := hW
  have hA : DataW.TrodAll enc Try.prog W 0 (fun _ => true) true Try.f4.params.toList args.toList ds p := hA0
  rw [Try.params4] at hA hval
  obtain ⟨v0, vs0, d0, ds0, p0, q0, hargs, rfl, rfl, h0, r0⟩ := trodAll_cons hA
  obtain ⟨v1, vs1, d1, ds1, p1, q1, rfl, rfl, rfl, h1, r1⟩ := trodAll_cons r0
  obtain ⟨rfl, rfl, rfl⟩ := trodAll_nil r1
  obtain rfl : args = #[v0, v1] := by cases args; simp_all
  obtain ⟨rfl, rfl⟩ := trodVars_none hV
  obtain ⟨a0, rfl, rfl, rfl, w0⟩ := open_string Try.underlying9 (hval 0 9 v0 rfl rfl) h0
  obtain ⟨a1, rfl, rfl, rfl, w1⟩ := open_int Try.underlying3 (hval 1 3 v1 rfl rfl) h1
  clear hA0 hval0
  refine (walk a0 a1 w0 w1 W).mono fun e W' ⟨he, bel⟩ => ?_
  subst he
  exact ⟨_, rfl, _, _, _, [], _, [], hW', trodAll_mk1 (shut_bool Try.underlying4 _), (trodAll_cons_mk (shut_string Try.underlying9 w0) (trodAll_cons_mk (shut_int Try.underlying3 w1) trodAll_mk0)), rfl, bel.frame _, fun h => by cases h⟩

theorem over : Rows.fnSkipSpacesIdempotentFromWithinRunRow.holds Try.pinned (OpenSpec.ofChange Rows.fnSkipSpacesIdempotentFromWithinRunSpec) :=
  OpenClaim.holds_of_wide 4 Try.f4 rfl rfl rfl rfl rfl rfl rfl ⟨rfl, rfl, rfl, rfl, rfl⟩ rfl rfl rfl rfl rfl (by kernel_rfl) Try.func4 (by kernel_rfl)
    (of_decide_eq_true (by kernel_rfl)) (by unfold Func.isWrapper; first | (rw [if_pos (by decide +kernel)]; kernel_rfl) | (rw [if_neg (by decide +kernel)]; exact ⟨rfl, rfl⟩))
    (fun os started H enc _ => lifted os started H enc)

/-- ████ THE STATEMENT ████ -/
theorem proved : Rows.FnSkipSpacesIdempotentFromWithinRunSaid :=
  over
#print axioms proved
end Go.Proofs.Qxb6603284a.fnSkipSpacesIdempotentFromWithinRun
