/-
  'Rows.FnIsPrimeByDivisorCountSaid', proved: the frame is the shell's; the walk by the contract of isPrime.
-/
import Derived.Test.Qxb6603342aRows
import Derived.Test.Qxb6603342aIsPrime
import Derived.WalkKit
import Derived.ProofKit
import Derived.OpenShut
import Derived.ShutString
import Derived.ChangeOld
import Derived.Below
namespace Go.Proofs.Qxb6603342a.fnIsPrimeByDivisorCount
open Go.ChangeShapes Go.WideShapes Go.ChangeAt Go.RowKit
set_option linter.unusedVariables false

theorem own : ownKnob Try.prog.godebug = none := by kernel_rfl

set_option maxHeartbeats 400000 in
theorem walk (a0 : Int) (w0 : (Lit.int .i64 a0).wf = true) (w : World) :
    Calls Try.prog 3 #[.int .i64 a0] w fun e w' => e = .returned (.bool true) ∧ Below w.heap.size w w' := by
  by_cases hbig : 65536 < a0
  · go_enter Try.func3, Try.ntmps3
    go_wp2
    go_ret
    exact ⟨rfl, Below.refl _ _⟩
  · by_cases hneg : a0 ≤ 0
    · have hz : prB a0.toNat = false := prB_small _ (by omega)
      go_enter Try.func3, Try.ntmps3
      go_wp2
      refine wp_loop_rounds 1 ?_
      rw [rounds_succ]
      go_wp2_with (go_at_call 9; refine (zzprime_any a0 _ (by omega)).mono ?_; rintro e wx ⟨rfl, hwx⟩; subst hwx)
      go_ret
      exact ⟨rfl, Below.refl _ _⟩
    · obtain ⟨m, rfl⟩ := Int.eq_ofNat_of_zero_le (show 0 ≤ a0 by omega)
      go_enter Try.func3, Try.ntmps3
      go_wp2
      go_loop [3, 4] (fun c i => ∃ k : Nat, k ≤ m ∧ i = .int .i64 (k + 1) ∧ c = .int .i64 (cnt m k)) (fun _ i => m + 1 - (intOf i).toNat)
      case atStart => exact ⟨0, Nat.zero_le _, rfl, rfl⟩
      case round =>
        obtain ⟨k, hk, rfl, rfl⟩ := hrel
        have hc := cnt_le m k
        by_cases hlt : k < m
        · by_cases hm : m % (k + 1) = 0
          · have hm' : (((m : Int) % ((k : Int) + 1)) == 0) = true := by
              have e : ((m % (k + 1) : Nat) : Int) = (m : Int) % ((k : Int) + 1) := by simp
              rw [beq_iff_eq, ← e, hm]; rfl
            have HC : Hid (cnt m (k + 1) = cnt m k + 1) := by
              show cnt m k + (if m % (k + 1) = 0 then 1 else 0) = _
              rw [if_pos hm]
            clear hm
            go_wp2
            go_round
            case rel => exact ⟨k + 1, by omega, by go_num, by rw [HC.out]; go_num⟩
            case measure => simp [intOf]; omega
          · have hm' : (((m : Int) % ((k : Int) + 1)) == 0) = false := by
              have e : ((m % (k + 1) : Nat) : Int) = (m : Int) % ((k : Int) + 1) := by simp
              rw [beq_eq_false_iff_ne, ← e]; generalize m % (k + 1) = r at hm; omega
            have HC : Hid (cnt m (k + 1) = cnt m k) := by
              show cnt m k + (if m % (k + 1) = 0 then 1 else 0) = _
              rw [if_neg hm]; rfl
            clear hm
            go_wp2
            go_round
            case rel => exact ⟨k + 1, by omega, by go_num, by rw [HC.out]⟩
            case measure => simp [intOf]; omega
        · obtain rfl : k = m := by omega
          have hfin : (prB k == (((cnt k k : Nat) : Int) == 2)) = true := by
            rw [beq_iff_eq, prB_cnt, Bool.eq_iff_iff, decide_eq_true_iff, beq_iff_eq]
            omega
          go_wp2_with (go_at_call 9; refine (zzprime_any (k : Int) _ (by omega)).mono ?_; rintro e wx ⟨rfl, hwx⟩; subst hwx; rw [Int.toNat_natCast])
          go_ret
          exact ⟨rfl, Below.refl _ _⟩

/-! ### THE ROW's STEP -/
set_option maxRecDepth 100000 in
theorem lifted (os : Os) (started : os.Started) (H : Type) (enc : TypeId × Value → H) :
    ReturnsInHanded {} Try.checked os 3 .any (Rows.fnIsPrimeByDivisorCountSpec.pre6 enc Try.prog Try.f3 Rows.fnIsPrimeByDivisorCountRow.domain false) (Rows.fnIsPrimeByDivisorCountSpec.post enc Try.prog Try.f3 false true false false) := by
  refine returnsInHanded_of_change (C := Try.checked) own started (by kernel_rfl) Try.func3
    (ChangeSpec.witness6 (enc := enc) (C := Try.checked) false ⟨#[], #[.int .i64 0], []⟩ 8 (by kernel_rfl) (by kernel_rfl) (by kernel_rfl) (by kernel_rfl)) ?_
  intro W base args ds gs before hval0 hW hcnd _
  have hval : ∀ (j : Nat) t v, Try.f3.params[j]? = some t → args[j]? = some v → Value.okWide Try.prog W .any base t v := hval0
  have hW' := hW
  obtain ⟨p, q, hA0, hV, rfl, hfz, hnd⟩ := hW
  have hA : DataW.TrodAll enc Try.prog W 0 (fun _ => true) true Try.f3.params.toList args.toList ds p := hA0
  rw [Try.params3] at hA hval
  obtain ⟨v0, vs0, d0, ds0, p0, q0, hargs, rfl, rfl, h0, r0⟩ := trodAll_cons hA
  obtain ⟨rfl, rfl, rfl⟩ := trodAll_nil r0
  obtain rfl : args = #[v0] := by cases args; simp_all
  obtain ⟨rfl, rfl⟩ := trodVars_none hV
  obtain ⟨a0, rfl, rfl, rfl, w0⟩ := open_int Try.underlying3 (hval 0 3 v0 rfl rfl) h0
  clear hA0 hval0
  refine (walk a0 w0 W).mono fun e W' ⟨he, bel⟩ => ?_
  subst he
  exact ⟨_, rfl, _, _, _, [], _, [], hW', trodAll_mk1 (shut_bool Try.underlying4 _), (trodAll_cons_mk (shut_int Try.underlying3 w0) trodAll_mk0), rfl, bel.frame _, fun h => by cases h⟩

theorem over : Rows.fnIsPrimeByDivisorCountRow.holds Try.pinned (OpenSpec.ofChange Rows.fnIsPrimeByDivisorCountSpec) :=
  OpenClaim.holds_of_wide 3 Try.f3 rfl rfl rfl rfl rfl rfl rfl ⟨rfl, rfl, rfl, rfl, rfl⟩ rfl rfl rfl rfl rfl (by kernel_rfl) Try.func3 (by kernel_rfl)
    (of_decide_eq_true (by kernel_rfl)) (by unfold Func.isWrapper; first | (rw [if_pos (by decide +kernel)]; kernel_rfl) | (rw [if_neg (by decide +kernel)]; exact ⟨rfl, rfl⟩))
    (fun os started H enc _ => lifted os started H enc)

/-- ████ THE STATEMENT ████ -/
theorem proved : Rows.FnIsPrimeByDivisorCountSaid :=
  over
#print axioms proved
end Go.Proofs.Qxb6603342a.fnIsPrimeByDivisorCount
