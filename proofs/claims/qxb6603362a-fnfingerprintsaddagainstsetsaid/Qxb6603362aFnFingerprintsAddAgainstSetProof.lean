/-
  'Rows.FnFingerprintsAddAgainstSetSaid', proved: the frame after the guide's shells; the walk: Qxb6603362aSetAll.
-/
import Derived.Test.Qxb6603362aSetAll
import Derived.Test.Qxb6603362aOpen
import Derived.WalkKit
import Derived.ProofKit
import Derived.OpenShut
import Derived.ShutString
import Derived.ChangeOld
import Derived.Below
namespace Go.Proofs.Qxb6603362a.fnFingerprintsAddAgainstSet
open Go.ChangeShapes Go.WideShapes Go.ChangeAt Go.RowKit
set_option linter.unusedVariables false

theorem own : ownKnob Try.prog.godebug = none := by kernel_rfl
theorem laidOut : laidOutB Try.prog = true := by kernel_rfl

/-! ### THE ROW's STEP -/
set_option maxRecDepth 100000 in
theorem lifted (os : Os) (started : os.Started) (H : Type) (enc : TypeId × Value → H) :
    ReturnsInHanded {} Try.checked os 6 .any (Rows.fnFingerprintsAddAgainstSetSpec.pre6 enc Try.prog Try.f6 Rows.fnFingerprintsAddAgainstSetRow.domain false) (Rows.fnFingerprintsAddAgainstSetSpec.post enc Try.prog Try.f6 false true false false) := by
  refine returnsInHanded_of_change (C := Try.checked) own started (by kernel_rfl) Try.func6
    (ChangeSpec.witness6 (enc := enc) (C := Try.checked) false ⟨#[], #[.slice none 0 0, .int .i64 0, .int .i64 0, .agg #[.int .u64 0, .int .u64 0]], []⟩ 8 (by kernel_rfl) (by kernel_rfl) (by kernel_rfl) (by kernel_rfl)) ?_
  intro W base args ds gs before hval0 hW hcnd _
  have hval : ∀ (j : Nat) t v, Try.f6.params[j]? = some t → args[j]? = some v → Value.okWide Try.prog W .any base t v := hval0
  have hW' := hW
  obtain ⟨p, q, hA0, hV, rfl, hfz, hnd⟩ := hW
  have hA : DataW.TrodAll enc Try.prog W 0 (fun _ => true) true Try.f6.params.toList args.toList ds p := hA0
  rw [Try.params6] at hA hval
  obtain ⟨v0, vs0, d0, ds0, p0, q0, hargs, rfl, rfl, h0, r0⟩ := trodAll_cons hA
  obtain ⟨v1, vs1, d1, ds1, p1, q1, rfl, rfl, rfl, h1, r1⟩ := trodAll_cons r0
  obtain ⟨v2, vs2, d2, ds2, p2, q2, rfl, rfl, rfl, h2, r2⟩ := trodAll_cons r1
  obtain ⟨v3, vs3, d3, ds3, p3, q3, rfl, rfl, rfl, h3, r3⟩ := trodAll_cons r2
  obtain ⟨rfl, rfl, rfl⟩ := trodAll_nil r3
  obtain rfl : args = #[v0, v1, v2, v3] := by cases args; simp_all
  obtain ⟨rfl, rfl⟩ := trodVars_none hV
  obtain ⟨a0, len0, cap0, rfl⟩ := okWide_slice Try.underlying27 (hval 0 27 v0 rfl rfl)
  obtain ⟨V, rfl⟩ : ∃ cs, v3 = .agg cs := by
    have h := hval 3 29 v3 rfl rfl
    unfold Value.okWide at h
    rw [Try.underlying29] at h
    obtain ⟨cs, e, _⟩ := h
    exact ⟨cs, e⟩
  have lt0 : ∀ x ∈ p0, x.block < W.heap.size := by obtain ⟨m, hm⟩ := h0; exact DataW.trod_lt m _ _ _ hm
  have lt1 : ∀ x ∈ p1, x.block < W.heap.size := by obtain ⟨m, hm⟩ := h1; exact DataW.trod_lt m _ _ _ hm
  have lt2 : ∀ x ∈ p2, x.block < W.heap.size := by obtain ⟨m, hm⟩ := h2; exact DataW.trod_lt m _ _ _ hm
  have lt3 : ∀ x ∈ p3, x.block < W.heap.size := by obtain ⟨m, hm⟩ := h3; exact DataW.trod_lt m _ _ _ hm
  obtain ⟨n, rfl, _, _, _⟩ := open_int Try.underlying3 (hval 1 3 v1 rfl rfl) h1
  obtain ⟨mx, rfl, _, _, _⟩ := open_int Try.underlying3 (hval 2 3 v2 rfl rfl) h2
  have hfp : (a0 = none ∧ len0 = 0 ∧ cap0 = 0) ∨ ∃ (y : Addr) (P : Nat → Int × Int), a0 = some y ∧ Words len0 P ∧ (0 < len0 → ∃ b off, y = ⟨b, off, none⟩ ∧ Slots W b off len0 P) := by
    obtain ⟨fuel, hf⟩ := h0
    exact open_fps (by simpa [Value.cells] using hf)
  obtain ⟨x, hx, u1, u2⟩ : ∃ x : Int × Int, V = #[.int .u64 x.1, .int .u64 x.2] ∧ U64 x.1 ∧ U64 x.2 := by
    obtain ⟨fuel, hf⟩ := h3
    obtain ⟨x, e, u1, u2⟩ := open_fp hf
    exact ⟨x, by cases V; simpa [Value.cells] using e, u1, u2⟩
  subst hx
  clear hA0 hval0
  refine (set_any n mx x a0 len0 cap0 W u1 u2 hfp).mono fun e W' ⟨he, bel⟩ => ?_
  subst he
  exact ⟨_, rfl, _, _, _, [], _, [], hW', trodAll_mk1 (shut_bool Try.underlying4 _),
    (trodAll_cons_mk (Below.trod laidOut (by kernel_rfl) (of_decide_eq_true (by kernel_rfl)) h0 bel lt0)
      (trodAll_cons_mk (Below.trod laidOut (by kernel_rfl) (of_decide_eq_true (by kernel_rfl)) h1 bel lt1)
        (trodAll_cons_mk (Below.trod laidOut (by kernel_rfl) (of_decide_eq_true (by kernel_rfl)) h2 bel lt2)
          (trodAll_cons_mk (Below.trod laidOut (by kernel_rfl) (of_decide_eq_true (by kernel_rfl)) h3 bel lt3) trodAll_mk0)))), rfl, bel.frame _, fun h => by cases h⟩

theorem over : Rows.fnFingerprintsAddAgainstSetRow.holds Try.pinned (OpenSpec.ofChange Rows.fnFingerprintsAddAgainstSetSpec) :=
  OpenClaim.holds_of_wide 6 Try.f6 rfl rfl rfl rfl rfl rfl rfl ⟨rfl, rfl, rfl, rfl, rfl⟩ rfl rfl rfl rfl rfl (by kernel_rfl) Try.func6 (by kernel_rfl)
    (of_decide_eq_true (by kernel_rfl)) (by unfold Func.isWrapper; first | (rw [if_pos (by decide +kernel)]; kernel_rfl) | (rw [if_neg (by decide +kernel)]; exact ⟨rfl, rfl⟩))
    (fun os started H enc _ => lifted os started H enc)

/-- ████ THE STATEMENT ████ -/
theorem proved : Rows.FnFingerprintsAddAgainstSetSaid :=
  over
#print axioms proved
end Go.Proofs.Qxb6603362a.fnFingerprintsAddAgainstSet
