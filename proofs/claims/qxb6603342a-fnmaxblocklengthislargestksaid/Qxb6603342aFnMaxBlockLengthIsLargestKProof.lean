/-
  'Rows.FnMaxBlockLengthIsLargestKSaid', proved: the frame after the guide's shells; the walk: Qxb6603342aMaxBlockLaw.
-/
import Derived.Test.Qxb6603342aMaxBlockLaw
import Derived.Test.Qxb6603342aOpen
import Derived.Test.Qxb6603342aWitness
import Derived.WalkKit
import Derived.ProofKit
import Derived.OpenShut
import Derived.ShutString
import Derived.ChangeOld
import Derived.Below
namespace Go.Proofs.Qxb6603342a.fnMaxBlockLengthIsLargestK
open Go.ChangeShapes Go.WideShapes Go.ChangeAt Go.RowKit
set_option linter.unusedVariables false

theorem own : ownKnob Try.prog.godebug = none := by kernel_rfl
theorem laidOut : laidOutB Try.prog = true := by kernel_rfl

/-! ### A start that fits -/
def inp : Input := ⟨#[], #[table0, .slice none 0 0, .slice none 0 0], []⟩
theorem wit_v (os : Os) : (World.plainHolding Try.checked.prog os inp).variablesB Try.checked.prog = true := by kernel_rfl
theorem wit_r (os : Os) : ((World.plainHolding Try.checked.prog os inp).heap.toList.drop Try.checked.prog.globals.size).take ((begin Try.checked.prog (fun _ _ => 0) default).world.heap.size - Try.checked.prog.globals.size) =
      (begin Try.checked.prog (fun _ _ => 0) default).world.heap.toList.drop Try.checked.prog.globals.size := by kernel_rfl
theorem nil27 (w : World) : Value.okWideB Try.prog w 27 (.slice none 0 0) = true := by kernel_rfl
theorem nil28 (w : World) : Value.okWideB Try.prog w 28 (.slice none 0 0) = true := by kernel_rfl
theorem wit_i : Try.checked.prog.inits.idxOf? 6 = none := by kernel_rfl
theorem wit_b : (Try.f6.body.isSome && !Try.f6.ours && Try.f6.nfree == 0) = true := by kernel_rfl
theorem wit_ok (w : World) (base : Nat) : Input.okWide Try.checked.prog w .any base 6 ⟨#[], inp.args, []⟩ := by
  have hb := wit_b
  simp only [Bool.and_eq_true, Bool.not_eq_true', beq_iff_eq] at hb
  refine ⟨fun o ho => by simp at ho, fun g hg => by simp at hg, wit_i, Try.f6, Try.func6, hb.1.1, hb.1.2, hb.2, by rw [Try.params6]; rfl, ?_⟩
  intro j t v ht hv
  rw [Try.params6] at ht
  match j, ht, hv with
  | 0, ht, hv =>
    obtain rfl : 26 = t := by simpa using ht
    obtain rfl : table0 = v := by simpa [inp] using hv
    exact table_ok w base
  | 1, ht, hv =>
    obtain rfl : 27 = t := by simpa using ht
    obtain rfl : Value.slice none 0 0 = v := by simpa [inp] using hv
    exact Value.okWide_of_okWideB (nil27 w)
  | 2, ht, hv =>
    obtain rfl : 28 = t := by simpa using ht
    obtain rfl : Value.slice none 0 0 = v := by simpa [inp] using hv
    exact Value.okWide_of_okWideB (nil28 w)
  | j + 3, ht, _ => simp at ht
set_option maxRecDepth 100000 in
theorem wit_pre (os : Os) (H : Type) (enc : TypeId × Value → H) : Rows.fnMaxBlockLengthIsLargestKSpec.preB enc Try.checked.prog Try.f6 Rows.fnMaxBlockLengthIsLargestKRow.domain false (World.plainHolding Try.checked.prog os inp).memory inp.args 8 = true := by kernel_rfl
set_option maxRecDepth 100000 in
theorem wit_sz (os : Os) (H : Type) (enc : TypeId × Value → H) : Rows.fnMaxBlockLengthIsLargestKSpec.sizedB enc Try.checked.prog Try.f6 false (World.plainHolding Try.checked.prog os inp).memory inp.args 8 = true := by kernel_rfl

/-! ### THE ROW's STEP -/
set_option maxRecDepth 100000 in
theorem lifted (os : Os) (started : os.Started) (H : Type) (enc : TypeId × Value → H) :
    ReturnsInHanded {} Try.checked os 6 .any (Rows.fnMaxBlockLengthIsLargestKSpec.pre6 enc Try.prog Try.f6 Rows.fnMaxBlockLengthIsLargestKRow.domain false) (Rows.fnMaxBlockLengthIsLargestKSpec.post enc Try.prog Try.f6 false true false false) := by
  refine returnsInHanded_of_change (C := Try.checked) own started (by kernel_rfl) Try.func6
    (witnessT (enc := enc) inp 8 (wit_v os) (wit_r os) wit_ok (wit_pre os H enc) (wit_sz os H enc)) ?_
  intro W base args ds gs before hval0 hW hcnd _
  have hval : ∀ (j : Nat) t v, Try.f6.params[j]? = some t → args[j]? = some v → Value.okWide Try.prog W .any base t v := hval0
  have hW' := hW
  obtain ⟨p, q, hA0, hV, rfl, hfz, hnd⟩ := hW
  have hA : DataW.TrodAll enc Try.prog W 0 (fun _ => true) true Try.f6.params.toList args.toList ds p := hA0
  rw [Try.params6] at hA hval
  obtain ⟨v0, vs0, d0, ds0, p0, q0, hargs, rfl, rfl, h0, r0⟩ := trodAll_cons hA
  obtain ⟨v1, vs1, d1, ds1, p1, q1, rfl, rfl, rfl, h1, r1⟩ := trodAll_cons r0
  obtain ⟨v2, vs2, d2, ds2, p2, q2, rfl, rfl, rfl, h2, r2⟩ := trodAll_cons r1
  obtain ⟨rfl, rfl, rfl⟩ := trodAll_nil r2
  obtain rfl : args = #[v0, v1, v2] := by cases args; simp_all
  obtain ⟨rfl, rfl⟩ := trodVars_none hV
  obtain ⟨V, rfl, hVs⟩ : ∃ cs, v0 = .agg cs ∧ cs.size = 1024 := by
    have h := hval 0 26 v0 rfl rfl
    unfold Value.okWide at h
    rw [Try.underlying26] at h
    obtain ⟨cs, e, hs, _⟩ := h
    exact ⟨cs, e, by rw [hs, cells26]⟩
  obtain ⟨a1, len1, cap1, rfl⟩ := okWide_slice Try.underlying27 (hval 1 27 v1 rfl rfl)
  obtain ⟨a2, len2, cap2, rfl⟩ := okWide_slice Try.underlying28 (hval 2 28 v2 rfl rfl)
  have lt0 : ∀ x ∈ p0, x.block < W.heap.size := by obtain ⟨m, hm⟩ := h0; exact DataW.trod_lt m _ _ _ hm
  have lt1 : ∀ x ∈ p1, x.block < W.heap.size := by obtain ⟨m, hm⟩ := h1; exact DataW.trod_lt m _ _ _ hm
  have lt2 : ∀ x ∈ p2, x.block < W.heap.size := by obtain ⟨m, hm⟩ := h2; exact DataW.trod_lt m _ _ _ hm
  obtain ⟨m1, n1, Z, _, hZ⟩ : len1 ≤ maxLen ∧ (a1 = none → len1 = 0) ∧ ∃ Z : Nat → Int, (∀ i, U32 (Z i)) ∧ IntsAt W a1 len1 Z := by
    obtain ⟨fuel, hf⟩ := h1
    exact open_u32s (by simpa [Value.cells] using hf)
  obtain ⟨m2, n2, R, hR⟩ : len2 ≤ maxLen ∧ (a2 = none → len2 = 0) ∧ ∃ R : Nat → Int, RowsAt W a2 len2 R := by
    obtain ⟨fuel, hf⟩ := h2
    exact open_rows (by simpa [Value.cells] using hf)
  clear hA0 hval0
  refine (maxLaw V hVs a1 len1 cap1 Z a2 len2 cap2 R W m1 m2 n1 n2 hZ hR).mono fun e W' ⟨he, bel⟩ => ?_
  subst he
  exact ⟨_, rfl, _, _, _, [], _, [], hW', trodAll_mk1 (shut_bool Try.underlying4 _),
    (trodAll_cons_mk (Below.trod laidOut (by kernel_rfl) (of_decide_eq_true (by kernel_rfl)) h0 bel lt0)
      (trodAll_cons_mk (Below.trod laidOut (by kernel_rfl) (of_decide_eq_true (by kernel_rfl)) h1 bel lt1)
        (trodAll_cons_mk (Below.trod laidOut (by kernel_rfl) (of_decide_eq_true (by kernel_rfl)) h2 bel lt2) trodAll_mk0))), rfl, bel.frame _, fun h => by cases h⟩

theorem over : Rows.fnMaxBlockLengthIsLargestKRow.holds Try.pinned (OpenSpec.ofChange Rows.fnMaxBlockLengthIsLargestKSpec) :=
  OpenClaim.holds_of_wide 6 Try.f6 rfl rfl rfl rfl rfl rfl rfl ⟨rfl, rfl, rfl, rfl, rfl⟩ rfl rfl rfl rfl rfl (by kernel_rfl) Try.func6 (by kernel_rfl)
    (of_decide_eq_true (by kernel_rfl)) (by unfold Func.isWrapper; first | (rw [if_pos (by decide +kernel)]; kernel_rfl) | (rw [if_neg (by decide +kernel)]; exact ⟨rfl, rfl⟩))
    (fun os started H enc _ => lifted os started H enc)

/-- ████ THE STATEMENT ████ -/
theorem proved : Rows.FnMaxBlockLengthIsLargestKSaid :=
  over
#print axioms proved
end Go.Proofs.Qxb6603342a.fnMaxBlockLengthIsLargestK
