/-
  'Rows.FnColumnsShapeSaid', proved: the frame after the guide's shells; the walk: Qxb6603342aColsEarly.
-/
import Derived.Test.Qxb6603342aColsEarly
import Derived.Test.Qxb6603342aOpen
import Derived.Test.Qxb6603342aWitness
import Derived.WalkKit
import Derived.ProofKit
import Derived.OpenShut
import Derived.ShutString
import Derived.ChangeOld
import Derived.Below
namespace Go.Proofs.Qxb6603342a.fnColumnsShape
open Go.ChangeShapes Go.WideShapes Go.ChangeAt Go.RowKit
set_option linter.unusedVariables false

theorem own : ownKnob Try.prog.godebug = none := by kernel_rfl
theorem laidOut : laidOutB Try.prog = true := by kernel_rfl

/-! ### The Blk among the arguments -/
section
variable {H : Type} {enc : TypeId × Value → H} {W : World} {base : Nat} {spare : Nat → Bool} {held : Bool}
theorem cells38 : Try.prog.cellsOf 38 = 10 := by kernel_rfl
theorem open_blk {D : Array Value} {fuel : Nat} {x : DataW H × List MemPlace} (h : DataW.trod enc Try.prog W base spare held fuel 38 D.toList = some x) :
    ∃ x0 x1 x2 x3 x4 x5 x6 x7 x8 x9 : Int, D = blkI x0 x1 x2 x3 x4 x5 x6 x7 x8 x9 := by
  obtain ⟨l, rfl⟩ : ∃ l : List Value, D = l.toArray := ⟨D.toList, by simp⟩
  have h' : DataW.trod enc Try.prog W base spare held fuel 38 l = some x := h
  obtain ⟨xs, k, _, _, hlen, hxl, hf⟩ := DataW.trod_struct Try.underlying38 h'
  rw [cells38] at hlen
  have hx10 : xs.length = 10 := hxl
  have g : ∀ (q : Nat) (v : Value), DataW.trod enc Try.prog W base spare held k 3 [v] = xs[q]? → q < 10 → ∃ z : Int, v = .int .i64 z := by
    intro q v ht hq
    rw [List.getElem?_eq_getElem (by omega)] at ht
    obtain ⟨z, e, _, _⟩ := DataW.trod_int Try.underlying3 ht
    simp only [List.cons.injEq, and_true] at e
    exact ⟨z, e⟩
  match l, hlen with
  | [c0, c1, c2, c3, c4, c5, c6, c7, c8, c9], _ =>
    obtain ⟨z0, e0⟩ := g 0 c0 (by have : DataW.trod enc Try.prog W base spare held k 3 (([c0, c1, c2, c3, c4, c5, c6, c7, c8, c9].drop 0).take (Try.prog.cellsOf 3)) = xs[0]? := hf 0 _ rfl; rw [cells3] at this; exact this) (by omega)
    obtain ⟨z1, e1⟩ := g 1 c1 (by have : DataW.trod enc Try.prog W base spare held k 3 (([c0, c1, c2, c3, c4, c5, c6, c7, c8, c9].drop 1).take (Try.prog.cellsOf 3)) = xs[1]? := hf 1 _ rfl; rw [cells3] at this; exact this) (by omega)
    obtain ⟨z2, e2⟩ := g 2 c2 (by have : DataW.trod enc Try.prog W base spare held k 3 (([c0, c1, c2, c3, c4, c5, c6, c7, c8, c9].drop 2).take (Try.prog.cellsOf 3)) = xs[2]? := hf 2 _ rfl; rw [cells3] at this; exact this) (by omega)
    obtain ⟨z3, e3⟩ := g 3 c3 (by have : DataW.trod enc Try.prog W base spare held k 3 (([c0, c1, c2, c3, c4, c5, c6, c7, c8, c9].drop 3).take (Try.prog.cellsOf 3)) = xs[3]? := hf 3 _ rfl; rw [cells3] at this; exact this) (by omega)
    obtain ⟨z4, e4⟩ := g 4 c4 (by have : DataW.trod enc Try.prog W base spare held k 3 (([c0, c1, c2, c3, c4, c5, c6, c7, c8, c9].drop 4).take (Try.prog.cellsOf 3)) = xs[4]? := hf 4 _ rfl; rw [cells3] at this; exact this) (by omega)
    obtain ⟨z5, e5⟩ := g 5 c5 (by have : DataW.trod enc Try.prog W base spare held k 3 (([c0, c1, c2, c3, c4, c5, c6, c7, c8, c9].drop 5).take (Try.prog.cellsOf 3)) = xs[5]? := hf 5 _ rfl; rw [cells3] at this; exact this) (by omega)
    obtain ⟨z6, e6⟩ := g 6 c6 (by have : DataW.trod enc Try.prog W base spare held k 3 (([c0, c1, c2, c3, c4, c5, c6, c7, c8, c9].drop 6).take (Try.prog.cellsOf 3)) = xs[6]? := hf 6 _ rfl; rw [cells3] at this; exact this) (by omega)
    obtain ⟨z7, e7⟩ := g 7 c7 (by have : DataW.trod enc Try.prog W base spare held k 3 (([c0, c1, c2, c3, c4, c5, c6, c7, c8, c9].drop 7).take (Try.prog.cellsOf 3)) = xs[7]? := hf 7 _ rfl; rw [cells3] at this; exact this) (by omega)
    obtain ⟨z8, e8⟩ := g 8 c8 (by have : DataW.trod enc Try.prog W base spare held k 3 (([c0, c1, c2, c3, c4, c5, c6, c7, c8, c9].drop 8).take (Try.prog.cellsOf 3)) = xs[8]? := hf 8 _ rfl; rw [cells3] at this; exact this) (by omega)
    obtain ⟨z9, e9⟩ := g 9 c9 (by have : DataW.trod enc Try.prog W base spare held k 3 (([c0, c1, c2, c3, c4, c5, c6, c7, c8, c9].drop 9).take (Try.prog.cellsOf 3)) = xs[9]? := hf 9 _ rfl; rw [cells3] at this; exact this) (by omega)
    exact ⟨z0, z1, z2, z3, z4, z5, z6, z7, z8, z9, by rw [e0, e1, e2, e3, e4, e5, e6, e7, e8, e9]; rfl⟩
end

/-! ### A start that fits -/
def inp : Input := ⟨#[], #[table0, .slice none 0 0, .slice none 0 0, .agg (blkI 0 0 0 0 0 0 0 0 0 0), .int .u32 0], []⟩
theorem wit_v (os : Os) : (World.plainHolding Try.checked.prog os inp).variablesB Try.checked.prog = true := by kernel_rfl
theorem wit_r (os : Os) : ((World.plainHolding Try.checked.prog os inp).heap.toList.drop Try.checked.prog.globals.size).take ((begin Try.checked.prog (fun _ _ => 0) default).world.heap.size - Try.checked.prog.globals.size) =
      (begin Try.checked.prog (fun _ _ => 0) default).world.heap.toList.drop Try.checked.prog.globals.size := by kernel_rfl
theorem nil27 (w : World) : Value.okWideB Try.prog w 27 (.slice none 0 0) = true := by kernel_rfl
theorem nil28 (w : World) : Value.okWideB Try.prog w 28 (.slice none 0 0) = true := by kernel_rfl
theorem blk38 (w : World) : Value.okWideB Try.prog w 38 (.agg (blkI 0 0 0 0 0 0 0 0 0 0)) = true := by kernel_rfl
theorem int24 (w : World) : Value.okWideB Try.prog w 24 (.int .u32 0) = true := by kernel_rfl
theorem wit_i : Try.checked.prog.inits.idxOf? 7 = none := by kernel_rfl
theorem wit_b : (Try.f7.body.isSome && !Try.f7.ours && Try.f7.nfree == 0) = true := by kernel_rfl
theorem wit_ok (w : World) (base : Nat) : Input.okWide Try.checked.prog w .any base 7 ⟨#[], inp.args, []⟩ := by
  have hb := wit_b
  simp only [Bool.and_eq_true, Bool.not_eq_true', beq_iff_eq] at hb
  refine ⟨fun o ho => by simp at ho, fun g hg => by simp at hg, wit_i, Try.f7, Try.func7, hb.1.1, hb.1.2, hb.2, by rw [Try.params7]; rfl, ?_⟩
  intro j t v ht hv
  rw [Try.params7] at ht
  match j, ht, hv with
  | 0, ht, hv =>
    obtain rfl : 26 = t := by simpa using ht
    obtain rfl : table0 = v := by simpa [inp] using hv
    exact table_ok w base
  | 1, ht, hv =>
    obtain rfl : 27 = t := by simpa using ht
    obtain rfl : Value.slice none 0 0 = v := by simpa [inp] using hv
    exact Value.okWide_of_okWideB (nil27 w)
  | 2, ht, hv =>
    obtain rfl : 28 = t := by simpa using ht
    obtain rfl : Value.slice none 0 0 = v := by simpa [inp] using hv
    exact Value.okWide_of_okWideB (nil28 w)
  | 3, ht, hv =>
    obtain rfl : 38 = t := by simpa using ht
    obtain rfl : Value.agg (blkI 0 0 0 0 0 0 0 0 0 0) = v := by simpa [inp] using hv
    exact Value.okWide_of_okWideB (blk38 w)
  | 4, ht, hv =>
    obtain rfl : 24 = t := by simpa using ht
    obtain rfl : Value.int .u32 0 = v := by simpa [inp] using hv
    exact Value.okWide_of_okWideB (int24 w)
  | j + 5, ht, _ => simp at ht
set_option maxRecDepth 100000 in
theorem wit_pre (os : Os) (H : Type) (enc : TypeId × Value → H) : Rows.fnColumnsShapeSpec.preB enc Try.checked.prog Try.f7 Rows.fnColumnsShapeRow.domain false (World.plainHolding Try.checked.prog os inp).memory inp.args 8 = true := by kernel_rfl
set_option maxRecDepth 100000 in
theorem wit_sz (os : Os) (H : Type) (enc : TypeId × Value → H) : Rows.fnColumnsShapeSpec.sizedB enc Try.checked.prog Try.f7 false (World.plainHolding Try.checked.prog os inp).memory inp.args 8 = true := by kernel_rfl

/-! ### THE ROW's STEP -/
set_option maxRecDepth 100000 in
theorem lifted (os : Os) (started : os.Started) (H : Type) (enc : TypeId × Value → H) :
    ReturnsInHanded {} Try.checked os 7 .any (Rows.fnColumnsShapeSpec.pre6 enc Try.prog Try.f7 Rows.fnColumnsShapeRow.domain false) (Rows.fnColumnsShapeSpec.post enc Try.prog Try.f7 false true false false) := by
  refine returnsInHanded_of_change (C := Try.checked) own started (by kernel_rfl) Try.func7
    (witnessT (enc := enc) inp 8 (wit_v os) (wit_r os) wit_ok (wit_pre os H enc) (wit_sz os H enc)) ?_
  intro W base args ds gs before hval0 hW hcnd _
  have hval : ∀ (j : Nat) t v, Try.f7.params[j]? = some t → args[j]? = some v → Value.okWide Try.prog W .any base t v := hval0
  have hW' := hW
  obtain ⟨p, q, hA0, hV, rfl, hfz, hnd⟩ := hW
  have hA : DataW.TrodAll enc Try.prog W 0 (fun _ => true) true Try.f7.params.toList args.toList ds p := hA0
  rw [Try.params7] at hA hval
  obtain ⟨v0, vs0, d0, ds0, p0, q0, hargs, rfl, rfl, h0, r0⟩ := trodAll_cons hA
  obtain ⟨v1, vs1, d1, ds1, p1, q1, rfl, rfl, rfl, h1, r1⟩ := trodAll_cons r0
  obtain ⟨v2, vs2, d2, ds2, p2, q2, rfl, rfl, rfl, h2, r2⟩ := trodAll_cons r1
  obtain ⟨v3, vs3, d3, ds3, p3, q3, rfl, rfl, rfl, h3, r3⟩ := trodAll_cons r2
  obtain ⟨v4, vs4, d4, ds4, p4, q4, rfl, rfl, rfl, h4, r4⟩ := trodAll_cons r3
  obtain ⟨rfl, rfl, rfl⟩ := trodAll_nil r4
  obtain rfl : args = #[v0, v1, v2, v3, v4] := by cases args; simp_all
  obtain ⟨rfl, rfl⟩ := trodVars_none hV
  obtain ⟨V, rfl, hVs⟩ : ∃ cs, v0 = .agg cs ∧ cs.size = 1024 := by
    have h := hval 0 26 v0 rfl rfl
    unfold Value.okWide at h
    rw [Try.underlying26] at h
    obtain ⟨cs, e, hs, _⟩ := h
    exact ⟨cs, e, by rw [hs, cells26]⟩
  obtain ⟨a1, len1, cap1, rfl⟩ := okWide_slice Try.underlying27 (hval 1 27 v1 rfl rfl)
  obtain ⟨a2, len2, cap2, rfl⟩ := okWide_slice Try.underlying28 (hval 2 28 v2 rfl rfl)
  obtain ⟨D, rfl⟩ : ∃ cs, v3 = .agg cs := by
    have h := hval 3 38 v3 rfl rfl
    unfold Value.okWide at h
    rw [Try.underlying38] at h
    obtain ⟨cs, e, _, _⟩ := h
    exact ⟨cs, e⟩
  have lt0 : ∀ x ∈ p0, x.block < W.heap.size := by obtain ⟨m, hm⟩ := h0; exact DataW.trod_lt m _ _ _ hm
  have lt1 : ∀ x ∈ p1, x.block < W.heap.size := by obtain ⟨m, hm⟩ := h1; exact DataW.trod_lt m _ _ _ hm
  have lt2 : ∀ x ∈ p2, x.block < W.heap.size := by obtain ⟨m, hm⟩ := h2; exact DataW.trod_lt m _ _ _ hm
  have lt3 : ∀ x ∈ p3, x.block < W.heap.size := by obtain ⟨m, hm⟩ := h3; exact DataW.trod_lt m _ _ _ hm
  obtain ⟨T, hT⟩ : ∃ T : Nat → Int, ∀ i, i < 1024 → V[i]? = some (.int .u32 (T i)) ∧ U32 (T i) := by
    obtain ⟨fuel, hf⟩ := h0
    exact open_table (by simpa [Value.cells] using hf)
  obtain ⟨m1, n1, Z, _, hZ⟩ : len1 ≤ maxLen ∧ (a1 = none → len1 = 0) ∧ ∃ Z : Nat → Int, (∀ i, U32 (Z i)) ∧ IntsAt W a1 len1 Z := by
    obtain ⟨fuel, hf⟩ := h1
    exact open_u32s (by simpa [Value.cells] using hf)
  obtain ⟨m2, n2, R, hR⟩ : len2 ≤ maxLen ∧ (a2 = none → len2 = 0) ∧ ∃ R : Nat → Int, RowsAt W a2 len2 R := by
    obtain ⟨fuel, hf⟩ := h2
    exact open_rows (by simpa [Value.cells] using hf)
  obtain ⟨x0, x1, x2, x3, x4, x5, x6, x7, x8, x9, rfl⟩ : ∃ x0 x1 x2 x3 x4 x5 x6 x7 x8 x9 : Int, D = blkI x0 x1 x2 x3 x4 x5 x6 x7 x8 x9 := by
    obtain ⟨fuel, hf⟩ := h3
    exact open_blk (by simpa [Value.cells] using hf)
  obtain ⟨isi, rfl, rfl, rfl, w4⟩ := open_int Try.underlying24 (hval 4 24 v4 rfl rfl) h4
  clear hA0 hval0
  refine (shapeLaw V hVs T hT a1 len1 cap1 Z a2 len2 cap2 R x0 x1 x2 x3 x4 x5 x6 x7 x8 x9 isi W m1 m2 n1 n2 hZ hR (wf_u32 w4)).mono fun e W' ⟨he, bel⟩ => ?_
  subst he
  exact ⟨_, rfl, _, _, _, [], _, [], hW', trodAll_mk1 (shut_bool Try.underlying4 _),
    (trodAll_cons_mk (Below.trod laidOut (by kernel_rfl) (of_decide_eq_true (by kernel_rfl)) h0 bel lt0)
      (trodAll_cons_mk (Below.trod laidOut (by kernel_rfl) (of_decide_eq_true (by kernel_rfl)) h1 bel lt1)
        (trodAll_cons_mk (Below.trod laidOut (by kernel_rfl) (of_decide_eq_true (by kernel_rfl)) h2 bel lt2)
          (trodAll_cons_mk (Below.trod laidOut (by kernel_rfl) (of_decide_eq_true (by kernel_rfl)) h3 bel lt3)
            (trodAll_cons_mk (shut_int Try.underlying24 w4) trodAll_mk0))))), rfl, bel.frame _, fun h => by cases h⟩

theorem over : Rows.fnColumnsShapeRow.holds Try.pinned (OpenSpec.ofChange Rows.fnColumnsShapeSpec) :=
  OpenClaim.holds_of_wide 7 Try.f7 rfl rfl rfl rfl rfl rfl rfl ⟨rfl, rfl, rfl, rfl, rfl⟩ rfl rfl rfl rfl rfl (by kernel_rfl) Try.func7 (by kernel_rfl)
    (of_decide_eq_true (by kernel_rfl)) (by unfold Func.isWrapper; first | (rw [if_pos (by decide +kernel)]; kernel_rfl) | (rw [if_neg (by decide +kernel)]; exact ⟨rfl, rfl⟩))
    (fun os started H enc _ => lifted os started H enc)

/-- ████ THE STATEMENT ████ -/
theorem proved : Rows.FnColumnsShapeSaid :=
  over
#print axioms proved
end Go.Proofs.Qxb6603342a.fnColumnsShape
