/-
  No cell of these rows narrows 'for every input' (looked for: loops, veiled, ifaces, maps, wideKeys, modest, calm, conditions, laid).
  DERIVED. THE GIVEN ROWS OF THIS SEAT. 6 by the template 'for every input the law returns true; each argument reads behind the call as it read before'; 0 by the template 'total and deterministic' (their statements: Qxb6603342aTotals.lean).
  GIVEN WITH THE SEED: the statements are not yours to turn. If you find one false, say at which input.
  Laid BY PROGRAM, IN A SANDBOX (cutbox-rows.mjs): the forced cells as the released guide's own fill.sh prints them over the translation 9e0457af56fffc6e… (all of the seat's roots in one cut). By AI agents, Wed Nov 11 2026. No macro, syntax, notation, axiom, sorry.
-/
import Derived.Test.Qxb6603342aChecked
import GoSem.Claim
import GoSem.ClaimJoined
import GoSem.ClaimMapViews
import Derived.JoinedTies
import Derived.KernelRfl
namespace Go.Proofs.Qxb6603342a
/- THE CELL 'sum', in the pinned program and in every row, IS THE sha256 OF THE DUMP (.gsa) THAT Qxb6603342aProg.lean LOADS. Nothing in Lean hashes anything: it is a label: what it is worth is what the hold of that sum in a sandbox is worth. -/
noncomputable def Try.pinned : Pinned := { name := "qxb6603342a", sum := "9e0457af56fffc6e8cd1f85d8e34fc8ddd6616121bbbbfee578d07deefbcf085", checked := Try.checked }
namespace Rows
def none {H : Type} : Left H := { results := [], args := [] }

/-- 'zzlaws_raptorq_b1.FnIsPrimeByDivisorCount': WHATEVER THE INPUT: true; the input reads as it did. -/
def fnIsPrimeByDivisorCountSpec : ChangeSpec := { name := "fnIsPrimeByDivisorCount", fn := fun _ => fun
  | [d] => { results := [.lit (.bool true)], args := [d] }
  | _ => none }
def fnIsPrimeByDivisorCountRow : OpenClaim := { program := "qxb6603342a", sum := "9e0457af56fffc6e8cd1f85d8e34fc8ddd6616121bbbbfee578d07deefbcf085", func := "example.com/fanfold/fanfold/zzlaws_raptorq_b1.FnIsPrimeByDivisorCount", spec := "fnIsPrimeByDivisorCount", apart := false }
def FnIsPrimeByDivisorCountSaid : Prop := fnIsPrimeByDivisorCountRow.holds Try.pinned (OpenSpec.ofChange fnIsPrimeByDivisorCountSpec)

/-- ITS FALSE NEIGHBOUR: 'it returns false'. Refute it at one input. -/
def fnIsPrimeByDivisorCountWrong : ChangeSpec := { name := "fnIsPrimeByDivisorCount", fn := fun _ => fun
  | [d] => { results := [.lit (.bool false)], args := [d] }
  | _ => none }
def FnIsPrimeByDivisorCountWrongFalsely : Prop := fnIsPrimeByDivisorCountRow.holds Try.pinned (OpenSpec.ofChange fnIsPrimeByDivisorCountWrong)

/-- 'zzlaws_raptorq_b1.FnIsPrimeRefusesProducts': WHATEVER THE INPUT: true; the input reads as it did. -/
def fnIsPrimeRefusesProductsSpec : ChangeSpec := { name := "fnIsPrimeRefusesProducts", fn := fun _ => fun
  | [d1, d2] => { results := [.lit (.bool true)], args := [d1, d2] }
  | _ => none }
def fnIsPrimeRefusesProductsRow : OpenClaim := { program := "qxb6603342a", sum := "9e0457af56fffc6e8cd1f85d8e34fc8ddd6616121bbbbfee578d07deefbcf085", func := "example.com/fanfold/fanfold/zzlaws_raptorq_b1.FnIsPrimeRefusesProducts", spec := "fnIsPrimeRefusesProducts", apart := false }
def FnIsPrimeRefusesProductsSaid : Prop := fnIsPrimeRefusesProductsRow.holds Try.pinned (OpenSpec.ofChange fnIsPrimeRefusesProductsSpec)

/-- ITS FALSE NEIGHBOUR: 'it returns false'. Refute it at one input. -/
def fnIsPrimeRefusesProductsWrong : ChangeSpec := { name := "fnIsPrimeRefusesProducts", fn := fun _ => fun
  | [d1, d2] => { results := [.lit (.bool false)], args := [d1, d2] }
  | _ => none }
def FnIsPrimeRefusesProductsWrongFalsely : Prop := fnIsPrimeRefusesProductsRow.holds Try.pinned (OpenSpec.ofChange fnIsPrimeRefusesProductsWrong)

/-- 'zzlaws_raptorq_b1.FnIsPrimeBertrand': WHATEVER THE INPUT: true; the input reads as it did. -/
def fnIsPrimeBertrandSpec : ChangeSpec := { name := "fnIsPrimeBertrand", fn := fun _ => fun
  | [d] => { results := [.lit (.bool true)], args := [d] }
  | _ => none }
def fnIsPrimeBertrandRow : OpenClaim := { program := "qxb6603342a", sum := "9e0457af56fffc6e8cd1f85d8e34fc8ddd6616121bbbbfee578d07deefbcf085", func := "example.com/fanfold/fanfold/zzlaws_raptorq_b1.FnIsPrimeBertrand", spec := "fnIsPrimeBertrand", apart := false }
def FnIsPrimeBertrandSaid : Prop := fnIsPrimeBertrandRow.holds Try.pinned (OpenSpec.ofChange fnIsPrimeBertrandSpec)

/-- ITS FALSE NEIGHBOUR: 'it returns false'. Refute it at one input. -/
def fnIsPrimeBertrandWrong : ChangeSpec := { name := "fnIsPrimeBertrand", fn := fun _ => fun
  | [d] => { results := [.lit (.bool false)], args := [d] }
  | _ => none }
def FnIsPrimeBertrandWrongFalsely : Prop := fnIsPrimeBertrandRow.holds Try.pinned (OpenSpec.ofChange fnIsPrimeBertrandWrong)

/-- 'zzlaws_raptorq_b1.FnMaxBlockLengthIsLargestK': WHATEVER THE INPUT: true; the input reads as it did. -/
def fnMaxBlockLengthIsLargestKSpec : ChangeSpec := { name := "fnMaxBlockLengthIsLargestK", fn := fun _ => fun
  | [d1, d2, d3] => { results := [.lit (.bool true)], args := [d1, d2, d3] }
  | _ => none }
def fnMaxBlockLengthIsLargestKRow : OpenClaim := { program := "qxb6603342a", sum := "9e0457af56fffc6e8cd1f85d8e34fc8ddd6616121bbbbfee578d07deefbcf085", func := "example.com/fanfold/fanfold/zzlaws_raptorq_b1.FnMaxBlockLengthIsLargestK", spec := "fnMaxBlockLengthIsLargestK", apart := false }
def FnMaxBlockLengthIsLargestKSaid : Prop := fnMaxBlockLengthIsLargestKRow.holds Try.pinned (OpenSpec.ofChange fnMaxBlockLengthIsLargestKSpec)

/-- ITS FALSE NEIGHBOUR: 'it returns false'. Refute it at one input. -/
def fnMaxBlockLengthIsLargestKWrong : ChangeSpec := { name := "fnMaxBlockLengthIsLargestK", fn := fun _ => fun
  | [d1, d2, d3] => { results := [.lit (.bool false)], args := [d1, d2, d3] }
  | _ => none }
def FnMaxBlockLengthIsLargestKWrongFalsely : Prop := fnMaxBlockLengthIsLargestKRow.holds Try.pinned (OpenSpec.ofChange fnMaxBlockLengthIsLargestKWrong)

/-- 'zzlaws_raptorq_b1.FnColumnsShape': WHATEVER THE INPUT: true; the input reads as it did. -/
def fnColumnsShapeSpec : ChangeSpec := { name := "fnColumnsShape", fn := fun _ => fun
  | [d1, d2, d3, d4, d5] => { results := [.lit (.bool true)], args := [d1, d2, d3, d4, d5] }
  | _ => none }
def fnColumnsShapeRow : OpenClaim := { program := "qxb6603342a", sum := "9e0457af56fffc6e8cd1f85d8e34fc8ddd6616121bbbbfee578d07deefbcf085", func := "example.com/fanfold/fanfold/zzlaws_raptorq_b1.FnColumnsShape", spec := "fnColumnsShape", apart := false }
def FnColumnsShapeSaid : Prop := fnColumnsShapeRow.holds Try.pinned (OpenSpec.ofChange fnColumnsShapeSpec)

/-- ITS FALSE NEIGHBOUR: 'it returns false'. Refute it at one input. -/
def fnColumnsShapeWrong : ChangeSpec := { name := "fnColumnsShape", fn := fun _ => fun
  | [d1, d2, d3, d4, d5] => { results := [.lit (.bool false)], args := [d1, d2, d3, d4, d5] }
  | _ => none }
def FnColumnsShapeWrongFalsely : Prop := fnColumnsShapeRow.holds Try.pinned (OpenSpec.ofChange fnColumnsShapeWrong)

/-- 'zzlaws_raptorq_b1.FnColumnsDistinct': WHATEVER THE INPUT: true; the input reads as it did. -/
def fnColumnsDistinctSpec : ChangeSpec := { name := "fnColumnsDistinct", fn := fun _ => fun
  | [d1, d2, d3, d4, d5] => { results := [.lit (.bool true)], args := [d1, d2, d3, d4, d5] }
  | _ => none }
def fnColumnsDistinctRow : OpenClaim := { program := "qxb6603342a", sum := "9e0457af56fffc6e8cd1f85d8e34fc8ddd6616121bbbbfee578d07deefbcf085", func := "example.com/fanfold/fanfold/zzlaws_raptorq_b1.FnColumnsDistinct", spec := "fnColumnsDistinct", apart := false }
def FnColumnsDistinctSaid : Prop := fnColumnsDistinctRow.holds Try.pinned (OpenSpec.ofChange fnColumnsDistinctSpec)

/-- ITS FALSE NEIGHBOUR: 'it returns false'. Refute it at one input. -/
def fnColumnsDistinctWrong : ChangeSpec := { name := "fnColumnsDistinct", fn := fun _ => fun
  | [d1, d2, d3, d4, d5] => { results := [.lit (.bool false)], args := [d1, d2, d3, d4, d5] }
  | _ => none }
def FnColumnsDistinctWrongFalsely : Prop := fnColumnsDistinctRow.holds Try.pinned (OpenSpec.ofChange fnColumnsDistinctWrong)

end Rows
end Go.Proofs.Qxb6603342a
