/-
  A START THAT FITS, for the rows that take the table of 4 by 256 words: the kernel's own check of the table's 1,024 cells ran out of memory, so that one fact is proved by hand.
-/
import Derived.Test.Qxb6603342aOpen
namespace Go.Proofs.Qxb6603342a
open Go.ChangeShapes Go.WideShapes Go.ChangeAt Go.RowKit

def table0 : Value := .agg (Array.replicate 1024 (.int .u32 0))

theorem cellTypes26 : Try.prog.cellTypes Try.prog.depth 26 = some (List.replicate 1024 24) := by kernel_rfl

theorem cell0 : Cell.okB Try.prog 24 (.int .u32 0) = true := by kernel_rfl

theorem table_ok (w : World) (base : Nat) : Value.okWide Try.prog w .any base 26 table0 := by
  unfold Value.okWide
  rw [Try.underlying26]
  refine ⟨Array.replicate 1024 (.int .u32 0), rfl, by rw [cells26, Array.size_replicate], List.replicate 1024 24, cellTypes26, ⟨1, by rw [Array.size_replicate, List.length_replicate]⟩, fun i v hv => ?_⟩
  rw [Array.getElem?_replicate] at hv
  split at hv
  · rename_i hi
    simp only [Option.some.injEq] at hv
    subst hv
    refine ⟨24, ?_, ?_⟩
    · rw [List.length_replicate, List.getElem?_replicate, if_pos (Nat.mod_lt _ (by omega))]
    · have : Cell.okWideB Try.prog w 24 (.int .u32 0) = true := by
        simp [Cell.okWideB, Cell.okRefB, Try.underlying24]
        exact cell0
      exact Cell.okWide_of_okWideB this
  · cases hv

section
variable {H : Type} {enc : TypeId × Value → H}
/-- The guide's 'witness6', the fact 'hok' handed in as it stands. -/
theorem witnessT {os : Os} {f : FuncId} {fn : Func} {s : ChangeSpec} {conds : List PathCond} {apart : Bool} (i : Input) (fuel : Nat)
    (hv : (World.plainHolding Try.checked.prog os i).variablesB Try.checked.prog = true)
    (hr : ((World.plainHolding Try.checked.prog os i).heap.toList.drop Try.checked.prog.globals.size).take ((begin Try.checked.prog (fun _ _ => 0) default).world.heap.size - Try.checked.prog.globals.size) =
      (begin Try.checked.prog (fun _ _ => 0) default).world.heap.toList.drop Try.checked.prog.globals.size)
    (hok : ∀ w base, Input.okWide Try.checked.prog w .any base f ⟨#[], i.args, []⟩)
    (hpre : s.preB enc Try.checked.prog fn conds apart (World.plainHolding Try.checked.prog os i).memory i.args fuel = true)
    (hsz : s.sizedB enc Try.checked.prog fn apart (World.plainHolding Try.checked.prog os i).memory i.args fuel = true) :
    ∃ (w : World) (tape : Tape) (i : Input), w.os = os ∧ (w.forCall tape i).Shaped Try.checked.prog ∧ i.vars = [] ∧ Input.okWide Try.checked.prog (w.forCall tape i) .any w.heap.size f i ∧
      s.pre6 enc Try.checked.prog fn conds apart (w.forCall tape i).memory i.args ∧ ({ modest := false } : Assume).holds Try.checked.prog (lone (Frame.enter Try.checked.prog f i.args .normal) [] (w.forCall tape i)) :=
  ⟨World.holding Try.checked.prog os i, fun _ _ => 0, ⟨#[], i.args, []⟩, rfl, World.shaped_of_B hv hr, rfl, hok _ _, ⟨ChangeSpec.pre_of_preB hpre, sizedMet_of_sizedB hsz⟩, by
    simp only [Assume.holds]
    exact ⟨by simp, by simp, fun _ => Modest.zero, by simp, by simp⟩⟩
end

end Go.Proofs.Qxb6603342a
