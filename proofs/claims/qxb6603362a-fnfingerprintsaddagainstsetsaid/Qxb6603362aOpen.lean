/-
  FROM THE READINGS OF THE ARGUMENTS TO WHAT THE WALKS ASK: a fingerprint; a slice of fingerprints.
-/
import Derived.Test.Qxb6603362aGrow
import Derived.ProofKit
import Derived.OpenShut
import Derived.Deep.Slices
namespace Go.Proofs.Qxb6603362a
open Go.ChangeShapes Go.WideShapes Go.ChangeAt Go.RowKit Go.Deep

theorem cells28 : Try.prog.cellsOf 28 = 1 := by kernel_rfl
theorem cells29 : Try.prog.cellsOf 29 = 2 := by kernel_rfl

theorem wf_u64 {x : Int} (h : (Lit.int .u64 x).wf = true) : U64 x := by
  have := bounds_u64 h
  unfold U64
  omega

theorem add_row (b off i : Nat) : (⟨b, off, none⟩ : Addr).add i = ⟨b, off + i, none⟩ := by
  unfold Addr.add; split <;> simp_all

section
variable {H : Type} {enc : TypeId × Value → H} {W : World} {base : Nat} {spare : Nat → Bool} {held : Bool}

theorem open_fp {cs : List Value} {fuel : Nat} {x : DataW H × List MemPlace} (h : DataW.trod enc Try.prog W base spare held fuel 29 cs = some x) :
    ∃ p : Int × Int, cs = [.int .u64 p.1, .int .u64 p.2] ∧ U64 p.1 ∧ U64 p.2 := by
  obtain ⟨xs, m, _, _, hl, hxl, hf⟩ := DataW.trod_array Try.underlying29 h
  rw [cells29] at hl
  rw [cells28] at hf
  match cs, hl with
  | [c0, c1], _ =>
    have h0 := hf 0 (by omega)
    have h1 := hf 1 (by omega)
    rw [List.getElem?_eq_getElem (by omega)] at h0 h1
    obtain ⟨z0, e0, _, w0⟩ := DataW.trod_int Try.underlying28 h0
    obtain ⟨z1, e1, _, w1⟩ := DataW.trod_int Try.underlying28 h1
    refine ⟨(z0, z1), ?_, wf_u64 w0, wf_u64 w1⟩
    simp at e0 e1
    rw [e0, e1]

theorem open_fps {a : Option Addr} {len cap fuel : Nat} {x : DataW H × List MemPlace} (h : DataW.trod enc Try.prog W base spare held fuel 27 [.slice a len cap] = some x) :
    (a = none ∧ len = 0 ∧ cap = 0) ∨ ∃ (y : Addr) (P : Nat → Int × Int), a = some y ∧ Words len P ∧ (0 < len → ∃ b off, y = ⟨b, off, none⟩ ∧ Slots W b off len P) := by
  rcases open_slice Try.underlying27 h with ⟨hcs, _⟩ | ⟨y, l, c, m, n, D, Pl, hcs, _, hl, hm, hmm, _, hx⟩
  · simp only [List.cons.injEq, Value.slice.injEq, and_true] at hcs
    exact Or.inl hcs
  · simp only [List.cons.injEq, Value.slice.injEq, and_true] at hcs
    obtain ⟨rfl, rfl, rfl⟩ := hcs
    have hlm : len ≤ m := by rw [hmm]; split <;> omega
    have key : ∀ i, i < len → ∃ p : Int × Int, (W.cell? (y.add (i * 2)) = some (.int .u64 p.1) ∧ W.cell? (y.add (i * 2 + 1)) = some (.int .u64 p.2)) ∧ U64 p.1 ∧ U64 p.2 := by
      intro i hi
      obtain ⟨cs', h1, h2⟩ := hx i (by omega)
      rw [cells29] at h1
      obtain ⟨_, hlen, hcell⟩ := World.cells?_some h1
      obtain ⟨p, rfl, u1, u2⟩ := open_fp h2
      refine ⟨p, ⟨?_, ?_⟩, u1, u2⟩
      · have := hcell 0 (by omega)
        rw [add_add] at this
        simpa using this
      · have := hcell 1 (by omega)
        rw [add_add] at this
        simpa using this
    obtain ⟨P, hP⟩ := choose_lt key
    refine Or.inr ⟨y, P, rfl, fun i hi => (hP i hi).2, fun h0 => ?_⟩
    have hc0 := (hP 0 h0).1.1
    obtain ⟨b, off, spot⟩ := y
    have hspot : spot = none := by simpa [Addr.add] using World.cell?_spot hc0
    subst hspot
    exact ⟨b, off, rfl, by simpa [Addr.add] using block_lt_of_cell hc0, fun i hi => by rw [← add_row, Nat.add_assoc, ← add_row]; exact (hP i hi).1⟩
end
end Go.Proofs.Qxb6603362a
