/-
  FROM THE READINGS OF THE ARGUMENTS TO WHAT THE WALKS ASK: the table of 4 by 256 words, the slice of uint32, the slice of Row.
-/
import Derived.Test.Qxb6603342aClones
import Derived.ProofKit
import Derived.OpenShut
import Derived.Deep.Slices
namespace Go.Proofs.Qxb6603342a
open Go.ChangeShapes Go.WideShapes Go.ChangeAt Go.RowKit Go.Deep

theorem cells24 : Try.prog.cellsOf 24 = 1 := by kernel_rfl
theorem cells25 : Try.prog.cellsOf 25 = 256 := by kernel_rfl
theorem cells26 : Try.prog.cellsOf 26 = 1024 := by kernel_rfl
theorem cells31 : Try.prog.cellsOf 31 = 5 := by kernel_rfl
theorem cells3 : Try.prog.cellsOf 3 = 1 := by kernel_rfl

/-- A number that fits uint32. -/
def U32 (x : Int) : Prop := 0 ≤ x ∧ x < 4294967296

theorem wf_u32 {x : Int} (h : (Lit.int .u32 x).wf = true) : U32 x := by
  have := bounds_u32 h
  unfold U32
  omega

theorem u32_zero : U32 0 := ⟨by decide, by decide⟩

theorem add_row (b off i : Nat) : (⟨b, off, none⟩ : Addr).add i = ⟨b, off + i, none⟩ := by
  unfold Addr.add; split <;> simp_all

section
variable {H : Type} {enc : TypeId × Value → H} {W : World} {base : Nat} {spare : Nat → Bool} {held : Bool}

theorem open_u32s {a : Option Addr} {len cap fuel : Nat} {x : DataW H × List MemPlace} (h : DataW.trod enc Try.prog W base spare held fuel 27 [.slice a len cap] = some x) :
    len ≤ maxLen ∧ (a = none → len = 0) ∧ ∃ Z : Nat → Int, (∀ i, U32 (Z i)) ∧ IntsAt W a len Z := by
  rcases open_ints Try.underlying27 Try.underlying24 cells24 h with ⟨hcs, _⟩ | ⟨y, l, c, zs, hcs, _, hl, hm, hz, _, hcell, hwz⟩
  · simp only [List.cons.injEq, Value.slice.injEq, and_true] at hcs
    obtain ⟨rfl, rfl, rfl⟩ := hcs
    exact ⟨Nat.zero_le _, fun _ => rfl, fun _ => 0, fun _ => u32_zero, fun h0 => by omega⟩
  · simp only [List.cons.injEq, Value.slice.injEq, and_true] at hcs
    obtain ⟨rfl, rfl, rfl⟩ := hcs
    refine ⟨Nat.le_trans hl hm, (fun h => by cases h), fun i => zs.getD i 0, fun i => ?_, fun h0 => ?_⟩
    · by_cases hi : i < zs.length
      · refine wf_u32 (hwz _ ?_)
        simp [List.getD, List.getElem?_eq_getElem hi]
      · simp [List.getD, List.getElem?_eq_none (Nat.le_of_not_lt hi), U32]
    · have hlz : len ≤ zs.length := by rw [hz]; split <;> omega
      have hc0 := hcell 0 (by omega)
      obtain ⟨b, off, spot⟩ := y
      have hspot : spot = none := by simpa [Addr.add] using World.cell?_spot hc0
      subst hspot
      exact ⟨b, off, rfl, by simpa [Addr.add] using block_lt_of_cell hc0, fun i hi => by rw [← add_row]; exact hcell i (by omega)⟩

theorem open_rows {a : Option Addr} {len cap fuel : Nat} {x : DataW H × List MemPlace} (h : DataW.trod enc Try.prog W base spare held fuel 28 [.slice a len cap] = some x) :
    len ≤ maxLen ∧ (a = none → len = 0) ∧ ∃ R : Nat → Int, RowsAt W a len R := by
  rcases open_slice Try.underlying28 h with ⟨hcs, _⟩ | ⟨y, l, c, m, n, D, Pl, hcs, _, hl, hm, hmm, _, hx⟩
  · simp only [List.cons.injEq, Value.slice.injEq, and_true] at hcs
    obtain ⟨rfl, rfl, rfl⟩ := hcs
    exact ⟨Nat.zero_le _, fun _ => rfl, fun _ => 0, fun h0 => by omega⟩
  · simp only [List.cons.injEq, Value.slice.injEq, and_true] at hcs
    obtain ⟨rfl, rfl, rfl⟩ := hcs
    have hlm : len ≤ m := by rw [hmm]; split <;> omega
    have key : ∀ i, i < len * 5 → ∃ z : Int, W.cell? (y.add i) = some (.int .i64 z) := by
      intro i hi
      obtain ⟨cs', h1, h2⟩ := hx (i / 5) (by omega)
      rw [cells31] at h1
      obtain ⟨_, hlen, hcell⟩ := World.cells?_some h1
      obtain ⟨xs, k, _, _, _, hxl, hf⟩ := DataW.trod_struct Try.underlying31 h2
      have hj : i % 5 < 5 := Nat.mod_lt _ (by omega)
      have hone : ∀ j : Nat, j < 5 → ∃ z : Int, cs'[j]? = some (.int .i64 z) := by
        intro j hj
        match cs', hlen with
        | [c0, c1, c2, c3, c4], _ =>
          have hx5 : xs.length = 5 := hxl
          have g : ∀ (q : Nat) (v : Value), DataW.trod enc Try.prog W base spare held k 3 [v] = xs[q]? → q < 5 → ∃ z : Int, v = .int .i64 z := by
            intro q v ht hq
            rw [List.getElem?_eq_getElem (by omega)] at ht
            obtain ⟨z, e, _, _⟩ := DataW.trod_int Try.underlying3 ht
            simp only [List.cons.injEq, and_true] at e
            exact ⟨z, e⟩
          match j, hj with
          | 0, _ =>
            obtain ⟨z, e⟩ := g 0 c0 (by have : DataW.trod enc Try.prog W base spare held k 3 (([c0, c1, c2, c3, c4].drop 0).take (Try.prog.cellsOf 3)) = xs[0]? := hf 0 _ rfl; rw [cells3] at this; exact this) (by omega)
            exact ⟨z, by rw [← e]; rfl⟩
          | 1, _ =>
            obtain ⟨z, e⟩ := g 1 c1 (by have : DataW.trod enc Try.prog W base spare held k 3 (([c0, c1, c2, c3, c4].drop 1).take (Try.prog.cellsOf 3)) = xs[1]? := hf 1 _ rfl; rw [cells3] at this; exact this) (by omega)
            exact ⟨z, by rw [← e]; rfl⟩
          | 2, _ =>
            obtain ⟨z, e⟩ := g 2 c2 (by have : DataW.trod enc Try.prog W base spare held k 3 (([c0, c1, c2, c3, c4].drop 2).take (Try.prog.cellsOf 3)) = xs[2]? := hf 2 _ rfl; rw [cells3] at this; exact this) (by omega)
            exact ⟨z, by rw [← e]; rfl⟩
          | 3, _ =>
            obtain ⟨z, e⟩ := g 3 c3 (by have : DataW.trod enc Try.prog W base spare held k 3 (([c0, c1, c2, c3, c4].drop 3).take (Try.prog.cellsOf 3)) = xs[3]? := hf 3 _ rfl; rw [cells3] at this; exact this) (by omega)
            exact ⟨z, by rw [← e]; rfl⟩
          | 4, _ =>
            obtain ⟨z, e⟩ := g 4 c4 (by have : DataW.trod enc Try.prog W base spare held k 3 (([c0, c1, c2, c3, c4].drop 4).take (Try.prog.cellsOf 3)) = xs[4]? := hf 4 _ rfl; rw [cells3] at this; exact this) (by omega)
            exact ⟨z, by rw [← e]; rfl⟩
      obtain ⟨z, hz⟩ := hone (i % 5) hj
      refine ⟨z, ?_⟩
      have := hcell (i % 5) hj
      rw [add_add, hz] at this
      rw [← this]
      congr 2
      omega
    obtain ⟨R, hR⟩ := choose_lt key
    refine ⟨Nat.le_trans hl hm, (fun h => by cases h), R, fun h0 => ?_⟩
    have hc0 := hR 0 (by omega)
    obtain ⟨b, off, spot⟩ := y
    have hspot : spot = none := by simpa [Addr.add] using World.cell?_spot hc0
    subst hspot
    exact ⟨b, off, rfl, by simpa [Addr.add] using block_lt_of_cell hc0, fun i hi => by rw [← add_row]; exact hR i (by omega)⟩

theorem open_table {V : Array Value} {fuel : Nat} {x : DataW H × List MemPlace} (h : DataW.trod enc Try.prog W base spare held fuel 26 V.toList = some x) :
    ∃ T : Nat → Int, ∀ i, i < 1024 → V[i]? = some (.int .u32 (T i)) ∧ U32 (T i) := by
  obtain ⟨xs, m, _, _, hl, hxl, hf⟩ := DataW.trod_array Try.underlying26 h
  rw [cells26] at hl
  rw [cells25] at hf
  refine choose_lt (p := fun i t => V[i]? = some (.int .u32 t) ∧ U32 t) fun i hi => ?_
  have h1 := hf (i / 256) (by omega)
  rw [List.getElem?_eq_getElem (by omega)] at h1
  obtain ⟨ys, m', _, _, hl', hyl, hf'⟩ := DataW.trod_array Try.underlying25 h1
  rw [cells25] at hl'
  rw [cells24] at hf'
  have h2 := hf' (i % 256) (by omega)
  rw [List.getElem?_eq_getElem (by omega)] at h2
  obtain ⟨z, e, _, hw⟩ := DataW.trod_int Try.underlying24 h2
  refine ⟨z, ?_, wf_u32 hw⟩
  rw [Nat.mul_one] at e
  have e2 := congrArg (fun l : List Value => l[0]?) e
  simp only [List.getElem?_take, List.getElem?_drop, List.getElem?_cons_zero] at e2
  rw [if_pos (by omega), if_pos (by omega), show i / 256 * 256 + (i % 256 + 0) = i from by omega] at e2
  simpa using e2
end

end Go.Proofs.Qxb6603342a
