/-
  THE WALKS of (*block).rand and (*block).deg.
-/
import Derived.Test.Qxb6603342aSearch
import Derived.Test.Qxb6603342aOpen
import Derived.Laws.Closers25b
namespace Go.Proofs.Qxb6603342a
open Go.RowKit

/-- What rand leaves: a number below m; draws alone. -/
def Drawn (m : Int) (w : World) (e : Ending) (w' : World) : Prop := ∃ r : Nat, e = .returned (.int .i64 r) ∧ (r : Int) < m ∧ ∃ n, w' = w.drewN n

set_option maxHeartbeats 1000000 in
theorem rand_any (gb g : Nat) (T : Nat → Int) (y i m : Int) (w : World) (hy : U32 y) (hi : 0 ≤ i ∧ i ≤ 5) (hm1 : 1 ≤ m) (hm2 : m ≤ 1048576)
    (hc : w.cell? ⟨gb, 0, none⟩ = some (.pointer (some ⟨g, 0, none⟩))) (hT : ∀ j, j < 1024 → w.cell? ⟨g, j, none⟩ = some (.int .u32 (T j))) :
    Calls Try.prog 22 #[.pointer (some ⟨gb, 0, none⟩), .int .u32 y, .int .u32 i, .int .i64 m] w fun e w' => Drawn m w e w' := by
  obtain ⟨hy0, hy1⟩ := hy
  obtain ⟨hi0, hi1⟩ := hi
  have hu8 : ∀ x : Int, 0 ≤ IntKind.u8.wrap x ∧ IntKind.u8.wrap x < 256 := fun x => by rw [IntKind.wrap_u8]; omega
  have a0 := (hu8 (IntKind.u32.wrap (y + i))).1
  have b0 := (hu8 (IntKind.u32.wrap (y + i))).2
  have c0 := hT ((IntKind.u8.wrap (IntKind.u32.wrap (y + i))).toNat) (by omega)
  have a1 := (hu8 (IntKind.u32.wrap (y / 256 + i))).1
  have b1 := (hu8 (IntKind.u32.wrap (y / 256 + i))).2
  have c1 := hT (256 + (IntKind.u8.wrap (IntKind.u32.wrap (y / 256 + i))).toNat) (by omega)
  have a2 := (hu8 (IntKind.u32.wrap (y / 65536 + i))).1
  have b2 := (hu8 (IntKind.u32.wrap (y / 65536 + i))).2
  have c2 := hT (512 + (IntKind.u8.wrap (IntKind.u32.wrap (y / 65536 + i))).toNat) (by omega)
  have a3 := (hu8 (IntKind.u32.wrap (y / 16777216 + i))).1
  have b3 := (hu8 (IntKind.u32.wrap (y / 16777216 + i))).2
  have c3 := hT (768 + (IntKind.u8.wrap (IntKind.u32.wrap (y / 16777216 + i))).toNat) (by omega)
  clear hu8 hT
  go_enter Try.func22, Try.ntmps22
  go_wp2
  go_quiet (fail)
  obtain ⟨X, hX⟩ : ∃ X, X = bits BinOp.xor IntKind.u32 (bits BinOp.xor IntKind.u32 (bits BinOp.xor IntKind.u32 (T (IntKind.u8.wrap (IntKind.u32.wrap (y + i))).toNat) (T (256 + (IntKind.u8.wrap (IntKind.u32.wrap (y / 256 + i))).toNat))) (T (512 + (IntKind.u8.wrap (IntKind.u32.wrap (y / 65536 + i))).toNat))) (T (768 + (IntKind.u8.wrap (IntKind.u32.wrap (y / 16777216 + i))).toNat)) := ⟨_, rfl⟩
  rw [← hX]
  have x0 : 0 ≤ X := by rw [hX]; exact bits_lo_u32 _ _ _
  have x1 : X ≤ 4294967295 := by rw [hX]; exact bits_hi_u32 _ _ _
  clear hX c0 c1 c2 c3 a0 a1 a2 a3 b0 b1 b2 b3
  have hmod := Int.emod_lt_of_pos X (show 0 < m by omega)
  have hmod0 := Int.emod_nonneg X (show m ≠ 0 by omega)
  go_wp2
  go_ret
  refine ⟨(X % m).toNat, ?_, by omega, _, rfl⟩
  rw [Int.toNat_of_nonneg hmod0]
  rfl

/-- What deg leaves: a number in 0 .. W - 2 and at most len; nothing else. -/
def Degree (len W : Nat) (w : World) (e : Ending) (w' : World) : Prop := ∃ d : Nat, e = .returned (.int .i64 d) ∧ d ≤ W - 2 ∧ d ≤ len ∧ w' = w

set_option maxHeartbeats 1000000 in
theorem deg_any (gb g : Nat) (a : Option Addr) (len cap : Nat) (Z : Nat → Int) (W : Nat) (v : Int) (w : World) (hW : 2 ≤ W) (hW2 : W ≤ 65536) (hl : len ≤ 1048576) (hv0 : 0 ≤ v) (hv1 : v < 1048576)
    (hc : w.cell? ⟨gb, 0, none⟩ = some (.pointer (some ⟨g, 0, none⟩))) (hw6 : w.cell? ⟨gb, 6, none⟩ = some (.int .i64 W)) (hd : w.cell? ⟨g, 1024, none⟩ = some (.slice a len cap)) (hz : IntsAt w a len Z) :
    Calls Try.prog 21 #[.pointer (some ⟨gb, 0, none⟩), .int .i64 v] w fun e w' => Degree len W w e w' := by
  go_enter Try.func21, Try.ntmps21
  go_wp2_with (go_at_call 23; refine (search_any a len cap Z _ _ hl hz).mono ?_; rintro e wx ⟨i, f, rfl, hi, hwx⟩; subst hwx)
  · have hlt : (W : Int) - 2 < (i : Int) := by assumption
    go_ret
    refine ⟨W - 2, ?_, Nat.le_refl _, by omega, rfl⟩
    rw [show ((W - 2 : Nat) : Int) = (W : Int) - 2 from by omega]
    rfl
  · have hle : (i : Int) ≤ (W : Int) - 2 := by assumption
    go_ret
    exact ⟨i, rfl, by omega, hi, rfl⟩

end Go.Proofs.Qxb6603342a
