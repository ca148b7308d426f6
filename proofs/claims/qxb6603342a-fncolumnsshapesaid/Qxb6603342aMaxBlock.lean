/-
  THE WALK of (*Code).MaxBlockLength.
-/
import Derived.Test.Qxb6603342aCode
namespace Go.Proofs.Qxb6603342a
open Go.RowKit

set_option maxHeartbeats 400000 in
theorem maxBlock_none (V : Array Value) (d : Value) (a : Option Addr) (c : Nat) (g : Nat) (w : World) (hg : w.rowIs g 46 1026 (codeF V d (.slice a 0 c))) :
    Calls Try.prog 14 #[.pointer (some ⟨g, 0, none⟩)] w fun e w' => e = .returned (.int .i64 0) ∧ w' = w := by
  have hc : w.cell? ⟨g, 1025, none⟩ = some (.slice a 0 c) := hg.cell (by omega)
  clear hg
  go_enter Try.func14, Try.ntmps14
  go_wp2
  go_ret
  exact ⟨rfl, rfl⟩

set_option maxHeartbeats 400000 in
theorem maxBlock_some (V : Array Value) (d : Value) (g2 len : Nat) (R : Nat → Int) (g : Nat) (w : World) (h0 : 0 < len) (hl : len ≤ 1048576)
    (hg : w.rowIs g 46 1026 (codeF V d (.slice (some ⟨g2, 0, none⟩) len len))) (hr : w.rowIs g2 44 (len * 5) (fun i => .int .i64 (R i))) :
    Calls Try.prog 14 #[.pointer (some ⟨g, 0, none⟩)] w fun e w' => e = .returned (.int .i64 (R ((len - 1) * 5))) ∧ ∃ n, w' = w.drewN n := by
  have hc : w.cell? ⟨g, 1025, none⟩ = some (.slice (some ⟨g2, 0, none⟩) len len) := hg.cell (by omega)
  have hk : w.cell? ⟨g2, (len - 1) * 5, none⟩ = some (.int .i64 (R ((len - 1) * 5))) := hr.cell (by omega)
  have hz : ((len : Int) == 0) = false := by simp; omega
  clear hg hr
  go_enter Try.func14, Try.ntmps14
  go_wp2
  go_quiet (fail)
  go_wp2
  go_ret
  exact ⟨rfl, _, rfl⟩

/-! ### The same contracts, one for every slice -/
/-- A slice of Row that the call itself made (or nil). -/
def OwnRows (w : World) (t : TypeId) (a : Option Addr) (len : Nat) (R : Nat → Int) : Prop :=
  (a = none ∧ len = 0) ∨ ∃ b, a = some ⟨b, 0, none⟩ ∧ w.rowIs b t (len * 5) (fun i => .int .i64 (R i))

theorem OwnRows.below {w w' : World} {t : TypeId} {a : Option Addr} {len : Nat} {R : Nat → Int} (h : OwnRows w t a len R) (hb : Below w.heap.size w w') : OwnRows w' t a len R := by
  rcases h with h | ⟨b, h1, h2⟩
  · exact Or.inl h
  · exact Or.inr ⟨b, h1, h2.of_block (hb.block b h2.lt)⟩

theorem OwnRows.cell {w : World} {t : TypeId} {a : Option Addr} {len : Nat} {R : Nat → Int} (h : OwnRows w t a len R) (h0 : 0 < len) : ∃ b, a = some ⟨b, 0, none⟩ ∧ ∀ i, i < len * 5 → w.cell? ⟨b, i, none⟩ = some (.int .i64 (R i)) := by
  rcases h with h | ⟨b, h1, h2⟩
  · omega
  · exact ⟨b, h1, fun i hi => h2.cell hi⟩

theorem IntsAt.below {w w' : World} {a : Option Addr} {len : Nat} {Z : Nat → Int} (h : IntsAt w a len Z) (hb : Below w.heap.size w w') : IntsAt w' a len Z := by
  intro h0
  obtain ⟨b, off, e, hlt, hc⟩ := h h0
  exact ⟨b, off, e, Nat.lt_of_lt_of_le hlt hb.size, fun i hi => (hb.cell hlt).trans (hc i hi)⟩

theorem RowsAt.below {w w' : World} {a : Option Addr} {len : Nat} {R : Nat → Int} (h : RowsAt w a len R) (hb : Below w.heap.size w w') : RowsAt w' a len R := by
  intro h0
  obtain ⟨b, off, e, hlt, hc⟩ := h h0
  exact ⟨b, off, e, Nat.lt_of_lt_of_le hlt hb.size, fun i hi => (hb.cell hlt).trans (hc i hi)⟩

theorem cloneU32_u (a : Option Addr) (len cap : Nat) (Z : Nat → Int) (w : World) (hl : len ≤ 1048576) (hn : a = none → len = 0) (hz : IntsAt w a len Z) :
    Calls Try.prog 11 #[.slice a len cap] w fun e w' => ∃ a', e = .returned (.slice a' len len) ∧ IntsAt w' a' len Z ∧ Below w.heap.size w w' := by
  cases a with
  | none =>
    obtain rfl := hn rfl
    refine (cloneU32_nil cap w).mono ?_
    rintro e w' ⟨rfl, rfl⟩
    exact ⟨none, rfl, fun h => by omega, Below.refl _ _⟩
  | some x =>
    refine (cloneU32_any x len cap Z w hl hz).mono ?_
    rintro e w' ⟨rfl, hr, hb⟩
    exact ⟨_, rfl, fun _ => ⟨_, 0, rfl, hr.lt, fun i hi => by rw [Nat.zero_add]; exact hr.cell hi⟩, hb⟩

theorem cloneRows_u (a : Option Addr) (len cap : Nat) (R : Nat → Int) (w : World) (hl : len ≤ 1048576) (hn : a = none → len = 0) (hz : RowsAt w a len R) :
    Calls Try.prog 12 #[.slice a len cap] w fun e w' => ∃ a', e = .returned (.slice a' len len) ∧ OwnRows w' 31 a' len R ∧ Below w.heap.size w w' := by
  cases a with
  | none =>
    obtain rfl := hn rfl
    refine (cloneRows_nil cap w).mono ?_
    rintro e w' ⟨rfl, rfl⟩
    exact ⟨none, rfl, Or.inl ⟨rfl, rfl⟩, Below.refl _ _⟩
  | some x =>
    refine (cloneRows_any x len cap R w hl hz).mono ?_
    rintro e w' ⟨rfl, hr, hb⟩
    exact ⟨_, rfl, Or.inr ⟨_, rfl, hr⟩, hb⟩

theorem code_u (V : Array Value) (hV : V.size = 1024) (a1 : Option Addr) (l1 c1 : Nat) (a : Option Addr) (len : Nat) (R : Nat → Int) (w : World) (hl : len ≤ 1048576) (hR : OwnRows w 31 a len R) :
    Calls Try.prog 13 #[.agg V, .slice a1 l1 c1, .slice a len len] w fun e w' => ∃ g s, e = .returned (.pointer (some ⟨g, 0, none⟩)) ∧ w.heap.size ≤ g ∧
      w'.rowIs g 46 1026 (codeF V (.slice a1 l1 c1) (.slice s len len)) ∧ OwnRows w' 44 s len R ∧ Below w.heap.size w w' := by
  rcases hR with ⟨rfl, rfl⟩ | ⟨b, rfl, hR⟩
  · refine (code_nil V hV a1 l1 c1 w).mono ?_
    rintro e w' ⟨g, rfl, hg, h1, hb⟩
    exact ⟨g, none, rfl, hg, h1, Or.inl ⟨rfl, rfl⟩, hb⟩
  · refine (code_rows V hV a1 l1 c1 b len R w hl hR).mono ?_
    rintro e w' ⟨g, g2, rfl, hg, hg2, h1, h2, hb⟩
    exact ⟨g, _, rfl, hg, h1, Or.inr ⟨g2, rfl, h2⟩, hb⟩

/-- The K of the last row, or 0. -/
def lastK (R : Nat → Int) (len : Nat) : Int := if len = 0 then 0 else R ((len - 1) * 5)

theorem maxBlock_u (V : Array Value) (d : Value) (s : Option Addr) (len : Nat) (R : Nat → Int) (g : Nat) (w : World) (hl : len ≤ 1048576)
    (hg : w.rowIs g 46 1026 (codeF V d (.slice s len len))) (hr : OwnRows w 44 s len R) :
    Calls Try.prog 14 #[.pointer (some ⟨g, 0, none⟩)] w fun e w' => e = .returned (.int .i64 (lastK R len)) ∧ ∃ n, w' = w.drewN n := by
  by_cases h0 : len = 0
  · subst h0
    refine (maxBlock_none V d s 0 g w hg).mono ?_
    rintro e w' ⟨rfl, rfl⟩
    exact ⟨rfl, 0, rfl⟩
  · rcases hr with ⟨_, h⟩ | ⟨b, rfl, hr⟩
    · exact absurd h h0
    · refine (maxBlock_some V d b len R g w (by omega) hl hg hr).mono ?_
      rintro e w' ⟨rfl, hw⟩
      exact ⟨by rw [lastK, if_neg h0], hw⟩

end Go.Proofs.Qxb6603342a
