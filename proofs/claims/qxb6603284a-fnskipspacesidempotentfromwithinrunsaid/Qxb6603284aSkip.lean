/-
  THE WALKS that both laws share: done, next, skipSpaces, ZZSkipSpaces; and the plain function 'sk' that they compute.
-/
import Derived.Test.Qxb6603284aRows
import Derived.WalkKit
import Derived.WalkSpells
import Derived.Deep.QuietTactic
import Derived.BigQuiet
import Derived.Deep.LoopGhost
import Derived.WalkSmall
namespace Go.Proofs.Qxb6603284a
open Go.RowKit

/-! ### THE PLAIN FUNCTION -/
def sk (s : ByteArray) (p : Nat) : Nat := p + ((s.data.toList.drop p).takeWhile (fun c => c == 32)).length

theorem sk_ge (s : ByteArray) (p : Nat) : p ≤ sk s p := by unfold sk; omega
theorem sk_end (s : ByteArray) (p : Nat) (h : s.size ≤ p) : sk s p = p := by
  unfold sk
  rw [List.drop_eq_nil_of_le (by simpa using h)]
  rfl
theorem sk_cons (s : ByteArray) (p : Nat) (h : p < s.size) : s.data.toList.drop p = s[p] :: s.data.toList.drop (p + 1) := by
  rw [List.drop_eq_getElem_cons (by simpa using h)]
  rfl
theorem sk_step (s : ByteArray) (p : Nat) (h : p < s.size) (hc : s[p] = 32) : sk s p = sk s (p + 1) := by
  unfold sk
  rw [sk_cons s p h, List.takeWhile_cons, hc]
  simp; omega
theorem sk_stop (s : ByteArray) (p : Nat) (h : p < s.size) (hc : s[p] ≠ 32) : sk s p = p := by
  unfold sk
  rw [sk_cons s p h, List.takeWhile_cons]
  simp [hc]
theorem sk_le (s : ByteArray) (p : Nat) (h : p ≤ s.size) : sk s p ≤ s.size := by
  unfold sk
  have h1 := List.Sublist.length_le (List.takeWhile_sublist (fun c : UInt8 => c == 32) (l := s.data.toList.drop p))
  have h2 : (s.data.toList.drop p).length = s.size - p := by simp
  omega

/-- Every byte that is passed over is a space. -/
theorem sk_all (s : ByteArray) (k : Nat) (hk : k < s.size) : ∀ (n p : Nat), s.size - p = n → p ≤ k → k < sk s p → s[k] = 32
  | 0, p, hn, hp, _ => by omega
  | n + 1, p, hn, hp, hq => by
    by_cases hc : s[p]'(by omega) = 32
    · rw [sk_step s p (by omega) hc] at hq
      by_cases e : p = k
      · subst e; exact hc
      · exact sk_all s k hk n (p + 1) (by omega) (by omega) hq
    · rw [sk_stop s p (by omega) hc] at hq
      omega
/-- The byte at which it stops is none. -/
theorem sk_at (s : ByteArray) : ∀ (n p : Nat), s.size - p = n → (h : sk s p < s.size) → s[sk s p] ≠ 32
  | 0, p, hn, h => by have := sk_ge s p; omega
  | n + 1, p, hn, h => by
    by_cases hc : s[p]'(by omega) = 32
    · have e := sk_step s p (by omega) hc
      have h' : sk s (p + 1) < s.size := by omega
      have := sk_at s n (p + 1) (by omega) h'
      simpa [e] using this
    · have e := sk_stop s p (by omega) hc
      simpa [e] using hc
/-- A second skip does not move. -/
theorem sk_idem (s : ByteArray) (p : Nat) : sk s (sk s p) = sk s p := by
  by_cases h : sk s p < s.size
  · exact sk_stop s _ h (sk_at s _ p rfl h)
  · exact sk_end s _ (by omega)

set_option maxHeartbeats 400000 in
theorem done_any (b : Nat) (s : ByteArray) (p : Nat) (w : World)
    (h0 : w.cell? ⟨b, 0, none⟩ = some (.string s)) (h1 : w.cell? ⟨b, 1, none⟩ = some (.int .i64 p)) :
    Calls Try.prog 20 #[.pointer (some ⟨b, 0, none⟩)] w fun e w' => e = .returned (.bool (decide (s.size ≤ p))) ∧ ∃ n, w' = w.drewN n := by
  go_enter Try.func20, Try.ntmps20
  go_wp2
  go_quiet (fail)
  go_wp2
  go_ret
  exact ⟨rfl, _, rfl⟩

/-- What 'next' reads. -/
def nx (s : ByteArray) (p : Nat) : Int := if h : p < s.size then (s[p].toNat : Int) else 0

set_option maxHeartbeats 400000 in
theorem next_any (b : Nat) (s : ByteArray) (p : Nat) (w : World)
    (h0 : w.cell? ⟨b, 0, none⟩ = some (.string s)) (h1 : w.cell? ⟨b, 1, none⟩ = some (.int .i64 p)) :
    Calls Try.prog 18 #[.pointer (some ⟨b, 0, none⟩)] w fun e w' => e = .returned (.int .u8 (nx s p)) ∧ ∃ n, w' = w.drewN n := by
  by_cases hp : p < s.size
  · have hn : decide (s.size ≤ p) = false := by simp; omega
    have hz : nx s p = (s[p].toNat : Int) := by unfold nx; rw [dif_pos hp]
    rw [hz]
    clear hz
    go_enter Try.func18, Try.ntmps18
    go_wp2_with (go_at_call 20; refine (done_any b s p _ h0 h1).mono ?_; rintro e w' ⟨rfl, n, rfl⟩)
    go_quiet (fail)
    go_wp2
    go_ret
    exact ⟨rfl, n + nq, World.drewN_drewN _ _ _⟩
  · have hn : decide (s.size ≤ p) = true := by simp; omega
    have hz : nx s p = 0 := by unfold nx; rw [dif_neg hp]
    rw [hz]
    clear hz
    go_enter Try.func18, Try.ntmps18
    go_wp2_with (go_at_call 20; refine (done_any b s p _ h0 h1).mono ?_; rintro e w' ⟨rfl, n, rfl⟩)
    go_ret
    exact ⟨rfl, _, rfl⟩

set_option maxHeartbeats 400000 in
theorem skip_any (b : Nat) (s : ByteArray) (p : Nat) (w : World) (hs : s.size ≤ 1048576)
    (h0 : w.cell? ⟨b, 0, none⟩ = some (.string s)) (h1 : w.cell? ⟨b, 1, none⟩ = some (.int .i64 p)) (hf : w.frozen? ⟨b, 1, none⟩ = false) :
    Calls Try.prog 16 #[.pointer (some ⟨b, 0, none⟩)] w fun e w' => e = .returned (.tuple #[]) ∧ w'.cell? ⟨b, 1, none⟩ = some (.int .i64 (sk s p : Nat)) ∧ Below b w w' := by
  go_enter Try.func16, Try.ntmps16
  go_wp2_with fail
  go_loopg [] (s.size - p) (fun k wr => ∃ q : Nat, k = s.size - q ∧ sk s q = sk s p ∧ wr.cell? ⟨b, 0, none⟩ = some (.string s) ∧ wr.cell? ⟨b, 1, none⟩ = some (.int .i64 q) ∧ wr.frozen? ⟨b, 1, none⟩ = false ∧ Below b w wr)
  case atStart => exact ⟨p, rfl, rfl, h0, h1, hf, Below.refl _ _⟩
  case round =>
    obtain ⟨q, rfl, hsk, c0, c1, cf, hb⟩ := hrel
    have HS : Hid (sk s q = sk s p) := hsk
    clear hsk h0 h1 hf
    by_cases hq : q < s.size ∧ nx s q = 32
    · obtain ⟨hlt, hx⟩ := hq
      have hx' : (nx s q == 32) = true := by simp [hx]
      have H32 : Hid (nx s q = 32) := hx
      clear hx
      go_wp2_with (go_at_call 18; refine (next_any b s q _ c0 c1).mono ?_; rintro e w' ⟨rfl, n, rfl⟩)
      go_roundg (s.size - (q + 1))
      case measure => omega
      case rel =>
        refine ⟨q + 1, rfl, ?_, ?_, ?_, ?_, ?_⟩
        · rw [← HS.out]
          refine (sk_step s q hlt ?_).symm
          have := H32.out
          unfold nx at this
          rw [dif_pos hlt] at this
          exact UInt8.toNat_inj.1 (show s[q].toNat = 32 by omega)
        · rw [World.cell?_setCell_other _ _ _ _ (by simp)]; exact c0
        · rw [World.cell?_setCell_same _ _ _ (u := .int .i64 q) (by exact c1)]; rfl
        · rw [World.frozen?_setCell]; exact cf
        · exact (below_drewN hb _).setCell (Nat.le_refl _) _
    · have hx' : (nx s q == 32) = false := by
        rw [beq_eq_false_iff_ne]
        intro hx
        refine hq ⟨?_, hx⟩
        unfold nx at hx
        split at hx
        · assumption
        · simp at hx
      have HE : Hid (sk s q = q) := by
        by_cases hlt : q < s.size
        · refine sk_stop s q hlt fun hc => hq ⟨hlt, ?_⟩
          unfold nx
          rw [dif_pos hlt, hc]
          rfl
        · exact sk_end s q (by omega)
      clear hq
      go_wp2_with (go_at_call 18; refine (next_any b s q _ c0 c1).mono ?_; rintro e w' ⟨rfl, n, rfl⟩)
      go_end0
      refine ⟨rfl, ?_, below_drewN hb _⟩
      rw [← HS.out, HE.out]
      exact c1

set_option maxHeartbeats 400000 in
theorem zzskip_any (s : ByteArray) (p : Nat) (w : World) (hs : s.size ≤ 1048576) :
    Calls Try.prog 9 #[.string s, .int .i64 p] w fun e w' => e = .returned (.int .i64 (sk s p : Nat)) ∧ Below w.heap.size w w' := by
  go_enter Try.func9, Try.ntmps9
  go_wp2_with fail
  refine (skip_any w.heap.size s p _ hs (by simp) (by simp) (by simp)).mono ?_
  rintro e w' ⟨rfl, hc, hb⟩
  have hbw : Below w.heap.size w w' := ((Below.refl _ _).alloc (Nat.le_refl _) _).trans hb
  clear hb
  go_wp2
  go_ret
  exact ⟨rfl, hbw⟩

end Go.Proofs.Qxb6603284a
