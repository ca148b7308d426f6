/-
  THE WALKS of cmp.isNaN, cmp.Less, slices.isNaN, slices.BinarySearch at uint32: the place that comes back lies in 0 .. len; the slice need not be sorted.
-/
import Derived.Test.Qxb6603342aClones
namespace Go.Proofs.Qxb6603342a
open Go.RowKit

set_option maxHeartbeats 400000 in
theorem cnan_any (x : Int) (w : World) : Calls Try.prog 26 #[.int .u32 x] w fun e w' => e = .returned (.bool false) ∧ w' = w := by
  go_enter Try.func26, Try.ntmps26
  go_wp2
  go_ret
  exact ⟨by simp, rfl⟩

set_option maxHeartbeats 400000 in
theorem snan_any (x : Int) (w : World) : Calls Try.prog 25 #[.int .u32 x] w fun e w' => e = .returned (.bool false) ∧ w' = w := by
  go_enter Try.func25, Try.ntmps25
  go_wp2
  go_ret
  exact ⟨by simp, rfl⟩

set_option maxHeartbeats 400000 in
theorem less_any (x y : Int) (w : World) : Calls Try.prog 24 #[.int .u32 x, .int .u32 y] w fun e w' => e = .returned (.bool (decide (x < y))) ∧ w' = w := by
  go_enter Try.func24, Try.ntmps24
  go_wp2_with (go_at_call 26; refine (cnan_any _ _).mono ?_; rintro e wx ⟨rfl, hwx⟩; subst hwx)
  go_ret
  exact ⟨rfl, rfl⟩

/-- What a search leaves: a place in 0 .. len; nothing else. -/
def Found (len : Nat) (w : World) (e : Ending) (w' : World) : Prop := ∃ (i : Nat) (f : Bool), e = .returned (.tuple #[.int .i64 i, .bool f]) ∧ i ≤ len ∧ w' = w

set_option maxHeartbeats 1000000 in
theorem search_any (a : Option Addr) (len cap : Nat) (Z : Nat → Int) (t : Int) (w : World) (hl : len ≤ 1048576) (hz : IntsAt w a len Z) :
    Calls Try.prog 23 #[.slice a len cap, .int .u32 t] w fun e w' => Found len w e w' := by
  go_enter Try.func23, Try.ntmps23
  go_wp2_with fail
  go_loop [7, 8] (fun i j => ∃ p q : Nat, p ≤ q ∧ q ≤ len ∧ i = .int .i64 p ∧ j = .int .i64 q) (fun i j => (intOf j).toNat - (intOf i).toNat)
  case atStart => exact ⟨0, len, Nat.zero_le _, Nat.le_refl _, rfl, rfl⟩
  case round =>
    obtain ⟨p, q, hpq, hq, rfl, rfl⟩ := hrel
    by_cases hlt : p < q
    · obtain ⟨b, off, rfl, hbs, hc⟩ := hz (by omega)
      have hm : (p + q) / 2 < len := by omega
      have hcm := hc ((p + q) / 2) hm
      clear hc
      by_cases hless : Z ((p + q) / 2) < t
      · go_wp2_with (go_at_call 24; refine (less_any _ _ _).mono ?_; rintro e wx ⟨rfl, hwx⟩; subst hwx)
        go_round
        case rel => exact ⟨(p + q) / 2 + 1, q, by omega, by omega, by go_num, rfl⟩
        case measure => simp [intOf]; omega
      · have hd : decide (Z ((p + q) / 2) < t) = false := by simpa using hless
        go_wp2_with (go_at_call 24; refine (less_any _ _ _).mono ?_; rintro e wx ⟨rfl, hwx⟩; subst hwx)
        go_round
        case rel => exact ⟨p, (p + q) / 2, by omega, by omega, rfl, by go_num⟩
        case measure => simp [intOf]; omega
    · by_cases hpl : p < len
      · obtain ⟨b, off, rfl, hbs, hc⟩ := hz (by omega)
        have hcm := hc p hpl
        clear hc
        by_cases he : Z p = t
        · have heb : (Z p == t) = true := by simp [he]
          have HE : Hid (Z p = t) := he
          clear he
          go_wp2_with (go_at_call 25; refine (snan_any _ _).mono ?_; rintro e wx ⟨rfl, hwx⟩; subst hwx)
          go_ret2
          exact ⟨p, true, rfl, by omega, rfl⟩
        · have heb : (Z p == t) = false := by simp [he]
          clear he
          go_wp2_with (go_at_call 25; refine (snan_any _ _).mono ?_; rintro e wx ⟨rfl, hwx⟩; subst hwx)
          go_ret2
          exact ⟨p, false, rfl, by omega, rfl⟩
      · have hd : decide (p < len) = false := by simpa using hpl
        go_wp2_with (go_at_call 25; refine (snan_any _ _).mono ?_; rintro e wx ⟨rfl, hwx⟩; subst hwx)
        go_ret2
        exact ⟨p, false, rfl, by omega, rfl⟩

end Go.Proofs.Qxb6603342a
