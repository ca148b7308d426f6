/-
  THE WALK of isPrime and ZZIsPrime.
-/
import Derived.Test.Qxb6603342aRows
import Derived.Test.Qxb6603342aPrimes
import Derived.WalkKit
import Derived.WalkSpells
namespace Go.Proofs.Qxb6603342a
open Go.RowKit

set_option maxHeartbeats 400000 in
theorem isPrime_any (n : Int) (w : World) (hn : n ≤ 131072) :
    Calls Try.prog 18 #[.int .i64 n] w fun e w' => e = .returned (.bool (prB n.toNat)) ∧ w' = w := by
  by_cases h2 : n < 2
  · have hz : prB n.toNat = false := prB_small _ (by omega)
    rw [hz]
    clear hz
    go_enter Try.func18, Try.ntmps18
    go_wp2
    go_ret
    exact ⟨rfl, rfl⟩
  · obtain ⟨m, rfl⟩ := Int.eq_ofNat_of_zero_le (show 0 ≤ n by omega)
    rw [Int.toNat_natCast]
    go_enter Try.func18, Try.ntmps18
    go_wp2
    go_loop [3] (fun i => ∃ k : Nat, 2 ≤ k ∧ k ≤ m + 1 ∧ (∀ d, d < k → 2 ≤ d → m % d ≠ 0) ∧ i = .int .i64 k) (fun i => m + 1 - (intOf i).toNat)
    case atStart => exact ⟨2, Nat.le_refl _, by omega, fun d h1 h2 => by omega, rfl⟩
    case round =>
      obtain ⟨k, hk1, hk2, hall, rfl⟩ := hrel
      have HA : Hid (∀ d, d < k → 2 ≤ d → m % d ≠ 0) := hall
      clear hall
      have hb1 : (k : Int) * k ≤ 17180131329 := by
        have h : k * k ≤ 131073 * 131073 := Nat.mul_le_mul (by omega) (by omega)
        have : ((k * k : Nat) : Int) = (k : Int) * k := by simp
        omega
      have hb0 : 0 ≤ (k : Int) * k := by
        have : ((k * k : Nat) : Int) = (k : Int) * k := by simp
        omega
      by_cases hr : k * k ≤ m
      · have hr' : (k : Int) * k ≤ m := by
          have : ((k * k : Nat) : Int) = (k : Int) * k := by simp
          omega
        by_cases hm : m % k = 0
        · have hm' : (((m : Int) % (k : Int)) == 0) = true := by
            rw [beq_iff_eq]; omega
          have HZ : Hid (prB m = false) := prB_div m k hk1 hr hm
          clear hm
          go_wp2
          go_ret
          exact ⟨by rw [HZ.out]; rfl, rfl⟩
        · have hm' : (((m : Int) % (k : Int)) == 0) = false := by
            rw [beq_eq_false_iff_ne]; omega
          have HM : Hid (m % k ≠ 0) := hm
          clear hm
          go_wp2
          go_round
          case rel =>
            refine ⟨k + 1, by omega, ?_, fun d hd hd2 => ?_, by go_num⟩
            · have : k * 1 ≤ k * k := Nat.mul_le_mul_left k (by omega)
              omega
            · by_cases e : d = k
              · subst e; exact HM.out
              · exact HA.out d (by omega) hd2
          case measure =>
            simp [intOf]
            have : k * 1 ≤ k * k := Nat.mul_le_mul_left k (by omega)
            omega
      · have hr' : ¬ (k : Int) * k ≤ m := by
          have : ((k * k : Nat) : Int) = (k : Int) * k := by simp
          omega
        have HZ : Hid (prB m = true) := prB_root m k (by omega) (by omega) HA.out
        go_wp2
        go_ret
        exact ⟨by rw [HZ.out]; rfl, rfl⟩

set_option maxHeartbeats 400000 in
theorem zzprime_any (n : Int) (w : World) (hn : n ≤ 131072) :
    Calls Try.prog 9 #[.int .i64 n] w fun e w' => e = .returned (.bool (prB n.toNat)) ∧ w' = w := by
  go_enter Try.func9, Try.ntmps9
  go_wp2_with (go_at_call 18; refine (isPrime_any n _ hn).mono ?_; rintro e wx ⟨rfl, hwx⟩; subst hwx)
  go_ret
  exact ⟨rfl, rfl⟩

end Go.Proofs.Qxb6603342a
