/-
  The contracts of 'classOf', 'ZZclassOf' and 'classThreshold'.
-/
import Derived.Test.Qxb6608524aLdexp
namespace Go.Proofs.Qxb6608524a
open Go.RowKit

/-- The bits of the threshold of class k + 1: 2 to the k, times the square root of 2. -/
def thr (k : Nat) : Nat := 4609047870845172685 + k * 4503599627370496
theorem thr_fin : ∀ k : Fin 19, floatBits .mul .f64 (pw k.val) 4609047870845172685 = some (thr k.val) := by decide +kernel
theorem dbl_fin : ∀ k : Fin 18, floatBits .mul .f64 (pw k.val) 4611686018427387904 = some (pw (k.val + 1)) := by decide +kernel
theorem mul_thr (k : Nat) (hk : k ≤ 18) (w : World) : (binOp .mul 22 (.float .f64 (pw k)) (.float .f64 4609047870845172685)).run Try.prog w = .ok (.float .f64 (thr k)) w :=
  run_float_arith w .mul 22 .f64 _ _ _ (thr_fin ⟨k, by omega⟩)
theorem mul_dbl (k : Nat) (hk : k ≤ 17) (w : World) : (binOp .mul 22 (.float .f64 (pw k)) (.float .f64 4611686018427387904)).run Try.prog w = .ok (.float .f64 (pw (k + 1))) w :=
  run_float_arith w .mul 22 .f64 _ _ _ (dbl_fin ⟨k, by omega⟩)

/-- 'x < y' on float64s, by their bits. -/
def flt (x y : Nat) : Bool := FloatKind.f64.format.order x y == some .lt
/-- r is the class of the guess e. -/
def Cls (e r : Nat) : Prop := 1 ≤ r ∧ r ≤ 20 ∧ (∀ k, k + 1 < r → flt (thr k) e = true) ∧ (∀ k, r = k + 1 → r < 20 → flt (thr k) e = false)

theorem all_next {e k : Nat} (h : ∀ j, j < k → flt (thr j) e = true) (hk : flt (thr k) e = true) : ∀ j, j < k + 1 → flt (thr j) e = true := by
  intro j hj
  by_cases ej : j = k
  · subst ej; exact hk
  · exact h j (by omega)

set_option maxHeartbeats 1000000 in
theorem class18 (e : Nat) (w : World) :
    Calls Try.prog 7 #[.float .f64 e] w fun d w' => (∃ r, Cls e r ∧ d = .returned (.int .i64 (r : Int))) ∧ w = w' := by
  go_enter Try.func7, Try.ntmps7
  go_wp2_with (go_at_call 18; go_in)
  go_loop [3] (fun c => ∃ k : Nat, k ≤ 19 ∧ c = .int .i64 ((k : Int) + 1) ∧ ∀ j, j < k → flt (thr j) e = true) (fun c => (20 - intOf c).toNat)
  case atStart => exact ⟨0, by omega, rfl, fun j hj => absurd hj (Nat.not_lt_zero _)⟩
  case round =>
    obtain ⟨k, hk, rfl, hall⟩ := hrel
    have HA : Hid (∀ j, j < k → flt (thr j) e = true) := hall
    clear hall
    by_cases hlt : k < 19
    · have k1 := mul_thr k (by omega)
      cases hz : flt (thr k) e with
      | true =>
        have k2 : (FloatKind.f64.format.order (thr k) e == some .lt) = true := hz
        have HZ : Hid (flt (thr k) e = true) := hz
        clear hz
        go_wp2_with fail
        refine (ldexp20 k (by omega) w).mono ?_
        rintro d w1 ⟨rfl, rfl⟩
        go_wp2_with fail
        go_round
        case rel => exact ⟨k + 1, by omega, by go_num, all_next HA.out HZ.out⟩
        case measure => simp [intOf]; omega
      | false =>
        have k2 : (FloatKind.f64.format.order (thr k) e == some .lt) = false := hz
        have HZ : Hid (flt (thr k) e = false) := hz
        clear hz
        go_wp2_with fail
        refine (ldexp20 k (by omega) w).mono ?_
        rintro d w1 ⟨rfl, rfl⟩
        go_wp2_with fail
        go_ret
        exact ⟨⟨k + 1, ⟨by omega, by omega, fun j hj => HA.out j (by omega), fun j hj _ => by rw [show j = k from by omega]; exact HZ.out⟩, rfl⟩, rfl⟩
    · obtain rfl : k = 19 := by omega
      go_wp2_with fail
      go_ret
      exact ⟨⟨20, ⟨by omega, by omega, fun j hj => HA.out j (by omega), fun j hj h => by omega⟩, rfl⟩, rfl⟩

set_option maxHeartbeats 1000000 in
theorem thr8 (c : Nat) (hc : c ≤ 18) (w : World) :
    Calls Try.prog 8 #[.int .i64 ((c : Int) + 1)] w fun d w' => d = .returned (.float .f64 (thr c)) ∧ w = w' := by
  go_enter Try.func8, Try.ntmps8
  go_wp2
  go_loop [3, 4] (fun p i => ∃ k : Nat, k ≤ c ∧ i = .int .i64 ((k : Int) + 1) ∧ p = .float .f64 (pw k)) (fun _ i => (20 - intOf i).toNat)
  case atStart => exact ⟨0, Nat.zero_le _, rfl, rfl⟩
  case round =>
    obtain ⟨k, hk, rfl, rfl⟩ := hrel
    by_cases hlt : k < c
    · have k1 := mul_dbl k (by omega)
      go_wp2
      go_round
      case rel => exact ⟨k + 1, by omega, by go_num, rfl⟩
      case measure => simp [intOf]; omega
    · obtain rfl : k = c := by omega
      have k1 := mul_thr k (by omega)
      go_wp2
      go_ret
      exact ⟨rfl, rfl⟩

end Go.Proofs.Qxb6608524a
