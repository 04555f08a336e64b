/-
  math.Ldexp(1, c) for the classes.
-/
import Derived.Test.Qxb6608524aRows
import Derived.WalkKit
import Derived.WalkSpells
import Derived.WalkLawsBesides
namespace Go.Proofs.Qxb6608524a
open Go.RowKit

theorem call31 (b : Nat) (w : World) : (callFunc 31 #[.float .f64 b]).run Try.prog w = .ok (.value (.int .u64 (b : Int))) w := by kernel_rfl
theorem call34 (n : Int) (w : World) : (callFunc 34 #[.int .u64 n]).run Try.prog w = .ok (.value (.float .f64 n.toNat)) w := by kernel_rfl
theorem andNot_one : bits BinOp.andNot IntKind.u64 4607182418800017408 9223372036854775808 = 4607182418800017408 := by decide +kernel
theorem andNot_exp : bits BinOp.andNot IntKind.u64 4607182418800017408 9218868437227405312 = 0 := by decide +kernel
theorem and_mask : bits BinOp.and IntKind.i64 1023 2047 = 1023 := by decide +kernel
theorem one_eq_zero : (FloatKind.f64.format.order 4607182418800017408 0 == some .eq) = false := by decide +kernel
theorem one_gt_max : (FloatKind.f64.format.order 4607182418800017408 9218868437227405311 == some .gt) = false := by decide +kernel
theorem one_ne_one : (FloatKind.f64.format.order 4607182418800017408 4607182418800017408 != some .eq) = false := by decide +kernel
theorem one_lt_small : (FloatKind.f64.format.order 4607182418800017408 4503599627370496 == some .lt) = false := by decide +kernel

/-- The bits of 2 to the c. -/
def pw (c : Nat) : Nat := 4607182418800017408 + c * 4503599627370496
theorem or_fin : ∀ c : Fin 19, (bits BinOp.or IntKind.u64 0 (((c.val : Int) + 1023) * 4503599627370496)).toNat = pw c.val := by decide +kernel
theorem mul_one_fin : ∀ c : Fin 19, floatBits .mul .f64 4607182418800017408 (pw c.val) = some (pw c.val) := by decide +kernel
theorem mul_or (c : Nat) (hc : c ≤ 18) (w : World) :
    (binOp .mul 22 (.float .f64 4607182418800017408) (.float .f64 (bits BinOp.or IntKind.u64 0 (((c : Int) + 1023) * 4503599627370496)).toNat)).run Try.prog w = .ok (.float .f64 (pw c)) w := by
  have h1 := or_fin ⟨c, by omega⟩
  have h2 := mul_one_fin ⟨c, by omega⟩
  simp only at h1 h2
  rw [h1]
  exact run_float_arith w .mul 22 .f64 _ _ _ h2

set_option maxHeartbeats 400000 in
theorem ldexp20 (c : Nat) (hc : c ≤ 18) (w : World) :
    Calls Try.prog 20 #[.float .f64 4607182418800017408, .int .i64 (c : Int)] w fun e w' => e = .returned (.float .f64 (pw c)) ∧ w = w' := by
  have k1 := call31
  have k2 := call34
  have k3 := andNot_one
  have k4 := andNot_exp
  have k5 := one_eq_zero
  have k6 := one_gt_max
  have k7 := one_ne_one
  have k8 := one_lt_small
  have k9 := and_mask
  have k10 := mul_or c hc
  go_enter Try.func20, Try.ntmps20
  go_wp2

  go_ret
  exact ⟨rfl, rfl⟩

end Go.Proofs.Qxb6608524a
