/-
  The walk of 'FnClassOfLeastClassAndDoubling'.
-/
import Derived.Test.Qxb6608524aLaw
namespace Go.Proofs.Qxb6608524a
open Go.RowKit

theorem thr_at (n : Int) (c : Nat) (hn : n = (c : Int) + 1) (hc : c ≤ 18) (w : World) :
    Calls Try.prog 8 #[.int .i64 n] w fun d w' => d = .returned (.float .f64 (thr c)) ∧ w = w' := by
  rw [hn]; exact thr8 c hc w

set_option maxHeartbeats 1000000 in
theorem walk3 (e : Nat) (w : World) (hw : e < 2 ^ 64) :
    Calls Try.prog 3 #[.float .f64 e] w fun d w' => d = .returned (.bool true) ∧ w = w' := by
  go_enter Try.func3, Try.ntmps3
  go_wp2_with fail
  refine (class18 e w).mono ?_
  rintro d w1 ⟨⟨r, hc, rfl⟩, rfl⟩
  have b1 := hc.1
  have b2 := hc.2.1
  by_cases h20 : r = 20
  · subst h20
    have f1 : (FloatKind.f64.format.order (thr 18) e == some .lt) = true := hc.2.2.1 18 (by omega)
    clear hc b1 b2 hw
    go_wp2_with fail
    refine (thr_at _ 18 (by omega) (by omega) w).mono ?_
    rintro d w1 ⟨rfl, rfl⟩
    go_wp2_with fail
    go_ret
    exact ⟨rfl, rfl⟩
  · by_cases h1 : r = 1
    · subst h1
      have f1 : (FloatKind.f64.format.order (thr 0) e == some .lt) = false := hc.2.2.2 0 rfl (by omega)
      clear hc b1 b2 hw h20
      go_wp2_with fail
      refine (thr_at _ 0 (by omega) (by omega) w).mono ?_
      rintro d w1 ⟨rfl, rfl⟩
      go_wp2_with fail
      go_ret
      exact ⟨rfl, rfl⟩
    · obtain ⟨m, rfl⟩ : ∃ m, r = m + 2 := ⟨r - 2, by omega⟩
      have f1 : (FloatKind.f64.format.order (thr m) e == some .lt) = true := hc.2.2.1 m (by omega)
      have f2 : (FloatKind.f64.format.order (thr (m + 1)) e == some .lt) = false := hc.2.2.2 (m + 1) rfl (by omega)
      obtain ⟨e2, he2, hd⟩ := doubled hw hc (by omega) (by omega)
      have k1 := fun w => run_float_arith (P := Try.prog) w .mul 22 .f64 _ _ _ he2
      have HD : Hid (∀ r', Cls e2 r' → r' = m + 2 + 1) := hd
      have er : ((m + 2 : Nat) : Int) = (m : Int) + 2 := by omega
      rw [er]
      have b3 : m ≤ 17 := by omega
      clear hc hd he2 er h20 h1 b1 b2 hw
      go_wp2_with fail
      refine (thr_at _ (m + 1) (by omega) (by omega) w).mono ?_
      rintro d w1 ⟨rfl, rfl⟩
      go_wp2_with fail
      refine (thr_at _ m (by omega) (by omega) w).mono ?_
      rintro d w1 ⟨rfl, rfl⟩
      go_wp2_with fail
      refine (class18 e2 w).mono ?_
      rintro d w1 ⟨⟨r, hc, rfl⟩, rfl⟩
      have er : (r : Int) = (m : Int) + 2 + 1 := by have := HD.out r hc; omega
      rw [er]
      clear er hc HD
      go_wp2_with fail
      go_ret
      exact ⟨rfl, rfl⟩
end Go.Proofs.Qxb6608524a
