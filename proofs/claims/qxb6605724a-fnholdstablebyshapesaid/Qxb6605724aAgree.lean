/-
  The walk of 'FnHoldsAgreesWithScan'.
-/
import Derived.Test.Qxb6605724aSearch
namespace Go.Proofs.Qxb6605724a
open Go.RowKit

theorem bytes15 (n c : Nat) (a : Option Addr) (x : Int) (w : World) (hn : n ≤ 9223372036854775807) :
    Calls Try.prog 15 #[.slice a n c, .int .i64 x] w fun e w' => SaysBool e ∧ w = w' := by
  go_enter Try.func15, Try.ntmps15
  go_wp2
  all_goals (go_ret; exact ⟨⟨_, rfl⟩, rfl⟩)

/-- The first k values stand in order. -/
def Upto (Z : Nat → Int) (k : Nat) : Prop := ∀ j, j + 1 < k → Z j ≤ Z (j + 1)
theorem Upto.one (Z : Nat → Int) : Upto Z 1 := fun j h => by omega
theorem Upto.next {Z : Nat → Int} {k : Nat} (h : Upto Z (k + 1)) (hz : Z k ≤ Z (k + 1)) : Upto Z (k + 2) := by
  intro j hj
  by_cases e : j = k
  · subst e; exact hz
  · exact h j (by omega)
theorem Upto.sorted {Z : Nat → Int} {n : Nat} (h : Upto Z n) : Sorted Z n := by
  intro j k hjk hk
  induction k with
  | zero => obtain rfl : j = 0 := by omega
            exact Int.le_refl _
  | succ k ih =>
    by_cases e : j = k + 1
    · subst e; exact Int.le_refl _
    · have := ih (by omega) (by omega)
      have := h k (by omega)
      omega
theorem Upto.mono {Z : Nat → Int} {n k : Nat} (h : Upto Z k) (hn : n ≤ k) : Upto Z n := fun j hj => h j (by omega)

theorem want_hit {Z : Nat → Int} {q : Nat} {x : Int} (h : (Z q == x) = true) : Value.bool true = .bool (has Z (q + 1) x) := by rw [has_succ, h]; simp
theorem want_miss {Z : Nat → Int} {q : Nat} {x : Int} (h : (Z q == x) = false) : Value.bool (has Z q x) = .bool (has Z (q + 1) x) := by rw [has_succ, h]; simp

set_option maxRecDepth 100000 in
set_option maxHeartbeats 1000000 in
theorem agree6 (a0 : Option Addr) (n0 c0 : Nat) (x : Int) (Z : Nat → Int) (w : World) (h0 : IntRow w a0 n0 Z) (m0 : n0 ≤ 9223372036854775807) :
    Calls Try.prog 6 #[.slice a0 n0 c0, .int .i64 x] w fun e w' => e = .returned (.bool true) ∧ Below w.heap.size w w' := by
  have hnq := fun (w : World) (n c : Nat) (a : Option Addr) => run_neq_slice_nil_any (P := Try.prog) w 35 3 a n c 0 0 Try.underlying35
  go_enter Try.func6, Try.ntmps6
  go_upto_if 17 with (go_at_call 15; refine (bytes15 n0 c0 a0 x w m0).mono ?_; rintro e w1 ⟨⟨bb, rfl⟩, rfl⟩; cases bb)
  iterate 2 (go_ret; exact ⟨rfl, Below.refl _ _⟩)
  have l0 : n0 ≤ 65536 := Int.ofNat_le.mp (by assumption)
  obtain ⟨cur0, hcur0, hmk0⟩ := make_row Try.underlying35 Try.info3 rfl n0 (by omega) m0
  have HC0 : Hid (cur0.length = n0) := hcur0
  clear hcur0
  go_cut [0] (fun v wc => ∃ a c, v = .slice a n0 c ∧ IntRow wc a n0 Z ∧ Below w.heap.size w wc)
  case first =>
    cases a0 with
    | none =>
      go_wp2_with fail
      go_meet
      case rel => exact ⟨_, _, rfl, h0, Below.refl _ _⟩
    | some ad =>
      obtain ⟨w2, hcp, hg2, hb2, hz2⟩ := copy_made Try.underlying35 Try.size3 w cur0 (intCells Z n0) (some ad) n0 c0 HC0.out (intCells_length Z n0) (intCells_one Z n0) (IntRow.src h0 ((Below.refl _ _).alloc (Nat.le_refl _) _))
      have hr2 := IntRow.made hg2
      clear hg2 hz2
      go_wp2_with fail
      go_meet
      case rel => exact ⟨_, _, rfl, hr2, hb2⟩
  case rest =>
    obtain ⟨a0', c0', rfl, hrow, hbel⟩ := hcut
    clear h0 hmk0 HC0 hnq
    go_wp2_with fail
    go_loopw [6] (fun i wr => ∃ k : Nat, (k + 1 ≤ n0 ∨ k = 0) ∧ i = .int .i64 ((k : Int) + 1) ∧ Upto Z (k + 1) ∧ ∃ m, wr = wc.drewN m) (fun i _ => n0 - (intOf i).toNat)
    case atStart => exact ⟨0, .inr rfl, rfl, Upto.one Z, 0, rfl⟩
    case round =>
      obtain ⟨k, hk, rfl, hup, m, rfl⟩ := hrel
      have HU : Hid (Upto Z (k + 1)) := hup
      clear hup
      by_cases hlt : k + 1 < n0
      · rcases hrow with h0 | ⟨b, off, rfl, hc⟩
        · omega
        have g1 := hc k (by omega)
        have g2 := hc (k + 1) (by omega)
        clear hc
        have q1 : (k : Int) + 1 < (n0 : Int) := by omega
        have q2 : (k : Int) < (n0 : Int) := by omega
        have q3 : (0 : Int) ≤ (k : Int) := by omega
        go_wp2_with fail
        go_quiet (fail)
        go_wp2_with fail
        · go_ret
          exact ⟨rfl, below_draws (below_draws hbel _) _⟩
        · go_roundw
          case rel => exact ⟨k + 1, .inl (by omega), by go_num, HU.out.next (by assumption), _, rfl⟩
          case measure => simp [intOf]; omega
      · have HS : Hid (Sorted Z n0) := (HU.out.mono (by omega)).sorted
        clear HU
        obtain ⟨wo, hwo⟩ : ∃ wo, wc.drewN m = wo := ⟨_, rfl⟩
        have hrow' : IntRow wo a0' n0 Z := by rw [← hwo]; exact hrow.later (below_draws (Below.refl _ _) m)
        have hbo : Below w.heap.size w wo := by rw [← hwo]; exact below_draws hbel m
        rw [hwo]
        clear hwo hrow hbel
        go_wp2_with fail
        go_loop [7, 8] (fun b i => ∃ q : Nat, q ≤ n0 ∧ i = .int .i64 (q : Int) ∧ b = .bool (has Z q x)) (fun _ i => n0 - (intOf i).toNat)
        case atStart => exact ⟨0, Nat.zero_le _, rfl, rfl⟩
        case round =>
          obtain ⟨q, hq, rfl, rfl⟩ := hrel
          by_cases hlt : q < n0
          · rcases hrow' with h0 | ⟨b, off, rfl, hc⟩
            · omega
            have g1 := hc q hlt
            clear hc
            have hz : (Z q == x) = true ∨ (Z q == x) = false := by cases (Z q == x) <;> simp
            rcases hz with hz | hz
            · have HH : Hid (Value.bool true = .bool (has Z (q + 1) x)) := want_hit hz
              go_wp2_with fail
              go_round
              case rel => exact ⟨q + 1, by omega, by go_num, HH.out⟩
              case measure => simp [intOf]; omega
            · have HH : Hid (Value.bool (has Z q x) = .bool (has Z (q + 1) x)) := want_miss hz
              go_wp2_with fail
              go_round
              case rel => exact ⟨q + 1, by omega, by go_num, HH.out⟩
              case measure => simp [intOf]; omega
          · obtain rfl : q = n0 := by omega
            go_wp2_with fail
            refine (holds16 q c0' a0' Z x wo l0 hrow' HS.out).mono ?_
            rintro e w5 ⟨rfl, hb5⟩
            have hbf := hbo.trans (hb5.mono hbo.size)
            clear hb5 hbo hrow'
            go_wp2_with fail
            go_ret
            exact ⟨by simp, hbf⟩
end Go.Proofs.Qxb6605724a
