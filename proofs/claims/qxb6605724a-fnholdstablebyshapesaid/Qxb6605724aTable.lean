/-
  The walk of 'FnHoldsTableByShape'.
-/
import Derived.Test.Qxb6605724aAgree
namespace Go.Proofs.Qxb6605724a
open Go.RowKit

theorem bytes17 (n c : Nat) (a : Option Addr) (w : World) (hn : n ≤ 9223372036854775807) :
    Calls Try.prog 17 #[.slice a n c] w fun e w' => SaysBool e ∧ w = w' := by
  go_enter Try.func17, Try.ntmps17
  go_wp2
  all_goals (go_ret; exact ⟨⟨_, rfl⟩, rfl⟩)

theorem holds_is (v : Bool) (n c : Nat) (a : Option Addr) (Z : Nat → Int) (x : Int) (w : World) (hn : n ≤ 65536) (hr : IntRow w a n Z) (hs : Sorted Z n) (hv : has Z n x = v) :
    Calls Try.prog 16 #[.slice a n c, .int .i64 x] w fun e w' => e = .returned (.bool v) ∧ Below w.heap.size w w' ∧ IntRow w' a n Z :=
  (holds16 n c a Z x w hn hr hs).mono fun _ _ ⟨he, hb⟩ => ⟨by rw [he, hv], hb, hr.later hb⟩

theorem has_self {Z : Nat → Int} {n k : Nat} (h : k < n) : has Z n (Z k) = true := has_true.2 ⟨k, h, rfl⟩
theorem has_gap {Z : Nat → Int} {n k : Nat} {x : Int} (hs : Sorted Z n) (hk : k + 1 < n) (h1 : Z k < x) (h2 : x < Z (k + 1)) : has Z n x = false := by
  rw [has_false]
  intro j hj e
  by_cases hjk : j ≤ k
  · have := hs j k hjk (by omega); omega
  · have := hs (k + 1) j (by omega) hj; omega
theorem has_below {Z : Nat → Int} {n : Nat} {x : Int} (hs : Sorted Z n) (h : x < Z 0) : has Z n x = false := by
  rw [has_false]
  intro j hj e
  have := hs 0 j (by omega) hj; omega
theorem has_above {Z : Nat → Int} {n : Nat} {x : Int} (hs : Sorted Z n) (hn : 0 < n) (h : Z (n - 1) < x) : has Z n x = false := by
  rw [has_false]
  intro j hj e
  have := hs j (n - 1) (by omega) (by omega); omega

set_option maxRecDepth 100000 in
set_option maxHeartbeats 2000000 in
theorem table7 (a0 : Option Addr) (n0 c0 : Nat) (Z : Nat → Int) (w : World) (h0 : IntRow w a0 n0 Z) (m0 : n0 ≤ 9223372036854775807) (hwf : ∀ i, -9223372036854775808 ≤ Z i ∧ Z i ≤ 9223372036854775807) :
    Calls Try.prog 7 #[.slice a0 n0 c0] w fun e w' => e = .returned (.bool true) ∧ Below w.heap.size w w' := by
  have hnq := fun (w : World) (n c : Nat) (a : Option Addr) => run_neq_slice_nil_any (P := Try.prog) w 35 3 a n c 0 0 Try.underlying35
  have HW : Hid (∀ i, -9223372036854775808 ≤ Z i ∧ Z i ≤ 9223372036854775807) := hwf
  clear hwf
  go_enter Try.func7, Try.ntmps7
  go_upto_if 16 with (go_at_call 17; refine (bytes17 n0 c0 a0 w m0).mono ?_; rintro e w1 ⟨⟨bb, rfl⟩, rfl⟩; cases bb)
  iterate 2 (go_ret; exact ⟨rfl, Below.refl _ _⟩)
  have l0 : n0 ≤ 65536 := Int.ofNat_le.mp (by assumption)
  obtain ⟨cur0, hcur0, hmk0⟩ := make_row Try.underlying35 Try.info3 rfl n0 (by omega) m0
  have HC0 : Hid (cur0.length = n0) := hcur0
  clear hcur0
  go_cut [0] (fun v wc => ∃ a c, v = .slice a n0 c ∧ IntRow wc a n0 Z ∧ Below w.heap.size w wc)
  case first =>
    cases a0 with
    | none =>
      go_wp2_with fail
      go_meet
      case rel => exact ⟨_, _, rfl, h0, Below.refl _ _⟩
    | some ad =>
      obtain ⟨w2, hcp, hg2, hb2, hz2⟩ := copy_made Try.underlying35 Try.size3 w cur0 (intCells Z n0) (some ad) n0 c0 HC0.out (intCells_length Z n0) (intCells_one Z n0) (IntRow.src h0 ((Below.refl _ _).alloc (Nat.le_refl _) _))
      have hr2 := IntRow.made hg2
      clear hg2 hz2
      go_wp2_with fail
      go_meet
      case rel => exact ⟨_, _, rfl, hr2, hb2⟩
  case rest =>
    obtain ⟨a0', c0', rfl, hrow, hbel⟩ := hcut
    clear h0 hmk0 HC0 hnq
    go_wp2_with fail
    go_loopw [4] (fun i wr => ∃ k : Nat, (k + 1 ≤ n0 ∨ k = 0) ∧ i = .int .i64 ((k : Int) + 1) ∧ Upto Z (k + 1) ∧ ∃ m, wr = wc.drewN m) (fun i _ => n0 - (intOf i).toNat)
    case atStart => exact ⟨0, .inr rfl, rfl, Upto.one Z, 0, rfl⟩
    case round =>
      obtain ⟨k, hk, rfl, hup, m, rfl⟩ := hrel
      have HU : Hid (Upto Z (k + 1)) := hup
      clear hup
      by_cases hlt : k + 1 < n0
      · rcases hrow with h0 | ⟨b, off, rfl, hc⟩
        · omega
        have g1 := hc k (by omega)
        have g2 := hc (k + 1) (by omega)
        clear hc
        have q1 : (k : Int) + 1 < (n0 : Int) := by omega
        have q2 : (k : Int) < (n0 : Int) := by omega
        have q3 : (0 : Int) ≤ (k : Int) := by omega
        go_wp2_with fail
        go_quiet (fail)
        go_wp2_with fail
        · go_ret
          exact ⟨rfl, below_draws (below_draws hbel _) _⟩
        · go_roundw
          case rel => exact ⟨k + 1, .inl (by omega), by go_num, HU.out.next (by assumption), _, rfl⟩
          case measure => simp [intOf]; omega
      · have HS : Hid (Sorted Z n0) := (HU.out.mono (by omega)).sorted
        clear HU
        obtain ⟨wo, hwo⟩ : ∃ wo, wc.drewN m = wo := ⟨_, rfl⟩
        have hrow' : IntRow wo a0' n0 Z := by rw [← hwo]; exact hrow.later (below_draws (Below.refl _ _) m)
        have hbo : Below w.heap.size w wo := by rw [← hwo]; exact below_draws hbel m
        rw [hwo]
        clear hwo hrow hbel
        by_cases hz : n0 = 0
        · subst hz
          have hn0 : ∀ x, has Z 0 x = false := fun x => has_zero Z x
          go_wp2_with fail
          refine (holds_is false 0 c0' a0' Z 0 wo l0 hrow' HS.out (hn0 _)).mono ?_
          rintro e w1 ⟨rfl, hb1, hr1⟩
          go_wp2_with fail
          refine (holds_is false 0 c0' a0' Z 1 w1 l0 hr1 HS.out (hn0 _)).mono ?_
          rintro e w2 ⟨rfl, hb2, hr2⟩
          go_wp2_with fail
          refine (holds_is false 0 c0' a0' Z (-1) w2 l0 hr2 HS.out (hn0 _)).mono ?_
          rintro e w3 ⟨rfl, hb3, hr3⟩
          go_wp2_with fail
          refine (holds_is false 0 c0' a0' Z 9223372036854775807 w3 l0 hr3 HS.out (hn0 _)).mono ?_
          rintro e w4 ⟨rfl, hb4, hr4⟩
          go_wp2_with fail
          refine (holds_is false 0 c0' a0' Z (-9223372036854775808) w4 l0 hr4 HS.out (hn0 _)).mono ?_
          rintro e w5 ⟨rfl, hb5, hr5⟩
          go_wp2_with fail
          go_ret
          have t1 := hbo.trans (hb1.mono hbo.size)
          have t2 := t1.trans (hb2.mono t1.size)
          have t3 := t2.trans (hb3.mono t2.size)
          have t4 := t3.trans (hb4.mono t3.size)
          exact ⟨rfl, t4.trans (hb5.mono t4.size)⟩
        · have hpos : 0 < n0 := by omega
          have hz' : ((n0 : Int) == 0) = false := by simp; omega
          go_wp2_with fail
          go_loopw [6] (fun i wr => ∃ q : Nat, q ≤ n0 ∧ i = .int .i64 (q : Int) ∧ IntRow wr a0' n0 Z ∧ Below w.heap.size w wr) (fun i _ => n0 - (intOf i).toNat)
          case atStart => exact ⟨0, Nat.zero_le _, rfl, hrow', hbo⟩
          case round =>
            clear hrow' hbo
            obtain ⟨q, hq, rfl, hrq, hbq⟩ := hrel
            by_cases hlt : q < n0
            · have hrq' := hrq
              rcases hrq with h0 | ⟨b, off, rfl, hc⟩
              · omega
              have g1 := hc q hlt
              clear hc
              go_wp2_with fail
              refine (holds_is true n0 c0' _ Z (Z q) wr l0 hrq' HS.out (has_self hlt)).mono ?_
              rintro e w1 ⟨rfl, hb1, hr1⟩
              clear g1
              go_wp2_with fail
              go_roundw
              case rel => exact ⟨q + 1, by omega, by go_num, hr1, hbq.trans (hb1.mono hbq.size)⟩
              case measure => simp [intOf]; omega
            · obtain ⟨wp, hwp⟩ : ∃ wp, wr = wp := ⟨_, rfl⟩
              rw [hwp] at hrq hbq ⊢
              clear hwp
              go_wp2_with fail
              go_loopw [7] (fun i wr => ∃ q : Nat, q < n0 ∧ i = .int .i64 (q : Int) ∧ IntRow wr a0' n0 Z ∧ Below w.heap.size w wr) (fun i _ => n0 - (intOf i).toNat)
              case atStart => exact ⟨0, hpos, rfl, hrq, hbq⟩
              case round =>
                clear hrq hbq hlt
                obtain ⟨r, hr, rfl, hrr, hbr⟩ := hrel
                by_cases hlt : r + 1 < n0
                · have hrr' := hrr
                  rcases hrr with h0 | ⟨b, off, rfl, hc⟩
                  · omega
                  have g1 := hc r (by omega)
                  have g2 := hc (r + 1) hlt
                  have w1 := HW.out r
                  have w2 := HW.out (r + 1)
                  have q1 : (r : Int) + 1 < (n0 : Int) := by omega
                  have q2 : (r : Int) < (n0 : Int) := by omega
                  have q3 : (0 : Int) ≤ (r : Int) := by omega
                  clear hc
                  by_cases hgap : Z r + 1 < Z (r + 1)
                  · have hgf := has_gap HS.out hlt (by omega) hgap
                    have HG : Hid (has Z n0 (Z r + 1) = false) := hgf
                    clear hgf
                    go_wp2_with fail
                    go_quiet (fail)
                    go_wp2_with fail
                    refine (holds_is false n0 c0' _ Z (Z r + 1) (wr.drewN nq) l0 (hrr'.later (below_draws (Below.refl _ _) _)) HS.out HG.out).mono ?_
                    rintro e w3 ⟨rfl, hb3, hr3⟩
                    have hbx := (below_draws hbr nq).trans (hb3.mono hbr.size)
                    clear g1 g2 hrr' hbr hb3
                    go_wp2_with fail
                    go_roundw
                    case rel => exact ⟨r + 1, by omega, by go_num, hr3, hbx⟩
                    case measure => simp [intOf]; omega
                  · go_wp2_with fail
                    go_quiet (fail)
                    go_wp2_with fail
                    all_goals
                      go_roundw
                      case rel => exact ⟨r + 1, by omega, by go_num, hrr'.later (below_draws (Below.refl _ _) _), below_draws hbr _⟩
                      case measure => simp [intOf]; omega
                · have hrr' := hrr
                  rcases hrr with h0 | ⟨b, off, rfl, hc⟩
                  · omega
                  have g1 := hc 0 (by omega)
                  have w1 := HW.out 0
                  simp only [Nat.add_zero] at g1
                  have q2 : (0 : Int) < (n0 : Int) := by omega
                  have HB : Hid (has Z n0 (Z 0 - 1) = false) := has_below HS.out (by omega)
                  have HA : Hid (has Z n0 (Z (n0 - 1) + 1) = false) := has_above HS.out hpos (by omega)
                  clear hc
                  go_upto_if 110 with fail
                  go_cut [2] (fun _ wd => IntRow wd (some ⟨b, off, none⟩) n0 Z ∧ Below w.heap.size w wd)
                  case first =>
                    by_cases hmin : -9223372036854775808 < Z 0
                    · go_wp2_with fail
                      refine (holds_is false n0 c0' _ Z (Z 0 - 1) wr l0 hrr' HS.out HB.out).mono ?_
                      rintro e w3 ⟨rfl, hb3, hr3⟩
                      have hbx := hbr.trans (hb3.mono hbr.size)
                      clear g1 hrr' hbr hb3
                      go_wp2_with fail
                      go_meet
                      case rel => exact ⟨hr3, hbx⟩
                    · go_wp2_with fail
                      go_meet
                      case rel => exact ⟨hrr', hbr⟩
                  case rest =>
                    obtain ⟨hre, hbe⟩ := hcut
                    clear g1 w1 hrr' hbr HB
                    have w2 := HW.out (n0 - 1)
                    have g2 : wc.cell? ⟨b, off + (n0 - 1), none⟩ = some (.int .i64 (Z (n0 - 1))) := by
                      rcases hre with h0 | ⟨b', off', he, hc⟩
                      · omega
                      · injection he with he; injection he with h1 h2; subst h1; subst h2
                        exact hc (n0 - 1) (by omega)
                    by_cases hmax : Z (n0 - 1) < 9223372036854775807
                    · go_wp2_with fail
                      refine (holds_is false n0 c0' _ Z (Z (n0 - 1) + 1) wc l0 hre HS.out HA.out).mono ?_
                      rintro e w3 ⟨rfl, hb3, hr3⟩
                      have hbx := hbe.trans (hb3.mono hbe.size)
                      clear g2 hre hbe hb3
                      go_wp2_with fail
                      go_ret
                      exact ⟨rfl, hbx⟩
                    · go_wp2_with fail
                      go_ret
                      exact ⟨rfl, hbe⟩
end Go.Proofs.Qxb6605724a
