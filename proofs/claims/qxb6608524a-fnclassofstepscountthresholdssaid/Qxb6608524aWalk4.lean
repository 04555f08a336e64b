/-
  The walk of 'FnClassOfStepsCountThresholds'.
-/
import Derived.Test.Qxb6608524aLaw
import Derived.Deep.DeepCutAuto
namespace Go.Proofs.Qxb6608524a
open Go.RowKit

theorem cls_upto (e : Nat) : ∀ n, n ≤ 19 → (∃ r, Cls e r) ∨ ∀ j, j < n → flt (thr j) e = true := by
  intro n
  induction n with
  | zero => intro _; exact .inr fun j hj => absurd hj (Nat.not_lt_zero _)
  | succ n ih =>
    intro hn
    rcases ih (by omega) with h | h
    · exact .inl h
    · cases hz : flt (thr n) e with
      | true => exact .inr (all_next h hz)
      | false => exact .inl ⟨n + 1, by omega, by omega, fun k hk => h k (by omega), fun k hk _ => by rw [show k = n from by omega]; exact hz⟩
theorem cls_exists (e : Nat) : ∃ r, Cls e r := by
  rcases cls_upto e 19 (Nat.le_refl _) with h | h
  · exact h
  · exact ⟨20, by omega, by omega, fun k hk => h k (by omega), fun k _ h => by omega⟩
theorem cls_unique {e r r' : Nat} (h : Cls e r) (h' : Cls e r') : r = r' := by
  obtain ⟨a1, a2, a3, a4⟩ := h
  obtain ⟨b1, b2, b3, b4⟩ := h'
  rcases Nat.lt_trichotomy r r' with c | c | c
  · exfalso
    have x := a4 (r - 1) (by omega) (by omega)
    have y := b3 (r - 1) (by omega)
    rw [x] at y; cases y
  · exact c
  · exfalso
    have x := b4 (r' - 1) (by omega) (by omega)
    have y := a3 (r' - 1) (by omega)
    rw [x] at y; cases y

/-- The count of crossed thresholds among the first n. -/
def cnt (cl ch n : Nat) : Nat := min (n + 1) ch - cl
theorem cnt_zero {cl ch : Nat} (h : 1 ≤ cl) : cnt cl ch 0 = 0 := by unfold cnt; omega
theorem cnt_hit {cl ch n : Nat} (h1 : cl ≤ n + 1) (h2 : n + 1 < ch) : (cnt cl ch (n + 1) : Int) = cnt cl ch n + 1 := by unfold cnt; omega
theorem cnt_miss {cl ch n : Nat} (hle : cl ≤ ch) (h : ¬ (cl ≤ n + 1 ∧ n + 1 < ch)) : cnt cl ch (n + 1) = cnt cl ch n := by unfold cnt; omega
theorem cnt_end {cl ch : Nat} (hle : cl ≤ ch) (h : ch ≤ 20) : (cnt cl ch 19 : Int) = (ch : Int) - cl := by unfold cnt; omega
theorem cnt_le {cl ch n : Nat} (h : ch ≤ 20) : cnt cl ch n ≤ 20 := by unfold cnt; omega

set_option maxRecDepth 100000 in
set_option maxHeartbeats 1000000 in
theorem walk4 (a b : Nat) (w : World) :
    Calls Try.prog 4 #[.float .f64 a, .float .f64 b] w fun d w' => d = .returned (.bool true) ∧ w = w' := by
  have na : (FloatKind.f64.format.order a a != some .eq) = nanW a := ne_self a
  have nb : (FloatKind.f64.format.order b b != some .eq) = nanW b := ne_self b
  cases ha : nanW a with
  | true =>
    rw [ha] at na
    clear nb ha
    go_enter Try.func4, Try.ntmps4
    go_wp2_with fail
    go_ret
    exact ⟨rfl, rfl⟩
  | false =>
    rw [ha] at na
    cases hb : nanW b with
    | true =>
      rw [hb] at nb
      clear ha hb
      go_enter Try.func4, Try.ntmps4
      go_wp2_with fail
      go_ret
      exact ⟨rfl, rfl⟩
    | false =>
      rw [hb] at nb
      have HA : Hid (nanW a = false) := ha
      have HB : Hid (nanW b = false) := hb
      clear ha hb
      go_enter Try.func4, Try.ntmps4
      go_upto_if 24 with fail
      go_cut [5, 6] (fun x y wc => ∃ lo hi cl ch : Nat, x = .float .f64 lo ∧ y = .float .f64 hi ∧ nanW lo = false ∧ nanW hi = false ∧ Cls lo cl ∧ Cls hi ch ∧ cl ≤ ch ∧ w = wc)
      case first =>
        obtain ⟨ca, hca⟩ := cls_exists a
        obtain ⟨cb, hcb⟩ := cls_exists b
        cases hz : flt b a with
        | true =>
          have z1 : (FloatKind.f64.format.order b a == some .lt) = true := hz
          have Z : Hid (cb ≤ ca) := class_le HB.out HA.out (flt_asymm HB.out HA.out hz) hcb hca
          have H1 : Hid (Cls a ca) := hca
          have H2 : Hid (Cls b cb) := hcb
          clear hz hca hcb
          rw [z1]
          go_wp2_with fail
          go_meet
          case rel => exact ⟨b, a, cb, ca, rfl, rfl, HB.out, HA.out, H2.out, H1.out, Z.out, rfl⟩
        | false =>
          have z1 : (FloatKind.f64.format.order b a == some .lt) = false := hz
          have Z : Hid (ca ≤ cb) := class_le HA.out HB.out hz hca hcb
          have H1 : Hid (Cls a ca) := hca
          have H2 : Hid (Cls b cb) := hcb
          clear hz hca hcb
          rw [z1]
          go_wp2_with fail
          go_meet
          case rel => exact ⟨a, b, ca, cb, rfl, rfl, HA.out, HB.out, H1.out, H2.out, Z.out, rfl⟩
      case rest =>
        obtain ⟨lo, hi, cl, ch, rfl, rfl, hl, hh, h1, h2, hle, rfl⟩ := hcut
        have b1 := h1.1
        have b2 := h2.2.1
        have HL : Hid (nanW lo = false) := hl
        have HH : Hid (nanW hi = false) := hh
        have H1 : Hid (Cls lo cl) := h1
        have H2 : Hid (Cls hi ch) := h2
        clear na nb HA HB hl hh h1 h2
        go_wp2_with fail
        go_loop [7, 8] (fun x c => ∃ n : Nat, n ≤ 19 ∧ c = .int .i64 ((n : Int) + 1) ∧ x = .int .i64 (cnt cl ch n : Int)) (fun _ c => (20 - intOf c).toNat)
        case atStart => exact ⟨0, by omega, rfl, by rw [cnt_zero b1]; rfl⟩
        case round =>
          obtain ⟨n, hn, rfl, rfl⟩ := hrel
          have cb := cnt_le (cl := cl) (n := n) b2
          by_cases hlt : n < 19
          · obtain ⟨c1, c2⟩ := crossed_at HL.out HH.out H1.out H2.out n hlt
            by_cases hx : cl ≤ n + 1
            · have z1 : (FloatKind.f64.format.order lo (thr n) == some .lt || FloatKind.f64.format.order lo (thr n) == some .eq) = true := by
                have : fle lo (thr n) = true := by rw [c1]; simp [hx]
                exact this
              by_cases hy : n + 1 < ch
              · have z2 : (FloatKind.f64.format.order (thr n) hi == some .lt) = true := by
                  have : flt (thr n) hi = true := by rw [c2]; simp [hy]
                  exact this
                have HC : Hid ((cnt cl ch (n + 1) : Int) = cnt cl ch n + 1) := cnt_hit hx hy
                clear c1 c2
                go_wp2_with fail
                refine (thr8 n (by omega) w).mono ?_
                rintro d w1 ⟨rfl, rfl⟩
                go_wp2_with fail
                go_round
                case rel => exact ⟨n + 1, by omega, by go_num, by rw [HC.out]⟩
                case measure => simp [intOf]; omega
              · have z2 : (FloatKind.f64.format.order (thr n) hi == some .lt) = false := by
                  have : flt (thr n) hi = false := by rw [c2]; simp [hy]
                  exact this
                have HC : Hid (cnt cl ch (n + 1) = cnt cl ch n) := cnt_miss hle (by omega)
                clear c1 c2
                go_wp2_with fail
                refine (thr8 n (by omega) w).mono ?_
                rintro d w1 ⟨rfl, rfl⟩
                go_wp2_with fail
                go_round
                case rel => exact ⟨n + 1, by omega, by go_num, by rw [HC.out]⟩
                case measure => simp [intOf]; omega
            · have z1 : (FloatKind.f64.format.order lo (thr n) == some .lt || FloatKind.f64.format.order lo (thr n) == some .eq) = false := by
                have : fle lo (thr n) = false := by rw [c1]; simp [hx]
                exact this
              have HC : Hid (cnt cl ch (n + 1) = cnt cl ch n) := cnt_miss hle (by omega)
              clear c1 c2
              go_wp2_with fail
              refine (thr8 n (by omega) w).mono ?_
              rintro d w1 ⟨rfl, rfl⟩
              go_wp2_with fail
              go_round
              case rel => exact ⟨n + 1, by omega, by go_num, by rw [HC.out]⟩
              case measure => simp [intOf]; omega
          · obtain rfl : n = 19 := by omega
            rw [cnt_end hle b2]
            clear cb
            have b3 := H1.out.2.1
            have b4 := H2.out.1
            go_wp2_with fail
            refine (class18 lo w).mono ?_
            rintro d w1 ⟨⟨r1, hr1, rfl⟩, rfl⟩
            obtain rfl : cl = r1 := cls_unique H1.out hr1
            clear hr1
            go_wp2_with fail
            refine (class18 hi w).mono ?_
            rintro d w1 ⟨⟨r2, hr2, rfl⟩, rfl⟩
            obtain rfl : ch = r2 := cls_unique H2.out hr2
            clear hr2 H1 H2 HL HH
            go_wp2_with fail
            go_ret
            exact ⟨by simp, rfl⟩
end Go.Proofs.Qxb6608524a
