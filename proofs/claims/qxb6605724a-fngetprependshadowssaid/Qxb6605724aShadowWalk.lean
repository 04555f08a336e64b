/-
  The walk of 'FnGetPrependShadows'.
-/
import Derived.Test.Qxb6605724aShadow
namespace Go.Proofs.Qxb6605724a
open Go.RowKit

set_option maxRecDepth 100000 in
set_option maxHeartbeats 2000000 in
theorem shadow4 (a0 a1 : Option Addr) (n0 c0 n1 c1 : Nat) (s o : ByteArray) (v : Int) (S : Nat → ByteArray) (Z : Nat → Int) (w : World) (h0 : StrRow w a0 n0 S) (h1 : IntRow w a1 n1 Z)
    (m0 : n0 ≤ 9223372036854775807) (m1 : n1 ≤ 9223372036854775807) (ms : s.size ≤ 9223372036854775807) (mo : o.size ≤ 9223372036854775807) :
    Calls Try.prog 4 #[.slice a0 n0 c0, .slice a1 n1 c1, .string s, .string o, .int .i64 v] w fun e w' => e = .returned (.bool true) ∧ Below w.heap.size w w' := by
  have hnq := fun (w : World) (n c : Nat) (a : Option Addr) => run_neq_slice_nil_any (P := Try.prog) w 22 9 a n c 0 0 Try.underlying22
  have hnr := fun (w : World) (n c : Nat) (a : Option Addr) => run_neq_slice_nil_any (P := Try.prog) w 23 2 a n c 0 0 Try.underlying23
  go_enter Try.func4, Try.ntmps4
  go_upto_if 48 with (go_at_call 10; refine (bytes10 a0 a1 n0 c0 n1 c1 s o v S w h0 m0 m1 ms mo).mono ?_; rintro e w1 ⟨⟨bb, rfl⟩, rfl⟩; cases bb)
  iterate 5 (go_ret; exact ⟨rfl, Below.refl _ _⟩)
  have l0 : n0 ≤ 65536 := Int.ofNat_le.mp (by assumption)
  have l1 : n1 ≤ 65536 := Int.ofNat_le.mp (by assumption)
  obtain ⟨cur0, hcur0, hmk0⟩ := make_row Try.underlying22 Try.info9 rfl n0 (by omega) m0
  obtain ⟨cur1, hcur1, hmk1⟩ := make_row Try.underlying23 Try.info2 rfl n1 (by omega) m1
  have HC0 : Hid (cur0.length = n0) := hcur0
  have HC1 : Hid (cur1.length = n1) := hcur1
  clear hcur0 hcur1
  go_cut [0] (fun v wc => ∃ a c, v = .slice a n0 c ∧ StrRow wc a n0 S ∧ Below w.heap.size w wc)
  case first =>
    cases a0 with
    | none =>
      go_wp2_with fail
      go_meet
      case rel => exact ⟨_, _, rfl, h0, Below.refl _ _⟩
    | some ad =>
      obtain ⟨w2, hcp, hg2, hb2, hz2⟩ := copy_made Try.underlying22 Try.size9 w cur0 (strCells S n0) (some ad) n0 c0 HC0.out (strCells_length S n0) (strCells_one S n0) (StrRow.src h0 ((Below.refl _ _).alloc (Nat.le_refl _) _))
      have hr2 := StrRow.made hg2
      clear hg2 hz2
      go_wp2_with fail
      go_meet
      case rel => exact ⟨_, _, rfl, hr2, hb2⟩
  case rest =>
    obtain ⟨a0', c0', rfl, hrow, hbel⟩ := hcut
    clear h0 hmk0 HC0 hnq
    have h1c := h1.later hbel
    go_upto_if 57 with fail
    go_cut [1] (fun v wd => ∃ a c, v = .slice a n1 c ∧ IntRow wd a n1 Z ∧ Below wc.heap.size wc wd)
    case first =>
      cases a1 with
      | none =>
        go_wp2_with fail
        go_meet
        case rel => exact ⟨_, _, rfl, h1c, Below.refl _ _⟩
      | some ad =>
        obtain ⟨w2, hcp, hg2, hb2, hz2⟩ := copy_made Try.underlying23 Try.size2 wc cur1 (intCells Z n1) (some ad) n1 c1 HC1.out (intCells_length Z n1) (intCells_one Z n1) (IntRow.src h1c ((Below.refl _ _).alloc (Nat.le_refl _) _))
        have hr2 := IntRow.made hg2
        clear hg2 hz2
        go_wp2_with fail
        go_meet
        case rel => exact ⟨_, _, rfl, hr2, hb2⟩
    case rest =>
      obtain ⟨a1', c1', rfl, hrow1, hbel1⟩ := hcut
      have hr0 := hrow.later hbel1
      have hbw := hbel.trans (hbel1.mono hbel.size)
      clear hrow hbel hbel1 h1 h1c hmk1 HC1 hnr
      go_wp2_with fail
      go_loop [13, 14] (fun z i => ∃ k : Nat, k ≤ n0 ∧ i = .int .i64 k ∧ ∃ t : Int, z = .int .i64 t) (fun _ i => n0 - (intOf i).toNat)
      case atStart => exact ⟨0, Nat.zero_le _, rfl, _, rfl⟩
      case round =>
        obtain ⟨k, hk, rfl, t, rfl⟩ := hrel
        by_cases hlt : k < n0
        · rcases hr0 with hr0 | ⟨b0, off0, rfl, hc0⟩
          · omega
          have g0 := hc0 k hlt
          go_wp2_with fail
          · go_ret; exact ⟨rfl, hbw⟩
          · go_round
            case rel => exact ⟨k + 1, by omega, by go_num, _, rfl⟩
            case measure => simp [intOf]; omega
        · obtain ⟨C2, hC2, hmk2⟩ := make_zero Try.underlying22 Try.info9 rfl (n0 + 1) (by omega) (by omega)
          have hC20 := hC2 0 (by omega)
          have HC2 : Hid (∀ j, j < n0 + 1 → C2[j]? = some (.string ByteArray.empty)) := hC2
          have en0 : ((n0 + 1 : Nat) : Int) = (n0 : Int) + 1 := by omega
          rw [en0] at hmk2
          clear hC2 en0
          go_wp2_with fail
          · go_ret; exact ⟨rfl, hbw⟩
          · go_loopw [16] (fun i wr => ∃ k : Nat, k ≤ n0 ∧ i = .int .i64 k ∧ Fill (fun j => .string (pre s S j)) (n0 + 1) (k + 1) wc.heap.size wr ∧ Below wc.heap.size wc wr ∧ wc.heap.size < wr.heap.size) (fun i _ => n0 - (intOf i).toNat)
            case atStart => exact ⟨0, Nat.zero_le _, rfl, Fill.start1 HC2.out rfl, (Below.refl _ _).alloc (Nat.le_refl _) _, by simp⟩
            case round =>
              clear hmk2 hC20 HC2 C2
              obtain ⟨k, hk, rfl, hF, hbe, hsz⟩ := hrel
              by_cases hlt : k < n0
              · rcases hr0 with hr0 | ⟨b0, off0, rfl, hc0⟩
                · omega
                have g0 := (hbe.cell (p := ⟨b0, off0 + k, none⟩) (lt_of_cell (hc0 k hlt))).trans (hc0 k hlt)
                obtain ⟨_, ⟨u, hu⟩, hfr⟩ := hF (k + 1) (by omega)
                have HF : Hid (Fill (fun j => .string (pre s S j)) (n0 + 1) (k + 1) wc.heap.size wr) := hF
                clear hF hc0
                go_wp2_with fail
                go_roundw
                case rel => exact ⟨k + 1, by omega, by go_num, Fill.next HF.out (by omega), hbe.setCell (Nat.le_refl _) _, by simpa using hsz⟩
                case measure => simp [intOf]; omega
              · obtain rfl : k = n0 := by omega
                obtain ⟨wo, rfl⟩ : ∃ wo : World, wo = wr := ⟨_, rfl⟩
                obtain ⟨C3, hC3, hmk3⟩ := make_zero Try.underlying23 Try.info2 rfl (n1 + 1) (by omega) (by omega)
                have hC30 := hC3 0 (by omega)
                have HC3 : Hid (∀ j, j < n1 + 1 → C3[j]? = some (.int .i64 0)) := hC3
                have en1 : ((n1 + 1 : Nat) : Int) = (n1 : Int) + 1 := by omega
                rw [en1] at hmk3
                have HF : Hid (Fill (fun j => .string (pre s S j)) (k + 1) (k + 1) wc.heap.size wo) := hF
                clear hC3 en1 hF
                go_wp2_with fail
                go_loopw [18] (fun i wr => ∃ k : Nat, k ≤ n1 ∧ i = .int .i64 k ∧ Fill (fun j => .int .i64 (pre v Z j)) (n1 + 1) (k + 1) wo.heap.size wr ∧ Below wo.heap.size wo wr ∧ wo.heap.size < wr.heap.size) (fun i _ => n1 - (intOf i).toNat)
                case atStart => exact ⟨0, Nat.zero_le _, rfl, Fill.start1 HC3.out rfl, (Below.refl _ _).alloc (Nat.le_refl _) _, by simp⟩
                case round =>
                  clear hmk3 hC30 HC3 C3
                  obtain ⟨q, hq, rfl, hG, hbg, hsg⟩ := hrel
                  have hbx := hbe.trans (hbg.mono hbe.size)
                  by_cases hlt : q < n1
                  · rcases hrow1 with hrow1 | ⟨b1, off1, rfl, hc1⟩
                    · omega
                    have g0 := (hbx.cell (p := ⟨b1, off1 + q, none⟩) (lt_of_cell (hc1 q hlt))).trans (hc1 q hlt)
                    obtain ⟨_, ⟨u, hu⟩, hfr⟩ := hG (q + 1) (by omega)
                    have HG : Hid (Fill (fun j => .int .i64 (pre v Z j)) (n1 + 1) (q + 1) wo.heap.size wr) := hG
                    clear hG hc1
                    go_wp2_with fail
                    go_roundw
                    case rel => exact ⟨q + 1, by omega, by go_num, Fill.next HG.out (by omega), hbg.setCell (Nat.le_refl _) _, by simpa using hsg⟩
                    case measure => simp [intOf]; omega
                  · obtain rfl : q = n1 := by omega
                    have r2 := Fill.strs (HF.out.other (hbg.block wc.heap.size hsz))
                    have i2 := Fill.ints hG
                    have r1 := hr0.later hbx
                    have i1 := hrow1.later hbx
                    have hbw2 := hbw.trans (hbx.mono hbw.size)
                    clear hbw hbx hbe hbg HF hG hr0 hrow1 hsz hsg
                    go_wp2_with fail
                    refine (getInt9 _ _ (k + 1) (k + 1) (q + 1) (q + 1) s (pre s S) (pre v Z) wr r2 i2 (by omega)).mono ?_
                    rintro e w5 ⟨hsays, hb5⟩
                    have hbw3 := hbw2.trans (hb5.mono hbw2.size)
                    obtain rfl := hsays.front
                    have r1' := r1.later hb5
                    have i1' := i1.later hb5
                    have r2' := r2.later hb5
                    have i2' := i2.later hb5
                    clear hsays hb5 hbw2 r1 i1 r2 i2
                    go_wp2_with fail
                    · go_ret
                      exact ⟨rfl, hbw3⟩
                    · have hne : s ≠ o := fun e => str_ne (by assumption) e.symm
                      have HNE : Hid (s ≠ o) := hne
                      clear hne
                      refine (getInt9 a0' a1' k c0' q c1' o S Z w5 r1' i1' (by omega)).mono ?_
                      rintro e w6 ⟨hsays, hb6⟩
                      have hbw4 := hbw3.trans (hb6.mono hbw3.size)
                      have r2'' := r2'.later hb6
                      have i2'' := i2'.later hb6
                      obtain ⟨g, i, f, rfl⟩ := hsays.form
                      have HS : Hid (IntSays S Z k q o (.returned (.tuple #[.int .i64 g, .bool i, .bool f]))) := hsays
                      clear hsays hb6 hbw3 r1' i1' r2' i2'
                      go_wp2_with fail
                      refine (getInt9 _ _ (k + 1) (k + 1) (q + 1) (q + 1) o (pre s S) (pre v Z) w6 r2'' i2'' (by omega)).mono ?_
                      rintro e w7 ⟨hsays, hb7⟩
                      have hbw5 := hbw4.trans (hb7.mono hbw4.size)
                      obtain rfl := IntSays.same HNE.out HS.out hsays
                      clear hsays hb7 hbw4 r2'' i2'' HS HNE
                      go_wp2_with fail
                      go_ret
                      exact ⟨by simp, hbw5⟩
end Go.Proofs.Qxb6605724a
