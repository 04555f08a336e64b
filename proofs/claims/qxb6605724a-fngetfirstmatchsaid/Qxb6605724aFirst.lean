/-
  The walk of 'FnGetFirstMatch'.
-/
import Derived.Test.Qxb6605724aCopy
namespace Go.Proofs.Qxb6605724a
open Go.RowKit

/-- What the backward scan has found when the places from m on have been looked at. -/
def Seen (S : Nat → ByteArray) (s : ByteArray) (n m : Nat) (f : Int) : Prop :=
  (f = -1 ∧ ∀ j, m ≤ j → j < n → S j ≠ s) ∨ ∃ i : Nat, f = i ∧ m ≤ i ∧ i < n ∧ S i = s ∧ ∀ j, m ≤ j → j < i → S j ≠ s

theorem Seen.start (S : Nat → ByteArray) (s : ByteArray) (n : Nat) : Seen S s n n (-1) := .inl ⟨rfl, fun j h1 h2 => by omega⟩
theorem Seen.hit {S : Nat → ByteArray} {s : ByteArray} {n m : Nat} (hm : m < n) (h : ((S m).toList == s.toList) = true) : Seen S s n m m :=
  .inr ⟨m, rfl, Nat.le_refl _, hm, str_eq h, fun j h1 h2 => by omega⟩
theorem Seen.miss {S : Nat → ByteArray} {s : ByteArray} {n m : Nat} {f : Int} (hs : Seen S s n (m + 1) f) (h : ((S m).toList == s.toList) = false) : Seen S s n m f := by
  have hm := str_ne h
  have key : ∀ j, m ≤ j → (m + 1 ≤ j → S j ≠ s) → S j ≠ s := by
    intro j hj k
    by_cases e : j = m
    · subst e; exact hm
    · exact k (by omega)
  rcases hs with ⟨rfl, hno⟩ | ⟨i, rfl, h1, h2, h3, hno⟩
  · exact .inl ⟨rfl, fun j a b => key j a (fun c => hno j c b)⟩
  · exact .inr ⟨i, rfl, by omega, h2, h3, fun j a b => key j a (fun c => hno j c b)⟩

set_option maxRecDepth 100000 in
set_option maxHeartbeats 1000000 in
theorem first3 (a0 a1 : Option Addr) (n0 c0 n1 c1 : Nat) (s : ByteArray) (S : Nat → ByteArray) (Z : Nat → Int) (w : World) (h0 : StrRow w a0 n0 S) (h1 : IntRow w a1 n1 Z)
    (z0 : a0 = none → n0 = 0) (z1 : a1 = none → n1 = 0) (m0 : n0 ≤ 9223372036854775807) (m1 : n1 ≤ 9223372036854775807) (ms : s.size ≤ 9223372036854775807) :
    Calls Try.prog 3 #[.slice a0 n0 c0, .slice a1 n1 c1, .string s] w fun e w' => e = .returned (.bool true) ∧ Below w.heap.size w w' := by
  have hnq := fun (w : World) (n c : Nat) (a : Option Addr) => run_neq_slice_nil_any (P := Try.prog) w 22 9 a n c 0 0 Try.underlying22
  have hnr := fun (w : World) (n c : Nat) (a : Option Addr) => run_neq_slice_nil_any (P := Try.prog) w 23 2 a n c 0 0 Try.underlying23
  have Z0 : Hid (a0 = none → n0 = 0) := z0
  have Z1 : Hid (a1 = none → n1 = 0) := z1
  clear z0 z1
  go_enter Try.func3, Try.ntmps3
  go_upto_if 31 with (go_at_call 8; refine (bytes8 a0 a1 n0 c0 n1 c1 s S w h0 m0 m1 ms).mono ?_; rintro e w1 ⟨⟨bb, rfl⟩, rfl⟩; cases bb)
  iterate 4 (go_ret; exact ⟨rfl, Below.refl _ _⟩)
  have l0 : n0 ≤ 65536 := Int.ofNat_le.mp (by assumption)
  have l1 : n1 ≤ 65536 := Int.ofNat_le.mp (by assumption)
  obtain ⟨cur0, hcur0, hmk0⟩ := make_row Try.underlying22 Try.info9 rfl n0 (by omega) m0
  obtain ⟨cur1, hcur1, hmk1⟩ := make_row Try.underlying23 Try.info2 rfl n1 (by omega) m1
  have HC0 : Hid (cur0.length = n0) := hcur0
  have HC1 : Hid (cur1.length = n1) := hcur1
  clear hcur0 hcur1
  go_cut [0] (fun v wc => ∃ a c, v = .slice a n0 c ∧ StrRow wc a n0 S ∧ Below w.heap.size w wc)
  case first =>
    cases a0 with
    | none =>
      go_wp2_with fail
      go_meet
      case rel => exact ⟨_, _, rfl, h0, Below.refl _ _⟩
    | some ad =>
      obtain ⟨w2, hcp, hg2, hb2, hz2⟩ := copy_made Try.underlying22 Try.size9 w cur0 (strCells S n0) (some ad) n0 c0 HC0.out (strCells_length S n0) (strCells_one S n0) (StrRow.src h0 ((Below.refl _ _).alloc (Nat.le_refl _) _))
      have hr2 := StrRow.made hg2
      clear hg2 hz2
      go_wp2_with fail
      go_meet
      case rel => exact ⟨_, _, rfl, hr2, hb2⟩
  case rest =>
    obtain ⟨a0', c0', rfl, hrow, hbel⟩ := hcut
    clear h0 Z0 hmk0 HC0 hnq
    have h1c := h1.later hbel
    go_upto_if 40 with fail
    go_cut [1] (fun v wd => ∃ a c, v = .slice a n1 c ∧ IntRow wd a n1 Z ∧ Below wc.heap.size wc wd)
    case first =>
      cases a1 with
      | none =>
        go_wp2_with fail
        go_meet
        case rel => exact ⟨_, _, rfl, h1c, Below.refl _ _⟩
      | some ad =>
        obtain ⟨w2, hcp, hg2, hb2, hz2⟩ := copy_made Try.underlying23 Try.size2 wc cur1 (intCells Z n1) (some ad) n1 c1 HC1.out (intCells_length Z n1) (intCells_one Z n1) (IntRow.src h1c ((Below.refl _ _).alloc (Nat.le_refl _) _))
        have hr2 := IntRow.made hg2
        clear hg2 hz2
        go_wp2_with fail
        go_meet
        case rel => exact ⟨_, _, rfl, hr2, hb2⟩
    case rest =>
      obtain ⟨a1', c1', rfl, hrow1, hbel1⟩ := hcut
      have hr0 := hrow.later hbel1
      have hbw := hbel.trans (hbel1.mono hbel.size)
      clear hrow hbel hbel1 h1 h1c Z1 hmk1 HC1 hnr
      go_wp2_with fail
      go_loop [9, 10] (fun z i => ∃ k : Nat, k ≤ n0 ∧ i = .int .i64 k ∧ ∃ t : Int, z = .int .i64 t) (fun _ i => n0 - (intOf i).toNat)
      case atStart => exact ⟨0, Nat.zero_le _, rfl, _, rfl⟩
      case round =>
        obtain ⟨k, hk, rfl, t, rfl⟩ := hrel
        by_cases hlt : k < n0
        · rcases hr0 with hr0 | ⟨b0, off0, rfl, hc0⟩
          · omega
          have g0 := hc0 k hlt
          go_wp2_with fail
          · go_ret; exact ⟨rfl, hbw⟩
          · go_round
            case rel => exact ⟨k + 1, by omega, by go_num, _, rfl⟩
            case measure => simp [intOf]; omega
        · go_wp2_with fail
          · go_ret; exact ⟨rfl, hbw⟩
          · go_loop [11, 12] (fun f i => ∃ m : Nat, m ≤ n0 ∧ i = .int .i64 ((m : Int) - 1) ∧ ∃ q : Int, f = .int .i64 q ∧ Seen S s n0 m q) (fun _ i => ((intOf i) + 1).toNat)
            case atStart => exact ⟨n0, Nat.le_refl _, rfl, _, rfl, Seen.start S s n0⟩
            case round =>
              obtain ⟨m, hm, rfl, q, rfl, hseen⟩ := hrel
              by_cases hpos : 0 < m
              · obtain ⟨m', rfl⟩ : ∃ m', m = m' + 1 := ⟨m - 1, by omega⟩
                rcases hr0 with hr0 | ⟨b0, off0, rfl, hc0⟩
                · omega
                have g0 := hc0 m' (by omega)
                have em : ((m' + 1 : Nat) : Int) - 1 = (m' : Int) := by omega
                rw [em]
                have HQ : Hid (Seen S s n0 (m' + 1) q) := hseen
                clear hseen em
                go_wp2_with fail
                · go_round
                  case rel => exact ⟨m', by omega, by go_num, _, rfl, Seen.hit (by omega) (by assumption)⟩
                  case measure => simp [intOf]
                · go_round
                  case rel => exact ⟨m', by omega, by go_num, _, rfl, Seen.miss HQ.out (by assumption)⟩
                  case measure => simp [intOf]
              · have hm0 : m = 0 := by omega
                subst hm0
                go_wp2_with fail
                refine (getInt9 a0' a1' n0 c0' n1 c1' s S Z wc hr0 hrow1 (by omega)).mono ?_
                rintro e w1 ⟨hsays, hb1⟩
                have hbf := hbw.trans (hb1.mono hbw.size)
                have hrow2 := hrow1.later hb1
                clear hbw hb1 hrow1 hr0
                rcases hseen with ⟨rfl, hno⟩ | ⟨i, rfl, _, hi, hSi, hno⟩
                · rcases hsays with ⟨j, hj, hSj, _, _⟩ | ⟨_, rfl⟩
                  · exact absurd hSj (hno j (Nat.zero_le _) hj)
                  clear hno
                  go_wp2_with fail
                  go_ret
                  exact ⟨rfl, hbf⟩
                · rcases hsays with ⟨j, hj, hSj, hnoj, he⟩ | ⟨hnone, _⟩
                  · obtain rfl : i = j := by
                      rcases Nat.lt_trichotomy i j with h | h | h
                      · exact absurd hSi (hnoj i h)
                      · exact h
                      · exact absurd hSj (hno j (Nat.zero_le _) h)
                    clear hno hnoj hSj hSi
                    by_cases hl : i < n1
                    · rw [if_pos hl, decide_eq_true hl] at he
                      subst he
                      rcases hrow2 with hrow2 | ⟨b1, off1, rfl, hc1⟩
                      · omega
                      have g1 := hc1 i hl
                      clear hc1
                      go_wp2_with fail
                      go_ret
                      exact ⟨rfl, hbf⟩
                    · rw [if_neg hl, decide_eq_false hl] at he
                      subst he
                      go_wp2_with fail
                      go_ret
                      exact ⟨rfl, hbf⟩
                  · exact absurd hSi (hnone i hi)
end Go.Proofs.Qxb6605724a
