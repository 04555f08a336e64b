/-
  The contracts of sort.SearchInts, its closure, sort.Search, 'holds' and 'ZZholds'.
-/
import Derived.Test.Qxb6605724aCopy
import Derived.Deep.QuietTactic
import Derived.BigQuiet
namespace Go.Proofs.Qxb6605724a
open Go.RowKit

set_option maxHeartbeats 400000 in
theorem cl24 (i Ba Bx b off n c : Nat) (z x : Int) (w : World) (hi : i < n)
    (ha : w.cell? ⟨Ba, 0, none⟩ = some (.slice (some ⟨b, off, none⟩) n c)) (hx : w.cell? ⟨Bx, 0, none⟩ = some (.int .i64 x)) (hc : w.cell? ⟨b, off + i, none⟩ = some (.int .i64 z)) :
    Calls Try.prog 24 #[.int .i64 (i : Int), .pointer (some ⟨Ba, 0, none⟩), .pointer (some ⟨Bx, 0, none⟩)] w fun e w' => e = .returned (.bool (decide (x ≤ z))) ∧ ∃ m, w' = w.drewN m := by
  have hi' : (i : Int) < (n : Int) := by omega
  have hi0 : (0 : Int) ≤ (i : Int) := by omega
  go_enter Try.func24, Try.ntmps24
  go_wp2
  go_quiet (fail)
  go_wp2
  go_ret
  exact ⟨rfl, _, rfl⟩

/-- Where a search stands: all that is known below lo is the neighbour below, of hi and above the value at hi. -/
def Lo (Z : Nat → Int) (x : Int) (i : Nat) : Prop := ∀ k, i = k + 1 → Z k < x
def Hi (Z : Nat → Int) (x : Int) (n j : Nat) : Prop := j < n → x ≤ Z j

theorem Lo.next {Z : Nat → Int} {x : Int} {h : Nat} (hz : Z h < x) : Lo Z x (h + 1) := by
  intro k hk
  obtain rfl : h = k := by omega
  exact hz

set_option maxHeartbeats 1000000 in
theorem search23 (Ba Bx n c : Nat) (a : Option Addr) (Z : Nat → Int) (x : Int) (w : World) (hn : n ≤ 65536) (ha : w.cell? ⟨Ba, 0, none⟩ = some (.slice a n c)) (hx : w.cell? ⟨Bx, 0, none⟩ = some (.int .i64 x)) (hr : IntRow w a n Z) :
    Calls Try.prog 23 #[.int .i64 (n : Int), .func (.func 24) #[] #[.pointer (some ⟨Ba, 0, none⟩), .pointer (some ⟨Bx, 0, none⟩)]] w
      fun e w' => (∃ r : Nat, r ≤ n ∧ Lo Z x r ∧ Hi Z x n r ∧ e = .returned (.int .i64 (r : Int))) ∧ ∃ m, w' = w.drewN m := by
  go_enter Try.func23, Try.ntmps23
  go_wp2
  go_loopw [5, 6] (fun i j wr => ∃ p q : Nat, p ≤ q ∧ q ≤ n ∧ i = .int .i64 (p : Int) ∧ j = .int .i64 (q : Int) ∧ Lo Z x p ∧ Hi Z x n q ∧ ∃ m, wr = w.drewN m) (fun i j _ => (intOf j - intOf i).toNat)
  case atStart => exact ⟨0, n, Nat.zero_le _, Nat.le_refl _, rfl, rfl, fun k h => by omega, fun h => by omega, 0, rfl⟩
  case round =>
    obtain ⟨p, q, hpq, hqn, rfl, rfl, hlo, hhi, m, rfl⟩ := hrel
    by_cases hlt : p < q
    · have HL : Hid (Lo Z x p) := hlo
      have HH : Hid (Hi Z x n q) := hhi
      rcases hr with h0 | ⟨b, off, rfl, hc⟩
      · omega
      have hcm := hc ((p + q) / 2) (by omega)
      clear hlo hhi hc
      go_wp2_with fail
      have eh : ((p : Int) + (q : Int)) / 2 = (((p + q) / 2 : Nat) : Int) := by omega
      rw [eh]
      clear eh
      obtain ⟨h, hh⟩ : ∃ h, h = (p + q) / 2 := ⟨_, rfl⟩
      have l1 : p ≤ h := by omega
      have l2 : h < q := by omega
      rw [← hh] at hcm ⊢
      clear hh
      refine (cl24 h Ba Bx b off n c (Z h) x (w.drewN m) (by omega) ha hx hcm).mono ?_
      rintro e w' ⟨rfl, m', rfl⟩
      by_cases hz : x ≤ Z h
      · rw [decide_eq_true hz]
        go_wp2_with fail
        go_roundw
        case rel => exact ⟨p, h, l1, by omega, rfl, rfl, HL.out, fun _ => hz, _, rfl⟩
        case measure => simp [intOf]; omega
      · rw [decide_eq_false hz]
        go_wp2_with fail
        go_roundw
        case rel => exact ⟨h + 1, q, by omega, by omega, by go_num, rfl, Lo.next (by omega), HH.out, _, rfl⟩
        case measure => simp [intOf]; omega
    · obtain rfl : p = q := by omega
      go_wp2_with fail
      go_ret
      exact ⟨⟨p, hqn, hlo, hhi, rfl⟩, _, rfl⟩

theorem below_draws {B : Nat} {w w' : World} (h : Below B w w') (m : Nat) : Below B w (w'.drewN m) := ⟨h.os, h.tape, h.output, h.size, h.block⟩

set_option maxHeartbeats 1000000 in
theorem ints22 (n c : Nat) (a : Option Addr) (Z : Nat → Int) (x : Int) (w : World) (hn : n ≤ 65536) (hr : IntRow w a n Z) :
    Calls Try.prog 22 #[.slice a n c, .int .i64 x] w
      fun e w' => (∃ r : Nat, r ≤ n ∧ Lo Z x r ∧ Hi Z x n r ∧ e = .returned (.int .i64 (r : Int))) ∧ Below w.heap.size w w' := by
  go_enter Try.func22, Try.ntmps22
  go_wp2_with fail
  have hb : Below w.heap.size w ((w.alloc (.cells #[.slice a n c] 35)).alloc (.cells #[.int .i64 x] 3)) := ((Below.refl _ _).alloc (Nat.le_refl _) _).alloc (by simp) _
  refine (search23 w.heap.size (w.heap.size + 1) n c a Z x _ hn ?_ ?_ (hr.later hb)).mono ?_
  · rw [World.cell?_alloc_past _ _ _ (by simp), World.cell?_alloc_at _ _ _ _ rfl]; rfl
  · rw [World.cell?_alloc_at _ _ _ _ (by simp)]; rfl
  rintro e w' ⟨⟨r, hr1, hr2, hr3, rfl⟩, m, rfl⟩
  go_wp2_with fail
  go_ret
  exact ⟨⟨r, hr1, hr2, hr3, rfl⟩, below_draws hb m⟩

/-- Is x among the first n values? -/
def has (Z : Nat → Int) (n : Nat) (x : Int) : Bool := (List.range n).any fun j => Z j == x
theorem has_true {Z : Nat → Int} {n : Nat} {x : Int} : has Z n x = true ↔ ∃ j, j < n ∧ Z j = x := by simp [has]
theorem has_false {Z : Nat → Int} {n : Nat} {x : Int} : has Z n x = false ↔ ∀ j, j < n → Z j ≠ x := by simp [has]
theorem has_zero (Z : Nat → Int) (x : Int) : has Z 0 x = false := rfl
theorem has_succ (Z : Nat → Int) (n : Nat) (x : Int) : has Z (n + 1) x = (has Z n x || Z n == x) := by simp [has, List.range_succ]

def Sorted (Z : Nat → Int) (n : Nat) : Prop := ∀ j k, j ≤ k → k < n → Z j ≤ Z k

theorem has_search {Z : Nat → Int} {n r : Nat} {x : Int} (hs : Sorted Z n) (h1 : Lo Z x r) (h2 : Hi Z x n r) (h : r < n) : has Z n x = (Z r == x) := by
  by_cases e : Z r = x
  · rw [has_true.2 ⟨r, h, e⟩]; simp [e]
  · have h0 : (Z r == x) = false := by simp [e]
    rw [h0, has_false]
    intro j hj ej
    have hr := h2 h
    by_cases hjr : r ≤ j
    · have := hs r j hjr hj; omega
    · have hl := h1 (r - 1) (by omega)
      have := hs j (r - 1) (by omega) (by omega)
      omega
theorem has_search_end {Z : Nat → Int} {n : Nat} {x : Int} (hs : Sorted Z n) (h1 : Lo Z x n) : has Z n x = false := by
  rw [has_false]
  intro j hj ej
  have hl := h1 (n - 1) (by omega)
  have := hs j (n - 1) (by omega) (by omega)
  omega

set_option maxHeartbeats 1000000 in
theorem holds16 (n c : Nat) (a : Option Addr) (Z : Nat → Int) (x : Int) (w : World) (hn : n ≤ 65536) (hr : IntRow w a n Z) (hs : Sorted Z n) :
    Calls Try.prog 16 #[.slice a n c, .int .i64 x] w fun e w' => e = .returned (.bool (has Z n x)) ∧ Below w.heap.size w w' := by
  have HS : Hid (Sorted Z n) := hs
  clear hs
  go_enter Try.func16, Try.ntmps16
  go_wp2_with (go_at_call 20; go_in)
  refine (ints22 n c a Z x w hn hr).mono ?_
  rintro e w' ⟨⟨r, h1, h2, h3, rfl⟩, hb⟩
  by_cases hlt : r < n
  · have eh := has_search HS.out h2 h3 hlt
    rcases hr.later hb with h0 | ⟨b, off, rfl, hc⟩
    · omega
    have hcr := hc r hlt
    have EH : Hid (has Z n x = (Z r == x)) := eh
    clear eh h2 h3 hc
    go_wp2_with fail
    go_ret
    exact ⟨by rw [EH.out]; rfl, hb⟩
  · obtain rfl : r = n := by omega
    have EH : Hid (has Z r x = false) := has_search_end HS.out h2
    clear h2 h3
    go_wp2_with fail
    go_ret
    exact ⟨by rw [EH.out]; rfl, hb⟩

end Go.Proofs.Qxb6605724a
