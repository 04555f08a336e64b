/-
  The plain laws of the two statements: no Go in sight but the model's own comparison of float64s.
-/
import Derived.Test.Qxb6608524aClass
import Derived.Test.Qxb6608524aOrder
namespace Go.Proofs.Qxb6608524a
open Ieee

theorem flt_eq (x y : Nat) : flt x y = (double.order x y == some .lt) := rfl
theorem flt_nan {x y : Nat} (h : nanW x = true ∨ nanW y = true) : flt x y = false := by rw [flt_eq, order_nan x y h]; rfl
theorem flt_key {T : Nat} (h0 : 0 < T) (hT : Above T) {x y : Nat} (hx : nanW x = false) (hy : nanW y = false) : flt x y = decide (key T x < key T y) := lt_key h0 hT hx hy

theorem thr_range (k : Nat) (hk : k ≤ 18) : 2 ^ 52 ≤ thr k ∧ thr k < 2046 * 2 ^ 52 := by unfold thr; omega
theorem thr_nan (k : Nat) (hk : k ≤ 18) : nanW (thr k) = false := by
  have := thr_range k hk
  exact (key_norm 0 (thr k) this.1 (by omega)).2.1
theorem thr_next (T k : Nat) (hk : k ≤ 17) : key T (thr (k + 1)) = 2 * key T (thr k) := by
  have h := thr_range k (by omega)
  rw [← key_up T (thr k) h.1 h.2]
  congr 1
  unfold thr; omega
theorem thr_pos (T k : Nat) (hk : k ≤ 18) : 2 ^ 52 ≤ key T (thr k) := by
  have h := thr_range k hk
  rw [(key_norm T (thr k) h.1 (by omega)).1]
  have hp : (1 : Int) ≤ 2 ^ (thr k / 2 ^ 52 - 1) := Int.pow_pos (by decide)
  have h1 : (2 ^ 52 : Int) ≤ ((2 ^ 52 + thr k % 2 ^ 52 : Nat) : Int) := by omega
  have h2 : ((2 ^ 52 + thr k % 2 ^ 52 : Nat) : Int) * 1 ≤ ((2 ^ 52 + thr k % 2 ^ 52 : Nat) : Int) * 2 ^ (thr k / 2 ^ 52 - 1) := Int.mul_le_mul_of_nonneg_left hp (by omega)
  omega
theorem thr_mono (T : Nat) (j d : Nat) (h : j + d ≤ 18) : key T (thr j) ≤ key T (thr (j + d)) := by
  induction d with
  | zero => exact Int.le_refl _
  | succ d ih =>
    have h1 := ih (by omega)
    have h2 := thr_next T (j + d) (by omega)
    have h3 := thr_pos T (j + d) (by omega)
    rw [show j + (d + 1) = j + d + 1 from by omega]
    omega
theorem thr_le (T : Nat) {j k : Nat} (hjk : j ≤ k) (hk : k ≤ 18) : key T (thr j) ≤ key T (thr k) := by
  have := thr_mono T j (k - j) (by omega)
  rwa [show j + (k - j) = k from by omega] at this

/-- For a guess that is a number: the thresholds below it are those of the classes below its own. -/
theorem flt_class {e r : Nat} (hc : Cls e r) (he : nanW e = false) (j : Nat) (hj : j < 19) : flt (thr j) e = decide (j + 1 < r) := by
  obtain ⟨T, h0, hT⟩ := above_exists
  obtain ⟨h1, h2, h3, h4⟩ := hc
  by_cases hjr : j + 1 < r
  · rw [h3 j hjr]; simp [hjr]
  · have h5 := h4 (r - 1) (by omega) (by omega)
    rw [flt_key h0 hT (thr_nan _ (by omega)) he] at h5
    rw [flt_key h0 hT (thr_nan _ (by omega)) he]
    have hm := thr_le T (show r - 1 ≤ j from by omega) (by omega)
    have h6 := of_decide_eq_false h5
    rw [decide_eq_false (by omega), decide_eq_false hjr]

/-! ### Statement 1 -/

theorem pow2_le {m n : Nat} (h : m ≤ n) : (2 : Int) ^ m ≤ 2 ^ n := by
  have h1 := Nat.pow_le_pow_right (n := 2) (by decide) h
  have h2 : ((2 ^ m : Nat) : Int) ≤ ((2 ^ n : Nat) : Int) := Int.ofNat_le.2 h1
  simpa using h2

/-- A guess between two thresholds is a normal number, well short of the last binade. -/
theorem between {e k : Nat} (hk : k ≤ 17) (hw : e < 2 ^ 64) (h1 : flt (thr k) e = true) (h2 : flt (thr (k + 1)) e = false) :
    nanW e = false ∧ 2 ^ 52 ≤ e ∧ e < 2045 * 2 ^ 52 := by
  obtain ⟨T, h0, hT⟩ := above_exists
  have hn : nanW e = false := by
    cases h : nanW e with
    | false => rfl
    | true => rw [flt_nan (.inr h)] at h1; cases h1
  refine ⟨hn, ?_⟩
  rw [flt_key h0 hT (thr_nan _ (by omega)) hn] at h1 h2
  have a1 := of_decide_eq_true h1
  have a2 := of_decide_eq_false h2
  have p1 := thr_pos T k (by omega)
  have hr := thr_range (k + 1) (by omega)
  have hfit := fits_read hT (thr (k + 1)) (thr_nan _ (by omega))
  have hkn := key_norm T (thr (k + 1)) hr.1 (by omega)
  rcases read_cases e with ⟨s, r, hr', e1, _, ee⟩ | ⟨s, r, b1, b2, e1, e2, ee⟩ | ⟨s, ee⟩ | ⟨s, f, ee⟩
  · exfalso
    have hk' : key T e = signed s r (-1074 + 1074 : Int).toNat := by unfold key; rw [ee]; rfl
    rw [show (-1074 + 1074 : Int).toNat = 0 from rfl, signed_eq] at hk'
    simp at hk'
    split at hk' <;> omega
  · have hk' : key T e = signed s (2 ^ 52 + r % 2 ^ 52) (-1074 + ((r / 2 ^ 52 - 1 : Nat) : Int) + 1074).toNat := by unfold key; rw [ee]; rfl
    rw [show (-1074 + ((r / 2 ^ 52 - 1 : Nat) : Int) + 1074).toNat = r / 2 ^ 52 - 1 from by omega, signed_eq] at hk'
    obtain ⟨q, hq⟩ : ∃ q, r / 2 ^ 52 - 1 = q := ⟨_, rfl⟩
    obtain ⟨a, ha⟩ : ∃ a, thr (k + 1) / 2 ^ 52 - 1 = a := ⟨_, rfl⟩
    rw [hq] at hk'
    have hkt := hkn.1
    rw [ha] at hkt
    have hpq : (0 : Int) < 2 ^ q := Int.pow_pos (by decide)
    cases s with
    | true =>
      exfalso
      simp only [if_true] at hk'
      have : 0 ≤ ((2 ^ 52 + r % 2 ^ 52 : Nat) : Int) * 2 ^ q := Int.mul_nonneg (by omega) (Int.le_of_lt hpq)
      omega
    | false =>
      have er : r = e := by
        rw [e1]
        have h63 : e / 2 ^ 63 % 2 ≠ 1 := by
          intro h
          rw [h] at e2
          cases e2
        have : e / 2 ^ 63 < 2 := by omega
        omega
      refine ⟨by omega, ?_⟩
      by_cases hqa : q ≤ a
      · have ha2 : a ≤ 1041 := by rw [← ha]; unfold thr; omega
        omega
      · exfalso
        simp at hk'
        have hp : (2 : Int) ^ (a + 1) ≤ 2 ^ q := pow2_le (by omega)
        rw [Int.pow_succ] at hp
        obtain ⟨A, hA⟩ : ∃ A : Int, A = 2 ^ a := ⟨_, rfl⟩
        obtain ⟨Q, hQ⟩ : ∃ Q : Int, Q = 2 ^ q := ⟨_, rfl⟩
        have hA0 : 0 < A := by rw [hA]; exact Int.pow_pos (by decide)
        rw [← hA] at hkt hp
        rw [← hQ] at hk' hp
        have y1 : (4503599627370496 : Int) * Q ≤ (4503599627370496 + (r : Int) % 4503599627370496) * Q := Int.mul_le_mul_of_nonneg_right (by omega) (by omega)
        have y2 : ((2 ^ 52 + thr (k + 1) % 2 ^ 52 : Nat) : Int) * A ≤ 2 ^ 53 * A := Int.mul_le_mul_of_nonneg_right (by omega) (by omega)
        have y3 : ((2 ^ 52 + thr (k + 1) % 2 ^ 52 : Nat) : Int) * A < 2 ^ 53 * A := Int.mul_lt_mul_of_pos_right (by omega) hA0
        omega
  · exfalso
    have hk' : key T e = if s then -(T : Int) else (T : Int) := by unfold key; rw [ee]; rfl
    have ht : key T (thr (k + 1)) < T := by
      unfold key
      rw [hkn.2.2]
      rw [hkn.2.2] at hfit
      exact (signed_lt T false _ _ hfit.2).2
    split at hk' <;> omega
  · unfold nanW at hn; rw [ee] at hn; cases hn

/-- Doubling a guess of class 2 to 19 moves it up by one class. -/
theorem doubled {e r : Nat} (hw : e < 2 ^ 64) (hc : Cls e r) (h1 : 2 ≤ r) (h2 : r ≤ 19) :
    ∃ e2, floatBits .mul .f64 4611686018427387904 e = some e2 ∧ ∀ r', Cls e2 r' → r' = r + 1 := by
  obtain ⟨T, h0, hT⟩ := above_exists
  obtain ⟨k, rfl⟩ : ∃ k, r = k + 2 := ⟨r - 2, by omega⟩
  obtain ⟨_, _, c3, c4⟩ := hc
  have f1 := c3 k (by omega)
  have f2 := c4 (k + 1) rfl (by omega)
  obtain ⟨hn, n1, n2⟩ := between (by omega) hw f1 f2
  refine ⟨e + 2 ^ 52, mul_two e n1 (by omega), ?_⟩
  have hk := key_up T e n1 (by omega)
  have hn2 : nanW (e + 2 ^ 52) = false := (key_norm T (e + 2 ^ 52) (by omega) (by omega)).2.1
  rw [flt_key h0 hT (thr_nan _ (by omega)) hn] at f1 f2
  have a1 := of_decide_eq_true f1
  have a2 := of_decide_eq_false f2
  have t1 := thr_next T k (by omega)
  intro r' hr'
  have low : ∀ j, j ≤ k + 1 → flt (thr j) (e + 2 ^ 52) = true := by
    intro j hj
    rw [flt_key h0 hT (thr_nan _ (by omega)) hn2, hk]
    have := thr_le T hj (by omega)
    exact decide_eq_true (by omega)
  obtain ⟨d1, d2, d3, d4⟩ := hr'
  rcases Nat.lt_trichotomy r' (k + 3) with h | h | h
  · exfalso
    have := d4 (r' - 1) (by omega) (by omega)
    rw [low (r' - 1) (by omega)] at this
    cases this
  · omega
  · exfalso
    have := d3 (k + 2) (by omega)
    rw [flt_key h0 hT (thr_nan _ (by omega)) hn2, hk] at this
    have t2 := thr_next T (k + 1) (by omega)
    have := of_decide_eq_true this
    rw [show k + 1 + 1 = k + 2 from rfl] at t2
    omega

/-! ### Statement 2 -/

/-- 'x <= y' on float64s, by their bits. -/
def fle (x y : Nat) : Bool := FloatKind.f64.format.order x y == some .lt || FloatKind.f64.format.order x y == some .eq
theorem fle_key {T : Nat} (h0 : 0 < T) (hT : Above T) {x y : Nat} (hx : nanW x = false) (hy : nanW y = false) : fle x y = decide (key T x ≤ key T y) := by
  have h1 := lt_key h0 hT hx hy
  have h2 := eq_key h0 hT hx hy
  show (double.order x y == some .lt || double.order x y == some .eq) = _
  rw [h1, h2]
  by_cases h : key T x < key T y
  · simp [h]; omega
  · by_cases e : key T x = key T y
    · simp [e]
    · simp [h, e]; omega
theorem fle_not {x y : Nat} (hx : nanW x = false) (hy : nanW y = false) : fle x y = !flt y x := by
  obtain ⟨T, h0, hT⟩ := above_exists
  rw [fle_key h0 hT hx hy, flt_key h0 hT hy hx]
  by_cases h : key T x ≤ key T y
  · have : ¬ key T y < key T x := by omega
    simp [h, this]
  · have : key T y < key T x := by omega
    simp [h, this]
theorem ne_self (x : Nat) : (FloatKind.f64.format.order x x != some .eq) = nanW x := by
  show (double.order x x != some .eq) = _
  cases h : nanW x with
  | true => rw [order_nan x x (.inl h)]; rfl
  | false =>
    obtain ⟨T, h0, hT⟩ := above_exists
    have := eq_key h0 hT h h
    rw [bne, this]; simp

/-- Which thresholds a step from lo to hi crosses. -/
theorem crossed_at {lo hi cl ch : Nat} (hl : nanW lo = false) (hh : nanW hi = false) (h1 : Cls lo cl) (h2 : Cls hi ch) (j : Nat) (hj : j < 19) :
    fle lo (thr j) = decide (cl ≤ j + 1) ∧ flt (thr j) hi = decide (j + 1 < ch) := by
  refine ⟨?_, flt_class h2 hh j hj⟩
  rw [fle_not hl (thr_nan j (by omega)), flt_class h1 hl j hj]
  by_cases h : j + 1 < cl
  · have : ¬ cl ≤ j + 1 := by omega
    simp [h, this]
  · have : cl ≤ j + 1 := by omega
    simp [h, this]
theorem class_le {lo hi cl ch : Nat} (hl : nanW lo = false) (hh : nanW hi = false) (hle : flt hi lo = false) (h1 : Cls lo cl) (h2 : Cls hi ch) : cl ≤ ch := by
  obtain ⟨T, h0, hT⟩ := above_exists
  rcases Nat.lt_or_ge ch cl with h | h
  · exfalso
    have b1 := h1.2.1
    have b2 := h2.1
    have c1 := flt_class h1 hl (ch - 1) (by omega)
    have c2 := flt_class h2 hh (ch - 1) (by omega)
    rw [decide_eq_true (by omega), flt_key h0 hT (thr_nan _ (by omega)) hl] at c1
    rw [decide_eq_false (by omega), flt_key h0 hT (thr_nan _ (by omega)) hh] at c2
    rw [flt_key h0 hT hh hl] at hle
    have a1 := of_decide_eq_true c1
    have a2 := of_decide_eq_false c2
    have a3 := of_decide_eq_false hle
    omega
  · exact h
theorem flt_asymm {x y : Nat} (hx : nanW x = false) (hy : nanW y = false) (h : flt x y = true) : flt y x = false := by
  obtain ⟨T, h0, hT⟩ := above_exists
  rw [flt_key h0 hT hx hy] at h
  rw [flt_key h0 hT hy hx]
  have := of_decide_eq_true h
  exact decide_eq_false (by omega)

end Go.Proofs.Qxb6608524a
