/-
  The plain law of float64 comparison: every word that is no NaN has a key, a whole number, and the model's order is the keys' order. No Go in sight.
-/
import Ieee.Arith
namespace Go.Proofs.Qxb6608524a
open Ieee

/-- The key of a datum: a number times 2 to the 1074; an infinity: T. -/
def keyD (T : Nat) : Datum → Int
  | .number s m i => signed s m (i + 1074).toNat
  | .infinity s => if s then -(T : Int) else (T : Int)
  | .nan .. => 0

/-- A datum that is no NaN and whose finite keys lie within T. -/
def Fits (T : Nat) : Datum → Prop
  | .number _ m i => -1074 ≤ i ∧ m * 2 ^ (i + 1074).toNat < T
  | .infinity _ => True
  | .nan .. => False

theorem signed_eq (s : Bool) (m u : Nat) : signed s m u = if s then -((m : Int) * 2 ^ u) else (m : Int) * 2 ^ u := by
  unfold signed
  rw [Nat.shiftLeft_eq]
  split <;> simp

theorem signed_add (s : Bool) (m u v : Nat) : signed s m (u + v) = signed s m u * 2 ^ v := by
  rw [signed_eq, signed_eq]
  split
  · rw [Int.pow_add, ← Int.mul_assoc, Int.neg_mul]
  · rw [Int.pow_add, ← Int.mul_assoc]

theorem signed_lt (T : Nat) (s : Bool) (m u : Nat) (h : m * 2 ^ u < T) : -(T : Int) < signed s m u ∧ signed s m u < T := by
  have h' : ((m * 2 ^ u : Nat) : Int) < T := Int.ofNat_lt.2 h
  have e1 : ((m * 2 ^ u : Nat) : Int) = (m : Int) * 2 ^ u := by simp
  have h0 : 0 ≤ (m : Int) * 2 ^ u := by rw [← e1]; exact Int.natCast_nonneg _
  rw [e1] at h'
  rw [signed_eq]
  split <;> omega

theorem scale_lt (a b : Int) (v : Nat) : (a * 2 ^ v < b * 2 ^ v) ↔ a < b := by
  have hp : (0 : Int) < 2 ^ v := Int.pow_pos (by decide)
  constructor
  · intro h; exact Int.lt_of_mul_lt_mul_right h (Int.le_of_lt hp)
  · intro h; exact Int.mul_lt_mul_of_pos_right h hp
theorem scale_eq (a b : Int) (v : Nat) : (a * 2 ^ v = b * 2 ^ v) ↔ a = b := by
  have hp : (2 : Int) ^ v ≠ 0 := by have : (0 : Int) < 2 ^ v := Int.pow_pos (by decide); omega
  constructor
  · intro h; exact Int.eq_of_mul_eq_mul_right hp h
  · intro h; rw [h]

theorem cmp_lt (a b : Int) : (some (compare a b) == some Ordering.lt) = decide (a < b) := by
  by_cases h : a < b
  · simp [compare, compareOfLessAndEq, h]
  · by_cases e : a = b
    · simp [compare, compareOfLessAndEq, e]
    · simp [compare, compareOfLessAndEq, h, e]
theorem cmp_eq (a b : Int) : (some (compare a b) == some Ordering.eq) = decide (a = b) := by
  by_cases h : a < b
  · have : ¬ a = b := by omega
    simp [compare, compareOfLessAndEq, h, this]
  · by_cases e : a = b
    · simp [compare, compareOfLessAndEq, e]
    · simp [compare, compareOfLessAndEq, h, e]

theorem order_keys (T : Nat) (hT : 0 < T) (d1 d2 : Datum) (h1 : Fits T d1) (h2 : Fits T d2) :
    (d1.order d2 == some .lt) = decide (keyD T d1 < keyD T d2) ∧ (d1.order d2 == some .eq) = decide (keyD T d1 = keyD T d2) := by
  match d1, d2, h1, h2 with
  | .infinity s, .infinity t, _, _ =>
    cases s <;> cases t <;> simp [Datum.order, keyD, compare, compareOfLessAndEq] <;> omega
  | .infinity s, .number t n j, _, h2 =>
    have := signed_lt T t n _ h2.2
    cases s <;> simp [Datum.order, keyD] <;> omega
  | .number s m i, .infinity t, h1, _ =>
    have := signed_lt T s m _ h1.2
    cases t <;> simp [Datum.order, keyD] <;> omega
  | .number s m i, .number t n j, h1, h2 =>
    obtain ⟨a1, _⟩ := h1
    obtain ⟨a2, _⟩ := h2
    have e1 : (i + 1074).toNat = (i - min i j).toNat + (min i j + 1074).toNat := by omega
    have e2 : (j + 1074).toNat = (j - min i j).toNat + (min i j + 1074).toNat := by omega
    have k1 : keyD T (.number s m i) = signed s m (i - min i j).toNat * 2 ^ (min i j + 1074).toNat := by
      show signed s m (i + 1074).toNat = _
      rw [e1, signed_add]
    have k2 : keyD T (.number t n j) = signed t n (j - min i j).toNat * 2 ^ (min i j + 1074).toNat := by
      show signed t n (j + 1074).toNat = _
      rw [e2, signed_add]
    have lt : (keyD T (.number s m i) < keyD T (.number t n j)) ↔ signed s m (i - min i j).toNat < signed t n (j - min i j).toNat := by rw [k1, k2]; exact scale_lt _ _ _
    have eq : (keyD T (.number s m i) = keyD T (.number t n j)) ↔ signed s m (i - min i j).toNat = signed t n (j - min i j).toNat := by rw [k1, k2]; exact scale_eq _ _ _
    constructor
    · show (some (compare (signed s m (i - min i j).toNat) (signed t n (j - min i j).toNat)) == some Ordering.lt) = _
      rw [cmp_lt]; exact decide_eq_decide.2 lt.symm
    · show (some (compare (signed s m (i - min i j).toNat) (signed t n (j - min i j).toNat)) == some Ordering.eq) = _
      rw [cmp_eq]; exact decide_eq_decide.2 eq.symm

/-! ### Words of double -/

def nanW (x : Nat) : Bool := (double.read x).isNaN

theorem read_cases (x : Nat) :
    (∃ s r, r < 2 ^ 52 ∧ r = x % 2 ^ 63 ∧ s = (x / 2 ^ 63 % 2 == 1) ∧ double.read x = .number s r (-1074)) ∨
    (∃ s r, 2 ^ 52 ≤ r ∧ r < 2047 * 2 ^ 52 ∧ r = x % 2 ^ 63 ∧ s = (x / 2 ^ 63 % 2 == 1) ∧ double.read x = .number s (2 ^ 52 + r % 2 ^ 52) (-1074 + ((r / 2 ^ 52 - 1 : Nat) : Int))) ∨
    (∃ s, double.read x = .infinity s) ∨ (∃ s f, double.read x = .nan s f) := by
  have e1 : double.signWeight = 2 ^ 63 := rfl
  have e2 : double.binade = 2 ^ 52 := rfl
  have e3 : double.infRung = 2047 * 2 ^ 52 := by decide +kernel
  have e4 : double.leastPlace = -1074 := by decide +kernel
  unfold Format.read
  simp only [e1, e2, e3, e4]
  by_cases h1 : x % 2 ^ 63 < 2 ^ 52
  · rw [if_pos h1]; exact .inl ⟨_, _, h1, rfl, rfl, rfl⟩
  · rw [if_neg h1]
    by_cases h2 : x % 2 ^ 63 < 2047 * 2 ^ 52
    · rw [if_pos h2]; exact .inr (.inl ⟨_, _, by omega, h2, rfl, rfl, rfl⟩)
    · rw [if_neg h2]
      by_cases h3 : x % 2 ^ 63 = 2047 * 2 ^ 52
      · rw [if_pos h3]; exact .inr (.inr (.inl ⟨_, rfl⟩))
      · rw [if_neg h3]; exact .inr (.inr (.inr ⟨_, _, rfl⟩))

def key (T x : Nat) : Int := keyD T (double.read x)
/-- T is above every finite key. -/
def Above (T : Nat) : Prop := ∀ m u, m < 2 ^ 53 → u ≤ 2045 → m * 2 ^ u < T

theorem above_exists : ∃ T, 0 < T ∧ Above T := by
  obtain ⟨E, hE⟩ : ∃ E, 2045 ≤ E := ⟨2045, Nat.le_refl _⟩
  refine ⟨2 ^ 53 * 2 ^ E, Nat.mul_pos (Nat.two_pow_pos _) (Nat.two_pow_pos _), fun m u hm hu => ?_⟩
  have h1 : 2 ^ u ≤ 2 ^ E := Nat.pow_le_pow_right (by decide) (by omega)
  exact Nat.lt_of_lt_of_le (Nat.mul_lt_mul_of_pos_right hm (Nat.two_pow_pos u)) (Nat.mul_le_mul_left _ h1)

theorem fits_read {T : Nat} (hT : Above T) (x : Nat) (h : nanW x = false) : Fits T (double.read x) := by
  rcases read_cases x with ⟨s, r, hr, _, _, e⟩ | ⟨s, r, h1, h2, _, _, e⟩ | ⟨s, e⟩ | ⟨s, f, e⟩
  · rw [e]
    refine ⟨Int.le_refl _, ?_⟩
    have := hT r 0 (by omega) (by omega)
    simpa using this
  · rw [e]
    have hd : r % 2 ^ 52 < 2 ^ 52 := Nat.mod_lt _ (by decide)
    have hq : r / 2 ^ 52 ≤ 2046 := by omega
    refine ⟨by omega, ?_⟩
    rw [show (-1074 + ((r / 2 ^ 52 - 1 : Nat) : Int) + 1074).toNat = r / 2 ^ 52 - 1 from by omega]
    exact hT _ _ (by omega) (by omega)
  · rw [e]; trivial
  · unfold nanW at h; rw [e] at h; cases h

theorem lt_key {T : Nat} (h0 : 0 < T) (hT : Above T) {x y : Nat} (hx : nanW x = false) (hy : nanW y = false) : (double.order x y == some .lt) = decide (key T x < key T y) :=
  (order_keys T h0 _ _ (fits_read hT x hx) (fits_read hT y hy)).1
theorem eq_key {T : Nat} (h0 : 0 < T) (hT : Above T) {x y : Nat} (hx : nanW x = false) (hy : nanW y = false) : (double.order x y == some .eq) = decide (key T x = key T y) :=
  (order_keys T h0 _ _ (fits_read hT x hx) (fits_read hT y hy)).2
theorem order_nan (x y : Nat) (h : nanW x = true ∨ nanW y = true) : double.order x y = none := by
  unfold nanW at h
  unfold Format.order
  generalize double.read x = d1 at h
  generalize double.read y = d2 at h
  cases d1 <;> cases d2 <;> simp_all [Datum.isNaN, Datum.order]

theorem key_norm (T x : Nat) (h1 : 2 ^ 52 ≤ x) (h2 : x < 2047 * 2 ^ 52) : key T x = ((2 ^ 52 + x % 2 ^ 52 : Nat) : Int) * 2 ^ (x / 2 ^ 52 - 1) ∧ nanW x = false ∧ double.read x = .number false (2 ^ 52 + x % 2 ^ 52) (-1074 + ((x / 2 ^ 52 - 1 : Nat) : Int)) := by
  have hm : x % 2 ^ 63 = x := Nat.mod_eq_of_lt (by omega)
  have hs : (x / 2 ^ 63 % 2 == 1) = false := by
    have : x / 2 ^ 63 = 0 := Nat.div_eq_of_lt (by omega)
    rw [this]; rfl
  rcases read_cases x with ⟨s, r, hr, e1, _, e⟩ | ⟨s, r, _, _, e1, e2, e⟩ | ⟨s, e⟩ | ⟨s, f, e⟩
  · omega
  · rw [hm] at e1
    rw [hs] at e2
    subst e1; subst e2
    refine ⟨?_, by unfold nanW; rw [e]; rfl, e⟩
    unfold key
    rw [e]
    show signed false _ _ = _
    rw [signed_eq, show (-1074 + ((r / 2 ^ 52 - 1 : Nat) : Int) + 1074).toNat = r / 2 ^ 52 - 1 from by omega]
    simp
  · exfalso
    have e1 : double.signWeight = 2 ^ 63 := rfl
    have e2 : double.binade = 2 ^ 52 := rfl
    have e3 : double.infRung = 2047 * 2 ^ 52 := by decide +kernel
    unfold Format.read at e
    simp only [e1, e2, e3, hm] at e
    rw [if_neg (by omega), if_pos h2] at e
    cases e
  · exfalso
    have e1 : double.signWeight = 2 ^ 63 := rfl
    have e2 : double.binade = 2 ^ 52 := rfl
    have e3 : double.infRung = 2047 * 2 ^ 52 := by decide +kernel
    unfold Format.read at e
    simp only [e1, e2, e3, hm] at e
    rw [if_neg (by omega), if_pos h2] at e
    cases e

/-- One binade up: twice the number. -/
theorem key_up (T x : Nat) (h1 : 2 ^ 52 ≤ x) (h2 : x < 2046 * 2 ^ 52) : key T (x + 2 ^ 52) = 2 * key T x := by
  rw [(key_norm T x h1 (by omega)).1, (key_norm T (x + 2 ^ 52) (by omega) (by omega)).1]
  have e1 : (x + 2 ^ 52) % 2 ^ 52 = x % 2 ^ 52 := by omega
  have e2 : (x + 2 ^ 52) / 2 ^ 52 - 1 = (x / 2 ^ 52 - 1) + 1 := by omega
  rw [e1, e2, Int.pow_succ, Int.mul_comm 2, Int.mul_assoc]

theorem two_read : double.read 4611686018427387904 = .number false (2 ^ 52) (-51) := by decide +kernel

theorem product_pos (a b : Nat) (i j : Int) : (Datum.number false a i).product (.number false b j) = some (.number false (a * b) (i + j)) := rfl
theorem cut_exact (a drop n : Nat) (hn : n = 2 ^ drop * a) (hd : drop ≤ n.log2 + 2) : Toward.even.cut false n drop = a := by
  have hp : 0 < 2 ^ drop := Nat.two_pow_pos _
  have d : n / 2 ^ drop = a := by rw [hn]; exact Nat.mul_div_cancel_left _ hp
  have m : n % 2 ^ drop = 0 := by rw [hn]; exact Nat.mul_mod_right _ _
  have g : 1 <<< min drop (n.log2 + 2) = 2 ^ drop := by rw [Nat.min_eq_left hd, Nat.shiftLeft_eq, Nat.one_mul]
  unfold Toward.cut
  simp only [g, d, m]
  have g2 : (2 ^ drop == 0) = false := by rw [beq_eq_false_iff_ne]; omega
  simp [g2]
theorem nearest_of (f : Format) (mag kept : Nat) (place last : Int) (h0 : mag ≠ 0) (hl : max (place + mag.log2 - f.fractionBits) f.leastPlace = last)
    (hk : Toward.even.cut false (mag <<< (place - last).toNat) (last - place).toNat = kept) :
    f.nearest false mag place = min ((last - f.leastPlace).toNat * f.binade + kept) f.infRung := by
  unfold Format.nearest
  rw [if_neg h0]
  simp only [hl, hk]
  unfold Format.word
  simp

theorem read_two_up (f q : Nat) (hf : f < 2 ^ 52) (hq : q ≤ 2044) : double.nearest false (2 ^ 52 * (2 ^ 52 + f)) (-51 + (-1074 + (q : Int))) = (q + 2) * 2 ^ 52 + f := by
  have e3 : double.infRung = 2047 * 2 ^ 52 := by decide +kernel
  have e4 : double.leastPlace = -1074 := by decide +kernel
  obtain ⟨M, hM⟩ : ∃ M, M = 2 ^ 52 * (2 ^ 52 + f) := ⟨_, rfl⟩
  have hm0 : M ≠ 0 := by omega
  have hlog : M.log2 = 104 := by
    have l1 : 104 ≤ M.log2 := (Nat.le_log2 hm0).2 (by omega)
    have l2 : M.log2 < 105 := (Nat.log2_lt hm0).2 (by omega)
    omega
  have hcut : Toward.even.cut false M 52 = 2 ^ 52 + f := cut_exact _ 52 M hM (by omega)
  rw [← hM]
  rw [nearest_of double M (2 ^ 52 + f) (-51 + (-1074 + (q : Int))) (-1073 + (q : Int)) hm0 ?_ ?_, e3, e4]
  · rw [show (-1073 + (q : Int) - -1074).toNat = q + 1 from by omega]
    show min ((q + 1) * 2 ^ 52 + (2 ^ 52 + f)) (2047 * 2 ^ 52) = _
    rw [Nat.min_eq_left (by omega)]
    omega
  · rw [hlog, e4]
    show max (-51 + (-1074 + (q : Int)) + 104 - 52) (-1074) = _
    omega
  · rw [show (-51 + (-1074 + (q : Int)) - (-1073 + (q : Int))).toNat = 0 from by omega, show (-1073 + (q : Int) - (-51 + (-1074 + (q : Int)))).toNat = 52 from by omega, Nat.shiftLeft_zero]
    exact hcut

theorem write_number (f : Format) (s : Bool) (m : Nat) (p : Int) : f.write (.number s m p) = f.nearest s m p := rfl
/-- Twice a normal number, short of the last binade, is one binade up: no rounding. -/
theorem mul_two (x : Nat) (h1 : 2 ^ 52 ≤ x) (h2 : x < 2046 * 2 ^ 52) : double.mul 4611686018427387904 x = some (x + 2 ^ 52) := by
  obtain ⟨_, _, e⟩ := key_norm 0 x h1 (by omega)
  obtain ⟨f, hf⟩ : ∃ f, x % 2 ^ 52 = f := ⟨_, rfl⟩
  obtain ⟨q, hq⟩ : ∃ q, x / 2 ^ 52 - 1 = q := ⟨_, rfl⟩
  have hfl : f < 2 ^ 52 := by omega
  have hq2 : q ≤ 2044 := by omega
  have hx : x + 2 ^ 52 = (q + 2) * 2 ^ 52 + f := by omega
  rw [hf, hq] at e
  have hn := read_two_up f q hfl hq2
  unfold Format.mul
  rw [two_read, e, product_pos, Option.map_some, hx]
  rw [write_number, hn]

end Go.Proofs.Qxb6608524a
