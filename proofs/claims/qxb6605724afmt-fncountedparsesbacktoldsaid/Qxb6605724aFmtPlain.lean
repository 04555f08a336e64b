/-
  The plain law: what a decimal numeral holds. No Go in sight.
-/
import Derived.Lib.ItoaLen
namespace Go.Proofs.Qxb6605724aFmt
open Go.Lib

/-- The number that digits spell. -/
def val (l : List UInt8) : Nat := l.foldl (fun a c => a * 10 + (c.toNat - 48)) 0

theorem val_snoc (l : List UInt8) (c : UInt8) : val (l ++ [c]) = val l * 10 + (c.toNat - 48) := by simp [val]
theorem foldl_ge (l : List UInt8) : ∀ a : Nat, a ≤ l.foldl (fun a c => a * 10 + (c.toNat - 48)) a := by
  induction l with
  | nil => intro a; exact Nat.le_refl _
  | cons c l ih => intro a; exact Nat.le_trans (by omega) (ih (a * 10 + (c.toNat - 48)))
theorem val_take_le (l : List UInt8) (k : Nat) : val (l.take k) ≤ val l := by
  have := foldl_ge (l.drop k) (val (l.take k))
  have e : val l = (l.drop k).foldl (fun a c => a * 10 + (c.toNat - 48)) (val (l.take k)) := by
    unfold val
    rw [← List.foldl_append, List.take_append_drop]
  omega

theorem ofNat_toNat (x : Nat) (h : x < 10) : (UInt8.ofNat (48 + x)).toNat = 48 + x := by
  rw [UInt8.toNat_ofNat_of_lt' (by simp [UInt8.size]; omega)]

theorem dec_val (u : Nat) : val (decDigits u) = u := by
  induction u using Nat.strongRecOn with
  | _ u ih =>
    rw [decDigits]
    split
    · rename_i h
      show 0 * 10 + ((UInt8.ofNat (48 + u)).toNat - 48) = u
      rw [ofNat_toNat u h]; omega
    · rename_i h
      rw [val_snoc, ih (u / 10) (by omega), ofNat_toNat (u % 10) (by omega)]
      omega
theorem dec_digit (u : Nat) : ∀ c ∈ decDigits u, 48 ≤ c.toNat ∧ c.toNat ≤ 57 := by
  induction u using Nat.strongRecOn with
  | _ u ih =>
    rw [decDigits]
    split
    · rename_i h
      intro c hc
      rw [List.mem_singleton] at hc
      subst hc
      rw [ofNat_toNat u h]; omega
    · rename_i h
      intro c hc
      rw [List.mem_append] at hc
      rcases hc with hc | hc
      · exact ih (u / 10) (by omega) c hc
      · rw [List.mem_singleton] at hc
        subst hc
        rw [ofNat_toNat (u % 10) (by omega)]; omega
theorem dec_pos (u : Nat) : 1 ≤ (decDigits u).length := by rw [decDigits_length]; exact nDigits_pos u
theorem dec_head (u : Nat) (hu : 1 ≤ u) : ∀ c, (decDigits u)[0]? = some c → c.toNat ≠ 48 := by
  induction u using Nat.strongRecOn with
  | _ u ih =>
    rw [decDigits]
    split
    · rename_i h
      intro c hc
      rw [List.getElem?_cons_zero, Option.some.injEq] at hc
      subst hc
      rw [ofNat_toNat u h]; omega
    · rename_i h
      intro c hc
      rw [List.getElem?_append_left (dec_pos _)] at hc
      exact ih (u / 10) (by omega) (by omega) c hc

theorem at_list (s : ByteArray) (k : Nat) (h : k < s.size) : s.data.toList[k]? = some s[k] := by
  rw [List.getElem?_eq_getElem (by simpa using h)]
  rfl

/-- What the walk wants of the numeral 'num' of n, whose digits begin at st. -/
structure Num (n : Int) (num : ByteArray) (st : Nat) : Prop where
  lt : st < num.size
  digit : ∀ k (h : k < num.size), st ≤ k → 48 ≤ num[k].toNat ∧ num[k].toNat ≤ 57
  lead : ∀ h : st < num.size, num[st].toNat = 48 → num.size = st + 1
  value : val (num.data.toList.drop st) = n.natAbs
  short : num.size ≤ 21
  sign : (n < 0 ∧ st = 1 ∧ ∀ h : 0 < num.size, num[0].toNat = 45) ∨ (0 ≤ n ∧ st = 0)

theorem num_of (n : Int) (num : ByteArray) (hl : num.data.toList = itoa n) (h0 : -9223372036854775808 ≤ n) (h1 : n ≤ 9223372036854775807) : Num n num (if n < 0 then 1 else 0) := by
  have hlen := itoa_length_le n h0 h1
  have hsz : num.size = (itoa n).length := by rw [← hl]; simp
  by_cases hneg : n < 0
  · rw [if_pos hneg]
    have e : itoa n = 45 :: decDigits n.natAbs := by unfold itoa; rw [if_pos hneg]
    have hp := dec_pos n.natAbs
    have hsz' : num.size = (decDigits n.natAbs).length + 1 := by rw [hsz, e]; rfl
    have hat : ∀ k (h : k < num.size), 1 ≤ k → (decDigits n.natAbs)[k - 1]? = some num[k] := by
      intro k h hk
      have := at_list num k h
      rw [hl, e] at this
      obtain ⟨j, rfl⟩ : ∃ j, k = j + 1 := ⟨k - 1, by omega⟩
      simpa using this
    refine ⟨by omega, fun k h hk => dec_digit _ _ (List.mem_of_getElem? (hat k h hk)), fun h e48 => ?_, ?_, by omega, .inl ⟨hneg, rfl, fun h => ?_⟩⟩
    · exact absurd e48 (dec_head n.natAbs (by omega) _ (hat 1 h (Nat.le_refl _)))
    · rw [hl, e]; exact dec_val _
    · have := at_list num 0 h
      rw [hl, e] at this
      simp at this
      rw [← this]; rfl
  · rw [if_neg hneg]
    have e : itoa n = decDigits n.natAbs := by unfold itoa; rw [if_neg hneg, show n.natAbs = n.toNat from by omega]
    have hp := dec_pos n.natAbs
    have hsz' : num.size = (decDigits n.natAbs).length := by rw [hsz, e]
    have hat : ∀ k (h : k < num.size), (decDigits n.natAbs)[k]? = some num[k] := by
      intro k h
      have := at_list num k h
      rw [hl, e] at this
      exact this
    refine ⟨by omega, fun k h _ => dec_digit _ _ (List.mem_of_getElem? (hat k h)), fun h e48 => ?_, ?_, by omega, .inr ⟨by omega, rfl⟩⟩
    · by_cases hz : n.natAbs = 0
      · rw [hsz', hz, decDigits]; rfl
      · exact absurd e48 (dec_head n.natAbs (by omega) _ (hat 0 h))
    · rw [hl, e]; exact dec_val _

/-- The number spelt by the digits from st up to k. -/
def valTo (num : ByteArray) (st k : Nat) : Nat := val ((num.data.toList.drop st).take (k - st))
theorem valTo_start (num : ByteArray) (st : Nat) : valTo num st st = 0 := by simp [valTo, val]
theorem valTo_next {n : Int} {num : ByteArray} {st : Nat} (h : Num n num st) (k : Nat) (hk : k < num.size) (hs : st ≤ k) : (valTo num st (k + 1) : Int) = valTo num st k * 10 + (num[k].toNat - 48) := by
  have hd := h.digit k hk hs
  have e : (num.data.toList.drop st).take (k + 1 - st) = (num.data.toList.drop st).take (k - st) ++ [num[k]] := by
    rw [show k + 1 - st = (k - st) + 1 from by omega, List.take_add_one]
    rw [List.getElem?_drop, show st + (k - st) = k from by omega, at_list num k hk]
    rfl
  unfold valTo
  rw [e, val_snoc]
  omega
theorem valTo_end {n : Int} {num : ByteArray} {st : Nat} (h : Num n num st) : valTo num st num.size = n.natAbs := by
  rw [← h.value, valTo, List.take_of_length_le]
  simp
theorem valTo_le {n : Int} {num : ByteArray} {st : Nat} (h : Num n num st) (k : Nat) : valTo num st k ≤ n.natAbs := by
  rw [← h.value]; exact val_take_le _ _

/-- A text cut at its first blank. -/
structure Cut (s num R : ByteArray) : Prop where
  size : s.size = num.size + 1 + R.size
  front : s.extract 0 num.size = num
  back : s.extract (num.size + 1) s.size = R
  blank : ∀ h : num.size < s.size, s[num.size].toNat = 32
  before : ∀ k (h : k < s.size) (h' : k < num.size), s[k] = num[k]

theorem ext_list {a b : ByteArray} (h : a.data.toList = b.data.toList) : a = b := by
  rw [Array.toList_inj] at h
  cases a; cases b; simp_all

theorem cut_of (s : ByteArray) (l r : List UInt8) (h : s.data.toList = l ++ 32 :: r) : ∃ num R : ByteArray, num.data.toList = l ∧ R.data.toList = r ∧ Cut s num R := by
  refine ⟨⟨l.toArray⟩, ⟨r.toArray⟩, rfl, rfl, ?_⟩
  have hs : s.size = l.length + 1 + r.length := by
    have : s.data.toList.length = (l ++ 32 :: r).length := by rw [h]
    simp at this
    omega
  have hn : (⟨l.toArray⟩ : ByteArray).size = l.length := by simp [ByteArray.size]
  refine ⟨by rw [hs, hn]; simp [ByteArray.size], ext_list ?_, ext_list ?_, fun hh => ?_, fun k hk hk' => ?_⟩
  · rw [hn]; simp [h]
  · rw [hn, hs]; simp [h]
  · have := at_list s l.length (by omega)
    rw [h] at this
    simp at this
    simp only [hn]
    rw [← this]; rfl
  · have h1 := at_list s k hk
    have h2 := at_list ⟨l.toArray⟩ k hk'
    rw [h, List.getElem?_append_left (by omega)] at h1
    have h2' : l[k]? = some (⟨l.toArray⟩ : ByteArray)[k] := h2
    rw [h1] at h2'
    exact Option.some.inj h2'

end Go.Proofs.Qxb6605724aFmt
