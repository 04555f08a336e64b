/-
  The contract of '(Object).Get'.
-/
import Derived.Test.Qxb6605724aBytes
namespace Go.Proofs.Qxb6605724a
open Go.RowKit

theorem str_eq {a b : ByteArray} (h : (a.toList == b.toList) = true) : a = b := by
  rw [ByteArray.toList_eq, ByteArray.toList_eq, beq_iff_eq, Array.toList_inj] at h
  cases a; cases b; simp_all
theorem str_ne {a b : ByteArray} (h : (a.toList == b.toList) = false) : a ≠ b := by
  intro e; subst e; simp at h

/-- What Get answers: the first member that is so named, or none. -/
def GetSays (S : Nat → ByteArray) (V : Nat → Value) (n : Nat) (s : ByteArray) (e : Ending) : Prop :=
  (∃ i, i < n ∧ S i = s ∧ (∀ j, j < i → S j ≠ s) ∧ e = .returned (.tuple #[V i, .bool true])) ∨ ((∀ j, j < n → S j ≠ s) ∧ e = .returned (.tuple #[.nilIface, .bool false]))

theorem GetSays.hit {S : Nat → ByteArray} {V : Nat → Value} {n : Nat} {s : ByteArray} {i : Nat} {v : Value} (hi : i < n) (hs : ((S i).toList == s.toList) = true) (hno : ∀ j, j < i → S j ≠ s) (hv : V i = v) :
    GetSays S V n s (.returned (.tuple #[v, .bool true])) := .inl ⟨i, hi, str_eq hs, hno, by rw [hv]⟩
theorem no_next {S : Nat → ByteArray} {s : ByteArray} {k : Nat} (hno : ∀ j, j < k → S j ≠ s) (h : ((S k).toList == s.toList) = false) : ∀ j, j < k + 1 → S j ≠ s := by
  intro j hj
  by_cases e : j = k
  · subst e; exact str_ne h
  · exact hno j (by omega)

set_option maxHeartbeats 1000000 in
theorem get18 (b off n c : Nat) (s : ByteArray) (S : Nat → ByteArray) (V : Nat → Value) (w : World) (hn : n ≤ 65537) (hb : b < w.heap.size)
    (hS : ∀ i, i < n → w.cell? ⟨b, off + i * 2, none⟩ = some (.string (S i))) (hV : ∀ i, i < n → w.cell? ⟨b, off + i * 2 + 1, none⟩ = some (V i))
    (hsh : ∀ i, (∃ z, V i = .iface 2 (.int .i64 z)) ∨ V i = .nilIface) :
    Calls Try.prog 18 #[.slice (some ⟨b, off, none⟩) n c, .string s] w fun e w' => GetSays S V n s e ∧ Below w.heap.size w w' := by
  go_enter Try.func18, Try.ntmps18
  go_wp2
  go_loopw [10] (fun i wr => ∃ k : Nat, k ≤ n ∧ i = .int .i64 k ∧ (∀ j, j < k → S j ≠ s) ∧ Below w.heap.size w wr) (fun i _ => n - (intOf i).toNat)
  case atStart => exact ⟨0, Nat.zero_le _, rfl, fun j hj => absurd hj (Nat.not_lt_zero _), Below.refl _ _⟩
  case round =>
    obtain ⟨k, hk, rfl, hno, hbel⟩ := hrel
    have HN : Hid (∀ j, j < k → S j ≠ s) := hno
    clear hno
    by_cases hlt : k < n
    · have g1 := (hbel.cell (p := ⟨b, off + k * 2, none⟩) hb).trans (hS k hlt)
      have g2 := (hbel.cell (p := ⟨b, off + k * 2 + 1, none⟩) hb).trans (hV k hlt)
      rcases hsh k with ⟨z, hz⟩ | hz
      · rw [hz] at g2
        have HZ : Hid (V k = .iface 2 (.int .i64 z)) := hz
        clear hz hS hV hsh
        go_wp2
        · go_ret2
          exact ⟨GetSays.hit hlt (by assumption) HN.out HZ.out, hbel.alloc hbel.size _⟩
        · go_roundw
          case rel => exact ⟨k + 1, by omega, by go_num, no_next HN.out (by assumption), hbel.alloc hbel.size _⟩
          case measure => simp [intOf]; omega
      · rw [hz] at g2
        have HZ : Hid (V k = .nilIface) := hz
        clear hz hS hV hsh
        go_wp2
        · go_ret2
          exact ⟨GetSays.hit hlt (by assumption) HN.out HZ.out, hbel.alloc hbel.size _⟩
        · go_roundw
          case rel => exact ⟨k + 1, by omega, by go_num, no_next HN.out (by assumption), hbel.alloc hbel.size _⟩
          case measure => simp [intOf]; omega
    · have hkn : k = n := by omega
      subst hkn
      go_wp2
      go_ret2
      exact ⟨.inr ⟨HN.out, rfl⟩, hbel⟩
end Go.Proofs.Qxb6605724a
