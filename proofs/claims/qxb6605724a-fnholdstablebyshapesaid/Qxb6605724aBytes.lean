/-
  The contract of 'zzBytes_FnGetFirstMatch': it answers some bool and turns nothing.
-/
import Derived.Test.Qxb6605724aRows
import Derived.WalkKit
import Derived.WalkSpells
import Derived.WalkLawsBesides
namespace Go.Proofs.Qxb6605724a
open Go.RowKit

/-- A slice of strings as a walk wants it: empty, or its cells lie at a plain address. -/
def StrRow (w : World) (a : Option Addr) (n : Nat) (S : Nat → ByteArray) : Prop :=
  n = 0 ∨ ∃ b off, a = some ⟨b, off, none⟩ ∧ ∀ i, i < n → w.cell? ⟨b, off + i, none⟩ = some (.string (S i))

/-- The call answers some bool. -/
def SaysBool (e : Ending) : Prop := ∃ b, e = .returned (.bool b)

set_option maxHeartbeats 1000000 in
theorem bytes8 (a0 a1 : Option Addr) (n0 c0 n1 c1 : Nat) (s : ByteArray) (S : Nat → ByteArray) (w : World) (h0 : StrRow w a0 n0 S)
    (hn0 : n0 ≤ 9223372036854775807) (hn1 : n1 ≤ 9223372036854775807) (hs : s.size ≤ 9223372036854775807) :
    Calls Try.prog 8 #[.slice a0 n0 c0, .slice a1 n1 c1, .string s] w fun e w' => SaysBool e ∧ w = w' := by
  rcases h0 with h0 | ⟨b, off, rfl, hc⟩
  · subst h0
    go_enter Try.func8, Try.ntmps8
    go_wp2
    go_loop [7, 8] (fun z i => i = .int .i64 (0 : Nat) ∧ z = .int .i64 0) (fun _ _ => 0)
    case atStart => exact ⟨rfl, rfl⟩
    case round =>
      obtain ⟨rfl, rfl⟩ := hrel
      go_wp2
      all_goals (go_ret; exact ⟨⟨_, rfl⟩, rfl⟩)
  · go_enter Try.func8, Try.ntmps8
    go_wp2
    · go_ret; exact ⟨⟨_, rfl⟩, rfl⟩
    · go_loop [7, 8] (fun z i => ∃ k : Nat, k ≤ n0 ∧ i = .int .i64 k ∧ ∃ t : Int, 0 ≤ t ∧ t ≤ 1048576 ∧ z = .int .i64 t) (fun _ i => n0 - (intOf i).toNat)
      case atStart => exact ⟨0, Nat.zero_le _, rfl, _, by omega, by omega, rfl⟩
      case round =>
        obtain ⟨k, hk, rfl, t, ht0, ht1, rfl⟩ := hrel
        by_cases hlt : k < n0
        · have hck := hc k hlt
          go_wp2
          · go_ret; exact ⟨⟨_, rfl⟩, rfl⟩
          · go_ret; exact ⟨⟨_, rfl⟩, rfl⟩
          · go_round
            case rel => exact ⟨k + 1, by omega, by go_num, _, by omega, by omega, rfl⟩
            case measure => simp [intOf]; omega
        · go_wp2
          all_goals (go_ret; exact ⟨⟨_, rfl⟩, rfl⟩)

end Go.Proofs.Qxb6605724a
