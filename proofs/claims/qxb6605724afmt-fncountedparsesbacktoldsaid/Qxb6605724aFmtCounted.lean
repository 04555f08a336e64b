/-
  The walks of 'counted', 'ZZcounted' and 'zzBytes_FnCountedParsesBack'.
-/
import Derived.Test.Qxb6605724aFmtFacts
import Derived.WalkKit
import Derived.WalkSpells
import Derived.WalkLawsBesides
import Derived.Stop.JoinedTold
import Derived.Stop.Texts
namespace Go.Proofs.Qxb6605724aFmt
open Go.RowKit Go.Extern.Stop Go.Stop Go.Extern Go.Kit

theorem counted_one (F : Interp) (u : ByteArray) (w : World) (hF : F.answers w.tape) :
    Calls Tryf.prog 5 #[.int .i64 1, .string u] w fun e w' => e = .returned (.string (FmtStop.textOf (F "fmt.Sprintf" (reading 1 u.data.toList) 0))) ∧ Below w.heap.size w w' := by
  have hF' := answers_open hF
  have k1 := call7
  have k2 := guard7
  have k3 := fmt0
  have k4 := fmt0r
  have k5 := op2_100
  have k6 := op9_115
  go_enter Tryf.func5, Tryf.ntmps5
  go_wp2
  go_ret
  exact ⟨rfl, ((Below.refl _ _).alloc (Nat.le_refl _) _).drew⟩

set_option maxHeartbeats 400000 in
theorem counted_more (F : Interp) (n : Int) (u : ByteArray) (w : World) (hF : F.answers w.tape) (hn : (n != 1) = true) (hu : u.size ≤ 1048576) :
    Calls Tryf.prog 5 #[.int .i64 n, .string u] w fun e w' => e = .returned (.string (FmtStop.textOf (F "fmt.Sprintf" (reading n (u.data.toList ++ [115])) 0))) ∧ Below w.heap.size w w' := by
  have hF' := answers_open hF
  have k1 := call7
  have k2 := guard7
  have k3 := fmt0
  have k4 := fmt0r
  have k5 := op2_100
  have k6 := op9_115
  go_enter Tryf.func5, Tryf.ntmps5
  go_wp2
  go_ret
  exact ⟨rfl, ((Below.refl _ _).alloc (Nat.le_refl _) _).drew⟩

/-- What 'counted' writes behind the numeral and the blank. -/
def unitOf (n : Int) (u : List UInt8) : List UInt8 := if n = 1 then u else u ++ [115]

theorem counted_told (F : Interp) (n : Int) (u : ByteArray) (w : World) (hF : F.told.answers w.tape) (hu : u.size ≤ 1048576) (wn : (Lit.int .i64 n).wf = true) :
    Calls Tryf.prog 5 #[.int .i64 n, .string u] w fun e w' => (∃ s : ByteArray, e = .returned (.string s) ∧ s.data.toList = text n (unitOf n u.data.toList)) ∧ Below w.heap.size w w' := by
  have hl : u.data.toList.length ≤ 1048576 := by simpa using hu
  have hi := FmtText.itoa_length_le wn
  have key : ∀ v : List UInt8, v.length ≤ 1048577 → (FmtStop.textOf (F.told "fmt.Sprintf" (reading n v) 0)).data.toList = text n v := fun v hv => by
    rw [textOf_list, told_string F (t_text n v (by omega) wn) (by simp [text]; omega)]
  by_cases h1 : n = 1
  · subst h1
    refine (counted_one F.told u w hF).mono fun e w' ⟨he, hb⟩ => ⟨⟨_, he, ?_⟩, hb⟩
    rw [key _ (by omega)]; rfl
  · refine (counted_more F.told n u w hF (by simp [h1]) hu).mono fun e w' ⟨he, hb⟩ => ⟨⟨_, he, ?_⟩, hb⟩
    rw [key _ (by simp; omega)]; simp [unitOf, h1]

/-- The call answers some bool. -/
def SaysBool (e : Ending) : Prop := ∃ b, e = .returned (.bool b)

theorem bytes4 (n : Int) (u : ByteArray) (w : World) (hu : u.size ≤ 9223372036854775807) :
    Calls Tryf.prog 4 #[.int .i64 n, .string u] w fun e w' => SaysBool e ∧ w = w' := by
  go_enter Tryf.func4, Tryf.ntmps4
  go_wp2
  all_goals (go_ret; exact ⟨⟨_, rfl⟩, rfl⟩)

end Go.Proofs.Qxb6605724aFmt
