/-
  The closed facts for the walk over fmt's stopped front at this dump (after the guide's LabelFmt.lean), and the text that fmt.Sprintf("%d %s", n, unit) is told to be.
-/
import Derived.Test.Qxb6605724aFmtRows
import Derived.Stop.CallBack
import Derived.Stop.IfaceNil
import Derived.Stop.FmtTextKit
import Derived.Lib.ItoaLen
import GoSem.ClaimData
namespace Go.Proofs.Qxb6605724aFmt
open Go.Extern.Stop Go.Stop Go.Extern

theorem call7 (args : Array Value) (w : World) : (callFunc 7 args).run Tryf.prog w = ((FmtStop.sprintf #[9, 42] #[9] args).run Tryf.prog w).andThen fun v w' => .ok (.value v) w' :=
  run_callFunc_extern Tryf.func7 (by kernel_rfl) (by kernel_rfl) (by kernel_rfl) (by kernel_rfl) args w
theorem guard7 (name : String) (w : World) : (FmtStop.guard name).run Tryf.prog w = .ok () w := by kernel_rfl
theorem fmt0 : FmtStop.printed? ⟨#[37, 100, 32, 37, 115]⟩ 2 = some [(0, 100, false), (1, 115, false)] := by kernel_rfl
theorem fmt0r (w : World) : (FmtDoors.printed ⟨#[37, 100, 32, 37, 115]⟩ 2).run Tryf.prog w = .ok [(0, 100, false), (1, 115, false)] w := by kernel_rfl
def shape2 : List UInt8 := [5, 5, 0, 0, 0, 0, 0, 0, 0, 105, 110, 116, 54, 52]
def shape9 : List UInt8 := [12, 6, 0, 0, 0, 0, 0, 0, 0, 115, 116, 114, 105, 110, 103]
theorem op2_100 (name : String) (x : Int) (w : World) : (FmtStop.operand name false 100 false (.iface 2 (.int .i64 x))).run Tryf.prog w = .ok (shape2, Go.Extern.Stop.digits 8 (x % 2 ^ 64).toNat) w := by kernel_rfl
theorem op9_115 (name : String) (x : ByteArray) (w : World) : (FmtStop.operand name false 115 false (.iface 9 (.string x))).run Tryf.prog w = .ok (shape9, FmtStop.pack x.data.toList) w := by kernel_rfl

/-- What fmt is asked. -/
def reading (n : Int) (u : List UInt8) : List (List UInt8) := [[37, 100, 32, 37, 115], shape2, digits 8 (n % 18446744073709551616).toNat, shape9, FmtStop.pack u]
/-- The text: the numeral, a blank, the unit. -/
def text (n : Int) (u : List UInt8) : List UInt8 := Lib.itoa n ++ 32 :: u

theorem t_parse : (FmtText.parse [37, 100, 32, 37, 115]).map FmtText.glue = some [.verb {} 100, .lit [32], .verb {} 115] := by rfl
theorem t_text (n : Int) (u : List UInt8) (hs : u.length < 2 ^ 64) (hw : (Lit.int .i64 n).wf = true) : FmtText.text "fmt.Sprintf" (reading n u) = some (text n u) := by
  have hi := FmtText.operand_int_at (sh := shape2) (k := .i64) rfl rfl n hw
  have hn := FmtText.operand_str_at (sh := shape9) rfl rfl u hs
  rw [reading, FmtText.text_sprintf_glued t_parse (FmtText.operands_cons hi (FmtText.operands_cons hn FmtText.operands_nil))]
  simp [FmtText.render, FmtText.printArg_d _ _ hw, FmtText.printArg_s_str, text]

end Go.Proofs.Qxb6605724aFmt
