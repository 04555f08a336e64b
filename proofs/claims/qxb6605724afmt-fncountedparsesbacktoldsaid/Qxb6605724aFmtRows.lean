/-
  No cell of these rows narrows 'for every input' (looked for: loops, veiled, ifaces, maps, wideKeys, modest, calm, conditions, laid).
  DERIVED. THE GIVEN ROWS OF THIS SEAT. 1 by the template 'for every input the law returns true; each argument reads behind the call as it read before'; 0 by the template 'total and deterministic' (their statements: Qxb6605724aFmtTotals.lean).
  GIVEN WITH THE SEED: the statements are not yours to turn. If you find one false, say at which input.
  Laid BY PROGRAM, IN A SANDBOX (cutbox-rows.mjs): the forced cells as the released guide's own fill.sh prints them over the translation fee687614081d7b1… (all of the seat's roots in one cut). By AI agents, Wed Nov 11 2026. No macro, syntax, notation, axiom, sorry.
-/
import Derived.Test.Qxb6605724aFmtChecked
import GoSem.Claim
import GoSem.ClaimJoined
import GoSem.ClaimMapViews
import Derived.JoinedTies
import Derived.KernelRfl
namespace Go.Proofs.Qxb6605724aFmt
/- THE CELL 'sum', in the pinned program and in every row, IS THE sha256 OF THE DUMP (.gsa) THAT Qxb6605724aFmtProg.lean LOADS. Nothing in Lean hashes anything: it is a label: what it is worth is what the hold of that sum in a sandbox is worth. -/
noncomputable def Tryf.pinned : Pinned := { name := "qxb6605724afmt", sum := "fee687614081d7b1df6d59cedd99e0040b6a93ff788051142df1eaa4c2b14160", checked := Tryf.checked }
namespace Rows
def none {H : Type} : Left H := { results := [], args := [] }

/-- 'zzlaws_root_b1.FnCountedParsesBack': WHATEVER THE INPUT: true; the input reads as it did. -/
def fnCountedParsesBackSpec : ChangeSpec := { name := "fnCountedParsesBack", fn := fun _ => fun
  | [d1, d2] => { results := [.lit (.bool true)], args := [d1, d2] }
  | _ => none }
def fnCountedParsesBackRow : OpenClaim := { program := "qxb6605724afmt", sum := "fee687614081d7b1df6d59cedd99e0040b6a93ff788051142df1eaa4c2b14160", func := "example.com/fieldwright/fieldwright/zzlaws_root_b1.FnCountedParsesBack", spec := "fnCountedParsesBack", stops := ["fmt.Sprintf"], inPlace := ["fmt.Sprintf"], apart := false }
/-- NO THEOREM (fmt's text is open here; it may be false): for the released tool's asking of the row's closed facts alone. THE STATEMENT IS 'FnCountedParsesBackToldSaid' (Qxb6605724aFmtCards.lean). -/
def FnCountedParsesBackFormAsk : Prop := fnCountedParsesBackRow.holds Tryf.pinned (OpenSpec.ofChange fnCountedParsesBackSpec)

/-- ITS FALSE NEIGHBOUR: 'it returns false'. Refute it at one input. -/
def fnCountedParsesBackWrong : ChangeSpec := { name := "fnCountedParsesBack", fn := fun _ => fun
  | [d1, d2] => { results := [.lit (.bool false)], args := [d1, d2] }
  | _ => none }
def FnCountedParsesBackWrongFormAsk : Prop := fnCountedParsesBackRow.holds Tryf.pinned (OpenSpec.ofChange fnCountedParsesBackWrong)

end Rows
end Go.Proofs.Qxb6605724aFmt
