/-
  NARROWER THAN 'FOR EVERY INPUT', by the rows' own cells (each row's printed sentence says how): FnReadRecordInvertsWriteRecord: ifaces, laid.
  DERIVED. THE GIVEN ROWS OF THIS SEAT. 1 by the template 'for every input the law returns true; each argument reads behind the call as it read before'; 0 by the template 'total and deterministic' (their statements: Qxb6613954aFmtTotals.lean).
  GIVEN WITH THE SEED: the statements are not yours to turn. If you find one false, say at which input.
  Laid BY PROGRAM, IN A SANDBOX (cutbox-rows.mjs): the forced cells as the released guide's own fill.sh prints them over the translation 4c993c3c7bc52928… (all of the seat's roots in one cut). By AI agents, Wed Nov 11 2026. No macro, syntax, notation, axiom, sorry.
-/
import Derived.Test.Qxb6613954aFmtChecked
import GoSem.Claim
import GoSem.ClaimJoined
import GoSem.ClaimMapViews
import Derived.JoinedTies
import Derived.KernelRfl
namespace Go.Proofs.Qxb6613954aFmt
/- THE CELL 'sum', in the pinned program and in every row, IS THE sha256 OF THE DUMP (.gsa) THAT Qxb6613954aFmtProg.lean LOADS. Nothing in Lean hashes anything: it is a label: what it is worth is what the hold of that sum in a sandbox is worth. -/
noncomputable def Tryf.pinned : Pinned := { name := "qxb6613954afmt", sum := "4c993c3c7bc529289f82855e7f1a558635e7a7121f371d2981cb373df50b38de", checked := Tryf.checked }
namespace Rows
def none {H : Type} : Left H := { results := [], args := [] }

/- WHAT THE LISTED PACKAGE-LEVEL VARIABLES READ AS WHEN THE CALL BEGINS. Each datum BY PROGRAM (the guide's laid-datum.mjs) off the statement by which the dump's own 'gosem.cut.vars' lays the variable. In a bare row this is a premise. The card (Qxb6613954aFmtCards.lean) ties it to the program's text. -/
def laid_example_com_orderweave_orderweave_internal_wire_errShort {H : Type} : DataW H := .iface "*errors.errorString" (.ptr (.agg [.lit (.string [109, 101, 115, 115, 97, 103, 101, 32, 101, 110, 100, 115, 32, 101, 97, 114, 108, 121])]))

/-- 'zzlaws_internal_index_b1.FnReadRecordInvertsWriteRecord': WHATEVER THE INPUT: true; the input reads as it did. -/
def fnReadRecordInvertsWriteRecordSpec : ChangeSpec := { name := "fnReadRecordInvertsWriteRecord", vars := ["example.com/orderweave/orderweave/internal/wire.errShort"], fn := fun _ => fun
  | [d1, d2, d3, d4, d5, g1] => { results := [.lit (.bool true)], args := [d1, d2, d3, d4, d5], vars := [g1] }
  | _ => none }
def fnReadRecordInvertsWriteRecordRow : OpenClaim := { program := "qxb6613954afmt", sum := "4c993c3c7bc529289f82855e7f1a558635e7a7121f371d2981cb373df50b38de", func := "example.com/orderweave/orderweave/zzlaws_internal_index_b1.FnReadRecordInvertsWriteRecord", spec := "fnReadRecordInvertsWriteRecord", stops := ["fmt.errorf, its operands' methods called"], inPlace := ["math.Float64bits", "math.Float64frombits", "fmt.errorf", "internal/abi.NoEscape", "internal/bytealg.MakeNoZero"], unfollowed := true, recurses := true, named := ["encoding/binary.BigEndian", "example.com/orderweave/orderweave/internal/wire.errShort"], ifaces := true, apart := false, laid := [("example.com/orderweave/orderweave/internal/wire.errShort", laid_example_com_orderweave_orderweave_internal_wire_errShort)] }
/-- NO THEOREM (fmt's text is open here; it may be false): for the released tool's asking of the row's closed facts alone. THE STATEMENT IS 'FnReadRecordInvertsWriteRecordToldSaid' (Qxb6613954aFmtCards.lean). -/
def FnReadRecordInvertsWriteRecordFormAsk : Prop := fnReadRecordInvertsWriteRecordRow.holds Tryf.pinned (OpenSpec.ofChange fnReadRecordInvertsWriteRecordSpec)

/-- ITS FALSE NEIGHBOUR: 'it returns false'. Refute it at one input. -/
def fnReadRecordInvertsWriteRecordWrong : ChangeSpec := { name := "fnReadRecordInvertsWriteRecord", vars := ["example.com/orderweave/orderweave/internal/wire.errShort"], fn := fun _ => fun
  | [d1, d2, d3, d4, d5, g1] => { results := [.lit (.bool false)], args := [d1, d2, d3, d4, d5], vars := [g1] }
  | _ => none }
def FnReadRecordInvertsWriteRecordWrongFormAsk : Prop := fnReadRecordInvertsWriteRecordRow.holds Tryf.pinned (OpenSpec.ofChange fnReadRecordInvertsWriteRecordWrong)

end Rows
end Go.Proofs.Qxb6613954aFmt
