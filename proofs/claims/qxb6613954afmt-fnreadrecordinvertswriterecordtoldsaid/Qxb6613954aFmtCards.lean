/-
  DERIVED. GIVEN WITH THE SEED: THE CARDS: each row of Qxb6613954aFmtRows.lean that lists a variable, with what it lists TIED to the program's text (the seventh form; the later family's looks); each row that meets fmt, with fmt's text TOLD by the authors' own Lean function (tested against real Go, not proved from fmt's source: count such statements apart). THE CARD IS WHAT COUNTS. Prove the row's statement (the work); the ties are given (Qxb6613954aFmtTie.lean); close each card by the builder's one call (the guide's Derived/Test/ToyasCard.lean, 'card_holds'). Laid BY PROGRAM, IN A SANDBOX (cutbox-door.mjs). By AI agents, Wed Nov 11 2026. No macro, syntax, notation, axiom, sorry.
-/
import Derived.Test.Qxb6613954aFmtRows
import GoSem.ClaimSeven
namespace Go.Proofs.Qxb6613954aFmt
namespace Rows

/-- THE TOLD AND TIED CARD OF 'zzlaws_internal_index_b1.FnReadRecordInvertsWriteRecord'. -/
def fnReadRecordInvertsWriteRecordCard : Claim7 := { stood := { row := fnReadRecordInvertsWriteRecordRow, standIns := [], harness := (true, "78d0d91092f92adfab273065119a8daafa1a3cdd67641df317ecbd5a981bdd5d"), looks := false }, told := true, laidByText := true, laidKinds := [.sentinel], laidTests := true, laidLooks := .later, goes := false }
def FnReadRecordInvertsWriteRecordToldSaid : Prop := Claim7.holds Tryf.pinned (.plain (OpenSpec.ofChange fnReadRecordInvertsWriteRecordSpec)) fnReadRecordInvertsWriteRecordCard
/-- ITS FALSE NEIGHBOUR. Refute it at one input. -/
def FnReadRecordInvertsWriteRecordToldWrongFalsely : Prop := Claim7.holds Tryf.pinned (.plain (OpenSpec.ofChange fnReadRecordInvertsWriteRecordWrong)) fnReadRecordInvertsWriteRecordCard
end Rows
end Go.Proofs.Qxb6613954aFmt
