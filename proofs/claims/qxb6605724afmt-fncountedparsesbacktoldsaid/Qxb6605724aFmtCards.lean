/-
  DERIVED. GIVEN WITH THE SEED: THE CARDS: each row of Qxb6605724aFmtRows.lean that lists a variable, with what it lists TIED to the program's text (the seventh form; the later family's looks); each row that meets fmt, with fmt's text TOLD by the authors' own Lean function (tested against real Go, not proved from fmt's source: count such statements apart). THE CARD IS WHAT COUNTS. Prove the row's statement (the work); the ties are given (Qxb6605724aFmtTie.lean); close each card by the builder's one call (the guide's Derived/Test/ToyasCard.lean, 'card_holds'). Laid BY PROGRAM, IN A SANDBOX (cutbox-door.mjs). By AI agents, Wed Nov 11 2026. No macro, syntax, notation, axiom, sorry.
-/
import Derived.Test.Qxb6605724aFmtRows
import GoSem.ClaimSeven
namespace Go.Proofs.Qxb6605724aFmt
namespace Rows

/-- THE TOLD CARD OF 'zzlaws_root_b1.FnCountedParsesBack'. -/
def fnCountedParsesBackCard : Claim7 := { stood := { row := fnCountedParsesBackRow, standIns := [], harness := (true, "1b057d576d7626514dd1f932d05d430ade5a2a503eb616c9bbdbb61d5aca6db5"), looks := false }, told := true, goes := false }
def FnCountedParsesBackToldSaid : Prop := Claim7.holds Tryf.pinned (.plain (OpenSpec.ofChange fnCountedParsesBackSpec)) fnCountedParsesBackCard
/-- ITS FALSE NEIGHBOUR. Refute it at one input. -/
def FnCountedParsesBackToldWrongFalsely : Prop := Claim7.holds Tryf.pinned (.plain (OpenSpec.ofChange fnCountedParsesBackWrong)) fnCountedParsesBackCard
end Rows
end Go.Proofs.Qxb6605724aFmt
