/-
  DERIVED. GIVEN WITH THE SEED: THE CARDS: each row of Qxb6614202aFmtRows.lean that lists a variable, with what it lists TIED to the program's text (the seventh form; the later family's looks); each row that meets fmt, with fmt's text TOLD by the authors' own Lean function (tested against real Go, not proved from fmt's source: count such statements apart). THE CARD IS WHAT COUNTS. Prove the row's statement (the work); the ties are given (Qxb6614202aFmtTie.lean); close each card by the builder's one call (the guide's Derived/Test/ToyasCard.lean, 'card_holds'). Laid BY PROGRAM, IN A SANDBOX (cutbox-door.mjs). By AI agents, Wed Nov 11 2026. No macro, syntax, notation, axiom, sorry.
-/
import Derived.Test.Qxb6614202aFmtRows
import GoSem.ClaimSeven
namespace Go.Proofs.Qxb6614202aFmt
namespace Rows

/-- THE TOLD CARD OF 'zzlaws_pkg_awsapi_b1.FnFailAlwaysReportsAndLeavesParserAsItWas'. -/
def fnFailAlwaysReportsAndLeavesParserAsItWasCard : Claim7 := { stood := { row := fnFailAlwaysReportsAndLeavesParserAsItWasRow, standIns := [], harness := (true, "ffddddef036a85a404e269f6030bf5bd8025642ff1e453007c4b44d6414b1f03"), looks := false }, told := true, goes := false }
def FnFailAlwaysReportsAndLeavesParserAsItWasToldSaid : Prop := Claim7.holds Tryf.pinned (.plain (OpenSpec.ofChange fnFailAlwaysReportsAndLeavesParserAsItWasSpec)) fnFailAlwaysReportsAndLeavesParserAsItWasCard
/-- ITS FALSE NEIGHBOUR. Refute it at one input. -/
def FnFailAlwaysReportsAndLeavesParserAsItWasToldWrongFalsely : Prop := Claim7.holds Tryf.pinned (.plain (OpenSpec.ofChange fnFailAlwaysReportsAndLeavesParserAsItWasWrong)) fnFailAlwaysReportsAndLeavesParserAsItWasCard
end Rows
end Go.Proofs.Qxb6614202aFmt
