/-
  No cell of these rows narrows 'for every input' (looked for: loops, veiled, ifaces, maps, wideKeys, modest, calm, conditions, laid).
  DERIVED. THE GIVEN ROWS OF THIS SEAT. 1 by the template 'for every input the law returns true; each argument reads behind the call as it read before'; 0 by the template 'total and deterministic' (their statements: Qxb6614202aFmtTotals.lean).
  GIVEN WITH THE SEED: the statements are not yours to turn. If you find one false, say at which input.
  Laid BY PROGRAM, IN A SANDBOX (cutbox-rows.mjs): the forced cells as the released guide's own fill.sh prints them over the translation 5001e04d979badff… (all of the seat's roots in one cut). By AI agents, Wed Nov 11 2026. No macro, syntax, notation, axiom, sorry.
-/
import Derived.Test.Qxb6614202aFmtChecked
import GoSem.Claim
import GoSem.ClaimJoined
import GoSem.ClaimMapViews
import Derived.JoinedTies
import Derived.KernelRfl
namespace Go.Proofs.Qxb6614202aFmt
/- THE CELL 'sum', in the pinned program and in every row, IS THE sha256 OF THE DUMP (.gsa) THAT Qxb6614202aFmtProg.lean LOADS. Nothing in Lean hashes anything: it is a label: what it is worth is what the hold of that sum in a sandbox is worth. -/
noncomputable def Tryf.pinned : Pinned := { name := "qxb6614202afmt", sum := "5001e04d979badff3eb19d7df62abfefbf5ede544521db2eb45136671bd7520e", checked := Tryf.checked }
namespace Rows
def none {H : Type} : Left H := { results := [], args := [] }

/-- 'zzlaws_pkg_awsapi_b1.FnFailAlwaysReportsAndLeavesParserAsItWas': WHATEVER THE INPUT: true; the input reads as it did. -/
def fnFailAlwaysReportsAndLeavesParserAsItWasSpec : ChangeSpec := { name := "fnFailAlwaysReportsAndLeavesParserAsItWas", fn := fun _ => fun
  | [d1, d2, d3] => { results := [.lit (.bool true)], args := [d1, d2, d3] }
  | _ => none }
def fnFailAlwaysReportsAndLeavesParserAsItWasRow : OpenClaim := { program := "qxb6614202afmt", sum := "5001e04d979badff3eb19d7df62abfefbf5ede544521db2eb45136671bd7520e", func := "example.com/vouchsafe/vouchsafe/zzlaws_pkg_awsapi_b1.FnFailAlwaysReportsAndLeavesParserAsItWas", spec := "fnFailAlwaysReportsAndLeavesParserAsItWas", stops := ["fmt.errorf"], inPlace := ["fmt.errorf"], apart := false }
/-- NO THEOREM (fmt's text is open here; it may be false): for the released tool's asking of the row's closed facts alone. THE STATEMENT IS 'FnFailAlwaysReportsAndLeavesParserAsItWasToldSaid' (Qxb6614202aFmtCards.lean). -/
def FnFailAlwaysReportsAndLeavesParserAsItWasFormAsk : Prop := fnFailAlwaysReportsAndLeavesParserAsItWasRow.holds Tryf.pinned (OpenSpec.ofChange fnFailAlwaysReportsAndLeavesParserAsItWasSpec)

/-- ITS FALSE NEIGHBOUR: 'it returns false'. Refute it at one input. -/
def fnFailAlwaysReportsAndLeavesParserAsItWasWrong : ChangeSpec := { name := "fnFailAlwaysReportsAndLeavesParserAsItWas", fn := fun _ => fun
  | [d1, d2, d3] => { results := [.lit (.bool false)], args := [d1, d2, d3] }
  | _ => none }
def FnFailAlwaysReportsAndLeavesParserAsItWasWrongFormAsk : Prop := fnFailAlwaysReportsAndLeavesParserAsItWasRow.holds Tryf.pinned (OpenSpec.ofChange fnFailAlwaysReportsAndLeavesParserAsItWasWrong)

end Rows
end Go.Proofs.Qxb6614202aFmt
