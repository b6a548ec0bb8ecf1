/-
  No cell of these rows narrows 'for every input' (looked for: loops, veiled, ifaces, maps, wideKeys, modest, calm, conditions, laid).
  DERIVED. THE GIVEN ROWS OF THIS SEAT. 4 by the template 'for every input the law returns true; each argument reads behind the call as it read before'; 0 by the template 'total and deterministic' (their statements: Qxb6608516aTotals.lean).
  GIVEN WITH THE SEED: the statements are not yours to turn. If you find one false, say at which input.
  Laid BY PROGRAM, IN A SANDBOX (cutbox-rows.mjs): the forced cells as the released guide's own fill.sh prints them over the translation 689e419fcf940f7c… (all of the seat's roots in one cut). By AI agents, Wed Nov 11 2026. No macro, syntax, notation, axiom, sorry.
-/
import Derived.Test.Qxb6608516aChecked
import GoSem.Claim
import GoSem.ClaimJoined
import GoSem.ClaimMapViews
import Derived.JoinedTies
import Derived.KernelRfl
namespace Go.Proofs.Qxb6608516a
/- THE CELL 'sum', in the pinned program and in every row, IS THE sha256 OF THE DUMP (.gsa) THAT Qxb6608516aProg.lean LOADS. Nothing in Lean hashes anything: it is a label: what it is worth is what the hold of that sum in a sandbox is worth. -/
noncomputable def Try.pinned : Pinned := { name := "qxb6608516a", sum := "689e419fcf940f7c98e2e11718047515d3c9b6c8286c79a1e856a9c7acd23ecd", checked := Try.checked }
namespace Rows
def none {H : Type} : Left H := { results := [], args := [] }

/-- 'zzlaws_pkg_eval_b1.FnStepFieldInjective': WHATEVER THE INPUT: true; the input reads as it did. -/
def fnStepFieldInjectiveSpec : ChangeSpec := { name := "fnStepFieldInjective", fn := fun _ => fun
  | [d1, d2, d3, d4] => { results := [.lit (.bool true)], args := [d1, d2, d3, d4] }
  | _ => none }
def fnStepFieldInjectiveRow : OpenClaim := { program := "qxb6608516a", sum := "689e419fcf940f7c98e2e11718047515d3c9b6c8286c79a1e856a9c7acd23ecd", func := "example.com/permission-map/permission-map/zzlaws_pkg_eval_b1.FnStepFieldInjective", spec := "fnStepFieldInjective", plainKeys := false, apart := false }
def FnStepFieldInjectiveSaid : Prop := fnStepFieldInjectiveRow.holds Try.pinned (OpenSpec.ofChange fnStepFieldInjectiveSpec)

/-- ITS FALSE NEIGHBOUR: 'it returns false'. Refute it at one input. -/
def fnStepFieldInjectiveWrong : ChangeSpec := { name := "fnStepFieldInjective", fn := fun _ => fun
  | [d1, d2, d3, d4] => { results := [.lit (.bool false)], args := [d1, d2, d3, d4] }
  | _ => none }
def FnStepFieldInjectiveWrongFalsely : Prop := fnStepFieldInjectiveRow.holds Try.pinned (OpenSpec.ofChange fnStepFieldInjectiveWrong)

/-- 'zzlaws_pkg_eval_b1.FnLevelOfSetOne': WHATEVER THE INPUT: true; the input reads as it did. -/
def fnLevelOfSetOneSpec : ChangeSpec := { name := "fnLevelOfSetOne", fn := fun _ => fun
  | [d1, d2, d3, d4] => { results := [.lit (.bool true)], args := [d1, d2, d3, d4] }
  | _ => none }
def fnLevelOfSetOneRow : OpenClaim := { program := "qxb6608516a", sum := "689e419fcf940f7c98e2e11718047515d3c9b6c8286c79a1e856a9c7acd23ecd", func := "example.com/permission-map/permission-map/zzlaws_pkg_eval_b1.FnLevelOfSetOne", spec := "fnLevelOfSetOne", plainKeys := false, apart := false }
def FnLevelOfSetOneSaid : Prop := fnLevelOfSetOneRow.holds Try.pinned (OpenSpec.ofChange fnLevelOfSetOneSpec)

/-- ITS FALSE NEIGHBOUR: 'it returns false'. Refute it at one input. -/
def fnLevelOfSetOneWrong : ChangeSpec := { name := "fnLevelOfSetOne", fn := fun _ => fun
  | [d1, d2, d3, d4] => { results := [.lit (.bool false)], args := [d1, d2, d3, d4] }
  | _ => none }
def FnLevelOfSetOneWrongFalsely : Prop := fnLevelOfSetOneRow.holds Try.pinned (OpenSpec.ofChange fnLevelOfSetOneWrong)

/-- 'zzlaws_pkg_eval_b1.FnAddScriptExact': WHATEVER THE INPUT: true; the input reads as it did. -/
def fnAddScriptExactSpec : ChangeSpec := { name := "fnAddScriptExact", fn := fun _ => fun
  | [d1, d2] => { results := [.lit (.bool true)], args := [d1, d2] }
  | _ => none }
def fnAddScriptExactRow : OpenClaim := { program := "qxb6608516a", sum := "689e419fcf940f7c98e2e11718047515d3c9b6c8286c79a1e856a9c7acd23ecd", func := "example.com/permission-map/permission-map/zzlaws_pkg_eval_b1.FnAddScriptExact", spec := "fnAddScriptExact", plainKeys := false, apart := false }
def FnAddScriptExactSaid : Prop := fnAddScriptExactRow.holds Try.pinned (OpenSpec.ofChange fnAddScriptExactSpec)

/-- ITS FALSE NEIGHBOUR: 'it returns false'. Refute it at one input. -/
def fnAddScriptExactWrong : ChangeSpec := { name := "fnAddScriptExact", fn := fun _ => fun
  | [d1, d2] => { results := [.lit (.bool false)], args := [d1, d2] }
  | _ => none }
def FnAddScriptExactWrongFalsely : Prop := fnAddScriptExactRow.holds Try.pinned (OpenSpec.ofChange fnAddScriptExactWrong)

/-- 'zzlaws_pkg_eval_b1.FnAddScriptTwice': WHATEVER THE INPUT: true; the input reads as it did. -/
def fnAddScriptTwiceSpec : ChangeSpec := { name := "fnAddScriptTwice", fn := fun _ => fun
  | [d1, d2] => { results := [.lit (.bool true)], args := [d1, d2] }
  | _ => none }
def fnAddScriptTwiceRow : OpenClaim := { program := "qxb6608516a", sum := "689e419fcf940f7c98e2e11718047515d3c9b6c8286c79a1e856a9c7acd23ecd", func := "example.com/permission-map/permission-map/zzlaws_pkg_eval_b1.FnAddScriptTwice", spec := "fnAddScriptTwice", plainKeys := false, apart := false }
def FnAddScriptTwiceSaid : Prop := fnAddScriptTwiceRow.holds Try.pinned (OpenSpec.ofChange fnAddScriptTwiceSpec)

/-- ITS FALSE NEIGHBOUR: 'it returns false'. Refute it at one input. -/
def fnAddScriptTwiceWrong : ChangeSpec := { name := "fnAddScriptTwice", fn := fun _ => fun
  | [d1, d2] => { results := [.lit (.bool false)], args := [d1, d2] }
  | _ => none }
def FnAddScriptTwiceWrongFalsely : Prop := fnAddScriptTwiceRow.holds Try.pinned (OpenSpec.ofChange fnAddScriptTwiceWrong)

end Rows
end Go.Proofs.Qxb6608516a
