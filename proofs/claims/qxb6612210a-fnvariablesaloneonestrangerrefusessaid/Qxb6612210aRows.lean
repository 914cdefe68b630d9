/-
  No cell of these rows narrows 'for every input' (looked for: loops, veiled, ifaces, maps, wideKeys, modest, calm, conditions, laid).
  DERIVED. THE GIVEN ROWS OF THIS SEAT. 3 by the template 'for every input the law returns true; each argument reads behind the call as it read before'; 0 by the template 'total and deterministic' (their statements: Qxb6612210aTotals.lean).
  GIVEN WITH THE SEED: the statements are not yours to turn. If you find one false, say at which input.
  Laid BY PROGRAM, IN A SANDBOX (cutbox-rows.mjs): the forced cells as the released guide's own fill.sh prints them over the translation 441023b626349199… (all of the seat's roots in one cut). By AI agents, Wed Nov 11 2026. No macro, syntax, notation, axiom, sorry.
-/
import Derived.Test.Qxb6612210aChecked
import GoSem.Claim
import GoSem.ClaimJoined
import GoSem.ClaimMapViews
import Derived.JoinedTies
import Derived.KernelRfl
namespace Go.Proofs.Qxb6612210a
/- THE CELL 'sum', in the pinned program and in every row, IS THE sha256 OF THE DUMP (.gsa) THAT Qxb6612210aProg.lean LOADS. Nothing in Lean hashes anything: it is a label: what it is worth is what the hold of that sum in a sandbox is worth. -/
noncomputable def Try.pinned : Pinned := { name := "qxb6612210a", sum := "441023b626349199ec40a44a8ee4a38f1266452bb8f48f647cd800eb67026677", checked := Try.checked }
namespace Rows
def none {H : Type} : Left H := { results := [], args := [] }

/-- 'zzlaws_engine_b1.FnIsNumberExactlyInts': WHATEVER THE INPUT: true; the input reads as it did. -/
def fnIsNumberExactlyIntsSpec : ChangeSpec := { name := "fnIsNumberExactlyInts", fn := fun _ => fun
  | [d1, d2] => { results := [.lit (.bool true)], args := [d1, d2] }
  | _ => none }
def fnIsNumberExactlyIntsRow : OpenClaim := { program := "qxb6612210a", sum := "441023b626349199ec40a44a8ee4a38f1266452bb8f48f647cd800eb67026677", func := "example.com/gapwarden/gapwarden/zzlaws_engine_b1.FnIsNumberExactlyInts", spec := "fnIsNumberExactlyInts", apart := false }
def FnIsNumberExactlyIntsSaid : Prop := fnIsNumberExactlyIntsRow.holds Try.pinned (OpenSpec.ofChange fnIsNumberExactlyIntsSpec)

/-- ITS FALSE NEIGHBOUR: 'it returns false'. Refute it at one input. -/
def fnIsNumberExactlyIntsWrong : ChangeSpec := { name := "fnIsNumberExactlyInts", fn := fun _ => fun
  | [d1, d2] => { results := [.lit (.bool false)], args := [d1, d2] }
  | _ => none }
def FnIsNumberExactlyIntsWrongFalsely : Prop := fnIsNumberExactlyIntsRow.holds Try.pinned (OpenSpec.ofChange fnIsNumberExactlyIntsWrong)

/-- 'zzlaws_engine_b1.FnVariablesAloneOneStrangerRefuses': WHATEVER THE INPUT: true; the input reads as it did. -/
def fnVariablesAloneOneStrangerRefusesSpec : ChangeSpec := { name := "fnVariablesAloneOneStrangerRefuses", fn := fun _ => fun
  | [d1, d2, d3] => { results := [.lit (.bool true)], args := [d1, d2, d3] }
  | _ => none }
def fnVariablesAloneOneStrangerRefusesRow : OpenClaim := { program := "qxb6612210a", sum := "441023b626349199ec40a44a8ee4a38f1266452bb8f48f647cd800eb67026677", func := "example.com/gapwarden/gapwarden/zzlaws_engine_b1.FnVariablesAloneOneStrangerRefuses", spec := "fnVariablesAloneOneStrangerRefuses", apart := false }
def FnVariablesAloneOneStrangerRefusesSaid : Prop := fnVariablesAloneOneStrangerRefusesRow.holds Try.pinned (OpenSpec.ofChange fnVariablesAloneOneStrangerRefusesSpec)

/-- ITS FALSE NEIGHBOUR: 'it returns false'. Refute it at one input. -/
def fnVariablesAloneOneStrangerRefusesWrong : ChangeSpec := { name := "fnVariablesAloneOneStrangerRefuses", fn := fun _ => fun
  | [d1, d2, d3] => { results := [.lit (.bool false)], args := [d1, d2, d3] }
  | _ => none }
def FnVariablesAloneOneStrangerRefusesWrongFalsely : Prop := fnVariablesAloneOneStrangerRefusesRow.holds Try.pinned (OpenSpec.ofChange fnVariablesAloneOneStrangerRefusesWrong)

/-- 'zzlaws_engine_b1.FnTextValueInjective': WHATEVER THE INPUT: true; the input reads as it did. -/
def fnTextValueInjectiveSpec : ChangeSpec := { name := "fnTextValueInjective", fn := fun _ => fun
  | [d1, d2] => { results := [.lit (.bool true)], args := [d1, d2] }
  | _ => none }
def fnTextValueInjectiveRow : OpenClaim := { program := "qxb6612210a", sum := "441023b626349199ec40a44a8ee4a38f1266452bb8f48f647cd800eb67026677", func := "example.com/gapwarden/gapwarden/zzlaws_engine_b1.FnTextValueInjective", spec := "fnTextValueInjective", apart := false }
def FnTextValueInjectiveSaid : Prop := fnTextValueInjectiveRow.holds Try.pinned (OpenSpec.ofChange fnTextValueInjectiveSpec)

/-- ITS FALSE NEIGHBOUR: 'it returns false'. Refute it at one input. -/
def fnTextValueInjectiveWrong : ChangeSpec := { name := "fnTextValueInjective", fn := fun _ => fun
  | [d1, d2] => { results := [.lit (.bool false)], args := [d1, d2] }
  | _ => none }
def FnTextValueInjectiveWrongFalsely : Prop := fnTextValueInjectiveRow.holds Try.pinned (OpenSpec.ofChange fnTextValueInjectiveWrong)

end Rows
end Go.Proofs.Qxb6612210a
