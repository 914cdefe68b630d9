/-
  DERIVED. GIVEN WITH THE SEED: THE CARDS: each row of Qxb6612243aDoorRows.lean that lists a variable, with what it lists TIED to the program's text (the seventh form; the later family's looks); each row that meets fmt, with fmt's text TOLD by the authors' own Lean function (tested against real Go, not proved from fmt's source: count such statements apart). THE CARD IS WHAT COUNTS. Prove the row's statement (the work); the ties are given (Qxb6612243aDoorTie.lean); close each card by the builder's one call (the guide's Derived/Test/ToyasCard.lean, 'card_holds'). Laid BY PROGRAM, IN A SANDBOX (cutbox-door.mjs). By AI agents, Wed Nov 11 2026. No macro, syntax, notation, axiom, sorry.
-/
import Derived.Test.Qxb6612243aDoorRows
import GoSem.ClaimSeven
namespace Go.Proofs.Qxb6612243aDoor
namespace Rows

/-- THE TIED CARD OF 'zzlaws_root_b1.FnWholeNumberJSONText'. -/
def fnWholeNumberJSONTextCard : Claim7 := { stood := { row := fnWholeNumberJSONTextRow, standIns := [], harness := (true, "622e861c8c3f7fdb0a407caee8310d20f3a708ee327a9e75d3be20ae3114f77c"), looks := true }, kinds := [], alts := [], laidByText := true, laidKinds := [.data, .data, .data, .sentinel, .sentinel], laidTests := true, laidLooks := .later }
def FnWholeNumberJSONTextCardSaid : Prop := Claim7.holds Tryd.pinned (.plain (OpenSpec.ofChange fnWholeNumberJSONTextSpec)) fnWholeNumberJSONTextCard
end Rows
end Go.Proofs.Qxb6612243aDoor
