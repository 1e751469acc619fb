/-
  DERIVED. GIVEN WITH THE SEED: THE CARDS: each row of YtlafdmmjbkdkaaaGreatDoorRows.lean that lists a variable, with what it lists TIED to the program's text (the seventh form; the later family's looks); each row that meets fmt, with fmt's text TOLD by the authors' own Lean function (tested against real Go, not proved from fmt's source: count such statements apart). THE CARD IS WHAT COUNTS. Prove the row's statement (the work); the ties are given (YtlafdmmjbkdkaaaGreatDoorTie.lean); close each card by the builder's one call (the guide's Derived/Test/ToyasCard.lean, 'card_holds'). Laid BY PROGRAM, IN A SANDBOX (cutbox-door.mjs). By AI agents, Wed Nov 11 2026. No macro, syntax, notation, axiom, sorry.
-/
import Derived.Test.YtlafdmmjbkdkaaaGreatDoorRows
import GoSem.ClaimSeven
namespace Go.Proofs.YtlafdmmjbkdkaaaGreatDoor
namespace Rows

/-- THE TIED CARD OF 'laws.FnWrExtract'. -/
def fnWrExtractCard : Claim7 := { stood := { row := fnWrExtractRow, standIns := [], harness := (true, "f63237c185f668ac17e953199baa4a0ea5594039656a8932e220dea53ca10c56"), looks := true }, kinds := [], alts := [], laidByText := true, laidKinds := [.sentinel, .sentinel, .sentinel, .sentinel, .sentinel, .sentinel, .sentinel, .sentinel, .sentinel, .sentinel, .sentinel, .sentinel, .sentinel, .sentinel, .sentinel, .sentinel, .sentinel, .data, .sentinel, .sentinel, .sentinel, .sentinel], laidTests := true, laidLooks := .later }
def FnWrExtractCardSaid : Prop := Claim7.holds Tryz.pinned (.plain (OpenSpec.ofChange fnWrExtractSpec)) fnWrExtractCard

/-- THE SECOND FORM's CARD OF 'laws.FnWrExtract'. -/
def fnWrExtractUptoCard : Claim7 := { stood := { row := fnWrExtractUptoRow, standIns := [], harness := (true, "f63237c185f668ac17e953199baa4a0ea5594039656a8932e220dea53ca10c56"), looks := true }, kinds := [], alts := [], laidByText := true, laidKinds := [.sentinel, .sentinel, .sentinel, .sentinel, .sentinel, .sentinel, .sentinel, .sentinel, .sentinel, .sentinel, .sentinel, .sentinel, .sentinel, .sentinel, .sentinel, .sentinel, .sentinel, .data, .sentinel, .sentinel, .sentinel, .sentinel], laidTests := true, laidLooks := .later }
def FnWrExtractUptoCardSaid : Prop := Claim7.holds Tryz.pinned (.plain (OpenSpec.upto fnWrExtractSpec)) fnWrExtractUptoCard
end Rows
end Go.Proofs.YtlafdmmjbkdkaaaGreatDoor
