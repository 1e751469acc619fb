/-
  DERIVED. GIVEN WITH THE SEED: THE CARDS: each row of YtcljffldbnoljaaGreatDoorRows.lean that lists a variable, with what it lists TIED to the program's text (the seventh form; the later family's looks); each row that meets fmt, with fmt's text TOLD by the authors' own Lean function (tested against real Go, not proved from fmt's source: count such statements apart). THE CARD IS WHAT COUNTS. Prove the row's statement (the work); the ties are given (YtcljffldbnoljaaGreatDoorTie.lean); close each card by the builder's one call (the guide's Derived/Test/ToyasCard.lean, 'card_holds'). Laid BY PROGRAM, IN A SANDBOX (cutbox-door.mjs). By AI agents, Wed Nov 11 2026. No macro, syntax, notation, axiom, sorry.
-/
import Derived.Test.YtcljffldbnoljaaGreatDoorRows
import GoSem.ClaimSeven
namespace Go.Proofs.YtcljffldbnoljaaGreatDoor
namespace Rows

/-- THE TIED CARD OF 'laws.FnIiFlatBytes'. -/
def fnIiFlatBytesCard : Claim7 := { stood := { row := fnIiFlatBytesRow, standIns := [], harness := (true, "43c58d99b752eb28eca6fc15cd4212a77b16d3b00b26b088fb89aa78fd097bd7"), looks := true }, kinds := [], alts := [], laidByText := true, laidKinds := [.data, .data, .sentinel, .sentinel, .sentinel, .sentinel, .sentinel, .sentinel, .data], laidTests := true, laidLooks := .later }
def FnIiFlatBytesCardSaid : Prop := Claim7.holds Tryz.pinned (.plain (OpenSpec.ofChange fnIiFlatBytesSpec)) fnIiFlatBytesCard

/-- THE SECOND FORM's CARD OF 'laws.FnIiFlatBytes'. -/
def fnIiFlatBytesUptoCard : Claim7 := { stood := { row := fnIiFlatBytesUptoRow, standIns := [], harness := (true, "43c58d99b752eb28eca6fc15cd4212a77b16d3b00b26b088fb89aa78fd097bd7"), looks := true }, kinds := [], alts := [], laidByText := true, laidKinds := [.data, .data, .sentinel, .sentinel, .sentinel, .sentinel, .sentinel, .sentinel, .data], laidTests := true, laidLooks := .later }
def FnIiFlatBytesUptoCardSaid : Prop := Claim7.holds Tryz.pinned (.plain (OpenSpec.upto fnIiFlatBytesSpec)) fnIiFlatBytesUptoCard
end Rows
end Go.Proofs.YtcljffldbnoljaaGreatDoor
