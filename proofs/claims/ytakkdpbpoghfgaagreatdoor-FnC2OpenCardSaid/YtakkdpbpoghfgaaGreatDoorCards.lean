/-
  DERIVED. GIVEN WITH THE SEED: THE CARDS: each row of YtakkdpbpoghfgaaGreatDoorRows.lean that lists a variable, with what it lists TIED to the program's text (the seventh form; the later family's looks); each row that meets fmt, with fmt's text TOLD by the authors' own Lean function (tested against real Go, not proved from fmt's source: count such statements apart). THE CARD IS WHAT COUNTS. Prove the row's statement (the work); the ties are given (YtakkdpbpoghfgaaGreatDoorTie.lean); close each card by the builder's one call (the guide's Derived/Test/ToyasCard.lean, 'card_holds'). Laid BY PROGRAM, IN A SANDBOX (cutbox-door.mjs). By AI agents, Wed Nov 11 2026. No macro, syntax, notation, axiom, sorry.
-/
import Derived.Test.YtakkdpbpoghfgaaGreatDoorRows
import GoSem.ClaimSeven
namespace Go.Proofs.YtakkdpbpoghfgaaGreatDoor
namespace Rows

/-- THE TIED CARD OF 'laws.FnC2Open'. -/
def fnC2OpenCard : Claim7 := { stood := { row := fnC2OpenRow, standIns := [], harness := (true, "3c73dc7228e63acb50de09cc3090519a67ae32a2b032a5420c2664fc20d2978f"), looks := true }, kinds := [], alts := [], laidByText := true, laidKinds := [.sentinel, .sentinel, .sentinel, .sentinel, .sentinel, .sentinel, .sentinel, .sentinel, .sentinel, .sentinel, .sentinel, .sentinel, .sentinel, .sentinel, .sentinel, .data, .sentinel, .sentinel, .sentinel], laidTests := true, laidLooks := .later }
def FnC2OpenCardSaid : Prop := Claim7.holds Tryz.pinned (.plain (OpenSpec.ofChange fnC2OpenSpec)) fnC2OpenCard

/-- THE SECOND FORM's CARD OF 'laws.FnC2Open'. -/
def fnC2OpenUptoCard : Claim7 := { stood := { row := fnC2OpenUptoRow, standIns := [], harness := (true, "3c73dc7228e63acb50de09cc3090519a67ae32a2b032a5420c2664fc20d2978f"), looks := true }, kinds := [], alts := [], laidByText := true, laidKinds := [.sentinel, .sentinel, .sentinel, .sentinel, .sentinel, .sentinel, .sentinel, .sentinel, .sentinel, .sentinel, .sentinel, .sentinel, .sentinel, .sentinel, .sentinel, .data, .sentinel, .sentinel, .sentinel], laidTests := true, laidLooks := .later }
def FnC2OpenUptoCardSaid : Prop := Claim7.holds Tryz.pinned (.plain (OpenSpec.upto fnC2OpenSpec)) fnC2OpenUptoCard
end Rows
end Go.Proofs.YtakkdpbpoghfgaaGreatDoor
