/-
  DERIVED. GIVEN WITH THE SEED: THE CARDS: each row of YtdfhfaeeejijcaaDoorRows.lean that lists a variable, with what it lists TIED to the program's text (the seventh form; the later family's looks); each row that meets fmt, with fmt's text TOLD by the authors' own Lean function (tested against real Go, not proved from fmt's source: count such statements apart). THE CARD IS WHAT COUNTS. Prove the row's statement (the work); the ties are given (YtdfhfaeeejijcaaDoorTie.lean); close each card by the builder's one call (the guide's Derived/Test/ToyasCard.lean, 'card_holds'). Laid BY PROGRAM, IN A SANDBOX (cutbox-door.mjs). By AI agents, Wed Nov 11 2026. No macro, syntax, notation, axiom, sorry.
-/
import Derived.Test.YtdfhfaeeejijcaaDoorRows
import GoSem.ClaimSeven
namespace Go.Proofs.YtdfhfaeeejijcaaDoor
namespace Rows

/-- THE TIED CARD OF 'laws.FnHdTurned'. -/
def fnHdTurnedCard : Claim7 := { stood := { row := fnHdTurnedRow, standIns := [], harness := (true, "83db61eedde0f5e2a6c36ac6f8be9f71f6f394dbc57886280c24af079b23611c"), looks := true }, kinds := [], alts := [], laidByText := true, laidKinds := [.sentinel, .sentinel, .sentinel, .sentinel, .sentinel, .sentinel, .data], laidTests := true, laidLooks := .later }
def FnHdTurnedCardSaid : Prop := Claim7.holds Tryd.pinned (.plain (OpenSpec.ofChange fnHdTurnedSpec)) fnHdTurnedCard

/-- THE TIED CARD OF 'laws.FnIiGet'. -/
def fnIiGetCard : Claim7 := { stood := { row := fnIiGetRow, standIns := [], harness := (true, "83db61eedde0f5e2a6c36ac6f8be9f71f6f394dbc57886280c24af079b23611c"), looks := true }, kinds := [], alts := [], laidByText := true, laidKinds := [.data, .data, .sentinel, .sentinel, .sentinel, .sentinel, .sentinel, .sentinel, .data, .sentinel, .sentinel], laidTests := true, laidLooks := .later }
def FnIiGetCardSaid : Prop := Claim7.holds Tryd.pinned (.plain (OpenSpec.ofChange fnIiGetSpec)) fnIiGetCard

/-- THE TIED CARD OF 'laws.FnC2Back'. -/
def fnC2BackCard : Claim7 := { stood := { row := fnC2BackRow, standIns := [], harness := (true, "83db61eedde0f5e2a6c36ac6f8be9f71f6f394dbc57886280c24af079b23611c"), looks := true }, kinds := [], alts := [], laidByText := true, laidKinds := [.sentinel, .sentinel, .sentinel], laidTests := true, laidLooks := .later }
def FnC2BackCardSaid : Prop := Claim7.holds Tryd.pinned (.plain (OpenSpec.ofChange fnC2BackSpec)) fnC2BackCard

/-- THE SECOND FORM's CARD OF 'laws.FnHdTurned'. -/
def fnHdTurnedUptoCard : Claim7 := { stood := { row := fnHdTurnedUptoRow, standIns := [], harness := (true, "83db61eedde0f5e2a6c36ac6f8be9f71f6f394dbc57886280c24af079b23611c"), looks := true }, kinds := [], alts := [], laidByText := true, laidKinds := [.sentinel, .sentinel, .sentinel, .sentinel, .sentinel, .sentinel, .data], laidTests := true, laidLooks := .later }
def FnHdTurnedUptoCardSaid : Prop := Claim7.holds Tryd.pinned (.plain (OpenSpec.upto fnHdTurnedSpec)) fnHdTurnedUptoCard

/-- THE SECOND FORM's CARD OF 'laws.FnIiGet'. -/
def fnIiGetUptoCard : Claim7 := { stood := { row := fnIiGetUptoRow, standIns := [], harness := (true, "83db61eedde0f5e2a6c36ac6f8be9f71f6f394dbc57886280c24af079b23611c"), looks := true }, kinds := [], alts := [], laidByText := true, laidKinds := [.data, .data, .sentinel, .sentinel, .sentinel, .sentinel, .sentinel, .sentinel, .data, .sentinel, .sentinel], laidTests := true, laidLooks := .later }
def FnIiGetUptoCardSaid : Prop := Claim7.holds Tryd.pinned (.plain (OpenSpec.upto fnIiGetSpec)) fnIiGetUptoCard

/-- THE SECOND FORM's CARD OF 'laws.FnC2Back'. -/
def fnC2BackUptoCard : Claim7 := { stood := { row := fnC2BackUptoRow, standIns := [], harness := (true, "83db61eedde0f5e2a6c36ac6f8be9f71f6f394dbc57886280c24af079b23611c"), looks := true }, kinds := [], alts := [], laidByText := true, laidKinds := [.sentinel, .sentinel, .sentinel], laidTests := true, laidLooks := .later }
def FnC2BackUptoCardSaid : Prop := Claim7.holds Tryd.pinned (.plain (OpenSpec.upto fnC2BackSpec)) fnC2BackUptoCard
end Rows
end Go.Proofs.YtdfhfaeeejijcaaDoor
