/-
  DERIVED. GIVEN WITH THE SEED: THE CARDS: each row of YtaionnajhgjekaaDoorRows.lean that lists a variable, with what it lists TIED to the program's text (the seventh form; the later family's looks); each row that meets fmt, with fmt's text TOLD by the authors' own Lean function (tested against real Go, not proved from fmt's source: count such statements apart). THE CARD IS WHAT COUNTS. Prove the row's statement (the work); the ties are given (YtaionnajhgjekaaDoorTie.lean); close each card by the builder's one call (the guide's Derived/Test/ToyasCard.lean, 'card_holds'). Laid BY PROGRAM, IN A SANDBOX (cutbox-door.mjs). By AI agents, Wed Nov 11 2026. No macro, syntax, notation, axiom, sorry.
-/
import Derived.Test.YtaionnajhgjekaaDoorRows
import GoSem.ClaimSeven
namespace Go.Proofs.YtaionnajhgjekaaDoor
namespace Rows

/-- THE TIED CARD OF 'laws.FnLdBack'. -/
def fnLdBackCard : Claim7 := { stood := { row := fnLdBackRow, standIns := [], harness := (true, "c4028858f4e39e5960d045ef7505ffa61476347ffae49d28732b05dfafaa48ee"), looks := true }, kinds := [], alts := [], laidByText := true, laidKinds := [.sentinel, .sentinel, .sentinel, .sentinel, .sentinel, .sentinel], laidTests := true, laidLooks := .later }
def FnLdBackCardSaid : Prop := Claim7.holds Tryd.pinned (.plain (OpenSpec.ofChange fnLdBackSpec)) fnLdBackCard

/-- THE TIED CARD OF 'laws.FnLdJoin'. -/
def fnLdJoinCard : Claim7 := { stood := { row := fnLdJoinRow, standIns := [], harness := (true, "c4028858f4e39e5960d045ef7505ffa61476347ffae49d28732b05dfafaa48ee"), looks := true }, kinds := [], alts := [], laidByText := true, laidKinds := [.sentinel, .sentinel, .sentinel, .sentinel, .sentinel, .sentinel], laidTests := true, laidLooks := .later }
def FnLdJoinCardSaid : Prop := Claim7.holds Tryd.pinned (.plain (OpenSpec.ofChange fnLdJoinSpec)) fnLdJoinCard

/-- THE TIED CARD OF 'laws.FnSeTwo'. -/
def fnSeTwoCard : Claim7 := { stood := { row := fnSeTwoRow, standIns := [], harness := (true, "c4028858f4e39e5960d045ef7505ffa61476347ffae49d28732b05dfafaa48ee"), looks := true }, kinds := [], alts := [], laidByText := true, laidKinds := [.sentinel, .sentinel, .sentinel, .sentinel, .sentinel, .sentinel, .sentinel, .sentinel, .sentinel, .data, .sentinel], laidTests := true, laidLooks := .later }
def FnSeTwoCardSaid : Prop := Claim7.holds Tryd.pinned (.plain (OpenSpec.ofChange fnSeTwoSpec)) fnSeTwoCard

/-- THE TIED CARD OF 'laws.FnSeBlock'. -/
def fnSeBlockCard : Claim7 := { stood := { row := fnSeBlockRow, standIns := [], harness := (true, "c4028858f4e39e5960d045ef7505ffa61476347ffae49d28732b05dfafaa48ee"), looks := true }, kinds := [], alts := [], laidByText := true, laidKinds := [.sentinel, .sentinel, .sentinel, .sentinel, .sentinel, .sentinel, .sentinel, .sentinel, .sentinel, .data, .sentinel], laidTests := true, laidLooks := .later }
def FnSeBlockCardSaid : Prop := Claim7.holds Tryd.pinned (.plain (OpenSpec.ofChange fnSeBlockSpec)) fnSeBlockCard

/-- THE SECOND FORM's CARD OF 'laws.FnLdBack'. -/
def fnLdBackUptoCard : Claim7 := { stood := { row := fnLdBackUptoRow, standIns := [], harness := (true, "c4028858f4e39e5960d045ef7505ffa61476347ffae49d28732b05dfafaa48ee"), looks := true }, kinds := [], alts := [], laidByText := true, laidKinds := [.sentinel, .sentinel, .sentinel, .sentinel, .sentinel, .sentinel], laidTests := true, laidLooks := .later }
def FnLdBackUptoCardSaid : Prop := Claim7.holds Tryd.pinned (.plain (OpenSpec.upto fnLdBackSpec)) fnLdBackUptoCard

/-- THE SECOND FORM's CARD OF 'laws.FnLdJoin'. -/
def fnLdJoinUptoCard : Claim7 := { stood := { row := fnLdJoinUptoRow, standIns := [], harness := (true, "c4028858f4e39e5960d045ef7505ffa61476347ffae49d28732b05dfafaa48ee"), looks := true }, kinds := [], alts := [], laidByText := true, laidKinds := [.sentinel, .sentinel, .sentinel, .sentinel, .sentinel, .sentinel], laidTests := true, laidLooks := .later }
def FnLdJoinUptoCardSaid : Prop := Claim7.holds Tryd.pinned (.plain (OpenSpec.upto fnLdJoinSpec)) fnLdJoinUptoCard

/-- THE SECOND FORM's CARD OF 'laws.FnSeTwo'. -/
def fnSeTwoUptoCard : Claim7 := { stood := { row := fnSeTwoUptoRow, standIns := [], harness := (true, "c4028858f4e39e5960d045ef7505ffa61476347ffae49d28732b05dfafaa48ee"), looks := true }, kinds := [], alts := [], laidByText := true, laidKinds := [.sentinel, .sentinel, .sentinel, .sentinel, .sentinel, .sentinel, .sentinel, .sentinel, .sentinel, .data, .sentinel], laidTests := true, laidLooks := .later }
def FnSeTwoUptoCardSaid : Prop := Claim7.holds Tryd.pinned (.plain (OpenSpec.upto fnSeTwoSpec)) fnSeTwoUptoCard

/-- THE SECOND FORM's CARD OF 'laws.FnSeBlock'. -/
def fnSeBlockUptoCard : Claim7 := { stood := { row := fnSeBlockUptoRow, standIns := [], harness := (true, "c4028858f4e39e5960d045ef7505ffa61476347ffae49d28732b05dfafaa48ee"), looks := true }, kinds := [], alts := [], laidByText := true, laidKinds := [.sentinel, .sentinel, .sentinel, .sentinel, .sentinel, .sentinel, .sentinel, .sentinel, .sentinel, .data, .sentinel], laidTests := true, laidLooks := .later }
def FnSeBlockUptoCardSaid : Prop := Claim7.holds Tryd.pinned (.plain (OpenSpec.upto fnSeBlockSpec)) fnSeBlockUptoCard
end Rows
end Go.Proofs.YtaionnajhgjekaaDoor
