/-
  DERIVED. GIVEN WITH THE SEED: THE CARDS: each row of YtgkhofnedhlgdaaDoorRows.lean that lists a variable, with what it lists TIED to the program's text (the seventh form; the later family's looks); each row that meets fmt, with fmt's text TOLD by the authors' own Lean function (tested against real Go, not proved from fmt's source: count such statements apart). THE CARD IS WHAT COUNTS. Prove the row's statement (the work); the ties are given (YtgkhofnedhlgdaaDoorTie.lean); close each card by the builder's one call (the guide's Derived/Test/ToyasCard.lean, 'card_holds'). Laid BY PROGRAM, IN A SANDBOX (cutbox-door.mjs). By AI agents, Wed Nov 11 2026. No macro, syntax, notation, axiom, sorry.
-/
import Derived.Test.YtgkhofnedhlgdaaDoorRows
import GoSem.ClaimSeven
namespace Go.Proofs.YtgkhofnedhlgdaaDoor
namespace Rows

/-- THE TIED CARD OF 'laws.FnUvReader'. -/
def fnUvReaderCard : Claim7 := { stood := { row := fnUvReaderRow, standIns := [], harness := (true, "cffe169939e7c841a45da89fc600d0f9fc2a8f2b762bc0ae0f3a07f454e90bf6"), looks := true }, kinds := [], alts := [], laidByText := true, laidKinds := [.sentinel, .sentinel, .sentinel, .sentinel, .sentinel], laidTests := true, laidLooks := .later }
def FnUvReaderCardSaid : Prop := Claim7.holds Tryd.pinned (.plain (OpenSpec.ofChange fnUvReaderSpec)) fnUvReaderCard

/-- THE TIED CARD OF 'laws.FnCdParts'. -/
def fnCdPartsCard : Claim7 := { stood := { row := fnCdPartsRow, standIns := [], harness := (true, "cffe169939e7c841a45da89fc600d0f9fc2a8f2b762bc0ae0f3a07f454e90bf6"), looks := true }, kinds := [], alts := [], laidByText := true, laidKinds := [.sentinel, .sentinel, .sentinel, .sentinel, .sentinel, .sentinel, .data], laidTests := true, laidLooks := .later }
def FnCdPartsCardSaid : Prop := Claim7.holds Tryd.pinned (.plain (OpenSpec.ofChange fnCdPartsSpec)) fnCdPartsCard

/-- THE TIED CARD OF 'laws.FnCdPrefixCut'. -/
def fnCdPrefixCutCard : Claim7 := { stood := { row := fnCdPrefixCutRow, standIns := [], harness := (true, "cffe169939e7c841a45da89fc600d0f9fc2a8f2b762bc0ae0f3a07f454e90bf6"), looks := true }, kinds := [], alts := [], laidByText := true, laidKinds := [.sentinel, .sentinel, .sentinel, .sentinel, .sentinel, .sentinel, .sentinel, .sentinel, .data], laidTests := true, laidLooks := .later }
def FnCdPrefixCutCardSaid : Prop := Claim7.holds Tryd.pinned (.plain (OpenSpec.ofChange fnCdPrefixCutSpec)) fnCdPrefixCutCard

/-- THE TIED CARD OF 'laws.FnCdReader'. -/
def fnCdReaderCard : Claim7 := { stood := { row := fnCdReaderRow, standIns := [], harness := (true, "cffe169939e7c841a45da89fc600d0f9fc2a8f2b762bc0ae0f3a07f454e90bf6"), looks := true }, kinds := [], alts := [], laidByText := true, laidKinds := [.sentinel, .sentinel, .sentinel, .sentinel, .sentinel, .sentinel, .sentinel, .sentinel, .sentinel, .data], laidTests := true, laidLooks := .later }
def FnCdReaderCardSaid : Prop := Claim7.holds Tryd.pinned (.plain (OpenSpec.ofChange fnCdReaderSpec)) fnCdReaderCard

/-- THE TIED CARD OF 'laws.FnCdTwo'. -/
def fnCdTwoCard : Claim7 := { stood := { row := fnCdTwoRow, standIns := [], harness := (true, "cffe169939e7c841a45da89fc600d0f9fc2a8f2b762bc0ae0f3a07f454e90bf6"), looks := true }, kinds := [], alts := [], laidByText := true, laidKinds := [.sentinel, .sentinel, .sentinel, .sentinel, .sentinel, .sentinel, .sentinel, .sentinel, .sentinel, .data], laidTests := true, laidLooks := .later }
def FnCdTwoCardSaid : Prop := Claim7.holds Tryd.pinned (.plain (OpenSpec.ofChange fnCdTwoSpec)) fnCdTwoCard

/-- THE TIED CARD OF 'laws.FnCdBack'. -/
def fnCdBackCard : Claim7 := { stood := { row := fnCdBackRow, standIns := [], harness := (true, "cffe169939e7c841a45da89fc600d0f9fc2a8f2b762bc0ae0f3a07f454e90bf6"), looks := true }, kinds := [], alts := [], laidByText := true, laidKinds := [.sentinel, .sentinel, .sentinel, .sentinel, .sentinel, .sentinel, .sentinel, .sentinel, .sentinel, .data], laidTests := true, laidLooks := .later }
def FnCdBackCardSaid : Prop := Claim7.holds Tryd.pinned (.plain (OpenSpec.ofChange fnCdBackSpec)) fnCdBackCard

/-- THE SECOND FORM's CARD OF 'laws.FnUvReader'. -/
def fnUvReaderUptoCard : Claim7 := { stood := { row := fnUvReaderUptoRow, standIns := [], harness := (true, "cffe169939e7c841a45da89fc600d0f9fc2a8f2b762bc0ae0f3a07f454e90bf6"), looks := true }, kinds := [], alts := [], laidByText := true, laidKinds := [.sentinel, .sentinel, .sentinel, .sentinel, .sentinel], laidTests := true, laidLooks := .later }
def FnUvReaderUptoCardSaid : Prop := Claim7.holds Tryd.pinned (.plain (OpenSpec.upto fnUvReaderSpec)) fnUvReaderUptoCard

/-- THE SECOND FORM's CARD OF 'laws.FnCdParts'. -/
def fnCdPartsUptoCard : Claim7 := { stood := { row := fnCdPartsUptoRow, standIns := [], harness := (true, "cffe169939e7c841a45da89fc600d0f9fc2a8f2b762bc0ae0f3a07f454e90bf6"), looks := true }, kinds := [], alts := [], laidByText := true, laidKinds := [.sentinel, .sentinel, .sentinel, .sentinel, .sentinel, .sentinel, .data], laidTests := true, laidLooks := .later }
def FnCdPartsUptoCardSaid : Prop := Claim7.holds Tryd.pinned (.plain (OpenSpec.upto fnCdPartsSpec)) fnCdPartsUptoCard

/-- THE SECOND FORM's CARD OF 'laws.FnCdPrefixCut'. -/
def fnCdPrefixCutUptoCard : Claim7 := { stood := { row := fnCdPrefixCutUptoRow, standIns := [], harness := (true, "cffe169939e7c841a45da89fc600d0f9fc2a8f2b762bc0ae0f3a07f454e90bf6"), looks := true }, kinds := [], alts := [], laidByText := true, laidKinds := [.sentinel, .sentinel, .sentinel, .sentinel, .sentinel, .sentinel, .sentinel, .sentinel, .data], laidTests := true, laidLooks := .later }
def FnCdPrefixCutUptoCardSaid : Prop := Claim7.holds Tryd.pinned (.plain (OpenSpec.upto fnCdPrefixCutSpec)) fnCdPrefixCutUptoCard

/-- THE SECOND FORM's CARD OF 'laws.FnCdReader'. -/
def fnCdReaderUptoCard : Claim7 := { stood := { row := fnCdReaderUptoRow, standIns := [], harness := (true, "cffe169939e7c841a45da89fc600d0f9fc2a8f2b762bc0ae0f3a07f454e90bf6"), looks := true }, kinds := [], alts := [], laidByText := true, laidKinds := [.sentinel, .sentinel, .sentinel, .sentinel, .sentinel, .sentinel, .sentinel, .sentinel, .sentinel, .data], laidTests := true, laidLooks := .later }
def FnCdReaderUptoCardSaid : Prop := Claim7.holds Tryd.pinned (.plain (OpenSpec.upto fnCdReaderSpec)) fnCdReaderUptoCard

/-- THE SECOND FORM's CARD OF 'laws.FnCdTwo'. -/
def fnCdTwoUptoCard : Claim7 := { stood := { row := fnCdTwoUptoRow, standIns := [], harness := (true, "cffe169939e7c841a45da89fc600d0f9fc2a8f2b762bc0ae0f3a07f454e90bf6"), looks := true }, kinds := [], alts := [], laidByText := true, laidKinds := [.sentinel, .sentinel, .sentinel, .sentinel, .sentinel, .sentinel, .sentinel, .sentinel, .sentinel, .data], laidTests := true, laidLooks := .later }
def FnCdTwoUptoCardSaid : Prop := Claim7.holds Tryd.pinned (.plain (OpenSpec.upto fnCdTwoSpec)) fnCdTwoUptoCard

/-- THE SECOND FORM's CARD OF 'laws.FnCdBack'. -/
def fnCdBackUptoCard : Claim7 := { stood := { row := fnCdBackUptoRow, standIns := [], harness := (true, "cffe169939e7c841a45da89fc600d0f9fc2a8f2b762bc0ae0f3a07f454e90bf6"), looks := true }, kinds := [], alts := [], laidByText := true, laidKinds := [.sentinel, .sentinel, .sentinel, .sentinel, .sentinel, .sentinel, .sentinel, .sentinel, .sentinel, .data], laidTests := true, laidLooks := .later }
def FnCdBackUptoCardSaid : Prop := Claim7.holds Tryd.pinned (.plain (OpenSpec.upto fnCdBackSpec)) fnCdBackUptoCard
end Rows
end Go.Proofs.YtgkhofnedhlgdaaDoor
