/-
  DERIVED. GIVEN WITH THE SEED: THE CARDS: each row of YtlfdnigfijgmjaaDoorRows.lean that lists a variable, with what it lists TIED to the program's text (the seventh form; the later family's looks); each row that meets fmt, with fmt's text TOLD by the authors' own Lean function (tested against real Go, not proved from fmt's source: count such statements apart). THE CARD IS WHAT COUNTS. Prove the row's statement (the work); the ties are given (YtlfdnigfijgmjaaDoorTie.lean); close each card by the builder's one call (the guide's Derived/Test/ToyasCard.lean, 'card_holds'). Laid BY PROGRAM, IN A SANDBOX (cutbox-door.mjs). By AI agents, Wed Nov 11 2026. No macro, syntax, notation, axiom, sorry.
-/
import Derived.Test.YtlfdnigfijgmjaaDoorRows
import GoSem.ClaimSeven
namespace Go.Proofs.YtlfdnigfijgmjaaDoor
namespace Rows

/-- THE TIED CARD OF 'laws.FnUvTwo'. -/
def fnUvTwoCard : Claim7 := { stood := { row := fnUvTwoRow, standIns := [], harness := (true, "aaefeefc13d37cd7a9264e41f562bc2a40ae94d09ad3188abea80b99aa070ed4"), looks := false }, kinds := [], alts := [], laidByText := true, laidKinds := [.sentinel, .sentinel, .sentinel], laidTests := true, laidLooks := .later }
def FnUvTwoCardSaid : Prop := Claim7.holds Tryd.pinned (.plain (OpenSpec.ofChange fnUvTwoSpec)) fnUvTwoCard

/-- THE TIED CARD OF 'laws.FnUvPut'. -/
def fnUvPutCard : Claim7 := { stood := { row := fnUvPutRow, standIns := [], harness := (true, "aaefeefc13d37cd7a9264e41f562bc2a40ae94d09ad3188abea80b99aa070ed4"), looks := false }, kinds := [], alts := [], laidByText := true, laidKinds := [.sentinel, .sentinel, .sentinel], laidTests := true, laidLooks := .later }
def FnUvPutCardSaid : Prop := Claim7.holds Tryd.pinned (.plain (OpenSpec.ofChange fnUvPutSpec)) fnUvPutCard

/-- THE TIED CARD OF 'laws.FnMhDecode'. -/
def fnMhDecodeCard : Claim7 := { stood := { row := fnMhDecodeRow, standIns := [], harness := (true, "aaefeefc13d37cd7a9264e41f562bc2a40ae94d09ad3188abea80b99aa070ed4"), looks := false }, kinds := [], alts := [], laidByText := true, laidKinds := [.sentinel, .sentinel, .sentinel, .sentinel, .sentinel, .sentinel], laidTests := true, laidLooks := .later }
def FnMhDecodeCardSaid : Prop := Claim7.holds Tryd.pinned (.plain (OpenSpec.ofChange fnMhDecodeSpec)) fnMhDecodeCard

/-- THE TIED CARD OF 'laws.FnMhCanon'. -/
def fnMhCanonCard : Claim7 := { stood := { row := fnMhCanonRow, standIns := [], harness := (true, "aaefeefc13d37cd7a9264e41f562bc2a40ae94d09ad3188abea80b99aa070ed4"), looks := false }, kinds := [], alts := [], laidByText := true, laidKinds := [.sentinel, .sentinel, .sentinel, .sentinel, .sentinel, .sentinel], laidTests := true, laidLooks := .later }
def FnMhCanonCardSaid : Prop := Claim7.holds Tryd.pinned (.plain (OpenSpec.ofChange fnMhCanonSpec)) fnMhCanonCard

/-- THE SECOND FORM's CARD OF 'laws.FnUvTwo'. -/
def fnUvTwoUptoCard : Claim7 := { stood := { row := fnUvTwoUptoRow, standIns := [], harness := (true, "aaefeefc13d37cd7a9264e41f562bc2a40ae94d09ad3188abea80b99aa070ed4"), looks := false }, kinds := [], alts := [], laidByText := true, laidKinds := [.sentinel, .sentinel, .sentinel], laidTests := true, laidLooks := .later }
def FnUvTwoUptoCardSaid : Prop := Claim7.holds Tryd.pinned (.plain (OpenSpec.upto fnUvTwoSpec)) fnUvTwoUptoCard

/-- THE SECOND FORM's CARD OF 'laws.FnUvPut'. -/
def fnUvPutUptoCard : Claim7 := { stood := { row := fnUvPutUptoRow, standIns := [], harness := (true, "aaefeefc13d37cd7a9264e41f562bc2a40ae94d09ad3188abea80b99aa070ed4"), looks := false }, kinds := [], alts := [], laidByText := true, laidKinds := [.sentinel, .sentinel, .sentinel], laidTests := true, laidLooks := .later }
def FnUvPutUptoCardSaid : Prop := Claim7.holds Tryd.pinned (.plain (OpenSpec.upto fnUvPutSpec)) fnUvPutUptoCard

/-- THE SECOND FORM's CARD OF 'laws.FnMhDecode'. -/
def fnMhDecodeUptoCard : Claim7 := { stood := { row := fnMhDecodeUptoRow, standIns := [], harness := (true, "aaefeefc13d37cd7a9264e41f562bc2a40ae94d09ad3188abea80b99aa070ed4"), looks := false }, kinds := [], alts := [], laidByText := true, laidKinds := [.sentinel, .sentinel, .sentinel, .sentinel, .sentinel, .sentinel], laidTests := true, laidLooks := .later }
def FnMhDecodeUptoCardSaid : Prop := Claim7.holds Tryd.pinned (.plain (OpenSpec.upto fnMhDecodeSpec)) fnMhDecodeUptoCard

/-- THE SECOND FORM's CARD OF 'laws.FnMhCanon'. -/
def fnMhCanonUptoCard : Claim7 := { stood := { row := fnMhCanonUptoRow, standIns := [], harness := (true, "aaefeefc13d37cd7a9264e41f562bc2a40ae94d09ad3188abea80b99aa070ed4"), looks := false }, kinds := [], alts := [], laidByText := true, laidKinds := [.sentinel, .sentinel, .sentinel, .sentinel, .sentinel, .sentinel], laidTests := true, laidLooks := .later }
def FnMhCanonUptoCardSaid : Prop := Claim7.holds Tryd.pinned (.plain (OpenSpec.upto fnMhCanonSpec)) fnMhCanonUptoCard
end Rows
end Go.Proofs.YtlfdnigfijgmjaaDoor
