/-
  DERIVED. GIVEN WITH THE SEED: THE CARDS: each row of YtccabfpojnpheaaRRDoorRows.lean that lists a variable, with what it lists TIED to the program's text (the seventh form; the later family's looks); each row that meets fmt, with fmt's text TOLD by the authors' own Lean function (tested against real Go, not proved from fmt's source: count such statements apart). THE CARD IS WHAT COUNTS. Prove the row's statement (the work); the ties are given (YtccabfpojnpheaaRRDoorTie.lean); close each card by the builder's one call (the guide's Derived/Test/ToyasCard.lean, 'card_holds'). Laid BY PROGRAM, IN A SANDBOX (cutbox-door.mjs). By AI agents, Wed Nov 11 2026. No macro, syntax, notation, axiom, sorry.
-/
import Derived.Test.YtccabfpojnpheaaRRDoorRows
import GoSem.ClaimSeven
namespace Go.Proofs.YtccabfpojnpheaaRRDoor
namespace Rows

/-- THE TIED CARD OF 'laws.FnMerged'. -/
def fnMergedCard : Claim7 := { stood := { row := fnMergedRow, standIns := [], harness := (true, "598fcffbf7125725457e16f32918fa48706b2312e5260988b2d32cf4ba4965c6"), looks := false }, kinds := [], alts := [], laidByText := true, laidKinds := [.data], laidTests := true, laidLooks := .later }
def FnMergedCardSaid : Prop := Claim7.holds Tryd.pinned (.plain (OpenSpec.ofChange fnMergedSpec)) fnMergedCard

/-- THE TIED CARD OF 'laws.FnBeforeWhitespace'. -/
def fnBeforeWhitespaceCard : Claim7 := { stood := { row := fnBeforeWhitespaceRow, standIns := [], harness := (true, "598fcffbf7125725457e16f32918fa48706b2312e5260988b2d32cf4ba4965c6"), looks := false }, kinds := [], alts := [], laidByText := true, laidKinds := [.data, .pinned], laidTests := true, laidLooks := .later }
def FnBeforeWhitespaceCardSaid : Prop := Claim7.holds Tryd.pinned (.plain (OpenSpec.ofChange fnBeforeWhitespaceSpec)) fnBeforeWhitespaceCard

/-- THE TIED CARD OF 'laws.FnNumberBack'. -/
def fnNumberBackCard : Claim7 := { stood := { row := fnNumberBackRow, standIns := [], harness := (true, "598fcffbf7125725457e16f32918fa48706b2312e5260988b2d32cf4ba4965c6"), looks := false }, kinds := [], alts := [], laidByText := true, laidKinds := [.data, .data, .data], laidTests := true, laidLooks := .later }
def FnNumberBackCardSaid : Prop := Claim7.holds Tryd.pinned (.plain (OpenSpec.ofChange fnNumberBackSpec)) fnNumberBackCard

/-- THE TIED CARD OF 'laws.FnNumberWhole'. -/
def fnNumberWholeCard : Claim7 := { stood := { row := fnNumberWholeRow, standIns := [], harness := (true, "598fcffbf7125725457e16f32918fa48706b2312e5260988b2d32cf4ba4965c6"), looks := false }, kinds := [], alts := [], laidByText := true, laidKinds := [.data, .data, .data], laidTests := true, laidLooks := .later }
def FnNumberWholeCardSaid : Prop := Claim7.holds Tryd.pinned (.plain (OpenSpec.ofChange fnNumberWholeSpec)) fnNumberWholeCard

/-- THE SECOND FORM's CARD OF 'laws.FnMerged'. -/
def fnMergedUptoCard : Claim7 := { stood := { row := fnMergedUptoRow, standIns := [], harness := (true, "598fcffbf7125725457e16f32918fa48706b2312e5260988b2d32cf4ba4965c6"), looks := false }, kinds := [], alts := [], laidByText := true, laidKinds := [.data], laidTests := true, laidLooks := .later }
def FnMergedUptoCardSaid : Prop := Claim7.holds Tryd.pinned (.plain (OpenSpec.upto fnMergedSpec)) fnMergedUptoCard

/-- THE SECOND FORM's CARD OF 'laws.FnBeforeWhitespace'. -/
def fnBeforeWhitespaceUptoCard : Claim7 := { stood := { row := fnBeforeWhitespaceUptoRow, standIns := [], harness := (true, "598fcffbf7125725457e16f32918fa48706b2312e5260988b2d32cf4ba4965c6"), looks := false }, kinds := [], alts := [], laidByText := true, laidKinds := [.data, .pinned], laidTests := true, laidLooks := .later }
def FnBeforeWhitespaceUptoCardSaid : Prop := Claim7.holds Tryd.pinned (.plain (OpenSpec.upto fnBeforeWhitespaceSpec)) fnBeforeWhitespaceUptoCard

/-- THE SECOND FORM's CARD OF 'laws.FnNumberBack'. -/
def fnNumberBackUptoCard : Claim7 := { stood := { row := fnNumberBackUptoRow, standIns := [], harness := (true, "598fcffbf7125725457e16f32918fa48706b2312e5260988b2d32cf4ba4965c6"), looks := false }, kinds := [], alts := [], laidByText := true, laidKinds := [.data, .data, .data], laidTests := true, laidLooks := .later }
def FnNumberBackUptoCardSaid : Prop := Claim7.holds Tryd.pinned (.plain (OpenSpec.upto fnNumberBackSpec)) fnNumberBackUptoCard

/-- THE SECOND FORM's CARD OF 'laws.FnNumberWhole'. -/
def fnNumberWholeUptoCard : Claim7 := { stood := { row := fnNumberWholeUptoRow, standIns := [], harness := (true, "598fcffbf7125725457e16f32918fa48706b2312e5260988b2d32cf4ba4965c6"), looks := false }, kinds := [], alts := [], laidByText := true, laidKinds := [.data, .data, .data], laidTests := true, laidLooks := .later }
def FnNumberWholeUptoCardSaid : Prop := Claim7.holds Tryd.pinned (.plain (OpenSpec.upto fnNumberWholeSpec)) fnNumberWholeUptoCard
end Rows
end Go.Proofs.YtccabfpojnpheaaRRDoor
