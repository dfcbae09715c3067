/-
  DERIVED. GIVEN WITH THE SEED: THE CARDS: each row of YtfjfacgbambbdaaDoorRows.lean that lists a variable, with what it lists TIED to the program's text (the seventh form; the later family's looks); each row that meets fmt, with fmt's text TOLD by the authors' own Lean function (tested against real Go, not proved from fmt's source: count such statements apart). THE CARD IS WHAT COUNTS. Prove the row's statement (the work); the ties are given (YtfjfacgbambbdaaDoorTie.lean); close each card by the builder's one call (the guide's Derived/Test/ToyasCard.lean, 'card_holds'). Laid BY PROGRAM, IN A SANDBOX (cutbox-door.mjs). By AI agents, Wed Nov 11 2026. No macro, syntax, notation, axiom, sorry.
-/
import Derived.Test.YtfjfacgbambbdaaDoorRows
import GoSem.ClaimSeven
namespace Go.Proofs.YtfjfacgbambbdaaDoor
namespace Rows

/-- THE TIED CARD OF 'laws.FnMerged'. -/
def fnMergedCard : Claim7 := { stood := { row := fnMergedRow, standIns := [], harness := (true, "16b92aee6ff1096172482dc8a7413641407dcfa53718e0bc5bd89e0f736e6d09"), looks := false }, kinds := [], alts := [], laidByText := true, laidKinds := [.data], laidTests := true, laidLooks := .later }
def FnMergedCardSaid : Prop := Claim7.holds Tryd.pinned (.plain (OpenSpec.ofChange fnMergedSpec)) fnMergedCard

/-- THE SECOND FORM's CARD OF 'laws.FnMerged'. -/
def fnMergedUptoCard : Claim7 := { stood := { row := fnMergedUptoRow, standIns := [], harness := (true, "16b92aee6ff1096172482dc8a7413641407dcfa53718e0bc5bd89e0f736e6d09"), looks := false }, kinds := [], alts := [], laidByText := true, laidKinds := [.data], laidTests := true, laidLooks := .later }
def FnMergedUptoCardSaid : Prop := Claim7.holds Tryd.pinned (.plain (OpenSpec.upto fnMergedSpec)) fnMergedUptoCard
end Rows
end Go.Proofs.YtfjfacgbambbdaaDoor
