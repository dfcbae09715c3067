/-
  DERIVED. GIVEN WITH THE SEED: THE CARDS: each row of YtckgmnpcnoanhaaDoorRows.lean that lists a variable, with what it lists TIED to the program's text (the seventh form; the later family's looks); each row that meets fmt, with fmt's text TOLD by the authors' own Lean function (tested against real Go, not proved from fmt's source: count such statements apart). THE CARD IS WHAT COUNTS. Prove the row's statement (the work); the ties are given (YtckgmnpcnoanhaaDoorTie.lean); close each card by the builder's one call (the guide's Derived/Test/ToyasCard.lean, 'card_holds'). Laid BY PROGRAM, IN A SANDBOX (cutbox-door.mjs). By AI agents, Wed Nov 11 2026. No macro, syntax, notation, axiom, sorry.
-/
import Derived.Test.YtckgmnpcnoanhaaDoorRows
import GoSem.ClaimSeven
namespace Go.Proofs.YtckgmnpcnoanhaaDoor
namespace Rows

/-- THE TIED CARD OF 'laws.FnLocated'. -/
def fnLocatedCard : Claim7 := { stood := { row := fnLocatedRow, standIns := [], harness := (true, "5bc3ceaeb0ad07bc3626b2e9b496865b540f4b8369d1d5113252fe65a7bd1427"), looks := false }, kinds := [], alts := [], laidByText := true, laidKinds := [.data, .pinned], laidTests := true, laidLooks := .later }
def FnLocatedCardSaid : Prop := Claim7.holds Tryd.pinned (.plain (OpenSpec.ofChange fnLocatedSpec)) fnLocatedCard

/-- THE SECOND FORM's CARD OF 'laws.FnLocated'. -/
def fnLocatedUptoCard : Claim7 := { stood := { row := fnLocatedUptoRow, standIns := [], harness := (true, "5bc3ceaeb0ad07bc3626b2e9b496865b540f4b8369d1d5113252fe65a7bd1427"), looks := false }, kinds := [], alts := [], laidByText := true, laidKinds := [.data, .pinned], laidTests := true, laidLooks := .later }
def FnLocatedUptoCardSaid : Prop := Claim7.holds Tryd.pinned (.plain (OpenSpec.upto fnLocatedSpec)) fnLocatedUptoCard
end Rows
end Go.Proofs.YtckgmnpcnoanhaaDoor
