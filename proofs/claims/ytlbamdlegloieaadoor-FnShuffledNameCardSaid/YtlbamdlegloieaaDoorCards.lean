/-
  DERIVED. GIVEN WITH THE SEED: THE CARDS: each row of YtlbamdlegloieaaDoorRows.lean that lists a variable, with what it lists TIED to the program's text (the seventh form; the later family's looks); each row that meets fmt, with fmt's text TOLD by the authors' own Lean function (tested against real Go, not proved from fmt's source: count such statements apart). THE CARD IS WHAT COUNTS. Prove the row's statement (the work); the ties are given (YtlbamdlegloieaaDoorTie.lean); close each card by the builder's one call (the guide's Derived/Test/ToyasCard.lean, 'card_holds'). Laid BY PROGRAM, IN A SANDBOX (cutbox-door.mjs). By AI agents, Wed Nov 11 2026. No macro, syntax, notation, axiom, sorry.
-/
import Derived.Test.YtlbamdlegloieaaDoorRows
import GoSem.ClaimSeven
namespace Go.Proofs.YtlbamdlegloieaaDoor
namespace Rows

/-- THE TIED CARD OF 'laws.FnShuffledName'. -/
def fnShuffledNameCard : Claim7 := { stood := { row := fnShuffledNameRow, standIns := [], harness := (true, "031035b05736462f4838e957740b595d401f3f757cc05dea485bf17b869cfebe"), looks := false }, kinds := [], alts := [], laidByText := true, laidKinds := [.wider], laidTests := true, laidLooks := .later }
def FnShuffledNameCardSaid : Prop := Claim7.holds Tryd.pinned (.plain (OpenSpec.ofChange fnShuffledNameSpec)) fnShuffledNameCard

/-- THE SECOND FORM's CARD OF 'laws.FnShuffledName'. -/
def fnShuffledNameUptoCard : Claim7 := { stood := { row := fnShuffledNameUptoRow, standIns := [], harness := (true, "031035b05736462f4838e957740b595d401f3f757cc05dea485bf17b869cfebe"), looks := false }, kinds := [], alts := [], laidByText := true, laidKinds := [.wider], laidTests := true, laidLooks := .later }
def FnShuffledNameUptoCardSaid : Prop := Claim7.holds Tryd.pinned (.plain (OpenSpec.upto fnShuffledNameSpec)) fnShuffledNameUptoCard
end Rows
end Go.Proofs.YtlbamdlegloieaaDoor
