/-
  DERIVED. GIVEN WITH THE SEED: THE CARDS: each row of YtmgepjnaalnckaaDoorRows.lean that lists a variable, with what it lists TIED to the program's text (the seventh form; the later family's looks); each row that meets fmt, with fmt's text TOLD by the authors' own Lean function (tested against real Go, not proved from fmt's source: count such statements apart). THE CARD IS WHAT COUNTS. Prove the row's statement (the work); the ties are given (YtmgepjnaalnckaaDoorTie.lean); close each card by the builder's one call (the guide's Derived/Test/ToyasCard.lean, 'card_holds'). Laid BY PROGRAM, IN A SANDBOX (cutbox-door.mjs). By AI agents, Wed Nov 11 2026. No macro, syntax, notation, axiom, sorry.
-/
import Derived.Test.YtmgepjnaalnckaaDoorRows
import GoSem.ClaimSeven
namespace Go.Proofs.YtmgepjnaalnckaaDoor
namespace Rows

/-- THE TIED CARD OF 'laws.FnLocated'. -/
def fnLocatedCard : Claim7 := { stood := { row := fnLocatedRow, standIns := [], harness := (true, "d468bfd308170a3e1218df33ece73abfc663ec7842f9cffcb04f553d5ae068f1"), looks := true }, kinds := [], alts := [], laidByText := true, laidKinds := [.data, .pinned], laidTests := true, laidLooks := .later }
def FnLocatedCardSaid : Prop := Claim7.holds Tryd.pinned (.plain (OpenSpec.ofChange fnLocatedSpec)) fnLocatedCard

/-- THE TIED CARD OF 'laws.FnShuffledName'. -/
def fnShuffledNameCard : Claim7 := { stood := { row := fnShuffledNameRow, standIns := [], harness := (true, "d468bfd308170a3e1218df33ece73abfc663ec7842f9cffcb04f553d5ae068f1"), looks := true }, kinds := [], alts := [], laidByText := true, laidKinds := [.wider], laidTests := true, laidLooks := .later }
def FnShuffledNameCardSaid : Prop := Claim7.holds Tryd.pinned (.plain (OpenSpec.ofChange fnShuffledNameSpec)) fnShuffledNameCard

/-- THE TIED CARD OF 'laws.FnCompareSemver'. -/
def fnCompareSemverCard : Claim7 := { stood := { row := fnCompareSemverRow, standIns := [], harness := (true, "d468bfd308170a3e1218df33ece73abfc663ec7842f9cffcb04f553d5ae068f1"), looks := true }, kinds := [], alts := [], laidByText := true, laidKinds := [.data, .data, .data, .sentinel, .sentinel], laidTests := true, laidLooks := .later }
def FnCompareSemverCardSaid : Prop := Claim7.holds Tryd.pinned (.plain (OpenSpec.ofChange fnCompareSemverSpec)) fnCompareSemverCard

/-- THE SECOND FORM's CARD OF 'laws.FnLocated'. -/
def fnLocatedUptoCard : Claim7 := { stood := { row := fnLocatedUptoRow, standIns := [], harness := (true, "d468bfd308170a3e1218df33ece73abfc663ec7842f9cffcb04f553d5ae068f1"), looks := true }, kinds := [], alts := [], laidByText := true, laidKinds := [.data, .pinned], laidTests := true, laidLooks := .later }
def FnLocatedUptoCardSaid : Prop := Claim7.holds Tryd.pinned (.plain (OpenSpec.upto fnLocatedSpec)) fnLocatedUptoCard

/-- THE SECOND FORM's CARD OF 'laws.FnShuffledName'. -/
def fnShuffledNameUptoCard : Claim7 := { stood := { row := fnShuffledNameUptoRow, standIns := [], harness := (true, "d468bfd308170a3e1218df33ece73abfc663ec7842f9cffcb04f553d5ae068f1"), looks := true }, kinds := [], alts := [], laidByText := true, laidKinds := [.wider], laidTests := true, laidLooks := .later }
def FnShuffledNameUptoCardSaid : Prop := Claim7.holds Tryd.pinned (.plain (OpenSpec.upto fnShuffledNameSpec)) fnShuffledNameUptoCard

/-- THE SECOND FORM's CARD OF 'laws.FnCompareSemver'. -/
def fnCompareSemverUptoCard : Claim7 := { stood := { row := fnCompareSemverUptoRow, standIns := [], harness := (true, "d468bfd308170a3e1218df33ece73abfc663ec7842f9cffcb04f553d5ae068f1"), looks := true }, kinds := [], alts := [], laidByText := true, laidKinds := [.data, .data, .data, .sentinel, .sentinel], laidTests := true, laidLooks := .later }
def FnCompareSemverUptoCardSaid : Prop := Claim7.holds Tryd.pinned (.plain (OpenSpec.upto fnCompareSemverSpec)) fnCompareSemverUptoCard
end Rows
end Go.Proofs.YtmgepjnaalnckaaDoor
