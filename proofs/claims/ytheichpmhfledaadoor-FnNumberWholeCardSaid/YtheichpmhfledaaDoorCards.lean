/-
  DERIVED. GIVEN WITH THE SEED: THE CARDS: each row of YtheichpmhfledaaDoorRows.lean that lists a variable, with what it lists TIED to the program's text (the seventh form; the later family's looks); each row that meets fmt, with fmt's text TOLD by the authors' own Lean function (tested against real Go, not proved from fmt's source: count such statements apart). THE CARD IS WHAT COUNTS. Prove the row's statement (the work); the ties are given (YtheichpmhfledaaDoorTie.lean); close each card by the builder's one call (the guide's Derived/Test/ToyasCard.lean, 'card_holds'). Laid BY PROGRAM, IN A SANDBOX (cutbox-door.mjs). By AI agents, Wed Nov 11 2026. No macro, syntax, notation, axiom, sorry.
-/
import Derived.Test.YtheichpmhfledaaDoorRows
import GoSem.ClaimSeven
namespace Go.Proofs.YtheichpmhfledaaDoor
namespace Rows

/-- THE TIED CARD OF 'laws.FnNumberBack'. -/
def fnNumberBackCard : Claim7 := { stood := { row := fnNumberBackRow, standIns := [], harness := (true, "e026e992e4146b719334b4981a66d61dad8580d9f788cb3d79d77f5c159fdd92"), looks := false }, kinds := [], alts := [], laidByText := true, laidKinds := [.data, .data, .data], laidTests := true, laidLooks := .later }
def FnNumberBackCardSaid : Prop := Claim7.holds Tryd.pinned (.plain (OpenSpec.ofChange fnNumberBackSpec)) fnNumberBackCard

/-- THE TIED CARD OF 'laws.FnNumberWhole'. -/
def fnNumberWholeCard : Claim7 := { stood := { row := fnNumberWholeRow, standIns := [], harness := (true, "e026e992e4146b719334b4981a66d61dad8580d9f788cb3d79d77f5c159fdd92"), looks := false }, kinds := [], alts := [], laidByText := true, laidKinds := [.data, .data, .data], laidTests := true, laidLooks := .later }
def FnNumberWholeCardSaid : Prop := Claim7.holds Tryd.pinned (.plain (OpenSpec.ofChange fnNumberWholeSpec)) fnNumberWholeCard

/-- THE SECOND FORM's CARD OF 'laws.FnNumberBack'. -/
def fnNumberBackUptoCard : Claim7 := { stood := { row := fnNumberBackUptoRow, standIns := [], harness := (true, "e026e992e4146b719334b4981a66d61dad8580d9f788cb3d79d77f5c159fdd92"), looks := false }, kinds := [], alts := [], laidByText := true, laidKinds := [.data, .data, .data], laidTests := true, laidLooks := .later }
def FnNumberBackUptoCardSaid : Prop := Claim7.holds Tryd.pinned (.plain (OpenSpec.upto fnNumberBackSpec)) fnNumberBackUptoCard

/-- THE SECOND FORM's CARD OF 'laws.FnNumberWhole'. -/
def fnNumberWholeUptoCard : Claim7 := { stood := { row := fnNumberWholeUptoRow, standIns := [], harness := (true, "e026e992e4146b719334b4981a66d61dad8580d9f788cb3d79d77f5c159fdd92"), looks := false }, kinds := [], alts := [], laidByText := true, laidKinds := [.data, .data, .data], laidTests := true, laidLooks := .later }
def FnNumberWholeUptoCardSaid : Prop := Claim7.holds Tryd.pinned (.plain (OpenSpec.upto fnNumberWholeSpec)) fnNumberWholeUptoCard
end Rows
end Go.Proofs.YtheichpmhfledaaDoor
