/- The contract of utf8.DecodeLastRuneInString, by the shelf, where the two tables of package utf8 hold what their initialisers lay. -/
import Derived.Test.YtccabfpojnpheaaRRDoorProg
import Derived.Test.YtccabfpojnpheaaRRDoorShelfU
import Derived.Test.YtccabfpojnpheaaRRDoorWWords
import Derived.WalkKit
import Derived.Below
import Derived.Laws.Rows
namespace Go.Proofs.YtccabfpojnpheaaRRDoor
open Go.RowKit Go.Proofs.YtccabfpojnpheaaRRDoorW.PrintWords

/-- The two tables of package utf8 lie as their initialisers lay them. -/
def GTab (w : World) : Prop := Lib.Utf8Tabs 2 3 w
theorem GTab.below {w w' : World} (h : GTab w) (hb : Below w.heap.size w w') : GTab w' := by
  refine ⟨fun c hc => ?_, fun i hi => ?_⟩
  · have := h.1 c hc
    exact (hb.cell (block_lt_of_cell this)).trans this
  · obtain ⟨h1, h2⟩ := h.2 i hi
    exact ⟨(hb.cell (block_lt_of_cell h1)).trans h1, (hb.cell (block_lt_of_cell h2)).trans h2⟩
theorem GTab.drewN {w : World} (h : GTab w) (n : Nat) : GTab (w.drewN n) := h

def utf8_DecodeLastRuneInString.f (a0 : ByteArray) : Option (Int × Int) := if a0.size ≤ 9223372036854775807 then some (((Lib.decodeLastL a0.data.toList).1 : Int), ((Lib.decodeLastL a0.data.toList).2 : Int)) else none
theorem utf8_DecodeLastRuneInString.calls (a0 : ByteArray) (r1 : Int) (r2 : Int) (w : World) (hT : GTab w) (h : utf8_DecodeLastRuneInString.f a0 = some (r1, r2)) :
    Calls Tryd.prog 51 #[.string a0] w fun e w' => e = .returned (.tuple #[.int .i32 r1, .int .i64 r2]) ∧ Below w.heap.size w w' := by
  unfold utf8_DecodeLastRuneInString.f at h
  by_cases hs : a0.size ≤ 9223372036854775807
  · rw [if_pos hs] at h
    obtain ⟨rfl, rfl⟩ := Prod.mk.inj (Option.some.inj h)
    exact Tryd.utf8_DecodeLastRuneInString a0 w hs hT
  · rw [if_neg hs] at h; cases h
end Go.Proofs.YtccabfpojnpheaaRRDoor
