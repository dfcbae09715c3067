/- What the rows' lists give: the two tables of package utf8; and a world for the witness that holds them. -/
import Derived.Test.YtccabfpojnpheaaRRDoorRows
import Derived.Test.YtccabfpojnpheaaRRDoorExtUtf8
import Derived.Test.YtccabfpojnpheaaRRDoorShelfU
import Derived.Lib.LaidU8T
import Derived.PinnedBridge
import Derived.KernelRfl
namespace Go.Proofs.YtccabfpojnpheaaRRDoor
open Go.RowKit Go.Lib

set_option maxRecDepth 100000 in
theorem accept_eq : (Rows.laid_unicode_utf8_acceptRanges : DataW Unit) = acceptData := by kernel_rfl
theorem gtab_fnBeforeWhitespace {W : World} (h : laidMet Tryd.prog Rows.fnBeforeWhitespaceRow.laid W) : GTab W := by
  have h1 : VarReads Tryd.prog W "unicode/utf8.acceptRanges" acceptData := accept_eq ▸ laidMet.reads h (.head _)
  have h2 : VarReads Tryd.prog W "unicode/utf8.first" firstData := Pinned.utf8First_eq ▸ (laidMet.reads h (.tail _ (.head _)) : VarReads Tryd.prog W "unicode/utf8.first" Rows.laid_unicode_utf8_first)
  exact utf8Tabs_of_readsT (ρ := Tryd.lays271_ren) { Tryd.lays271 with } ⟨by kernel_rfl, by kernel_rfl, by kernel_rfl, by kernel_rfl, by kernel_rfl, by kernel_rfl, by kernel_rfl⟩ h2 h1

/-- A WORLD FOR THE WITNESS: the settled one, the tables holding what their initialisers lay. -/
noncomputable def laidWorld (os : Os) : World :=
  let w0 := World.holding Tryd.prog os ⟨#[], #[], []⟩
  let put (h : Array Obj) (g : Nat) (cs : Array Value) : Array Obj := h.modify g fun
    | .cells _ t frozen => .cells cs t frozen
    | o => o
  let h1 := put w0.heap 2 (Lib.firstTab.map fun z => Value.int .u8 z).toArray
  let h2 := put h1 3 ((List.range 16).flatMap fun i => [Value.int .u8 (Lib.accLo i), Value.int .u8 (Lib.accHi i)]).toArray
  { w0 with heap := h2 }
end Go.Proofs.YtccabfpojnpheaaRRDoor
