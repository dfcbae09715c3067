/- What the card of FnNumberBack needs of the three listed tables: the powers of ten as they are laid; a world for the witness. -/
import Derived.Test.YtheichpmhfledaaDoorRows
import Derived.Test.YtheichpmhfledaaDoorExtT
import Derived.KernelRfl
import Derived.Lib.LaidTab
import Derived.Lib.LaidU8
import Derived.Deep.DeepHandedRow
set_option linter.unusedVariables false
namespace Go.Proofs.YtheichpmhfledaaDoor
open Go.RowKit Go.Lib Go.ChangeShapes Go.WideShapes Go.Proofs.YtheichpmhfledaaDoorW.PrintWords
theorem laidOut : laidOutB Tryd.prog = true := by kernel_rfl
theorem gpow : Tryd.prog.globalNamed "internal/strconv.uint64pow10" = some 1 := by kernel_rfl
theorem ty1 : (Tryd.prog.globals[1]?).map (·.type) = some 96 := by kernel_rfl
theorem und96 : Tryd.prog.underlying 96 = some (.array 20 40) := by kernel_rfl
theorem und40 : Tryd.prog.underlying 40 = some (.int .u64) := by kernel_rfl
theorem cells40 : Tryd.prog.cellsOf 40 = 1 := by kernel_rfl
theorem cells96 : Tryd.prog.cellsOf 96 = 20 := by kernel_rfl
theorem pow_eq : (Rows.laid_internal_strconv_uint64pow10 : DataW Unit) = tabData .u64 pow10Tab := by kernel_rfl
theorem tab_of_reads {W : World} (h : VarReads Tryd.prog W "internal/strconv.uint64pow10" (tabData .u64 pow10Tab)) : Tab W := by
  obtain ⟨g', t', cs, fuel, p, hg', ht', hvar, hd⟩ := h
  obtain rfl := Option.some.inj (gpow.symm.trans hg')
  obtain rfl := Option.some.inj (ty1.symm.trans ht')
  show W.var? Tryd.prog _ = _
  rw [hvar, ← cells_of_tab und96 und40 cells40 cells96 hd]
theorem tab_back {W : World} (h : laidMet Tryd.prog Rows.fnNumberBackRow.laid W) : Tab W :=
  tab_of_reads (pow_eq ▸ laidMet.reads h (.tail _ (.tail _ (.head _))))
theorem tab_whole {W : World} (h : laidMet Tryd.prog Rows.fnNumberWholeRow.laid W) : Tab W :=
  tab_of_reads (pow_eq ▸ laidMet.reads h (.tail _ (.tail _ (.head _))))
/-- The cells of a datum of whole numbers. -/
def cellsOf : DataW Unit → Array Value
  | .agg parts => (parts.map fun
    | .lit (.int k n) => Value.int k n
    | _ => Value.nilIface).toArray
  | _ => #[]
/-- A WORLD FOR THE WITNESS: the settled one, the tables holding what their initialisers lay. -/
noncomputable def laidWorld (os : Os) : World :=
  let w0 := World.holding Tryd.prog os ⟨#[], #[], []⟩
  let put (h : Array Obj) (g : Nat) (cs : Array Value) : Array Obj := h.modify g fun
    | .cells _ t frozen => .cells cs t frozen
    | o => o
  let h1 := put w0.heap 1 (cellsOf Rows.laid_internal_strconv_uint64pow10)
  let h2 := put h1 2 (cellsOf Rows.laid_math_bits_deBruijn32tab)
  let h3 := put h2 3 (cellsOf Rows.laid_math_bits_deBruijn64tab)
  { w0 with heap := h3 }
end Go.Proofs.YtheichpmhfledaaDoor
