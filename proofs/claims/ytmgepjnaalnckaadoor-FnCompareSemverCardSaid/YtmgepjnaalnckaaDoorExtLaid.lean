/- What the card of FnCompareSemver needs of the listed variables: a world for the witness that holds them; and the rows of the two arguments, read. -/
import Derived.Test.YtmgepjnaalnckaaDoorRows
import Derived.Test.YtmgepjnaalnckaaDoorExtLaw5
import Derived.KernelRfl
import Derived.Lib.LaidTab
import Derived.Deep.DeepHandedRow
namespace Go.Proofs.YtmgepjnaalnckaaDoor
open Go.RowKit Go.Proofs.YtmgepjnaalnckaaDoorW.PrintWords

theorem laidOut : laidOutB Tryd.prog = true := by kernel_rfl
def IsRow (k : IntKind) (w : World) (a : Option Addr) (len cap : Nat) (zs : List Int) : Prop :=
  (a = none ∧ len = 0 ∧ cap = 0 ∧ zs = []) ∨
  ∃ x, a = some x ∧ len ≤ cap ∧ cap ≤ maxLen ∧ zs.length = cap ∧ (∀ i, i < zs.length → w.cell? (x.add i) = some (.int k (zs.getD i 0))) ∧ ∀ n ∈ zs, (Lit.int k n).wf = true

theorem walk5 (a0 : Option Addr) (len0 cap0 : Nat) (z0 : List Int) (a1 : Option Addr) (len1 cap1 : Nat) (z1 : List Int) (w : World) (w0 : IsRow .i64 w a0 len0 cap0 z0) (w1 : IsRow .i64 w a1 len1 cap1 z1) :
    Calls Tryd.prog 5 #[.slice a0 len0 cap0, .slice a1 len1 cap1] w fun e w' => e = .returned (.bool true) ∧ Below w.heap.size w w' := by
  obtain ⟨l0, rfl, hr0, hm0, hw0, hc0⟩ := ReadsInt.ofRowC w0
  obtain ⟨l1, rfl, hr1, hm1, hw1, hc1⟩ := ReadsInt.ofRowC w1
  exact law_calls _ _ _ _ l0 l1 w (Kd.C_of_reads (d := (0 : Int)) (h1 := fun _ => rfl) hr0) hc0 (Kd.C_of_reads (d := (0 : Int)) (h1 := fun _ => rfl) hr1) hc1

/-- The cells of a datum of whole numbers. -/
def cellsOf : DataW Unit → Array Value
  | .agg parts => (parts.map fun
    | .lit (.int k n) => Value.int k n
    | _ => Value.nilIface).toArray
  | _ => #[]
def sentinelText (d : DataW Unit) : ByteArray := match d with
  | .iface _ (.ptr (.agg [.lit (.string bs)])) => ⟨bs.toArray⟩
  | _ => ⟨#[]⟩
/-- A WORLD FOR THE WITNESS: the settled one, the tables holding what their initialisers lay, the two errors made. -/
noncomputable def laidWorld (os : Os) : World :=
  let w0 := World.holding Tryd.prog os ⟨#[], #[], []⟩
  let put (h : Array Obj) (g : Nat) (cs : Array Value) : Array Obj := h.modify g fun
    | .cells _ t frozen => .cells cs t frozen
    | o => o
  let h1 := put w0.heap 7 (cellsOf Rows.laid_math_bits_deBruijn32tab)
  let h2 := put h1 8 (cellsOf Rows.laid_math_bits_deBruijn64tab)
  let h3 := put h2 6 (cellsOf Rows.laid_internal_strconv_uint64pow10)
  let h4 := put h3 5 #[.iface 158 (.pointer (some ⟨14, 0, none⟩))]
  let h5 := put h4 4 #[.iface 158 (.pointer (some ⟨15, 0, none⟩))]
  { w0 with heap := h5 ++ #[.cells #[.string (sentinelText Rows.laid_strconv_ErrRange)] 160, .cells #[.string (sentinelText Rows.laid_strconv_ErrSyntax)] 160] }
end Go.Proofs.YtmgepjnaalnckaaDoor
