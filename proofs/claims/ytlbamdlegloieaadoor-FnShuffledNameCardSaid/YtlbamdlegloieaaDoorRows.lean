/-
  NARROWER THAN 'FOR EVERY INPUT', by the rows' own cells (each row's printed sentence says how): FnShuffledName: laid.
  DERIVED. THE GIVEN ROWS OF THIS SEAT. 1 by the template 'for every input the law returns true; each argument reads behind the call as it read before'; 0 by the template 'total and deterministic' (their statements: YtlbamdlegloieaaDoorTotals.lean).
  GIVEN WITH THE SEED: the statements are not yours to turn. If you find one false, say at which input.
  Laid BY PROGRAM, IN A SANDBOX (cutbox-rows.mjs): the forced cells as the released guide's own fill.sh prints them over the translation 6f428454ee53dbf4… (all of the seat's roots in one cut). By AI agents, Wed Nov 11 2026. No macro, syntax, notation, axiom, sorry.
-/
import Derived.Test.YtlbamdlegloieaaDoorChecked
import GoSem.Claim
import GoSem.ClaimJoined
import GoSem.ClaimMapViews
import Derived.JoinedTies
import Derived.KernelRfl
namespace Go.Proofs.YtlbamdlegloieaaDoor
/- THE CELL 'sum', in the pinned program and in every row, IS THE sha256 OF THE DUMP (.gsa) THAT YtlbamdlegloieaaDoorProg.lean LOADS. Nothing in Lean hashes anything: it is a label: what it is worth is what the hold of that sum in a sandbox is worth. -/
noncomputable def Tryd.pinned : Pinned := { name := "ytlbamdlegloieaadoor", sum := "6f428454ee53dbf4feb97566b81dc992119872dba880bfcbd785855ee7a2201a", checked := Tryd.checked }
namespace Rows
def none {H : Type} : Left H := { results := [], args := [] }

/- WHAT THE LISTED PACKAGE-LEVEL VARIABLES READ AS WHEN THE CALL BEGINS. Each datum BY PROGRAM (the guide's laid-datum.mjs) off the statement by which the dump's own 'gosem.cut.vars' lays the variable. In a bare row this is a premise. The card (YtlbamdlegloieaaDoorCards.lean) ties it to the program's text. -/
def laid_given_example_pub_frisket_pub_esbuild_inner_ast_DefaultNameMinifierJS {H : Type} : DataW H := .agg [.lit (.string [97, 98, 99, 100, 101, 102, 103, 104, 105, 106, 107, 108, 109, 110, 111, 112, 113, 114, 115, 116, 117, 118, 119, 120, 121, 122, 65, 66, 67, 68, 69, 70, 71, 72, 73, 74, 75, 76, 77, 78, 79, 80, 81, 82, 83, 84, 85, 86, 87, 88, 89, 90, 95, 36]), .lit (.string [97, 98, 99, 100, 101, 102, 103, 104, 105, 106, 107, 108, 109, 110, 111, 112, 113, 114, 115, 116, 117, 118, 119, 120, 121, 122, 65, 66, 67, 68, 69, 70, 71, 72, 73, 74, 75, 76, 77, 78, 79, 80, 81, 82, 83, 84, 85, 86, 87, 88, 89, 90, 48, 49, 50, 51, 52, 53, 54, 55, 56, 57, 95, 36])]

/-- 'laws.FnShuffledName': WHATEVER THE INPUT: true; the input reads as it did. -/
def fnShuffledNameSpec : ChangeSpec := { name := "fnShuffledName", vars := ["given.example/pub-frisket/pub/esbuild/inner/ast.DefaultNameMinifierJS"], fn := fun _ => fun
  | [d1, d2, d3, g1] => { results := [.lit (.bool true)], args := [d1, d2, d3], vars := [g1] }
  | _ => none }
def fnShuffledNameRow : OpenClaim := { program := "ytlbamdlegloieaadoor", sum := "6f428454ee53dbf4feb97566b81dc992119872dba880bfcbd785855ee7a2201a", func := "given.example/pub-frisket/laws.FnShuffledName", spec := "fnShuffledName", inPlace := ["internal/abi.NoEscape"], unfollowed := true, recurses := true, named := ["given.example/pub-frisket/pub/esbuild/inner/ast.DefaultNameMinifierJS"], apart := false, laid := [("given.example/pub-frisket/pub/esbuild/inner/ast.DefaultNameMinifierJS", laid_given_example_pub_frisket_pub_esbuild_inner_ast_DefaultNameMinifierJS)] }
def FnShuffledNameSaid : Prop := fnShuffledNameRow.holds Tryd.pinned (OpenSpec.ofChange fnShuffledNameSpec)

/-- ITS FALSE NEIGHBOUR: 'it returns false'. Refute it at one input. -/
def fnShuffledNameWrong : ChangeSpec := { name := "fnShuffledName", vars := ["given.example/pub-frisket/pub/esbuild/inner/ast.DefaultNameMinifierJS"], fn := fun _ => fun
  | [d1, d2, d3, g1] => { results := [.lit (.bool false)], args := [d1, d2, d3], vars := [g1] }
  | _ => none }
def FnShuffledNameWrongFalsely : Prop := fnShuffledNameRow.holds Tryd.pinned (OpenSpec.ofChange fnShuffledNameWrong)

/- THE SECOND FORM. 'bulk': how many values and letters a reading holds, each counted each time it is reached (what is shared counts as often as it is met; a slice's spare places count too). A statement '..UptoSaid' is the law's where the arguments, and the package variables that the reading takes, are together of bulk at most 1048576: NARROWER than '..Said'. Prove '..Said' where nothing that the law and all that it calls make is longer than what came in: it says more and counts as full. Else prove '..UptoSaid'. A law counts once. -/
mutual
def uptoBulk {H : Type} : DataW H → Nat
  | .lit (.string bytes) => bytes.length + 1
  | .lit _ => 1
  | .nil => 1
  | .ptr d => uptoBulk d + 1
  | .slice elems spare => uptoBulkAll elems + uptoBulkAll spare + 1
  | .agg parts => uptoBulkAll parts + 1
  | .iface _ d => uptoBulk d + 1
  | .map entries => uptoBulkEntries entries + 1
  | .held _ => 1
def uptoBulkAll {H : Type} : List (DataW H) → Nat
  | [] => 0
  | d :: r => uptoBulk d + uptoBulkAll r
def uptoBulkEntries {H : Type} : List (Lit × DataW H) → Nat
  | [] => 0
  | x :: r => uptoBulkEntry x + uptoBulkEntries r
def uptoBulkEntry {H : Type} : Lit × DataW H → Nat
  | (.string bytes, d) => bytes.length + uptoBulk d + 1
  | (_, d) => uptoBulk d + 1
 end
def uptoSmall : (H : Type) → List (DataW H) → Bool := fun _ ds => decide (uptoBulkAll ds ≤ 1048576)
def OpenSpec.upto (s : _root_.Go.ChangeSpec) : _root_.Go.OpenSpec := { _root_.Go.OpenSpec.ofChange s with cond := some uptoSmall }

/-- 'laws.FnShuffledName', WHERE WHAT IT READS IS OF BULK AT MOST 1048576: true; the input reads as it did. -/
def fnShuffledNameUptoRow : OpenClaim := { program := "ytlbamdlegloieaadoor", sum := "6f428454ee53dbf4feb97566b81dc992119872dba880bfcbd785855ee7a2201a", func := "given.example/pub-frisket/laws.FnShuffledName", spec := "fnShuffledName", inPlace := ["internal/abi.NoEscape"], unfollowed := true, recurses := true, named := ["given.example/pub-frisket/pub/esbuild/inner/ast.DefaultNameMinifierJS"], apart := false, laid := [("given.example/pub-frisket/pub/esbuild/inner/ast.DefaultNameMinifierJS", laid_given_example_pub_frisket_pub_esbuild_inner_ast_DefaultNameMinifierJS)], narrowed := true }
def FnShuffledNameUptoSaid : Prop := fnShuffledNameUptoRow.holds Tryd.pinned (OpenSpec.upto fnShuffledNameSpec)

end Rows
end Go.Proofs.YtlbamdlegloieaaDoor
