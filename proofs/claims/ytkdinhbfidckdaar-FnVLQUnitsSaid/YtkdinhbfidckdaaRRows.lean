/-
  No cell of these rows narrows 'for every input' (looked for: loops, veiled, ifaces, maps, wideKeys, modest, calm, conditions, laid).
  DERIVED. THE GIVEN ROWS OF THIS SEAT. 8 by the template 'for every input the law returns true; each argument reads behind the call as it read before'; 0 by the template 'total and deterministic' (their statements: YtkdinhbfidckdaaRTotals.lean).
  GIVEN WITH THE SEED: the statements are not yours to turn. If you find one false, say at which input.
  Laid BY PROGRAM, IN A SANDBOX (cutbox-rows.mjs): the forced cells as the released guide's own fill.sh prints them over the translation 1c060b8ae9a6f847… (all of the seat's roots in one cut). By AI agents, Wed Nov 11 2026. No macro, syntax, notation, axiom, sorry.
-/
import Derived.Test.YtkdinhbfidckdaaRChecked
import GoSem.Claim
import GoSem.ClaimJoined
import GoSem.ClaimMapViews
import Derived.JoinedTies
import Derived.KernelRfl
namespace Go.Proofs.YtkdinhbfidckdaaR
/- THE CELL 'sum', in the pinned program and in every row, IS THE sha256 OF THE DUMP (.gsa) THAT YtkdinhbfidckdaaRProg.lean LOADS. Nothing in Lean hashes anything: it is a label: what it is worth is what the hold of that sum in a sandbox is worth. -/
noncomputable def Try.pinned : Pinned := { name := "ytkdinhbfidckdaar", sum := "1c060b8ae9a6f847dd70f33bbc88c39796dcc3c60599d8879deb3ea695cbe5aa", checked := Try.checked }
namespace Rows
def none {H : Type} : Left H := { results := [], args := [] }

/-- 'laws.FnBefore': WHATEVER THE INPUT: true; the input reads as it did. -/
def fnBeforeSpec : ChangeSpec := { name := "fnBefore", fn := fun _ => fun
  | [d1, d2, d3, d4] => { results := [.lit (.bool true)], args := [d1, d2, d3, d4] }
  | _ => none }
def fnBeforeRow : OpenClaim := { program := "ytkdinhbfidckdaar", sum := "1c060b8ae9a6f847dd70f33bbc88c39796dcc3c60599d8879deb3ea695cbe5aa", func := "given.example/pub-frisket/laws.FnBefore", spec := "fnBefore", apart := false }
def FnBeforeSaid : Prop := fnBeforeRow.holds Try.pinned (OpenSpec.ofChange fnBeforeSpec)

/-- ITS FALSE NEIGHBOUR: 'it returns false'. Refute it at one input. -/
def fnBeforeWrong : ChangeSpec := { name := "fnBefore", fn := fun _ => fun
  | [d1, d2, d3, d4] => { results := [.lit (.bool false)], args := [d1, d2, d3, d4] }
  | _ => none }
def FnBeforeWrongFalsely : Prop := fnBeforeRow.holds Try.pinned (OpenSpec.ofChange fnBeforeWrong)

/-- 'laws.FnNonBMP': WHATEVER THE INPUT: true; the input reads as it did. -/
def fnNonBMPSpec : ChangeSpec := { name := "fnNonBMP", fn := fun _ => fun
  | [d] => { results := [.lit (.bool true)], args := [d] }
  | _ => none }
def fnNonBMPRow : OpenClaim := { program := "ytkdinhbfidckdaar", sum := "1c060b8ae9a6f847dd70f33bbc88c39796dcc3c60599d8879deb3ea695cbe5aa", func := "given.example/pub-frisket/laws.FnNonBMP", spec := "fnNonBMP", apart := false }
def FnNonBMPSaid : Prop := fnNonBMPRow.holds Try.pinned (OpenSpec.ofChange fnNonBMPSpec)

/-- ITS FALSE NEIGHBOUR: 'it returns false'. Refute it at one input. -/
def fnNonBMPWrong : ChangeSpec := { name := "fnNonBMP", fn := fun _ => fun
  | [d] => { results := [.lit (.bool false)], args := [d] }
  | _ => none }
def FnNonBMPWrongFalsely : Prop := fnNonBMPRow.holds Try.pinned (OpenSpec.ofChange fnNonBMPWrong)

/-- 'laws.FnScanParts': WHATEVER THE INPUT: true; the input reads as it did. -/
def fnScanPartsSpec : ChangeSpec := { name := "fnScanParts", fn := fun _ => fun
  | [d1, d2, d3, d4] => { results := [.lit (.bool true)], args := [d1, d2, d3, d4] }
  | _ => none }
def fnScanPartsRow : OpenClaim := { program := "ytkdinhbfidckdaar", sum := "1c060b8ae9a6f847dd70f33bbc88c39796dcc3c60599d8879deb3ea695cbe5aa", func := "given.example/pub-frisket/laws.FnScanParts", spec := "fnScanParts", apart := false }
def FnScanPartsSaid : Prop := fnScanPartsRow.holds Try.pinned (OpenSpec.ofChange fnScanPartsSpec)

/-- ITS FALSE NEIGHBOUR: 'it returns false'. Refute it at one input. -/
def fnScanPartsWrong : ChangeSpec := { name := "fnScanParts", fn := fun _ => fun
  | [d1, d2, d3, d4] => { results := [.lit (.bool false)], args := [d1, d2, d3, d4] }
  | _ => none }
def FnScanPartsWrongFalsely : Prop := fnScanPartsRow.holds Try.pinned (OpenSpec.ofChange fnScanPartsWrong)

/-- 'laws.FnWhitespace': WHATEVER THE INPUT: true; the input reads as it did. -/
def fnWhitespaceSpec : ChangeSpec := { name := "fnWhitespace", fn := fun _ => fun
  | [d] => { results := [.lit (.bool true)], args := [d] }
  | _ => none }
def fnWhitespaceRow : OpenClaim := { program := "ytkdinhbfidckdaar", sum := "1c060b8ae9a6f847dd70f33bbc88c39796dcc3c60599d8879deb3ea695cbe5aa", func := "given.example/pub-frisket/laws.FnWhitespace", spec := "fnWhitespace", apart := false }
def FnWhitespaceSaid : Prop := fnWhitespaceRow.holds Try.pinned (OpenSpec.ofChange fnWhitespaceSpec)

/-- ITS FALSE NEIGHBOUR: 'it returns false'. Refute it at one input. -/
def fnWhitespaceWrong : ChangeSpec := { name := "fnWhitespace", fn := fun _ => fun
  | [d] => { results := [.lit (.bool false)], args := [d] }
  | _ => none }
def FnWhitespaceWrongFalsely : Prop := fnWhitespaceRow.holds Try.pinned (OpenSpec.ofChange fnWhitespaceWrong)

/-- 'laws.FnGlob': WHATEVER THE INPUT: true; the input reads as it did. -/
def fnGlobSpec : ChangeSpec := { name := "fnGlob", fn := fun _ => fun
  | [d] => { results := [.lit (.bool true)], args := [d] }
  | _ => none }
def fnGlobRow : OpenClaim := { program := "ytkdinhbfidckdaar", sum := "1c060b8ae9a6f847dd70f33bbc88c39796dcc3c60599d8879deb3ea695cbe5aa", func := "given.example/pub-frisket/laws.FnGlob", spec := "fnGlob", inPlace := ["internal/bytealg.IndexByteString"], apart := false }
def FnGlobSaid : Prop := fnGlobRow.holds Try.pinned (OpenSpec.ofChange fnGlobSpec)

/-- ITS FALSE NEIGHBOUR: 'it returns false'. Refute it at one input. -/
def fnGlobWrong : ChangeSpec := { name := "fnGlob", fn := fun _ => fun
  | [d] => { results := [.lit (.bool false)], args := [d] }
  | _ => none }
def FnGlobWrongFalsely : Prop := fnGlobRow.holds Try.pinned (OpenSpec.ofChange fnGlobWrong)

/-- 'laws.FnOperators': WHATEVER THE INPUT: true; the input reads as it did. -/
def fnOperatorsSpec : ChangeSpec := { name := "fnOperators", fn := fun _ => fun
  | [d] => { results := [.lit (.bool true)], args := [d] }
  | _ => none }
def fnOperatorsRow : OpenClaim := { program := "ytkdinhbfidckdaar", sum := "1c060b8ae9a6f847dd70f33bbc88c39796dcc3c60599d8879deb3ea695cbe5aa", func := "given.example/pub-frisket/laws.FnOperators", spec := "fnOperators", apart := false }
def FnOperatorsSaid : Prop := fnOperatorsRow.holds Try.pinned (OpenSpec.ofChange fnOperatorsSpec)

/-- ITS FALSE NEIGHBOUR: 'it returns false'. Refute it at one input. -/
def fnOperatorsWrong : ChangeSpec := { name := "fnOperators", fn := fun _ => fun
  | [d] => { results := [.lit (.bool false)], args := [d] }
  | _ => none }
def FnOperatorsWrongFalsely : Prop := fnOperatorsRow.holds Try.pinned (OpenSpec.ofChange fnOperatorsWrong)

/-- 'laws.FnVLQUnits': WHATEVER THE INPUT: true; the input reads as it did. -/
def fnVLQUnitsSpec : ChangeSpec := { name := "fnVLQUnits", fn := fun _ => fun
  | [d] => { results := [.lit (.bool true)], args := [d] }
  | _ => none }
def fnVLQUnitsRow : OpenClaim := { program := "ytkdinhbfidckdaar", sum := "1c060b8ae9a6f847dd70f33bbc88c39796dcc3c60599d8879deb3ea695cbe5aa", func := "given.example/pub-frisket/laws.FnVLQUnits", spec := "fnVLQUnits", inPlace := ["internal/bytealg.IndexByteString"], unfollowed := true, recurses := true, apart := false }
def FnVLQUnitsSaid : Prop := fnVLQUnitsRow.holds Try.pinned (OpenSpec.ofChange fnVLQUnitsSpec)

/-- ITS FALSE NEIGHBOUR: 'it returns false'. Refute it at one input. -/
def fnVLQUnitsWrong : ChangeSpec := { name := "fnVLQUnits", fn := fun _ => fun
  | [d] => { results := [.lit (.bool false)], args := [d] }
  | _ => none }
def FnVLQUnitsWrongFalsely : Prop := fnVLQUnitsRow.holds Try.pinned (OpenSpec.ofChange fnVLQUnitsWrong)

/-- 'laws.FnDecodeRune': WHATEVER THE INPUT: true; the input reads as it did. -/
def fnDecodeRuneSpec : ChangeSpec := { name := "fnDecodeRune", fn := fun _ => fun
  | [d] => { results := [.lit (.bool true)], args := [d] }
  | _ => none }
def fnDecodeRuneRow : OpenClaim := { program := "ytkdinhbfidckdaar", sum := "1c060b8ae9a6f847dd70f33bbc88c39796dcc3c60599d8879deb3ea695cbe5aa", func := "given.example/pub-frisket/laws.FnDecodeRune", spec := "fnDecodeRune", apart := false }
def FnDecodeRuneSaid : Prop := fnDecodeRuneRow.holds Try.pinned (OpenSpec.ofChange fnDecodeRuneSpec)

/-- ITS FALSE NEIGHBOUR: 'it returns false'. Refute it at one input. -/
def fnDecodeRuneWrong : ChangeSpec := { name := "fnDecodeRune", fn := fun _ => fun
  | [d] => { results := [.lit (.bool false)], args := [d] }
  | _ => none }
def FnDecodeRuneWrongFalsely : Prop := fnDecodeRuneRow.holds Try.pinned (OpenSpec.ofChange fnDecodeRuneWrong)

/- THE SECOND FORM. 'bulk': how many values and letters a reading holds, each counted each time it is reached (what is shared counts as often as it is met; a slice's spare places count too). A statement '..UptoSaid' is the law's where the arguments, and the package variables that the reading takes, are together of bulk at most 1048576: NARROWER than '..Said'. Prove '..Said' where nothing that the law and all that it calls make is longer than what came in: it says more and counts as full. Else prove '..UptoSaid'. A law counts once. -/
mutual
def uptoBulk {H : Type} : DataW H → Nat
  | .lit (.string bytes) => bytes.length + 1
  | .lit _ => 1
  | .nil => 1
  | .ptr d => uptoBulk d + 1
  | .slice elems spare => uptoBulkAll elems + uptoBulkAll spare + 1
  | .agg parts => uptoBulkAll parts + 1
  | .iface _ d => uptoBulk d + 1
  | .map entries => uptoBulkEntries entries + 1
  | .held _ => 1
def uptoBulkAll {H : Type} : List (DataW H) → Nat
  | [] => 0
  | d :: r => uptoBulk d + uptoBulkAll r
def uptoBulkEntries {H : Type} : List (Lit × DataW H) → Nat
  | [] => 0
  | x :: r => uptoBulkEntry x + uptoBulkEntries r
def uptoBulkEntry {H : Type} : Lit × DataW H → Nat
  | (.string bytes, d) => bytes.length + uptoBulk d + 1
  | (_, d) => uptoBulk d + 1
 end
def uptoSmall : (H : Type) → List (DataW H) → Bool := fun _ ds => decide (uptoBulkAll ds ≤ 1048576)
def OpenSpec.upto (s : _root_.Go.ChangeSpec) : _root_.Go.OpenSpec := { _root_.Go.OpenSpec.ofChange s with cond := some uptoSmall }

/-- 'laws.FnBefore', WHERE WHAT IT READS IS OF BULK AT MOST 1048576: true; the input reads as it did. -/
def fnBeforeUptoRow : OpenClaim := { program := "ytkdinhbfidckdaar", sum := "1c060b8ae9a6f847dd70f33bbc88c39796dcc3c60599d8879deb3ea695cbe5aa", func := "given.example/pub-frisket/laws.FnBefore", spec := "fnBefore", apart := false, narrowed := true }
def FnBeforeUptoSaid : Prop := fnBeforeUptoRow.holds Try.pinned (OpenSpec.upto fnBeforeSpec)

/-- 'laws.FnNonBMP', WHERE WHAT IT READS IS OF BULK AT MOST 1048576: true; the input reads as it did. -/
def fnNonBMPUptoRow : OpenClaim := { program := "ytkdinhbfidckdaar", sum := "1c060b8ae9a6f847dd70f33bbc88c39796dcc3c60599d8879deb3ea695cbe5aa", func := "given.example/pub-frisket/laws.FnNonBMP", spec := "fnNonBMP", apart := false, narrowed := true }
def FnNonBMPUptoSaid : Prop := fnNonBMPUptoRow.holds Try.pinned (OpenSpec.upto fnNonBMPSpec)

/-- 'laws.FnScanParts', WHERE WHAT IT READS IS OF BULK AT MOST 1048576: true; the input reads as it did. -/
def fnScanPartsUptoRow : OpenClaim := { program := "ytkdinhbfidckdaar", sum := "1c060b8ae9a6f847dd70f33bbc88c39796dcc3c60599d8879deb3ea695cbe5aa", func := "given.example/pub-frisket/laws.FnScanParts", spec := "fnScanParts", apart := false, narrowed := true }
def FnScanPartsUptoSaid : Prop := fnScanPartsUptoRow.holds Try.pinned (OpenSpec.upto fnScanPartsSpec)

/-- 'laws.FnWhitespace', WHERE WHAT IT READS IS OF BULK AT MOST 1048576: true; the input reads as it did. -/
def fnWhitespaceUptoRow : OpenClaim := { program := "ytkdinhbfidckdaar", sum := "1c060b8ae9a6f847dd70f33bbc88c39796dcc3c60599d8879deb3ea695cbe5aa", func := "given.example/pub-frisket/laws.FnWhitespace", spec := "fnWhitespace", apart := false, narrowed := true }
def FnWhitespaceUptoSaid : Prop := fnWhitespaceUptoRow.holds Try.pinned (OpenSpec.upto fnWhitespaceSpec)

/-- 'laws.FnGlob', WHERE WHAT IT READS IS OF BULK AT MOST 1048576: true; the input reads as it did. -/
def fnGlobUptoRow : OpenClaim := { program := "ytkdinhbfidckdaar", sum := "1c060b8ae9a6f847dd70f33bbc88c39796dcc3c60599d8879deb3ea695cbe5aa", func := "given.example/pub-frisket/laws.FnGlob", spec := "fnGlob", inPlace := ["internal/bytealg.IndexByteString"], apart := false, narrowed := true }
def FnGlobUptoSaid : Prop := fnGlobUptoRow.holds Try.pinned (OpenSpec.upto fnGlobSpec)

/-- 'laws.FnOperators', WHERE WHAT IT READS IS OF BULK AT MOST 1048576: true; the input reads as it did. -/
def fnOperatorsUptoRow : OpenClaim := { program := "ytkdinhbfidckdaar", sum := "1c060b8ae9a6f847dd70f33bbc88c39796dcc3c60599d8879deb3ea695cbe5aa", func := "given.example/pub-frisket/laws.FnOperators", spec := "fnOperators", apart := false, narrowed := true }
def FnOperatorsUptoSaid : Prop := fnOperatorsUptoRow.holds Try.pinned (OpenSpec.upto fnOperatorsSpec)

/-- 'laws.FnVLQUnits', WHERE WHAT IT READS IS OF BULK AT MOST 1048576: true; the input reads as it did. -/
def fnVLQUnitsUptoRow : OpenClaim := { program := "ytkdinhbfidckdaar", sum := "1c060b8ae9a6f847dd70f33bbc88c39796dcc3c60599d8879deb3ea695cbe5aa", func := "given.example/pub-frisket/laws.FnVLQUnits", spec := "fnVLQUnits", inPlace := ["internal/bytealg.IndexByteString"], unfollowed := true, recurses := true, apart := false, narrowed := true }
def FnVLQUnitsUptoSaid : Prop := fnVLQUnitsUptoRow.holds Try.pinned (OpenSpec.upto fnVLQUnitsSpec)

/-- 'laws.FnDecodeRune', WHERE WHAT IT READS IS OF BULK AT MOST 1048576: true; the input reads as it did. -/
def fnDecodeRuneUptoRow : OpenClaim := { program := "ytkdinhbfidckdaar", sum := "1c060b8ae9a6f847dd70f33bbc88c39796dcc3c60599d8879deb3ea695cbe5aa", func := "given.example/pub-frisket/laws.FnDecodeRune", spec := "fnDecodeRune", apart := false, narrowed := true }
def FnDecodeRuneUptoSaid : Prop := fnDecodeRuneUptoRow.holds Try.pinned (OpenSpec.upto fnDecodeRuneSpec)

end Rows
end Go.Proofs.YtkdinhbfidckdaaR
