/- Maps of strings that a call made: look-ups; what is packed: plain facts. -/
import Derived.ArgAppend
import Derived.Below
import Derived.BigQuiet
import Derived.Deep.AppendLies
import Derived.Deep.CutBlock
import Derived.Deep.DeepCutAuto
import Derived.Deep.Draws
import Derived.Deep.LoopGhost
import Derived.Deep.OwnRows
import Derived.Deep.QuietTactic
import Derived.Deep.RegionHeld3
import Derived.KernelRfl
import Derived.Laws.BitsLemmas
import Derived.Laws.BytesArg
import Derived.Laws.IdiomCopy
import Derived.Laws.MakeOwn
import Derived.Laws.OwnMore
import Derived.Laws.Rows
import Derived.Laws.Slices
import Derived.Lib.AppendStr
import Derived.Lib.ConvBytes
import Derived.Maps.AppendAt
import Derived.OrdersHeld
import Derived.OwnWalk
import Derived.RowKit
import Derived.RowKit3
import Derived.Tactics
import Derived.Test.YthepcahgipglcaaProg
import Derived.Test.YthepcahgipglcaaWApart
import Derived.Test.YthepcahgipglcaaWArr
import Derived.Test.YthepcahgipglcaaWAt
import Derived.Test.YthepcahgipglcaaWEqStruct
import Derived.Test.YthepcahgipglcaaWFoot
import Derived.Test.YthepcahgipglcaaWFootNe
import Derived.Test.YthepcahgipglcaaWFour
import Derived.Test.YthepcahgipglcaaWGuard
import Derived.Test.YthepcahgipglcaaWInv
import Derived.Test.YthepcahgipglcaaWInvWords
import Derived.Test.YthepcahgipglcaaWKept
import Derived.Test.YthepcahgipglcaaWLast
import Derived.Test.YthepcahgipglcaaWMore
import Derived.Test.YthepcahgipglcaaWN
import Derived.Test.YthepcahgipglcaaWNEv
import Derived.Test.YthepcahgipglcaaWQPut
import Derived.Test.YthepcahgipglcaaWRepsOne
import Derived.Test.YthepcahgipglcaaWShare
import Derived.Test.YthepcahgipglcaaWTab
import Derived.Test.YthepcahgipglcaaWWords
import Derived.Test.YthepcahgipglcaaWZeros
import Derived.WalkKit
import Derived.WideLaws
import Derived.Test.YthepcahgipglcaaExtBuild
import Derived.Maps.OwnOps
import Derived.Maps.RangeWalk
import Derived.Maps.Range
import Derived.Maps.OwnSet
import Derived.Maps.StringElems
import Derived.Sort.KeysCollected
import Derived.Sort.OwnSorted
set_option linter.unusedVariables false
namespace Go.Proofs.Ythepcahgipglcaa
open Go.RowKit Go.Maps Go.Sort Go.Proofs.YthepcahgipglcaaW.PrintWords Go.Proofs.YthepcahgipglcaaW.PrintLast
theorem law9 : Keyed Try.prog 9 := string_keyed Try.underlying9
theorem zero9 (w : World) : (zeroValue 9).run Try.prog w = .ok (.string ⟨#[]⟩) w := by kernel_rfl
/-- 'm[k]' AT ELEMENTS THAT ARE STRINGS. -/
theorem wpList_lookup_own_str {H : Type} {P : Program} (w : World) {ops : Array Oper} {rest : List Oper} {o : Oper} {a : Act} {Q : Exit → Act → World → Prop}
    (hg : o.guard = none) (m x : Operand) (t : TypeId) (hop : o.op = Op.lookup t m x false)
    (k e : TypeId) (K : Keyed P k) (ht : P.underlying t = some (.map k e)) (he : P.underlying e = some .string) (hz : (zeroValue e).run P w = .ok (.string ⟨#[]⟩) w) (b n : Nat) (D : DataW H)
    (hm : a.eval m = .map (some b)) (hown : w.ownsMap P k (plainElem P e) b n D) (key : Value) (kl : Lit) (hx : a.eval x = key) (hkey : keyOf P k key = some kl)
    (hK : ∀ s : ByteArray, D.atKey kl (.lit (.string [])) = .lit (.string s.data.toList) → s.size ≤ maxLen → wpList P ops Q rest (a.put o.dst (.string s)) w) :
    wpList P ops Q (o :: rest) a w := by
  refine wpList_plain hg fun K' hK' => ?_
  obtain ⟨v, ps, hrun, hv⟩ := hown.lookup K ht hz (plainElem_string (H := H) he (s := ⟨#[]⟩) (by show (0 : Nat) ≤ maxLen; exact Nat.zero_le _)) hkey
  obtain ⟨s, rfl, hz2, hs⟩ := plainElem_string_inv he hv
  simp only [Prod.mk.injEq] at hz2
  unfold Oper.wp
  simp [execOp, hop, hm, hx, hrun, Result.andThen]
  exact hK' _ _ (hK s hz2.1 hs)
/-! ### what is packed -/
abbrev Bs := List UInt8
def packOne (p : Bs × Bs) : Bs := Lib.leBytes 4 p.1.length ++ (p.1 ++ (Lib.leBytes 4 p.2.length ++ p.2))
def pack (kv : List (Bs × Bs)) : Bs := kv.flatMap packOne
theorem pack_snoc (kv : List (Bs × Bs)) (p : Bs × Bs) : pack (kv ++ [p]) = pack kv ++ packOne p := by simp [pack]
theorem pack_cons (kv : List (Bs × Bs)) (p : Bs × Bs) : pack (p :: kv) = packOne p ++ pack kv := by simp [pack]
theorem leBytes_length : ∀ (n v : Nat), (Lib.leBytes n v).length = n
  | 0, _ => rfl
  | n + 1, v => by simp [Lib.leBytes, leBytes_length n]
theorem packOne_length (p : Bs × Bs) : (packOne p).length = 8 + p.1.length + p.2.length := by
  unfold packOne
  simp only [List.length_append, leBytes_length]
  omega
/-- What a map of strings has at a key. -/
def valOf (D : DataW Unit) (k : Bs) : Bs := match D.atKey (.string k) (.lit (.string [])) with
  | .lit (.string l) => l
  | _ => []
theorem valOf_eq {D : DataW Unit} {k : Bs} {s : ByteArray} (h : D.atKey (.string k) (.lit (.string [])) = .lit (.string s.data.toList)) : valOf D k = s.data.toList := by
  unfold valOf
  rw [h]
def pairsOf (D : DataW Unit) (ks : List Bs) : List (Bs × Bs) := ks.map fun k => (k, valOf D k)
/-- What a text of the pairs makes of a map. -/
def putP (D : DataW Unit) (p : ByteArray × ByteArray) : DataW Unit := D.put (.string p.1.data.toList) (.lit (.string p.2.data.toList))
def mapOf (ps : List (ByteArray × ByteArray)) : DataW Unit := ps.foldl putP (.map [])
theorem strKey (k : Bs) : WideAt.IsKeyLit (.string k) := by simp [WideAt.IsKeyLit]
end Go.Proofs.Ythepcahgipglcaa
