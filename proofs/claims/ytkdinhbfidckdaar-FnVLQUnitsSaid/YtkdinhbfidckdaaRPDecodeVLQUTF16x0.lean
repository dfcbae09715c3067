-- Written by printx.py of this session, over the kit's print, with contracts of this session for some functions
import Derived.Test.YtkdinhbfidckdaaRProg
import Derived.Below
import Derived.Deep.Draws
import Derived.Deep.AppendLies
import Derived.Maps.AppendAt
import Derived.OwnWalk
import Derived.Laws.BytesArg
import Derived.Laws.MakeOwn
import Derived.Laws.OwnMore
import Derived.Deep.OwnRows
import Derived.Tactics
import Derived.Lib.ConvBytes
import Derived.Laws.Slices
import Derived.WalkKit
import Derived.KernelRfl
import Derived.RowKit3
import Derived.Deep.LoopGhost
import Derived.Deep.QuietTactic
import Derived.BigQuiet
import Derived.WideLaws
import Derived.Deep.DeepCutAuto
import Derived.Deep.CutBlock
import Derived.Deep.RegionHeld3
import Derived.Laws.Rows
import Derived.Lib.AppendStr
import Derived.ArgAppend
import Derived.Laws.IdiomCopy
import Derived.OrdersHeld
import Derived.Laws.BitsLemmas
import Derived.RowKit
import Derived.Test.YtkdinhbfidckdaaRExtIndexByte
import Derived.Test.YtkdinhbfidckdaaRWWords
import Derived.Test.YtkdinhbfidckdaaRWLast
import Derived.Test.YtkdinhbfidckdaaRWTab
import Derived.Test.YtkdinhbfidckdaaRWFour
import Derived.Test.YtkdinhbfidckdaaRWQPut
import Derived.Test.YtkdinhbfidckdaaRWApart
import Derived.Test.YtkdinhbfidckdaaRWArr
import Derived.Test.YtkdinhbfidckdaaRWZeros
import Derived.Test.YtkdinhbfidckdaaRWFoot
import Derived.Test.YtkdinhbfidckdaaRWKept
import Derived.Test.YtkdinhbfidckdaaRWShare
import Derived.Test.YtkdinhbfidckdaaRWN
import Derived.Test.YtkdinhbfidckdaaRWFootNe
import Derived.Test.YtkdinhbfidckdaaRWAt
import Derived.Test.YtkdinhbfidckdaaRWEqStruct
import Derived.Test.YtkdinhbfidckdaaRWRepsOne
import Derived.Test.YtkdinhbfidckdaaRWInv
import Derived.Test.YtkdinhbfidckdaaRWInvWords
import Derived.Test.YtkdinhbfidckdaaRWGuard
import Derived.Test.YtkdinhbfidckdaaRWNEv
import Derived.Test.YtkdinhbfidckdaaRWMore
namespace Go.Proofs.YtkdinhbfidckdaaR.PDecodeVLQUTF16
open Go.RowKit Go.Proofs.YtkdinhbfidckdaaRW.PrintWords Go.Proofs.YtkdinhbfidckdaaRW.PrintLast Go.Proofs.YtkdinhbfidckdaaRW.PrintMore
attribute [local go_sem] max2_int min2_int max_two min_two max_three min_three max_four min_four   -- for this text's walks alone
set_option linter.unusedVariables false
set_option linter.unusedSimpArgs false



def errW : Option Int → Value
  | none => .nilIface
  | some c => .iface 0 (.int .i64 c)
theorem errW_none : errW none = .nilIface := rfl
theorem errW_some (c : Int) : errW (some c) = .iface 0 (.int .i64 c) := rfl

-- the values' own types

end Go.Proofs.YtkdinhbfidckdaaR.PDecodeVLQUTF16
