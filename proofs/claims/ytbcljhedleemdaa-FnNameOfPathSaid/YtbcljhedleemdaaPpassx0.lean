-- Written by printx.py of this session, over the kit's print, with contracts of this session for some functions
import Derived.Test.YtbcljhedleemdaaProg
import Derived.Below
import Derived.Deep.Draws
import Derived.Deep.AppendLies
import Derived.Maps.AppendAt
import Derived.OwnWalk
import Derived.Laws.BytesArg
import Derived.Laws.MakeOwn
import Derived.Laws.OwnMore
import Derived.Deep.OwnRows
import Derived.Tactics
import Derived.Lib.ConvBytes
import Derived.Laws.Slices
import Derived.WalkKit
import Derived.KernelRfl
import Derived.RowKit3
import Derived.Deep.LoopGhost
import Derived.Deep.QuietTactic
import Derived.BigQuiet
import Derived.WideLaws
import Derived.Deep.DeepCutAuto
import Derived.Deep.CutBlock
import Derived.Deep.RegionHeld3
import Derived.Laws.Rows
import Derived.Lib.AppendStr
import Derived.ArgAppend
import Derived.Laws.IdiomCopy
import Derived.OrdersHeld
import Derived.Laws.BitsLemmas
import Derived.RowKit
import Derived.Test.YtbcljhedleemdaaWWords
import Derived.Test.YtbcljhedleemdaaWLast
import Derived.Test.YtbcljhedleemdaaWTab
import Derived.Test.YtbcljhedleemdaaWFour
import Derived.Test.YtbcljhedleemdaaWQPut
import Derived.Test.YtbcljhedleemdaaWApart
import Derived.Test.YtbcljhedleemdaaWArr
import Derived.Test.YtbcljhedleemdaaWZeros
import Derived.Test.YtbcljhedleemdaaWFoot
import Derived.Test.YtbcljhedleemdaaWKept
import Derived.Test.YtbcljhedleemdaaWShare
import Derived.Test.YtbcljhedleemdaaWN
import Derived.Test.YtbcljhedleemdaaWFootNe
import Derived.Test.YtbcljhedleemdaaWAt
import Derived.Test.YtbcljhedleemdaaWEqStruct
import Derived.Test.YtbcljhedleemdaaWRepsOne
import Derived.Test.YtbcljhedleemdaaWInv
import Derived.Test.YtbcljhedleemdaaWInvWords
import Derived.Test.YtbcljhedleemdaaWGuard
import Derived.Test.YtbcljhedleemdaaWNEv
import Derived.Test.YtbcljhedleemdaaWMore
namespace Go.Proofs.Ytbcljhedleemdaa.Ppass
open Go.RowKit Go.Proofs.YtbcljhedleemdaaW.PrintWords Go.Proofs.YtbcljhedleemdaaW.PrintLast Go.Proofs.YtbcljhedleemdaaW.PrintMore
attribute [local go_sem] max2_int min2_int max_two min_two max_three min_three max_four min_four   -- for this text's walks alone
set_option linter.unusedVariables false
set_option linter.unusedSimpArgs false



def errW : Option Int → Value
  | none => .nilIface
  | some c => .iface 0 (.int .i64 c)
theorem errW_none : errW none = .nilIface := rfl
theorem errW_some (c : Int) : errW (some c) = .iface 0 (.int .i64 c) := rfl

-- the values' own types

end Go.Proofs.Ytbcljhedleemdaa.Ppass
