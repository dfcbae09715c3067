-- Written by printx.py of this session, over the kit's print, with contracts of this session for some functions
import Derived.Test.YtckgmnpcnoanhaaDoorProg
import Derived.Below
import Derived.Deep.Draws
import Derived.Deep.AppendLies
import Derived.Maps.AppendAt
import Derived.OwnWalk
import Derived.Laws.BytesArg
import Derived.Laws.MakeOwn
import Derived.Laws.OwnMore
import Derived.Deep.OwnRows
import Derived.Tactics
import Derived.Lib.ConvBytes
import Derived.Laws.Slices
import Derived.WalkKit
import Derived.KernelRfl
import Derived.RowKit3
import Derived.Deep.LoopGhost
import Derived.Deep.QuietTactic
import Derived.BigQuiet
import Derived.WideLaws
import Derived.Deep.DeepCutAuto
import Derived.Deep.CutBlock
import Derived.Deep.RegionHeld3
import Derived.Laws.Rows
import Derived.Lib.AppendStr
import Derived.ArgAppend
import Derived.Laws.IdiomCopy
import Derived.OrdersHeld
import Derived.Laws.BitsLemmas
import Derived.RowKit
import Derived.Test.YtckgmnpcnoanhaaDoorWWords
import Derived.Test.YtckgmnpcnoanhaaDoorWLast
import Derived.Test.YtckgmnpcnoanhaaDoorWTab
import Derived.Test.YtckgmnpcnoanhaaDoorWFour
import Derived.Test.YtckgmnpcnoanhaaDoorWQPut
import Derived.Test.YtckgmnpcnoanhaaDoorWApart
import Derived.Test.YtckgmnpcnoanhaaDoorWArr
import Derived.Test.YtckgmnpcnoanhaaDoorWZeros
import Derived.Test.YtckgmnpcnoanhaaDoorWFoot
import Derived.Test.YtckgmnpcnoanhaaDoorWKept
import Derived.Test.YtckgmnpcnoanhaaDoorWShare
import Derived.Test.YtckgmnpcnoanhaaDoorWN
import Derived.Test.YtckgmnpcnoanhaaDoorWFootNe
import Derived.Test.YtckgmnpcnoanhaaDoorWAt
import Derived.Test.YtckgmnpcnoanhaaDoorWEqStruct
import Derived.Test.YtckgmnpcnoanhaaDoorWRepsOne
import Derived.Test.YtckgmnpcnoanhaaDoorWInv
import Derived.Test.YtckgmnpcnoanhaaDoorWInvWords
import Derived.Test.YtckgmnpcnoanhaaDoorWGuard
import Derived.Test.YtckgmnpcnoanhaaDoorWNEv
import Derived.Test.YtckgmnpcnoanhaaDoorWMore
namespace Go.Proofs.YtckgmnpcnoanhaaDoor.PFnLocated
open Go.RowKit Go.Proofs.YtckgmnpcnoanhaaDoorW.PrintWords Go.Proofs.YtckgmnpcnoanhaaDoorW.PrintLast Go.Proofs.YtckgmnpcnoanhaaDoorW.PrintMore
attribute [local go_sem] max2_int min2_int max_two min_two max_three min_three max_four min_four   -- for this text's walks alone
set_option linter.unusedVariables false
set_option linter.unusedSimpArgs false



def errW : Option Int → Value
  | none => .nilIface
  | some c => .iface 0 (.int .i64 c)
theorem errW_none : errW none = .nilIface := rfl
theorem errW_some (c : Int) : errW (some c) = .iface 0 (.int .i64 c) := rfl

-- the values' own types

end Go.Proofs.YtckgmnpcnoanhaaDoor.PFnLocated
