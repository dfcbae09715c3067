-- Written by printx.py of this session, over the kit's print, with contracts of this session for some functions
import Derived.Test.YtlbamdlegloieaaDoorProg
import Derived.Below
import Derived.Deep.Draws
import Derived.Deep.AppendLies
import Derived.Maps.AppendAt
import Derived.OwnWalk
import Derived.Laws.BytesArg
import Derived.Laws.MakeOwn
import Derived.Laws.OwnMore
import Derived.Deep.OwnRows
import Derived.Tactics
import Derived.Lib.ConvBytes
import Derived.Laws.Slices
import Derived.WalkKit
import Derived.KernelRfl
import Derived.RowKit3
import Derived.Deep.LoopGhost
import Derived.Deep.QuietTactic
import Derived.BigQuiet
import Derived.WideLaws
import Derived.Deep.DeepCutAuto
import Derived.Deep.CutBlock
import Derived.Deep.RegionHeld3
import Derived.Laws.Rows
import Derived.Lib.AppendStr
import Derived.ArgAppend
import Derived.Laws.IdiomCopy
import Derived.OrdersHeld
import Derived.Laws.BitsLemmas
import Derived.RowKit
import Derived.Test.YtlbamdlegloieaaDoorWWords
import Derived.Test.YtlbamdlegloieaaDoorWLast
import Derived.Test.YtlbamdlegloieaaDoorWTab
import Derived.Test.YtlbamdlegloieaaDoorWFour
import Derived.Test.YtlbamdlegloieaaDoorWQPut
import Derived.Test.YtlbamdlegloieaaDoorWApart
import Derived.Test.YtlbamdlegloieaaDoorWArr
import Derived.Test.YtlbamdlegloieaaDoorWZeros
import Derived.Test.YtlbamdlegloieaaDoorWFoot
import Derived.Test.YtlbamdlegloieaaDoorWKept
import Derived.Test.YtlbamdlegloieaaDoorWShare
import Derived.Test.YtlbamdlegloieaaDoorWN
import Derived.Test.YtlbamdlegloieaaDoorWFootNe
import Derived.Test.YtlbamdlegloieaaDoorWAt
import Derived.Test.YtlbamdlegloieaaDoorWEqStruct
import Derived.Test.YtlbamdlegloieaaDoorWRepsOne
import Derived.Test.YtlbamdlegloieaaDoorWInv
import Derived.Test.YtlbamdlegloieaaDoorWInvWords
import Derived.Test.YtlbamdlegloieaaDoorWGuard
import Derived.Test.YtlbamdlegloieaaDoorWNEv
import Derived.Test.YtlbamdlegloieaaDoorWMore
namespace Go.Proofs.YtlbamdlegloieaaDoor.PFnShuffledName
open Go.RowKit Go.Proofs.YtlbamdlegloieaaDoorW.PrintWords Go.Proofs.YtlbamdlegloieaaDoorW.PrintLast Go.Proofs.YtlbamdlegloieaaDoorW.PrintMore
attribute [local go_sem] max2_int min2_int max_two min_two max_three min_three max_four min_four   -- for this text's walks alone
set_option linter.unusedVariables false
set_option linter.unusedSimpArgs false



def errW : Option Int → Value
  | none => .nilIface
  | some c => .iface 0 (.int .i64 c)
theorem errW_none : errW none = .nilIface := rfl
theorem errW_some (c : Int) : errW (some c) = .iface 0 (.int .i64 c) := rfl

-- the values' own types

end Go.Proofs.YtlbamdlegloieaaDoor.PFnShuffledName
