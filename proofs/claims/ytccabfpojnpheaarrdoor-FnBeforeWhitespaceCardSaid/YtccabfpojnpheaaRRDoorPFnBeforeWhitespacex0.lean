-- Written by printx.py of this session, over the kit's print, with contracts of this session for some functions
import Derived.Test.YtccabfpojnpheaaRRDoorProg
import Derived.Below
import Derived.Deep.Draws
import Derived.Deep.AppendLies
import Derived.Maps.AppendAt
import Derived.OwnWalk
import Derived.Laws.BytesArg
import Derived.Laws.MakeOwn
import Derived.Laws.OwnMore
import Derived.Deep.OwnRows
import Derived.Tactics
import Derived.Lib.ConvBytes
import Derived.Laws.Slices
import Derived.WalkKit
import Derived.KernelRfl
import Derived.RowKit3
import Derived.Deep.LoopGhost
import Derived.Deep.QuietTactic
import Derived.BigQuiet
import Derived.WideLaws
import Derived.Deep.DeepCutAuto
import Derived.Deep.CutBlock
import Derived.Deep.RegionHeld3
import Derived.Laws.Rows
import Derived.Lib.AppendStr
import Derived.ArgAppend
import Derived.Laws.IdiomCopy
import Derived.OrdersHeld
import Derived.Laws.BitsLemmas
import Derived.RowKit
import Derived.Test.YtccabfpojnpheaaRRDoorExtBack
import Derived.Test.YtccabfpojnpheaaRRDoorWWords
import Derived.Test.YtccabfpojnpheaaRRDoorWLast
import Derived.Test.YtccabfpojnpheaaRRDoorWTab
import Derived.Test.YtccabfpojnpheaaRRDoorWFour
import Derived.Test.YtccabfpojnpheaaRRDoorWQPut
import Derived.Test.YtccabfpojnpheaaRRDoorWApart
import Derived.Test.YtccabfpojnpheaaRRDoorWArr
import Derived.Test.YtccabfpojnpheaaRRDoorWZeros
import Derived.Test.YtccabfpojnpheaaRRDoorWFoot
import Derived.Test.YtccabfpojnpheaaRRDoorWKept
import Derived.Test.YtccabfpojnpheaaRRDoorWShare
import Derived.Test.YtccabfpojnpheaaRRDoorWN
import Derived.Test.YtccabfpojnpheaaRRDoorWFootNe
import Derived.Test.YtccabfpojnpheaaRRDoorWAt
import Derived.Test.YtccabfpojnpheaaRRDoorWEqStruct
import Derived.Test.YtccabfpojnpheaaRRDoorWRepsOne
import Derived.Test.YtccabfpojnpheaaRRDoorWInv
import Derived.Test.YtccabfpojnpheaaRRDoorWInvWords
import Derived.Test.YtccabfpojnpheaaRRDoorWGuard
import Derived.Test.YtccabfpojnpheaaRRDoorWNEv
import Derived.Test.YtccabfpojnpheaaRRDoorWMore
namespace Go.Proofs.YtccabfpojnpheaaRRDoor.PFnBeforeWhitespace
open Go.RowKit Go.Proofs.YtccabfpojnpheaaRRDoorW.PrintWords Go.Proofs.YtccabfpojnpheaaRRDoorW.PrintLast Go.Proofs.YtccabfpojnpheaaRRDoorW.PrintMore
attribute [local go_sem] max2_int min2_int max_two min_two max_three min_three max_four min_four   -- for this text's walks alone
set_option linter.unusedVariables false
set_option linter.unusedSimpArgs false



def errW : Option Int → Value
  | none => .nilIface
  | some c => .iface 0 (.int .i64 c)
theorem errW_none : errW none = .nilIface := rfl
theorem errW_some (c : Int) : errW (some c) = .iface 0 (.int .i64 c) := rfl

-- the values' own types

end Go.Proofs.YtccabfpojnpheaaRRDoor.PFnBeforeWhitespace
