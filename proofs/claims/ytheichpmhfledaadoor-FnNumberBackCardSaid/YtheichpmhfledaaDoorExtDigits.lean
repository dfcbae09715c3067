/- Of onlyDigits nothing is claimed here: the law never comes to it. The contract is empty (no answer is told). -/
import Derived.Test.YtheichpmhfledaaDoorProg
import Derived.Test.YtheichpmhfledaaDoorWWords
import Derived.WalkKit
namespace Go.Proofs.YtheichpmhfledaaDoor
open Go.RowKit Go.Proofs.YtheichpmhfledaaDoorW.PrintWords
def spec_onlyDigits.f (_ : ByteArray) (_ : Int) : Option Bool := none
theorem spec_onlyDigits.calls (a0 : ByteArray) (a1 : Int) (r : Bool) (w : World) (h : spec_onlyDigits.f a0 a1 = some r) :
    Calls Tryd.prog 47 #[.string a0, .int .i64 a1] w fun e w' => e = .returned (.bool r) ∧ Drawn0 w w' := by cases h
/-- Told by the shelf (ExtT); no printed text calls it. -/
def strconv_FormatInt.f (_ : Int) (_ : Int) : Option ByteArray := none
theorem strconv_FormatInt.calls (a0 a1 : Int) (r : ByteArray) (w : World) (h : strconv_FormatInt.f a0 a1 = some r) :
    Calls Tryd.prog 25 #[.int .i64 a0, .int .i64 a1] w fun e w' => e = .returned (.string r) ∧ Drawn0 w w' := by cases h
end Go.Proofs.YtheichpmhfledaaDoor
