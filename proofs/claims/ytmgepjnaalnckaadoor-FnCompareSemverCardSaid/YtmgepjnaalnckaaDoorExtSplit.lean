/- Of the parts of a version's PreRelease nothing is claimed here: the law never comes to them. The two contracts are empty (no answer is told). -/
import Derived.Test.YtmgepjnaalnckaaDoorProg
import Derived.Test.YtmgepjnaalnckaaDoorWWords
import Derived.WalkKit
namespace Go.Proofs.YtmgepjnaalnckaaDoor
open Go.RowKit Go.Proofs.YtmgepjnaalnckaaDoorW.PrintWords
def compat_splitOffNextPreReleasePart.f (_ : ByteArray) : Option (ByteArray × ByteArray) := none
theorem compat_splitOffNextPreReleasePart.calls (a0 : ByteArray) (r1 r2 : ByteArray) (w : World) (h : compat_splitOffNextPreReleasePart.f a0 = some (r1, r2)) :
    Calls Tryd.prog 40 #[.string a0] w fun e w' => e = .returned (.tuple #[.string r1, .string r2]) ∧ Drawn0 w w' := by cases h
def compat_preReleasePartToNumber.f (_ : ByteArray) : Option (Int × Bool) := none
theorem compat_preReleasePartToNumber.calls (a0 : ByteArray) (r1 : Int) (r2 : Bool) (w : World) (h : compat_preReleasePartToNumber.f a0 = some (r1, r2)) :
    Calls Tryd.prog 41 #[.string a0] w fun e w' => e = .returned (.tuple #[.int .i64 r1, .bool r2]) ∧ Drawn0 w w' := by cases h
end Go.Proofs.YtmgepjnaalnckaaDoor
