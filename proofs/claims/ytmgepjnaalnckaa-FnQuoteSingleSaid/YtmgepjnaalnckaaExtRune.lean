/- spec.Rune's printed contract, under a name that the law's print takes up (it is printed once). -/
import Derived.Test.YtmgepjnaalnckaaPJsStringx2
namespace Go.Proofs.Ytmgepjnaalnckaa
open Go.RowKit Go.Proofs.YtmgepjnaalnckaaW.PrintWords
def spec_Rune.f (k : Nat) (a0 : ByteArray) (a1 : Int) : Option (Int × Int) := PJsString.spec_Rune.f k a0 a1
theorem spec_Rune.mono : ∀ a0 a1 k, LeO (spec_Rune.f k a0 a1) (spec_Rune.f (k + 1) a0 a1) := PJsString.spec_Rune.mono
theorem spec_Rune.calls (k : Nat) (a0 : ByteArray) (a1 : Int) (r1 : Int) (r2 : Int) (w : World) (h : spec_Rune.f k a0 a1 = some (r1, r2)) :
    Calls Try.prog 18 #[.string a0, .int .i64 a1] w fun e w' => e = .returned (.tuple #[.int .i64 r1, .int .i64 r2]) ∧ Drawn0 w w' := PJsString.spec_Rune.calls k a0 a1 r1 r2 w h
end Go.Proofs.Ytmgepjnaalnckaa
