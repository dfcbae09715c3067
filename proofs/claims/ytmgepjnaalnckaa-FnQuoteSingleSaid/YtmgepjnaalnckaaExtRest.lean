/- Of comments nothing is claimed here: the law never comes to them. The contracts are empty (no answer is told). -/
import Derived.Test.YtmgepjnaalnckaaPJsStringx1
namespace Go.Proofs.Ytmgepjnaalnckaa
open Go.RowKit Go.Proofs.YtmgepjnaalnckaaW.PrintWords Go.Proofs.Ytmgepjnaalnckaa.PJsString
def spec_scan_rest.f (_ : ByteArray) (_ : Int) (_ : Bool) (_ : Bool) (_ : Int) : Option (ByteArray × Int × Bool × Bool × Int) := none
theorem spec_scan_rest.calls (g : Nat) (s0_0 : ByteArray) (s0_1 : Int) (s0_2 : Bool) (s0_3 : Bool) (s0_4 : Int) (r2 : ByteArray) (r3 : Int) (r4 : Bool) (r5 : Bool) (r6 : Int) (w0 w : World) (_hI : IsS61 w0 w g s0_0 s0_1 s0_2 s0_3 s0_4) (_hB : Below w0.heap.size w0 w) (h : spec_scan_rest.f s0_0 s0_1 s0_2 s0_3 s0_4 = some (r2, r3, r4, r5, r6)) :
    Calls Try.prog 39 #[.pointer (some ⟨g, 0, none⟩)] w fun e w' => e = .returned (.tuple #[]) ∧ IsS61 w0 w' g r2 r3 r4 r5 r6 ∧ Below w0.heap.size w0 w' ∧ KeepBut w w' g none := by cases h
def spec_scan_comment.f (_ : ByteArray) (_ : Int) (_ : Bool) (_ : Bool) (_ : Int) : Option (ByteArray × Int × Bool × Bool × Int) := none
theorem spec_scan_comment.calls (g : Nat) (s0_0 : ByteArray) (s0_1 : Int) (s0_2 : Bool) (s0_3 : Bool) (s0_4 : Int) (r2 : ByteArray) (r3 : Int) (r4 : Bool) (r5 : Bool) (r6 : Int) (w0 w : World) (_hI : IsS61 w0 w g s0_0 s0_1 s0_2 s0_3 s0_4) (_hB : Below w0.heap.size w0 w) (h : spec_scan_comment.f s0_0 s0_1 s0_2 s0_3 s0_4 = some (r2, r3, r4, r5, r6)) :
    Calls Try.prog 44 #[.pointer (some ⟨g, 0, none⟩)] w fun e w' => e = .returned (.tuple #[]) ∧ IsS61 w0 w' g r2 r3 r4 r5 r6 ∧ Below w0.heap.size w0 w' ∧ KeepBut w w' g none := by cases h
end Go.Proofs.Ytmgepjnaalnckaa
