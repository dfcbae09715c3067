/- The contract of strings.IndexByte over this seat's program: the first place of a byte, or -1. -/
import Derived.Test.YtkdinhbfidckdaaRProg
import Derived.Test.YtkdinhbfidckdaaRWWords
import Derived.WalkKit
import Derived.KernelRfl
import Derived.Lib.Walk
import Derived.Lib.Strings
import Derived.Lib.Slices
import Derived.Lib.Bytealg
import Derived.BigCall
import Derived.BigGuard
import Derived.Deep.Draws
import Derived.Laws.Strings3
namespace Go.Proofs.YtkdinhbfidckdaaR
open Go.RowKit Go.Lib Go.Proofs.YtkdinhbfidckdaaRW.PrintWords

set_option maxHeartbeats 1000000 in
set_option maxRecDepth 100000 in
theorem stringslite_IndexByte_calls (s : ByteArray) (c : Int) (w : World) :
    Calls Try.prog 56 #[.string s, .int .u8 c] w fun e w' => e = .returned (.int .i64 (Lib.indexByte s.data.toList c.toNat.toUInt8)) ∧ w' = w := by
  go_enter Try.func56, Try.ntmps56
  go_wp2
  rw [run_callFunc_extern Try.func57 (by kernel_rfl) (by kernel_rfl) (by kernel_rfl) (e := Extern.BytealgIndexByte.indexByte) (by kernel_rfl), Lib.run_indexByteString]
  simp only [Result.andThen]
  rw [Oper.upon_value]
  go_wp2
  go_ret
  exact ⟨rfl, rfl⟩

def strings_IndexByte.f (a0 : ByteArray) (a1 : Int) : Option Int := some (Lib.indexByte a0.data.toList a1.toNat.toUInt8)

set_option maxRecDepth 100000 in
theorem strings_IndexByte.calls (a0 : ByteArray) (a1 : Int) (r : Int) (w : World) (h : strings_IndexByte.f a0 a1 = some r) :
    Calls Try.prog 54 #[.string a0, .int .u8 a1] w fun e w' => e = .returned (.int .i64 r) ∧ Drawn0 w w' := by
  obtain rfl := Option.some.inj h
  clear h
  go_enter Try.func54, Try.ntmps54
  go_wp2_with (go_at_call 56; (with_reducible refine (stringslite_IndexByte_calls a0 a1 _).mono ?_); rintro e w' ⟨rfl, rfl⟩)
  go_ret
  exact ⟨rfl, ⟨0, rfl⟩⟩
end Go.Proofs.YtkdinhbfidckdaaR
