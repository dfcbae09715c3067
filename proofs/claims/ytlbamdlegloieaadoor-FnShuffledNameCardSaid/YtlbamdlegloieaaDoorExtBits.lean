/- bits.Len64, bits.Len, nextPowerOfTwo at a small number, walked. -/
import Derived.Test.YtlbamdlegloieaaDoorExtIns
import Derived.Sort.LotC
set_option linter.unusedVariables false
set_option linter.unusedSimpArgs false
namespace Go.Proofs.YtlbamdlegloieaaDoor
open Go Go.RowKit Go.Proofs.YtlbamdlegloieaaDoorW.PrintWords Go.Proofs.YtlbamdlegloieaaDoorW.PrintLast
set_option maxHeartbeats 4000000 in
set_option maxRecDepth 100000 in
theorem Len64.calls (w : World) (n : Nat) (hn : n < 256) :
    Calls Tryd.prog 24 #[.int .u64 (n : Int)] w fun e w' => e = .returned (.int .i64 (Sort.bitsLen n : Int)) ∧ w' = w := by
  have a1 : decide ((4294967296 : Int) ≤ (n : Int)) = false := decide_eq_false (by omega)
  have b1 : decide (4294967296 ≤ n) = false := decide_eq_false (by omega)
  have a2 : decide ((65536 : Int) ≤ (n : Int)) = false := decide_eq_false (by omega)
  have b2 : decide (65536 ≤ n) = false := decide_eq_false (by omega)
  have a3 : decide ((256 : Int) ≤ (n : Int)) = false := decide_eq_false (by omega)
  have b3 : decide (256 ≤ n) = false := decide_eq_false (by omega)
  have HN := Lib.hid hn
  clear hn
  go_enter Tryd.func24, Tryd.ntmps24
  go_wp2
  go_ret
  refine ⟨congrArg (fun z => Ending.returned (.int .i64 z)) ?_, rfl⟩
  have hn := HN.out
  clear a1 b1 a2 b2 a3 b3 HN
  rename_i hx
  simp only [ByteArray.getElem_eq_getElem_data] at *
  simp only [← getElem!_pos]
  clear hx
  revert n
  decide +kernel
set_option maxHeartbeats 4000000 in
set_option maxRecDepth 100000 in
theorem BitsLen.calls (w : World) (n : Nat) (hn : n < 256) :
    Calls Tryd.prog 20 #[.int .u64 (n : Int)] w fun e w' => e = .returned (.int .i64 (Sort.bitsLen n : Int)) ∧ w' = w := by
  have HL := Lib.hid (Len64.calls w n hn)
  clear hn
  go_enter Tryd.func20, Tryd.ntmps20
  go_wp2_with (first | (go_at_call 24; (with_reducible refine HL.out.mono ?_); rintro e w9 ⟨rfl, rfl⟩))
  go_ret
  exact ⟨rfl, rfl⟩
set_option maxHeartbeats 4000000 in
set_option maxRecDepth 100000 in
theorem Pow2.calls (w : World) (n : Nat) (hn : n < 256) :
    Calls Tryd.prog 34 #[.int .i64 (n : Int)] w fun e w' => e = .returned (.int .u64 ((1 <<< Sort.bitsLen n : Nat) : Int)) ∧ w' = w := by
  have HL := Lib.hid (BitsLen.calls w n hn)
  have HN := Lib.hid hn
  have c1 : (n : Int) % 18446744073709551616 = n := by omega
  clear hn
  go_enter Tryd.func34, Tryd.ntmps34
  go_wp2_with (first | (go_at_call 20; (with_reducible refine HL.out.mono ?_); rintro e w9 ⟨rfl, rfl⟩))
  go_ret
  refine ⟨congrArg (fun z => Ending.returned (.int .u64 z)) ?_, rfl⟩
  have hn := HN.out
  clear HL HN c1 w9
  revert n
  decide +kernel
end Go.Proofs.YtlbamdlegloieaaDoor
