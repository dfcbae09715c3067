/- Mod by 2^32, walked. -/
import Derived.Test.YtgielgodjmibpaaExtM
import Derived.Test.YtgielgodjmibpaaExtN
import Derived.Test.YtgielgodjmibpaaWMore
import Derived.Laws.FloatArith
import Derived.Laws.Cover2
import Derived.Laws.Cover3
import Derived.Lib.Hide
import Derived.Test.YtgielgodjmibpaaProg
import Derived.WalkKit
import Derived.KernelRfl
import Derived.RegionTactic
import Derived.BigRegion
import Derived.BigQuiet
import Derived.LoopTactic
import Derived.Outline
import Derived.OwnWalk
import Derived.Deep.RegionLaw
set_option linter.unusedVariables false
namespace Go.Proofs.Ytgielgodjmibpaa
open Go Go.RowKit Go.Proofs.YtgielgodjmibpaaW.PrintWords
def flOf : Value → Nat
  | .float _ q => q
  | _ => 0
theorem Frexp_y (w : World) : Calls Try.prog 20 #[.float .f64 4751297606875873280] w fun e w' => e = .returned (.tuple #[.float .f64 4602678819172646912, .int .i64 33]) ∧ w' = w := by
  have h := Frexp.calls 4751297606875873280 w ⟨by decide, by decide⟩
  have e1 : frac 4751297606875873280 = 4602678819172646912 := by decide
  have e2 : (((4751297606875873280 / 4503599627370496 : Nat) : Int) - 1022) = 33 := by decide
  rw [e1, e2] at h
  exact h
set_option maxHeartbeats 4000000 in
set_option maxRecDepth 100000 in
theorem mod.calls (r : Nat) (w : World) (hr : r < 9218868437227405312) : Calls Try.prog 17 #[.float .f64 r, .float .f64 4751297606875873280] w fun e w' => (∃ z, e = .returned (.float .f64 z) ∧ z < 4751297606875873280 ∧ T z % 4294967296 = T r % 4294967296) ∧ w' = w := by
  have hlt : r < 9223372036854775808 := by omega
  have y1 := ord_eql 4751297606875873280 0 (by decide) (by decide)
  rw [decide_eq_false (by decide)] at y1
  have r1 := ord_lt r 0 hr (by decide)
  rw [decide_eq_false (by omega)] at r1
  have HI := Lib.hid (IsInf.calls false r w hlt)
  have HN := Lib.hid (IsNaN.calls false r w hlt)
  rw [wd_false, decide_eq_false (by omega)] at HI HN
  have HY := Lib.hid (IsNaN.calls false 4751297606875873280 w (by decide))
  rw [wd_false, decide_eq_false (by decide)] at HY
  have HA := Lib.hid (Abs.calls false 4751297606875873280 w (by decide))
  rw [wd_false] at HA
  have HF := Lib.hid (Frexp_y w)
  have HR := Lib.hid hr
  obtain ⟨t, ht⟩ : ∃ t, t = T r % 4294967296 := ⟨_, rfl⟩
  rw [← ht]
  have HT := Lib.hid ht
  clear hr hlt ht
  go_enter Try.func17, Try.ntmps17
  go_wp2_with (first | (go_at_call 12; (with_reducible refine HI.out.mono ?_); rintro e w2 ⟨rfl, rfl⟩) | (go_at_call 11; first | ((with_reducible refine HN.out.mono ?_); rintro e w2 ⟨rfl, rfl⟩) | ((with_reducible refine HY.out.mono ?_); rintro e w2 ⟨rfl, rfl⟩)) | (go_at_call 14; (with_reducible refine HA.out.mono ?_); rintro e w2 ⟨rfl, rfl⟩) | (go_at_call 20; (with_reducible refine HF.out.mono ?_); rintro e w2 ⟨rfl, rfl⟩))
  go_loopw [7] (fun v7 wr => ∃ (q : Nat), v7 = .float .f64 q ∧ Hid (q < 9218868437227405312 ∧ t = T q % 4294967296) ∧ wr = w2) (fun v7 _ => flOf v7)
  case atStart => exact ⟨r, rfl, Lib.hid ⟨HR.out, HT.out⟩, rfl⟩
  clear HI HN HY HA HF HR HT
  obtain ⟨q, rfl, HS, rfl⟩ := hrel
  have z0 := ord_geq q 4751297606875873280 HS.out.1 (by decide)
  by_cases hq : 4751297606875873280 ≤ q
  · rw [decide_eq_true hq] at z0
    obtain ⟨E, hE⟩ : ∃ E, E = q / 4503599627370496 := ⟨_, rfl⟩
    have hE0 : 1055 ≤ E := by omega
    have hE1 : E ≤ 2046 := by have := HS.out.1; omega
    have HF := Lib.hid (Frexp.calls q wr ⟨by omega, HS.out.1⟩)
    have HL := Lib.hid (Ldexp.calls E wr hE0 hE1)
    rw [← hE] at HF
    have e5 : (E : Int) - 1055 = (E : Int) - 1022 - 33 := by omega
    rw [e5] at HL
    have hf : frac q < 4607182418800017408 := by unfold frac; omega
    have hf2 : 4602678819172646912 ≤ frac q := by unfold frac; omega
    have z1 := ord_lt (frac q) 4602678819172646912 (by omega) (by decide)
    rw [decide_eq_false (by omega)] at z1
    obtain ⟨z, hz1, hz2, hz3⟩ := sub_step q hq HS.out.1
    rw [← hE] at hz1
    have c5 : ∀ u, (binOp .sub 22 (.float .f64 q) (.float .f64 (E * 4503599627370496))).run Try.prog u = .ok (.float .f64 z) u := fun u => run_float_arith u .sub 22 .f64 _ _ _ hz1
    have HZ := Lib.hid hz2
    have HS2 := Lib.hid (And.intro (Nat.lt_trans hz2 HS.out.1) (HS.out.2.trans hz3.symm))
    clear hf hf2 hz1 hz2 hz3 hq hE HS
    generalize frac q = g at *
    go_wp2_with (first | (go_at_call 20; (with_reducible refine HF.out.mono ?_); rintro e w2 ⟨rfl, rfl⟩) | (go_at_call 21; (with_reducible refine HL.out.mono ?_); rintro e w2 ⟨rfl, rfl⟩))
    go_roundw
    case rel => exact ⟨z, rfl, HS2, trivial⟩
    case measure => exact HZ.out
  · rw [decide_eq_false hq] at z0
    go_wp2
    go_ret
    exact ⟨⟨q, rfl, by omega, HS.out.2.symm⟩, rfl⟩
set_option maxHeartbeats 4000000 in
set_option maxRecDepth 100000 in
theorem Mod.calls (r : Nat) (w : World) (hr : r < 9218868437227405312) : Calls Try.prog 13 #[.float .f64 r, .float .f64 4751297606875873280] w fun e w' => (∃ z, e = .returned (.float .f64 z) ∧ z < 4751297606875873280 ∧ T z % 4294967296 = T r % 4294967296) ∧ w' = w := by
  have HA := Lib.hid (mod.calls r w hr)
  clear hr
  go_enter Try.func13, Try.ntmps13
  go_wp2_with (first | (go_at_call 17; (with_reducible refine HA.out.mono ?_); rintro e w2 ⟨⟨z, rfl, hz⟩, rfl⟩; have HZ := Lib.hid hz; clear hz))
  go_ret
  exact ⟨⟨z, rfl, HZ.out⟩, rfl⟩
end Go.Proofs.Ytgielgodjmibpaa
