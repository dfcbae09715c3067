/- Package math's small functions at doubles, walked. -/
import Derived.Test.YtgielgodjmibpaaExtN
import Derived.Test.YtgielgodjmibpaaWMore
import Derived.Laws.FloatArith
import Derived.Laws.Cover2
import Derived.Laws.Cover3
import Derived.Lib.Hide
import Derived.Test.YtgielgodjmibpaaProg
import Derived.WalkKit
import Derived.KernelRfl
import Derived.RegionTactic
import Derived.BigRegion
import Derived.BigQuiet
import Derived.LoopTactic
import Derived.Outline
import Derived.OwnWalk
import Derived.Deep.RegionLaw
set_option linter.unusedVariables false
namespace Go.Proofs.Ytgielgodjmibpaa
open Go Go.RowKit Go.Proofs.YtgielgodjmibpaaW.PrintWords
theorem bits_run (x : Nat) (w : World) : (callFunc 10 #[.float .f64 x]).run Try.prog w = .ok (.value (.int .u64 (x : Int))) w := by
  rw [run_callFunc_extern Try.func10 (by kernel_rfl) (by kernel_rfl) (by kernel_rfl) (e := Extern.MathFloatBits.float64bits) (by kernel_rfl)]
  rfl
theorem from_run (x : Int) (w : World) : (callFunc 18 #[.int .u64 x]).run Try.prog w = .ok (.value (.float .f64 x.toNat)) w := by
  rw [run_callFunc_extern Try.func18 (by kernel_rfl) (by kernel_rfl) (by kernel_rfl) (e := Extern.MathFloatBits.float64frombits) (by kernel_rfl)]
  rfl
theorem wraps_u64 (n : Int) (h₀ : 0 ≤ n) (h₁ : n < 2 ^ 64) : IntKind.u64.wrap n = n := by
  have : IntKind.u64.wrap n = n % 18446744073709551616 := by simp [IntKind.wrap, IntKind.bits, IntKind.signed]
  rw [this]
  omega
/-- What is left below a bit. -/
theorem andNot_low (x i m : Nat) (hx : x < 2 ^ 64) (hm : m < 2 ^ 64) (h : x &&& (2 ^ 64 - 1 - m) = x % 2 ^ i) : Go.bits .andNot .u64 (x : Int) (m : Int) = ((x % 2 ^ i : Nat) : Int) := by
  have h1 : (BitVec.ofInt 64 (x : Int) &&& ~~~(BitVec.ofInt 64 (m : Int))).toNat = x % 2 ^ i := by
    rw [BitVec.toNat_and, BitVec.toNat_not, BitVec.ofInt_natCast, BitVec.ofInt_natCast, BitVec.toNat_ofNat, BitVec.toNat_ofNat, Nat.mod_eq_of_lt hx, Nat.mod_eq_of_lt hm]
    exact h
  show IntKind.u64.wrap (((BitVec.ofInt 64 (x : Int) &&& ~~~(BitVec.ofInt 64 (m : Int))).toNat : Nat) : Int) = _
  rw [h1]
  refine wraps_u64 _ (by omega) ?_
  have : x % 2 ^ i ≤ x := Nat.mod_le _ _
  have e : ((2 : Int) ^ 64) = ((2 ^ 64 : Nat) : Int) := by decide
  rw [e]
  omega
theorem abs_bits (x : Nat) (hx : x < 18446744073709551616) : Go.bits .andNot .u64 (x : Int) 9223372036854775808 = ((x % 9223372036854775808 : Nat) : Int) := by
  refine andNot_low x 63 9223372036854775808 hx (by decide) ?_
  have e : 2 ^ 64 - 1 - 9223372036854775808 = 2 ^ 63 - 1 := by decide
  rw [e, Nat.and_two_pow_sub_one_eq_mod]
theorem frac_bits (x : Nat) (hx : x < 9223372036854775808) : Go.bits .andNot .u64 (x : Int) 9218868437227405312 = ((x % 4503599627370496 : Nat) : Int) := by
  refine andNot_low x 52 9218868437227405312 (by omega) (by decide) ?_
  have e : 2 ^ 64 - 1 - 9218868437227405312 = 2 ^ 63 + (2 ^ 52 - 1) := by decide
  rw [e]
  have e2 : 2 ^ 63 + (2 ^ 52 - 1) = 2 ^ 63 * 1 ||| (2 ^ 52 - 1) := by decide
  rw [e2, Nat.and_or_distrib_left, Nat.and_two_pow_sub_one_eq_mod]
  have e3 : x &&& 2 ^ 63 * 1 = 0 := by
    apply Nat.eq_of_testBit_eq
    intro j
    rw [Nat.testBit_and, Nat.mul_one, Nat.testBit_two_pow, Nat.zero_testBit]
    by_cases hj : 63 = j
    · subst hj
      rw [Nat.testBit_lt_two_pow (by omega)]
      rfl
    · simp [hj]
  rw [e3, Nat.zero_or]
/-- A word out of its sign and the rest. -/
def wd (s : Bool) (r : Nat) : Nat := if s then r + 9223372036854775808 else r
theorem wd_false (r : Nat) : wd false r = r := rfl
theorem wd_mod (s : Bool) (r : Nat) (hr : r < 9223372036854775808) : wd s r % 9223372036854775808 = r := by
  unfold wd
  cases s <;> simp <;> omega
theorem wd_lt (s : Bool) (r : Nat) (hr : r < 9223372036854775808) : wd s r < 18446744073709551616 := by
  unfold wd
  cases s <;> simp <;> omega
theorem wd_of (x : Nat) (hx : x < 18446744073709551616) : ∃ s r, r < 9223372036854775808 ∧ x = wd s r := by
  by_cases h : 9223372036854775808 ≤ x
  · exact ⟨true, x - 9223372036854775808, by omega, by unfold wd; simp; omega⟩
  · exact ⟨false, x, by omega, rfl⟩
open Ieee in
theorem read_big (s : Bool) (r : Nat) (hr : r < 9223372036854775808) (h : 9218868437227405312 ≤ r) : double.read (wd s r) = if r = 9218868437227405312 then .infinity s else .nan s (r - 9218868437227405312) := by
  have h1 : wd s r / 9223372036854775808 % 2 = if s then 1 else 0 := by unfold wd; cases s <;> simp <;> omega
  have h2 := wd_mod s r hr
  unfold Format.read
  simp only [binade_eq, inf_eq, sgn_eq, least_eq, h1, h2]
  rw [if_neg (by omega), if_neg (by omega)]
  have h3 : ((if s = true then 1 else 0) == 1) = s := by cases s <;> rfl
  rw [h3]
open Ieee in
theorem read_wd (s : Bool) (r : Nat) (h : r < 9218868437227405312) : double.read (wd s r) = .number s (mag r) ((sh r : Int) - 1074) := read_eq s r h
open Ieee in
theorem ord_nan (s : Bool) (r : Nat) (hr : r < 9223372036854775808) : (FloatKind.f64.format.order (wd s r) (wd s r) != some .eq) = decide (9218868437227405312 < r) := by
  show (double.order (wd s r) (wd s r) != some .eq) = _
  by_cases h : r < 9218868437227405312
  · have e : double.order (wd s r) (wd s r) = some (compare (W s r) (W s r)) := order_eq s s r r h h
    rw [e, decide_eq_false (by omega)]
    simp [compare, compareOfLessAndEq]
  · unfold Format.order
    rw [read_big s r hr (by omega)]
    by_cases h2 : r = 9218868437227405312
    · rw [if_pos h2, decide_eq_false (by omega)]
      unfold Datum.order
      simp [compare, compareOfLessAndEq]
    · rw [if_neg h2, decide_eq_true (by omega)]
      unfold Datum.order
      rfl
open Ieee in
theorem ord_inf (r : Nat) (hr : r < 9223372036854775808) : (FloatKind.f64.format.order r 9218868437227405311 == some .gt) = decide (r = 9218868437227405312) := by
  show (double.order r 9218868437227405311 == some .gt) = _
  by_cases h : r < 9218868437227405312
  · rw [order_pos r 9218868437227405311 h (by decide), decide_eq_false (by omega)]
    have h1 : V r ≤ V 9218868437227405311 := V_le_iff.2 (by omega)
    generalize V 9218868437227405311 = m at h1
    generalize V r = k at h1
    simp only [compare, compareOfLessAndEq]
    by_cases h2 : (k : Int) < (m : Int)
    · rw [if_pos h2]; rfl
    · rw [if_neg h2, if_pos (by omega)]; rfl
  · unfold Format.order
    have e := read_big false r hr (by omega)
    rw [wd_false] at e
    rw [e, read_pos 9218868437227405311 (by decide)]
    by_cases h2 : r = 9218868437227405312
    · rw [if_pos h2, decide_eq_true h2]
      unfold Datum.order
      rfl
    · rw [if_neg h2, decide_eq_false h2]
      unfold Datum.order
      rfl
open Ieee in
theorem ord_cmp (x y : Nat) (hx : x < 9218868437227405312) (hy : y < 9218868437227405312) : FloatKind.f64.format.order x y = some (if x < y then .lt else if x = y then .eq else .gt) := by
  show double.order x y = _
  rw [order_pos x y hx hy]
  simp only [compare, compareOfLessAndEq]
  have h1 : (V x : Int) < (V y : Int) ↔ x < y := by rw [← V_lt_iff]; omega
  have h2 : (V x : Int) = (V y : Int) ↔ x = y := ⟨fun h => V_inj (by omega), fun h => by rw [h]⟩
  simp only [h1, h2]
theorem ord_lt (x y : Nat) (hx : x < 9218868437227405312) (hy : y < 9218868437227405312) : (FloatKind.f64.format.order x y == some .lt) = decide (x < y) := by
  rw [ord_cmp x y hx hy]
  by_cases h : x < y
  · rw [if_pos h, decide_eq_true h]; rfl
  · rw [if_neg h, decide_eq_false h]
    by_cases h2 : x = y
    · rw [if_pos h2]; rfl
    · rw [if_neg h2]; rfl
theorem ord_eql (x y : Nat) (hx : x < 9218868437227405312) (hy : y < 9218868437227405312) : (FloatKind.f64.format.order x y == some .eq) = decide (x = y) := by
  rw [ord_cmp x y hx hy]
  by_cases h : x < y
  · rw [if_pos h, decide_eq_false (by omega)]; rfl
  · rw [if_neg h]
    by_cases h2 : x = y
    · rw [if_pos h2, decide_eq_true h2]; rfl
    · rw [if_neg h2, decide_eq_false h2]; rfl
theorem ord_geq (x y : Nat) (hx : x < 9218868437227405312) (hy : y < 9218868437227405312) : (FloatKind.f64.format.order x y == some .gt || FloatKind.f64.format.order x y == some .eq) = decide (y ≤ x) := by
  rw [ord_cmp x y hx hy]
  by_cases h : x < y
  · rw [if_pos h, decide_eq_false (by omega)]; rfl
  · rw [if_neg h, decide_eq_true (by omega)]
    by_cases h2 : x = y
    · rw [if_pos h2]; rfl
    · rw [if_neg h2]; rfl
set_option maxHeartbeats 4000000 in
set_option maxRecDepth 100000 in
theorem Abs.calls (s : Bool) (q : Nat) (w : World) (hq : q < 9223372036854775808) : Calls Try.prog 14 #[.float .f64 (wd s q)] w fun e w' => e = .returned (.float .f64 q) ∧ w' = w := by
  have h1 := bits_run
  have h2 := from_run
  have h3 := abs_bits (wd s q) (wd_lt s q hq)
  rw [wd_mod s q hq] at h3
  have h4 : ((q : Nat) : Int).toNat = q := Int.toNat_natCast _
  generalize wd s q = x at *
  clear hq
  go_enter Try.func14, Try.ntmps14
  go_wp2
  go_ret
  exact ⟨rfl, rfl⟩
set_option maxHeartbeats 4000000 in
set_option maxRecDepth 100000 in
theorem IsNaN.calls (s : Bool) (r : Nat) (w : World) (hr : r < 9223372036854775808) : Calls Try.prog 11 #[.float .f64 (wd s r)] w fun e w' => e = .returned (.bool (decide (9218868437227405312 < r))) ∧ w' = w := by
  have h1 := ord_nan s r hr
  generalize decide (9218868437227405312 < r) = b at *
  generalize wd s r = x at *
  clear hr
  go_enter Try.func11, Try.ntmps11
  go_wp2
  go_ret
  exact ⟨rfl, rfl⟩
set_option maxHeartbeats 4000000 in
set_option maxRecDepth 100000 in
theorem IsInf.calls (s : Bool) (r : Nat) (w : World) (hr : r < 9223372036854775808) : Calls Try.prog 12 #[.float .f64 (wd s r), .int .i64 0] w fun e w' => e = .returned (.bool (decide (r = 9218868437227405312))) ∧ w' = w := by
  have h1 := ord_inf r hr
  have HA := Lib.hid (Abs.calls s r w hr)
  generalize decide (r = 9218868437227405312) = b at *
  generalize wd s r = x at *
  clear hr
  go_enter Try.func12, Try.ntmps12
  go_wp2_with (first | (go_at_call 14; (with_reducible refine HA.out.mono ?_); rintro e w2 ⟨rfl, rfl⟩))
  go_ret
  exact ⟨rfl, rfl⟩
theorem sign_bit (s : Bool) (r : Nat) (hr : r < 9223372036854775808) : decide (wrap64 ((wd s r : Nat) : Int) < 0) = s := by
  unfold wd wrap64
  cases s
  · exact decide_eq_false (by simp; omega)
  · exact decide_eq_true (by simp; omega)
set_option maxHeartbeats 4000000 in
set_option maxRecDepth 100000 in
theorem Signbit.calls (s : Bool) (r : Nat) (w : World) (hr : r < 9223372036854775808) : Calls Try.prog 15 #[.float .f64 (wd s r)] w fun e w' => e = .returned (.bool s) ∧ w' = w := by
  have h1 := bits_run
  have h2 := sign_bit s r hr
  generalize wd s r = x at *
  clear hr
  go_enter Try.func15, Try.ntmps15
  go_wp2
  go_ret
  exact ⟨rfl, rfl⟩
/-- A normal number that is not below 0. -/
structure Nm (r : Nat) : Prop where
  lo : 4503599627370496 ≤ r
  hi : r < 9218868437227405312
theorem Nm.q {r : Nat} (h : Nm r) : 1 ≤ r / 4503599627370496 ∧ r / 4503599627370496 ≤ 2046 := by
  have := h.lo
  have := h.hi
  omega
set_option maxHeartbeats 4000000 in
set_option maxRecDepth 100000 in
theorem normalize.calls (r : Nat) (w : World) (h : Nm r) : Calls Try.prog 26 #[.float .f64 r] w fun e w' => e = .returned (.tuple #[.float .f64 r, .int .i64 0]) ∧ w' = w := by
  have h1 := ord_lt r 4503599627370496 h.hi (by decide)
  rw [decide_eq_false (by have := h.lo; omega)] at h1
  have HA := Lib.hid (Abs.calls false r w (by have := h.hi; omega))
  rw [wd_false] at HA
  clear h
  go_enter Try.func26, Try.ntmps26
  go_wp2_with (first | (go_at_call 14; (with_reducible refine HA.out.mono ?_); rintro e w2 ⟨rfl, rfl⟩))
  exact bodyPost_ret (results_tmp2 rfl _ _ _) rfl ⟨rfl, rfl⟩
theorem and2047 (q : Nat) (h : q < 2048) : Go.bits .and .u64 (q : Int) 2047 = (q : Int) := by
  have := bits_mask .u64 64 (by decide) wraps_u64 11 (by decide) (q : Int) (by omega) (by omega)
  have e : ((2 : Int) ^ 11 - 1) = 2047 := by decide
  rw [e] at this
  rw [this]
  have e2 : ((2 : Int) ^ 11) = 2048 := by decide
  rw [e2]
  omega
theorem or_frac (r : Nat) : Go.bits .or .u64 ((r % 4503599627370496 : Nat) : Int) 4602678819172646912 = ((r % 4503599627370496 + 4602678819172646912 : Nat) : Int) := by
  have hm : r % 4503599627370496 < 4503599627370496 := Nat.mod_lt _ (by decide)
  generalize r % 4503599627370496 = m at hm
  have hc : ∀ a b : Int, Go.bits .or .u64 a b = Go.bits .or .u64 b a := fun a b => by
    unfold Go.bits
    simp only [BitVec.or_comm]
  rw [hc, bits_join .u64 64 (by decide) wraps_u64 52 4602678819172646912 (m : Int) (by decide) (by decide) (by decide) (by omega) (by
    have e2 : ((2 : Int) ^ 52) = 4503599627370496 := by decide
    rw [e2]; omega) (by omega)]
  omega
theorem pow52i : ((2 : Int) ^ (52 : Int).toNat) = 4503599627370496 := by decide
theorem shr52 (q : Nat) : Op.shift .shr .u64 (q : Int) .u64 52 = (pure (.int .u64 ((q / 4503599627370496 : Nat) : Int)) : Sem Value) := by
  rw [shift_shr .u64 .u64 (q : Int) 52 (by decide) (by decide), pow52i]
  rfl
theorem shl52 (q : Nat) (h : q < 4096) : Op.shift .shl .u64 (q : Int) .u64 52 = (pure (.int .u64 ((q * 4503599627370496 : Nat) : Int)) : Sem Value) := by
  rw [shift_shl .u64 .u64 (q : Int) 52 (by decide) (by decide), pow52i, wraps_u64 _ (by omega) (by omega)]
  rfl
/-- The fraction of frexp: a word from a half up to one. -/
def frac (r : Nat) : Nat := r % 4503599627370496 + 4602678819172646912
theorem frac_run (r : Nat) : (Go.bits .or .u64 ((r : Int) % 4503599627370496) 4602678819172646912).toNat = frac r := by
  have e := or_frac r
  have e2 : ((r % 4503599627370496 : Nat) : Int) = (r : Int) % 4503599627370496 := by omega
  rw [e2] at e
  rw [e]
  exact Int.toNat_natCast _
theorem exp_run (r : Nat) (h : Nm r) : wrap64 (wrap64 (wrap64 (wrap64 (Go.bits .and .u64 ((r : Int) / 4503599627370496) 2047) - 1023) + 1)) = ((r / 4503599627370496 : Nat) : Int) - 1022 := by
  have e := and2047 (r / 4503599627370496) (by have := h.q; omega)
  have hq := h.q
  have e2 : ((r / 4503599627370496 : Nat) : Int) = (r : Int) / 4503599627370496 := by omega
  rw [e2] at e
  rw [e, ← e2]
  generalize r / 4503599627370496 = q at hq
  unfold wrap64
  omega
set_option maxHeartbeats 4000000 in
set_option maxRecDepth 100000 in
theorem frexp.calls (r : Nat) (w : World) (h : Nm r) : Calls Try.prog 23 #[.float .f64 r] w fun e w' => e = .returned (.tuple #[.float .f64 (frac r), .int .i64 ((r / 4503599627370496 : Nat) - 1022 : Int)]) ∧ w' = w := by
  have hq := h.q
  have h1 := ord_eql r 0 h.hi (by decide)
  rw [decide_eq_false (by have := h.lo; omega)] at h1
  have hlt : r < 9223372036854775808 := by have := h.hi; omega
  have HA := Lib.hid (IsInf.calls false r w hlt)
  have HB := Lib.hid (IsNaN.calls false r w hlt)
  rw [wd_false, decide_eq_false (by have := h.hi; omega)] at HA HB
  have HC := Lib.hid (normalize.calls r w h)
  have b1 := bits_run
  have b2 := from_run
  have e3 := frac_bits r hlt
  have f1 := frac_run r
  have f2 := exp_run r h
  have sh := shr52 r
  clear h hlt
  go_enter Try.func23, Try.ntmps23
  go_wp2_with (first | (go_at_call 12; (with_reducible refine HA.out.mono ?_); rintro e w2 ⟨rfl, rfl⟩) | (go_at_call 11; (with_reducible refine HB.out.mono ?_); rintro e w2 ⟨rfl, rfl⟩) | (go_at_call 26; (with_reducible refine HC.out.mono ?_); rintro e w2 ⟨rfl, rfl⟩))
  refine bodyPost_ret (results_tmp2 rfl _ _ _) rfl ⟨?_, rfl⟩
  rw [← f1, ← f2]
  rfl
set_option maxHeartbeats 4000000 in
set_option maxRecDepth 100000 in
theorem Frexp.calls (r : Nat) (w : World) (h : Nm r) : Calls Try.prog 20 #[.float .f64 r] w fun e w' => e = .returned (.tuple #[.float .f64 (frac r), .int .i64 ((r / 4503599627370496 : Nat) - 1022 : Int)]) ∧ w' = w := by
  have HA := Lib.hid (frexp.calls r w h)
  generalize ((r / 4503599627370496 : Nat) - 1022 : Int) = k at *
  clear h
  go_enter Try.func20, Try.ntmps20
  go_wp2_with (first | (go_at_call 23; (with_reducible refine HA.out.mono ?_); rintro e w2 ⟨rfl, rfl⟩))
  exact bodyPost_ret (results_tmp2 rfl _ _ _) rfl ⟨rfl, rfl⟩
end Go.Proofs.Ytgielgodjmibpaa
