/- Package math's small functions at doubles, walked. -/
import Derived.Test.YtheichpmhfledaaDoorExtN
import Derived.Test.YtheichpmhfledaaDoorWMore
import Derived.Laws.FloatArith
import Derived.Laws.Cover2
import Derived.Laws.Cover3
import Derived.Lib.Hide
import Derived.Test.YtheichpmhfledaaDoorProg
import Derived.WalkKit
import Derived.KernelRfl
import Derived.RegionTactic
import Derived.BigRegion
import Derived.BigQuiet
import Derived.LoopTactic
import Derived.Outline
import Derived.OwnWalk
import Derived.Deep.RegionLaw
set_option linter.unusedVariables false
namespace Go.Proofs.YtheichpmhfledaaDoor
open Go Go.RowKit Go.Proofs.YtheichpmhfledaaDoorW.PrintWords
theorem bits_run (x : Nat) (w : World) : (callFunc 18 #[.float .f64 x]).run Tryd.prog w = .ok (.value (.int .u64 (x : Int))) w := by
  rw [run_callFunc_extern Tryd.func18 (by kernel_rfl) (by kernel_rfl) (by kernel_rfl) (e := Extern.MathFloatBits.float64bits) (by kernel_rfl)]
  rfl
theorem from_run (x : Int) (w : World) : (callFunc 33 #[.int .u64 x]).run Tryd.prog w = .ok (.value (.float .f64 x.toNat)) w := by
  rw [run_callFunc_extern Tryd.func33 (by kernel_rfl) (by kernel_rfl) (by kernel_rfl) (e := Extern.MathFloatBits.float64frombits) (by kernel_rfl)]
  rfl
theorem wraps_u64 (n : Int) (h₀ : 0 ≤ n) (h₁ : n < 2 ^ 64) : IntKind.u64.wrap n = n := by
  have : IntKind.u64.wrap n = n % 18446744073709551616 := by simp [IntKind.wrap, IntKind.bits, IntKind.signed]
  rw [this]
  omega
/-- What is left below a bit. -/
theorem andNot_low (x i m : Nat) (hx : x < 2 ^ 64) (hm : m < 2 ^ 64) (h : x &&& (2 ^ 64 - 1 - m) = x % 2 ^ i) : Go.bits .andNot .u64 (x : Int) (m : Int) = ((x % 2 ^ i : Nat) : Int) := by
  have h1 : (BitVec.ofInt 64 (x : Int) &&& ~~~(BitVec.ofInt 64 (m : Int))).toNat = x % 2 ^ i := by
    rw [BitVec.toNat_and, BitVec.toNat_not, BitVec.ofInt_natCast, BitVec.ofInt_natCast, BitVec.toNat_ofNat, BitVec.toNat_ofNat, Nat.mod_eq_of_lt hx, Nat.mod_eq_of_lt hm]
    exact h
  show IntKind.u64.wrap (((BitVec.ofInt 64 (x : Int) &&& ~~~(BitVec.ofInt 64 (m : Int))).toNat : Nat) : Int) = _
  rw [h1]
  refine wraps_u64 _ (by omega) ?_
  have : x % 2 ^ i ≤ x := Nat.mod_le _ _
  have e : ((2 : Int) ^ 64) = ((2 ^ 64 : Nat) : Int) := by decide
  rw [e]
  omega
theorem abs_bits (x : Nat) (hx : x < 18446744073709551616) : Go.bits .andNot .u64 (x : Int) 9223372036854775808 = ((x % 9223372036854775808 : Nat) : Int) := by
  refine andNot_low x 63 9223372036854775808 hx (by decide) ?_
  have e : 2 ^ 64 - 1 - 9223372036854775808 = 2 ^ 63 - 1 := by decide
  rw [e, Nat.and_two_pow_sub_one_eq_mod]
theorem frac_bits (x : Nat) (hx : x < 9223372036854775808) : Go.bits .andNot .u64 (x : Int) 9218868437227405312 = ((x % 4503599627370496 : Nat) : Int) := by
  refine andNot_low x 52 9218868437227405312 (by omega) (by decide) ?_
  have e : 2 ^ 64 - 1 - 9218868437227405312 = 2 ^ 63 + (2 ^ 52 - 1) := by decide
  rw [e]
  have e2 : 2 ^ 63 + (2 ^ 52 - 1) = 2 ^ 63 * 1 ||| (2 ^ 52 - 1) := by decide
  rw [e2, Nat.and_or_distrib_left, Nat.and_two_pow_sub_one_eq_mod]
  have e3 : x &&& 2 ^ 63 * 1 = 0 := by
    apply Nat.eq_of_testBit_eq
    intro j
    rw [Nat.testBit_and, Nat.mul_one, Nat.testBit_two_pow, Nat.zero_testBit]
    by_cases hj : 63 = j
    · subst hj
      rw [Nat.testBit_lt_two_pow (by omega)]
      rfl
    · simp [hj]
  rw [e3, Nat.zero_or]
/-- A word out of its sign and the rest. -/
def wd (s : Bool) (r : Nat) : Nat := if s then r + 9223372036854775808 else r
theorem wd_false (r : Nat) : wd false r = r := rfl
theorem wd_mod (s : Bool) (r : Nat) (hr : r < 9223372036854775808) : wd s r % 9223372036854775808 = r := by
  unfold wd
  cases s <;> simp <;> omega
theorem wd_lt (s : Bool) (r : Nat) (hr : r < 9223372036854775808) : wd s r < 18446744073709551616 := by
  unfold wd
  cases s <;> simp <;> omega
theorem wd_of (x : Nat) (hx : x < 18446744073709551616) : ∃ s r, r < 9223372036854775808 ∧ x = wd s r := by
  by_cases h : 9223372036854775808 ≤ x
  · exact ⟨true, x - 9223372036854775808, by omega, by unfold wd; simp; omega⟩
  · exact ⟨false, x, by omega, rfl⟩
open Ieee in
theorem read_big (s : Bool) (r : Nat) (hr : r < 9223372036854775808) (h : 9218868437227405312 ≤ r) : double.read (wd s r) = if r = 9218868437227405312 then .infinity s else .nan s (r - 9218868437227405312) := by
  have h1 : wd s r / 9223372036854775808 % 2 = if s then 1 else 0 := by unfold wd; cases s <;> simp <;> omega
  have h2 := wd_mod s r hr
  unfold Format.read
  simp only [binade_eq, inf_eq, sgn_eq, least_eq, h1, h2]
  rw [if_neg (by omega), if_neg (by omega)]
  have h3 : ((if s = true then 1 else 0) == 1) = s := by cases s <;> rfl
  rw [h3]
open Ieee in
theorem read_wd (s : Bool) (r : Nat) (h : r < 9218868437227405312) : double.read (wd s r) = .number s (mag r) ((sh r : Int) - 1074) := read_eq s r h
open Ieee in
theorem ord_nan (s : Bool) (r : Nat) (hr : r < 9223372036854775808) : (FloatKind.f64.format.order (wd s r) (wd s r) != some .eq) = decide (9218868437227405312 < r) := by
  show (double.order (wd s r) (wd s r) != some .eq) = _
  by_cases h : r < 9218868437227405312
  · have e : double.order (wd s r) (wd s r) = some (compare (W s r) (W s r)) := order_eq s s r r h h
    rw [e, decide_eq_false (by omega)]
    simp [compare, compareOfLessAndEq]
  · unfold Format.order
    rw [read_big s r hr (by omega)]
    by_cases h2 : r = 9218868437227405312
    · rw [if_pos h2, decide_eq_false (by omega)]
      unfold Datum.order
      simp [compare, compareOfLessAndEq]
    · rw [if_neg h2, decide_eq_true (by omega)]
      unfold Datum.order
      rfl
open Ieee in
theorem ord_inf (r : Nat) (hr : r < 9223372036854775808) : (FloatKind.f64.format.order r 9218868437227405311 == some .gt) = decide (r = 9218868437227405312) := by
  show (double.order r 9218868437227405311 == some .gt) = _
  by_cases h : r < 9218868437227405312
  · rw [order_pos r 9218868437227405311 h (by decide), decide_eq_false (by omega)]
    have h1 : V r ≤ V 9218868437227405311 := V_le_iff.2 (by omega)
    generalize V 9218868437227405311 = m at h1
    generalize V r = k at h1
    simp only [compare, compareOfLessAndEq]
    by_cases h2 : (k : Int) < (m : Int)
    · rw [if_pos h2]; rfl
    · rw [if_neg h2, if_pos (by omega)]; rfl
  · unfold Format.order
    have e := read_big false r hr (by omega)
    rw [wd_false] at e
    rw [e, read_pos 9218868437227405311 (by decide)]
    by_cases h2 : r = 9218868437227405312
    · rw [if_pos h2, decide_eq_true h2]
      unfold Datum.order
      rfl
    · rw [if_neg h2, decide_eq_false h2]
      unfold Datum.order
      rfl
open Ieee in
theorem ord_cmp (x y : Nat) (hx : x < 9218868437227405312) (hy : y < 9218868437227405312) : FloatKind.f64.format.order x y = some (if x < y then .lt else if x = y then .eq else .gt) := by
  show double.order x y = _
  rw [order_pos x y hx hy]
  simp only [compare, compareOfLessAndEq]
  have h1 : (V x : Int) < (V y : Int) ↔ x < y := by rw [← V_lt_iff]; omega
  have h2 : (V x : Int) = (V y : Int) ↔ x = y := ⟨fun h => V_inj (by omega), fun h => by rw [h]⟩
  simp only [h1, h2]
theorem ord_lt (x y : Nat) (hx : x < 9218868437227405312) (hy : y < 9218868437227405312) : (FloatKind.f64.format.order x y == some .lt) = decide (x < y) := by
  rw [ord_cmp x y hx hy]
  by_cases h : x < y
  · rw [if_pos h, decide_eq_true h]; rfl
  · rw [if_neg h, decide_eq_false h]
    by_cases h2 : x = y
    · rw [if_pos h2]; rfl
    · rw [if_neg h2]; rfl
theorem ord_eql (x y : Nat) (hx : x < 9218868437227405312) (hy : y < 9218868437227405312) : (FloatKind.f64.format.order x y == some .eq) = decide (x = y) := by
  rw [ord_cmp x y hx hy]
  by_cases h : x < y
  · rw [if_pos h, decide_eq_false (by omega)]; rfl
  · rw [if_neg h]
    by_cases h2 : x = y
    · rw [if_pos h2, decide_eq_true h2]; rfl
    · rw [if_neg h2, decide_eq_false h2]; rfl
theorem ord_geq (x y : Nat) (hx : x < 9218868437227405312) (hy : y < 9218868437227405312) : (FloatKind.f64.format.order x y == some .gt || FloatKind.f64.format.order x y == some .eq) = decide (y ≤ x) := by
  rw [ord_cmp x y hx hy]
  by_cases h : x < y
  · rw [if_pos h, decide_eq_false (by omega)]; rfl
  · rw [if_neg h, decide_eq_true (by omega)]
    by_cases h2 : x = y
    · rw [if_pos h2]; rfl
    · rw [if_neg h2]; rfl
set_option maxHeartbeats 4000000 in
set_option maxRecDepth 100000 in
theorem Abs.calls (s : Bool) (q : Nat) (w : World) (hq : q < 9223372036854775808) : Calls Tryd.prog 24 #[.float .f64 (wd s q)] w fun e w' => e = .returned (.float .f64 q) ∧ w' = w := by
  have h1 := bits_run
  have h2 := from_run
  have h3 := abs_bits (wd s q) (wd_lt s q hq)
  rw [wd_mod s q hq] at h3
  have h4 : ((q : Nat) : Int).toNat = q := Int.toNat_natCast _
  generalize wd s q = x at *
  clear hq
  go_enter Tryd.func24, Tryd.ntmps24
  go_wp2
  go_ret
  exact ⟨rfl, rfl⟩
set_option maxHeartbeats 4000000 in
set_option maxRecDepth 100000 in
theorem IsNaN.calls (s : Bool) (r : Nat) (w : World) (hr : r < 9223372036854775808) : Calls Tryd.prog 17 #[.float .f64 (wd s r)] w fun e w' => e = .returned (.bool (decide (9218868437227405312 < r))) ∧ w' = w := by
  have h1 := ord_nan s r hr
  generalize decide (9218868437227405312 < r) = b at *
  generalize wd s r = x at *
  clear hr
  go_enter Tryd.func17, Tryd.ntmps17
  go_wp2
  go_ret
  exact ⟨rfl, rfl⟩
open Ieee in
theorem ord_gtmax (s : Bool) (r : Nat) (hr : r < 9223372036854775808) : (FloatKind.f64.format.order (wd s r) 9218868437227405311 == some .gt) = (!s && decide (r = 9218868437227405312)) := by
  show (double.order (wd s r) 9218868437227405311 == some .gt) = _
  by_cases h : r < 9218868437227405312
  · have e : double.order (wd s r) 9218868437227405311 = some (compare (W s r) (W false 9218868437227405311)) := order_eq s false r 9218868437227405311 h (by decide)
    rw [e, decide_eq_false (by omega), Bool.and_false]
    have h1 : V r ≤ V 9218868437227405311 := V_le_iff.2 (by omega)
    unfold W
    generalize V 9218868437227405311 = m at h1
    generalize V r = k at h1
    have h3 : (if s = true then -(k : Int) else (k : Int)) ≤ (m : Int) := by cases s <;> simp <;> omega
    simp only [Bool.false_eq_true, if_false]
    generalize (if s = true then -(k : Int) else (k : Int)) = z at h3
    simp only [compare, compareOfLessAndEq]
    by_cases h2 : z < (m : Int)
    · rw [if_pos h2]; rfl
    · rw [if_neg h2, if_pos (by omega)]; rfl
  · unfold Format.order
    rw [read_big s r hr (by omega), read_pos 9218868437227405311 (by decide)]
    by_cases h2 : r = 9218868437227405312
    · rw [if_pos h2, decide_eq_true h2]
      unfold Datum.order
      cases s <;> rfl
    · rw [if_neg h2, decide_eq_false h2, Bool.and_false]
      unfold Datum.order
      rfl
set_option maxHeartbeats 4000000 in
set_option maxRecDepth 100000 in
theorem IsInf.pos (s : Bool) (r : Nat) (w : World) (hr : r < 9223372036854775808) : Calls Tryd.prog 19 #[.float .f64 (wd s r), .int .i64 1] w fun e w' => e = .returned (.bool (!s && decide (r = 9218868437227405312))) ∧ w' = w := by
  have h1 := ord_gtmax s r hr
  generalize (!s && decide (r = 9218868437227405312)) = b at *
  generalize wd s r = x at *
  clear hr
  go_enter Tryd.func19, Tryd.ntmps19
  go_wp2
  go_ret
  exact ⟨rfl, rfl⟩
theorem neg_wd (s : Bool) (r : Nat) (hr : r < 9223372036854775808) : Op.negFloat .f64 (wd s r) = wd (!s) r := by
  have e : Op.negFloat .f64 (wd s r) = wd s r ^^^ 2 ^ 63 := rfl
  rw [e]
  apply Nat.eq_of_testBit_eq
  intro j
  rw [Nat.testBit_xor, Nat.testBit_two_pow]
  have hlow : ∀ j, j < 63 → ∀ s, (wd s r).testBit j = r.testBit j := fun j hj s => by
    cases s
    · rfl
    · show (r + 9223372036854775808).testBit j = _
      have e2 : r + 9223372036854775808 = 2 ^ 63 * 1 + r := by omega
      rw [e2, Nat.testBit_two_pow_mul_add 1 (by omega) j, if_pos hj]
  have hhi : ∀ j, 63 ≤ j → ∀ s : Bool, (wd s r).testBit j = (s && decide (63 = j)) := fun j hj s => by
    cases s
    · rw [Bool.false_and]
      exact Nat.testBit_lt_two_pow (Nat.lt_of_lt_of_le hr (Nat.pow_le_pow_right (n := 2) (by decide) hj))
    · show (r + 9223372036854775808).testBit j = _
      have e2 : r + 9223372036854775808 = 2 ^ 63 * 1 + r := by omega
      rw [e2, Nat.testBit_two_pow_mul_add 1 (by omega) j, if_neg (by omega), Bool.true_and]
      by_cases h63 : 63 = j
      · subst h63; rfl
      · rw [decide_eq_false h63]
        exact Nat.testBit_lt_two_pow (Nat.lt_of_lt_of_le (by decide : 1 < 2 ^ 1) (Nat.pow_le_pow_right (by decide) (by omega)))
  rcases Nat.lt_or_ge j 63 with hj | hj
  · rw [hlow j hj, hlow j hj, decide_eq_false (by omega), Bool.xor_false]
  · rw [hhi j hj, hhi j hj]
    cases s <;> by_cases h63 : 63 = j <;> simp [h63]
theorem neg_run (s : Bool) (r : Nat) (hr : r < 9223372036854775808) (u : World) : (Op.unary .neg (.float .f64 (wd s r))).run Tryd.prog u = .ok (.float .f64 (wd (!s) r)) u := by
  show Result.ok (Value.float .f64 (Op.negFloat .f64 (wd s r))) u = _
  rw [neg_wd s r hr]
set_option maxHeartbeats 4000000 in
set_option maxRecDepth 100000 in
theorem IsInf.neg (s : Bool) (r : Nat) (w : World) (hr : r < 9223372036854775808) : Calls Tryd.prog 19 #[.float .f64 (wd s r), .int .i64 (-1)] w fun e w' => e = .returned (.bool (s && decide (r = 9218868437227405312))) ∧ w' = w := by
  have h1 := ord_gtmax (!s) r hr
  rw [Bool.not_not] at h1
  have h2 := neg_run s r hr
  generalize wd (!s) r = y at *
  generalize (s && decide (r = 9218868437227405312)) = b at *
  generalize wd s r = x at *
  clear hr
  go_enter Tryd.func19, Tryd.ntmps19
  go_wp2
  go_ret
  exact ⟨rfl, rfl⟩
end Go.Proofs.YtheichpmhfledaaDoor
