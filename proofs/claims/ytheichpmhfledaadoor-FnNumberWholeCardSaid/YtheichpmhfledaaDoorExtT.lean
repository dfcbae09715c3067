/- A double told as a decimal string: TryToStringOnNumberSafely and NumberToString at the radix 10, walked. -/
import Derived.Test.YtheichpmhfledaaDoorExtF
import Derived.Test.YtheichpmhfledaaDoorShelfU
import Derived.Below
import Derived.Lib.SmallJoins
import Derived.Lib.LaidTab
import Derived.Test.YtheichpmhfledaaDoorWMore
import Derived.Laws.FloatArith
import Derived.Laws.Cover2
import Derived.Laws.Cover3
import Derived.Lib.Hide
import Derived.Test.YtheichpmhfledaaDoorProg
import Derived.WalkKit
import Derived.KernelRfl
import Derived.RegionTactic
import Derived.BigRegion
import Derived.BigQuiet
import Derived.LoopTactic
import Derived.Outline
import Derived.OwnWalk
import Derived.Deep.RegionLaw
set_option linter.unusedVariables false
namespace Go.Proofs.YtheichpmhfledaaDoor
open Go Go.RowKit Go.Proofs.YtheichpmhfledaaDoorW.PrintWords
theorem lt_pow {a n m : Nat} (h1 : a < 2 ^ n) (h2 : n ≤ m) : a < 2 ^ m := Nat.lt_of_lt_of_le h1 (Nat.pow_le_pow_right (by decide) h2)
open Ieee in
/-- A small whole number as a double. -/
theorem ofInt_eqK (K : Nat) (hK : K = 1074) (i : Int) (h : i.natAbs < 9007199254740992) : ∃ s z, floatOfInt .f64 i = wd s z ∧ z < 9218868437227405312 ∧ W s z = i * ((2 ^ K : Nat) : Int) := by
  have e0 : floatOfInt .f64 i = double.nearest (decide (i < 0)) i.natAbs 0 := rfl
  have e1 : (0 : Int) = (K : Int) - 1074 := by omega
  by_cases h0 : i = 0
  · refine ⟨false, 0, ?_, by decide, ?_⟩
    · rw [e0, h0]
      exact nearest_zero false 0
    · unfold W
      rw [V_zero, h0]
      simp
  · have hfin : i.natAbs * 2 ^ K < 2 ^ 2098 := by
      have h2 : i.natAbs * 2 ^ K < 2 ^ (53 + K) := by
        rw [Nat.pow_add]
        exact Nat.mul_lt_mul_of_pos_right h (Nat.pow_pos (by decide))
      exact @lt_pow _ (53 + K) 2098 h2 (by omega)
    obtain ⟨z, hz, hz1, hz2⟩ := nearest_exact (decide (i < 0)) i.natAbs K i.natAbs K (by omega) rfl h hfin
    rw [← e1] at hz
    refine ⟨decide (i < 0), z, ?_, hz1, ?_⟩
    · rw [e0, hz]
      rfl
    · unfold W
      rw [hz2]
      by_cases hi : i < 0
      · rw [decide_eq_true hi, if_pos rfl, Int.natCast_mul, ← Int.neg_mul]
        congr 1
        omega
      · rw [decide_eq_false hi, if_neg (by decide), Int.natCast_mul]
        congr 1
        omega
theorem wrap_i32_range (n : Int) : -2147483648 ≤ IntKind.i32.wrap n ∧ IntKind.i32.wrap n ≤ 2147483647 := by
  simp [IntKind.wrap, IntKind.bits, IntKind.signed]
  omega
def Bel (w w' : World) : Prop := ∀ B, Below B w w'
theorem Bel.refl (w : World) : Bel w w := fun B => Below.refl B w
theorem Bel.drew (w : World) : Bel w w.drew := fun B => (Below.refl B w).drew
theorem Bel.trans {a b c : World} (h : Bel a b) (k : Bel b c) : Bel a c := fun B => (h B).trans (k B)
theorem conv_run (x : Nat) (w : World) : ∃ i w', (convert 22 21 (.float .f64 x)).run Tryd.prog w = .ok (.int .i32 i) w' ∧ (-2147483648 ≤ i ∧ i ≤ 2147483647) ∧ Bel w w' := by
  have hs : Tryd.prog.underlying 22 = some (.float .f64) := by kernel_rfl
  have hd : Tryd.prog.underlying 21 = some (.int .i32) := by kernel_rfl
  have a1 : IntKind.i32.min = -2147483648 := by decide
  have a2 : IntKind.i32.max = 2147483647 := by decide
  have e0 : (convert 22 21 (.float .f64 x)).run Tryd.prog w = (Conv.floatToInt .f64 x .i32).run Tryd.prog w := by
    simp [convert, run_underlying hs, run_underlying hd]
  rw [e0]
  unfold Conv.floatToInt
  split
  · rename_i n hn
    by_cases hb : IntKind.i32.min ≤ n ∧ n ≤ IntKind.i32.max
    · rw [if_pos hb]
      exact ⟨n, w, rfl, ⟨by rw [a1] at hb; exact hb.1, by rw [a2] at hb; exact hb.2⟩, Bel.refl w⟩
    · rw [if_neg hb]
      simp only [Sem.run_bind, Sem.run_pure, run_choose_drew]
      split
      · exact ⟨_, _, rfl, wrap_i32_range _, Bel.refl w⟩
      · exact ⟨_, _, rfl, wrap_i32_range _, Bel.drew w⟩
  · simp only [Sem.run_bind, Sem.run_pure, run_choose_drew]
    split
    · exact ⟨_, _, rfl, wrap_i32_range _, Bel.refl w⟩
    · exact ⟨_, _, rfl, wrap_i32_range _, Bel.drew w⟩
/-- A double is a whole number. -/
def Whole (s : Bool) (r : Nat) (n : Int) : Prop := r < 9218868437227405312 ∧ ∀ K, K = 1074 → W s r = n * ((2 ^ K : Nat) : Int)
theorem eql_whole (s : Bool) (r : Nat) (i : Int) (hr : r < 9223372036854775808) (h0 : -2147483648 ≤ i) (h1 : i ≤ 2147483647) (h : (FloatKind.f64.format.order (floatOfInt .f64 i) (wd s r) == some .eq) = true) : Whole s r i := by
  by_cases hf : r < 9218868437227405312
  · refine ⟨hf, fun K hK => ?_⟩
    obtain ⟨t, z, e1, hz, hW⟩ := ofInt_eqK K hK i (by omega)
    rw [e1] at h
    have e2 : FloatKind.f64.format.order (wd t z) (wd s r) = some (compare (W t z) (W s r)) := order_eq t s z r hz hf
    rw [e2] at h
    have h2 : compare (W t z) (W s r) = .eq := by
      generalize compare (W t z) (W s r) = o at h
      cases o
      · exact absurd h (by decide)
      · rfl
      · exact absurd h (by decide)
    have h3 : W t z = W s r := by
      generalize W t z = a at h2
      generalize W s r = b at h2
      simp only [compare, compareOfLessAndEq] at h2
      by_cases ha : a < b
      · rw [if_pos ha] at h2; exact absurd h2 (by decide)
      · rw [if_neg ha] at h2
        by_cases hb : a = b
        · exact hb
        · rw [if_neg hb] at h2; exact absurd h2 (by decide)
    exact h3.symm.trans hW
  · exfalso
    obtain ⟨t, z, e1, hz, _⟩ := ofInt_eqK 1074 rfl i (by omega)
    rw [e1] at h
    have e2 : Ieee.double.order (wd t z) (wd s r) ≠ some .eq := by
      unfold Ieee.Format.order
      rw [read_big s r hr (by omega), read_wd t z hz]
      by_cases h2 : r = 9218868437227405312
      · rw [if_pos h2]
        unfold Ieee.Datum.order
        cases s <;> (intro h3; cases h3)
      · rw [if_neg h2]
        unfold Ieee.Datum.order
        intro h3
        cases h3
    have h3 : Ieee.double.order (wd t z) (wd s r) = some .eq := by
      have h4 : (Ieee.double.order (wd t z) (wd s r) == some .eq) = true := h
      generalize Ieee.double.order (wd t z) (wd s r) = o at h4
      cases o with
      | none => exact absurd h4 (by decide)
      | some o => cases o
                  · exact absurd h4 (by decide)
                  · rfl
                  · exact absurd h4 (by decide)
    exact e2 h3
theorem below_grow (w : World) (k : Nat) (os : Array Obj) : Below w.heap.size w (Sort.grow (w.drewN k) os) :=
  ⟨rfl, rfl, rfl, by show w.heap.size ≤ (w.heap ++ os).size; rw [Array.size_append]; omega, fun i hi => Array.getElem?_append_left hi⟩
/-- What a text tells of a double. -/
inductive Told (s : Bool) (r : Nat) : ByteArray → Prop
  | whole (n : Int) (h0 : -2147483648 ≤ n) (h1 : n ≤ 2147483647) (h : Whole s r n) : Told s r ⟨(Lib.itoa n).toArray⟩
  | nan (h : 9218868437227405312 < r) : Told s r ⟨#[78, 97, 78]⟩
  | pinf (h : r = 9218868437227405312) (hs : s = false) : Told s r ⟨#[73, 110, 102, 105, 110, 105, 116, 121]⟩
  | ninf (h : r = 9218868437227405312) (hs : s = true) : Told s r ⟨#[45, 73, 110, 102, 105, 110, 105, 116, 121]⟩
def Tab (w : World) : Prop := Lib.TabIs Tryd.prog w "internal/strconv.uint64pow10" .u64 Lib.pow10Tab
def Tells (s : Bool) (r : Nat) (e : Ending) : Prop := ∃ t b, e = .returned (.tuple #[.string t, .bool b]) ∧ ((b = true ∧ Told s r t) ∨ b = false)
theorem Tab.stays {w w' : World} {B : Nat} (h : Tab w) (hb : Below B w w') (hB : w.heap.size ≤ B) : Tab w' := by
  have hs : (Tryd.prog.globalNamed "internal/strconv.uint64pow10").isSome = true := by kernel_rfl
  obtain ⟨g, hg⟩ := Option.isSome_iff_exists.1 hs
  exact Go.Joins.tab_stays hg h hb hB
theorem Format.calls (n : Int) (h0 : -2147483648 ≤ n) (h1 : n ≤ 2147483647) (w : World) (htab : Tab w) :
    Calls Tryd.prog 25 #[.int .i64 n, .int .i64 10] w fun e w' => e = .returned (.string ⟨(Lib.itoa n).toArray⟩) ∧ Below w.heap.size w w' :=
  (Tryd.strconv_FormatInt_10 n (by omega) (by omega) w htab).mono fun e w' ⟨he, k, os, hw⟩ => ⟨he, by rw [hw]; exact below_grow w k os⟩
theorem Bel.then {a b c : World} (h : Bel a b) (k : Below b.heap.size b c) : Below a.heap.size a c := (h a.heap.size).trans (k.mono (h 0).size)
set_option maxHeartbeats 4000000 in
set_option maxRecDepth 100000 in
theorem TryTo.calls (s : Bool) (r : Nat) (w : World) (hr : r < 9223372036854775808) (htab : Tab w) : Calls Tryd.prog 11 #[.float .f64 (wd s r), .int .i64 10] w fun e w' => Tells s r e ∧ Below w.heap.size w w' := by
  obtain ⟨i, w1, hc, ⟨h0, h1⟩, hbel⟩ := conv_run (wd s r) w
  have HB := Lib.hid hbel
  have HE := Lib.hid (fun h => eql_whole s r i hr h0 h1 h)
  by_cases hb : (FloatKind.f64.format.order (floatOfInt .f64 i) (wd s r) == some .eq) = true
  · have HS := Lib.hid (Told.whole i h0 h1 (HE.out hb))
    have HF := Lib.hid (Format.calls i h0 h1 w1 (htab.stays (hbel w.heap.size) (Nat.le_refl _)))
    clear HE hbel htab
    generalize wd s r = x at *
    generalize (⟨(Lib.itoa i).toArray⟩ : ByteArray) = t at *
    have ww : wrap64 i = i := by unfold wrap64; omega
    clear hr h0 h1
    go_enter Tryd.func11, Tryd.ntmps11
    go_wp2_with (first | (go_at_call 25; (with_reducible refine HF.out.mono ?_); rintro e w2 ⟨rfl, hb2⟩; have HB2 := Lib.hid hb2; clear hb2))
    exact bodyPost_ret (results_tmp2 rfl _ _ _) rfl ⟨⟨t, true, rfl, Or.inl ⟨rfl, HS.out⟩⟩, Bel.then HB.out HB2.out⟩
  · have hb2 : (FloatKind.f64.format.order (floatOfInt .f64 i) (wd s r) == some .eq) = false := by simpa using hb
    clear HE hb hbel htab
    have HN := Lib.hid (IsNaN.calls s r w1 hr)
    have HP := Lib.hid (IsInf.pos s r w1 hr)
    have HM := Lib.hid (IsInf.neg s r w1 hr)
    have HW := Lib.hid (HB.out w.heap.size)
    clear HB h0 h1
    rcases Nat.lt_trichotomy r 9218868437227405312 with hf | hf | hf
    · rw [decide_eq_false (by omega)] at HN HP HM
      rw [Bool.and_false] at HP HM
      generalize wd s r = x at *
      clear hr hf
      go_enter Tryd.func11, Tryd.ntmps11
      go_wp2_with (first | (go_at_call 17; (with_reducible refine HN.out.mono ?_); rintro e w2 ⟨rfl, rfl⟩) | (go_at_call 19; first | ((with_reducible refine HP.out.mono ?_); rintro e w2 ⟨rfl, rfl⟩) | ((with_reducible refine HM.out.mono ?_); rintro e w2 ⟨rfl, rfl⟩)))
      exact bodyPost_ret (results_tmp2 rfl _ _ _) rfl ⟨⟨_, false, rfl, Or.inr rfl⟩, HW.out⟩
    · rw [decide_eq_false (by omega)] at HN
      rw [decide_eq_true hf, Bool.and_true] at HP HM
      cases s
      · have HS := Lib.hid (Told.pinf (s := false) hf rfl)
        generalize wd false r = x at *
        clear hr hf HM
        go_enter Tryd.func11, Tryd.ntmps11
        go_wp2_with (first | (go_at_call 17; (with_reducible refine HN.out.mono ?_); rintro e w2 ⟨rfl, rfl⟩) | (go_at_call 19; ((with_reducible refine HP.out.mono ?_); rintro e w2 ⟨rfl, rfl⟩)))
        exact bodyPost_ret (results_tmp2 rfl _ _ _) rfl ⟨⟨_, true, rfl, Or.inl ⟨rfl, HS.out⟩⟩, HW.out⟩
      · have HS := Lib.hid (Told.ninf (s := true) hf rfl)
        generalize wd true r = x at *
        clear hr hf
        go_enter Tryd.func11, Tryd.ntmps11
        go_wp2_with (first | (go_at_call 17; (with_reducible refine HN.out.mono ?_); rintro e w2 ⟨rfl, rfl⟩) | (go_at_call 19; first | ((with_reducible refine HP.out.mono ?_); rintro e w2 ⟨rfl, rfl⟩) | ((with_reducible refine HM.out.mono ?_); rintro e w2 ⟨rfl, rfl⟩)))
        exact bodyPost_ret (results_tmp2 rfl _ _ _) rfl ⟨⟨_, true, rfl, Or.inl ⟨rfl, HS.out⟩⟩, HW.out⟩
    · have HS := Lib.hid (Told.nan (s := s) hf)
      rw [decide_eq_true hf] at HN
      generalize wd s r = x at *
      clear hr hf HP HM
      go_enter Tryd.func11, Tryd.ntmps11
      go_wp2_with (first | (go_at_call 17; (with_reducible refine HN.out.mono ?_); rintro e w2 ⟨rfl, rfl⟩))
      exact bodyPost_ret (results_tmp2 rfl _ _ _) rfl ⟨⟨_, true, rfl, Or.inl ⟨rfl, HS.out⟩⟩, HW.out⟩
set_option maxHeartbeats 4000000 in
set_option maxRecDepth 100000 in
theorem ToStr.calls (s : Bool) (r : Nat) (w : World) (hr : r < 9223372036854775808) (htab : Tab w) : Calls Tryd.prog 5 #[.float .f64 (wd s r), .int .i64 10] w fun e w' => Tells s r e ∧ Below w.heap.size w w' := by
  have HA := Lib.hid (TryTo.calls s r w hr htab)
  generalize wd s r = x at *
  clear hr htab
  go_enter Tryd.func5, Tryd.ntmps5
  go_wp2_with (first | (go_at_call 11; (with_reducible refine HA.out.mono ?_); rintro e w2 ⟨⟨t, b, rfl, ht⟩, hb⟩; have HB := Lib.hid hb; have HT := Lib.hid ht; clear hb ht))
  exact bodyPost_ret (results_tmp2 rfl _ _ _) rfl ⟨⟨t, b, rfl, HT.out⟩, HB.out⟩
theorem T_three (K : Nat) (hK : K = 1074) : V 4613937818241073152 / 2 ^ K = 3 := by
  obtain ⟨p, hp⟩ : ∃ p, p = 1023 := ⟨_, rfl⟩
  unfold V
  have e1 : sh 4613937818241073152 = 1023 := by decide
  have e2 : mag 4613937818241073152 = 3 * 2 ^ 51 := by decide
  rw [e1, e2, ← hp, Nat.mul_assoc, ← Nat.pow_add]
  have e4 : 51 + p = K := by omega
  rw [e4]
  exact Nat.mul_div_cancel 3 (Nat.pow_pos (by decide))
theorem conv_three (w : World) : (convert 22 21 (.float .f64 4613937818241073152)).run Tryd.prog w = .ok (.int .i32 3) w := by
  have e : (Ieee.double.read 4613937818241073152).toInt .zero = some (T 4613937818241073152 : Int) := toInt_eq false _ (by decide)
  have hb : T 4613937818241073152 = 3 := T_three 1074 rfl
  rw [hb] at e
  refine run_convert_float_int w 22 21 .f64 .i32 _ 3 (by kernel_rfl) (by kernel_rfl) ?_
  have e2 : (FloatKind.f64.decode 4613937818241073152).toInt .zero = some 3 := e
  unfold floatToIntVal
  rw [e2]
  rfl
set_option maxHeartbeats 4000000 in
set_option maxRecDepth 100000 in
theorem TryThree.calls (w : World) : Calls Tryd.prog 11 #[.float .f64 4613937818241073152, .int .i64 10] w fun e w' => e = .returned (.tuple #[.string ⟨(Lib.decDigits 3).toArray⟩, .bool true]) ∧ w' = w := by
  have hc := conv_three
  have hf : Calls Tryd.prog 25 #[.int .i64 3, .int .i64 10] w fun e w' => e = .returned (.string ⟨(Lib.decDigits 3).toArray⟩) ∧ w' = w := Tryd.strconv_FormatInt_10_small 3 (by decide) w
  have HF := Lib.hid hf
  clear hf
  have e1 : floatOfInt .f64 3 = 4613937818241073152 := by decide +kernel
  have h1 := ord_eql 4613937818241073152 4613937818241073152 (by decide) (by decide)
  rw [decide_eq_true rfl] at h1
  generalize (⟨(Lib.decDigits 3).toArray⟩ : ByteArray) = t at *
  go_enter Tryd.func11, Tryd.ntmps11
  go_wp2_with (first | (go_at_call 25; (with_reducible refine HF.out.mono ?_); rintro e w2 ⟨rfl, rfl⟩))
  exact bodyPost_ret (results_tmp2 rfl _ _ _) rfl ⟨rfl, rfl⟩
set_option maxHeartbeats 4000000 in
set_option maxRecDepth 100000 in
theorem Three.calls (w : World) : Calls Tryd.prog 5 #[.float .f64 4613937818241073152, .int .i64 10] w fun e w' => e = .returned (.tuple #[.string ⟨(Lib.decDigits 3).toArray⟩, .bool true]) ∧ w' = w := by
  have HA := Lib.hid (TryThree.calls w)
  generalize (⟨(Lib.decDigits 3).toArray⟩ : ByteArray) = t at *
  go_enter Tryd.func5, Tryd.ntmps5
  go_wp2_with (first | (go_at_call 11; (with_reducible refine HA.out.mono ?_); rintro e w2 ⟨rfl, rfl⟩))
  exact bodyPost_ret (results_tmp2 rfl _ _ _) rfl ⟨rfl, rfl⟩
end Go.Proofs.YtheichpmhfledaaDoor
