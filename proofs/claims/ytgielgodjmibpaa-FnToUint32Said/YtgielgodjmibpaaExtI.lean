/- ToInt32 and ToUint32, walked. -/
import Derived.Test.YtgielgodjmibpaaExtD
import Derived.Below
import Derived.Test.YtgielgodjmibpaaExtN
import Derived.Test.YtgielgodjmibpaaWMore
import Derived.Laws.FloatArith
import Derived.Laws.Cover2
import Derived.Laws.Cover3
import Derived.Lib.Hide
import Derived.Test.YtgielgodjmibpaaProg
import Derived.WalkKit
import Derived.KernelRfl
import Derived.RegionTactic
import Derived.BigRegion
import Derived.BigQuiet
import Derived.LoopTactic
import Derived.Outline
import Derived.OwnWalk
import Derived.Deep.RegionLaw
set_option linter.unusedVariables false
namespace Go.Proofs.Ytgielgodjmibpaa
open Go Go.RowKit Go.Proofs.YtgielgodjmibpaaW.PrintWords
open Ieee in
/-- A small whole number as a double. -/
theorem ofInt_eqK (K : Nat) (hK : K = 1074) (i : Int) (h : i.natAbs < 9007199254740992) : ∃ s z, floatOfInt .f64 i = wd s z ∧ z < 9218868437227405312 ∧ W s z = i * ((2 ^ K : Nat) : Int) := by
  have e0 : floatOfInt .f64 i = double.nearest (decide (i < 0)) i.natAbs 0 := rfl
  have e1 : (0 : Int) = (K : Int) - 1074 := by omega
  by_cases h0 : i = 0
  · refine ⟨false, 0, ?_, by decide, ?_⟩
    · rw [e0, h0]
      exact nearest_zero false 0
    · unfold W
      rw [V_zero, h0]
      simp
  · have hfin : i.natAbs * 2 ^ K < 2 ^ 2098 := by
      have h2 : i.natAbs * 2 ^ K < 2 ^ (53 + K) := by
        rw [Nat.pow_add]
        exact Nat.mul_lt_mul_of_pos_right h (Nat.pow_pos (by decide))
      exact @lt_pow _ (53 + K) 2098 h2 (by omega)
    obtain ⟨z, hz, hz1, hz2⟩ := nearest_exact (decide (i < 0)) i.natAbs K i.natAbs K (by omega) rfl h hfin
    rw [← e1] at hz
    refine ⟨decide (i < 0), z, ?_, hz1, ?_⟩
    · rw [e0, hz]
      rfl
    · unfold W
      rw [hz2]
      by_cases hi : i < 0
      · rw [decide_eq_true hi, if_pos rfl, Int.natCast_mul, ← Int.neg_mul]
        congr 1
        omega
      · rw [decide_eq_false hi, if_neg (by decide), Int.natCast_mul]
        congr 1
        omega
/-- What ToUint32 answers. -/
def specU (s : Bool) (r : Nat) : Int := if r < 9218868437227405312 then (if s then -(T r : Int) else (T r : Int)) % 4294967296 else 0
theorem wrap_u32 (i : Int) : IntKind.u32.wrap i = i % 4294967296 := by simp [IntKind.wrap, IntKind.bits, IntKind.signed]
theorem T_of_W (K : Nat) (hK : K = 1074) (s : Bool) (r : Nat) (i : Int) (h : W s r = i * ((2 ^ K : Nat) : Int)) : (if s then -(TK K r : Int) else (TK K r : Int)) = i := by
  have hp : 0 < 2 ^ K := Nat.pow_pos (by decide)
  have hv : V r = i.natAbs * 2 ^ K := by
    have h2 : (V r : Int).natAbs = (i * ((2 ^ K : Nat) : Int)).natAbs := by
      rw [← h]
      unfold W
      cases s <;> simp
    rw [Int.natAbs_mul] at h2
    simpa using h2
  have ht : TK K r = i.natAbs := by
    unfold TK
    rw [hv, Nat.mul_div_cancel _ hp]
  rw [ht]
  generalize 2 ^ K = D at *
  unfold W at h
  rw [hv] at h
  rcases Int.lt_trichotomy i 0 with hi | hi | hi
  · have e : i = -(i.natAbs : Int) := by omega
    have e2 : i * (D : Int) < 0 := Int.mul_neg_of_neg_of_pos hi (by omega)
    cases s
    · simp only [Bool.false_eq_true, if_false] at h
      omega
    · simp only [if_true]
      omega
  · subst hi
    cases s <;> rfl
  · have e2 : 0 < i * (D : Int) := Int.mul_pos hi (by omega)
    cases s
    · simp only [Bool.false_eq_true, if_false]
      omega
    · simp only [if_true] at h
      omega
/-- A whole number that the double is: the answer. -/
theorem eql_spec (s : Bool) (r : Nat) (i : Int) (hr : r < 9223372036854775808) (h0 : -2147483648 ≤ i) (h1 : i ≤ 2147483647) (h : (FloatKind.f64.format.order (floatOfInt .f64 i) (wd s r) == some .eq) = true) : i % 4294967296 = specU s r := by
  obtain ⟨t, z, e1, hz, hW⟩ := ofInt_eqK 1074 rfl i (by omega)
  rw [e1] at h
  by_cases hf : r < 9218868437227405312
  · have e2 : FloatKind.f64.format.order (wd t z) (wd s r) = some (compare (W t z) (W s r)) := order_eq t s z r hz hf
    rw [e2] at h
    have h2 : compare (W t z) (W s r) = .eq := by
      generalize compare (W t z) (W s r) = o at h
      cases o
      · exact absurd h (by decide)
      · rfl
      · exact absurd h (by decide)
    have h3 : W t z = W s r := by
      generalize W t z = a at h2
      generalize W s r = b at h2
      simp only [compare, compareOfLessAndEq] at h2
      by_cases ha : a < b
      · rw [if_pos ha] at h2; exact absurd h2 (by decide)
      · rw [if_neg ha] at h2
        by_cases hb : a = b
        · exact hb
        · rw [if_neg hb] at h2; exact absurd h2 (by decide)
    have h4 := T_of_W 1074 rfl s r i (h3.symm.trans hW)
    unfold specU
    rw [if_pos hf]
    have h5 : (if s then -(T r : Int) else (T r : Int)) = i := h4
    rw [h5]
  · exfalso
    have e2 : Ieee.double.order (wd t z) (wd s r) ≠ some .eq := by
      unfold Ieee.Format.order
      rw [read_big s r hr (by omega), read_wd t z hz]
      by_cases h2 : r = 9218868437227405312
      · rw [if_pos h2]
        unfold Ieee.Datum.order
        cases s <;> (intro h3; cases h3)
      · rw [if_neg h2]
        unfold Ieee.Datum.order
        intro h3
        cases h3
    have h3 : Ieee.double.order (wd t z) (wd s r) = some .eq := by
      have h4 : (Ieee.double.order (wd t z) (wd s r) == some .eq) = true := h
      generalize Ieee.double.order (wd t z) (wd s r) = o at h4
      cases o with
      | none => exact absurd h4 (by decide)
      | some o => cases o
                  · exact absurd h4 (by decide)
                  · rfl
                  · exact absurd h4 (by decide)
    exact e2 h3
theorem TK_lt (K z : Nat) (hK : K = 1074) (h : z < 4751297606875873280) : TK K z < 4294967296 := by
  unfold TK
  rw [Nat.div_lt_iff_lt_mul (Nat.pow_pos (by decide))]
  have h2 : V z < V 4751297606875873280 := V_lt_iff.2 h
  obtain ⟨p, hp⟩ : ∃ p, p = 1054 := ⟨_, rfl⟩
  have h3 : V 4751297606875873280 = 4503599627370496 * 2 ^ p := by
    unfold V
    have e1 : sh 4751297606875873280 = 1054 := by decide
    have e2 : mag 4751297606875873280 = 4503599627370496 := by decide
    rw [e1, e2, hp]
  have h4 := lead K p hK (by omega)
  have h6 : p - 1054 = 0 := by omega
  rw [h3, h4] at h2
  have h5 : 2 ^ K * (4294967296 * 2 ^ (p - 1054)) = 4294967296 * 2 ^ K := by rw [h6, Nat.pow_zero, Nat.mul_one, Nat.mul_comm]
  rw [h5] at h2
  exact h2
theorem wrap_i32_range (n : Int) : -2147483648 ≤ IntKind.i32.wrap n ∧ IntKind.i32.wrap n ≤ 2147483647 := by
  simp [IntKind.wrap, IntKind.bits, IntKind.signed]
  omega
def Bel (w w' : World) : Prop := ∀ B, Below B w w'
theorem Bel.refl (w : World) : Bel w w := fun B => Below.refl B w
theorem Bel.drew (w : World) : Bel w w.drew := fun B => (Below.refl B w).drew
theorem Bel.trans {a b c : World} (h : Bel a b) (k : Bel b c) : Bel a c := fun B => (h B).trans (k B)
theorem conv_run (x : Nat) (w : World) : ∃ i w', (convert 22 21 (.float .f64 x)).run Try.prog w = .ok (.int .i32 i) w' ∧ (-2147483648 ≤ i ∧ i ≤ 2147483647) ∧ Bel w w' := by
  have hs : Try.prog.underlying 22 = some (.float .f64) := by kernel_rfl
  have hd : Try.prog.underlying 21 = some (.int .i32) := by kernel_rfl
  have a1 : IntKind.i32.min = -2147483648 := by decide
  have a2 : IntKind.i32.max = 2147483647 := by decide
  have e0 : (convert 22 21 (.float .f64 x)).run Try.prog w = (Conv.floatToInt .f64 x .i32).run Try.prog w := by
    simp [convert, run_underlying hs, run_underlying hd]
  rw [e0]
  unfold Conv.floatToInt
  split
  · rename_i n hn
    by_cases hb : IntKind.i32.min ≤ n ∧ n ≤ IntKind.i32.max
    · rw [if_pos hb]
      exact ⟨n, w, rfl, ⟨by rw [a1] at hb; exact hb.1, by rw [a2] at hb; exact hb.2⟩, Bel.refl w⟩
    · rw [if_neg hb]
      simp only [Sem.run_bind, Sem.run_pure, run_choose_drew]
      split
      · exact ⟨_, _, rfl, wrap_i32_range _, Bel.refl w⟩
      · exact ⟨_, _, rfl, wrap_i32_range _, Bel.drew w⟩
  · simp only [Sem.run_bind, Sem.run_pure, run_choose_drew]
    split
    · exact ⟨_, _, rfl, wrap_i32_range _, Bel.refl w⟩
    · exact ⟨_, _, rfl, wrap_i32_range _, Bel.drew w⟩
theorem conv_u32 (z : Nat) (h : z < 4751297606875873280) (w : World) : (convert 22 23 (.float .f64 z)).run Try.prog w = .ok (.int .u32 (T z : Int)) w := by
  have e : (Ieee.double.read z).toInt .zero = some (T z : Int) := toInt_eq false z (by omega)
  have hb : T z < 4294967296 := TK_lt 1074 z rfl h
  refine run_convert_float_int w 22 23 .f64 .u32 z (T z) (by kernel_rfl) (by kernel_rfl) ?_
  have e2 : (FloatKind.f64.decode z).toInt .zero = some (T z : Int) := e
  unfold floatToIntVal
  rw [e2]
  have h1 : IntKind.u32.min ≤ (T z : Int) ∧ (T z : Int) ≤ IntKind.u32.max := by
    have a1 : IntKind.u32.min = 0 := by decide
    have a2 : IntKind.u32.max = 4294967295 := by decide
    rw [a1, a2]
    omega
  simp only [h1, and_self, if_true]
/-- By way of Mod: the answer. -/
theorem mod_spec (s : Bool) (r z : Nat) (hr : r < 9218868437227405312) (h : T z % 4294967296 = T r % 4294967296) : (if s then -(T z : Int) else (T z : Int)) % 4294967296 = specU s r := by
  unfold specU
  rw [if_pos hr]
  generalize T z = a at *
  generalize T r = b at *
  cases s
  · simp only [Bool.false_eq_true, if_false]; omega
  · simp only [if_true]; omega
theorem u32_wrap32 (a : Int) : (wrap32 a) % 4294967296 = a % 4294967296 := by unfold wrap32; omega
theorem u32_neg32 (a : Int) : (wrap32 (-(wrap32 a))) % 4294967296 = (-a) % 4294967296 := by unfold wrap32; omega
set_option maxHeartbeats 4000000 in
set_option maxRecDepth 100000 in
theorem ToInt32.calls (s : Bool) (r : Nat) (w : World) (hr : r < 9223372036854775808) : Calls Try.prog 9 #[.float .f64 (wd s r)] w fun e w' => (∃ i, e = .returned (.int .i32 i) ∧ i % 4294967296 = specU s r) ∧ Bel w w' := by
  obtain ⟨i, w1, hc, ⟨h0, h1⟩, hbel⟩ := conv_run (wd s r) w
  have HB := Lib.hid hbel
  clear hbel
  have HE := Lib.hid (fun h => eql_spec s r i hr h0 h1 h)
  by_cases hb : (FloatKind.f64.format.order (floatOfInt .f64 i) (wd s r) == some .eq) = true
  · have HS := Lib.hid (HE.out hb)
    clear HE
    generalize wd s r = x at *
    clear hr h0 h1
    go_enter Try.func9, Try.ntmps9
    go_wp2
    go_ret
    exact ⟨⟨i, rfl, HS.out⟩, HB.out⟩
  · have hb2 : (FloatKind.f64.format.order (floatOfInt .f64 i) (wd s r) == some .eq) = false := by simpa using hb
    clear HE hb
    have HN := Lib.hid (IsNaN.calls s r w1 hr)
    have HI := Lib.hid (IsInf.calls s r w1 hr)
    rcases Nat.lt_trichotomy r 9218868437227405312 with hf | hf | hf
    · rw [decide_eq_false (by omega)] at HN HI
      have HA := Lib.hid (Abs.calls s r w1 hr)
      have HM := Lib.hid (Mod.calls r w1 hf)
      have HG := Lib.hid (Signbit.calls s r w1 hr)
      have HP := Lib.hid (fun z h => mod_spec s r z hf h)
      generalize specU s r = u at *
      generalize wd s r = x at *
      clear hr h0 h1 hf
      have HC := Lib.hid conv_u32
      cases s
      · go_enter Try.func9, Try.ntmps9
        go_wp2_with (first | (go_at_call 11; (with_reducible refine HN.out.mono ?_); rintro e w2 ⟨rfl, rfl⟩) | (go_at_call 12; (with_reducible refine HI.out.mono ?_); rintro e w2 ⟨rfl, rfl⟩) | (go_at_call 14; (with_reducible refine HA.out.mono ?_); rintro e w2 ⟨rfl, rfl⟩) | (go_at_call 13; (with_reducible refine HM.out.mono ?_); rintro e w2 ⟨⟨z, rfl, hz⟩, rfl⟩; have HZ := Lib.hid hz; have cz := HC.out z hz.1; clear hz) | (go_at_call 15; (with_reducible refine HG.out.mono ?_); rintro e w2 ⟨rfl, rfl⟩))
        go_ret
        refine ⟨⟨_, rfl, ?_⟩, HB.out⟩
        have := HP.out z HZ.out.2
        simp only [Bool.false_eq_true, if_false] at this
        rw [u32_wrap32]
        exact this
      · go_enter Try.func9, Try.ntmps9
        go_wp2_with (first | (go_at_call 11; (with_reducible refine HN.out.mono ?_); rintro e w2 ⟨rfl, rfl⟩) | (go_at_call 12; (with_reducible refine HI.out.mono ?_); rintro e w2 ⟨rfl, rfl⟩) | (go_at_call 14; (with_reducible refine HA.out.mono ?_); rintro e w2 ⟨rfl, rfl⟩) | (go_at_call 13; (with_reducible refine HM.out.mono ?_); rintro e w2 ⟨⟨z, rfl, hz⟩, rfl⟩; have HZ := Lib.hid hz; have cz := HC.out z hz.1; clear hz) | (go_at_call 15; (with_reducible refine HG.out.mono ?_); rintro e w2 ⟨rfl, rfl⟩))
        go_ret
        refine ⟨⟨_, rfl, ?_⟩, HB.out⟩
        have := HP.out z HZ.out.2
        simp only [if_true] at this
        rw [u32_neg32]
        exact this
    · have HS := Lib.hid (show specU s r = 0 by unfold specU; rw [if_neg (by omega)])
      rw [decide_eq_false (by omega)] at HN
      rw [decide_eq_true hf] at HI
      generalize specU s r = u at *
      generalize wd s r = x at *
      clear hr h0 h1 hf
      go_enter Try.func9, Try.ntmps9
      go_wp2_with (first | (go_at_call 11; (with_reducible refine HN.out.mono ?_); rintro e w2 ⟨rfl, rfl⟩) | (go_at_call 12; (with_reducible refine HI.out.mono ?_); rintro e w2 ⟨rfl, rfl⟩))
      go_ret
      exact ⟨⟨0, rfl, HS.out.symm⟩, HB.out⟩
    · have HS := Lib.hid (show specU s r = 0 by unfold specU; rw [if_neg (by omega)])
      rw [decide_eq_true hf] at HN
      generalize specU s r = u at *
      generalize wd s r = x at *
      clear hr h0 h1 hf HI
      go_enter Try.func9, Try.ntmps9
      go_wp2_with (first | (go_at_call 11; (with_reducible refine HN.out.mono ?_); rintro e w2 ⟨rfl, rfl⟩))
      go_ret
      exact ⟨⟨0, rfl, HS.out.symm⟩, HB.out⟩
set_option maxHeartbeats 4000000 in
set_option maxRecDepth 100000 in
theorem ToUint32.calls (s : Bool) (r : Nat) (w : World) (hr : r < 9223372036854775808) : Calls Try.prog 6 #[.float .f64 (wd s r)] w fun e w' => e = .returned (.int .u32 (specU s r)) ∧ Bel w w' := by
  have HA := Lib.hid (ToInt32.calls s r w hr)
  generalize specU s r = u at *
  generalize wd s r = x at *
  clear hr
  go_enter Try.func6, Try.ntmps6
  go_wp2_with (first | (go_at_call 9; (with_reducible refine HA.out.mono ?_); rintro e w2 ⟨⟨i, rfl, hi⟩, hb⟩; have HB := Lib.hid hb; have hw := wrap_u32 i; rw [hi] at hw; clear hi hb))
  go_ret
  exact ⟨rfl, HB.out⟩
set_option maxHeartbeats 4000000 in
set_option maxRecDepth 100000 in
theorem impl.calls (s : Bool) (r : Nat) (w : World) (hr : r < 9223372036854775808) : Calls Try.prog 4 #[.float .f64 (wd s r)] w fun e w' => e = .returned (.int .u32 (specU s r)) ∧ Bel w w' := by
  have HA := Lib.hid (ToUint32.calls s r w hr)
  generalize specU s r = u at *
  generalize wd s r = x at *
  clear hr
  go_enter Try.func4, Try.ntmps4
  go_wp2_with (first | (go_at_call 6; (with_reducible refine HA.out.mono ?_); rintro e w2 ⟨rfl, hb⟩; have HB := Lib.hid hb; clear hb))
  go_ret
  exact ⟨rfl, HB.out⟩
end Go.Proofs.Ytgielgodjmibpaa
