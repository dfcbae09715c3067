/- Package math's Ldexp and Mod at doubles, walked. -/
import Derived.Test.YtgielgodjmibpaaExtF
import Derived.Test.YtgielgodjmibpaaExtN
import Derived.Test.YtgielgodjmibpaaWMore
import Derived.Laws.FloatArith
import Derived.Laws.Cover2
import Derived.Laws.Cover3
import Derived.Lib.Hide
import Derived.Test.YtgielgodjmibpaaProg
import Derived.WalkKit
import Derived.KernelRfl
import Derived.RegionTactic
import Derived.BigRegion
import Derived.BigQuiet
import Derived.LoopTactic
import Derived.Outline
import Derived.OwnWalk
import Derived.Deep.RegionLaw
set_option linter.unusedVariables false
namespace Go.Proofs.Ytgielgodjmibpaa
open Go Go.RowKit Go.Proofs.YtgielgodjmibpaaW.PrintWords
theorem or_zero (x : Nat) (h : x < 18446744073709551616) : Go.bits .or .u64 0 (x : Int) = (x : Int) := by
  have h1 : (BitVec.ofInt 64 (0 : Int) ||| BitVec.ofInt 64 (x : Int)).toNat = x := by
    rw [BitVec.toNat_or, BitVec.ofInt_natCast, BitVec.toNat_ofNat, Nat.mod_eq_of_lt (by omega)]
    simp
  show IntKind.u64.wrap (((BitVec.ofInt 64 (0 : Int) ||| BitVec.ofInt 64 (x : Int)).toNat : Nat) : Int) = _
  rw [h1]
  exact wraps_u64 _ (by omega) (by omega)
theorem lt_pow {a n m : Nat} (h1 : a < 2 ^ n) (h2 : n ≤ m) : a < 2 ^ m := Nat.lt_of_lt_of_le h1 (Nat.pow_le_pow_right (by decide) h2)
theorem pow4 (a b c d e : Nat) (h : a + b = c + (d + e)) : 2 ^ a * 2 ^ b = 2 ^ c * (2 ^ d * 2 ^ e) := by
  rw [← Nat.pow_add, ← Nat.pow_add, ← Nat.pow_add, h]
theorem V_fin {r : Nat} (h : r < 9218868437227405312) : V r < 2 ^ 2098 := @lt_pow (V r) (52 + r / 4503599627370496) 2098 (V_lt r) (by omega)
def TK (K x : Nat) : Nat := V x / 2 ^ K
theorem T_eq (x : Nat) : T x = TK 1074 x := rfl
theorem mul_word (E : Nat) (h0 : 1055 ≤ E) (h1 : E ≤ 2046) : Ieee.double.mul 4607182418800017408 (E * 4503599627370496) = some (E * 4503599627370496) := by
  have e1 : sh (E * 4503599627370496) = E - 1 := by
    unfold sh
    rw [if_neg (by omega)]
    omega
  have e2 : mag (E * 4503599627370496) = 4503599627370496 := by
    unfold mag
    rw [if_neg (by omega)]
    omega
  refine mul_one_exact _ (by omega) (by rw [e1]; omega) (by rw [e2]; decide) (by rw [e2]; decide) ?_
  exact V_fin (by omega)
set_option maxHeartbeats 4000000 in
set_option maxRecDepth 100000 in
theorem ldexp.calls (E : Nat) (w : World) (h0 : 1055 ≤ E) (h1 : E ≤ 2046) : Calls Try.prog 25 #[.float .f64 4751297606875873280, .int .i64 ((E : Int) - 1055)] w fun e w' => e = .returned (.float .f64 (E * 4503599627370496)) ∧ w' = w := by
  have k1 := ord_eql 4751297606875873280 0 (by decide) (by decide)
  rw [decide_eq_false (by decide)] at k1
  have HA := Lib.hid (IsInf.calls false 4751297606875873280 w (by decide))
  have HB := Lib.hid (IsNaN.calls false 4751297606875873280 w (by decide))
  rw [wd_false, decide_eq_false (by decide)] at HA HB
  have HC := Lib.hid (normalize.calls 4751297606875873280 w ⟨by decide, by decide⟩)
  have b1 := bits_run
  have b2 := from_run
  have c1 : Go.bits .and .i64 1055 2047 = 1055 := by decide +kernel
  have c2 : Go.bits .andNot .u64 4751297606875873280 9218868437227405312 = 0 := by decide +kernel
  have c3 : (Go.bits .or .u64 0 (((E : Int) - 1055 + 32 + 1023) * 4503599627370496)).toNat = E * 4503599627370496 := by
    have e : ((E : Int) - 1055 + 32 + 1023) * 4503599627370496 = ((E * 4503599627370496 : Nat) : Int) := by omega
    rw [e, or_zero (E * 4503599627370496) (by omega)]
    exact Int.toNat_natCast _
  have c5 : ∀ u, (binOp .mul 22 (.float .f64 4607182418800017408) (.float .f64 (E * 4503599627370496))).run Try.prog u = .ok (.float .f64 (E * 4503599627370496)) u := fun u => run_float_arith u .mul 22 .f64 _ _ _ (mul_word E h0 h1)
  go_enter Try.func25, Try.ntmps25
  go_wp2_with (first | (go_at_call 12; (with_reducible refine HA.out.mono ?_); rintro e w2 ⟨rfl, rfl⟩) | (go_at_call 11; (with_reducible refine HB.out.mono ?_); rintro e w2 ⟨rfl, rfl⟩) | (go_at_call 26; (with_reducible refine HC.out.mono ?_); rintro e w2 ⟨rfl, rfl⟩))
  go_ret
  exact ⟨rfl, rfl⟩
set_option maxHeartbeats 4000000 in
set_option maxRecDepth 100000 in
theorem Ldexp.calls (E : Nat) (w : World) (h0 : 1055 ≤ E) (h1 : E ≤ 2046) : Calls Try.prog 21 #[.float .f64 4751297606875873280, .int .i64 ((E : Int) - 1055)] w fun e w' => e = .returned (.float .f64 (E * 4503599627370496)) ∧ w' = w := by
  have HA := Lib.hid (ldexp.calls E w h0 h1)
  generalize (E : Int) - 1055 = k at *
  clear h0 h1
  go_enter Try.func21, Try.ntmps21
  go_wp2_with (first | (go_at_call 25; (with_reducible refine HA.out.mono ?_); rintro e w2 ⟨rfl, rfl⟩))
  go_ret
  exact ⟨rfl, rfl⟩
theorem tmod (D x K : Nat) (h : 0 < D) : x / D % 4294967296 = (D * (4294967296 * K) + x) / D % 4294967296 := by
  rw [Nat.add_comm, Nat.add_mul_div_left _ _ h, Nat.add_mul_mod_self_left]
theorem lead (K p : Nat) (hK : K = 1074) (h : 1054 ≤ p) : 4503599627370496 * 2 ^ p = 2 ^ K * (4294967296 * 2 ^ (p - 1054)) := by
  have e1 : (4503599627370496 : Nat) = 2 ^ 52 := by decide
  have e2 : (4294967296 : Nat) = 2 ^ 32 := by decide
  have e3 := pow4 52 p K 32 (p - 1054) (by omega)
  rw [← e1, ← e2] at e3
  exact e3
theorem lead_mod (K p m : Nat) (hK : K = 1074) (h : 1054 ≤ p) : m * 2 ^ p / 2 ^ K % 4294967296 = (4503599627370496 * 2 ^ p + m * 2 ^ p) / 2 ^ K % 4294967296 := by
  rw [lead K p hK h]
  exact tmod (2 ^ K) (m * 2 ^ p) (2 ^ (p - 1054)) (Nat.pow_pos (by decide))
/-- One round of Mod by 2^32: the leading bit falls. -/
theorem sub_step (r : Nat) (h : 4751297606875873280 ≤ r) (hr : r < 9218868437227405312) : ∃ z, Ieee.double.sub r (r / 4503599627370496 * 4503599627370496) = some z ∧ z < r ∧ T z % 4294967296 = T r % 4294967296 := by
  obtain ⟨E, hE⟩ : ∃ E, E = r / 4503599627370496 := ⟨_, rfl⟩
  obtain ⟨m, hm⟩ : ∃ m, m = r % 4503599627370496 := ⟨_, rfl⟩
  have hrE : r = E * 4503599627370496 + m := by omega
  have hml : m < 4503599627370496 := by omega
  have hEl : 1055 ≤ E := by omega
  have hEh : E ≤ 2046 := by omega
  rw [← hE]
  have s1 : sh (E * 4503599627370496) = E - 1 := by
    unfold sh
    rw [if_neg (by omega)]
    omega
  have s2 : mag (E * 4503599627370496) = 4503599627370496 := by
    unfold mag
    rw [if_neg (by omega)]
    omega
  have s3 : sh r = E - 1 := by
    unfold sh
    rw [if_neg (by omega)]
    omega
  have s4 : mag r = 4503599627370496 + m := by
    unfold mag
    rw [if_neg (by omega)]
    omega
  have v1 : V (E * 4503599627370496) = 4503599627370496 * 2 ^ (E - 1) := by unfold V; rw [s1, s2]
  have v2 : V r = 4503599627370496 * 2 ^ (E - 1) + m * 2 ^ (E - 1) := by unfold V; rw [s3, s4, Nat.add_mul]
  have hle : V (E * 4503599627370496) ≤ V r := by rw [v1, v2]; exact Nat.le_add_right _ _
  have hd : V r - V (E * 4503599627370496) = m * 2 ^ (E - 1) := by rw [v1, v2, Nat.add_sub_cancel_left]
  have hfin := V_fin hr
  obtain ⟨z, h1, h2, h3⟩ := sub_exact r (E * 4503599627370496) m (E - 1) hr (by omega) hle hd (by omega) hfin
  rw [hd] at h3
  refine ⟨z, h1, ?_, ?_⟩
  · refine V_lt_iff.1 ?_
    rw [h3, v2]
    exact Nat.lt_add_of_pos_left (Nat.mul_pos (by decide) (Nat.pow_pos (by decide)))
  · rw [T_eq, T_eq]
    unfold TK
    rw [h3, v2]
    exact lead_mod 1074 (E - 1) m rfl (by omega)
end Go.Proofs.Ytgielgodjmibpaa
