/- The spec's own ToUint32 and the law, walked. -/
import Derived.Test.YtgielgodjmibpaaExtI
import Derived.Test.YtgielgodjmibpaaExtN
import Derived.Test.YtgielgodjmibpaaWMore
import Derived.Laws.FloatArith
import Derived.Laws.Cover2
import Derived.Laws.Cover3
import Derived.Lib.Hide
import Derived.Test.YtgielgodjmibpaaProg
import Derived.WalkKit
import Derived.KernelRfl
import Derived.RegionTactic
import Derived.BigRegion
import Derived.BigQuiet
import Derived.LoopTactic
import Derived.Outline
import Derived.OwnWalk
import Derived.Deep.RegionLaw
set_option linter.unusedVariables false
namespace Go.Proofs.Ytgielgodjmibpaa
open Go Go.RowKit Go.Proofs.YtgielgodjmibpaaW.PrintWords
theorem exp_bits (s : Bool) (r Q : Nat) (hr : r < 9223372036854775808) (hQ : Q = r / 4503599627370496) : Go.bits .and .u64 (((wd s r : Nat) : Int) / 4503599627370496) 2047 = (Q : Int) := by
  have hw := wd_lt s r hr
  have := bits_mask .u64 64 (by decide) wraps_u64 11 (by decide) (((wd s r : Nat) : Int) / 4503599627370496) (by omega) (by omega)
  have e : ((2 : Int) ^ 11 - 1) = 2047 := by decide
  rw [e] at this
  rw [this]
  have e2 : ((2 : Int) ^ 11) = 2048 := by decide
  rw [e2]
  have h2 : wd s r / 4503599627370496 % 2048 = Q := by
    unfold wd
    cases s
    · simp only [Bool.false_eq_true, if_false]; omega
    · simp only [if_true]; omega
  omega
theorem low_bits (s : Bool) (r : Nat) (hr : r < 9223372036854775808) : Go.bits .and .u64 ((wd s r : Nat) : Int) 4503599627370495 = ((r % 4503599627370496 : Nat) : Int) := by
  have hw := wd_lt s r hr
  have := bits_mask .u64 64 (by decide) wraps_u64 52 (by decide) ((wd s r : Nat) : Int) (by omega) (by omega)
  have e : ((2 : Int) ^ 52 - 1) = 4503599627370495 := by decide
  rw [e] at this
  rw [this]
  have e2 : ((2 : Int) ^ 52) = 4503599627370496 := by decide
  rw [e2]
  have h2 : wd s r % 4503599627370496 = r % 4503599627370496 := by
    unfold wd
    cases s
    · simp only [Bool.false_eq_true, if_false]
    · simp only [if_true]; omega
  omega
theorem hid_bit (m : Nat) (hm : m < 4503599627370496) : Go.bits .or .u64 (m : Int) 4503599627370496 = ((4503599627370496 + m : Nat) : Int) := by
  have hc : ∀ a b : Int, Go.bits .or .u64 a b = Go.bits .or .u64 b a := fun a b => by
    unfold Go.bits
    simp only [BitVec.or_comm]
  rw [hc, bits_join .u64 64 (by decide) wraps_u64 52 4503599627370496 (m : Int) (by decide) (by decide) (by decide) (by omega) (by
    have e2 : ((2 : Int) ^ 52) = 4503599627370496 := by decide
    rw [e2]; omega) (by omega)]
  omega
theorem top_bit (s : Bool) (r : Nat) (hr : r < 9223372036854775808) : (((wd s r : Nat) : Int) / 9223372036854775808 == 1) = s := by
  unfold wd
  cases s
  · simp only [Bool.false_eq_true, if_false]
    exact beq_eq_false_iff_ne.mpr (by omega)
  · simp only [if_true]
    exact beq_iff_eq.mpr (by omega)
set_option maxHeartbeats 4000000 in
set_option maxRecDepth 100000 in
theorem numFinite.calls (s : Bool) (r : Nat) (w : World) (hr : r < 9223372036854775808) : Calls Try.prog 7 #[.float .f64 (wd s r)] w fun e w' => e = .returned (.bool (decide (r < 9218868437227405312))) ∧ w' = w := by
  obtain ⟨Q, hQ⟩ : ∃ Q, Q = r / 4503599627370496 := ⟨_, rfl⟩
  have q1 := exp_bits s r Q hr hQ
  have b1 := bits_run
  have e2 : ((Q : Int) != 2047) = decide (r < 9218868437227405312) := by
    by_cases h : r < 9218868437227405312
    · rw [decide_eq_true h]
      exact bne_iff_ne.mpr (by omega)
    · rw [decide_eq_false h]
      exact bne_eq_false_iff_eq.mpr (by omega)
  generalize decide (r < 9218868437227405312) = b at *
  generalize wd s r = x at *
  clear hr hQ
  go_enter Try.func7, Try.ntmps7
  go_wp2
  go_ret
  exact ⟨rfl, rfl⟩
set_option maxHeartbeats 4000000 in
set_option maxRecDepth 100000 in
theorem numParts.calls (s : Bool) (r : Nat) (w : World) (hr : r < 9218868437227405312) : Calls Try.prog 8 #[.float .f64 (wd s r)] w fun e w' => e = .returned (.tuple #[.bool s, .int .u64 (mag r : Int), .int .i64 ((sh r : Int) - 1074)]) ∧ w' = w := by
  obtain ⟨Q, hQ⟩ : ∃ Q, Q = r / 4503599627370496 := ⟨_, rfl⟩
  obtain ⟨m, hm⟩ : ∃ m, m = r % 4503599627370496 := ⟨_, rfl⟩
  have hQ2 : Q ≤ 2046 := by omega
  have q1 := exp_bits s r Q (by omega) hQ
  have q2 := low_bits s r (by omega)
  rw [← hm] at q2
  have q3 := hid_bit m (by omega)
  have q4 := top_bit s r (by omega)
  have b1 := bits_run
  by_cases h0 : Q = 0
  · have e1 : mag r = m := by unfold mag; rw [if_pos (by omega)]; omega
    have e2 : sh r = 0 := by unfold sh; rw [if_pos (by omega)]
    rw [e1, e2]
    subst h0
    generalize wd s r = x at *
    clear hr hQ hm e1 e2
    go_enter Try.func8, Try.ntmps8
    go_wp2
    exact bodyPost_ret (results_tmp3 rfl _ _ _) rfl ⟨rfl, rfl⟩
  · have e1 : mag r = 4503599627370496 + m := by unfold mag; rw [if_neg (by omega)]; omega
    have e2 : sh r = Q - 1 := by unfold sh; rw [if_neg (by omega)]; omega
    rw [e1, e2]
    have e3 : (((Q - 1 : Nat) : Int) - 1074) = (Q : Int) - 1075 := by omega
    rw [e3]
    have z1 : ((Q : Int) == 0) = false := beq_eq_false_iff_ne.mpr (by omega)
    generalize wd s r = x at *
    clear hr hQ hm e1 e2 e3 h0
    go_enter Try.func8, Try.ntmps8
    go_wp2
    exact bodyPost_ret (results_tmp3 rfl _ _ _) rfl ⟨rfl, rfl⟩
theorem mag_lt (r : Nat) : mag r < 9007199254740992 := by
  unfold mag
  by_cases h : r < 4503599627370496
  · rw [if_pos h]; omega
  · rw [if_neg h]; omega
theorem T_up (K r k : Nat) (hK : K = 1074) (h : sh r = K + k) : TK K r = mag r * 2 ^ k := by
  unfold TK V
  rw [h, Nat.pow_add, Nat.mul_comm (2 ^ K), ← Nat.mul_assoc, Nat.mul_div_cancel _ (Nat.pow_pos (by decide))]
theorem T_down (K r k : Nat) (hK : K = 1074) (h : sh r + k = K) : TK K r = mag r / 2 ^ k := by
  unfold TK V
  rw [← h, Nat.pow_add, ← Nat.div_div_eq_div_mul, Nat.mul_div_cancel _ (Nat.pow_pos (by decide))]
theorem pow32 (k : Nat) (h : 32 ≤ k) : ∃ c, 2 ^ k = 4294967296 * c := by
  refine ⟨2 ^ (k - 32), ?_⟩
  have e2 : (4294967296 : Nat) = 2 ^ 32 := by decide
  rw [e2, ← Nat.pow_add]
  congr 1
  omega
theorem pow64 (k : Nat) (h : 64 ≤ k) : 18446744073709551616 ≤ 2 ^ k := by
  have e2 : (18446744073709551616 : Nat) = 2 ^ 64 := by decide
  rw [e2]
  exact Nat.pow_le_pow_right (by decide) h
theorem T_zero (r : Nat) (h : 1106 ≤ sh r ∨ sh r ≤ 1010) : T r % 4294967296 = 0 := by
  rw [T_eq]
  rcases h with h | h
  · obtain ⟨k, hk⟩ : ∃ k, k = sh r - 1074 := ⟨_, rfl⟩
    obtain ⟨c, hc⟩ := pow32 k (by omega)
    rw [T_up 1074 r k rfl (by omega), hc, ← Nat.mul_assoc, Nat.mul_comm (mag r), Nat.mul_assoc, Nat.mul_mod_right]
  · obtain ⟨k, hk⟩ : ∃ k, k = 1074 - sh r := ⟨_, rfl⟩
    have h2 := pow64 k (by omega)
    have h3 := mag_lt r
    rw [T_down 1074 r k rfl (by omega), Nat.div_eq_of_lt (by omega)]
theorem specU_zero (s : Bool) (r : Nat) (h : T r % 4294967296 = 0) : specU s r = 0 := by
  unfold specU
  by_cases hf : r < 9218868437227405312
  · rw [if_pos hf]
    generalize T r = t at h
    cases s
    · simp only [Bool.false_eq_true, if_false]; omega
    · simp only [if_true]; omega
  · rw [if_neg hf]
theorem specU_pos (r : Nat) (hf : r < 9218868437227405312) : specU false r = (T r : Int) % 4294967296 := by
  unfold specU
  rw [if_pos hf]
  rfl
theorem specU_neg (r : Nat) (hf : r < 9218868437227405312) (X : Int) (h : X = (T r : Int) % 4294967296) : IntKind.u32.wrap (-X) = specU true r := by
  rw [wrap_u32, h]
  unfold specU
  rw [if_pos hf, if_pos rfl]
  omega
theorem wrap_64_32 (n : Int) : IntKind.u32.wrap (IntKind.u64.wrap n) = n % 4294967296 := by
  have : IntKind.u64.wrap n = n % 18446744073709551616 := by simp [IntKind.wrap, IntKind.bits, IntKind.signed]
  rw [wrap_u32, this]
  omega
theorem natPow (k : Nat) : ((2 ^ k : Nat) : Int) = (2 : Int) ^ k := by
  push_cast
  rfl
theorem specU_neg' (r : Nat) (hf : r < 9218868437227405312) : (-(T r : Int)) % 4294967296 = specU true r := by
  unfold specU
  rw [if_pos hf]
  rfl
theorem fp_shr (m k t : Nat) (h : t = m / 2 ^ k) : (m : Int) / 2 ^ k % 4294967296 = (t : Int) % 4294967296 := by
  rw [h, Int.natCast_ediv, natPow]
theorem fn_shr (m k t : Nat) (h : t = m / 2 ^ k) : -((m : Int) / 2 ^ k % 4294967296) % 4294967296 = (-(t : Int)) % 4294967296 := by
  rw [fp_shr m k t h]
  omega
theorem fp_shl (m k t : Nat) (h : t = m * 2 ^ k) : (m : Int) * 2 ^ k % 18446744073709551616 % 4294967296 = (t : Int) % 4294967296 := by
  rw [h, Int.natCast_mul, natPow]
  omega
theorem fn_shl (m k t : Nat) (h : t = m * 2 ^ k) : -((m : Int) * 2 ^ k % 18446744073709551616 % 4294967296) % 4294967296 = (-(t : Int)) % 4294967296 := by
  rw [fp_shl m k t h]
  omega
set_option maxHeartbeats 4000000 in
set_option maxRecDepth 100000 in
theorem NumUint32.calls (s : Bool) (r : Nat) (w : World) (hr : r < 9223372036854775808) : Calls Try.prog 5 #[.float .f64 (wd s r)] w fun e w' => e = .returned (.int .u32 (specU s r)) ∧ w' = w := by
  have HF := Lib.hid (numFinite.calls s r w hr)
  by_cases hf : r < 9218868437227405312
  · rw [decide_eq_true hf] at HF
    have HP := numParts.calls s r w hf
    by_cases hz : 1106 ≤ sh r ∨ sh r ≤ 1010
    · have HS := Lib.hid (specU_zero s r (T_zero r hz))
      obtain ⟨e, he⟩ : ∃ e : Int, e = (sh r : Int) - 1074 := ⟨_, rfl⟩
      have hz2 : 32 ≤ e ∨ e ≤ -64 := by omega
      rw [← he] at HP
      have HP := Lib.hid HP
      generalize specU s r = u at *
      generalize wd s r = x at *
      generalize mag r = m at *
      clear hr hf hz he
      rcases hz2 with hz2 | hz2
      · cases s
        · go_enter Try.func5, Try.ntmps5
          go_wp2_with (first | (go_at_call 7; (with_reducible refine HF.out.mono ?_); rintro e w2 ⟨rfl, rfl⟩) | (go_at_call 8; (with_reducible refine HP.out.mono ?_); rintro e w2 ⟨rfl, rfl⟩))
          go_ret
          rw [HS.out]
          exact ⟨rfl, rfl⟩
        · go_enter Try.func5, Try.ntmps5
          go_wp2_with (first | (go_at_call 7; (with_reducible refine HF.out.mono ?_); rintro e w2 ⟨rfl, rfl⟩) | (go_at_call 8; (with_reducible refine HP.out.mono ?_); rintro e w2 ⟨rfl, rfl⟩))
          go_ret
          rw [HS.out]
          exact ⟨rfl, rfl⟩
      · cases s
        · go_enter Try.func5, Try.ntmps5
          go_wp2_with (first | (go_at_call 7; (with_reducible refine HF.out.mono ?_); rintro e w2 ⟨rfl, rfl⟩) | (go_at_call 8; (with_reducible refine HP.out.mono ?_); rintro e w2 ⟨rfl, rfl⟩))
          go_ret
          rw [HS.out]
          exact ⟨rfl, rfl⟩
        · go_enter Try.func5, Try.ntmps5
          go_wp2_with (first | (go_at_call 7; (with_reducible refine HF.out.mono ?_); rintro e w2 ⟨rfl, rfl⟩) | (go_at_call 8; (with_reducible refine HP.out.mono ?_); rintro e w2 ⟨rfl, rfl⟩))
          go_ret
          rw [HS.out]
          exact ⟨rfl, rfl⟩
    · rcases Nat.lt_or_ge (sh r) 1074 with hs | hs
      · obtain ⟨k, hk⟩ : ∃ k, k = 1074 - sh r := ⟨_, rfl⟩
        have e0 : (sh r : Int) - 1074 = -(k : Int) := by omega
        have hk2 : k < 64 := by omega
        have hk3 : 0 < k := by omega
        rw [e0] at HP
        have HP := Lib.hid HP
        have ht := T_down 1074 r k rfl (by omega)
        rw [← T_eq] at ht
        have hp := Lib.hid (fp_shr (mag r) k (T r) ht)
        have hn := Lib.hid (fn_shr (mag r) k (T r) ht)
        rw [← specU_pos r hf] at hp
        rw [specU_neg' r hf] at hn
        have wu : IntKind.u64.wrap (k : Int) = (k : Int) := wraps_u64 _ (by omega) (by omega)
        have ww : wrap64 (k : Int) = (k : Int) := by unfold wrap64; omega
        clear ht hk e0
        cases s
        · generalize wd false r = x at *
          generalize mag r = m at *
          generalize specU false r = u at *
          clear hr hf hz hn
          go_enter Try.func5, Try.ntmps5
          go_wp2_with (first | (go_at_call 7; (with_reducible refine HF.out.mono ?_); rintro e w2 ⟨rfl, rfl⟩) | (go_at_call 8; (with_reducible refine HP.out.mono ?_); rintro e w2 ⟨rfl, rfl⟩))
          go_ret
          exact ⟨congrArg (fun n => Ending.returned (Value.int IntKind.u32 n)) hp.out, rfl⟩
        · generalize wd true r = x at *
          generalize mag r = m at *
          generalize specU true r = u at *
          clear hr hf hz hp
          go_enter Try.func5, Try.ntmps5
          go_wp2_with (first | (go_at_call 7; (with_reducible refine HF.out.mono ?_); rintro e w2 ⟨rfl, rfl⟩) | (go_at_call 8; (with_reducible refine HP.out.mono ?_); rintro e w2 ⟨rfl, rfl⟩))
          go_ret
          exact ⟨congrArg (fun n => Ending.returned (Value.int IntKind.u32 n)) hn.out, rfl⟩
      · obtain ⟨k, hk⟩ : ∃ k, k = sh r - 1074 := ⟨_, rfl⟩
        have e0 : (sh r : Int) - 1074 = (k : Int) := by omega
        have hk2 : k < 32 := by omega
        rw [e0] at HP
        have HP := Lib.hid HP
        have ht := T_up 1074 r k rfl (by omega)
        rw [← T_eq] at ht
        have hp := Lib.hid (fp_shl (mag r) k (T r) ht)
        have hn := Lib.hid (fn_shl (mag r) k (T r) ht)
        rw [← specU_pos r hf] at hp
        rw [specU_neg' r hf] at hn
        have wu : IntKind.u64.wrap (k : Int) = (k : Int) := wraps_u64 _ (by omega) (by omega)
        have ww : wrap64 (k : Int) = (k : Int) := by unfold wrap64; omega
        clear ht hk e0
        cases s
        · generalize wd false r = x at *
          generalize mag r = m at *
          generalize specU false r = u at *
          clear hr hf hz hn
          go_enter Try.func5, Try.ntmps5
          go_wp2_with (first | (go_at_call 7; (with_reducible refine HF.out.mono ?_); rintro e w2 ⟨rfl, rfl⟩) | (go_at_call 8; (with_reducible refine HP.out.mono ?_); rintro e w2 ⟨rfl, rfl⟩))
          go_ret
          exact ⟨congrArg (fun n => Ending.returned (Value.int IntKind.u32 n)) hp.out, rfl⟩
        · generalize wd true r = x at *
          generalize mag r = m at *
          generalize specU true r = u at *
          clear hr hf hz hp
          go_enter Try.func5, Try.ntmps5
          go_wp2_with (first | (go_at_call 7; (with_reducible refine HF.out.mono ?_); rintro e w2 ⟨rfl, rfl⟩) | (go_at_call 8; (with_reducible refine HP.out.mono ?_); rintro e w2 ⟨rfl, rfl⟩))
          go_ret
          exact ⟨congrArg (fun n => Ending.returned (Value.int IntKind.u32 n)) hn.out, rfl⟩
  · rw [decide_eq_false hf] at HF
    have HS := Lib.hid (show specU s r = 0 by unfold specU; rw [if_neg (by omega)])
    generalize specU s r = u at *
    generalize wd s r = x at *
    clear hr hf
    go_enter Try.func5, Try.ntmps5
    go_wp2_with (first | (go_at_call 7; (with_reducible refine HF.out.mono ?_); rintro e w2 ⟨rfl, rfl⟩))
    go_ret
    rw [HS.out]
    exact ⟨rfl, rfl⟩
theorem T_one (K : Nat) (hK : K = 1074) : TK K 4607182418800017408 = 1 := by
  obtain ⟨p, hp⟩ : ∃ p, p = 1022 := ⟨_, rfl⟩
  unfold TK V
  have e1 : sh 4607182418800017408 = 1022 := by decide
  have e2 : mag 4607182418800017408 = 4503599627370496 := by decide
  have e3 : (4503599627370496 : Nat) = 2 ^ 52 := by decide
  rw [e1, e2, ← hp, e3, ← Nat.pow_add]
  have e4 : 52 + p = K := by omega
  rw [e4]
  exact Nat.div_self (Nat.pow_pos (by decide))
theorem minus_one : specU true 4607182418800017408 = 4294967295 := by
  unfold specU
  rw [if_pos (by decide), if_pos rfl, T_eq, T_one 1074 rfl]
  rfl
set_option maxHeartbeats 4000000 in
set_option maxRecDepth 100000 in
theorem Law.calls (x : Nat) (w : World) (hx : x < 18446744073709551616) : Calls Try.prog 3 #[.float .f64 x] w fun e w' => e = .returned (.bool true) ∧ Bel w w' := by
  obtain ⟨s, r, hr, rfl⟩ := wd_of x hx
  have HA := Lib.hid (fun u => impl.calls s r u hr)
  have HS := Lib.hid (fun u => NumUint32.calls s r u hr)
  have HM := Lib.hid (fun u => impl.calls true 4607182418800017408 u (by decide))
  rw [minus_one] at HM
  have e1 : wd true 4607182418800017408 = 13830554455654793216 := by decide
  rw [e1] at HM
  generalize specU s r = u at *
  generalize wd s r = x at *
  clear hx hr e1
  go_enter Try.func3, Try.ntmps3
  go_wp2_with (first | (go_at_call 4; first | ((with_reducible refine (HA.out _).mono ?_); rintro e w2 ⟨rfl, hb⟩; have HB := Lib.hid hb; clear hb) | ((with_reducible refine (HM.out _).mono ?_); rintro e w3 ⟨rfl, hb⟩; have HB2 := Lib.hid hb; clear hb)) | (go_at_call 5; (with_reducible refine (HS.out _).mono ?_); rintro e w2 ⟨rfl, rfl⟩))
  go_ret
  exact ⟨rfl, HB.out.trans HB2.out⟩
end Go.Proofs.Ytgielgodjmibpaa
