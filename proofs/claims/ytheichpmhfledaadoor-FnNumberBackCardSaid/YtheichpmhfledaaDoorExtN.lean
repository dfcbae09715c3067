/- Rounding where nothing is lost; differences; the whole part. Plain facts over the IEEE library. -/
import Derived.Test.YtheichpmhfledaaDoorExtV
set_option linter.unusedVariables false
namespace Go.Proofs.YtheichpmhfledaaDoor
open Ieee
theorem cut_zero_drop (way : Bool) (neg : Bool) (n : Nat) : Toward.even.cut neg n 0 = n := by
  unfold Toward.cut
  simp [Nat.mod_one]
theorem cut_exact (neg : Bool) (q d : Nat) (hq : 0 < q) (hd : d ≤ (q * 2 ^ d).log2 + 2) : Toward.even.cut neg (q * 2 ^ d) d = q := by
  unfold Toward.cut
  rw [Nat.min_eq_left hd, Nat.one_shiftLeft]
  have hp : 0 < 2 ^ d := Nat.pow_pos (by decide)
  simp only [Nat.mul_div_cancel _ hp, Nat.mul_mod_left]
  have h1 : ¬ 2 ^ d < 2 * 0 := by omega
  have h2 : (2 ^ d == 2 * 0) = false := by simp
  simp [h2]
theorem log2_mul_pow (n p : Nat) (hn : 0 < n) : (n * 2 ^ p).log2 = n.log2 + p := by
  induction p with
  | zero => simp
  | succ p ih =>
    rw [Nat.pow_succ, ← Nat.mul_assoc, Nat.mul_comm (n * 2 ^ p) 2, Nat.log2_two_mul (by
      have : 0 < n * 2 ^ p := Nat.mul_pos hn (Nat.pow_pos (by decide))
      omega), ih]
    omega
theorem log2_le52 {n : Nat} (hn : n < 9007199254740992) (h0 : 0 < n) : n.log2 ≤ 52 := by
  have : n.log2 < 53 := (Nat.log2_lt (by omega)).2 (by have : (2 : Nat) ^ 53 = 9007199254740992 := by decide +kernel
                                                       omega)
  omega
theorem V_word (l0 q : Nat) (hq53 : q < 9007199254740992) (h : 4503599627370496 ≤ q ∨ l0 = 0) : V (l0 * 4503599627370496 + q) = q * 2 ^ l0 := by
  by_cases hs : q < 4503599627370496
  · have h2 : l0 = 0 := by omega
    subst h2
    unfold V mag sh
    rw [Nat.zero_mul, Nat.zero_add, if_pos hs, if_pos hs]
  · unfold V mag sh
    have e6 : (l0 * 4503599627370496 + q) / 4503599627370496 = l0 + 1 := by omega
    have e7 : (l0 * 4503599627370496 + q) % 4503599627370496 = q - 4503599627370496 := by omega
    have e8 : 4503599627370496 + (q - 4503599627370496) = q := by omega
    have e9 : ¬ l0 * 4503599627370496 + q < 4503599627370496 := by omega
    rw [if_neg e9, if_neg e9, e6, e7, Nat.add_sub_cancel, e8]
theorem V_inf : 2 ^ 2098 ≤ V 9218868437227405312 := by
  have h2 := V_ge 9218868437227405312 (by decide)
  have e9 : 52 + (9218868437227405312 / 4503599627370496 - 1) = 2098 := by decide
  rw [e9] at h2
  exact h2
theorem fin_of {z : Nat} (h : V z < 2 ^ 2098) : z < 9218868437227405312 := V_lt_iff.1 (Nat.lt_of_lt_of_le h V_inf)
theorem kept_exact (s : Bool) (m k l0 q L : Nat) (hL : m.log2 = L) (hl0 : l0 ≤ k + L + 2) (hq0 : 0 < q) (he : m * 2 ^ k = q * 2 ^ l0) : Toward.even.cut s (m * 2 ^ (k - l0)) (l0 - k) = q := by
  rcases Nat.lt_or_ge k l0 with h1 | h1
  · have e4 : k - l0 = 0 := by omega
    rw [e4, Nat.pow_zero, Nat.mul_one]
    have e5 : m = q * 2 ^ (l0 - k) := by
      have : m * 2 ^ k = q * 2 ^ (l0 - k) * 2 ^ k := by rw [he, Nat.mul_assoc, pow_split _ _ (by omega)]
      exact Nat.eq_of_mul_eq_mul_right (Nat.pow_pos (by decide)) this
    rw [e5]
    refine cut_exact s q (l0 - k) hq0 ?_
    rw [← e5, hL]
    omega
  · have e4 : l0 - k = 0 := by omega
    rw [e4, cut_zero_drop false]
    have : m * 2 ^ (k - l0) * 2 ^ l0 = q * 2 ^ l0 := by rw [Nat.mul_assoc, pow_split _ _ h1, he]
    exact Nat.eq_of_mul_eq_mul_right (Nat.pow_pos (by decide)) this
theorem nearest_form (s : Bool) (m k L l0 : Nat) (hm : 0 < m) (hL : m.log2 = L) (hl0 : l0 = k + L - 52) :
    double.nearest s m ((k : Int) - 1074) = double.word s (min (l0 * 4503599627370496 + Toward.even.cut s (m * 2 ^ (k - l0)) (l0 - k)) 9218868437227405312) := by
  unfold Format.nearest
  rw [if_neg (by omega)]
  have hfb : (double.fractionBits : Int) = 52 := rfl
  simp only [least_eq, hfb, hL]
  have e0 : max ((k : Int) - 1074 + (L : Int) - 52) (-1074) = (l0 : Int) - 1074 := by omega
  rw [e0]
  have e1 : ((k : Int) - 1074 - ((l0 : Int) - 1074)).toNat = k - l0 := by omega
  have e2 : ((l0 : Int) - 1074 - ((k : Int) - 1074)).toNat = l0 - k := by omega
  have e3 : ((l0 : Int) - 1074 - (-1074)).toNat = l0 := by omega
  rw [e1, e2, e3, Nat.shiftLeft_eq, binade_eq, inf_eq]
theorem word_eq (s : Bool) (z : Nat) : double.word s z = (if s then z + 9223372036854775808 else z) := by
  unfold Format.word
  rw [sgn_eq]
  cases s
  · simp only [Bool.false_eq_true, if_false]
  · simp only [if_true]
    rw [Nat.add_comm]
theorem lt_53 {q : Nat} (h0 : 0 < q) (h : q.log2 ≤ 52) : q < 9007199254740992 := by
  have h2 := (Nat.log2_lt (show q ≠ 0 by omega)).1 (show q.log2 < 53 by omega)
  have : (2 : Nat) ^ 53 = 9007199254740992 := by decide +kernel
  omega
/-- Of a number that the format has, the word. -/
theorem nearest_exact (s : Bool) (m k n p : Nat) (hm : 0 < m) (he : m * 2 ^ k = n * 2 ^ p) (hn : n < 9007199254740992) (hfin : n * 2 ^ p < 2 ^ 2098) :
    ∃ z, double.nearest s m ((k : Int) - 1074) = (if s then z + 9223372036854775808 else z) ∧ z < 9218868437227405312 ∧ V z = n * 2 ^ p := by
  have hn0 : 0 < n := by
    rcases Nat.eq_zero_or_pos n with h | h
    · rw [h, Nat.zero_mul] at he
      have : 0 < m * 2 ^ k := Nat.mul_pos hm (Nat.pow_pos (by decide))
      omega
    · exact h
  have ht : m.log2 + k = n.log2 + p := by rw [← log2_mul_pow m k hm, ← log2_mul_pow n p hn0, he]
  have hl := log2_le52 hn hn0
  obtain ⟨L, hL⟩ : ∃ L, m.log2 = L := ⟨_, rfl⟩
  obtain ⟨l0, hl0⟩ : ∃ l0 : Nat, l0 = k + L - 52 := ⟨_, rfl⟩
  rw [hL] at ht
  have hlp : l0 ≤ p := by omega
  obtain ⟨q, hq⟩ : ∃ q, q = n * 2 ^ (p - l0) := ⟨_, rfl⟩
  have hqv : q * 2 ^ l0 = n * 2 ^ p := by rw [hq, Nat.mul_assoc, pow_split _ _ hlp]
  have hq0 : 0 < q := by rw [hq]; exact Nat.mul_pos hn0 (Nat.pow_pos (by decide))
  have hql : q.log2 + l0 = L + k := by rw [← log2_mul_pow q l0 hq0, hqv, log2_mul_pow n p hn0]; omega
  have hq53 : q < 9007199254740992 := lt_53 hq0 (by omega)
  have hor : 4503599627370496 ≤ q ∨ l0 = 0 := by
    rcases Nat.lt_or_ge q 4503599627370496 with hs | hs
    · have h1 : q.log2 < 52 := (Nat.log2_lt (show q ≠ 0 by omega)).2 (by rw [pow52]; exact hs)
      right
      omega
    · exact Or.inl hs
  have hV := V_word l0 q hq53 hor
  have hfin2 : l0 * 4503599627370496 + q < 9218868437227405312 := fin_of (by rw [hV, hqv]; exact hfin)
  refine ⟨l0 * 4503599627370496 + q, ?_, hfin2, by rw [hV, hqv]⟩
  rw [nearest_form s m k L l0 hm hL hl0, kept_exact s m k l0 q L hL (by omega) hq0 (by rw [he, hqv]), Nat.min_eq_left (Nat.le_of_lt hfin2), word_eq]
theorem nearest_zero (s : Bool) (p : Int) : double.nearest s 0 p = if s then 9223372036854775808 else 0 := by
  unfold Format.nearest Format.word
  rw [if_pos rfl, sgn_eq]
/-- A difference that the format has. -/
theorem sub_exact (x y n p : Nat) (hx : x < 9218868437227405312) (hy : y < 9218868437227405312) (hle : V y ≤ V x) (he : V x - V y = n * 2 ^ p) (hn : n < 9007199254740992) (hfin : V x < 2 ^ 2098) :
    ∃ z, double.sub x y = some z ∧ z < 9218868437227405312 ∧ V z = V x - V y := by
  unfold Format.sub
  rw [read_pos x hx, read_pos y hy]
  unfold Datum.opposite Datum.sum
  simp only [Option.map_some, Bool.not_false]
  have e1 : (((sh x : Int) - 1074) - min ((sh x : Int) - 1074) ((sh y : Int) - 1074)).toNat = sh x - min (sh x) (sh y) := by omega
  have e2 : (((sh y : Int) - 1074) - min ((sh x : Int) - 1074) ((sh y : Int) - 1074)).toNat = sh y - min (sh x) (sh y) := by omega
  have e3 : min ((sh x : Int) - 1074) ((sh y : Int) - 1074) = ((min (sh x) (sh y) : Nat) : Int) - 1074 := by omega
  rw [e1, e2, e3]
  simp only [signed_eq, Bool.false_eq_true, if_false, if_true]
  generalize hb : min (sh x) (sh y) = b
  have hbx : b ≤ sh x := by omega
  have hby : b ≤ sh y := by omega
  have ha : mag x * 2 ^ (sh x - b) * 2 ^ b = V x := by rw [Nat.mul_assoc, pow_split _ _ hbx]; rfl
  have hc : mag y * 2 ^ (sh y - b) * 2 ^ b = V y := by rw [Nat.mul_assoc, pow_split _ _ hby]; rfl
  generalize mag x * 2 ^ (sh x - b) = A at ha
  generalize mag y * 2 ^ (sh y - b) = C at hc
  have hAC : C ≤ A := by
    rw [← ha, ← hc] at hle
    exact Nat.le_of_mul_le_mul_right hle (Nat.pow_pos (by decide))
  obtain ⟨T, hT⟩ : ∃ T, T = A - C := ⟨_, rfl⟩
  have hTv : T * 2 ^ b = V x - V y := by rw [hT, Nat.sub_mul, ha, hc]
  have e4 : (A : Int) + -(C : Int) = (T : Int) := by omega
  rw [e4]
  by_cases h0 : T = 0
  · subst h0
    simp only [Int.natCast_zero, if_true, Int.natAbs_zero]
    refine ⟨0, ?_, by decide, by rw [V_zero, ← hTv, Nat.zero_mul]⟩
    unfold Format.write
    simp only [nearest_zero]
    rfl
  · have h1 : ¬ ((T : Int) = 0) := by omega
    have h2 : decide ((T : Int) < 0) = false := decide_eq_false (by omega)
    simp only [h1, if_false, h2, Int.natAbs_natCast]
    obtain ⟨z, hz, hz1, hz2⟩ := nearest_exact false T b n p (by omega) (by rw [hTv, he]) hn (by rw [← he]; omega)
    refine ⟨z, ?_, hz1, by rw [hz2, he]⟩
    unfold Format.write
    simp only
    rw [hz]
    rfl
/-- 1 * x. -/
theorem mul_one_exact (x : Nat) (hx : x < 9218868437227405312) (h52 : 52 ≤ sh x) (hn : mag x < 9007199254740992) (h0 : 0 < mag x) (hfin : V x < 2 ^ 2098) : double.mul 4607182418800017408 x = some x := by
  unfold Format.mul
  rw [read_pos x hx, read_pos 4607182418800017408 (by decide)]
  unfold Datum.product
  have hm : mag 4607182418800017408 = 4503599627370496 := by decide +kernel
  have hs : sh 4607182418800017408 = 1022 := by decide +kernel
  simp only [Option.map_some, hm, hs]
  have e1 : ((1022 : Nat) : Int) - 1074 + ((sh x : Int) - 1074) = ((sh x - 52 : Nat) : Int) - 1074 := by omega
  rw [e1]
  have he : 4503599627370496 * mag x * 2 ^ (sh x - 52) = mag x * 2 ^ sh x := by
    rw [Nat.mul_comm 4503599627370496, Nat.mul_assoc, ← pow52, ← Nat.pow_add]
    congr 2
    omega
  obtain ⟨z, hz, hz1, hz2⟩ := nearest_exact false (4503599627370496 * mag x) (sh x - 52) (mag x) (sh x) (Nat.mul_pos (by decide) h0) he hn hfin
  have : z = x := V_inj hz2
  subst this
  unfold Format.write
  simp only [Bool.xor_false]
  rw [hz]
  rfl
theorem cut_toward_zero (s : Bool) (n d : Nat) : Toward.zero.cut s n d = n / 2 ^ d := by
  unfold Toward.cut
  simp only [Nat.one_shiftLeft, Bool.toNat_false, Nat.add_zero]
  rcases Nat.lt_or_ge (n.log2 + 2) d with h | h
  · rw [Nat.min_eq_right (by omega)]
    have h1 : n < 2 ^ (n.log2 + 2) := by
      have := Nat.lt_log2_self (n := n)
      exact Nat.lt_of_lt_of_le this (Nat.pow_le_pow_right (by decide) (by omega))
    rw [Nat.div_eq_of_lt h1, Nat.div_eq_of_lt (Nat.lt_of_lt_of_le h1 (Nat.pow_le_pow_right (by decide) (by omega)))]
  · rw [Nat.min_eq_left h]
theorem whole_eq (m s K : Nat) : m * 2 ^ (s - K) / 2 ^ (K - s) = m * 2 ^ s / 2 ^ K := by
  rcases Nat.lt_or_ge s K with h | h
  · have e1 : s - K = 0 := by omega
    rw [e1, Nat.pow_zero, Nat.mul_one, ← pow_split K s (by omega), Nat.mul_comm (2 ^ (K - s)), ← Nat.div_div_eq_div_mul, Nat.mul_div_cancel _ (Nat.pow_pos (by decide))]
  · have e2 : K - s = 0 := by omega
    rw [e2, Nat.pow_zero, Nat.div_one, ← pow_split s K h, ← Nat.mul_assoc, Nat.mul_div_cancel _ (Nat.pow_pos (by decide))]
/-- The whole part of the value. -/
def T (x : Nat) : Nat := V x / 2 ^ 1074
theorem toInt_eq (s : Bool) (x : Nat) (hx : x < 9218868437227405312) : (double.read (if s then x + 9223372036854775808 else x)).toInt .zero = some (if s then -(T x : Int) else (T x : Int)) := by
  rw [read_eq s x hx]
  unfold Datum.toInt Datum.integral
  simp only [cut_toward_zero, signed_eq, Nat.pow_zero, Nat.mul_one, Nat.shiftLeft_eq]
  have e1 : ((sh x : Int) - 1074).toNat = sh x - 1074 := by omega
  have e2 : (-((sh x : Int) - 1074)).toNat = 1074 - sh x := by omega
  rw [e1, e2, whole_eq (mag x) (sh x) 1074]
  rfl
end Go.Proofs.YtheichpmhfledaaDoor
