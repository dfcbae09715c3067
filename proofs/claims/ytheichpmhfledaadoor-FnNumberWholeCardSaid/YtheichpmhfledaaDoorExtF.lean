/- Doubles that are finite: their values as whole numbers of the least one; comparing, rounding, subtracting. Plain facts over the IEEE library. Rounding where nothing is lost; differences; the whole part. Plain facts over the IEEE library. Package math's small functions at doubles, walked. -/
import Ieee.Arith
import Derived.Test.YtheichpmhfledaaDoorWMore
import Derived.Laws.FloatArith
import Derived.Laws.Cover2
import Derived.Laws.Cover3
import Derived.Lib.Hide
import Derived.Test.YtheichpmhfledaaDoorProg
import Derived.WalkKit
import Derived.KernelRfl
import Derived.RegionTactic
import Derived.BigRegion
import Derived.BigQuiet
import Derived.LoopTactic
import Derived.Outline
import Derived.OwnWalk
import Derived.Deep.RegionLaw
set_option linter.unusedVariables false
namespace Go.Proofs.YtheichpmhfledaaDoor
open Ieee
/-- The significand of a word without its sign; how many doublings of the least number; the value in units of the least number. -/
def mag (x : Nat) : Nat := if x < 4503599627370496 then x else 4503599627370496 + x % 4503599627370496
def sh (x : Nat) : Nat := if x < 4503599627370496 then 0 else x / 4503599627370496 - 1
def V (x : Nat) : Nat := mag x * 2 ^ sh x
theorem binade_eq : double.binade = 4503599627370496 := by decide +kernel
theorem inf_eq : double.infRung = 9218868437227405312 := by decide +kernel
theorem sgn_eq : double.signWeight = 9223372036854775808 := by decide +kernel
theorem least_eq : double.leastPlace = -1074 := by decide +kernel
theorem read_eq (s : Bool) (x : Nat) (h : x < 9218868437227405312) : double.read (if s then x + 9223372036854775808 else x) = .number s (mag x) ((sh x : Int) - 1074) := by
  have h1 : (if s then x + 9223372036854775808 else x) / 9223372036854775808 % 2 = if s then 1 else 0 := by cases s <;> simp <;> omega
  have h2 : (if s then x + 9223372036854775808 else x) % 9223372036854775808 = x := by cases s <;> simp <;> omega
  unfold Format.read
  simp only [binade_eq, inf_eq, sgn_eq, least_eq, h1, h2]
  unfold mag sh
  by_cases hx : x < 4503599627370496
  · simp only [hx, if_true]
    cases s <;> simp
  · simp only [hx, if_false, h, if_true]
    have : (-1074 : Int) + ((x / 4503599627370496 - 1 : Nat) : Int) = ((x / 4503599627370496 - 1 : Nat) : Int) - 1074 := by omega
    rw [this]
    cases s <;> simp
theorem read_pos (x : Nat) (h : x < 9218868437227405312) : double.read x = .number false (mag x) ((sh x : Int) - 1074) := read_eq false x h
theorem pow52 : (2 : Nat) ^ 52 = 4503599627370496 := by decide +kernel
theorem V_lt (x : Nat) : V x < 2 ^ (52 + x / 4503599627370496) := by
  unfold V mag sh
  by_cases hx : x < 4503599627370496
  · rw [if_pos hx, if_pos hx, Nat.div_eq_of_lt hx, Nat.add_zero, pow52]
    omega
  · rw [if_neg hx, if_neg hx]
    have hq : 1 ≤ x / 4503599627370496 := by omega
    generalize x / 4503599627370496 = q at hq
    have hr : x % 4503599627370496 < 4503599627370496 := Nat.mod_lt _ (by decide)
    have e : 2 ^ (52 + q) = (2 * 4503599627370496) * 2 ^ (q - 1) := by
      obtain ⟨k, rfl⟩ : ∃ k, q = k + 1 := ⟨q - 1, by omega⟩
      rw [Nat.add_sub_cancel, ← pow52, ← Nat.add_assoc, Nat.pow_succ, Nat.pow_add, Nat.mul_comm (2 ^ 52 * 2 ^ k) 2, Nat.mul_assoc]
    rw [e]
    exact Nat.mul_lt_mul_of_pos_right (by omega) (Nat.pow_pos (by decide))
theorem V_ge (x : Nat) (h : 1 ≤ x / 4503599627370496) : 2 ^ (52 + (x / 4503599627370496 - 1)) ≤ V x := by
  unfold V mag sh
  have hx : ¬ x < 4503599627370496 := by omega
  rw [if_neg hx, if_neg hx, Nat.pow_add, pow52]
  exact Nat.mul_le_mul_right _ (by omega)
theorem V_mono {x y : Nat} (h : x < y) : V x < V y := by
  have hd : x / 4503599627370496 ≤ y / 4503599627370496 := Nat.div_le_div_right (Nat.le_of_lt h)
  rcases Nat.lt_or_ge (x / 4503599627370496) (y / 4503599627370496) with h1 | h1
  · exact Nat.lt_of_lt_of_le (V_lt x) (Nat.le_trans (Nat.pow_le_pow_right (by decide) (by omega)) (V_ge y (by omega)))
  · have e : x / 4503599627370496 = y / 4503599627370496 := by omega
    have hs : sh x = sh y := by
      unfold sh
      by_cases hy : y < 4503599627370496
      · rw [if_pos hy, if_pos (by omega)]
      · rw [if_neg hy, if_neg (by omega), e]
    unfold V
    rw [hs]
    refine Nat.mul_lt_mul_of_pos_right ?_ (Nat.pow_pos (by decide))
    unfold mag
    by_cases hy : y < 4503599627370496
    · rw [if_pos hy, if_pos (by omega)]; exact h
    · rw [if_neg hy, if_neg (by omega)]
      omega
theorem V_le_iff {x y : Nat} : V x ≤ V y ↔ x ≤ y := by
  constructor
  · intro h
    rcases Nat.lt_or_ge y x with h1 | h1
    · have := V_mono h1; omega
    · exact h1
  · intro h
    rcases Nat.lt_or_ge x y with h1 | h1
    · exact Nat.le_of_lt (V_mono h1)
    · have : x = y := by omega
      rw [this]; exact Nat.le_refl _
theorem V_inj {x y : Nat} (h : V x = V y) : x = y := Nat.le_antisymm (V_le_iff.1 (Nat.le_of_eq h)) (V_le_iff.1 (Nat.le_of_eq h.symm))
theorem V_zero : V 0 = 0 := by unfold V mag; simp
theorem V_lt_iff {x y : Nat} : V x < V y ↔ x < y := by
  constructor
  · intro h
    rcases Nat.lt_or_ge x y with h1 | h1
    · exact h1
    · have := V_le_iff.2 h1; omega
  · exact V_mono
/-- The value with its sign. -/
def W (s : Bool) (x : Nat) : Int := if s then -(V x : Int) else (V x : Int)
theorem signed_eq (s : Bool) (m k : Nat) : signed s m k = (if s then -((m * 2 ^ k : Nat) : Int) else ((m * 2 ^ k : Nat) : Int)) := by
  unfold signed
  rw [Nat.shiftLeft_eq]
theorem pow_split (a b : Nat) (h : b ≤ a) : 2 ^ (a - b) * 2 ^ b = 2 ^ a := by rw [← Nat.pow_add, Nat.sub_add_cancel h]
theorem compare_scale (a b c : Int) (hc : 0 < c) : compare (a * c) (b * c) = compare a b := by
  have h1 : a * c < b * c ↔ a < b := ⟨fun h => Int.lt_of_mul_lt_mul_right h (Int.le_of_lt hc), fun h => Int.mul_lt_mul_of_pos_right h hc⟩
  have h2 : a * c = b * c ↔ a = b := ⟨fun h => Int.eq_of_mul_eq_mul_right (Int.ne_of_gt hc) h, fun h => by rw [h]⟩
  simp only [compare, compareOfLessAndEq, h1, h2]
theorem order_eq (s t : Bool) (x y : Nat) (hx : x < 9218868437227405312) (hy : y < 9218868437227405312) :
    double.order (if s then x + 9223372036854775808 else x) (if t then y + 9223372036854775808 else y) = some (compare (W s x) (W t y)) := by
  unfold Format.order
  rw [read_eq s x hx, read_eq t y hy]
  unfold Datum.order
  simp only [signed_eq]
  have key : ∀ (u : Bool) (z b : Nat), b ≤ sh z → (if u then -((mag z * 2 ^ (sh z - b) : Nat) : Int) else ((mag z * 2 ^ (sh z - b) : Nat) : Int)) * ((2 ^ b : Nat) : Int) = W u z := by
    intro u z b hb
    have e : mag z * 2 ^ (sh z - b) * 2 ^ b = V z := by rw [Nat.mul_assoc, pow_split _ _ hb]; rfl
    unfold W
    cases u
    · simp only [Bool.false_eq_true, if_false]
      rw [← Int.natCast_mul, e]
    · simp only [if_true]
      rw [Int.neg_mul, ← Int.natCast_mul, e]
  have e1 : (((sh x : Int) - 1074) - min ((sh x : Int) - 1074) ((sh y : Int) - 1074)).toNat = sh x - min (sh x) (sh y) := by omega
  have e2 : (((sh y : Int) - 1074) - min ((sh x : Int) - 1074) ((sh y : Int) - 1074)).toNat = sh y - min (sh x) (sh y) := by omega
  rw [e1, e2]
  congr 1
  rw [← compare_scale _ _ ((2 ^ min (sh x) (sh y) : Nat) : Int) (by have : 0 < 2 ^ min (sh x) (sh y) := Nat.pow_pos (by decide); omega)]
  rw [key s x _ (Nat.min_le_left ..), key t y _ (Nat.min_le_right ..)]
theorem order_pos (x y : Nat) (hx : x < 9218868437227405312) (hy : y < 9218868437227405312) : double.order x y = some (compare (V x : Int) (V y : Int)) := order_eq false false x y hx hy
end Go.Proofs.YtheichpmhfledaaDoor
set_option linter.unusedVariables false
namespace Go.Proofs.YtheichpmhfledaaDoor
open Ieee
theorem cut_zero_drop (way : Bool) (neg : Bool) (n : Nat) : Toward.even.cut neg n 0 = n := by
  unfold Toward.cut
  simp [Nat.mod_one]
theorem cut_exact (neg : Bool) (q d : Nat) (hq : 0 < q) (hd : d ≤ (q * 2 ^ d).log2 + 2) : Toward.even.cut neg (q * 2 ^ d) d = q := by
  unfold Toward.cut
  rw [Nat.min_eq_left hd, Nat.one_shiftLeft]
  have hp : 0 < 2 ^ d := Nat.pow_pos (by decide)
  simp only [Nat.mul_div_cancel _ hp, Nat.mul_mod_left]
  have h1 : ¬ 2 ^ d < 2 * 0 := by omega
  have h2 : (2 ^ d == 2 * 0) = false := by simp
  simp [h2]
theorem log2_mul_pow (n p : Nat) (hn : 0 < n) : (n * 2 ^ p).log2 = n.log2 + p := by
  induction p with
  | zero => simp
  | succ p ih =>
    rw [Nat.pow_succ, ← Nat.mul_assoc, Nat.mul_comm (n * 2 ^ p) 2, Nat.log2_two_mul (by
      have : 0 < n * 2 ^ p := Nat.mul_pos hn (Nat.pow_pos (by decide))
      omega), ih]
    omega
theorem log2_le52 {n : Nat} (hn : n < 9007199254740992) (h0 : 0 < n) : n.log2 ≤ 52 := by
  have : n.log2 < 53 := (Nat.log2_lt (by omega)).2 (by have : (2 : Nat) ^ 53 = 9007199254740992 := by decide +kernel
                                                       omega)
  omega
theorem V_word (l0 q : Nat) (hq53 : q < 9007199254740992) (h : 4503599627370496 ≤ q ∨ l0 = 0) : V (l0 * 4503599627370496 + q) = q * 2 ^ l0 := by
  by_cases hs : q < 4503599627370496
  · have h2 : l0 = 0 := by omega
    subst h2
    unfold V mag sh
    rw [Nat.zero_mul, Nat.zero_add, if_pos hs, if_pos hs]
  · unfold V mag sh
    have e6 : (l0 * 4503599627370496 + q) / 4503599627370496 = l0 + 1 := by omega
    have e7 : (l0 * 4503599627370496 + q) % 4503599627370496 = q - 4503599627370496 := by omega
    have e8 : 4503599627370496 + (q - 4503599627370496) = q := by omega
    have e9 : ¬ l0 * 4503599627370496 + q < 4503599627370496 := by omega
    rw [if_neg e9, if_neg e9, e6, e7, Nat.add_sub_cancel, e8]
theorem V_inf : 2 ^ 2098 ≤ V 9218868437227405312 := by
  have h2 := V_ge 9218868437227405312 (by decide)
  have e9 : 52 + (9218868437227405312 / 4503599627370496 - 1) = 2098 := by decide
  rw [e9] at h2
  exact h2
theorem fin_of {z : Nat} (h : V z < 2 ^ 2098) : z < 9218868437227405312 := V_lt_iff.1 (Nat.lt_of_lt_of_le h V_inf)
theorem kept_exact (s : Bool) (m k l0 q L : Nat) (hL : m.log2 = L) (hl0 : l0 ≤ k + L + 2) (hq0 : 0 < q) (he : m * 2 ^ k = q * 2 ^ l0) : Toward.even.cut s (m * 2 ^ (k - l0)) (l0 - k) = q := by
  rcases Nat.lt_or_ge k l0 with h1 | h1
  · have e4 : k - l0 = 0 := by omega
    rw [e4, Nat.pow_zero, Nat.mul_one]
    have e5 : m = q * 2 ^ (l0 - k) := by
      have : m * 2 ^ k = q * 2 ^ (l0 - k) * 2 ^ k := by rw [he, Nat.mul_assoc, pow_split _ _ (by omega)]
      exact Nat.eq_of_mul_eq_mul_right (Nat.pow_pos (by decide)) this
    rw [e5]
    refine cut_exact s q (l0 - k) hq0 ?_
    rw [← e5, hL]
    omega
  · have e4 : l0 - k = 0 := by omega
    rw [e4, cut_zero_drop false]
    have : m * 2 ^ (k - l0) * 2 ^ l0 = q * 2 ^ l0 := by rw [Nat.mul_assoc, pow_split _ _ h1, he]
    exact Nat.eq_of_mul_eq_mul_right (Nat.pow_pos (by decide)) this
theorem nearest_form (s : Bool) (m k L l0 : Nat) (hm : 0 < m) (hL : m.log2 = L) (hl0 : l0 = k + L - 52) :
    double.nearest s m ((k : Int) - 1074) = double.word s (min (l0 * 4503599627370496 + Toward.even.cut s (m * 2 ^ (k - l0)) (l0 - k)) 9218868437227405312) := by
  unfold Format.nearest
  rw [if_neg (by omega)]
  have hfb : (double.fractionBits : Int) = 52 := rfl
  simp only [least_eq, hfb, hL]
  have e0 : max ((k : Int) - 1074 + (L : Int) - 52) (-1074) = (l0 : Int) - 1074 := by omega
  rw [e0]
  have e1 : ((k : Int) - 1074 - ((l0 : Int) - 1074)).toNat = k - l0 := by omega
  have e2 : ((l0 : Int) - 1074 - ((k : Int) - 1074)).toNat = l0 - k := by omega
  have e3 : ((l0 : Int) - 1074 - (-1074)).toNat = l0 := by omega
  rw [e1, e2, e3, Nat.shiftLeft_eq, binade_eq, inf_eq]
theorem word_eq (s : Bool) (z : Nat) : double.word s z = (if s then z + 9223372036854775808 else z) := by
  unfold Format.word
  rw [sgn_eq]
  cases s
  · simp only [Bool.false_eq_true, if_false]
  · simp only [if_true]
    rw [Nat.add_comm]
theorem lt_53 {q : Nat} (h0 : 0 < q) (h : q.log2 ≤ 52) : q < 9007199254740992 := by
  have h2 := (Nat.log2_lt (show q ≠ 0 by omega)).1 (show q.log2 < 53 by omega)
  have : (2 : Nat) ^ 53 = 9007199254740992 := by decide +kernel
  omega
/-- Of a number that the format has, the word. -/
theorem nearest_exact (s : Bool) (m k n p : Nat) (hm : 0 < m) (he : m * 2 ^ k = n * 2 ^ p) (hn : n < 9007199254740992) (hfin : n * 2 ^ p < 2 ^ 2098) :
    ∃ z, double.nearest s m ((k : Int) - 1074) = (if s then z + 9223372036854775808 else z) ∧ z < 9218868437227405312 ∧ V z = n * 2 ^ p := by
  have hn0 : 0 < n := by
    rcases Nat.eq_zero_or_pos n with h | h
    · rw [h, Nat.zero_mul] at he
      have : 0 < m * 2 ^ k := Nat.mul_pos hm (Nat.pow_pos (by decide))
      omega
    · exact h
  have ht : m.log2 + k = n.log2 + p := by rw [← log2_mul_pow m k hm, ← log2_mul_pow n p hn0, he]
  have hl := log2_le52 hn hn0
  obtain ⟨L, hL⟩ : ∃ L, m.log2 = L := ⟨_, rfl⟩
  obtain ⟨l0, hl0⟩ : ∃ l0 : Nat, l0 = k + L - 52 := ⟨_, rfl⟩
  rw [hL] at ht
  have hlp : l0 ≤ p := by omega
  obtain ⟨q, hq⟩ : ∃ q, q = n * 2 ^ (p - l0) := ⟨_, rfl⟩
  have hqv : q * 2 ^ l0 = n * 2 ^ p := by rw [hq, Nat.mul_assoc, pow_split _ _ hlp]
  have hq0 : 0 < q := by rw [hq]; exact Nat.mul_pos hn0 (Nat.pow_pos (by decide))
  have hql : q.log2 + l0 = L + k := by rw [← log2_mul_pow q l0 hq0, hqv, log2_mul_pow n p hn0]; omega
  have hq53 : q < 9007199254740992 := lt_53 hq0 (by omega)
  have hor : 4503599627370496 ≤ q ∨ l0 = 0 := by
    rcases Nat.lt_or_ge q 4503599627370496 with hs | hs
    · have h1 : q.log2 < 52 := (Nat.log2_lt (show q ≠ 0 by omega)).2 (by rw [pow52]; exact hs)
      right
      omega
    · exact Or.inl hs
  have hV := V_word l0 q hq53 hor
  have hfin2 : l0 * 4503599627370496 + q < 9218868437227405312 := fin_of (by rw [hV, hqv]; exact hfin)
  refine ⟨l0 * 4503599627370496 + q, ?_, hfin2, by rw [hV, hqv]⟩
  rw [nearest_form s m k L l0 hm hL hl0, kept_exact s m k l0 q L hL (by omega) hq0 (by rw [he, hqv]), Nat.min_eq_left (Nat.le_of_lt hfin2), word_eq]
theorem nearest_zero (s : Bool) (p : Int) : double.nearest s 0 p = if s then 9223372036854775808 else 0 := by
  unfold Format.nearest Format.word
  rw [if_pos rfl, sgn_eq]
/-- A difference that the format has. -/
theorem sub_exact (x y n p : Nat) (hx : x < 9218868437227405312) (hy : y < 9218868437227405312) (hle : V y ≤ V x) (he : V x - V y = n * 2 ^ p) (hn : n < 9007199254740992) (hfin : V x < 2 ^ 2098) :
    ∃ z, double.sub x y = some z ∧ z < 9218868437227405312 ∧ V z = V x - V y := by
  unfold Format.sub
  rw [read_pos x hx, read_pos y hy]
  unfold Datum.opposite Datum.sum
  simp only [Option.map_some, Bool.not_false]
  have e1 : (((sh x : Int) - 1074) - min ((sh x : Int) - 1074) ((sh y : Int) - 1074)).toNat = sh x - min (sh x) (sh y) := by omega
  have e2 : (((sh y : Int) - 1074) - min ((sh x : Int) - 1074) ((sh y : Int) - 1074)).toNat = sh y - min (sh x) (sh y) := by omega
  have e3 : min ((sh x : Int) - 1074) ((sh y : Int) - 1074) = ((min (sh x) (sh y) : Nat) : Int) - 1074 := by omega
  rw [e1, e2, e3]
  simp only [signed_eq, Bool.false_eq_true, if_false, if_true]
  generalize hb : min (sh x) (sh y) = b
  have hbx : b ≤ sh x := by omega
  have hby : b ≤ sh y := by omega
  have ha : mag x * 2 ^ (sh x - b) * 2 ^ b = V x := by rw [Nat.mul_assoc, pow_split _ _ hbx]; rfl
  have hc : mag y * 2 ^ (sh y - b) * 2 ^ b = V y := by rw [Nat.mul_assoc, pow_split _ _ hby]; rfl
  generalize mag x * 2 ^ (sh x - b) = A at ha
  generalize mag y * 2 ^ (sh y - b) = C at hc
  have hAC : C ≤ A := by
    rw [← ha, ← hc] at hle
    exact Nat.le_of_mul_le_mul_right hle (Nat.pow_pos (by decide))
  obtain ⟨T, hT⟩ : ∃ T, T = A - C := ⟨_, rfl⟩
  have hTv : T * 2 ^ b = V x - V y := by rw [hT, Nat.sub_mul, ha, hc]
  have e4 : (A : Int) + -(C : Int) = (T : Int) := by omega
  rw [e4]
  by_cases h0 : T = 0
  · subst h0
    simp only [Int.natCast_zero, if_true, Int.natAbs_zero]
    refine ⟨0, ?_, by decide, by rw [V_zero, ← hTv, Nat.zero_mul]⟩
    unfold Format.write
    simp only [nearest_zero]
    rfl
  · have h1 : ¬ ((T : Int) = 0) := by omega
    have h2 : decide ((T : Int) < 0) = false := decide_eq_false (by omega)
    simp only [h1, if_false, h2, Int.natAbs_natCast]
    obtain ⟨z, hz, hz1, hz2⟩ := nearest_exact false T b n p (by omega) (by rw [hTv, he]) hn (by rw [← he]; omega)
    refine ⟨z, ?_, hz1, by rw [hz2, he]⟩
    unfold Format.write
    simp only
    rw [hz]
    rfl
/-- 1 * x. -/
theorem mul_one_exact (x : Nat) (hx : x < 9218868437227405312) (h52 : 52 ≤ sh x) (hn : mag x < 9007199254740992) (h0 : 0 < mag x) (hfin : V x < 2 ^ 2098) : double.mul 4607182418800017408 x = some x := by
  unfold Format.mul
  rw [read_pos x hx, read_pos 4607182418800017408 (by decide)]
  unfold Datum.product
  have hm : mag 4607182418800017408 = 4503599627370496 := by decide +kernel
  have hs : sh 4607182418800017408 = 1022 := by decide +kernel
  simp only [Option.map_some, hm, hs]
  have e1 : ((1022 : Nat) : Int) - 1074 + ((sh x : Int) - 1074) = ((sh x - 52 : Nat) : Int) - 1074 := by omega
  rw [e1]
  have he : 4503599627370496 * mag x * 2 ^ (sh x - 52) = mag x * 2 ^ sh x := by
    rw [Nat.mul_comm 4503599627370496, Nat.mul_assoc, ← pow52, ← Nat.pow_add]
    congr 2
    omega
  obtain ⟨z, hz, hz1, hz2⟩ := nearest_exact false (4503599627370496 * mag x) (sh x - 52) (mag x) (sh x) (Nat.mul_pos (by decide) h0) he hn hfin
  have : z = x := V_inj hz2
  subst this
  unfold Format.write
  simp only [Bool.xor_false]
  rw [hz]
  rfl
theorem cut_toward_zero (s : Bool) (n d : Nat) : Toward.zero.cut s n d = n / 2 ^ d := by
  unfold Toward.cut
  simp only [Nat.one_shiftLeft, Bool.toNat_false, Nat.add_zero]
  rcases Nat.lt_or_ge (n.log2 + 2) d with h | h
  · rw [Nat.min_eq_right (by omega)]
    have h1 : n < 2 ^ (n.log2 + 2) := by
      have := Nat.lt_log2_self (n := n)
      exact Nat.lt_of_lt_of_le this (Nat.pow_le_pow_right (by decide) (by omega))
    rw [Nat.div_eq_of_lt h1, Nat.div_eq_of_lt (Nat.lt_of_lt_of_le h1 (Nat.pow_le_pow_right (by decide) (by omega)))]
  · rw [Nat.min_eq_left h]
theorem whole_eq (m s K : Nat) : m * 2 ^ (s - K) / 2 ^ (K - s) = m * 2 ^ s / 2 ^ K := by
  rcases Nat.lt_or_ge s K with h | h
  · have e1 : s - K = 0 := by omega
    rw [e1, Nat.pow_zero, Nat.mul_one, ← pow_split K s (by omega), Nat.mul_comm (2 ^ (K - s)), ← Nat.div_div_eq_div_mul, Nat.mul_div_cancel _ (Nat.pow_pos (by decide))]
  · have e2 : K - s = 0 := by omega
    rw [e2, Nat.pow_zero, Nat.div_one, ← pow_split s K h, ← Nat.mul_assoc, Nat.mul_div_cancel _ (Nat.pow_pos (by decide))]
/-- The whole part of the value. -/
def T (x : Nat) : Nat := V x / 2 ^ 1074
theorem toInt_eq (s : Bool) (x : Nat) (hx : x < 9218868437227405312) : (double.read (if s then x + 9223372036854775808 else x)).toInt .zero = some (if s then -(T x : Int) else (T x : Int)) := by
  rw [read_eq s x hx]
  unfold Datum.toInt Datum.integral
  simp only [cut_toward_zero, signed_eq, Nat.pow_zero, Nat.mul_one, Nat.shiftLeft_eq]
  have e1 : ((sh x : Int) - 1074).toNat = sh x - 1074 := by omega
  have e2 : (-((sh x : Int) - 1074)).toNat = 1074 - sh x := by omega
  rw [e1, e2, whole_eq (mag x) (sh x) 1074]
  rfl
end Go.Proofs.YtheichpmhfledaaDoor
set_option linter.unusedVariables false
namespace Go.Proofs.YtheichpmhfledaaDoor
open Go Go.RowKit Go.Proofs.YtheichpmhfledaaDoorW.PrintWords
theorem bits_run (x : Nat) (w : World) : (callFunc 18 #[.float .f64 x]).run Tryd.prog w = .ok (.value (.int .u64 (x : Int))) w := by
  rw [run_callFunc_extern Tryd.func18 (by kernel_rfl) (by kernel_rfl) (by kernel_rfl) (e := Extern.MathFloatBits.float64bits) (by kernel_rfl)]
  rfl
theorem from_run (x : Int) (w : World) : (callFunc 33 #[.int .u64 x]).run Tryd.prog w = .ok (.value (.float .f64 x.toNat)) w := by
  rw [run_callFunc_extern Tryd.func33 (by kernel_rfl) (by kernel_rfl) (by kernel_rfl) (e := Extern.MathFloatBits.float64frombits) (by kernel_rfl)]
  rfl
theorem wraps_u64 (n : Int) (h₀ : 0 ≤ n) (h₁ : n < 2 ^ 64) : IntKind.u64.wrap n = n := by
  have : IntKind.u64.wrap n = n % 18446744073709551616 := by simp [IntKind.wrap, IntKind.bits, IntKind.signed]
  rw [this]
  omega
/-- What is left below a bit. -/
theorem andNot_low (x i m : Nat) (hx : x < 2 ^ 64) (hm : m < 2 ^ 64) (h : x &&& (2 ^ 64 - 1 - m) = x % 2 ^ i) : Go.bits .andNot .u64 (x : Int) (m : Int) = ((x % 2 ^ i : Nat) : Int) := by
  have h1 : (BitVec.ofInt 64 (x : Int) &&& ~~~(BitVec.ofInt 64 (m : Int))).toNat = x % 2 ^ i := by
    rw [BitVec.toNat_and, BitVec.toNat_not, BitVec.ofInt_natCast, BitVec.ofInt_natCast, BitVec.toNat_ofNat, BitVec.toNat_ofNat, Nat.mod_eq_of_lt hx, Nat.mod_eq_of_lt hm]
    exact h
  show IntKind.u64.wrap (((BitVec.ofInt 64 (x : Int) &&& ~~~(BitVec.ofInt 64 (m : Int))).toNat : Nat) : Int) = _
  rw [h1]
  refine wraps_u64 _ (by omega) ?_
  have : x % 2 ^ i ≤ x := Nat.mod_le _ _
  have e : ((2 : Int) ^ 64) = ((2 ^ 64 : Nat) : Int) := by decide
  rw [e]
  omega
theorem abs_bits (x : Nat) (hx : x < 18446744073709551616) : Go.bits .andNot .u64 (x : Int) 9223372036854775808 = ((x % 9223372036854775808 : Nat) : Int) := by
  refine andNot_low x 63 9223372036854775808 hx (by decide) ?_
  have e : 2 ^ 64 - 1 - 9223372036854775808 = 2 ^ 63 - 1 := by decide
  rw [e, Nat.and_two_pow_sub_one_eq_mod]
theorem frac_bits (x : Nat) (hx : x < 9223372036854775808) : Go.bits .andNot .u64 (x : Int) 9218868437227405312 = ((x % 4503599627370496 : Nat) : Int) := by
  refine andNot_low x 52 9218868437227405312 (by omega) (by decide) ?_
  have e : 2 ^ 64 - 1 - 9218868437227405312 = 2 ^ 63 + (2 ^ 52 - 1) := by decide
  rw [e]
  have e2 : 2 ^ 63 + (2 ^ 52 - 1) = 2 ^ 63 * 1 ||| (2 ^ 52 - 1) := by decide
  rw [e2, Nat.and_or_distrib_left, Nat.and_two_pow_sub_one_eq_mod]
  have e3 : x &&& 2 ^ 63 * 1 = 0 := by
    apply Nat.eq_of_testBit_eq
    intro j
    rw [Nat.testBit_and, Nat.mul_one, Nat.testBit_two_pow, Nat.zero_testBit]
    by_cases hj : 63 = j
    · subst hj
      rw [Nat.testBit_lt_two_pow (by omega)]
      rfl
    · simp [hj]
  rw [e3, Nat.zero_or]
/-- A word out of its sign and the rest. -/
def wd (s : Bool) (r : Nat) : Nat := if s then r + 9223372036854775808 else r
theorem wd_false (r : Nat) : wd false r = r := rfl
theorem wd_mod (s : Bool) (r : Nat) (hr : r < 9223372036854775808) : wd s r % 9223372036854775808 = r := by
  unfold wd
  cases s <;> simp <;> omega
theorem wd_lt (s : Bool) (r : Nat) (hr : r < 9223372036854775808) : wd s r < 18446744073709551616 := by
  unfold wd
  cases s <;> simp <;> omega
theorem wd_of (x : Nat) (hx : x < 18446744073709551616) : ∃ s r, r < 9223372036854775808 ∧ x = wd s r := by
  by_cases h : 9223372036854775808 ≤ x
  · exact ⟨true, x - 9223372036854775808, by omega, by unfold wd; simp; omega⟩
  · exact ⟨false, x, by omega, rfl⟩
open Ieee in
theorem read_big (s : Bool) (r : Nat) (hr : r < 9223372036854775808) (h : 9218868437227405312 ≤ r) : double.read (wd s r) = if r = 9218868437227405312 then .infinity s else .nan s (r - 9218868437227405312) := by
  have h1 : wd s r / 9223372036854775808 % 2 = if s then 1 else 0 := by unfold wd; cases s <;> simp <;> omega
  have h2 := wd_mod s r hr
  unfold Format.read
  simp only [binade_eq, inf_eq, sgn_eq, least_eq, h1, h2]
  rw [if_neg (by omega), if_neg (by omega)]
  have h3 : ((if s = true then 1 else 0) == 1) = s := by cases s <;> rfl
  rw [h3]
open Ieee in
theorem read_wd (s : Bool) (r : Nat) (h : r < 9218868437227405312) : double.read (wd s r) = .number s (mag r) ((sh r : Int) - 1074) := read_eq s r h
open Ieee in
theorem ord_nan (s : Bool) (r : Nat) (hr : r < 9223372036854775808) : (FloatKind.f64.format.order (wd s r) (wd s r) != some .eq) = decide (9218868437227405312 < r) := by
  show (double.order (wd s r) (wd s r) != some .eq) = _
  by_cases h : r < 9218868437227405312
  · have e : double.order (wd s r) (wd s r) = some (compare (W s r) (W s r)) := order_eq s s r r h h
    rw [e, decide_eq_false (by omega)]
    simp [compare, compareOfLessAndEq]
  · unfold Format.order
    rw [read_big s r hr (by omega)]
    by_cases h2 : r = 9218868437227405312
    · rw [if_pos h2, decide_eq_false (by omega)]
      unfold Datum.order
      simp [compare, compareOfLessAndEq]
    · rw [if_neg h2, decide_eq_true (by omega)]
      unfold Datum.order
      rfl
open Ieee in
theorem ord_inf (r : Nat) (hr : r < 9223372036854775808) : (FloatKind.f64.format.order r 9218868437227405311 == some .gt) = decide (r = 9218868437227405312) := by
  show (double.order r 9218868437227405311 == some .gt) = _
  by_cases h : r < 9218868437227405312
  · rw [order_pos r 9218868437227405311 h (by decide), decide_eq_false (by omega)]
    have h1 : V r ≤ V 9218868437227405311 := V_le_iff.2 (by omega)
    generalize V 9218868437227405311 = m at h1
    generalize V r = k at h1
    simp only [compare, compareOfLessAndEq]
    by_cases h2 : (k : Int) < (m : Int)
    · rw [if_pos h2]; rfl
    · rw [if_neg h2, if_pos (by omega)]; rfl
  · unfold Format.order
    have e := read_big false r hr (by omega)
    rw [wd_false] at e
    rw [e, read_pos 9218868437227405311 (by decide)]
    by_cases h2 : r = 9218868437227405312
    · rw [if_pos h2, decide_eq_true h2]
      unfold Datum.order
      rfl
    · rw [if_neg h2, decide_eq_false h2]
      unfold Datum.order
      rfl
open Ieee in
theorem ord_cmp (x y : Nat) (hx : x < 9218868437227405312) (hy : y < 9218868437227405312) : FloatKind.f64.format.order x y = some (if x < y then .lt else if x = y then .eq else .gt) := by
  show double.order x y = _
  rw [order_pos x y hx hy]
  simp only [compare, compareOfLessAndEq]
  have h1 : (V x : Int) < (V y : Int) ↔ x < y := by rw [← V_lt_iff]; omega
  have h2 : (V x : Int) = (V y : Int) ↔ x = y := ⟨fun h => V_inj (by omega), fun h => by rw [h]⟩
  simp only [h1, h2]
theorem ord_lt (x y : Nat) (hx : x < 9218868437227405312) (hy : y < 9218868437227405312) : (FloatKind.f64.format.order x y == some .lt) = decide (x < y) := by
  rw [ord_cmp x y hx hy]
  by_cases h : x < y
  · rw [if_pos h, decide_eq_true h]; rfl
  · rw [if_neg h, decide_eq_false h]
    by_cases h2 : x = y
    · rw [if_pos h2]; rfl
    · rw [if_neg h2]; rfl
theorem ord_eql (x y : Nat) (hx : x < 9218868437227405312) (hy : y < 9218868437227405312) : (FloatKind.f64.format.order x y == some .eq) = decide (x = y) := by
  rw [ord_cmp x y hx hy]
  by_cases h : x < y
  · rw [if_pos h, decide_eq_false (by omega)]; rfl
  · rw [if_neg h]
    by_cases h2 : x = y
    · rw [if_pos h2, decide_eq_true h2]; rfl
    · rw [if_neg h2, decide_eq_false h2]; rfl
theorem ord_geq (x y : Nat) (hx : x < 9218868437227405312) (hy : y < 9218868437227405312) : (FloatKind.f64.format.order x y == some .gt || FloatKind.f64.format.order x y == some .eq) = decide (y ≤ x) := by
  rw [ord_cmp x y hx hy]
  by_cases h : x < y
  · rw [if_pos h, decide_eq_false (by omega)]; rfl
  · rw [if_neg h, decide_eq_true (by omega)]
    by_cases h2 : x = y
    · rw [if_pos h2]; rfl
    · rw [if_neg h2]; rfl
set_option maxHeartbeats 4000000 in
set_option maxRecDepth 100000 in
theorem Abs.calls (s : Bool) (q : Nat) (w : World) (hq : q < 9223372036854775808) : Calls Tryd.prog 24 #[.float .f64 (wd s q)] w fun e w' => e = .returned (.float .f64 q) ∧ w' = w := by
  have h1 := bits_run
  have h2 := from_run
  have h3 := abs_bits (wd s q) (wd_lt s q hq)
  rw [wd_mod s q hq] at h3
  have h4 : ((q : Nat) : Int).toNat = q := Int.toNat_natCast _
  generalize wd s q = x at *
  clear hq
  go_enter Tryd.func24, Tryd.ntmps24
  go_wp2
  go_ret
  exact ⟨rfl, rfl⟩
set_option maxHeartbeats 4000000 in
set_option maxRecDepth 100000 in
theorem IsNaN.calls (s : Bool) (r : Nat) (w : World) (hr : r < 9223372036854775808) : Calls Tryd.prog 17 #[.float .f64 (wd s r)] w fun e w' => e = .returned (.bool (decide (9218868437227405312 < r))) ∧ w' = w := by
  have h1 := ord_nan s r hr
  generalize decide (9218868437227405312 < r) = b at *
  generalize wd s r = x at *
  clear hr
  go_enter Tryd.func17, Tryd.ntmps17
  go_wp2
  go_ret
  exact ⟨rfl, rfl⟩
open Ieee in
theorem ord_gtmax (s : Bool) (r : Nat) (hr : r < 9223372036854775808) : (FloatKind.f64.format.order (wd s r) 9218868437227405311 == some .gt) = (!s && decide (r = 9218868437227405312)) := by
  show (double.order (wd s r) 9218868437227405311 == some .gt) = _
  by_cases h : r < 9218868437227405312
  · have e : double.order (wd s r) 9218868437227405311 = some (compare (W s r) (W false 9218868437227405311)) := order_eq s false r 9218868437227405311 h (by decide)
    rw [e, decide_eq_false (by omega), Bool.and_false]
    have h1 : V r ≤ V 9218868437227405311 := V_le_iff.2 (by omega)
    unfold W
    generalize V 9218868437227405311 = m at h1
    generalize V r = k at h1
    have h3 : (if s = true then -(k : Int) else (k : Int)) ≤ (m : Int) := by cases s <;> simp <;> omega
    simp only [Bool.false_eq_true, if_false]
    generalize (if s = true then -(k : Int) else (k : Int)) = z at h3
    simp only [compare, compareOfLessAndEq]
    by_cases h2 : z < (m : Int)
    · rw [if_pos h2]; rfl
    · rw [if_neg h2, if_pos (by omega)]; rfl
  · unfold Format.order
    rw [read_big s r hr (by omega), read_pos 9218868437227405311 (by decide)]
    by_cases h2 : r = 9218868437227405312
    · rw [if_pos h2, decide_eq_true h2]
      unfold Datum.order
      cases s <;> rfl
    · rw [if_neg h2, decide_eq_false h2, Bool.and_false]
      unfold Datum.order
      rfl
set_option maxHeartbeats 4000000 in
set_option maxRecDepth 100000 in
theorem IsInf.pos (s : Bool) (r : Nat) (w : World) (hr : r < 9223372036854775808) : Calls Tryd.prog 19 #[.float .f64 (wd s r), .int .i64 1] w fun e w' => e = .returned (.bool (!s && decide (r = 9218868437227405312))) ∧ w' = w := by
  have h1 := ord_gtmax s r hr
  generalize (!s && decide (r = 9218868437227405312)) = b at *
  generalize wd s r = x at *
  clear hr
  go_enter Tryd.func19, Tryd.ntmps19
  go_wp2
  go_ret
  exact ⟨rfl, rfl⟩
theorem neg_wd (s : Bool) (r : Nat) (hr : r < 9223372036854775808) : Op.negFloat .f64 (wd s r) = wd (!s) r := by
  have e : Op.negFloat .f64 (wd s r) = wd s r ^^^ 2 ^ 63 := rfl
  rw [e]
  apply Nat.eq_of_testBit_eq
  intro j
  rw [Nat.testBit_xor, Nat.testBit_two_pow]
  have hlow : ∀ j, j < 63 → ∀ s, (wd s r).testBit j = r.testBit j := fun j hj s => by
    cases s
    · rfl
    · show (r + 9223372036854775808).testBit j = _
      have e2 : r + 9223372036854775808 = 2 ^ 63 * 1 + r := by omega
      rw [e2, Nat.testBit_two_pow_mul_add 1 (by omega) j, if_pos hj]
  have hhi : ∀ j, 63 ≤ j → ∀ s : Bool, (wd s r).testBit j = (s && decide (63 = j)) := fun j hj s => by
    cases s
    · rw [Bool.false_and]
      exact Nat.testBit_lt_two_pow (Nat.lt_of_lt_of_le hr (Nat.pow_le_pow_right (n := 2) (by decide) hj))
    · show (r + 9223372036854775808).testBit j = _
      have e2 : r + 9223372036854775808 = 2 ^ 63 * 1 + r := by omega
      rw [e2, Nat.testBit_two_pow_mul_add 1 (by omega) j, if_neg (by omega), Bool.true_and]
      by_cases h63 : 63 = j
      · subst h63; rfl
      · rw [decide_eq_false h63]
        exact Nat.testBit_lt_two_pow (Nat.lt_of_lt_of_le (by decide : 1 < 2 ^ 1) (Nat.pow_le_pow_right (by decide) (by omega)))
  rcases Nat.lt_or_ge j 63 with hj | hj
  · rw [hlow j hj, hlow j hj, decide_eq_false (by omega), Bool.xor_false]
  · rw [hhi j hj, hhi j hj]
    cases s <;> by_cases h63 : 63 = j <;> simp [h63]
theorem neg_run (s : Bool) (r : Nat) (hr : r < 9223372036854775808) (u : World) : (Op.unary .neg (.float .f64 (wd s r))).run Tryd.prog u = .ok (.float .f64 (wd (!s) r)) u := by
  show Result.ok (Value.float .f64 (Op.negFloat .f64 (wd s r))) u = _
  rw [neg_wd s r hr]
set_option maxHeartbeats 4000000 in
set_option maxRecDepth 100000 in
theorem IsInf.neg (s : Bool) (r : Nat) (w : World) (hr : r < 9223372036854775808) : Calls Tryd.prog 19 #[.float .f64 (wd s r), .int .i64 (-1)] w fun e w' => e = .returned (.bool (s && decide (r = 9218868437227405312))) ∧ w' = w := by
  have h1 := ord_gtmax (!s) r hr
  rw [Bool.not_not] at h1
  have h2 := neg_run s r hr
  generalize wd (!s) r = y at *
  generalize (s && decide (r = 9218868437227405312)) = b at *
  generalize wd s r = x at *
  clear hr
  go_enter Tryd.func19, Tryd.ntmps19
  go_wp2
  go_ret
  exact ⟨rfl, rfl⟩
end Go.Proofs.YtheichpmhfledaaDoor
