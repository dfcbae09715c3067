/- Doubles that are finite: their values as whole numbers of the least one; comparing, rounding, subtracting. Plain facts over the IEEE library. -/
import Ieee.Arith
set_option linter.unusedVariables false
namespace Go.Proofs.YtheichpmhfledaaDoor
open Ieee
/-- The significand of a word without its sign; how many doublings of the least number; the value in units of the least number. -/
def mag (x : Nat) : Nat := if x < 4503599627370496 then x else 4503599627370496 + x % 4503599627370496
def sh (x : Nat) : Nat := if x < 4503599627370496 then 0 else x / 4503599627370496 - 1
def V (x : Nat) : Nat := mag x * 2 ^ sh x
theorem binade_eq : double.binade = 4503599627370496 := by decide +kernel
theorem inf_eq : double.infRung = 9218868437227405312 := by decide +kernel
theorem sgn_eq : double.signWeight = 9223372036854775808 := by decide +kernel
theorem least_eq : double.leastPlace = -1074 := by decide +kernel
theorem read_eq (s : Bool) (x : Nat) (h : x < 9218868437227405312) : double.read (if s then x + 9223372036854775808 else x) = .number s (mag x) ((sh x : Int) - 1074) := by
  have h1 : (if s then x + 9223372036854775808 else x) / 9223372036854775808 % 2 = if s then 1 else 0 := by cases s <;> simp <;> omega
  have h2 : (if s then x + 9223372036854775808 else x) % 9223372036854775808 = x := by cases s <;> simp <;> omega
  unfold Format.read
  simp only [binade_eq, inf_eq, sgn_eq, least_eq, h1, h2]
  unfold mag sh
  by_cases hx : x < 4503599627370496
  · simp only [hx, if_true]
    cases s <;> simp
  · simp only [hx, if_false, h, if_true]
    have : (-1074 : Int) + ((x / 4503599627370496 - 1 : Nat) : Int) = ((x / 4503599627370496 - 1 : Nat) : Int) - 1074 := by omega
    rw [this]
    cases s <;> simp
theorem read_pos (x : Nat) (h : x < 9218868437227405312) : double.read x = .number false (mag x) ((sh x : Int) - 1074) := read_eq false x h
theorem pow52 : (2 : Nat) ^ 52 = 4503599627370496 := by decide +kernel
theorem V_lt (x : Nat) : V x < 2 ^ (52 + x / 4503599627370496) := by
  unfold V mag sh
  by_cases hx : x < 4503599627370496
  · rw [if_pos hx, if_pos hx, Nat.div_eq_of_lt hx, Nat.add_zero, pow52]
    omega
  · rw [if_neg hx, if_neg hx]
    have hq : 1 ≤ x / 4503599627370496 := by omega
    generalize x / 4503599627370496 = q at hq
    have hr : x % 4503599627370496 < 4503599627370496 := Nat.mod_lt _ (by decide)
    have e : 2 ^ (52 + q) = (2 * 4503599627370496) * 2 ^ (q - 1) := by
      obtain ⟨k, rfl⟩ : ∃ k, q = k + 1 := ⟨q - 1, by omega⟩
      rw [Nat.add_sub_cancel, ← pow52, ← Nat.add_assoc, Nat.pow_succ, Nat.pow_add, Nat.mul_comm (2 ^ 52 * 2 ^ k) 2, Nat.mul_assoc]
    rw [e]
    exact Nat.mul_lt_mul_of_pos_right (by omega) (Nat.pow_pos (by decide))
theorem V_ge (x : Nat) (h : 1 ≤ x / 4503599627370496) : 2 ^ (52 + (x / 4503599627370496 - 1)) ≤ V x := by
  unfold V mag sh
  have hx : ¬ x < 4503599627370496 := by omega
  rw [if_neg hx, if_neg hx, Nat.pow_add, pow52]
  exact Nat.mul_le_mul_right _ (by omega)
theorem V_mono {x y : Nat} (h : x < y) : V x < V y := by
  have hd : x / 4503599627370496 ≤ y / 4503599627370496 := Nat.div_le_div_right (Nat.le_of_lt h)
  rcases Nat.lt_or_ge (x / 4503599627370496) (y / 4503599627370496) with h1 | h1
  · exact Nat.lt_of_lt_of_le (V_lt x) (Nat.le_trans (Nat.pow_le_pow_right (by decide) (by omega)) (V_ge y (by omega)))
  · have e : x / 4503599627370496 = y / 4503599627370496 := by omega
    have hs : sh x = sh y := by
      unfold sh
      by_cases hy : y < 4503599627370496
      · rw [if_pos hy, if_pos (by omega)]
      · rw [if_neg hy, if_neg (by omega), e]
    unfold V
    rw [hs]
    refine Nat.mul_lt_mul_of_pos_right ?_ (Nat.pow_pos (by decide))
    unfold mag
    by_cases hy : y < 4503599627370496
    · rw [if_pos hy, if_pos (by omega)]; exact h
    · rw [if_neg hy, if_neg (by omega)]
      omega
theorem V_le_iff {x y : Nat} : V x ≤ V y ↔ x ≤ y := by
  constructor
  · intro h
    rcases Nat.lt_or_ge y x with h1 | h1
    · have := V_mono h1; omega
    · exact h1
  · intro h
    rcases Nat.lt_or_ge x y with h1 | h1
    · exact Nat.le_of_lt (V_mono h1)
    · have : x = y := by omega
      rw [this]; exact Nat.le_refl _
theorem V_inj {x y : Nat} (h : V x = V y) : x = y := Nat.le_antisymm (V_le_iff.1 (Nat.le_of_eq h)) (V_le_iff.1 (Nat.le_of_eq h.symm))
theorem V_zero : V 0 = 0 := by unfold V mag; simp
theorem V_lt_iff {x y : Nat} : V x < V y ↔ x < y := by
  constructor
  · intro h
    rcases Nat.lt_or_ge x y with h1 | h1
    · exact h1
    · have := V_le_iff.2 h1; omega
  · exact V_mono
/-- The value with its sign. -/
def W (s : Bool) (x : Nat) : Int := if s then -(V x : Int) else (V x : Int)
theorem signed_eq (s : Bool) (m k : Nat) : signed s m k = (if s then -((m * 2 ^ k : Nat) : Int) else ((m * 2 ^ k : Nat) : Int)) := by
  unfold signed
  rw [Nat.shiftLeft_eq]
theorem pow_split (a b : Nat) (h : b ≤ a) : 2 ^ (a - b) * 2 ^ b = 2 ^ a := by rw [← Nat.pow_add, Nat.sub_add_cancel h]
theorem compare_scale (a b c : Int) (hc : 0 < c) : compare (a * c) (b * c) = compare a b := by
  have h1 : a * c < b * c ↔ a < b := ⟨fun h => Int.lt_of_mul_lt_mul_right h (Int.le_of_lt hc), fun h => Int.mul_lt_mul_of_pos_right h hc⟩
  have h2 : a * c = b * c ↔ a = b := ⟨fun h => Int.eq_of_mul_eq_mul_right (Int.ne_of_gt hc) h, fun h => by rw [h]⟩
  simp only [compare, compareOfLessAndEq, h1, h2]
theorem order_eq (s t : Bool) (x y : Nat) (hx : x < 9218868437227405312) (hy : y < 9218868437227405312) :
    double.order (if s then x + 9223372036854775808 else x) (if t then y + 9223372036854775808 else y) = some (compare (W s x) (W t y)) := by
  unfold Format.order
  rw [read_eq s x hx, read_eq t y hy]
  unfold Datum.order
  simp only [signed_eq]
  have key : ∀ (u : Bool) (z b : Nat), b ≤ sh z → (if u then -((mag z * 2 ^ (sh z - b) : Nat) : Int) else ((mag z * 2 ^ (sh z - b) : Nat) : Int)) * ((2 ^ b : Nat) : Int) = W u z := by
    intro u z b hb
    have e : mag z * 2 ^ (sh z - b) * 2 ^ b = V z := by rw [Nat.mul_assoc, pow_split _ _ hb]; rfl
    unfold W
    cases u
    · simp only [Bool.false_eq_true, if_false]
      rw [← Int.natCast_mul, e]
    · simp only [if_true]
      rw [Int.neg_mul, ← Int.natCast_mul, e]
  have e1 : (((sh x : Int) - 1074) - min ((sh x : Int) - 1074) ((sh y : Int) - 1074)).toNat = sh x - min (sh x) (sh y) := by omega
  have e2 : (((sh y : Int) - 1074) - min ((sh x : Int) - 1074) ((sh y : Int) - 1074)).toNat = sh y - min (sh x) (sh y) := by omega
  rw [e1, e2]
  congr 1
  rw [← compare_scale _ _ ((2 ^ min (sh x) (sh y) : Nat) : Int) (by have : 0 < 2 ^ min (sh x) (sh y) := Nat.pow_pos (by decide); omega)]
  rw [key s x _ (Nat.min_le_left ..), key t y _ (Nat.min_le_right ..)]
theorem order_pos (x y : Nat) (hx : x < 9218868437227405312) (hy : y < 9218868437227405312) : double.order x y = some (compare (V x : Int) (V y : Int)) := order_eq false false x y hx hy
end Go.Proofs.YtheichpmhfledaaDoor
