/- Texts by their bytes; decimal digits; the words of whole numbers. -/
import Derived.Test.YtheichpmhfledaaDoorExtLimb2
import Derived.Test.YtheichpmhfledaaDoorExtRoundF
import Derived.Test.YtheichpmhfledaaDoorExtF
import Derived.Lib.ItoaNum
import Derived.KernelRfl
set_option linter.unusedVariables false
set_option linter.unusedSimpArgs false
namespace Go.Proofs.YtheichpmhfledaaDoor
open Go Go.RowKit Go.Proofs.YtheichpmhfledaaDoorW.PrintWords
/-- A text, by its bytes. -/
def tx (l : List UInt8) : ByteArray := ⟨l.toArray⟩
theorem tx_size (l : List UInt8) : (tx l).size = l.length := by unfold tx; simp [ByteArray.size]
theorem tx_bt (l : List UInt8) (i : Nat) (h : i < l.length) : bt (tx l) (i : Int) = ((l[i]).toNat : Int) := by
  unfold bt
  rw [dif_pos (by rw [tx_size]; exact h)]
  rfl
theorem tx_ext (l : List UInt8) (a b : Nat) : (tx l).extract a b = tx ((l.drop a).take (b - a)) := by
  apply ByteArray.ext
  simp [tx, ByteArray.data_extract]
theorem tx_add (a b : List UInt8) : tx a ++ tx b = tx (a ++ b) := by
  apply ByteArray.ext
  simp [tx, ByteArray.data_append]
theorem tx_list (l : List UInt8) : (tx l).toList = l := by
  simp [tx]
theorem tx_at (l : List UInt8) (i : Nat) (x : UInt8) (h : l[i]? = some x) : bt (tx l) (i : Int) = (x.toNat : Int) := by
  obtain ⟨h1, rfl⟩ := List.getElem?_eq_some_iff.1 h
  exact tx_bt l i h1
open Go.Lib in
theorem dec_step (u : Nat) (h : ¬ u < 10) : decDigits u = decDigits (u / 10) ++ [UInt8.ofNat (48 + u % 10)] := by
  rw [decDigits, dif_neg h]
open Go.Lib in
theorem dec_len : ∀ (n u : Nat), u < 10 ^ (n + 1) → (decDigits u).length ≤ n + 1
  | 0, u, h => by rw [decDigits_one (by simpa using h)]; simp
  | n + 1, u, h => by
    by_cases h10 : u < 10
    · rw [decDigits_one h10]; simp
    · rw [dec_step u h10, List.length_append, List.length_singleton]
      have := dec_len n (u / 10) (by rw [Nat.pow_succ] at h; omega)
      omega
/-- The word of a whole number above 0, by its parts. -/
theorem word_parts (m : Nat) (h0 : 0 < m) (h : m < 4294967296) : ∃ q, 4503599627370496 ≤ q ∧ q < 9007199254740992 ∧ wordOf m = (m.log2 + 1022) * 4503599627370496 + q ∧ q * 2 ^ (m.log2 + 1022) = m * 2 ^ 1074 ∧ m.log2 < 32 := by
  have hl : m.log2 < 32 := (Nat.log2_lt (by omega)).2 (by have : (2 : Nat) ^ 32 = 4294967296 := by decide
                                                          omega)
  have hlo : 2 ^ m.log2 ≤ m := Nat.log2_self_le (by omega)
  have hhi : m < 2 ^ (m.log2 + 1) := Nat.lt_log2_self
  have p52 : 2 ^ m.log2 * 2 ^ (52 - m.log2) = 4503599627370496 := by
    rw [← Nat.pow_add]
    have : m.log2 + (52 - m.log2) = 52 := by omega
    rw [this]
  have q53 : 2 ^ (m.log2 + 1) * 2 ^ (52 - m.log2) = 9007199254740992 := by
    rw [← Nat.pow_add]
    have : m.log2 + 1 + (52 - m.log2) = 53 := by omega
    rw [this]
  have g2 : 4503599627370496 ≤ m * 2 ^ (52 - m.log2) := by rw [← p52]; exact Nat.mul_le_mul_right _ hlo
  have g3 : m * 2 ^ (52 - m.log2) < 9007199254740992 := by rw [← q53]; exact Nat.mul_lt_mul_of_pos_right hhi (Nat.pow_pos (by decide))
  refine ⟨m * 2 ^ (52 - m.log2), g2, g3, ?_, ?_, hl⟩
  · unfold wordOf
    generalize m * 2 ^ (52 - m.log2) = q at *
    omega
  · have e : 52 - m.log2 + (m.log2 + 1022) = 1074 := by omega
    rw [Nat.mul_assoc, ← Nat.pow_add, e]
theorem word_V (m : Nat) (h0 : 0 < m) (h : m < 4294967296) : V (wordOf m) = m * 2 ^ 1074 := by
  obtain ⟨q, q0, q1, hw, hq, _⟩ := word_parts m h0 h
  rw [hw, V_word _ q q1 (Or.inl q0), hq]
theorem word_sh (m : Nat) (h0 : 0 < m) (h : m < 4294967296) : wordOf m < 9218868437227405312 ∧ 52 ≤ sh (wordOf m) ∧ mag (wordOf m) < 9007199254740992 ∧ 0 < mag (wordOf m) := by
  obtain ⟨q, q0, q1, hw, hq, hl⟩ := word_parts m h0 h
  obtain ⟨L, hL⟩ : ∃ L, L = m.log2 := ⟨_, rfl⟩
  rw [← hL] at hw hl
  clear hq hL
  have h1 : ¬ wordOf m < 4503599627370496 := by omega
  unfold sh mag
  rw [if_neg h1, if_neg h1]
  omega
end Go.Proofs.YtheichpmhfledaaDoor
