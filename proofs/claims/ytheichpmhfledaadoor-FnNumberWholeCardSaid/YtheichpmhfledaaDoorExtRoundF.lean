/- Round of one limb by 1: the double of a whole number below 2^32. -/
import Derived.Test.YtheichpmhfledaaDoorExtRound
import Derived.Test.YtheichpmhfledaaDoorExtLimb2
set_option linter.unusedVariables false
namespace Go.Proofs.YtheichpmhfledaaDoor
open Go Go.RowKit Go.Proofs.YtheichpmhfledaaDoorW.PrintWords
/-- The word of a whole number above 0. -/
def wordOf (m : Nat) : Nat := (m.log2 + 1023) * 4503599627370496 + (m * 2 ^ (52 - m.log2) - 4503599627370496)
def spec_Round.f (l0 l1 : List Int) : Option Int := if l0.length = 1 ∧ 0 < l0.headD 0 ∧ l0.headD 0 < 4294967296 ∧ l1 = [1] then some (wordOf (l0.headD 0).toNat : Int) else none
theorem spec_Round.calls (A0 : Option Addr) (c0 : Nat) (l0 : List Int) (A1 : Option Addr) (c1 : Nat) (l1 : List Int) (r : Int) (w : World) (hr0 : Kd.C (Kd.int .u64) w A0 l0.length l0) (hc0 : l0.length ≤ c0) (hr1 : Kd.C (Kd.int .u64) w A1 l1.length l1) (hc1 : l1.length ≤ c1) (h : spec_Round.f l0 l1 = some r) :
    Calls Tryd.prog 48 #[.slice A0 l0.length c0, .slice A1 l1.length c1] w fun e w' => e = .returned (.int .u64 r) ∧ Below w.heap.size w w' := by
  unfold spec_Round.f at h
  split at h
  · rename_i hc
    obtain ⟨h1, h2, h3, rfl⟩ := hc
    obtain ⟨x, rfl⟩ := List.length_eq_one_iff.1 h1
    simp only [List.headD_cons] at h2 h3 h
    obtain ⟨n, rfl⟩ := Int.eq_ofNat_of_zero_le (Int.le_of_lt h2)
    have hn0 : 0 < n := by omega
    have hn1 : n < 4294967296 := by omega
    obtain ⟨k, x1, x2, z, e1, e2, e3, e4, e5, e6, e7, e8⟩ := round_eval n hn0 hn1
    have hl : n.log2 < 32 := (Nat.log2_lt (by omega)).2 (by have : (2 : Nat) ^ 32 = 4294967296 := by decide
                                                            omega)
    have hlo : 2 ^ n.log2 ≤ n := Nat.log2_self_le (by omega)
    have hhi : n < 2 ^ (n.log2 + 1) := Nat.lt_log2_self
    have p52 : 2 ^ n.log2 * 2 ^ (52 - n.log2) = 4503599627370496 := by
      rw [← Nat.pow_add]
      have : n.log2 + (52 - n.log2) = 52 := by omega
      rw [this]
    have p53 : 2 ^ n.log2 * 2 ^ (53 - n.log2) = 9007199254740992 := by
      rw [← Nat.pow_add]
      have : n.log2 + (53 - n.log2) = 53 := by omega
      rw [this]
    have q53 : 2 ^ (n.log2 + 1) * 2 ^ (52 - n.log2) = 9007199254740992 := by
      rw [← Nat.pow_add]
      have : n.log2 + 1 + (52 - n.log2) = 53 := by omega
      rw [this]
    have g1 : 9007199254740992 ≤ n * 2 ^ (53 - n.log2) := by rw [← p53]; exact Nat.mul_le_mul_right _ hlo
    have g2 : 4503599627370496 ≤ n * 2 ^ (52 - n.log2) := by rw [← p52]; exact Nat.mul_le_mul_right _ hlo
    have g3 : n * 2 ^ (52 - n.log2) < 9007199254740992 := by rw [← q53]; exact Nat.mul_lt_mul_of_pos_right hhi (Nat.pow_pos (by decide))
    have hw := Round.walk k A0 c0 [(n : Int)] A1 c1 [1] _ _ _ _ x1 x2 [] [] z w hr0 hc0 hr1 hc1 (Nat.zero_lt_succ 0) e1 e2 (by omega) e3 e4 (by omega) e5 e6 (by omega) e7 e8 (by decide)
    refine hw.mono fun e w' ⟨he, hb⟩ => ⟨?_, hb⟩
    obtain rfl := Option.some.inj h
    rw [he]
    refine congrArg (fun n => Ending.returned (Value.int IntKind.u64 n)) ?_
    have e9 : ((n : Int)).toNat = n := Int.toNat_natCast n
    rw [e9]
    unfold wordOf
    generalize n * 2 ^ (52 - n.log2) = q at *
    omega
  · cases h
end Go.Proofs.YtheichpmhfledaaDoor
