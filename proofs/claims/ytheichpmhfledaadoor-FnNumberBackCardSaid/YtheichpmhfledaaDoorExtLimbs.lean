/- The limbs' functions, evaluated at numbers below 2^64. -/
import Derived.Test.YtheichpmhfledaaDoorPRoundx2
import Derived.Test.YtheichpmhfledaaDoorWNEv
import Derived.KernelRfl
set_option linter.unusedVariables false
namespace Go.Proofs.YtheichpmhfledaaDoor
open Go Go.RowKit Go.Proofs.YtheichpmhfledaaDoorW.PrintWords Go.Proofs.YtheichpmhfledaaDoor.PRound
/-- The limbs of a number below 2^64. -/
def lim (v : Nat) : List Int := if v = 0 then [] else if v < 4294967296 then [(v : Int)] else [((v % 4294967296 : Nat) : Int), ((v / 4294967296 : Nat) : Int)]
/-- How many bits a number has. -/
def blen (v : Nat) : Nat := if v = 0 then 0 else v.log2 + 1
theorem blen_half (v : Nat) (h : 0 < v) : blen v = blen (v / 2) + 1 := by
  unfold blen
  rw [if_neg (by omega)]
  by_cases h2 : v / 2 = 0
  · rw [if_pos h2]
    have : v = 1 := by omega
    subst this
    rfl
  · rw [if_neg h2]
    have : v.log2 = (v / 2).log2 + 1 := by
      rw [Nat.log2_def]
      rw [if_pos (by omega)]
    omega
theorem w64 (n : Int) (h0 : -9223372036854775808 ≤ n) (h1 : n < 9223372036854775808) : wrap64 n = n := by unfold wrap64; omega
theorem bits_loop (v : Nat) : ∀ (l : List Int) (a : Nat), l.length = 1 ∨ l.length = 2 → a + blen v < 1000 → Ev (fun k => spec_natBits.l0 k l (a : Int) (v : Int)) (32 * ((l.length : Int) - 1) + ((a + blen v : Nat) : Int)) := by
  induction v using Nat.strongRecOn with
  | _ v ih =>
    intro l a hl ha
    by_cases h0 : v = 0
    · refine Ev.step (f := fun _ => some (32 * ((l.length : Int) - 1) + ((a + blen v : Nat) : Int))) (fun k => ?_) (Ev.now _)
      have hb : blen v = 0 := by unfold blen; rw [if_pos h0]
      simp only [spec_natBits.l0]
      rw [if_neg (by omega), hb, w64 ((l.length : Int) - 1) (by omega) (by omega), w64 (32 * ((l.length : Int) - 1)) (by omega) (by omega), w64 _ (by omega) (by omega)]
      rfl
    · have hb := blen_half v (by omega)
      have h2 := ih (v / 2) (by omega) l (a + 1) hl (by omega)
      have e : a + 1 + blen (v / 2) = a + blen v := by omega
      rw [e] at h2
      refine Ev.step (f := fun k => spec_natBits.l0 k l ((a + 1 : Nat) : Int) ((v / 2 : Nat) : Int)) (fun k => ?_) h2
      simp only [spec_natBits.l0]
      rw [if_pos (by omega), w64 ((a : Int) + 1) (by omega) (by omega)]
      rfl
theorem lim_length (v : Nat) (h : 0 < v) : (lim v).length = 1 ∨ (lim v).length = 2 := by
  unfold lim
  rw [if_neg (by omega)]
  by_cases h2 : v < 4294967296
  · rw [if_pos h2]; exact Or.inl rfl
  · rw [if_neg h2]; exact Or.inr rfl
theorem bits_one (n : Nat) (h0 : 0 < n) (hl : blen n < 900) : Ev (fun k => spec_natBits.f k [(n : Int)]) (blen n : Int) := by
  have h := bits_loop n [(n : Int)] 0 (Or.inl rfl) (by omega)
  refine Ev.congr (f := fun k => spec_natBits.l0 k [(n : Int)] ((0 : Nat) : Int) (n : Int)) (fun k => ?_) ?_
  · unfold spec_natBits.f
    have e1 : wrap64 ((([(n : Int)] : List Int).length : Int) - 1) = 0 := by
      show wrap64 (((1 : Nat) : Int) - 1) = 0
      exact w64 _ (by omega) (by omega)
    have e2 : ¬ ((([(n : Int)] : List Int).length : Int) = 0) := by
      show ¬ (((1 : Nat) : Int) = 0)
      decide
    have e3 : (0 : Int) < (([(n : Int)] : List Int).length : Int) := by
      show (0 : Int) < ((1 : Nat) : Int)
      decide
    rw [e1, if_neg e2, if_pos (Int.le_refl 0), if_pos e3]
    rfl
  · have e : (32 * ((([(n : Int)] : List Int).length : Int) - 1) + ((0 + blen n : Nat) : Int)) = (blen n : Int) := by
      show (32 * (((1 : Nat) : Int) - 1) + ((0 + blen n : Nat) : Int)) = _
      omega
    rw [← e]
    exact h
/-- Limbs that are 0 fall from the end. -/
theorem trim_at (l : List Int) (n : Nat) (hn : 0 < n) (hl : l.length < 1000) (hz : rd l ((n - 1 : Nat) : Int) ≠ 0) : ∀ d, n + d ≤ l.length → (∀ i, n ≤ i → i < n + d → rd l (i : Int) = 0) → Ev (fun k => spec_natTrim.l0 k l ((n + d : Nat) : Int)) (l.take n)
  | 0, hm, _ => by
    refine Ev.step (f := fun _ => some (l.take n)) (fun k => ?_) (Ev.now _)
    have e1 : wrap64 (((n + 0 : Nat) : Int) - 1) = ((n - 1 : Nat) : Int) := by rw [w64 _ (by omega) (by omega)]; omega
    simp only [spec_natTrim.l0, e1]
    rw [if_pos (by omega), if_pos (by omega), if_pos (by omega), if_neg hz, if_pos (by omega), if_pos (by omega), Int.toNat_natCast]
    rfl
  | d + 1, hm, h0 => by
    refine Ev.step (f := fun k => spec_natTrim.l0 k l ((n + d : Nat) : Int)) (fun k => ?_) (trim_at l n hn hl hz d (by omega) (fun i h1 h2 => h0 i h1 (by omega)))
    have e1 : wrap64 (((n + (d + 1) : Nat) : Int) - 1) = ((n + d : Nat) : Int) := by rw [w64 _ (by omega) (by omega)]; omega
    have hz2 := h0 (n + d) (by omega) (by omega)
    simp only [spec_natTrim.l0, e1]
    rw [if_pos (by omega), if_pos (by omega), if_pos (by omega), if_pos hz2]
theorem cmp_nil (k : Nat) : spec_natCmp.f k [] [1] = some (-1) := by
  unfold spec_natCmp.f
  rw [if_neg (by decide), if_pos (by decide)]
theorem shift_nil : ∃ k, spec_natShift.f k [] 1 = some [] := ⟨5, by kernel_rfl⟩
theorem shift_one_all : (List.range 64).all (fun n => decide (spec_natShift.f 9 [1] (n : Int) = some (lim (2 ^ n)))) = true := by kernel_rfl
theorem shift_one (n : Nat) (h : n < 64) : spec_natShift.f 9 [1] (n : Int) = some (lim (2 ^ n)) :=
  of_decide_eq_true (List.all_eq_true.1 shift_one_all n (List.mem_range.2 h))
theorem cmp_lim (a b : Nat) (ha : a < 18446744073709551616) (hb : b < 18446744073709551616) : ∃ c, spec_natCmp.f 5 (lim a) (lim b) = some c ∧ (0 ≤ c ↔ b ≤ a) := by
  have w1 : wrap64 (1 : Int) = 1 := w64 _ (by omega) (by omega)
  have w0 : wrap64 (0 : Int) = 0 := w64 _ (by omega) (by omega)
  have wm : wrap64 (-1 : Int) = -1 := w64 _ (by omega) (by omega)
  unfold lim
  by_cases a0 : a = 0
  · rw [if_pos a0]
    by_cases b0 : b = 0
    · rw [if_pos b0]; exact ⟨0, by kernel_rfl, by omega⟩
    · rw [if_neg b0]
      by_cases b1 : b < 4294967296
      · rw [if_pos b1]; exact ⟨-1, by simp [spec_natCmp.f], by omega⟩
      · rw [if_neg b1]; exact ⟨-1, by simp [spec_natCmp.f], by omega⟩
  · rw [if_neg a0]
    by_cases a1 : a < 4294967296
    · rw [if_pos a1]
      by_cases b0 : b = 0
      · rw [if_pos b0]; exact ⟨1, by simp [spec_natCmp.f], by omega⟩
      · rw [if_neg b0]
        by_cases b1 : b < 4294967296
        · rw [if_pos b1]
          rcases Nat.lt_trichotomy a b with h | h | h
          · exact ⟨-1, by simp [spec_natCmp.f, spec_natCmp.l0, w0, rd, h]; intro he; omega, by omega⟩
          · exact ⟨0, by simp [spec_natCmp.f, spec_natCmp.l0, w0, wm, rd]; omega, by omega⟩
          · exact ⟨1, by simp [spec_natCmp.f, spec_natCmp.l0, w0, rd, show ¬ a < b from by omega]; intro he; omega, by omega⟩
        · rw [if_neg b1]; exact ⟨-1, by simp [spec_natCmp.f], by omega⟩
    · rw [if_neg a1]
      by_cases b0 : b = 0
      · rw [if_pos b0]; exact ⟨1, by simp [spec_natCmp.f], by omega⟩
      · rw [if_neg b0]
        by_cases b1 : b < 4294967296
        · rw [if_pos b1]; exact ⟨1, by simp [spec_natCmp.f], by omega⟩
        · rw [if_neg b1]
          obtain ⟨x, hx⟩ : ∃ x, x = a / 4294967296 := ⟨_, rfl⟩
          obtain ⟨y, hy⟩ : ∃ y, y = b / 4294967296 := ⟨_, rfl⟩
          obtain ⟨u, hu⟩ : ∃ u, u = a % 4294967296 := ⟨_, rfl⟩
          obtain ⟨v, hv⟩ : ∃ v, v = b % 4294967296 := ⟨_, rfl⟩
          rw [← hx, ← hy, ← hu, ← hv]
          rcases Nat.lt_trichotomy x y with h | h | h
          · exact ⟨-1, by simp [spec_natCmp.f, spec_natCmp.l0, w1, rd, h]; intro he; omega, by omega⟩
          · rcases Nat.lt_trichotomy u v with h2 | h2 | h2
            · exact ⟨-1, by simp [spec_natCmp.f, spec_natCmp.l0, w1, w0, rd, h, h2]; intro he; omega, by omega⟩
            · exact ⟨0, by simp [spec_natCmp.f, spec_natCmp.l0, w1, w0, wm, rd, h, h2], by omega⟩
            · exact ⟨1, by simp [spec_natCmp.f, spec_natCmp.l0, w1, w0, rd, h, show ¬ u < v from by omega]; intro he; omega, by omega⟩
          · exact ⟨1, by simp [spec_natCmp.f, spec_natCmp.l0, w1, rd, show ¬ x < y from by omega]; intro he; omega, by omega⟩
theorem blen_shift (v : Nat) : ∀ j, 0 < v / 2 ^ j → blen v = j + blen (v / 2 ^ j)
  | 0, _ => by rw [Nat.pow_zero, Nat.div_one, Nat.zero_add]
  | j + 1, h => by
    have e : v / 2 ^ (j + 1) = v / 2 ^ j / 2 := by rw [Nat.pow_succ, Nat.div_div_eq_div_mul]
    rw [e] at h ⊢
    have h2 := blen_shift v j (by omega)
    have h3 := blen_half (v / 2 ^ j) (by omega)
    omega
theorem blen_two (v : Nat) (h : 4294967296 ≤ v) : blen v = 32 + blen (v / 4294967296) := by
  have e : (4294967296 : Nat) = 2 ^ 32 := by decide
  have h2 := blen_shift v 32 (by rw [← e]; omega)
  rw [← e] at h2
  exact h2
theorem blen_le (v : Nat) (h : v < 18446744073709551616) : blen v ≤ 64 := by
  unfold blen
  by_cases h0 : v = 0
  · rw [if_pos h0]; omega
  · rw [if_neg h0]
    have : v.log2 < 64 := (Nat.log2_lt h0).2 h
    omega
theorem bits_lim (v : Nat) (h0 : 0 < v) (h : v < 18446744073709551616) : Ev (fun k => spec_natBits.f k (lim v)) (blen v : Int) := by
  have hl := blen_le v h
  unfold lim
  rw [if_neg (by omega)]
  by_cases h2 : v < 4294967296
  · rw [if_pos h2]
    exact bits_one v h0 (by omega)
  · rw [if_neg h2]
    have hb := blen_two v (by omega)
    obtain ⟨x, hx⟩ : ∃ x, x = v / 4294967296 := ⟨_, rfl⟩
    obtain ⟨u, hu⟩ : ∃ u, u = v % 4294967296 := ⟨_, rfl⟩
    rw [← hx] at hb ⊢
    rw [← hu]
    have h3 := bits_loop x [(u : Int), (x : Int)] 0 (Or.inr rfl) (by omega)
    have e : (32 * ((([(u : Int), (x : Int)] : List Int).length : Int) - 1) + ((0 + blen x : Nat) : Int)) = (blen v : Int) := by
      show (32 * (((2 : Nat) : Int) - 1) + ((0 + blen x : Nat) : Int)) = _
      omega
    rw [e] at h3
    refine Ev.congr (f := fun k => spec_natBits.l0 k [(u : Int), (x : Int)] ((0 : Nat) : Int) (x : Int)) (fun k => ?_) h3
    unfold spec_natBits.f
    have e1 : wrap64 ((([(u : Int), (x : Int)] : List Int).length : Int) - 1) = 1 := by
      show wrap64 (((2 : Nat) : Int) - 1) = 1
      exact w64 _ (by omega) (by omega)
    have e2 : ¬ ((([(u : Int), (x : Int)] : List Int).length : Int) = 0) := by
      show ¬ (((2 : Nat) : Int) = 0)
      decide
    have e3 : (1 : Int) < (([(u : Int), (x : Int)] : List Int).length : Int) := by
      show (1 : Int) < ((2 : Nat) : Int)
      decide
    rw [e1, if_neg e2, if_pos (by decide), if_pos e3]
    rfl
theorem u64w (n : Int) (h0 : 0 ≤ n) (h1 : n < 18446744073709551616) : IntKind.u64.wrap n = n := by
  have : IntKind.u64.wrap n = n % 18446744073709551616 := by simp [IntKind.wrap, IntKind.bits, IntKind.signed]
  rw [this]; omega
theorem sub_one (a b : Nat) (ha : a < 4294967296) (hb : b < a) (h0 : 0 < b) : spec_natSub.f 6 [(a : Int)] [(b : Int)] = some [((a - b : Nat) : Int)] := by
  have w1 : wrap64 (1 : Int) = 1 := by unfold wrap64; omega
  have w0 : wrap64 (0 : Int) = 0 := by unfold wrap64; omega
  have e1 : IntKind.u64.wrap (b : Int) = b := u64w _ (by omega) (by omega)
  have e2 : IntKind.u64.wrap ((a : Int) - b) = ((a - b : Nat) : Int) := by rw [u64w _ (by omega) (by omega)]; omega
  have e3 : ¬ (a < b) := by omega
  have e4 : ¬ (a - b = 0) := by omega
  simp [spec_natSub.f, spec_natSub.l0, spec_natTrim.f, spec_natTrim.l0, rd, w1, w0, e1, e2, e3]
  omega
theorem sub_same (a : Nat) (ha : a < 4294967296) (h0 : 0 < a) : spec_natSub.f 6 [(a : Int)] [(a : Int)] = some [] := by
  have w1 : wrap64 (1 : Int) = 1 := by unfold wrap64; omega
  have w0 : wrap64 (0 : Int) = 0 := by unfold wrap64; omega
  have e1 : IntKind.u64.wrap (a : Int) = a := u64w _ (by omega) (by omega)
  have e2 : IntKind.u64.wrap (0 : Int) = 0 := u64w _ (by omega) (by omega)
  simp [spec_natSub.f, spec_natSub.l0, spec_natTrim.f, spec_natTrim.l0, rd, w1, w0, e1, e2]
end Go.Proofs.YtheichpmhfledaaDoor
