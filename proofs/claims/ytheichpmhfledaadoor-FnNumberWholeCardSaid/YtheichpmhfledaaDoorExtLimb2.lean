/- The limbs' functions, evaluated at numbers below 2^64. The limbs' functions, evaluated: shift of one limb, division by 1. -/
import Derived.Test.YtheichpmhfledaaDoorPRoundx2
import Derived.Test.YtheichpmhfledaaDoorWNEv
import Derived.KernelRfl
import Derived.Laws.BitsLemmas
set_option linter.unusedVariables false
namespace Go.Proofs.YtheichpmhfledaaDoor
open Go Go.RowKit Go.Proofs.YtheichpmhfledaaDoorW.PrintWords Go.Proofs.YtheichpmhfledaaDoor.PRound
/-- The limbs of a number below 2^64. -/
def lim (v : Nat) : List Int := if v = 0 then [] else if v < 4294967296 then [(v : Int)] else [((v % 4294967296 : Nat) : Int), ((v / 4294967296 : Nat) : Int)]
/-- How many bits a number has. -/
def blen (v : Nat) : Nat := if v = 0 then 0 else v.log2 + 1
theorem blen_half (v : Nat) (h : 0 < v) : blen v = blen (v / 2) + 1 := by
  unfold blen
  rw [if_neg (by omega)]
  by_cases h2 : v / 2 = 0
  · rw [if_pos h2]
    have : v = 1 := by omega
    subst this
    rfl
  · rw [if_neg h2]
    have : v.log2 = (v / 2).log2 + 1 := by
      rw [Nat.log2_def]
      rw [if_pos (by omega)]
    omega
theorem w64 (n : Int) (h0 : -9223372036854775808 ≤ n) (h1 : n < 9223372036854775808) : wrap64 n = n := by unfold wrap64; omega
theorem bits_loop (v : Nat) : ∀ (l : List Int) (a : Nat), l.length = 1 ∨ l.length = 2 → a + blen v < 1000 → Ev (fun k => spec_natBits.l0 k l (a : Int) (v : Int)) (32 * ((l.length : Int) - 1) + ((a + blen v : Nat) : Int)) := by
  induction v using Nat.strongRecOn with
  | _ v ih =>
    intro l a hl ha
    by_cases h0 : v = 0
    · refine Ev.step (f := fun _ => some (32 * ((l.length : Int) - 1) + ((a + blen v : Nat) : Int))) (fun k => ?_) (Ev.now _)
      have hb : blen v = 0 := by unfold blen; rw [if_pos h0]
      simp only [spec_natBits.l0]
      rw [if_neg (by omega), hb, w64 ((l.length : Int) - 1) (by omega) (by omega), w64 (32 * ((l.length : Int) - 1)) (by omega) (by omega), w64 _ (by omega) (by omega)]
      rfl
    · have hb := blen_half v (by omega)
      have h2 := ih (v / 2) (by omega) l (a + 1) hl (by omega)
      have e : a + 1 + blen (v / 2) = a + blen v := by omega
      rw [e] at h2
      refine Ev.step (f := fun k => spec_natBits.l0 k l ((a + 1 : Nat) : Int) ((v / 2 : Nat) : Int)) (fun k => ?_) h2
      simp only [spec_natBits.l0]
      rw [if_pos (by omega), w64 ((a : Int) + 1) (by omega) (by omega)]
      rfl
theorem lim_length (v : Nat) (h : 0 < v) : (lim v).length = 1 ∨ (lim v).length = 2 := by
  unfold lim
  rw [if_neg (by omega)]
  by_cases h2 : v < 4294967296
  · rw [if_pos h2]; exact Or.inl rfl
  · rw [if_neg h2]; exact Or.inr rfl
theorem bits_one (n : Nat) (h0 : 0 < n) (hl : blen n < 900) : Ev (fun k => spec_natBits.f k [(n : Int)]) (blen n : Int) := by
  have h := bits_loop n [(n : Int)] 0 (Or.inl rfl) (by omega)
  refine Ev.congr (f := fun k => spec_natBits.l0 k [(n : Int)] ((0 : Nat) : Int) (n : Int)) (fun k => ?_) ?_
  · unfold spec_natBits.f
    have e1 : wrap64 ((([(n : Int)] : List Int).length : Int) - 1) = 0 := by
      show wrap64 (((1 : Nat) : Int) - 1) = 0
      exact w64 _ (by omega) (by omega)
    have e2 : ¬ ((([(n : Int)] : List Int).length : Int) = 0) := by
      show ¬ (((1 : Nat) : Int) = 0)
      decide
    have e3 : (0 : Int) < (([(n : Int)] : List Int).length : Int) := by
      show (0 : Int) < ((1 : Nat) : Int)
      decide
    rw [e1, if_neg e2, if_pos (Int.le_refl 0), if_pos e3]
    rfl
  · have e : (32 * ((([(n : Int)] : List Int).length : Int) - 1) + ((0 + blen n : Nat) : Int)) = (blen n : Int) := by
      show (32 * (((1 : Nat) : Int) - 1) + ((0 + blen n : Nat) : Int)) = _
      omega
    rw [← e]
    exact h
/-- Limbs that are 0 fall from the end. -/
theorem trim_at (l : List Int) (n : Nat) (hn : 0 < n) (hl : l.length < 1000) (hz : rd l ((n - 1 : Nat) : Int) ≠ 0) : ∀ d, n + d ≤ l.length → (∀ i, n ≤ i → i < n + d → rd l (i : Int) = 0) → Ev (fun k => spec_natTrim.l0 k l ((n + d : Nat) : Int)) (l.take n)
  | 0, hm, _ => by
    refine Ev.step (f := fun _ => some (l.take n)) (fun k => ?_) (Ev.now _)
    have e1 : wrap64 (((n + 0 : Nat) : Int) - 1) = ((n - 1 : Nat) : Int) := by rw [w64 _ (by omega) (by omega)]; omega
    simp only [spec_natTrim.l0, e1]
    rw [if_pos (by omega), if_pos (by omega), if_pos (by omega), if_neg hz, if_pos (by omega), if_pos (by omega), Int.toNat_natCast]
    rfl
  | d + 1, hm, h0 => by
    refine Ev.step (f := fun k => spec_natTrim.l0 k l ((n + d : Nat) : Int)) (fun k => ?_) (trim_at l n hn hl hz d (by omega) (fun i h1 h2 => h0 i h1 (by omega)))
    have e1 : wrap64 (((n + (d + 1) : Nat) : Int) - 1) = ((n + d : Nat) : Int) := by rw [w64 _ (by omega) (by omega)]; omega
    have hz2 := h0 (n + d) (by omega) (by omega)
    simp only [spec_natTrim.l0, e1]
    rw [if_pos (by omega), if_pos (by omega), if_pos (by omega), if_pos hz2]
theorem cmp_nil (k : Nat) : spec_natCmp.f k [] [1] = some (-1) := by
  unfold spec_natCmp.f
  rw [if_neg (by decide), if_pos (by decide)]
theorem shift_nil : ∃ k, spec_natShift.f k [] 1 = some [] := ⟨5, by kernel_rfl⟩
theorem shift_one_all : (List.range 64).all (fun n => decide (spec_natShift.f 9 [1] (n : Int) = some (lim (2 ^ n)))) = true := by kernel_rfl
theorem shift_one (n : Nat) (h : n < 64) : spec_natShift.f 9 [1] (n : Int) = some (lim (2 ^ n)) :=
  of_decide_eq_true (List.all_eq_true.1 shift_one_all n (List.mem_range.2 h))
theorem cmp_lim (a b : Nat) (ha : a < 18446744073709551616) (hb : b < 18446744073709551616) : ∃ c, spec_natCmp.f 5 (lim a) (lim b) = some c ∧ (0 ≤ c ↔ b ≤ a) := by
  have w1 : wrap64 (1 : Int) = 1 := w64 _ (by omega) (by omega)
  have w0 : wrap64 (0 : Int) = 0 := w64 _ (by omega) (by omega)
  have wm : wrap64 (-1 : Int) = -1 := w64 _ (by omega) (by omega)
  unfold lim
  by_cases a0 : a = 0
  · rw [if_pos a0]
    by_cases b0 : b = 0
    · rw [if_pos b0]; exact ⟨0, by kernel_rfl, by omega⟩
    · rw [if_neg b0]
      by_cases b1 : b < 4294967296
      · rw [if_pos b1]; exact ⟨-1, by simp [spec_natCmp.f], by omega⟩
      · rw [if_neg b1]; exact ⟨-1, by simp [spec_natCmp.f], by omega⟩
  · rw [if_neg a0]
    by_cases a1 : a < 4294967296
    · rw [if_pos a1]
      by_cases b0 : b = 0
      · rw [if_pos b0]; exact ⟨1, by simp [spec_natCmp.f], by omega⟩
      · rw [if_neg b0]
        by_cases b1 : b < 4294967296
        · rw [if_pos b1]
          rcases Nat.lt_trichotomy a b with h | h | h
          · exact ⟨-1, by simp [spec_natCmp.f, spec_natCmp.l0, w0, rd, h]; intro he; omega, by omega⟩
          · exact ⟨0, by simp [spec_natCmp.f, spec_natCmp.l0, w0, wm, rd]; omega, by omega⟩
          · exact ⟨1, by simp [spec_natCmp.f, spec_natCmp.l0, w0, rd, show ¬ a < b from by omega]; intro he; omega, by omega⟩
        · rw [if_neg b1]; exact ⟨-1, by simp [spec_natCmp.f], by omega⟩
    · rw [if_neg a1]
      by_cases b0 : b = 0
      · rw [if_pos b0]; exact ⟨1, by simp [spec_natCmp.f], by omega⟩
      · rw [if_neg b0]
        by_cases b1 : b < 4294967296
        · rw [if_pos b1]; exact ⟨1, by simp [spec_natCmp.f], by omega⟩
        · rw [if_neg b1]
          obtain ⟨x, hx⟩ : ∃ x, x = a / 4294967296 := ⟨_, rfl⟩
          obtain ⟨y, hy⟩ : ∃ y, y = b / 4294967296 := ⟨_, rfl⟩
          obtain ⟨u, hu⟩ : ∃ u, u = a % 4294967296 := ⟨_, rfl⟩
          obtain ⟨v, hv⟩ : ∃ v, v = b % 4294967296 := ⟨_, rfl⟩
          rw [← hx, ← hy, ← hu, ← hv]
          rcases Nat.lt_trichotomy x y with h | h | h
          · exact ⟨-1, by simp [spec_natCmp.f, spec_natCmp.l0, w1, rd, h]; intro he; omega, by omega⟩
          · rcases Nat.lt_trichotomy u v with h2 | h2 | h2
            · exact ⟨-1, by simp [spec_natCmp.f, spec_natCmp.l0, w1, w0, rd, h, h2]; intro he; omega, by omega⟩
            · exact ⟨0, by simp [spec_natCmp.f, spec_natCmp.l0, w1, w0, wm, rd, h, h2], by omega⟩
            · exact ⟨1, by simp [spec_natCmp.f, spec_natCmp.l0, w1, w0, rd, h, show ¬ u < v from by omega]; intro he; omega, by omega⟩
          · exact ⟨1, by simp [spec_natCmp.f, spec_natCmp.l0, w1, rd, show ¬ x < y from by omega]; intro he; omega, by omega⟩
theorem blen_shift (v : Nat) : ∀ j, 0 < v / 2 ^ j → blen v = j + blen (v / 2 ^ j)
  | 0, _ => by rw [Nat.pow_zero, Nat.div_one, Nat.zero_add]
  | j + 1, h => by
    have e : v / 2 ^ (j + 1) = v / 2 ^ j / 2 := by rw [Nat.pow_succ, Nat.div_div_eq_div_mul]
    rw [e] at h ⊢
    have h2 := blen_shift v j (by omega)
    have h3 := blen_half (v / 2 ^ j) (by omega)
    omega
theorem blen_two (v : Nat) (h : 4294967296 ≤ v) : blen v = 32 + blen (v / 4294967296) := by
  have e : (4294967296 : Nat) = 2 ^ 32 := by decide
  have h2 := blen_shift v 32 (by rw [← e]; omega)
  rw [← e] at h2
  exact h2
theorem blen_le (v : Nat) (h : v < 18446744073709551616) : blen v ≤ 64 := by
  unfold blen
  by_cases h0 : v = 0
  · rw [if_pos h0]; omega
  · rw [if_neg h0]
    have : v.log2 < 64 := (Nat.log2_lt h0).2 h
    omega
theorem bits_lim (v : Nat) (h0 : 0 < v) (h : v < 18446744073709551616) : Ev (fun k => spec_natBits.f k (lim v)) (blen v : Int) := by
  have hl := blen_le v h
  unfold lim
  rw [if_neg (by omega)]
  by_cases h2 : v < 4294967296
  · rw [if_pos h2]
    exact bits_one v h0 (by omega)
  · rw [if_neg h2]
    have hb := blen_two v (by omega)
    obtain ⟨x, hx⟩ : ∃ x, x = v / 4294967296 := ⟨_, rfl⟩
    obtain ⟨u, hu⟩ : ∃ u, u = v % 4294967296 := ⟨_, rfl⟩
    rw [← hx] at hb ⊢
    rw [← hu]
    have h3 := bits_loop x [(u : Int), (x : Int)] 0 (Or.inr rfl) (by omega)
    have e : (32 * ((([(u : Int), (x : Int)] : List Int).length : Int) - 1) + ((0 + blen x : Nat) : Int)) = (blen v : Int) := by
      show (32 * (((2 : Nat) : Int) - 1) + ((0 + blen x : Nat) : Int)) = _
      omega
    rw [e] at h3
    refine Ev.congr (f := fun k => spec_natBits.l0 k [(u : Int), (x : Int)] ((0 : Nat) : Int) (x : Int)) (fun k => ?_) h3
    unfold spec_natBits.f
    have e1 : wrap64 ((([(u : Int), (x : Int)] : List Int).length : Int) - 1) = 1 := by
      show wrap64 (((2 : Nat) : Int) - 1) = 1
      exact w64 _ (by omega) (by omega)
    have e2 : ¬ ((([(u : Int), (x : Int)] : List Int).length : Int) = 0) := by
      show ¬ (((2 : Nat) : Int) = 0)
      decide
    have e3 : (1 : Int) < (([(u : Int), (x : Int)] : List Int).length : Int) := by
      show (1 : Int) < ((2 : Nat) : Int)
      decide
    rw [e1, if_neg e2, if_pos (by decide), if_pos e3]
    rfl
theorem u64w (n : Int) (h0 : 0 ≤ n) (h1 : n < 18446744073709551616) : IntKind.u64.wrap n = n := by
  have : IntKind.u64.wrap n = n % 18446744073709551616 := by simp [IntKind.wrap, IntKind.bits, IntKind.signed]
  rw [this]; omega
theorem sub_one (a b : Nat) (ha : a < 4294967296) (hb : b < a) (h0 : 0 < b) : spec_natSub.f 6 [(a : Int)] [(b : Int)] = some [((a - b : Nat) : Int)] := by
  have w1 : wrap64 (1 : Int) = 1 := by unfold wrap64; omega
  have w0 : wrap64 (0 : Int) = 0 := by unfold wrap64; omega
  have e1 : IntKind.u64.wrap (b : Int) = b := u64w _ (by omega) (by omega)
  have e2 : IntKind.u64.wrap ((a : Int) - b) = ((a - b : Nat) : Int) := by rw [u64w _ (by omega) (by omega)]; omega
  have e3 : ¬ (a < b) := by omega
  have e4 : ¬ (a - b = 0) := by omega
  simp [spec_natSub.f, spec_natSub.l0, spec_natTrim.f, spec_natTrim.l0, rd, w1, w0, e1, e2, e3]
  omega
theorem sub_same (a : Nat) (ha : a < 4294967296) (h0 : 0 < a) : spec_natSub.f 6 [(a : Int)] [(a : Int)] = some [] := by
  have w1 : wrap64 (1 : Int) = 1 := by unfold wrap64; omega
  have w0 : wrap64 (0 : Int) = 0 := by unfold wrap64; omega
  have e1 : IntKind.u64.wrap (a : Int) = a := u64w _ (by omega) (by omega)
  have e2 : IntKind.u64.wrap (0 : Int) = 0 := u64w _ (by omega) (by omega)
  simp [spec_natSub.f, spec_natSub.l0, spec_natTrim.f, spec_natTrim.l0, rd, w1, w0, e1, e2]
end Go.Proofs.YtheichpmhfledaaDoor
set_option linter.unusedVariables false
set_option linter.unusedSimpArgs false
namespace Go.Proofs.YtheichpmhfledaaDoor
open Go Go.RowKit Go.Proofs.YtheichpmhfledaaDoorW.PrintWords Go.Proofs.YtheichpmhfledaaDoor.PRound
theorem sub_two (u x y : Nat) (hu : u < 4294967296) (hx : x < 4294967296) (h0 : 0 < y) (h : y ≤ x) : spec_natSub.f 6 [(u : Int), (x : Int)] [(0 : Int), (y : Int)] = some (lim (u + (x - y) * 4294967296)) := by
  have w2 : wrap64 (2 : Int) = 2 := by unfold wrap64; omega
  have w1 : wrap64 (1 : Int) = 1 := by unfold wrap64; omega
  have w0 : wrap64 (0 : Int) = 0 := by unfold wrap64; omega
  have e1 : IntKind.u64.wrap (0 : Int) = 0 := u64w _ (by omega) (by omega)
  have e2 : IntKind.u64.wrap (u : Int) = u := u64w _ (by omega) (by omega)
  have e3 : IntKind.u64.wrap (y : Int) = y := u64w _ (by omega) (by omega)
  have e4 : IntKind.u64.wrap ((x : Int) - y) = ((x - y : Nat) : Int) := by rw [u64w _ (by omega) (by omega)]; omega
  have e5 : ¬ (x < y) := by omega
  obtain ⟨d, hd⟩ : ∃ d, d = x - y := ⟨_, rfl⟩
  rw [← hd] at e4 ⊢
  by_cases d0 : d = 0
  · subst d0
    by_cases u0 : u = 0
    · subst u0
      have : x = y := by omega
      subst this
      simp [spec_natSub.f, spec_natSub.l0, spec_natTrim.f, spec_natTrim.l0, rd, w1, w2, w0, e1, e2, e3, e4, e5, lim]
    · have : x = y := by omega
      subst this
      simp [spec_natSub.f, spec_natSub.l0, spec_natTrim.f, spec_natTrim.l0, rd, w1, w2, w0, e1, e2, e3, e4, e5, lim, u0, hu]
      intro h9; omega
  · have g1 : ¬ (u + d * 4294967296 = 0) := by omega
    have g2 : ¬ (u + d * 4294967296 < 4294967296) := by omega
    have g3 : (u + d * 4294967296) % 4294967296 = u := by omega
    have g4 : (u + d * 4294967296) / 4294967296 = d := by omega
    unfold lim
    rw [if_neg g1, if_neg g2, g3, g4]
    simp [spec_natSub.f, spec_natSub.l0, spec_natTrim.f, spec_natTrim.l0, rd, w1, w2, w0, e1, e2, e3, e4, e5, d0]
    intro h9; omega
theorem u64_mask (n : Nat) (h : n < 18446744073709551616) : Go.bits .and .u64 (n : Int) 4294967295 = ((n % 4294967296 : Nat) : Int) := by
  have h2 := bits_mask .u64 64 (by decide) (fun m h0 h1 => u64w m h0 (by simpa using h1)) 32 (by decide) (n : Int) (by omega) (by simpa using (by omega : (n : Int) < 18446744073709551616))
  have e : ((2 : Int) ^ 32 - 1) = 4294967295 := by decide
  have e2 : ((2 : Int) ^ 32) = 4294967296 := by decide
  rw [e, e2] at h2
  rw [h2]
  omega
theorem u64_or0 (n : Nat) (h : n < 18446744073709551616) : Go.bits .or .u64 (n : Int) 0 = (n : Int) := by
  have h2 := (bits_nat .u64 64 (by decide) (fun m h0 h1 => u64w m h0 (by simpa using h1)) n 0 (by simpa using h) (by decide)).2
  rw [Nat.or_zero] at h2
  exact h2
theorem shl_at (n r : Nat) (hr : r < 32) (h : n * 2 ^ r < 18446744073709551616) : shl .u64 (n : Int) (r : Int) = ((n * 2 ^ r : Nat) : Int) := by
  unfold shl
  have e1 : (min ((r : Int)).toNat IntKind.u64.bits) = r := by
    rw [Int.toNat_natCast]
    have : IntKind.u64.bits = 64 := rfl
    rw [this]
    omega
  rw [e1]
  have e2 : ((n : Int) * 2 ^ r) = ((n * 2 ^ r : Nat) : Int) := by
    rw [Int.natCast_mul, Int.natCast_pow]
    rfl
  rw [e2]
  exact u64w _ (by omega) (by omega)
theorem tdiv32 (s : Nat) : Int.tdiv (s : Int) 32 = ((s / 32 : Nat) : Int) := by
  rw [Int.tdiv_eq_ediv_of_nonneg (by omega)]; omega
theorem tmod32 (s : Nat) : Int.tmod (s : Int) 32 = ((s % 32 : Nat) : Int) := by
  rw [Int.tmod_eq_emod_of_nonneg (by omega)]; omega
/-- What natShift tells of one limb, by its parts. -/
theorem shift_parts (n s X : Nat) (hs : s < 64) (hX : X = n * 2 ^ (s % 32)) (hx : X < 18446744073709551616) :
    spec_natShift.f 8 [(n : Int)] (s : Int) = spec_natTrim.f 6 (List.replicate (s / 32) 0 ++ [((X % 4294967296 : Nat) : Int)] ++ [((X / 4294967296 : Nat) : Int)]) := by
  have w1 : wrap64 (1 : Int) = 1 := by unfold wrap64; omega
  have e1 : wrap64 ((s / 32 : Nat) : Int) = ((s / 32 : Nat) : Int) := w64 _ (by omega) (by omega)
  have e2 : shl .u64 (n : Int) ((s % 32 : Nat) : Int) = (X : Int) := by rw [hX]; exact shl_at n (s % 32) (by omega) (by omega)
  have e3 := u64_or0 X hx
  have e4 := u64_mask X hx
  have e5 : (X : Int) / 4294967296 = ((X / 4294967296 : Nat) : Int) := by omega
  have e6 : (List.replicate (s / 32) (0 : Int)).length < 17592186044416 := by rw [List.length_replicate]; omega
  have e7 : (List.replicate (s / 32) (0 : Int) ++ [((X % 4294967296 : Nat) : Int)]).length < 17592186044416 := by rw [List.length_append, List.length_replicate, List.length_singleton]; omega
  have r0 : rd [(n : Int)] 0 = (n : Int) := rfl
  have bs : ∀ o : Option (List Int), (o.bind fun t119 => some t119) = o := fun o => by cases o <;> rfl
  unfold spec_natShift.f
  rw [tdiv32, e1, if_pos (by omega), Int.toNat_natCast, if_pos (by omega)]
  show spec_natShift.l0 (7 + 1) _ _ _ _ _ = _
  rw [spec_natShift.l0, if_pos (by show (0 : Int) < ((1 : Nat) : Int); decide), if_pos (Int.le_refl 0), tmod32, if_pos (by omega), if_pos e6, r0, e2, e3, e4, e5, show ((0 : Int) + 1) = 1 from rfl, w1]
  show spec_natShift.l0 (6 + 1) _ _ _ _ _ = _
  rw [spec_natShift.l0, if_neg (by show ¬ ((1 : Int) < ((1 : Nat) : Int)); decide), if_pos e7, bs]
theorem shift_lim (n s : Nat) (h0 : 0 < n) (h1 : n < 4294967296) (hs : s < 54) (h : n * 2 ^ s < 18014398509481984) : spec_natShift.f 8 [(n : Int)] (s : Int) = some (lim (n * 2 ^ s)) := by
  have w3 : wrap64 (3 : Int) = 3 := by unfold wrap64; omega
  have w2 : wrap64 (2 : Int) = 2 := by unfold wrap64; omega
  have w1 : wrap64 (1 : Int) = 1 := by unfold wrap64; omega
  have w0 : wrap64 (0 : Int) = 0 := by unfold wrap64; omega
  by_cases hc : s < 32
  · obtain ⟨X, hX⟩ : ∃ X, X = n * 2 ^ s := ⟨_, rfl⟩
    have hp : 0 < 2 ^ s := Nat.pow_pos (by decide)
    have hX0 : 0 < X := by rw [hX]; exact Nat.mul_pos h0 hp
    have e1 : s % 32 = s := by omega
    have e2 : s / 32 = 0 := by omega
    rw [shift_parts n s X (by omega) (by rw [e1]; exact hX) (by omega), e2, ← hX]
    rw [← hX] at h
    clear hX hp e1 e2
    unfold lim
    rw [if_neg (by omega)]
    by_cases hb : X < 4294967296
    · rw [if_pos hb]
      have f1 : X / 4294967296 = 0 := by omega
      have f2 : X % 4294967296 = X := by omega
      have f3 : ¬ X = 0 := by omega
      rw [f1, f2]
      simp [spec_natTrim.f, spec_natTrim.l0, rd, w1, w0, w2, f3]
    · rw [if_neg hb]
      obtain ⟨d, hd⟩ : ∃ d, d = X / 4294967296 := ⟨_, rfl⟩
      have f3 : ¬ d = 0 := by omega
      rw [← hd]
      simp [spec_natTrim.f, spec_natTrim.l0, rd, w1, w0, w2, f3]
  · obtain ⟨X, hX⟩ : ∃ X, X = n * 2 ^ (s - 32) := ⟨_, rfl⟩
    have hp : 0 < 2 ^ (s - 32) := Nat.pow_pos (by decide)
    have hX0 : 0 < X := by rw [hX]; exact Nat.mul_pos h0 hp
    have hXX : n * 2 ^ s = X * 4294967296 := by
      have : 2 ^ s = 2 ^ (s - 32) * 2 ^ 32 := by rw [← Nat.pow_add]; congr 1; omega
      rw [hX, this, Nat.mul_assoc]
    have e1 : s % 32 = s - 32 := by omega
    have e2 : s / 32 = 1 := by omega
    rw [hXX] at h
    rw [shift_parts n s X (by omega) (by rw [e1]; exact hX) (by omega), e2, hXX]
    clear hX hp e1 e2 hXX
    unfold lim
    have f1 : X / 4294967296 = 0 := by omega
    have f2 : X % 4294967296 = X := by omega
    have f3 : ¬ X = 0 := by omega
    rw [if_neg (by omega), if_neg (by omega), f1, f2, show X * 4294967296 % 4294967296 = 0 from by omega, show X * 4294967296 / 4294967296 = X from by omega]
    simp [spec_natTrim.f, spec_natTrim.l0, rd, w1, w0, w2, w3, f3]
theorem shift_ev (l : List Int) (a : Int) (k : Nat) (r : List Int) (h : spec_natShift.f k l a = some r) : Ev (fun k => spec_natShift.f k l a) r := Ev.of (fun k => spec_natShift.mono l a k) h
theorem lim_small (v : Nat) (h0 : 0 < v) (h : v < 4294967296) : lim v = [(v : Int)] := by unfold lim; rw [if_neg (by omega), if_pos h]
theorem lim_big (v : Nat) (h : 4294967296 ≤ v) : lim v = [((v % 4294967296 : Nat) : Int), ((v / 4294967296 : Nat) : Int)] := by unfold lim; rw [if_neg (by omega), if_neg (by omega)]
theorem sub_pow (v m : Nat) (hm : m < 64) (hv : v < 18446744073709551616) (h : 2 ^ m ≤ v) (h2 : v < 2 ^ (m + 1)) : spec_natSub.f 6 (lim v) (lim (2 ^ m)) = some (lim (v - 2 ^ m)) := by
  have hp : 0 < 2 ^ m := Nat.pow_pos (by decide)
  by_cases hm2 : m < 32
  · have h3 : v < 4294967296 := Nat.lt_of_lt_of_le h2 (by rw [show (4294967296 : Nat) = 2 ^ 32 from by decide]; exact Nat.pow_le_pow_right (by decide) (by omega))
    rw [lim_small v (by omega) h3, lim_small (2 ^ m) hp (by omega)]
    by_cases he : v = 2 ^ m
    · rw [← he, sub_same v h3 (by omega), Nat.sub_self]
      rfl
    · rw [sub_one v (2 ^ m) h3 (by omega) hp, lim_small (v - 2 ^ m) (by omega) (by omega)]
  · have e : 2 ^ m = 2 ^ (m - 32) * 4294967296 := by
      rw [show (4294967296 : Nat) = 2 ^ 32 from by decide, ← Nat.pow_add]; congr 1; omega
    have hp2 : 0 < 2 ^ (m - 32) := Nat.pow_pos (by decide)
    rw [e] at h ⊢
    obtain ⟨y, hy⟩ : ∃ y, y = 2 ^ (m - 32) := ⟨_, rfl⟩
    rw [← hy] at h hp2 ⊢
    clear e hy hp h2
    rw [lim_big v (by omega), lim_big (y * 4294967296) (by omega), show y * 4294967296 % 4294967296 = 0 from by omega, show y * 4294967296 / 4294967296 = y from by omega]
    have := sub_two (v % 4294967296) (v / 4294967296) y (by omega) (by omega) hp2 (by omega)
    rw [show v % 4294967296 + (v / 4294967296 - y) * 4294967296 = v - y * 4294967296 from by omega] at this
    exact this
theorem div_loop : ∀ (m q v : Nat), m ≤ 60 → v < 2 ^ m → q * 2 ^ m + v < 9223372036854775808 → Ev (fun k => spec_natDiv.l0 k (lim v) [1] (q : Int) ((m : Int) - 1)) (((q * 2 ^ m + v : Nat) : Int), [])
  | 0, q, v, hm, hv, hq => by
    have hv0 : v = 0 := by rw [Nat.pow_zero] at hv; omega
    subst hv0
    refine Ev.step (f := fun _ => some (((q * 2 ^ 0 + 0 : Nat) : Int), [])) (fun k => ?_) (Ev.now _)
    rw [Nat.pow_zero, Nat.mul_one, Nat.add_zero]
    simp only [spec_natDiv.l0]
    rw [if_neg (by omega)]
    rfl
  | m + 1, q, v, hm, hv, hq => by
    have hp : 0 < 2 ^ m := Nat.pow_pos (by decide)
    have hps : 2 ^ (m + 1) = 2 * 2 ^ m := by rw [Nat.pow_succ, Nat.mul_comm]
    have hle : 2 ^ m ≤ 1152921504606846976 := by rw [show (1152921504606846976 : Nat) = 2 ^ 60 from by decide]; exact Nat.pow_le_pow_right (by decide) (by omega)
    have hb : v < 18446744073709551616 := by omega
    obtain ⟨c, hc, hc2⟩ := cmp_lim v (2 ^ m) hb (by omega)
    have em : ((m + 1 : Nat) : Int) - 1 = (m : Int) := by omega
    have ew : wrap64 ((m : Int) - 1) = (m : Int) - 1 := w64 _ (by omega) (by omega)
    have hqq : q * 2 ^ (m + 1) = (2 * q) * 2 ^ m := by rw [hps]; rw [← Nat.mul_assoc, Nat.mul_comm q 2]
    have hq2 : q ≤ q * 2 ^ (m + 1) := Nat.le_mul_of_pos_right _ (Nat.pow_pos (by decide))
    have hqb : 2 * q ≤ q * 2 ^ (m + 1) := by rw [hqq]; exact Nat.le_mul_of_pos_right _ hp
    have hcev : Ev (fun k => spec_natCmp.f k (lim v) (lim (2 ^ m))) c := Ev.of (fun k => spec_natCmp.mono _ _ k) hc
    have hsh := shift_ev [1] (m : Int) 9 (lim (2 ^ m)) (shift_one m (by omega))
    have u1 : IntKind.u64.wrap ((q : Int) * 2) = ((2 * q : Nat) : Int) := by rw [u64w _ (by omega) (by omega)]; omega
    have hg : ∀ k, spec_natDiv.l0 (k + 1) (lim v) [1] (q : Int) (((m + 1 : Nat) : Int) - 1) = (spec_natShift.f k [1] (m : Int)).bind fun t146 => ((spec_natCmp.f k (lim v) t146).bind fun t149 => (if t149 ≥ 0 then ((spec_natSub.f k (lim v) t146).bind fun t150 => (spec_natDiv.l0 k t150 [1] (IntKind.u64.wrap ((IntKind.u64.wrap ((q : Int) * 2)) + 1)) (wrap64 ((m : Int) - 1)))) else (spec_natDiv.l0 k (lim v) [1] (IntKind.u64.wrap ((q : Int) * 2)) (wrap64 ((m : Int) - 1))))) := fun k => by
      rw [em]
      simp only [spec_natDiv.l0]
      rw [if_pos (by omega)]
    refine Ev.step hg (Ev.bind hsh (Ev.bind hcev ?_))
    by_cases hcc : 0 ≤ c
    · have hvb := hc2.1 hcc
      have hsub : Ev (fun k => spec_natSub.f k (lim v) (lim (2 ^ m))) (lim (v - 2 ^ m)) := Ev.of (fun k => spec_natSub.mono _ _ k) (sub_pow v m (by omega) hb hvb hv)
      have u2 : IntKind.u64.wrap (((2 * q : Nat) : Int) + 1) = ((2 * q + 1 : Nat) : Int) := by
        have h5 : 2 * q + 2 ^ m ≤ 2 * q * 2 ^ m + 2 ^ m := Nat.add_le_add_right (Nat.le_mul_of_pos_right _ hp) _
        rw [u64w _ (by omega) (by omega)]; omega
      have e9 : q * 2 ^ (m + 1) + v = (2 * q + 1) * 2 ^ m + (v - 2 ^ m) := by rw [hqq, Nat.add_mul, Nat.one_mul]; omega
      rw [e9] at hq ⊢
      have ih := div_loop m (2 * q + 1) (v - 2 ^ m) (by omega) (by omega) hq
      refine Ev.congr (fun k => if_pos hcc) (Ev.bind hsub ?_)
      rw [u1, u2, ew]
      exact ih
    · have hvb : v < 2 ^ m := by
        rcases Nat.lt_or_ge v (2 ^ m) with h | h
        · exact h
        · exact absurd (hc2.2 h) hcc
      rw [hqq] at hq ⊢
      have ih := div_loop m (2 * q) v (by omega) hvb hq
      refine Ev.congr (fun k => if_neg hcc) ?_
      rw [u1, ew]
      exact ih
theorem blen_lt (v : Nat) : v < 2 ^ blen v := by
  unfold blen
  by_cases h : v = 0
  · rw [if_pos h]; omega
  · rw [if_neg h]; exact Nat.lt_log2_self
theorem div_lim (v : Nat) (h0 : 0 < v) (h : v < 18014398509481984) : Ev (fun k => spec_natDiv.f k (lim v) [1]) ((v : Int), []) := by
  have hb : blen v ≤ 54 := by
    unfold blen
    rw [if_neg (by omega)]
    have : v.log2 < 54 := (Nat.log2_lt (by omega)).2 (by have : (2 : Nat) ^ 54 = 18014398509481984 := by decide
                                                         omega)
    omega
  have h1 := bits_one 1 (by omega) (by decide)
  have e1 : (blen 1 : Int) = 1 := by decide
  rw [e1] at h1
  have h2 := div_loop (blen v) 0 v (by omega) (blen_lt v) (by omega)
  rw [Nat.zero_mul, Nat.zero_add] at h2
  refine Ev.congr (fun k => by unfold spec_natDiv.f; rfl) (Ev.bind (bits_lim v h0 (by omega)) (Ev.bind h1 ?_))
  rw [w64 _ (by omega) (by omega)]
  exact h2
theorem round_eval (n : Nat) (h0 : 0 < n) (h1 : n < 4294967296) : ∃ k x1 x2 z, spec_natBits.f k [(n : Int)] = some ((n.log2 : Int) + 1) ∧ spec_natBits.f k [1] = some 1 ∧
    spec_natShift.f k [(n : Int)] (54 - ((n.log2 : Int) + 1)) = some x1 ∧ spec_natDiv.f k x1 [1] = some (((n * 2 ^ (53 - n.log2) : Nat) : Int), []) ∧
    spec_natShift.f k [(n : Int)] (53 - ((n.log2 : Int) + 1)) = some x2 ∧ spec_natDiv.f k x2 [1] = some (((n * 2 ^ (52 - n.log2) : Nat) : Int), []) ∧
    spec_natShift.f k [] 1 = some z ∧ spec_natCmp.f k z [1] = some (-1) := by
  have hl : n.log2 < 32 := (Nat.log2_lt (by omega)).2 (by have : (2 : Nat) ^ 32 = 4294967296 := by decide
                                                          omega)
  have hhi : n < 2 ^ (n.log2 + 1) := Nat.lt_log2_self
  have q53 : 2 ^ (n.log2 + 1) * 2 ^ (53 - n.log2) = 18014398509481984 := by
    rw [← Nat.pow_add]
    have : n.log2 + 1 + (53 - n.log2) = 54 := by omega
    rw [this]
  have q52 : 2 ^ (n.log2 + 1) * 2 ^ (52 - n.log2) = 9007199254740992 := by
    rw [← Nat.pow_add]
    have : n.log2 + 1 + (52 - n.log2) = 53 := by omega
    rw [this]
  have g1 : n * 2 ^ (53 - n.log2) < 18014398509481984 := by rw [← q53]; exact Nat.mul_lt_mul_of_pos_right hhi (Nat.pow_pos (by decide))
  have g2 : n * 2 ^ (52 - n.log2) < 9007199254740992 := by rw [← q52]; exact Nat.mul_lt_mul_of_pos_right hhi (Nat.pow_pos (by decide))
  have p1 : 0 < n * 2 ^ (53 - n.log2) := Nat.mul_pos h0 (Nat.pow_pos (by decide))
  have p2 : 0 < n * 2 ^ (52 - n.log2) := Nat.mul_pos h0 (Nat.pow_pos (by decide))
  have hbl : (blen n : Int) = (n.log2 : Int) + 1 := by unfold blen; rw [if_neg (by omega)]; omega
  have hb := bits_one n h0 (by unfold blen; rw [if_neg (by omega)]; omega)
  rw [hbl] at hb
  have hb1 := bits_one 1 (by omega) (by decide)
  have e1 : (blen 1 : Int) = 1 := by decide
  rw [e1] at hb1
  have s1 := shift_lim n (53 - n.log2) h0 h1 (by omega) g1
  have s2 := shift_lim n (52 - n.log2) h0 h1 (by omega) (by omega)
  have c1 : ((53 - n.log2 : Nat) : Int) = 54 - ((n.log2 : Int) + 1) := by omega
  have c2 : ((52 - n.log2 : Nat) : Int) = 53 - ((n.log2 : Int) + 1) := by omega
  rw [c1] at s1
  rw [c2] at s2
  obtain ⟨k1, hk1⟩ := hb
  obtain ⟨k2, hk2⟩ := hb1
  obtain ⟨k3, hk3⟩ := shift_ev _ _ _ _ s1
  obtain ⟨k4, hk4⟩ := div_lim _ p1 g1
  obtain ⟨k5, hk5⟩ := shift_ev _ _ _ _ s2
  obtain ⟨k6, hk6⟩ := div_lim _ p2 (by omega)
  obtain ⟨j, hj⟩ := shift_nil
  obtain ⟨k7, hk7⟩ := shift_ev _ _ _ _ hj
  let K := k1 + k2 + k3 + k4 + k5 + k6 + k7
  exact ⟨K, _, _, _, hk1 K (by omega), hk2 K (by omega), hk3 K (by omega), hk4 K (by omega), hk5 K (by omega), hk6 K (by omega), hk7 K (by omega), cmp_nil K⟩
end Go.Proofs.YtheichpmhfledaaDoor
