/- The limbs' functions, printed twice, are the same functions. The limbs' functions at numbers below 2^64: shift, difference, quotient, product. The shortest digits of a whole number below 2^31: those of the number, cut behind the last one that is not 0. NumberText and NumText at whole numbers below 2^31, walked. The doubles of whole numbers of 32 bits: made, cut, turned back, compared. Digits with a radix; numDigit and NumTextIn, walked. formatBits, walked at every radix but ten. formatBits, walked at every radix but ten. FormatInt at every radix, NumberToString at whole numbers, and the law FnNumberWhole, walked. -/
import Derived.Test.YtheichpmhfledaaDoorPNumberTextx4
import Derived.Test.YtheichpmhfledaaDoorExtLimb2
import Derived.Test.YtheichpmhfledaaDoorExtPlain
import Derived.Test.YtheichpmhfledaaDoorExtT
import Derived.Lib.ItoaMem
import Derived.Lib.EndianBits
import Derived.Lib.TrailingZeros
import Derived.Lib.SmallJoins
import Derived.Test.YtheichpmhfledaaDoorExtT
set_option linter.unusedVariables false
namespace Go.Proofs.YtheichpmhfledaaDoor
open Go Go.RowKit Go.Proofs.YtheichpmhfledaaDoorW.PrintWords
theorem same_trim : @PNumberText.spec_natTrim.f = @PRound.spec_natTrim.f := by kernel_rfl
theorem same_bits : @PNumberText.spec_natBits.f = @PRound.spec_natBits.f := by kernel_rfl
theorem same_shift : @PNumberText.spec_natShift.f = @PRound.spec_natShift.f := by kernel_rfl
theorem same_cmp : @PNumberText.spec_natCmp.f = @PRound.spec_natCmp.f := by kernel_rfl
theorem same_sub : @PNumberText.spec_natSub.f = @PRound.spec_natSub.f := by kernel_rfl
theorem same_div : @PNumberText.spec_natDiv.f = @PRound.spec_natDiv.f := by kernel_rfl
end Go.Proofs.YtheichpmhfledaaDoor
set_option linter.unusedVariables false
set_option linter.unusedSimpArgs false
namespace Go.Proofs.YtheichpmhfledaaDoor
open Go Go.RowKit Go.Proofs.YtheichpmhfledaaDoorW.PrintWords Go.Proofs.YtheichpmhfledaaDoor.PNumberText
theorem trim2 (u x : Nat) (hu : u < 4294967296) (hx : x < 4294967296) : spec_natTrim.f 6 [(u : Int), (x : Int)] = some (lim (u + x * 4294967296)) := by
  have w2 : wrap64 (2 : Int) = 2 := by unfold wrap64; omega
  have w1 : wrap64 (1 : Int) = 1 := by unfold wrap64; omega
  have w0 : wrap64 (0 : Int) = 0 := by unfold wrap64; omega
  by_cases x0 : x = 0
  · subst x0
    by_cases u0 : u = 0
    · subst u0
      simp [spec_natTrim.f, spec_natTrim.l0, rd, w1, w2, w0, lim]
    · simp [spec_natTrim.f, spec_natTrim.l0, rd, w1, w2, w0, lim, u0, hu]
  · have g1 : ¬ (u + x * 4294967296 = 0) := by omega
    have g2 : ¬ (u + x * 4294967296 < 4294967296) := by omega
    have g3 : (u + x * 4294967296) % 4294967296 = u := by omega
    have g4 : (u + x * 4294967296) / 4294967296 = x := by omega
    unfold lim
    rw [if_neg g1, if_neg g2, g3, g4]
    simp [spec_natTrim.f, spec_natTrim.l0, rd, w1, w2, w0, x0]
theorem trim3 (u x : Nat) (hu : u < 4294967296) (hx : x < 4294967296) : spec_natTrim.f 6 [(u : Int), (x : Int), 0] = some (lim (u + x * 4294967296)) := by
  have w3 : wrap64 (3 : Int) = 3 := by unfold wrap64; omega
  have w2 : wrap64 (2 : Int) = 2 := by unfold wrap64; omega
  have w1 : wrap64 (1 : Int) = 1 := by unfold wrap64; omega
  have w0 : wrap64 (0 : Int) = 0 := by unfold wrap64; omega
  by_cases x0 : x = 0
  · subst x0
    by_cases u0 : u = 0
    · subst u0
      simp [spec_natTrim.f, spec_natTrim.l0, rd, w1, w2, w0, w3, lim]
    · simp [spec_natTrim.f, spec_natTrim.l0, rd, w1, w2, w0, w3, lim, u0, hu]
  · have g1 : ¬ (u + x * 4294967296 = 0) := by omega
    have g2 : ¬ (u + x * 4294967296 < 4294967296) := by omega
    have g3 : (u + x * 4294967296) % 4294967296 = u := by omega
    have g4 : (u + x * 4294967296) / 4294967296 = x := by omega
    unfold lim
    rw [if_neg g1, if_neg g2, g3, g4]
    simp [spec_natTrim.f, spec_natTrim.l0, rd, w1, w2, w0, w3, x0]
theorem trim2_ev (u x : Nat) (hu : u < 4294967296) (hx : x < 4294967296) : Ev (fun k => spec_natTrim.f k [(u : Int), (x : Int)]) (lim (u + x * 4294967296)) := Ev.of (fun k => spec_natTrim.mono _ k) (trim2 u x hu hx)
theorem split64 (v : Nat) : v % 4294967296 + v / 4294967296 * 4294967296 = v := by omega
theorem shift_two (u x r : Nat) (hu : u < 4294967296) (hr : r < 32) (hv : (u + x * 4294967296) * 2 ^ r < 18446744073709551616) : spec_natShift.f 9 [(u : Int), (x : Int)] (r : Int) = some (lim ((u + x * 4294967296) * 2 ^ r)) := by
  have w2 : wrap64 (2 : Int) = 2 := by unfold wrap64; omega
  have w1 : wrap64 (1 : Int) = 1 := by unfold wrap64; omega
  have w0 : wrap64 (0 : Int) = 0 := by unfold wrap64; omega
  have hp : 0 < 2 ^ r := Nat.pow_pos (by decide)
  have hp32 : 2 ^ r < 4294967296 := by rw [show (4294967296 : Nat) = 2 ^ 32 from by decide]; exact Nat.pow_lt_pow_right (by decide) hr
  have hup : u * 2 ^ r < 4294967296 * 2 ^ r := Nat.mul_lt_mul_of_pos_right hu hp
  have e0 : Int.tmod (r : Int) 32 = (r : Int) := by rw [tmod32, Nat.mod_eq_of_lt hr]
  have ed : wrap64 (Int.tdiv (r : Int) 32) = 0 := by rw [tdiv32, Nat.div_eq_of_lt hr]; exact w0
  have hsum : (u + x * 4294967296) * 2 ^ r = u * 2 ^ r + x * 2 ^ r * 4294967296 := by rw [Nat.add_mul, Nat.mul_right_comm]
  have hx : x * 2 ^ r < 4294967296 := by omega
  have s0 := shl_at u r hr (by omega)
  have s1 := shl_at x r hr (by omega)
  have hxr : ((x * 2 ^ r : Nat) : Int) % 2 ^ r = 0 := by
    have : ((x * 2 ^ r : Nat) : Int) = (x : Int) * 2 ^ r := by rw [Int.natCast_mul, Int.natCast_pow]; rfl
    rw [this]
    exact Int.mul_emod_left _ _
  have hcar : u * 2 ^ r / 4294967296 < 2 ^ r := by rw [Nat.div_lt_iff_lt_mul (by decide), Nat.mul_comm (2 ^ r)]; exact hup
  have hcari : ((u * 2 ^ r / 4294967296 : Nat) : Int) < 2 ^ r := by
    have : ((2 : Int) ^ r) = ((2 ^ r : Nat) : Int) := by rw [Int.natCast_pow]; rfl
    rw [this]
    omega
  have s2 := bits_join .u64 64 (by decide) (fun m h0 h1 => u64w m h0 (by simpa using h1)) r ((x * 2 ^ r : Nat) : Int) ((u * 2 ^ r / 4294967296 : Nat) : Int) (by omega) hxr (by simpa using (by omega : ((x * 2 ^ r : Nat) : Int) < 18446744073709551616)) (by omega) hcari (by simpa using (by omega : ((u * 2 ^ r / 4294967296 : Nat) : Int) < 18446744073709551616))
  rw [hsum] at hv ⊢
  obtain ⟨X, hX⟩ : ∃ X, X = u * 2 ^ r := ⟨_, rfl⟩
  obtain ⟨Y, hY⟩ : ∃ Y, Y = x * 2 ^ r := ⟨_, rfl⟩
  obtain ⟨P, hP⟩ : ∃ P, P = 2 ^ r := ⟨_, rfl⟩
  rw [← hX] at s0 s2 hup hcar hv ⊢
  rw [← hY] at s1 s2 hx hv ⊢
  rw [← hP] at hp32 hcar hup
  clear hX hY hP hxr hsum hcari hp
  have s3 : ((Y : Int) + ((X / 4294967296 : Nat) : Int)) = ((Y + X / 4294967296 : Nat) : Int) := by omega
  rw [s3] at s2
  have hX64 : X < 18446744073709551616 := by omega
  obtain ⟨Z, hZ⟩ : ∃ Z, Z = Y + X / 4294967296 := ⟨_, rfl⟩
  have hZl : Z < 8589934592 := by omega
  rw [← hZ] at s2
  have m0 := u64_mask X hX64
  have m1 := u64_mask Z (by omega)
  have o0 := u64_or0 X hX64
  have d0 : (X : Int) / 4294967296 = ((X / 4294967296 : Nat) : Int) := by omega
  have d1 : (Z : Int) / 4294967296 = ((Z / 4294967296 : Nat) : Int) := by omega
  have r0 : rd [(u : Int), (x : Int)] 0 = (u : Int) := rfl
  have r1 : rd [(u : Int), (x : Int)] 1 = (x : Int) := rfl
  have bs : ∀ o : Option (List Int), (o.bind fun t119 => some t119) = o := fun o => by cases o <;> rfl
  have hZB : Z < 4294967296 := by omega
  have dz : Z / 4294967296 = 0 := by omega
  have mz : Z % 4294967296 = Z := by omega
  rw [mz] at m1
  rw [dz] at d1
  have hres : X % 4294967296 + Z * 4294967296 = X + Y * 4294967296 := by omega
  unfold spec_natShift.f
  rw [ed, if_pos (by decide), if_pos (by decide)]
  show spec_natShift.l0 (8 + 1) _ _ _ _ _ = _
  rw [spec_natShift.l0, if_pos (by show (0 : Int) < ((2 : Nat) : Int); decide), if_pos (Int.le_refl 0), e0, if_pos (by omega), if_pos (by simp), r0, s0, o0, m0, d0, show ((0 : Int) + 1) = 1 from rfl, w1]
  show spec_natShift.l0 (7 + 1) _ _ _ _ _ = _
  rw [spec_natShift.l0, if_pos (by show (1 : Int) < ((2 : Nat) : Int); decide), if_pos (by decide), e0, if_pos (by omega), if_pos (by simp), r1, s1, s2, m1, d1, show ((1 : Int) + 1) = 2 from rfl, w2]
  show spec_natShift.l0 (6 + 1) _ _ _ _ _ = _
  rw [spec_natShift.l0, if_neg (by show ¬ ((2 : Int) < ((2 : Nat) : Int)); decide), if_pos (by simp), bs]
  show spec_natTrim.f 6 [((X % 4294967296 : Nat) : Int), (Z : Int), 0] = _
  rw [trim3 _ _ (by omega) hZB, hres]
theorem shift_big (v s : Nat) (h0 : 0 < v) (hs : s < 64) (h : v * 2 ^ s < 18446744073709551616) : Ev (fun k => spec_natShift.f k (lim v) (s : Int)) (lim (v * 2 ^ s)) := by
  have hp : 0 < 2 ^ s := Nat.pow_pos (by decide)
  have hvs : v ≤ v * 2 ^ s := Nat.le_mul_of_pos_right _ hp
  by_cases hv : v < 4294967296
  · rw [lim_small v h0 hv]
    by_cases hc : s < 32
    · have e1 : s % 32 = s := by omega
      have e2 : s / 32 = 0 := by omega
      have hq := shift_parts v s (v * 2 ^ s) hs (by rw [e1]) h
      rw [e2, ← same_shift, ← same_trim] at hq
      refine Ev.of (fun k => spec_natShift.mono _ _ k) (hq.trans ?_)
      obtain ⟨X, hX⟩ : ∃ X, X = v * 2 ^ s := ⟨_, rfl⟩
      rw [← hX] at h ⊢
      have := trim2 (X % 4294967296) (X / 4294967296) (by omega) (by omega)
      rw [split64] at this
      exact this
    · have e1 : s % 32 = s - 32 := by omega
      have e2 : s / 32 = 1 := by omega
      have hXX : v * 2 ^ s = v * 2 ^ (s - 32) * 4294967296 := by
        have : 2 ^ s = 2 ^ (s - 32) * 2 ^ 32 := by rw [← Nat.pow_add]; congr 1; omega
        rw [this, Nat.mul_assoc]
      have hq := shift_parts v s (v * 2 ^ (s - 32)) hs (by rw [e1]) (by omega)
      rw [e2, ← same_shift, ← same_trim] at hq
      refine Ev.of (fun k => spec_natShift.mono _ _ k) (hq.trans ?_)
      rw [hXX] at h ⊢
      obtain ⟨X, hX⟩ : ∃ X, X = v * 2 ^ (s - 32) := ⟨_, rfl⟩
      rw [← hX] at h ⊢
      have := trim3 0 X (by omega) (by omega)
      rw [Nat.zero_add] at this
      rw [show X % 4294967296 = X from by omega, show X / 4294967296 = 0 from by omega]
      exact this
  · have hs32 : s < 32 := by
      by_cases hc : s < 32
      · exact hc
      · exfalso
        have h5 : 4294967296 ≤ 2 ^ s := by rw [show (4294967296 : Nat) = 2 ^ 32 from by decide]; exact Nat.pow_le_pow_right (by decide) (by omega)
        have h6 : 4294967296 * 4294967296 ≤ v * 2 ^ s := Nat.mul_le_mul (by omega) h5
        omega
    rw [lim_big v (by omega)]
    have := shift_two (v % 4294967296) (v / 4294967296) s (by omega) hs32 (by rw [split64]; exact h)
    rw [split64] at this
    exact Ev.of (fun k => spec_natShift.mono _ _ k) this
theorem shift_nil_ev : Ev (fun k => spec_natShift.f k (lim 0) 1) (lim 0) := Ev.of (k := 9) (fun k => spec_natShift.mono _ _ k) (by kernel_rfl)
theorem cmp_big (a b : Nat) (ha : a < 18446744073709551616) (hb : b < 18446744073709551616) : ∃ c, Ev (fun k => spec_natCmp.f k (lim a) (lim b)) c ∧ (0 ≤ c ↔ b ≤ a) := by
  obtain ⟨c, hc, h⟩ := cmp_lim a b ha hb
  rw [← same_cmp] at hc
  exact ⟨c, Ev.of (fun k => spec_natCmp.mono _ _ k) hc, h⟩
theorem bits_big (v : Nat) (h : v < 18446744073709551616) : Ev (fun k => spec_natBits.f k (lim v)) (blen v : Int) := by
  by_cases h0 : v = 0
  · subst h0
    exact Ev.of (k := 3) (fun k => spec_natBits.mono _ k) (by kernel_rfl)
  · have := bits_lim v (by omega) h
    rw [← same_bits] at this
    exact this
theorem sub_21 (u1 x1 u0 : Nat) (h1 : u1 < 4294967296) (h2 : x1 < 4294967296) (h3 : 0 < x1) (h4 : u0 < 4294967296) : spec_natSub.f 9 [(u1 : Int), (x1 : Int)] [(u0 : Int)] = some (lim (u1 + x1 * 4294967296 - u0)) := by
  have w2 : wrap64 (2 : Int) = 2 := by unfold wrap64; omega
  have w1 : wrap64 (1 : Int) = 1 := by unfold wrap64; omega
  have w0 : wrap64 (0 : Int) = 0 := by unfold wrap64; omega
  have e0 : IntKind.u64.wrap (u0 : Int) = u0 := u64w _ (by omega) (by omega)
  have bs : ∀ o : Option (List Int), (o.bind fun t119 => some t119) = o := fun o => by cases o <;> rfl
  have r0 : rd [(u1 : Int), (x1 : Int)] 0 = (u1 : Int) := rfl
  have r1 : rd [(u1 : Int), (x1 : Int)] 1 = (x1 : Int) := rfl
  have q0 : rd [(u0 : Int)] 0 = (u0 : Int) := rfl
  have z0 : (0 : Int) + (u0 : Int) = (u0 : Int) := by omega
  unfold spec_natSub.f
  show spec_natSub.l0 (8 + 1) _ _ _ _ _ = _
  rw [spec_natSub.l0, if_pos (by show (0 : Int) < ((2 : Nat) : Int); decide), if_pos (by show (0 : Int) < ((1 : Nat) : Int); decide), if_pos (Int.le_refl 0), r0, q0, z0, e0]
  by_cases hb : u1 < u0
  · have e2 : IntKind.u64.wrap ((u1 : Int) + 4294967296) = ((u1 + 4294967296 : Nat) : Int) := by rw [u64w _ (by omega) (by omega)]; omega
    have e3 : IntKind.u64.wrap (((u1 + 4294967296 : Nat) : Int) - (u0 : Int)) = ((u1 + 4294967296 - u0 : Nat) : Int) := by rw [u64w _ (by omega) (by omega)]; omega
    have e4 : IntKind.u64.wrap ((x1 : Int) - 1) = ((x1 - 1 : Nat) : Int) := by rw [u64w _ (by omega) (by omega)]; omega
    rw [if_pos (by omega), if_pos (by simp), e2, e3, show ((0 : Int) + 1) = 1 from rfl, w1]
    show spec_natSub.l0 (7 + 1) _ _ _ _ _ = _
    rw [spec_natSub.l0, if_pos (by show (1 : Int) < ((2 : Nat) : Int); decide), if_neg (by show ¬ ((1 : Int) < ((1 : Nat) : Int)); decide), if_pos (by decide), r1, if_neg (by omega), if_pos (by simp), e4, show ((1 : Int) + 1) = 2 from rfl, w2]
    show spec_natSub.l0 (6 + 1) _ _ _ _ _ = _
    rw [spec_natSub.l0, if_neg (by show ¬ ((2 : Int) < ((2 : Nat) : Int)); decide), bs]
    have := trim2 (u1 + 4294967296 - u0) (x1 - 1) (by omega) (by omega)
    rw [show u1 + 4294967296 - u0 + (x1 - 1) * 4294967296 = u1 + x1 * 4294967296 - u0 from by omega] at this
    exact this
  · have e3 : IntKind.u64.wrap ((u1 : Int) - (u0 : Int)) = ((u1 - u0 : Nat) : Int) := by rw [u64w _ (by omega) (by omega)]; omega
    have e4 : IntKind.u64.wrap ((x1 : Int) - 0) = ((x1 : Nat) : Int) := by rw [u64w _ (by omega) (by omega)]; omega
    rw [if_neg (by omega), if_pos (by simp), e3, show ((0 : Int) + 1) = 1 from rfl, w1]
    show spec_natSub.l0 (7 + 1) _ _ _ _ _ = _
    rw [spec_natSub.l0, if_pos (by show (1 : Int) < ((2 : Nat) : Int); decide), if_neg (by show ¬ ((1 : Int) < ((1 : Nat) : Int)); decide), if_pos (by decide), r1, if_neg (by omega), if_pos (by simp), e4, show ((1 : Int) + 1) = 2 from rfl, w2]
    show spec_natSub.l0 (6 + 1) _ _ _ _ _ = _
    rw [spec_natSub.l0, if_neg (by show ¬ ((2 : Int) < ((2 : Nat) : Int)); decide), bs]
    have := trim2 (u1 - u0) x1 (by omega) (by omega)
    rw [show u1 - u0 + x1 * 4294967296 = u1 + x1 * 4294967296 - u0 from by omega] at this
    exact this
theorem sub_22 (u1 x1 u0 x0 : Nat) (h1 : u1 < 4294967296) (h2 : x1 < 4294967296) (h4 : u0 < 4294967296) (h5 : x0 < 4294967296) (h : u0 + x0 * 4294967296 ≤ u1 + x1 * 4294967296) : spec_natSub.f 9 [(u1 : Int), (x1 : Int)] [(u0 : Int), (x0 : Int)] = some (lim (u1 + x1 * 4294967296 - (u0 + x0 * 4294967296))) := by
  have w2 : wrap64 (2 : Int) = 2 := by unfold wrap64; omega
  have w1 : wrap64 (1 : Int) = 1 := by unfold wrap64; omega
  have w0 : wrap64 (0 : Int) = 0 := by unfold wrap64; omega
  have e0 : IntKind.u64.wrap (u0 : Int) = u0 := u64w _ (by omega) (by omega)
  have bs : ∀ o : Option (List Int), (o.bind fun t119 => some t119) = o := fun o => by cases o <;> rfl
  have r0 : rd [(u1 : Int), (x1 : Int)] 0 = (u1 : Int) := rfl
  have r1 : rd [(u1 : Int), (x1 : Int)] 1 = (x1 : Int) := rfl
  have q0 : rd [(u0 : Int), (x0 : Int)] 0 = (u0 : Int) := rfl
  have q1 : rd [(u0 : Int), (x0 : Int)] 1 = (x0 : Int) := rfl
  have z0 : (0 : Int) + (u0 : Int) = (u0 : Int) := by omega
  unfold spec_natSub.f
  show spec_natSub.l0 (8 + 1) _ _ _ _ _ = _
  rw [spec_natSub.l0, if_pos (by show (0 : Int) < ((2 : Nat) : Int); decide), if_pos (by show (0 : Int) < ((2 : Nat) : Int); decide), if_pos (Int.le_refl 0), r0, q0, z0, e0]
  by_cases hb : u1 < u0
  · have e2 : IntKind.u64.wrap ((u1 : Int) + 4294967296) = ((u1 + 4294967296 : Nat) : Int) := by rw [u64w _ (by omega) (by omega)]; omega
    have e3 : IntKind.u64.wrap (((u1 + 4294967296 : Nat) : Int) - (u0 : Int)) = ((u1 + 4294967296 - u0 : Nat) : Int) := by rw [u64w _ (by omega) (by omega)]; omega
    have e5 : IntKind.u64.wrap ((1 : Int) + (x0 : Int)) = ((x0 + 1 : Nat) : Int) := by rw [u64w _ (by omega) (by omega)]; omega
    have e4 : IntKind.u64.wrap ((x1 : Int) - ((x0 + 1 : Nat) : Int)) = ((x1 - (x0 + 1) : Nat) : Int) := by rw [u64w _ (by omega) (by omega)]; omega
    rw [if_pos (by omega), if_pos (by simp), e2, e3, show ((0 : Int) + 1) = 1 from rfl, w1]
    show spec_natSub.l0 (7 + 1) _ _ _ _ _ = _
    rw [spec_natSub.l0, if_pos (by show (1 : Int) < ((2 : Nat) : Int); decide), if_pos (by show (1 : Int) < ((2 : Nat) : Int); decide), if_pos (by decide), r1, q1, e5, if_neg (by omega), if_pos (by simp), e4, show ((1 : Int) + 1) = 2 from rfl, w2]
    show spec_natSub.l0 (6 + 1) _ _ _ _ _ = _
    rw [spec_natSub.l0, if_neg (by show ¬ ((2 : Int) < ((2 : Nat) : Int)); decide), bs]
    have := trim2 (u1 + 4294967296 - u0) (x1 - (x0 + 1)) (by omega) (by omega)
    rw [show u1 + 4294967296 - u0 + (x1 - (x0 + 1)) * 4294967296 = u1 + x1 * 4294967296 - (u0 + x0 * 4294967296) from by omega] at this
    exact this
  · have e3 : IntKind.u64.wrap ((u1 : Int) - (u0 : Int)) = ((u1 - u0 : Nat) : Int) := by rw [u64w _ (by omega) (by omega)]; omega
    have e5 : IntKind.u64.wrap ((0 : Int) + (x0 : Int)) = (x0 : Int) := by rw [u64w _ (by omega) (by omega)]; omega
    have e4 : IntKind.u64.wrap ((x1 : Int) - (x0 : Int)) = ((x1 - x0 : Nat) : Int) := by rw [u64w _ (by omega) (by omega)]; omega
    rw [if_neg (by omega), if_pos (by simp), e3, show ((0 : Int) + 1) = 1 from rfl, w1]
    show spec_natSub.l0 (7 + 1) _ _ _ _ _ = _
    rw [spec_natSub.l0, if_pos (by show (1 : Int) < ((2 : Nat) : Int); decide), if_pos (by show (1 : Int) < ((2 : Nat) : Int); decide), if_pos (by decide), r1, q1, e5, if_neg (by omega), if_pos (by simp), e4, show ((1 : Int) + 1) = 2 from rfl, w2]
    show spec_natSub.l0 (6 + 1) _ _ _ _ _ = _
    rw [spec_natSub.l0, if_neg (by show ¬ ((2 : Int) < ((2 : Nat) : Int)); decide), bs]
    have := trim2 (u1 - u0) (x1 - x0) (by omega) (by omega)
    rw [show u1 - u0 + (x1 - x0) * 4294967296 = u1 + x1 * 4294967296 - (u0 + x0 * 4294967296) from by omega] at this
    exact this
theorem sub_big (a b : Nat) (hb : 0 < b) (h : b ≤ a) (ha : a < 18446744073709551616) : Ev (fun k => spec_natSub.f k (lim a) (lim b)) (lim (a - b)) := by
  by_cases ha2 : a < 4294967296
  · rw [lim_small a (by omega) ha2, lim_small b hb (by omega)]
    by_cases he : b = a
    · subst he
      have := sub_same b ha2 hb
      rw [← same_sub] at this
      rw [Nat.sub_self]
      exact Ev.of (fun k => spec_natSub.mono _ _ k) this
    · have := sub_one a b ha2 (by omega) hb
      rw [← same_sub] at this
      rw [lim_small (a - b) (by omega) (by omega)]
      exact Ev.of (fun k => spec_natSub.mono _ _ k) this
  · rw [lim_big a (by omega)]
    by_cases hb2 : b < 4294967296
    · rw [lim_small b hb hb2]
      have := sub_21 (a % 4294967296) (a / 4294967296) b (by omega) (by omega) (by omega) hb2
      rw [split64] at this
      exact Ev.of (fun k => spec_natSub.mono _ _ k) this
    · rw [lim_big b (by omega)]
      have := sub_22 (a % 4294967296) (a / 4294967296) (b % 4294967296) (b / 4294967296) (by omega) (by omega) (by omega) (by omega) (by rw [split64, split64]; exact h)
      rw [split64, split64] at this
      exact Ev.of (fun k => spec_natSub.mono _ _ k) this
theorem times_big (v : Nat) (h : v * 10 < 18446744073709551616) : Ev (fun k => spec_natTimes.f k (lim v) 10 0) (lim (v * 10)) := by
  have w2 : wrap64 (2 : Int) = 2 := by unfold wrap64; omega
  have w1 : wrap64 (1 : Int) = 1 := by unfold wrap64; omega
  have bs : ∀ o : Option (List Int), (o.bind fun t119 => some t119) = o := fun o => by cases o <;> rfl
  refine Ev.of (k := 9) (fun k => spec_natTimes.mono _ _ _ k) ?_
  by_cases h0 : v = 0
  · subst h0
    kernel_rfl
  · by_cases hv : v < 4294967296
    · rw [lim_small v (by omega) hv]
      have e1 : IntKind.u64.wrap ((v : Int) * 10) = ((v * 10 : Nat) : Int) := by rw [u64w _ (by omega) (by omega)]; omega
      have e2 : IntKind.u64.wrap ((0 : Int) + ((v * 10 : Nat) : Int)) = ((v * 10 : Nat) : Int) := by rw [u64w _ (by omega) (by omega)]; omega
      have e3 := u64_mask (v * 10) h
      have e4 : ((v * 10 : Nat) : Int) / 4294967296 = ((v * 10 / 4294967296 : Nat) : Int) := by omega
      have r0 : rd [(v : Int)] 0 = (v : Int) := rfl
      unfold spec_natTimes.f
      show spec_natTimes.l0 (8 + 1) _ _ _ _ _ = _
      rw [spec_natTimes.l0, if_pos (by show (0 : Int) < ((1 : Nat) : Int); decide), if_pos (Int.le_refl 0), if_pos (by simp), r0, e1, e2, e3, e4, show ((0 : Int) + 1) = 1 from rfl, w1]
      show spec_natTimes.l0 (7 + 1) _ _ _ _ _ = _
      rw [spec_natTimes.l0, if_neg (by show ¬ ((1 : Int) < ((1 : Nat) : Int)); decide), if_pos (by simp), bs]
      have := trim2_ev (v * 10 % 4294967296) (v * 10 / 4294967296) (by omega) (by omega)
      rw [split64] at this
      have h6 := trim2 (v * 10 % 4294967296) (v * 10 / 4294967296) (by omega) (by omega)
      rw [split64] at h6
      exact (spec_natTrim.mono _ 6) _ h6
    · rw [lim_big v (by omega)]
      obtain ⟨u, hu⟩ : ∃ u, u = v % 4294967296 := ⟨_, rfl⟩
      obtain ⟨x, hx⟩ : ∃ x, x = v / 4294967296 := ⟨_, rfl⟩
      have e1 : IntKind.u64.wrap ((u : Int) * 10) = ((u * 10 : Nat) : Int) := by rw [u64w _ (by omega) (by omega)]; omega
      have e2 : IntKind.u64.wrap ((0 : Int) + ((u * 10 : Nat) : Int)) = ((u * 10 : Nat) : Int) := by rw [u64w _ (by omega) (by omega)]; omega
      have e3 := u64_mask (u * 10) (by omega)
      have e4 : ((u * 10 : Nat) : Int) / 4294967296 = ((u * 10 / 4294967296 : Nat) : Int) := by omega
      have f1 : IntKind.u64.wrap ((x : Int) * 10) = ((x * 10 : Nat) : Int) := by rw [u64w _ (by omega) (by omega)]; omega
      have f2 : IntKind.u64.wrap (((u * 10 / 4294967296 : Nat) : Int) + ((x * 10 : Nat) : Int)) = ((x * 10 + u * 10 / 4294967296 : Nat) : Int) := by rw [u64w _ (by omega) (by omega)]; omega
      have f3 := u64_mask (x * 10 + u * 10 / 4294967296) (by omega)
      have f4 : ((x * 10 + u * 10 / 4294967296 : Nat) : Int) / 4294967296 = 0 := by omega
      have f5 : (x * 10 + u * 10 / 4294967296) % 4294967296 = x * 10 + u * 10 / 4294967296 := by omega
      rw [f5] at f3
      have r0 : rd [(u : Int), (x : Int)] 0 = (u : Int) := rfl
      have r1 : rd [(u : Int), (x : Int)] 1 = (x : Int) := rfl
      rw [← hu, ← hx]
      unfold spec_natTimes.f
      show spec_natTimes.l0 (8 + 1) _ _ _ _ _ = _
      rw [spec_natTimes.l0, if_pos (by show (0 : Int) < ((2 : Nat) : Int); decide), if_pos (Int.le_refl 0), if_pos (by simp), r0, e1, e2, e3, e4, show ((0 : Int) + 1) = 1 from rfl, w1]
      show spec_natTimes.l0 (7 + 1) _ _ _ _ _ = _
      rw [spec_natTimes.l0, if_pos (by show (1 : Int) < ((2 : Nat) : Int); decide), if_pos (by decide), if_pos (by simp), r1, f1, f2, f3, f4, show ((1 : Int) + 1) = 2 from rfl, w2]
      show spec_natTimes.l0 (6 + 1) _ _ _ _ _ = _
      rw [spec_natTimes.l0, if_neg (by show ¬ ((2 : Int) < ((2 : Nat) : Int)); decide), if_pos (by simp), bs]
      have h6 := trim3 (u * 10 % 4294967296) (x * 10 + u * 10 / 4294967296) (by omega) (by omega)
      rw [show u * 10 % 4294967296 + (x * 10 + u * 10 / 4294967296) * 4294967296 = v * 10 from by omega] at h6
      exact h6
theorem power_big_at (e : Nat) : ∀ (d i v : Nat), i + d = e → e ≤ 100 → v * 10 ^ d < 18446744073709551616 → Ev (fun k => spec_natPower.l0 k (lim v) 10 (e : Int) (i : Int)) (lim (v * 10 ^ d))
  | 0, i, v, hi, he, hc => by
    refine Ev.step (f := fun _ => some (lim v)) (fun k => ?_) ?_
    · rw [spec_natPower.l0, if_neg (by omega)]
    · rw [Nat.pow_zero, Nat.mul_one]
      exact Ev.now _
  | d + 1, i, v, hi, he, hc => by
    have ev : v * 10 ^ (d + 1) = v * 10 * 10 ^ d := by rw [Nat.pow_succ, Nat.mul_assoc, Nat.mul_comm 10]
    rw [ev] at hc ⊢
    have hle : v * 10 ≤ v * 10 * 10 ^ d := Nat.le_mul_of_pos_right _ (Nat.pow_pos (by decide))
    have ih := power_big_at e d (i + 1) (v * 10) (by omega) he hc
    have ht := times_big v (by omega)
    have u10 : IntKind.u64.wrap (10 : Int) = 10 := u64w _ (by omega) (by omega)
    refine Ev.step (fun k => by rw [spec_natPower.l0, if_pos (by omega), u10]) (Ev.bind ht ?_)
    refine Ev.congr (fun k => ?_) ih
    rw [w64 _ (by omega) (by omega)]
    rfl
theorem power_big (e v : Nat) (he : e ≤ 100) (hc : v * 10 ^ e < 18446744073709551616) : Ev (fun k => spec_natPower.f k (lim v) 10 (e : Int)) (lim (v * 10 ^ e)) := power_big_at e e 0 v (by omega) he hc
theorem div_big_loop (y : Nat) (hy : 0 < y) : ∀ (m q v : Nat), m ≤ 64 → v < y * 2 ^ m → (0 < m → y * 2 ^ (m - 1) < 18446744073709551616) → v < 18446744073709551616 → q * 2 ^ m + v / y < 9223372036854775808 → Ev (fun k => spec_natDiv.l0 k (lim v) (lim y) (q : Int) ((m : Int) - 1)) (((q * 2 ^ m + v / y : Nat) : Int), lim (v % y))
  | 0, q, v, hm, hv, hc, hv64, hq => by
    rw [Nat.pow_zero, Nat.mul_one] at hv
    refine Ev.step (f := fun _ => some (((q * 2 ^ 0 + v / y : Nat) : Int), lim (v % y))) (fun k => ?_) (Ev.now _)
    rw [Nat.pow_zero, Nat.mul_one, Nat.div_eq_of_lt hv, Nat.mod_eq_of_lt hv, Nat.add_zero]
    simp only [spec_natDiv.l0]
    rw [if_neg (by omega)]
    rfl
  | m + 1, q, v, hm, hv, hcb, hv64, hq => by
    have hp : 0 < 2 ^ m := Nat.pow_pos (by decide)
    have hps : 2 ^ (m + 1) = 2 * 2 ^ m := by rw [Nat.pow_succ, Nat.mul_comm]
    have hyb : y * 2 ^ m < 18446744073709551616 := hcb (by omega)
    have hyp : 0 < y * 2 ^ m := Nat.mul_pos hy hp
    have hyy : y * 2 ^ (m + 1) = 2 * (y * 2 ^ m) := by rw [hps, Nat.mul_left_comm]
    have hcb2 : 0 < m → y * 2 ^ (m - 1) < 18446744073709551616 := fun h0 => by
      have : y * 2 ^ (m - 1) ≤ y * 2 ^ m := Nat.mul_le_mul_left _ (Nat.pow_le_pow_right (by decide) (by omega))
      omega
    obtain ⟨c, hcev, hc2⟩ := cmp_big v (y * 2 ^ m) hv64 hyb
    have em : ((m + 1 : Nat) : Int) - 1 = (m : Int) := by omega
    have ew : wrap64 ((m : Int) - 1) = (m : Int) - 1 := w64 _ (by omega) (by omega)
    have hqq : q * 2 ^ (m + 1) = (2 * q) * 2 ^ m := by rw [hps, ← Nat.mul_assoc, Nat.mul_comm q 2]
    have hqb : 2 * q ≤ q * 2 ^ (m + 1) := by rw [hqq]; exact Nat.le_mul_of_pos_right _ hp
    have hq0 : q * 2 ^ (m + 1) < 9223372036854775808 := Nat.lt_of_le_of_lt (Nat.le_add_right _ _) hq
    have hq1 : 2 * q < 9223372036854775808 := Nat.lt_of_le_of_lt hqb hq0
    have hsh := shift_big y m hy (by omega) hyb
    have u1 : IntKind.u64.wrap ((q : Int) * 2) = ((2 * q : Nat) : Int) := by rw [u64w _ (by omega) (by omega)]; omega
    have hg : ∀ k, spec_natDiv.l0 (k + 1) (lim v) (lim y) (q : Int) (((m + 1 : Nat) : Int) - 1) = (spec_natShift.f k (lim y) (m : Int)).bind fun t146 => ((spec_natCmp.f k (lim v) t146).bind fun t149 => (if t149 ≥ 0 then ((spec_natSub.f k (lim v) t146).bind fun t150 => (spec_natDiv.l0 k t150 (lim y) (IntKind.u64.wrap ((IntKind.u64.wrap ((q : Int) * 2)) + 1)) (wrap64 ((m : Int) - 1)))) else (spec_natDiv.l0 k (lim v) (lim y) (IntKind.u64.wrap ((q : Int) * 2)) (wrap64 ((m : Int) - 1))))) := fun k => by
      rw [em]
      simp only [spec_natDiv.l0]
      rw [if_pos (by omega)]
    refine Ev.step hg (Ev.bind hsh (Ev.bind hcev ?_))
    by_cases hcc : 0 ≤ c
    · have hvb := hc2.1 hcc
      have hsub := sub_big v (y * 2 ^ m) hyp hvb hv64
      have hdv : v / y = 2 ^ m + (v - y * 2 ^ m) / y := by
        have : v = (v - y * 2 ^ m) + y * 2 ^ m := by omega
        rw [this, Nat.add_mul_div_left _ _ hy]
        have : v - y * 2 ^ m + y * 2 ^ m - y * 2 ^ m = v - y * 2 ^ m := by omega
        rw [this]
        omega
      have hmv : v % y = (v - y * 2 ^ m) % y := by
        have : v = (v - y * 2 ^ m) + y * 2 ^ m := by omega
        rw [this, Nat.add_mul_mod_self_left]
        have : v - y * 2 ^ m + y * 2 ^ m - y * 2 ^ m = v - y * 2 ^ m := by omega
        rw [this]
      have u2 : IntKind.u64.wrap (((2 * q : Nat) : Int) + 1) = ((2 * q + 1 : Nat) : Int) := by
        rw [u64w _ (by omega) (by omega)]; omega
      have e9 : q * 2 ^ (m + 1) + v / y = (2 * q + 1) * 2 ^ m + (v - y * 2 ^ m) / y := by rw [hqq, hdv, Nat.add_mul, Nat.one_mul]; omega
      rw [e9] at hq ⊢
      rw [hmv]
      have ih := div_big_loop y hy m (2 * q + 1) (v - y * 2 ^ m) (by omega) (by omega) hcb2 (by omega) hq
      refine Ev.congr (fun k => if_pos hcc) (Ev.bind hsub ?_)
      rw [u1, u2, ew]
      exact ih
    · have hvb : v < y * 2 ^ m := by
        rcases Nat.lt_or_ge v (y * 2 ^ m) with h | h
        · exact h
        · exact absurd (hc2.2 h) hcc
      rw [hqq] at hq ⊢
      have ih := div_big_loop y hy m (2 * q) v (by omega) hvb hcb2 hv64 hq
      refine Ev.congr (fun k => if_neg hcc) ?_
      rw [u1, ew]
      exact ih
theorem blen_ge (v : Nat) (h : 0 < v) : 0 < blen v ∧ 2 ^ (blen v - 1) ≤ v := by
  unfold blen
  rw [if_neg (by omega), Nat.add_sub_cancel]
  exact ⟨by omega, Nat.log2_self_le (by omega)⟩
theorem div_big (v y : Nat) (hy : 0 < y) (hv : v < 9223372036854775808) (hy2 : y < 18446744073709551616) : Ev (fun k => spec_natDiv.f k (lim v) (lim y)) (((v / y : Nat) : Int), lim (v % y)) := by
  have h1 := bits_big v (by omega)
  have h2 := bits_big y hy2
  have b1 := blen_le v (by omega)
  have b2 := blen_le y hy2
  have g1 := blen_lt v
  have g2 := blen_ge y hy
  have g3 := blen_lt y
  refine Ev.congr (fun k => by unfold spec_natDiv.f; rfl) (Ev.bind h1 (Ev.bind h2 ?_))
  rw [w64 _ (by omega) (by omega)]
  have hdl : v / y ≤ v := Nat.div_le_self _ _
  by_cases hc : blen y ≤ blen v
  · have e1 : 2 ^ (blen y - 1) * 2 ^ (blen v - blen y + 1) = 2 ^ blen v := by
      rw [← Nat.pow_add]
      congr 1
      omega
    have e2 : 2 ^ blen y * 2 ^ (blen v - blen y) = 2 ^ blen v := by
      rw [← Nat.pow_add]
      congr 1
      omega
    have e3 : 2 ^ blen v ≤ 18446744073709551616 := by rw [show (18446744073709551616 : Nat) = 2 ^ 64 from by decide]; exact Nat.pow_le_pow_right (by decide) b1
    have h5 : v < y * 2 ^ (blen v - blen y + 1) := by
      have : 2 ^ (blen y - 1) * 2 ^ (blen v - blen y + 1) ≤ y * 2 ^ (blen v - blen y + 1) := Nat.mul_le_mul_right _ g2.2
      omega
    have h6 : y * 2 ^ (blen v - blen y) < 18446744073709551616 := by
      have : y * 2 ^ (blen v - blen y) < 2 ^ blen y * 2 ^ (blen v - blen y) := Nat.mul_lt_mul_of_pos_right g3 (Nat.pow_pos (by decide))
      omega
    have hl := div_big_loop y hy (blen v - blen y + 1) 0 v (by omega) h5 (fun _ => by rw [Nat.add_sub_cancel]; exact h6) (by omega) (by omega)
    rw [Nat.zero_mul, Nat.zero_add] at hl
    have ec : (((blen v - blen y + 1 : Nat) : Int) - 1) = (blen v : Int) - (blen y : Int) := by omega
    rw [ec] at hl
    exact hl
  · have hvy : v < y := by
      have h7 : 2 ^ blen v ≤ 2 ^ (blen y - 1) := Nat.pow_le_pow_right (by decide) (by omega)
      omega
    rw [Nat.div_eq_of_lt hvy, Nat.mod_eq_of_lt hvy]
    refine Ev.step (f := fun _ => some (((0 : Nat) : Int), lim v)) (fun k => ?_) (Ev.now _)
    simp only [spec_natDiv.l0]
    rw [if_neg (by omega)]
    rfl
end Go.Proofs.YtheichpmhfledaaDoor
set_option linter.unusedVariables false
set_option linter.unusedSimpArgs false
namespace Go.Proofs.YtheichpmhfledaaDoor
open Go Go.RowKit Go.Proofs.YtheichpmhfledaaDoorW.PrintWords Go.Proofs.YtheichpmhfledaaDoor.PNumberText
open Go.Lib (decDigits decDigits_one)
/-- The word of a whole number above 0, by its parts. -/
theorem word_at (m : Nat) (h0 : 0 < m) (h : m < 4294967296) : m.log2 < 32 ∧ 4503599627370496 ≤ m * 2 ^ (52 - m.log2) ∧ m * 2 ^ (52 - m.log2) < 9007199254740992 ∧ wordOf m = (m.log2 + 1023) * 4503599627370496 + (m * 2 ^ (52 - m.log2) - 4503599627370496) := by
  have hl : m.log2 < 32 := (Nat.log2_lt (by omega)).2 (by have : (2 : Nat) ^ 32 = 4294967296 := by decide
                                                          omega)
  have hlo : 2 ^ m.log2 ≤ m := Nat.log2_self_le (by omega)
  have hhi : m < 2 ^ (m.log2 + 1) := Nat.lt_log2_self
  have p52 : 2 ^ m.log2 * 2 ^ (52 - m.log2) = 4503599627370496 := by
    rw [← Nat.pow_add]
    have : m.log2 + (52 - m.log2) = 52 := by omega
    rw [this]
  have q53 : 2 ^ (m.log2 + 1) * 2 ^ (52 - m.log2) = 9007199254740992 := by
    rw [← Nat.pow_add]
    have : m.log2 + 1 + (52 - m.log2) = 53 := by omega
    rw [this]
  exact ⟨hl, by rw [← p52]; exact Nat.mul_le_mul_right _ hlo, by rw [← q53]; exact Nat.mul_lt_mul_of_pos_right hhi (Nat.pow_pos (by decide)), rfl⟩
theorem word_inj (a b : Nat) (ha : 0 < a) (ha2 : a < 4294967296) (hb : 0 < b) (hb2 : b < 4294967296) (h : wordOf a = wordOf b) : a = b := by
  have h1 := word_V a ha ha2
  rw [h, word_V b hb hb2] at h1
  exact (Nat.mul_right_cancel (Nat.pow_pos (by decide)) h1).symm
theorem small_ev : Ev (fun k => spec_natSmall.f k 1) [1] := Ev.of (k := 9) (fun k => spec_natSmall.mono _ k) (by kernel_rfl)
theorem u64_mask52 (n : Nat) (h : n < 18446744073709551616) : Go.bits .and .u64 (n : Int) 4503599627370495 = ((n % 4503599627370496 : Nat) : Int) := by
  have h2 := bits_mask .u64 64 (by decide) (fun m h0 h1 => u64w m h0 (by simpa using h1)) 52 (by decide) (n : Int) (by omega) (by simpa using (by omega : (n : Int) < 18446744073709551616))
  have e : ((2 : Int) ^ 52 - 1) = 4503599627370495 := by decide
  have e2 : ((2 : Int) ^ 52) = 4503599627370496 := by decide
  rw [e, e2] at h2
  rw [h2]
  omega
theorem u64_mask11 (n : Nat) (h : n < 18446744073709551616) : Go.bits .and .u64 (n : Int) 2047 = ((n % 2048 : Nat) : Int) := by
  have h2 := bits_mask .u64 64 (by decide) (fun m h0 h1 => u64w m h0 (by simpa using h1)) 11 (by decide) (n : Int) (by omega) (by simpa using (by omega : (n : Int) < 18446744073709551616))
  have e : ((2 : Int) ^ 11 - 1) = 2047 := by decide
  have e2 : ((2 : Int) ^ 11) = 2048 := by decide
  rw [e, e2] at h2
  rw [h2]
  omega
theorem u64_or52 (n : Nat) (h : n < 4503599627370496) : Go.bits .or .u64 (n : Int) 4503599627370496 = ((n + 4503599627370496 : Nat) : Int) := by
  have e2 : ((2 : Int) ^ 52) = 4503599627370496 := by decide
  have h2 := Go.bits_join_low .u64 64 (by decide) (fun m h0 h1 => u64w m h0 (by simpa using h1)) 52 (n : Int) 4503599627370496 (by omega) (by rw [e2]; omega) (by simpa using (by omega : (n : Int) < 18446744073709551616)) (by omega) (by decide) (by decide)
  rw [h2]
  omega
theorem exact_tell (m : Nat) (h0 : 0 < m) (h : m < 4294967296) : Ev (fun k => spec_exactOf.f k (wordOf m : Int)) (lim (m * 2 ^ (52 - m.log2)), lim (2 ^ (52 - m.log2))) := by
  obtain ⟨hl, g1, g2, hw⟩ := word_at m h0 h
  have hs := shift_big 1 (52 - m.log2) (by decide) (by omega) (by
    rw [Nat.one_mul]
    exact Nat.lt_of_le_of_lt (Nat.pow_le_pow_right (by decide) (show 52 - m.log2 ≤ 52 by omega)) (by decide))
  rw [Nat.one_mul] at hs
  have el : lim 1 = [1] := rfl
  rw [el] at hs
  obtain ⟨q, hq⟩ : ∃ q, q = m * 2 ^ (52 - m.log2) := ⟨_, rfl⟩
  obtain ⟨L, hL⟩ : ∃ L, L = m.log2 := ⟨_, rfl⟩
  rw [← hq] at g1 g2 hw ⊢
  rw [← hL] at hl hw hs ⊢
  clear hq hL
  obtain ⟨x, hx⟩ : ∃ x, x = wordOf m := ⟨_, rfl⟩
  rw [← hx] at hw ⊢
  clear hx
  have hxb : x < 18446744073709551616 := by omega
  have d1 : (x : Int) / 4503599627370496 = ((L + 1023 : Nat) : Int) := by omega
  have m1 := u64_mask11 (L + 1023) (by omega)
  rw [Nat.mod_eq_of_lt (by omega)] at m1
  have m2 := u64_mask52 x hxb
  rw [show x % 4503599627370496 = q - 4503599627370496 from by omega] at m2
  have m3 := u64_or52 (q - 4503599627370496) (by omega)
  rw [show q - 4503599627370496 + 4503599627370496 = q from by omega] at m3
  have w1 : wrap64 ((L + 1023 : Nat) : Int) = ((L + 1023 : Nat) : Int) := w64 _ (by omega) (by omega)
  have w2 : wrap64 (1075 - ((L + 1023 : Nat) : Int)) = ((52 - L : Nat) : Int) := by rw [w64 _ (by omega) (by omega)]; omega
  have m4 := u64_mask q (by omega)
  have d2 : (q : Int) / 4294967296 = ((q / 4294967296 : Nat) : Int) := by omega
  have ht := trim2_ev (q % 4294967296) (q / 4294967296) (by omega) (by omega)
  rw [split64] at ht
  refine Ev.congr (f := fun k => spec_exactOf.j0 k ((L + 1023 : Nat) : Int) (q : Int)) (fun k => by unfold spec_exactOf.f; rw [d1, m1, w1, if_neg (by omega), m2, m3]) ?_
  refine Ev.step (fun k => by rw [spec_exactOf.j0, m4, d2, w2]) (Ev.bind ht ?_)
  refine Ev.congr (fun k => if_neg (by omega)) (Ev.bind small_ev (Ev.bind hs (Ev.now _)))
theorem back_tell (v e : Nat) (h0 : 0 < v) (he : e ≤ 12) (h : v * 10 ^ e < 4294967296) : Ev (fun k => spec_backTo.f k (v : Int) (e : Int)) ((wordOf (v * 10 ^ e) : Nat) : Int) := by
  have hp : 0 < 10 ^ e := Nat.pow_pos (by decide)
  have hle : v ≤ v * 10 ^ e := Nat.le_mul_of_pos_right _ hp
  have m4 := u64_mask v (by omega)
  have d2 : (v : Int) / 4294967296 = ((v / 4294967296 : Nat) : Int) := by omega
  have ht := trim2_ev (v % 4294967296) (v / 4294967296) (by omega) (by omega)
  rw [split64] at ht
  have hpw := power_big e v (by omega) (by omega)
  have hr : Ev (fun _ => spec_Round.f (lim (v * 10 ^ e)) [1]) ((wordOf (v * 10 ^ e) : Nat) : Int) := by
    rw [lim_small _ (by omega) h]
    have : spec_Round.f [((v * 10 ^ e : Nat) : Int)] [1] = some ((wordOf (v * 10 ^ e) : Nat) : Int) := by
      unfold spec_Round.f
      rw [if_pos ⟨rfl, by simp only [List.headD_cons]; omega, by simp only [List.headD_cons]; omega, rfl⟩]
      simp only [List.headD_cons, Int.toNat_natCast]
    rw [this]
    exact Ev.now _
  refine Ev.congr (fun k => by unfold spec_backTo.f; rw [m4, d2]) (Ev.bind ht (Ev.bind small_ev ?_))
  refine Ev.congr (fun k => if_pos (by omega)) (Ev.bind hpw (Ev.bind hr (Ev.now _)))
theorem trim1 (v : Nat) (h : v < 4294967296) : Ev (fun k => spec_natTrim.f k [(v : Int)]) (lim v) := by
  have w1 : wrap64 (1 : Int) = 1 := by unfold wrap64; omega
  have w0 : wrap64 (0 : Int) = 0 := by unfold wrap64; omega
  refine Ev.of (k := 6) (fun k => spec_natTrim.mono _ k) ?_
  by_cases v0 : v = 0
  · subst v0; kernel_rfl
  · rw [lim_small v (by omega) h]
    simp [spec_natTrim.f, spec_natTrim.l0, rd, w1, w0, v0]
theorem or0_64 (n : Nat) (h : n < 18446744073709551616) : Go.bits .or .u64 0 (n : Int) = (n : Int) := by
  have h2 := (bits_nat .u64 64 (by decide) (fun m h0 h1 => u64w m h0 (by simpa using h1)) 0 n (by decide) (by simpa using h)).2
  rw [Nat.zero_or] at h2
  exact h2
theorem byte_all : (List.range 10).all (fun d => decide (spec_bytesOf.f 9 [((48 + d : Nat) : Int)] = some (tx [UInt8.ofNat (48 + d)]))) = true := by kernel_rfl
theorem byte_tell (d : Nat) (h : d < 10) : Ev (fun k => spec_bytesOf.f k [((48 + d : Nat) : Int)]) (tx [UInt8.ofNat (48 + d)]) :=
  Ev.of (k := 9) (fun k => spec_bytesOf.mono _ k) (of_decide_eq_true (List.all_eq_true.1 byte_all d (List.mem_range.2 h)))
/-- The digits of a number, none of 0. -/
def decs (q : Nat) : List UInt8 := if q = 0 then [] else decDigits q
theorem decs_step (q : Nat) (h : 0 < q) : decs q = decs (q / 10) ++ [UInt8.ofNat (48 + q % 10)] := by
  unfold decs
  rw [if_neg (by omega)]
  by_cases h10 : q < 10
  · rw [decDigits_one h10, if_pos (by omega), Nat.mod_eq_of_lt h10]
    rfl
  · rw [dec_step q h10, if_neg (by omega)]
theorem digits_loop (q : Nat) : ∀ acc : List UInt8, q < 4294967296 → acc.length + q ≤ 1000000000000 → Ev (fun k => spec_Digits.l0 k (lim q) (tx acc)) (tx (decs q ++ acc)) := by
  induction q using Nat.strongRecOn with
  | _ q ih =>
    intro acc hq hl
    by_cases h0 : q = 0
    · subst h0
      refine Ev.step (f := fun _ => some (tx acc)) (fun k => ?_) (Ev.now _)
      rw [spec_Digits.l0, if_neg (by show ¬ ((0 : Nat) : Int) > 0; decide)]
    · have hq0 : 0 < q := by omega
      have hq10 : q % 10 < 10 := by omega
      have hqd : q / 10 < 4294967296 := by omega
      have hal : acc.length ≤ 1000000000000 := by omega
      have hs := decs_step q hq0
      have ih1 := ih (q / 10) (by omega) (UInt8.ofNat (48 + q % 10) :: acc) (by omega) (by rw [List.length_cons]; omega)
      have e1 : decs (q / 10) ++ UInt8.ofNat (48 + q % 10) :: acc = decs q ++ acc := by rw [hs, List.append_assoc]; rfl
      rw [e1] at ih1
      have r0 : rd [(q : Int)] 0 = (q : Int) := rfl
      have o1 := or0_64 q (by omega)
      have z1 : IntKind.u64.wrap (0 * 4294967296) = 0 := u64w _ (by omega) (by omega)
      have t1 : Int.tmod (q : Int) 10 = ((q % 10 : Nat) : Int) := by rw [Int.tmod_eq_emod_of_nonneg (by omega)]; omega
      have t2 : Int.tdiv (q : Int) 10 = ((q / 10 : Nat) : Int) := by rw [Int.tdiv_eq_ediv_of_nonneg (by omega)]; omega
      have u1 : IntKind.u64.wrap ((q / 10 : Nat) : Int) = ((q / 10 : Nat) : Int) := u64w _ (by omega) (by omega)
      have wm : wrap64 ((0 : Int) - 1) = -1 := by unfold wrap64; omega
      have hsize : (tx [UInt8.ofNat (48 + q % 10)]).size + (tx acc).size ≤ 9223372036854775807 := by rw [tx_size, tx_size, List.length_singleton]; clear ih ih1 e1 hs; omega
      have ww0 : wrap64 ((1 : Int) - 1) = 0 := by unfold wrap64; omega
      have hlen1 : (([(q : Int)] : List Int).length : Int) = 1 := rfl
      have hlen0 : (([(0 : Int)] : List Int).length : Int) = 1 := rfl
      have wb : wrap64 (48 + wrap64 ((q % 10 : Nat) : Int)) = ((48 + q % 10 : Nat) : Int) := by
        rw [w64 ((q % 10 : Nat) : Int) (by omega) (by omega), w64 _ (by omega) (by omega)]; omega
      refine Ev.step (f := fun k => spec_Digits.l1 k (lim q) (tx acc) 0 [0] 0) (fun k => ?_) ?_
      · rw [lim_small q hq0 hq, spec_Digits.l0, hlen1, if_pos (by decide), if_pos (by decide), if_pos (by decide), ww0]
        rfl
      refine Ev.step (f := fun k => spec_Digits.l1 k (lim q) (tx acc) ((q % 10 : Nat) : Int) [((q / 10 : Nat) : Int)] (-1)) (fun k => ?_) ?_
      · rw [lim_small q hq0 hq, spec_Digits.l1, hlen1, hlen0, if_pos (by decide), if_pos (by decide), if_pos (by decide), if_pos (by decide), z1, r0, o1, t1, t2, u1, wm]
        rfl
      refine Ev.step (fun k => by rw [spec_Digits.l1, if_neg (by decide), wb]) (Ev.bind (byte_tell (q % 10) hq10) ?_)
      refine Ev.congr (fun k => if_pos hsize) (Ev.bind (trim1 (q / 10) hqd) ?_)
      refine Ev.congr (fun k => ?_) ih1
      rw [tx_add]
      rfl
theorem digits_tell (q : Nat) (h0 : 0 < q) (h : q < 4294967296) : Ev (fun k => spec_Digits.f k (lim q)) (tx (decDigits q)) := by
  have hl := digits_loop q [] h (by simp; omega)
  rw [List.append_nil] at hl
  have e : decs q = decDigits q := by unfold decs; rw [if_neg (by omega)]
  rw [e] at hl
  refine Ev.congr (fun k => ?_) hl
  unfold spec_Digits.f
  rw [lim_small q h0 h, if_neg (by show ¬ ((1 : Nat) : Int) = 0; decide)]
  rfl
/-- Digits that do not end with 0 (or one alone) are cut nowhere. -/
theorem cut_tell (q n j : Nat) (h0 : 0 < q) (h : q < 4294967296) (hj : (decDigits q).length ≤ j) (hj2 : j < 1000) (he : (decDigits q).length = 1 ∨ q % 10 ≠ 0) : Ev (fun k => spec_cutDigits.f k (q : Int) (n : Int) (j : Int)) (tx (decDigits q), (n : Int)) := by
  have m4 := u64_mask q (by omega)
  have d2 : (q : Int) / 4294967296 = ((q / 4294967296 : Nat) : Int) := by omega
  have ht := trim2_ev (q % 4294967296) (q / 4294967296) (by omega) (by omega)
  rw [split64] at ht
  refine Ev.congr (fun k => by unfold spec_cutDigits.f; rw [m4, d2]) (Ev.bind ht (Ev.bind (digits_tell q h0 h) ?_))
  refine Ev.congr (f := fun k => spec_cutDigits.j0 k (n : Int) (tx (decDigits q))) (fun k => if_neg (by rw [tx_size]; omega)) ?_
  refine Ev.step (f := fun k => spec_cutDigits.l0 k (n : Int) (tx (decDigits q))) (fun k => by rw [spec_cutDigits.j0]) ?_
  refine Ev.step (f := fun _ => some (tx (decDigits q), (n : Int))) (fun k => ?_) (Ev.now _)
  rw [spec_cutDigits.l0]
  by_cases h1 : (decDigits q).length = 1
  · rw [if_neg (by rw [tx_size, h1]; decide)]
  · have hq10 : q % 10 ≠ 0 := by rcases he with he | he
                                 · exact absurd he h1
                                 · exact he
    have hge : ¬ q < 10 := fun hlt => h1 (by rw [decDigits_one hlt]; rfl)
    have hst := dec_step q hge
    obtain ⟨l, hl⟩ : ∃ l, l = decDigits (q / 10) := ⟨_, rfl⟩
    rw [← hl] at hst
    have hlen : (decDigits q).length = l.length + 1 := by rw [hst, List.length_append, List.length_singleton]
    have hsz : ((tx (decDigits q)).size : Int) = (l.length : Int) + 1 := by rw [tx_size, hlen]; omega
    have hll : l.length ≠ 0 := fun hz => h1 (by rw [hlen, hz])
    have ew : wrap64 ((l.length : Int) + 1 - 1) = (l.length : Int) := by rw [w64 _ (by omega) (by omega)]; omega
    have hbt : bt (tx (decDigits q)) (l.length : Int) = ((48 + q % 10 : Nat) : Int) := by
      rw [tx_at _ _ (UInt8.ofNat (48 + q % 10)) (by rw [hst]; simp)]
      rw [UInt8.toNat_ofNat']
      omega
    rw [hsz, ew, if_pos (by omega), if_pos (by omega), if_pos (by omega), hbt, if_neg (by omega)]
/-- How many digits a number has. -/
theorem dec_count (m : Nat) (h0 : 0 < m) : ∃ N, (decDigits m).length = N + 1 ∧ 10 ^ N ≤ m ∧ m < 10 ^ (N + 1) := by
  induction m using Nat.strongRecOn with
  | _ m ih =>
    by_cases h : m < 10
    · exact ⟨0, by rw [decDigits_one h]; rfl, by rw [Nat.pow_zero]; exact h0, by rw [Nat.zero_add, Nat.pow_one]; exact h⟩
    · obtain ⟨N, h1, h2, h3⟩ := ih (m / 10) (by omega) (by omega)
      refine ⟨N + 1, by rw [dec_step m h, List.length_append, h1]; rfl, ?_, ?_⟩
      · rw [Nat.pow_succ]; omega
      · rw [Nat.pow_succ]; omega
theorem dec_len_of (q N : Nat) (h1 : 10 ^ N ≤ q) (h2 : q < 10 ^ (N + 1)) : (decDigits q).length = N + 1 := by
  have hq : 0 < q := Nat.lt_of_lt_of_le (Nat.pow_pos (by decide)) h1
  obtain ⟨M, e, a, b⟩ := dec_count q hq
  have g1 : N < M + 1 := (Nat.pow_lt_pow_iff_right (by decide)).1 (Nat.lt_of_le_of_lt h1 b)
  have g2 : M < N + 1 := (Nat.pow_lt_pow_iff_right (by decide)).1 (Nat.lt_of_le_of_lt a h2)
  omega
theorem count_loop (bits : Int) (m E N : Nat) (r : ByteArray × Int) (hE : 0 < 2 ^ E) (hA : m * 2 ^ E < 9007199254740992) (hN : N ≤ 12) (h1 : 10 ^ N ≤ m) (h2 : m < 10 ^ (N + 1)) (hr : Ev (fun k => spec_shortestDigits.l1 k bits (lim (m * 2 ^ E)) (lim (2 ^ E)) ((N + 1 : Nat) : Int)) r) :
    ∀ d i, i + d = N + 1 → Ev (fun k => spec_shortestDigits.l0 k bits (lim (m * 2 ^ E)) (lim (2 ^ E)) (i : Int)) r := by
  have hb : ∀ i, i ≤ N + 1 → 2 ^ E * 10 ^ i < 18446744073709551616 := fun i hi => by
    have g1 : 10 ^ i ≤ 10 ^ (N + 1) := Nat.pow_le_pow_right (by decide) hi
    have g2 : 10 ^ (N + 1) ≤ 10 * m := by rw [Nat.pow_succ, Nat.mul_comm]; exact Nat.mul_le_mul_left _ h1
    have g3 : 2 ^ E * 10 ^ i ≤ 2 ^ E * (10 * m) := Nat.mul_le_mul_left _ (Nat.le_trans g1 g2)
    have g4 : 2 ^ E * (10 * m) = 10 * (m * 2 ^ E) := by rw [Nat.mul_comm, Nat.mul_assoc]
    omega
  intro d
  induction d with
  | zero =>
    intro i hi
    have hi2 : i = N + 1 := by omega
    subst hi2
    have hp := power_big (N + 1) (2 ^ E) (by omega) (hb _ (Nat.le_refl _))
    obtain ⟨c, hc, hc2⟩ := cmp_big (m * 2 ^ E) (2 ^ E * 10 ^ (N + 1)) (by omega) (hb _ (Nat.le_refl _))
    have hlt : m * 2 ^ E < 2 ^ E * 10 ^ (N + 1) := by rw [Nat.mul_comm (2 ^ E)]; exact Nat.mul_lt_mul_of_pos_right h2 hE
    refine Ev.step (fun k => by rw [spec_shortestDigits.l0]) (Ev.bind hp (Ev.bind hc ?_))
    exact Ev.congr (fun k => if_neg (fun h => by have := hc2.1 h; omega)) hr
  | succ d ih =>
    intro i hi
    have hp := power_big i (2 ^ E) (by omega) (hb _ (by omega))
    obtain ⟨c, hc, hc2⟩ := cmp_big (m * 2 ^ E) (2 ^ E * 10 ^ i) (by omega) (hb _ (by omega))
    have hle : 2 ^ E * 10 ^ i ≤ m * 2 ^ E := by
      rw [Nat.mul_comm (2 ^ E)]
      exact Nat.mul_le_mul_right _ (Nat.le_trans (Nat.pow_le_pow_right (by decide) (by omega)) h1)
    refine Ev.step (fun k => by rw [spec_shortestDigits.l0]) (Ev.bind hp (Ev.bind hc ?_))
    refine Ev.congr (fun k => if_pos (hc2.2 hle)) (Ev.congr (fun k => ?_) (ih (i + 1) (by omega)))
    rw [w64 _ (by omega) (by omega)]
    rfl
/-- One look: the quotient's digits are cut behind k digits, if they are all. The facts of arithmetic stand outside. -/
theorem look_core (w w0 w1 c : Int) (A B y rest q e n j : Nat) (r : ByteArray × Int) (hq : q < 4294967296) (hn : n < 1000) (hj : j ≤ n) (he : e = n - j)
    (hdv : Ev (fun k => spec_natDiv.f k (lim A) (lim y)) ((q : Int), lim rest)) (hs : Ev (fun k => spec_natShift.f k (lim rest) 1) (lim (rest * 2))) (hc : Ev (fun k => spec_natCmp.f k (lim (rest * 2)) (lim y)) c)
    (hbq : Ev (fun k => spec_backTo.f k (q : Int) (e : Int)) w0) (hbq1 : Ev (fun k => spec_backTo.f k ((q + 1 : Nat) : Int) (e : Int)) w1) (hne1 : ¬ w1 = w)
    (hup : 0 ≤ c → ¬ w0 = w)
    (hyes : w0 = w → Ev (fun k => spec_cutDigits.f k (q : Int) (n : Int) (j : Int)) r)
    (hno : ¬ w0 = w → Ev (fun k => spec_shortestDigits.l2 k w (lim A) (lim B) (n : Int) ((j + 1 : Nat) : Int)) r) :
    Ev (fun k => spec_shortestDigits.j4 k w (lim A) (lim B) (n : Int) (j : Int) (lim A) (lim y)) r := by
  have wq : IntKind.u64.wrap ((q : Int) + 1) = ((q + 1 : Nat) : Int) := by rw [u64w _ (by omega) (by omega)]; omega
  have we : wrap64 ((n : Int) - (j : Int)) = (e : Int) := by rw [w64 _ (by omega) (by omega)]; omega
  have wj : wrap64 ((j : Int) + 1) = ((j + 1 : Nat) : Int) := by rw [w64 _ (by omega) (by omega)]; rfl
  refine Ev.step (fun k => by rw [spec_shortestDigits.j4]) (Ev.bind hdv (Ev.bind hs (Ev.bind hc ?_)))
  by_cases hu : 0 ≤ c
  · have hr := hup hu
    have hd : decide (c ≥ 0) = true := decide_eq_true hu
    refine Ev.congr (f := fun k => spec_shortestDigits.j5 k w (lim A) (lim B) (n : Int) (j : Int) (q : Int) ((q + 1 : Nat) : Int) true) (fun k => by rw [if_pos hu, hd, wq]) ?_
    refine Ev.step (f := fun k => spec_shortestDigits.j6 k w (lim A) (lim B) (n : Int) (j : Int) ((q + 1 : Nat) : Int) (q : Int)) (fun k => by rw [spec_shortestDigits.j5, if_pos rfl]) ?_
    refine Ev.step (fun k => by rw [spec_shortestDigits.j6, we]) (Ev.bind hbq1 ?_)
    refine Ev.congr (fun k => if_neg hne1) (Ev.bind hbq ?_)
    refine Ev.congr (fun k => if_neg hr) ?_
    rw [wj]
    exact hno hr
  · have hd : decide (c ≥ 0) = false := decide_eq_false hu
    refine Ev.congr (f := fun k => spec_shortestDigits.j5 k w (lim A) (lim B) (n : Int) (j : Int) (q : Int) (q : Int) false) (fun k => by rw [if_neg hu, hd]) ?_
    refine Ev.step (f := fun k => spec_shortestDigits.j6 k w (lim A) (lim B) (n : Int) (j : Int) (q : Int) ((q + 1 : Nat) : Int)) (fun k => by rw [spec_shortestDigits.j5, if_neg (by decide), wq]) ?_
    refine Ev.step (fun k => by rw [spec_shortestDigits.j6, we]) (Ev.bind hbq ?_)
    by_cases hr : w0 = w
    · exact Ev.congr (fun k => if_pos hr) (Ev.bind (hyes hr) (Ev.now _))
    · refine Ev.congr (fun k => if_neg hr) (Ev.bind hbq1 ?_)
      refine Ev.congr (fun k => if_neg hne1) ?_
      rw [wj]
      exact hno hr
/-- The facts of one look. P is the power of ten, B that of two. -/
theorem look_facts (m P B : Nat) (hm : m < 2147483649) (h0 : 0 < m) (hP0 : 0 < P) (hPm : P ≤ m) (hP9 : P ≤ 1000000000) (hB : 0 < B) (hA : m * B < 9007199254740992) :
    0 < m / P ∧ m / P < 4294967296 ∧ m / P * P < 4294967296 ∧ (m / P + 1) * P < 4294967296 ∧ 0 < (m / P + 1) * P ∧ (m / P + 1) * P ≠ m ∧ (m / P * P = m ↔ m % P = 0) ∧ m * B / (B * P) = m / P ∧ m * B % (B * P) = B * (m % P) ∧ 0 < B * P ∧ B * P ≤ m * B ∧ B * (m % P) ≤ m * B := by
  have hqP : m / P * P + m % P = m := by rw [Nat.mul_comm]; exact Nat.div_add_mod _ _
  have hq0 : 0 < m / P := Nat.div_pos hPm hP0
  have hqm : m / P ≤ m := Nat.div_le_self _ _
  have hrl : m % P < P := Nat.mod_lt _ hP0
  have hup1 : (m / P + 1) * P = m / P * P + P := by rw [Nat.add_mul, Nat.one_mul]
  refine ⟨hq0, ?_, ?_, ?_, ?_, ?_, ?_, ?_, ?_, Nat.mul_pos hB hP0, ?_, ?_⟩
  · omega
  · generalize m / P * P = x at *; omega
  · rw [hup1]; generalize m / P * P = x at *; omega
  · rw [hup1]; generalize m / P * P = x at *; omega
  · rw [hup1]; generalize m / P * P = x at *; omega
  · generalize m / P * P = x at *; omega
  · rw [Nat.mul_comm m, Nat.mul_div_mul_left _ _ hB]
  · rw [Nat.mul_comm m, Nat.mul_mod_mul_left]
  · rw [Nat.mul_comm B]; exact Nat.mul_le_mul_right _ hPm
  · rw [Nat.mul_comm m]; exact Nat.mul_le_mul_left _ (Nat.mod_le _ _)
theorem look_step (m E N j : Nat) (r : ByteArray × Int) (hm : m < 2147483649) (h0 : 0 < m) (hA : m * 2 ^ E < 9007199254740992) (hN : N ≤ 9) (h1 : 10 ^ N ≤ m) (hj0 : 1 ≤ j) (hj : j ≤ N + 1)
    (hyes : m % 10 ^ (N + 1 - j) = 0 → Ev (fun k => spec_cutDigits.f k ((m / 10 ^ (N + 1 - j) : Nat) : Int) ((N + 1 : Nat) : Int) (j : Int)) r)
    (hno : m % 10 ^ (N + 1 - j) ≠ 0 → Ev (fun k => spec_shortestDigits.l2 k ((wordOf m : Nat) : Int) (lim (m * 2 ^ E)) (lim (2 ^ E)) ((N + 1 : Nat) : Int) ((j + 1 : Nat) : Int)) r) :
    Ev (fun k => spec_shortestDigits.l2 k ((wordOf m : Nat) : Int) (lim (m * 2 ^ E)) (lim (2 ^ E)) ((N + 1 : Nat) : Int) (j : Int)) r := by
  obtain ⟨e, he⟩ : ∃ e, e = N + 1 - j := ⟨_, rfl⟩
  rw [← he] at hyes hno
  have he12 : e ≤ 12 := by omega
  have hPm : 10 ^ e ≤ m := Nat.le_trans (Nat.pow_le_pow_right (by decide) (by omega)) h1
  have hP9 : 10 ^ e ≤ 1000000000 := by rw [show (1000000000 : Nat) = 10 ^ 9 from by decide]; exact Nat.pow_le_pow_right (by decide) (by omega)
  have hmw : m < 4294967296 := by omega
  obtain ⟨f0, f1, f2, f3, f4, f5, f6, f7, f8, f9, f10, f11⟩ := look_facts m (10 ^ e) (2 ^ E) hm h0 (Nat.pow_pos (by decide)) hPm hP9 (Nat.pow_pos (by decide)) hA
  have hA2 : m * 2 ^ E < 9223372036854775808 := Nat.lt_trans hA (by decide)
  have hA3 : m * 2 ^ E < 18446744073709551616 := Nat.lt_trans hA (by decide)
  have hy3 : 2 ^ E * 10 ^ e < 18446744073709551616 := Nat.lt_of_le_of_lt f10 hA3
  have hr3 : 2 ^ E * (m % 10 ^ e) < 9007199254740992 := Nat.lt_of_le_of_lt f11 hA
  have hdv := div_big (m * 2 ^ E) (2 ^ E * 10 ^ e) f9 hA2 hy3
  rw [f7, f8] at hdv
  have hr4 : 2 ^ E * (m % 10 ^ e) * 2 < 18446744073709551616 := by
    generalize 2 ^ E * (m % 10 ^ e) = x at *; omega
  have hs : Ev (fun k => spec_natShift.f k (lim (2 ^ E * (m % 10 ^ e))) 1) (lim (2 ^ E * (m % 10 ^ e) * 2)) := by
    by_cases hz : 2 ^ E * (m % 10 ^ e) = 0
    · rw [hz]; exact shift_nil_ev
    · exact shift_big _ 1 (Nat.pos_of_ne_zero hz) (by decide) (by rw [Nat.pow_one]; exact hr4)
  obtain ⟨c, hc, hc2⟩ := cmp_big (2 ^ E * (m % 10 ^ e) * 2) (2 ^ E * 10 ^ e) hr4 hy3
  have hbq := back_tell (m / 10 ^ e) e f0 he12 f2
  have hbq1 := back_tell (m / 10 ^ e + 1) e (Nat.succ_pos _) he12 f3
  have g1 : ∀ x : Nat, 0 < x → x < 4294967296 → (((wordOf x : Nat) : Int) = ((wordOf m : Nat) : Int) ↔ x = m) := fun x x0 x1 => ⟨fun h => word_inj _ _ x0 x1 h0 hmw (Int.ofNat_inj.1 h), fun h => by rw [h]⟩
  have g2 := g1 _ (Nat.mul_pos f0 (Nat.pow_pos (by decide))) f2
  have hj4 := look_core ((wordOf m : Nat) : Int) _ _ c (m * 2 ^ E) (2 ^ E) (2 ^ E * 10 ^ e) (2 ^ E * (m % 10 ^ e)) (m / 10 ^ e) e (N + 1) j r f1 (by omega) hj he hdv hs hc hbq hbq1 (fun h => f5 ((g1 _ f4 f3).1 h))
    (fun hu h => by
      have h8 := f6.1 (g2.1 h)
      have h9 := hc2.1 hu
      rw [h8, Nat.mul_zero, Nat.zero_mul] at h9
      exact absurd f9 (Nat.not_lt.2 h9))
    (fun h => hyes (f6.1 (g2.1 h))) (fun h => hno (fun h8 => h (g2.2 (f6.2 h8))))
  clear f0 f1 f2 f3 f4 f5 f6 f7 f8 f11 hdv hs hc hc2 hbq hbq1 g1 g2 hyes hno hr3 hr4 hP9 hPm h1
  by_cases hjN : j = N + 1
  · have e0 : e = 0 := by omega
    subst e0
    have hpa := power_big 0 (m * 2 ^ E) (by decide) (by rw [Nat.pow_zero, Nat.mul_one]; exact hA3)
    rw [Nat.pow_zero, Nat.mul_one] at hpa
    have w0 : wrap64 ((j : Int) - ((N + 1 : Nat) : Int)) = ((0 : Nat) : Int) := by rw [w64 _ (by omega) (by omega)]; omega
    rw [Nat.pow_zero, Nat.mul_one] at hj4
    refine Ev.step (fun k => by rw [spec_shortestDigits.l2, if_pos (by omega), w0]) (Ev.bind hpa hj4)
  · have hpb := power_big e (2 ^ E) (Nat.le_trans he12 (by decide)) hy3
    have we : wrap64 (((N + 1 : Nat) : Int) - (j : Int)) = (e : Int) := by rw [w64 _ (by omega) (by omega)]; omega
    refine Ev.step (fun k => by rw [spec_shortestDigits.l2, if_neg (by omega), we]) (Ev.bind hpb hj4)
theorem pow_div (m N e : Nat) (he : e ≤ N) (h1 : 10 ^ N ≤ m) (h2 : m < 10 ^ (N + 1)) : 10 ^ (N - e) ≤ m / 10 ^ e ∧ m / 10 ^ e < 10 ^ (N - e + 1) := by
  have hp : 0 < 10 ^ e := Nat.pow_pos (by decide)
  refine ⟨?_, ?_⟩
  · rw [Nat.le_div_iff_mul_le hp, ← Nat.pow_add, Nat.sub_add_cancel he]
    exact h1
  · rw [Nat.div_lt_iff_lt_mul hp, ← Nat.pow_add, show N - e + 1 + e = N + 1 from by omega]
    exact h2
theorem find_loop (m E N : Nat) (hm : m < 2147483649) (h0 : 0 < m) (hA : m * 2 ^ E < 9007199254740992) (hN : N ≤ 9) (h1 : 10 ^ N ≤ m) (h2 : m < 10 ^ (N + 1)) :
    ∀ d j, j + d = N + 1 → 1 ≤ j → (∀ i, 1 ≤ i → i < j → m % 10 ^ (N + 1 - i) ≠ 0) → ∃ e, e ≤ N ∧ m % 10 ^ e = 0 ∧ Ev (fun k => spec_shortestDigits.l2 k ((wordOf m : Nat) : Int) (lim (m * 2 ^ E)) (lim (2 ^ E)) ((N + 1 : Nat) : Int) (j : Int)) (tx (decDigits (m / 10 ^ e)), ((N + 1 : Nat) : Int)) := by
  have hyes : ∀ j, 1 ≤ j → j ≤ N + 1 → (∀ i, 1 ≤ i → i < j → m % 10 ^ (N + 1 - i) ≠ 0) → m % 10 ^ (N + 1 - j) = 0 → Ev (fun k => spec_cutDigits.f k ((m / 10 ^ (N + 1 - j) : Nat) : Int) ((N + 1 : Nat) : Int) (j : Int)) (tx (decDigits (m / 10 ^ (N + 1 - j))), ((N + 1 : Nat) : Int)) := by
    intro j hj0 hj hpre hz
    obtain ⟨e, he⟩ : ∃ e, e = N + 1 - j := ⟨_, rfl⟩
    have heN : e ≤ N := by omega
    rw [← he] at hz ⊢
    obtain ⟨g1, g2⟩ := pow_div m N e heN h1 h2
    have hlen := dec_len_of _ _ g1 g2
    have hq0 : 0 < m / 10 ^ e := Nat.lt_of_lt_of_le (Nat.pow_pos (by decide)) g1
    have hqm : m / 10 ^ e ≤ m := Nat.div_le_self _ _
    refine cut_tell (m / 10 ^ e) (N + 1) j hq0 (Nat.lt_of_le_of_lt hqm (by omega)) (by rw [hlen]; omega) (by omega) ?_
    by_cases hj1 : j = 1
    · left; rw [hlen]; omega
    · right
      intro hz2
      refine hpre (j - 1) (by omega) (by omega) ?_
      have e1 : N + 1 - (j - 1) = e + 1 := by omega
      rw [e1]
      have hm1 : m = 10 ^ e * (m / 10 ^ e) := by
        have := Nat.div_add_mod m (10 ^ e)
        rw [hz, Nat.add_zero] at this
        exact this.symm
      have hm2 : m / 10 ^ e = 10 * (m / 10 ^ e / 10) := by
        have := Nat.div_add_mod (m / 10 ^ e) 10
        rw [hz2, Nat.add_zero] at this
        exact this.symm
      rw [hm2, ← Nat.mul_assoc, ← Nat.pow_succ] at hm1
      rw [hm1]
      exact Nat.mul_mod_right _ _
  intro d
  induction d with
  | zero =>
    intro j hj hj0 hpre
    have hjN : j = N + 1 := by omega
    subst hjN
    refine ⟨0, Nat.zero_le _, by rw [Nat.pow_zero, Nat.mod_one], ?_⟩
    have e0 : N + 1 - (N + 1) = 0 := Nat.sub_self _
    have hy := hyes (N + 1) hj0 (Nat.le_refl _) hpre (by rw [e0, Nat.pow_zero, Nat.mod_one])
    rw [e0] at hy
    refine look_step m E N (N + 1) _ hm h0 hA hN h1 hj0 (Nat.le_refl _) (fun _ => by rw [e0]; exact hy) (fun h => absurd (by rw [e0, Nat.pow_zero, Nat.mod_one]) h)
  | succ d ih =>
    intro j hj hj0 hpre
    by_cases hz : m % 10 ^ (N + 1 - j) = 0
    · exact ⟨N + 1 - j, by omega, hz, look_step m E N j _ hm h0 hA hN h1 hj0 (by omega) (fun _ => hyes j hj0 (by omega) hpre hz) (fun h => absurd hz h)⟩
    · obtain ⟨e, g1, g2, g3⟩ := ih (j + 1) (by omega) (by omega) (fun i hi0 hi => by
        by_cases hij : i = j
        · subst hij; exact hz
        · exact hpre i hi0 (by omega))
      exact ⟨e, g1, g2, look_step m E N j _ hm h0 hA hN h1 hj0 (by omega) (fun h => absurd h hz) (fun _ => g3)⟩
theorem shortest_tell (m : Nat) (h0 : 0 < m) (hm : m < 2147483649) : ∃ N e, (decDigits m).length = N + 1 ∧ N ≤ 9 ∧ e ≤ N ∧ m % 10 ^ e = 0 ∧ (decDigits (m / 10 ^ e)).length = N + 1 - e ∧ Ev (fun k => spec_shortestDigits.f k ((wordOf m : Nat) : Int)) (tx (decDigits (m / 10 ^ e)), ((N + 1 : Nat) : Int)) := by
  obtain ⟨N, hlen, h1, h2⟩ := dec_count m h0
  have hN : N ≤ 9 := by
    have : N < 10 := (Nat.pow_lt_pow_iff_right (a := 10) (by decide)).1 (Nat.lt_of_le_of_lt h1 (Nat.lt_trans hm (by decide)))
    omega
  have hmw : m < 4294967296 := by omega
  obtain ⟨hl, g1, g2, hw⟩ := word_at m h0 hmw
  have hx := exact_tell m h0 hmw
  obtain ⟨E, hE⟩ : ∃ E, E = 52 - m.log2 := ⟨_, rfl⟩
  rw [← hE] at hx g2
  obtain ⟨e, he, hz, hf⟩ := find_loop m E N hm h0 g2 hN h1 h2 N 1 (by omega) (by decide) (fun i h3 h4 => by omega)
  refine ⟨N, e, hlen, hN, he, hz, ?_, ?_⟩
  · obtain ⟨k1, k2⟩ := pow_div m N e he h1 h2
    have := dec_len_of _ _ k1 k2
    omega
  · refine Ev.congr (fun k => by unfold spec_shortestDigits.f; rfl) (Ev.bind hx ?_)
    refine count_loop _ m E N _ (Nat.pow_pos (by decide)) g2 (by omega) h1 h2 ?_ (N + 1) 0 (by omega)
    refine Ev.step (f := fun k => spec_shortestDigits.j2 k ((wordOf m : Nat) : Int) (lim (m * 2 ^ E)) (lim (2 ^ E)) ((N + 1 : Nat) : Int)) (fun k => by rw [spec_shortestDigits.l1, if_neg (by omega)]) ?_
    exact Ev.step (fun k => by rw [spec_shortestDigits.j2]; rfl) hf
/-- Zeros behind the digits. -/
theorem dec_zeros : ∀ e q : Nat, 0 < q → decDigits (q * 10 ^ e) = decDigits q ++ List.replicate e 48
  | 0, q, _ => by rw [Nat.pow_zero, Nat.mul_one]; simp
  | e + 1, q, h => by
    have h2 : 0 < q * 10 ^ e := Nat.mul_pos h (Nat.pow_pos (by decide))
    have e1 : q * 10 ^ (e + 1) = q * 10 ^ e * 10 := by rw [Nat.pow_succ, Nat.mul_assoc]
    rw [e1, dec_step _ (by omega), Nat.mul_div_cancel _ (by decide), Nat.mul_mod_left, dec_zeros e q h, List.replicate_succ', List.append_assoc]
    rfl
theorem zeros_at (n : Nat) (hn : n ≤ 1000) : ∀ (d i : Nat) (acc : List UInt8), i + d = n → acc.length ≤ 1000 + i → Ev (fun k => spec_zeros.l0 k (n : Int) (tx acc) (i : Int)) (tx (acc ++ List.replicate d 48))
  | 0, i, acc, hi, hc => by
    refine Ev.step (f := fun _ => some (tx acc)) (fun k => by rw [spec_zeros.l0, if_neg (by omega)]) ?_
    rw [List.replicate_zero, List.append_nil]
    exact Ev.now _
  | d + 1, i, acc, hi, hc => by
    have ih := zeros_at n hn d (i + 1) (acc ++ [48]) (by omega) (by rw [List.length_append]; simp; omega)
    rw [List.append_assoc, show [48] ++ List.replicate d (48 : UInt8) = List.replicate (d + 1) 48 from rfl] at ih
    refine Ev.step (fun k => ?_) ih
    rw [spec_zeros.l0, if_pos (by omega), if_pos (by rw [tx_size]; omega), w64 _ (by omega) (by omega)]
    have : tx acc ++ (⟨#[48]⟩ : ByteArray) = tx (acc ++ [48]) := tx_add acc [48]
    rw [this]
    rfl
theorem zeros_tell (n : Nat) (hn : n ≤ 1000) : Ev (fun k => spec_zeros.f k (n : Int)) (tx (List.replicate n 48)) := by
  have := zeros_at n hn n 0 [] (by omega) (by simp)
  exact this
end Go.Proofs.YtheichpmhfledaaDoor
set_option linter.unusedVariables false
set_option linter.unusedSimpArgs false
namespace Go.Proofs.YtheichpmhfledaaDoor
open Go Go.RowKit Go.Proofs.YtheichpmhfledaaDoorW.PrintWords Go.Proofs.YtheichpmhfledaaDoor.PNumberText
open Go.Lib (decDigits decDigits_one)
theorem isnan_no (x : Nat) (h : x < 9218868437227405312) (w : World) : Calls Tryd.prog 17 #[.float .f64 x] w fun e w' => e = .returned (.bool false) ∧ w' = w := by
  have := IsNaN.calls false x w (by omega)
  rw [decide_eq_false (by omega)] at this
  exact this
set_option maxHeartbeats 4000000 in
set_option maxRecDepth 100000 in
theorem NText.zero (w : World) : Calls Tryd.prog 38 #[.int .u64 0] w fun e w' => e = .returned (.string ⟨#[48]⟩) ∧ Below w.heap.size w w' := by
  have h2 := from_run 0
  rw [show ((0 : Int)).toNat = 0 from rfl] at h2
  have HN := Lib.hid (isnan_no 0 (by decide))
  go_enter Tryd.func38, Tryd.ntmps38
  go_wp2_with (first | (go_at_call 17; (with_reducible refine (HN.out _).mono ?_); rintro e w9 ⟨rfl, rfl⟩))
  go_ret
  exact ⟨rfl, Below.refl _ _⟩
set_option maxHeartbeats 4000000 in
set_option maxRecDepth 100000 in
theorem NText.pos (x : Nat) (s z : ByteArray) (n : Nat) (w : World) (h0 : 0 < x) (h1 : x < 9218868437227405312) (hn : s.size ≤ n) (hn2 : n ≤ 21) (hz : z.size ≤ 1000)
    (hS : ∀ w, Calls Tryd.prog 54 #[.int .u64 (x : Int)] w fun e w' => e = .returned (.tuple #[.string s, .int .i64 (n : Int)]) ∧ Below w.heap.size w w')
    (hZ : ∀ w, Calls Tryd.prog 55 #[.int .i64 ((n - s.size : Nat) : Int)] w fun e w' => e = .returned (.string z) ∧ Drawn0 w w') :
    Calls Tryd.prog 38 #[.int .u64 (x : Int)] w fun e w' => e = .returned (.string (s ++ z)) ∧ Below w.heap.size w w' := by
  have h2 := from_run (x : Int)
  rw [Int.toNat_natCast] at h2
  have HN := Lib.hid (isnan_no x h1)
  have HS := Lib.hid hS
  have HZ := Lib.hid hZ
  have c1 : ((IntKind.u64.wrap ((x : Int) * 2)) == 0) = false := by rw [u64w _ (by omega) (by omega)]; exact beq_eq_false_iff_ne.2 (by omega)
  have c2 : (((x : Int) / 9223372036854775808) == 1) = false := beq_eq_false_iff_ne.2 (by omega)
  have c3 : ((x : Int) == 9218868437227405312) = false := beq_eq_false_iff_ne.2 (by omega)
  have c4 : decide ((s.size : Int) ≤ (n : Int)) = true := decide_eq_true (by omega)
  have c5 : decide ((n : Int) ≤ 21) = true := decide_eq_true (by omega)
  have c6 : decide (s.size ≤ n) = true := decide_eq_true hn
  have c7 : (9223372036854775807 < s.size + z.size) = False := eq_false (by omega)
  have wz : wrap64 ((n : Int) - (s.size : Int)) = ((n - s.size : Nat) : Int) := by rw [w64 _ (by omega) (by omega)]; omega
  clear hS hZ h0 h1 hn hn2 hz
  go_enter Tryd.func38, Tryd.ntmps38
  go_wp2_with (first | (go_at_call 17; (with_reducible refine (HN.out _).mono ?_); rintro e w9 ⟨rfl, rfl⟩) | (go_at_call 54; (with_reducible refine (HS.out _).mono ?_); rintro e w9 ⟨rfl, hb⟩; have HB := Lib.hid hb; clear hb) | (go_at_call 55; (with_reducible refine (HZ.out _).mono ?_); rintro e w9 ⟨rfl, hb⟩; replace HB := Lib.hid (drawn_below HB.out hb); clear hb))
  go_ret
  exact ⟨rfl, HB.out⟩
set_option maxHeartbeats 4000000 in
set_option maxRecDepth 100000 in
theorem NText.neg (x : Nat) (s : ByteArray) (w : World) (h0 : 0 < x) (h1 : x < 9218868437227405312) (hs : s.size ≤ 1000)
    (hS : ∀ w, Calls Tryd.prog 38 #[.int .u64 (x : Int)] w fun e w' => e = .returned (.string s) ∧ Below w.heap.size w w') :
    Calls Tryd.prog 38 #[.int .u64 ((x + 9223372036854775808 : Nat) : Int)] w fun e w' => e = .returned (.string ((⟨#[45]⟩ : ByteArray) ++ s)) ∧ Below w.heap.size w w' := by
  have h2 := from_run ((x + 9223372036854775808 : Nat) : Int)
  rw [Int.toNat_natCast] at h2
  have hN : ∀ w, Calls Tryd.prog 17 #[.float .f64 (x + 9223372036854775808)] w fun e w' => e = .returned (.bool false) ∧ w' = w := fun w => by
    have := IsNaN.calls true x w (by omega)
    rw [decide_eq_false (by omega)] at this
    exact this
  have HN := Lib.hid hN
  have HS := Lib.hid hS
  have hm := bits_mask .u64 64 (by decide) (fun m h0 h1 => u64w m h0 (by simpa using h1)) 63 (by decide) ((x + 9223372036854775808 : Nat) : Int) (by omega) (by simpa using (by omega : ((x + 9223372036854775808 : Nat) : Int) < 18446744073709551616))
  have e1 : ((2 : Int) ^ 63 - 1) = 9223372036854775807 := by decide
  have e2 : ((2 : Int) ^ 63) = 9223372036854775808 := by decide
  rw [e1, e2, show ((x + 9223372036854775808 : Nat) : Int) % 9223372036854775808 = (x : Int) from by omega] at hm
  obtain ⟨y, hy⟩ : ∃ y, y = x + 9223372036854775808 := ⟨_, rfl⟩
  rw [← hy] at h2 HN hm ⊢
  have c1 : ((IntKind.u64.wrap ((y : Int) * 2)) == 0) = false := by
    have : IntKind.u64.wrap ((y : Int) * 2) = ((y : Int) * 2) % 18446744073709551616 := by simp [IntKind.wrap, IntKind.bits, IntKind.signed]
    rw [this]; exact beq_eq_false_iff_ne.2 (by omega)
  have c2 : (((y : Int) / 9223372036854775808) == 1) = true := beq_iff_eq.2 (by omega)
  have c7 : (9223372036854775807 < 1 + s.size) = False := eq_false (by omega)
  clear hN hS h0 h1 hs e1 e2 hy
  go_enter Tryd.func38, Tryd.ntmps38
  go_wp2_with (first | (go_at_call 17; (with_reducible refine (HN.out _).mono ?_); rintro e w9 ⟨rfl, rfl⟩) | (go_at_call 38; (with_reducible refine (HS.out _).mono ?_); rintro e w9 ⟨rfl, hb⟩; have HB := Lib.hid hb; clear hb))
  go_ret
  exact ⟨rfl, HB.out⟩
/-- The double of a whole number of 32 bits. -/
def dbl (n : Int) : Nat := if n = 0 then 0 else if n < 0 then wordOf n.natAbs + 9223372036854775808 else wordOf n.natAbs
theorem NText.whole (n : Int) (h0 : -2147483648 ≤ n) (h1 : n ≤ 2147483647) (w : World) : Calls Tryd.prog 38 #[.int .u64 ((dbl n : Nat) : Int)] w fun e w' => e = .returned (.string ⟨(Lib.itoa n).toArray⟩) ∧ Below w.heap.size w w' := by
  have hpos : ∀ m : Nat, 0 < m → m < 2147483649 → ∀ w, Calls Tryd.prog 38 #[.int .u64 ((wordOf m : Nat) : Int)] w fun e w' => e = .returned (.string (tx (decDigits m))) ∧ Below w.heap.size w w' := by
    intro m m0 m1 w
    obtain ⟨N, e, hlen, hN, he, hz, hql, hs⟩ := shortest_tell m m0 m1
    obtain ⟨k1, hk1⟩ := hs.rounds
    obtain ⟨k2, hk2⟩ := (zeros_tell e (by omega)).rounds
    have hw := word_sh m m0 (by omega)
    have hq0 : 0 < m / 10 ^ e := by
      rcases Nat.eq_zero_or_pos (m / 10 ^ e) with h | h
      · exfalso
        have := Nat.div_add_mod m (10 ^ e)
        rw [h, hz] at this
        omega
      · exact h
    have hsz : (tx (decDigits (m / 10 ^ e))).size = N + 1 - e := by rw [tx_size, hql]
    have hw0 : 0 < wordOf m := by
      rcases Nat.eq_zero_or_pos (wordOf m) with h | h
      · have := hw.2.1
        rw [h] at this
        exact absurd this (by decide)
      · exact h
    have h := NText.pos (wordOf m) (tx (decDigits (m / 10 ^ e))) (tx (List.replicate e 48)) (N + 1) w hw0 hw.1 (by rw [hsz]; omega) (by omega) (by rw [tx_size, List.length_replicate]; omega) (fun w => spec_shortestDigits.calls k1 _ _ _ w hk1) (fun w => by
      rw [hsz, show N + 1 - (N + 1 - e) = e from by omega]
      exact spec_zeros.calls k2 _ _ w hk2)
    have e1 : tx (decDigits (m / 10 ^ e)) ++ tx (List.replicate e 48) = tx (decDigits m) := by
      rw [tx_add, ← dec_zeros e _ hq0]
      have := Nat.div_add_mod m (10 ^ e)
      rw [hz, Nat.add_zero, Nat.mul_comm] at this
      rw [this]
    rw [e1] at h
    exact h
  unfold dbl
  by_cases hn0 : n = 0
  · subst hn0
    rw [if_pos rfl]
    have : Lib.itoa 0 = [48] := by
      have := Lib.itoa_nonneg 0
      rw [decDigits_one (by decide)] at this
      exact this
    rw [this]
    exact NText.zero w
  · rw [if_neg hn0]
    by_cases hn : n < 0
    · rw [if_pos hn]
      obtain ⟨m, rfl⟩ : ∃ m : Nat, n = -(m : Int) := ⟨n.natAbs, by omega⟩
      rw [show ((-(m : Int))).natAbs = m from by omega]
      have m0 : 0 < m := by omega
      have m1 : m < 2147483649 := by omega
      have hw := word_sh m m0 (by omega)
      have hw0 : 0 < wordOf m := by
        rcases Nat.eq_zero_or_pos (wordOf m) with h | h
        · have := hw.2.1
          rw [h] at this
          exact absurd this (by decide)
        · exact h
      have hl := dec_len 9 m (by omega)
      have h := NText.neg (wordOf m) (tx (decDigits m)) w hw0 hw.1 (by rw [tx_size]; omega) (hpos m m0 m1)
      have e1 : (⟨#[45]⟩ : ByteArray) ++ tx (decDigits m) = ⟨(Lib.itoa (-(m : Int))).toArray⟩ := by
        rw [Lib.itoa_neg m m0]
        exact tx_add [45] (decDigits m)
      rw [e1] at h
      exact h
    · rw [if_neg hn]
      obtain ⟨m, rfl⟩ : ∃ m : Nat, n = (m : Int) := ⟨n.toNat, by omega⟩
      rw [show ((m : Int)).natAbs = m from by omega, Lib.itoa_nonneg m]
      exact hpos m (by omega) (by omega) w
set_option maxHeartbeats 4000000 in
set_option maxRecDepth 100000 in
theorem NumText.whole (n : Int) (h0 : -2147483648 ≤ n) (h1 : n ≤ 2147483647) (w : World) : Calls Tryd.prog 20 #[.float .f64 (dbl n)] w fun e w' => e = .returned (.string ⟨(Lib.itoa n).toArray⟩) ∧ Below w.heap.size w w' := by
  have HN := Lib.hid (NText.whole n h0 h1)
  have b1 := bits_run (dbl n)
  clear h0 h1
  generalize dbl n = x at *
  generalize (⟨(Lib.itoa n).toArray⟩ : ByteArray) = t at *
  go_enter Tryd.func20, Tryd.ntmps20
  go_wp2_with (first | (go_at_call 38; (with_reducible refine (HN.out _).mono ?_); rintro e w9 ⟨rfl, hb⟩; have HB := Lib.hid hb; clear hb))
  go_ret
  exact ⟨rfl, HB.out⟩
end Go.Proofs.YtheichpmhfledaaDoor
set_option linter.unusedVariables false
set_option linter.unusedSimpArgs false
namespace Go.Proofs.YtheichpmhfledaaDoor
open Go Go.RowKit Go.Proofs.YtheichpmhfledaaDoorW.PrintWords
/-- The word of a whole number. -/
def mg (m : Nat) : Nat := if m = 0 then 0 else wordOf m
theorem dbl_wd (n : Int) : dbl n = wd (decide (n < 0)) (mg n.natAbs) := by
  unfold dbl mg
  by_cases h0 : n = 0
  · subst h0; rfl
  · rw [if_neg h0, if_neg (show ¬ n.natAbs = 0 by omega)]
    by_cases hn : n < 0
    · rw [if_pos hn, decide_eq_true hn]; rfl
    · rw [if_neg hn, decide_eq_false hn]; rfl
theorem word_sm (m : Nat) (h0 : 0 < m) (h : m < 4294967296) : sh (wordOf m) = m.log2 + 1022 ∧ mag (wordOf m) = m * 2 ^ (52 - m.log2) ∧ wordOf m < 4845873199050653696 ∧ m.log2 < 32 := by
  obtain ⟨hl, g1, g2, hw⟩ := word_at m h0 h
  obtain ⟨L, hL⟩ : ∃ L, L = m.log2 := ⟨_, rfl⟩
  rw [← hL] at hl g1 g2 hw ⊢
  obtain ⟨q, hq⟩ : ∃ q, q = m * 2 ^ (52 - L) := ⟨_, rfl⟩
  rw [← hq] at g1 g2 hw ⊢
  clear hL hq
  have h1 : ¬ wordOf m < 4503599627370496 := by omega
  unfold sh mag
  rw [if_neg h1, if_neg h1]
  omega
theorem mg_lt (m : Nat) (h : m < 4294967296) : mg m < 4845873199050653696 := by
  unfold mg
  by_cases h0 : m = 0
  · rw [if_pos h0]; decide
  · rw [if_neg h0]; exact (word_sm m (by omega) h).2.2.1
theorem mg_V (K m : Nat) (hK : K = 1074) (h : m < 4294967296) : V (mg m) = m * 2 ^ K := by
  unfold mg
  by_cases h0 : m = 0
  · rw [if_pos h0, V_zero, h0, Nat.zero_mul]
  · rw [if_neg h0, word_V m (by omega) h, hK]
theorem near_word (s : Bool) (m : Nat) (h : m < 4294967296) : Ieee.double.nearest s m 0 = wd s (mg m) := by
  obtain ⟨K, hK⟩ : ∃ K, K = 1074 := ⟨_, rfl⟩
  obtain ⟨M, hM⟩ : ∃ M, M = 2098 := ⟨_, rfl⟩
  by_cases h0 : m = 0
  · subst h0
    rw [nearest_zero]
    cases s <;> rfl
  · have e1 : (0 : Int) = (K : Int) - 1074 := by omega
    have h2 : m < 2 ^ 32 := by rw [show (2 : Nat) ^ 32 = 4294967296 from by decide]; exact h
    have h3 : m * 2 ^ K < 2 ^ (32 + K) := by rw [Nat.pow_add]; exact Nat.mul_lt_mul_of_pos_right h2 (Nat.pow_pos (by decide))
    have h4 : m * 2 ^ K < 2 ^ M := Nat.lt_of_lt_of_le h3 (Nat.pow_le_pow_right (by decide) (by omega))
    obtain ⟨z, hz, hz1, hz2⟩ := nearest_exact s m K m K (by omega) rfl (by omega) (by rw [← hM]; exact h4)
    rw [← e1] at hz
    have : z = mg m := V_inj (by rw [hz2, mg_V K m hK h])
    rw [hz, this]
    rfl
theorem float_dbl (n : Int) (h0 : -2147483648 ≤ n) (h1 : n ≤ 2147483648) : floatOfInt .f64 n = dbl n := by
  have e0 : floatOfInt .f64 n = Ieee.double.nearest (decide (n < 0)) n.natAbs 0 := rfl
  rw [e0, near_word _ _ (by omega), dbl_wd]
theorem read_dbl (n : Int) (h0 : -2147483648 ≤ n) (h1 : n ≤ 2147483648) : Ieee.double.read (dbl n) = .number (decide (n < 0)) (mag (mg n.natAbs)) ((sh (mg n.natAbs) : Int) - 1074) := by
  rw [dbl_wd]
  exact read_wd _ _ (Nat.lt_trans (mg_lt _ (by omega)) (by decide))
/-- A double of a whole number, cut toward zero: the number. -/
theorem cut_dbl (s : Bool) (m : Nat) (h : m < 4294967296) : Ieee.Datum.integral .zero (.number s (mag (mg m)) ((sh (mg m) : Int) - 1074)) = .number s m 0 := by
  show Ieee.Datum.number s (Ieee.Toward.zero.cut s (mag (mg m) <<< ((sh (mg m) : Int) - 1074).toNat) (-((sh (mg m) : Int) - 1074)).toNat) 0 = _
  congr 1
  rw [cut_toward_zero]
  unfold mg
  by_cases h0 : m = 0
  · subst h0
    rw [if_pos rfl]
    have e1 : mag 0 = 0 := by decide
    rw [e1, Nat.zero_shiftLeft, Nat.zero_div]
  · rw [if_neg h0]
    obtain ⟨e1, e2, _, hl⟩ := word_sm m (by omega) h
    rw [e1, e2]
    obtain ⟨L, hL⟩ : ∃ L, L = m.log2 := ⟨_, rfl⟩
    rw [← hL] at hl ⊢
    have e3 : (((L + 1022 : Nat) : Int) - 1074).toNat = 0 := by omega
    have e4 : (-(((L + 1022 : Nat) : Int) - 1074)).toNat = 52 - L := by omega
    rw [e3, e4, Nat.shiftLeft_zero, Nat.mul_div_cancel _ (Nat.pow_pos (by decide))]
theorem int_dbl (n : Int) (h0 : -2147483648 ≤ n) (h1 : n ≤ 2147483648) : (Ieee.double.read (dbl n)).toInt .zero = some n := by
  rw [read_dbl n h0 h1]
  unfold Ieee.Datum.toInt
  rw [cut_dbl _ _ (by omega)]
  simp only [signed_eq, Nat.pow_zero, Nat.mul_one]
  by_cases hn : n < 0
  · rw [decide_eq_true hn, if_pos rfl]; congr 1; omega
  · rw [decide_eq_false hn, if_neg (by decide)]; congr 1; omega
theorem conv_i32 (n : Int) (h0 : -2147483648 ≤ n) (h1 : n ≤ 2147483647) (w : World) : (convert 22 21 (.float .f64 (dbl n))).run Tryd.prog w = .ok (.int .i32 n) w := by
  refine run_convert_float_int w 22 21 .f64 .i32 _ n (by kernel_rfl) (by kernel_rfl) ?_
  have e2 : (FloatKind.f64.decode (dbl n)).toInt .zero = some n := int_dbl n h0 (by omega)
  unfold floatToIntVal
  rw [e2]
  have hmin : IntKind.i32.min = -2147483648 := by decide
  have hmax : IntKind.i32.max = 2147483647 := by decide
  simp [hmin, hmax, h0, h1]
theorem conv_u64 (n : Int) (h0 : 0 ≤ n) (h1 : n ≤ 2147483648) (w : World) : (convert 22 40 (.float .f64 (dbl n))).run Tryd.prog w = .ok (.int .u64 n) w := by
  refine run_convert_float_int w 22 40 .f64 .u64 _ n (by kernel_rfl) (by kernel_rfl) ?_
  have e2 : (FloatKind.f64.decode (dbl n)).toInt .zero = some n := int_dbl n (by omega) h1
  unfold floatToIntVal
  rw [e2]
  have hmin : IntKind.u64.min = 0 := by decide
  have hmax : IntKind.u64.max = 18446744073709551615 := by decide
  have h2 : n ≤ 18446744073709551615 := by omega
  simp [hmin, hmax, h0, h2]
theorem conv_float (n : Int) (h0 : -2147483648 ≤ n) (h1 : n ≤ 2147483648) (w : World) : (convert 21 22 (.int .i32 n)).run Tryd.prog w = .ok (.float .f64 (dbl n)) w := by
  rw [← float_dbl n h0 h1]
  exact run_convert_int_float w 21 22 .i32 .f64 n (by kernel_rfl) (by kernel_rfl)
theorem ord_self (s : Bool) (r : Nat) (h : r < 9218868437227405312) : (FloatKind.f64.format.order (wd s r) (wd s r) == some .eq) = true := by
  have e : Ieee.double.order (wd s r) (wd s r) = some (compare (W s r) (W s r)) := order_eq s s r r h h
  show (Ieee.double.order (wd s r) (wd s r) == some .eq) = true
  rw [e]
  have : compare (W s r) (W s r) = .eq := by
    generalize W s r = a
    simp [compare, compareOfLessAndEq]
  rw [this]
  rfl
theorem integral_num (nm : String) (way : Ieee.Toward) (x : Nat) (s : Bool) (m : Nat) (i : Int) (h : FloatKind.f64.decode x = .number s m i) : Extern.MathFloor.toIntegral nm way #[.float .f64 x] = (pure (.float .f64 (FloatKind.f64.encode ((Ieee.Datum.number s m i).integral way))) : Sem Value) := by
  show (match FloatKind.f64.decode x with
    | .nan s t => _
    | d => _) = _
  rw [h]
/-- math.Trunc at a whole number. -/
theorem trunc_run (n : Int) (h0 : -2147483648 ≤ n) (h1 : n ≤ 2147483648) (w : World) : (callFunc 41 #[.float .f64 (dbl n)]).run Tryd.prog w = .ok (.value (.float .f64 (dbl n))) w := by
  rw [run_callFunc_extern Tryd.func41 (by kernel_rfl) (by kernel_rfl) (by kernel_rfl) (e := Extern.MathFloor.toIntegral "math.archTrunc" .zero) (by kernel_rfl)]
  have e : (Extern.MathFloor.toIntegral "math.archTrunc" .zero #[.float .f64 (dbl n)]) = (pure (.float .f64 (dbl n)) : Sem Value) := by
    have e2 : FloatKind.f64.decode (dbl n) = .number (decide (n < 0)) (mag (mg n.natAbs)) ((sh (mg n.natAbs) : Int) - 1074) := read_dbl n h0 h1
    have e3 : FloatKind.f64.encode (.number (decide (n < 0)) n.natAbs 0) = dbl n := float_dbl n h0 h1
    rw [integral_num _ _ _ _ _ _ e2, cut_dbl _ _ (by omega), e3]
  rw [e]
  rfl
theorem exp_bits (s : Bool) (r Q : Nat) (hr : r < 9223372036854775808) (hQ : Q = r / 4503599627370496) : Go.bits .and .u64 (((wd s r : Nat) : Int) / 4503599627370496) 2047 = (Q : Int) := by
  have hw := wd_lt s r hr
  have := bits_mask .u64 64 (by decide) wraps_u64 11 (by decide) (((wd s r : Nat) : Int) / 4503599627370496) (by omega) (by omega)
  have e : ((2 : Int) ^ 11 - 1) = 2047 := by decide
  rw [e] at this
  rw [this]
  have e2 : ((2 : Int) ^ 11) = 2048 := by decide
  rw [e2]
  have h2 : wd s r / 4503599627370496 % 2048 = Q := by
    unfold wd
    cases s
    · simp only [Bool.false_eq_true, if_false]; omega
    · simp only [if_true]; omega
  omega
theorem low_bits (s : Bool) (r : Nat) (hr : r < 9223372036854775808) : Go.bits .and .u64 ((wd s r : Nat) : Int) 4503599627370495 = ((r % 4503599627370496 : Nat) : Int) := by
  have hw := wd_lt s r hr
  have := bits_mask .u64 64 (by decide) wraps_u64 52 (by decide) ((wd s r : Nat) : Int) (by omega) (by omega)
  have e : ((2 : Int) ^ 52 - 1) = 4503599627370495 := by decide
  rw [e] at this
  rw [this]
  have e2 : ((2 : Int) ^ 52) = 4503599627370496 := by decide
  rw [e2]
  have h2 : wd s r % 4503599627370496 = r % 4503599627370496 := by
    unfold wd
    cases s
    · simp only [Bool.false_eq_true, if_false]
    · simp only [if_true]; omega
  omega
theorem hid_bit (m : Nat) (hm : m < 4503599627370496) : Go.bits .or .u64 (m : Int) 4503599627370496 = ((4503599627370496 + m : Nat) : Int) := by
  have hc : ∀ a b : Int, Go.bits .or .u64 a b = Go.bits .or .u64 b a := fun a b => by
    unfold Go.bits
    simp only [BitVec.or_comm]
  rw [hc, bits_join .u64 64 (by decide) wraps_u64 52 4503599627370496 (m : Int) (by decide) (by decide) (by decide) (by omega) (by
    have e2 : ((2 : Int) ^ 52) = 4503599627370496 := by decide
    rw [e2]; omega) (by omega)]
  omega
theorem top_bit (s : Bool) (r : Nat) (hr : r < 9223372036854775808) : (((wd s r : Nat) : Int) / 9223372036854775808 == 1) = s := by
  unfold wd
  cases s
  · simp only [Bool.false_eq_true, if_false]
    exact beq_eq_false_iff_ne.mpr (by omega)
  · simp only [if_true]
    exact beq_iff_eq.mpr (by omega)
set_option maxHeartbeats 4000000 in
set_option maxRecDepth 100000 in
theorem numFinite.calls (s : Bool) (r : Nat) (w : World) (hr : r < 9223372036854775808) : Calls Tryd.prog 39 #[.float .f64 (wd s r)] w fun e w' => e = .returned (.bool (decide (r < 9218868437227405312))) ∧ w' = w := by
  obtain ⟨Q, hQ⟩ : ∃ Q, Q = r / 4503599627370496 := ⟨_, rfl⟩
  have q1 := exp_bits s r Q hr hQ
  have b1 := bits_run
  have e2 : ((Q : Int) != 2047) = decide (r < 9218868437227405312) := by
    by_cases h : r < 9218868437227405312
    · rw [decide_eq_true h]
      exact bne_iff_ne.mpr (by omega)
    · rw [decide_eq_false h]
      exact bne_eq_false_iff_eq.mpr (by omega)
  generalize decide (r < 9218868437227405312) = b at *
  generalize wd s r = x at *
  clear hr hQ
  go_enter Tryd.func39, Tryd.ntmps39
  go_wp2
  go_ret
  exact ⟨rfl, rfl⟩
set_option maxHeartbeats 4000000 in
set_option maxRecDepth 100000 in
theorem numParts.calls (s : Bool) (r : Nat) (w : World) (hr : r < 9218868437227405312) : Calls Tryd.prog 40 #[.float .f64 (wd s r)] w fun e w' => e = .returned (.tuple #[.bool s, .int .u64 (mag r : Int), .int .i64 ((sh r : Int) - 1074)]) ∧ w' = w := by
  obtain ⟨Q, hQ⟩ : ∃ Q, Q = r / 4503599627370496 := ⟨_, rfl⟩
  obtain ⟨m, hm⟩ : ∃ m, m = r % 4503599627370496 := ⟨_, rfl⟩
  have hQ2 : Q ≤ 2046 := by omega
  have q1 := exp_bits s r Q (by omega) hQ
  have q2 := low_bits s r (by omega)
  rw [← hm] at q2
  have q3 := hid_bit m (by omega)
  have q4 := top_bit s r (by omega)
  have b1 := bits_run
  by_cases h0 : Q = 0
  · have e1 : mag r = m := by unfold mag; rw [if_pos (by omega)]; omega
    have e2 : sh r = 0 := by unfold sh; rw [if_pos (by omega)]
    rw [e1, e2]
    subst h0
    generalize wd s r = x at *
    clear hr hQ hm e1 e2
    go_enter Tryd.func40, Tryd.ntmps40
    go_wp2
    exact bodyPost_ret (results_tmp3 rfl _ _ _) rfl ⟨rfl, rfl⟩
  · have e1 : mag r = 4503599627370496 + m := by unfold mag; rw [if_neg (by omega)]; omega
    have e2 : sh r = Q - 1 := by unfold sh; rw [if_neg (by omega)]; omega
    rw [e1, e2]
    have e3 : (((Q - 1 : Nat) : Int) - 1074) = (Q : Int) - 1075 := by omega
    rw [e3]
    have z1 : ((Q : Int) == 0) = false := beq_eq_false_iff_ne.mpr (by omega)
    generalize wd s r = x at *
    clear hr hQ hm e1 e2 e3 h0
    go_enter Tryd.func40, Tryd.ntmps40
    go_wp2
    exact bodyPost_ret (results_tmp3 rfl _ _ _) rfl ⟨rfl, rfl⟩

theorem two53 (m : Nat) (h : m < 4294967296) : (FloatKind.f64.format.order (mg m) 4845873199050653696 == some .gt) = false ∧ (FloatKind.f64.format.order (mg m) 4845873199050653696 == some .lt || FloatKind.f64.format.order (mg m) 4845873199050653696 == some .eq) = true := by
  have hl := mg_lt m h
  have e := ord_cmp (mg m) 4845873199050653696 (Nat.lt_trans hl (by decide)) (by decide)
  rw [e, if_pos hl]
  exact ⟨rfl, rfl⟩
set_option maxHeartbeats 4000000 in
set_option maxRecDepth 100000 in
theorem IsInf.zero (n : Int) (h0 : -2147483648 ≤ n) (h1 : n ≤ 2147483648) (w : World) : Calls Tryd.prog 19 #[.float .f64 (dbl n), .int .i64 0] w fun e w' => e = .returned (.bool false) ∧ w' = w := by
  have hlt := mg_lt n.natAbs (by omega)
  have hA := fun w => Abs.calls (decide (n < 0)) (mg n.natAbs) w (by omega)
  rw [← dbl_wd] at hA
  have HA := Lib.hid hA
  have h3 : (FloatKind.f64.format.order (mg n.natAbs) 9218868437227405311 == some .gt) = false := by
    have e := ord_cmp (mg n.natAbs) 9218868437227405311 (by omega) (by decide)
    rw [e, if_pos (by omega)]
    rfl
  clear hA hlt h0 h1
  generalize mg n.natAbs = y at *
  generalize dbl n = x at *
  go_enter Tryd.func19, Tryd.ntmps19
  go_wp2_with (first | (go_at_call 24; (with_reducible refine (HA.out _).mono ?_); rintro e w9 ⟨rfl, rfl⟩))
  go_ret
  exact ⟨rfl, rfl⟩
set_option maxHeartbeats 4000000 in
set_option maxRecDepth 100000 in
theorem whole.calls (n : Int) (h0 : -2147483648 ≤ n) (h1 : n ≤ 2147483648) (w : World) : Calls Tryd.prog 10 #[.float .f64 (dbl n)] w fun e w' => e = .returned (.bool true) ∧ w' = w := by
  have hlt := mg_lt n.natAbs (by omega)
  have hA := fun w => Abs.calls (decide (n < 0)) (mg n.natAbs) w (by omega)
  rw [← dbl_wd] at hA
  have HA := Lib.hid hA
  have h3 := (two53 n.natAbs (by omega)).2
  have h4 : (FloatKind.f64.format.order (dbl n) (dbl n) == some .eq) = true := by rw [dbl_wd]; exact ord_self _ _ (by omega)
  have HT : ∀ w, Calls Tryd.prog 23 #[.float .f64 (dbl n)] w fun e w' => e = .returned (.float .f64 (dbl n)) ∧ w' = w := fun w => by
    have h5 := trunc_run n h0 h1
    clear h0 h1 hlt hA HA h3 h4
    generalize dbl n = x at *
    go_enter Tryd.func23, Tryd.ntmps23
    go_wp2
    go_ret
    exact ⟨rfl, rfl⟩
  have HT2 := Lib.hid HT
  clear hA hlt h0 h1 HT
  generalize mg n.natAbs = y at *
  generalize dbl n = x at *
  go_enter Tryd.func10, Tryd.ntmps10
  go_wp2_with (first | (go_at_call 24; (with_reducible refine (HA.out _).mono ?_); rintro e w9 ⟨rfl, rfl⟩) | (go_at_call 23; (with_reducible refine (HT2.out _).mono ?_); rintro e w9 ⟨rfl, rfl⟩))
  go_ret
  exact ⟨rfl, rfl⟩
theorem whole_parts (m : Nat) (h0 : 0 < m) (h : m < 2147483649) : ∃ k q : Nat, mag (mg m) = q ∧ (sh (mg m) : Int) - 1074 = -(k : Int) ∧ 0 < k ∧ k < 64 ∧ (q : Int) / 2 ^ k = (m : Int) ∧ IntKind.u64.wrap ((m : Int) * 2 ^ k) = (q : Int) := by
  obtain ⟨e1, e2, _, hl⟩ := word_sm m h0 (by omega)
  have e3 : mg m = wordOf m := by unfold mg; rw [if_neg (by omega)]
  rw [← e3] at e1 e2
  have hq := word_at m h0 (by omega)
  refine ⟨52 - m.log2, m * 2 ^ (52 - m.log2), e2, by rw [e1]; omega, by omega, by omega, ?_, ?_⟩
  · rw [Int.natCast_mul, Int.natCast_pow]
    exact Int.mul_ediv_cancel _ (Int.ne_of_gt (Int.pow_pos (by decide)))
  · have q2 := hq.2.2.1
    clear hq e1 e2 e3 hl
    have : (m : Int) * 2 ^ (52 - m.log2) = ((m * 2 ^ (52 - m.log2) : Nat) : Int) := by rw [Int.natCast_mul, Int.natCast_pow]; rfl
    rw [this]
    generalize m * 2 ^ (52 - m.log2) = q at *
    exact u64w _ (by omega) (by omega)
set_option maxHeartbeats 4000000 in
set_option maxRecDepth 100000 in
theorem NumWhole.calls (n : Int) (h0 : -2147483648 ≤ n) (h1 : n ≤ 2147483648) (w : World) : Calls Tryd.prog 21 #[.float .f64 (dbl n)] w fun e w' => e = .returned (.bool true) ∧ w' = w := by
  have hlt := mg_lt n.natAbs (by omega)
  have hA := fun w => Abs.calls (decide (n < 0)) (mg n.natAbs) w (by omega)
  have hF := fun w => numFinite.calls (decide (n < 0)) (mg n.natAbs) w (by omega)
  rw [decide_eq_true (show mg n.natAbs < 9218868437227405312 by omega)] at hF
  have hP := fun w => numParts.calls (decide (n < 0)) (mg n.natAbs) w (by omega)
  rw [← dbl_wd] at hA hF hP
  have HA := Lib.hid hA
  have HF := Lib.hid hF
  have h3 := (two53 n.natAbs (by omega)).1
  by_cases hm : n.natAbs = 0
  · have e1 : mag (mg n.natAbs) = 0 := by rw [hm]; decide
    have e2 : sh (mg n.natAbs) = 0 := by rw [hm]; decide
    rw [e1, e2] at hP
    have HP := Lib.hid hP
    clear hA hF hP hlt h0 h1 hm e1 e2
    generalize mg n.natAbs = y at *
    generalize dbl n = x at *
    generalize decide (n < 0) = s at *
    go_enter Tryd.func21, Tryd.ntmps21
    go_wp2_with (first | (go_at_call 39; (with_reducible refine (HF.out _).mono ?_); rintro e w9 ⟨rfl, rfl⟩) | (go_at_call 24; (with_reducible refine (HA.out _).mono ?_); rintro e w9 ⟨rfl, rfl⟩) | (go_at_call 40; (with_reducible refine (HP.out _).mono ?_); rintro e w9 ⟨rfl, rfl⟩))
    go_ret
    exact ⟨rfl, rfl⟩
  · obtain ⟨k, q, e1, e2, hk2, hk1, f1, f2⟩ := whole_parts n.natAbs (by omega) (by omega)
    rw [e1, e2] at hP
    have HP := Lib.hid hP
    generalize n.natAbs = m at *
    clear hA hF hP hlt h0 h1 hm e1 e2
    generalize mg m = y at *
    generalize dbl n = x at *
    generalize decide (n < 0) = s at *
    have wu : IntKind.u64.wrap (k : Int) = (k : Int) := wraps_u64 _ (by omega) (by omega)
    have ww : wrap64 (k : Int) = (k : Int) := by unfold wrap64; omega
    have hk3 : decide ((-64 : Int) < -(k : Int)) = true := decide_eq_true (by omega)
    have hk4 : decide ((0 : Int) ≤ -(k : Int)) = false := decide_eq_false (by omega)
    have F1 := Lib.hid f1
    have F2 := Lib.hid f2
    clear f1 f2
    have f1 := F1.out
    have f2 := F2.out
    clear F1 F2
    go_enter Tryd.func21, Tryd.ntmps21
    go_wp2_with (first | (go_at_call 39; (with_reducible refine (HF.out _).mono ?_); rintro e w9 ⟨rfl, rfl⟩) | (go_at_call 24; (with_reducible refine (HA.out _).mono ?_); rintro e w9 ⟨rfl, rfl⟩) | (go_at_call 40; (with_reducible refine (HP.out _).mono ?_); rintro e w9 ⟨rfl, rfl⟩))
    go_ret
    exact ⟨rfl, rfl⟩
end Go.Proofs.YtheichpmhfledaaDoor
set_option linter.unusedVariables false
set_option linter.unusedSimpArgs false
namespace Go.Proofs.YtheichpmhfledaaDoor
open Go Go.RowKit Go.Proofs.YtheichpmhfledaaDoorW.PrintWords
/-- A digit's sign. -/
def dg (d : Nat) : UInt8 := UInt8.ofNat (if d < 10 then 48 + d else 87 + d)
/-- The digits of a number, none of 0. -/
def rads (r u : Nat) : List UInt8 := if h : u = 0 ∨ r < 2 then [] else rads r (u / r) ++ [dg (u % r)]
termination_by u
decreasing_by
  have : ¬ (u = 0 ∨ r < 2) := h
  exact Nat.div_lt_self (by omega) (by omega)
theorem rads_zero (r : Nat) : rads r 0 = [] := by rw [rads, dif_pos (Or.inl rfl)]
theorem rads_step (r u : Nat) (hr : 2 ≤ r) (h : 0 < u) : rads r u = rads r (u / r) ++ [dg (u % r)] := by rw [rads, dif_neg (by omega)]
/-- The digits of a number, one of 0. -/
def rad (r u : Nat) : List UInt8 := if u = 0 then [dg 0] else rads r u
theorem rad_small (r u : Nat) (hr : 2 ≤ r) (h : u < r) : rad r u = [dg u] := by
  unfold rad
  by_cases h0 : u = 0
  · rw [if_pos h0, h0]
  · rw [if_neg h0, rads_step r u hr (by omega), Nat.div_eq_of_lt h, rads_zero, Nat.mod_eq_of_lt h]
    rfl
theorem rad_step (r u : Nat) (hr : 2 ≤ r) (h : r ≤ u) : rad r u = rad r (u / r) ++ [dg (u % r)] := by
  have h1 : 0 < u / r := Nat.div_pos h (by omega)
  unfold rad
  rw [if_neg (by omega), if_neg (by omega), rads_step r u hr (by omega)]
theorem rad_len (r : Nat) (hr : 2 ≤ r) : ∀ (k u : Nat), u < 2 ^ (k + 1) → (rad r u).length ≤ k + 1
  | 0, u, h => by rw [rad_small r u hr (by simp at h; omega)]; simp
  | k + 1, u, h => by
    by_cases hs : u < r
    · rw [rad_small r u hr hs]; simp
    · rw [rad_step r u hr (by omega), List.length_append, List.length_singleton]
      have h2 : u / r ≤ u / 2 := Nat.div_le_div_left hr (by decide)
      have := rad_len r hr k (u / r) (by rw [Nat.pow_succ] at h; omega)
      omega
theorem dgs_all : (List.range 36).all (fun d => decide ((⟨#[48, 49, 50, 51, 52, 53, 54, 55, 56, 57, 97, 98, 99, 100, 101, 102, 103, 104, 105, 106, 107, 108, 109, 110, 111, 112, 113, 114, 115, 116, 117, 118, 119, 120, 121, 122]⟩ : ByteArray).extract d (d + 1) = tx [dg d])) = true := by kernel_rfl
theorem dgs_cut (d : Nat) (h : d < 36) : (⟨#[48, 49, 50, 51, 52, 53, 54, 55, 56, 57, 97, 98, 99, 100, 101, 102, 103, 104, 105, 106, 107, 108, 109, 110, 111, 112, 113, 114, 115, 116, 117, 118, 119, 120, 121, 122]⟩ : ByteArray).extract d (d + 1) = tx [dg d] := of_decide_eq_true (List.all_eq_true.1 dgs_all d (List.mem_range.2 h))
set_option maxHeartbeats 4000000 in
set_option maxRecDepth 100000 in
theorem numDigit.calls (d : Nat) (h : d < 36) (w : World) : Calls Tryd.prog 22 #[.int .i64 (d : Int)] w fun e w' => e = .returned (.string (tx [dg d])) ∧ w' = w := by
  have h2 := dgs_cut d h
  have ww : wrap64 ((d : Int) + 1) = (d : Int) + 1 := w64 _ (by omega) (by omega)
  have p1 : (0 : Int) ≤ (d : Int) := by omega
  have p2 : (0 : Int) ≤ (d : Int) + 1 := by omega
  have p3 : (d : Int) + 1 ≤ 36 := by omega
  have p4 : (d : Int) ≤ (d : Int) + 1 := by omega
  have p5 : d ≤ d + 1 := Nat.le_succ d
  have t2 : ((d : Int) + 1).toNat = d + 1 := by omega
  replace p1 := eq_true p1
  replace p2 := eq_true p2
  replace p3 := eq_true p3
  replace p4 := eq_true p4
  replace p5 := eq_true p5
  clear h
  go_enter Tryd.func22, Tryd.ntmps22
  go_wp2
  go_ret
  exact ⟨rfl, rfl⟩
theorem W_zero : W false 0 = 0 := by unfold W; rw [V_zero]; rfl
theorem V_pos (r : Nat) (h : 0 < r) : 0 < V r := by
  have := V_mono h
  rw [V_zero] at this
  exact this
theorem mg_pos (m : Nat) (h0 : 0 < m) (h : m < 4294967296) : 0 < mg m := by
  have e : mg m = wordOf m := by unfold mg; rw [if_neg (by omega)]
  rw [e]
  rcases Nat.eq_zero_or_pos (wordOf m) with h2 | h2
  · have := (word_sh m h0 h).2.1
    rw [h2] at this
    exact absurd this (by decide)
  · exact h2
theorem ord_dbl (n : Int) (h0 : -2147483648 ≤ n) (h1 : n ≤ 2147483648) (hn : n ≠ 0) : (FloatKind.f64.format.order (dbl n) 0 == some .eq) = false ∧ (FloatKind.f64.format.order (dbl n) 0 == some .lt) = decide (n < 0) := by
  have hlt := mg_lt n.natAbs (by omega)
  have hp := V_pos _ (mg_pos n.natAbs (by omega) (by omega))
  have e : Ieee.double.order (wd (decide (n < 0)) (mg n.natAbs)) (wd false 0) = some (compare (W (decide (n < 0)) (mg n.natAbs)) (W false 0)) := order_eq _ false _ 0 (by omega) (by decide)
  have e2 : FloatKind.f64.format.order (dbl n) 0 = some (compare (W (decide (n < 0)) (mg n.natAbs)) 0) := by
    rw [dbl_wd]
    rw [W_zero] at e
    exact e
  rw [e2]
  unfold W
  generalize V (mg n.natAbs) = v at hp
  by_cases hs : n < 0
  · rw [decide_eq_true hs, if_pos rfl]
    have : compare (-(v : Int)) 0 = .lt := by simp only [compare, compareOfLessAndEq]; rw [if_pos (by omega)]
    rw [this]
    exact ⟨rfl, rfl⟩
  · rw [decide_eq_false hs, if_neg (by decide)]
    have : compare (v : Int) 0 = .gt := by simp only [compare, compareOfLessAndEq]; rw [if_neg (by omega), if_neg (by omega)]
    rw [this]
    exact ⟨rfl, rfl⟩
theorem isnan_dbl (n : Int) (h0 : -2147483648 ≤ n) (h1 : n ≤ 2147483648) (w : World) : Calls Tryd.prog 17 #[.float .f64 (dbl n)] w fun e w' => e = .returned (.bool false) ∧ w' = w := by
  have hlt := mg_lt n.natAbs (by omega)
  have := IsNaN.calls (decide (n < 0)) (mg n.natAbs) w (by omega)
  rw [decide_eq_false (show ¬ 9218868437227405312 < mg n.natAbs by omega), ← dbl_wd] at this
  exact this
theorem ord_dbl0 : (FloatKind.f64.format.order (dbl 0) 0 == some .eq) = true := ord_self false 0 (by decide)
set_option maxHeartbeats 4000000 in
set_option maxRecDepth 100000 in
theorem TextIn.zero (r : Nat) (hr : 2 ≤ r) (hr2 : r ≤ 36) (hr3 : r ≠ 10) (w : World) : Calls Tryd.prog 9 #[.float .f64 (dbl 0), .int .i64 (r : Int)] w fun e w' => e = .returned (.tuple #[.string (tx [dg 0]), .bool true]) ∧ Below w.heap.size w w' := by
  have HN := Lib.hid (isnan_dbl 0 (by decide) (by decide))
  have HI := Lib.hid (IsInf.zero 0 (by decide) (by decide))
  have HW := Lib.hid (NumWhole.calls 0 (by decide) (by decide))
  have o1 := ord_dbl0
  have d1 : decide ((r : Int) < 2) = false := decide_eq_false (by omega)
  have d2 : decide ((36 : Int) < (r : Int)) = false := decide_eq_false (by omega)
  have d3 : ((r : Int) == 10) = false := beq_eq_false_iff_ne.2 (by omega)
  have d4 : decide (r < 2) = false := decide_eq_false (by omega)
  have d5 : decide (36 < r) = false := decide_eq_false (by omega)
  clear hr hr2 hr3
  generalize dbl 0 = x at *
  go_enter Tryd.func9, Tryd.ntmps9
  go_wp2_with (first | (go_at_call 17; (with_reducible refine (HN.out _).mono ?_); rintro e w9 ⟨rfl, rfl⟩) | (go_at_call 19; (with_reducible refine (HI.out _).mono ?_); rintro e w9 ⟨rfl, rfl⟩) | (go_at_call 21; (with_reducible refine (HW.out _).mono ?_); rintro e w9 ⟨rfl, rfl⟩))
  exact bodyPost_ret (results_tmp2 rfl _ _ _) rfl ⟨rfl, Below.refl _ _⟩
set_option maxHeartbeats 4000000 in
set_option maxRecDepth 100000 in
theorem TextIn.pos (m r : Nat) (hm : 0 < m) (hm2 : m ≤ 2147483648) (hr : 2 ≤ r) (hr2 : r ≤ 36) (hr3 : r ≠ 10) (w : World) : Calls Tryd.prog 9 #[.float .f64 (dbl (m : Int)), .int .i64 (r : Int)] w fun e w' => e = .returned (.tuple #[.string (tx (rads r m)), .bool true]) ∧ Below w.heap.size w w' := by
  have HN := Lib.hid (isnan_dbl (m : Int) (by omega) (by omega))
  have HI := Lib.hid (IsInf.zero (m : Int) (by omega) (by omega))
  have HW := Lib.hid (NumWhole.calls (m : Int) (by omega) (by omega))
  obtain ⟨o1, o2⟩ := ord_dbl (m : Int) (by omega) (by omega) (by omega)
  rw [decide_eq_false (by omega)] at o2
  have cu := conv_u64 (m : Int) (by omega) (by omega)
  have d1 : decide ((r : Int) < 2) = false := decide_eq_false (by omega)
  have d2 : decide ((36 : Int) < (r : Int)) = false := decide_eq_false (by omega)
  have d3 : ((r : Int) == 10) = false := beq_eq_false_iff_ne.2 (by omega)
  have d4 : decide (r < 2) = false := decide_eq_false (by omega)
  have d5 : decide (36 < r) = false := decide_eq_false (by omega)
  have ur : IntKind.u64.wrap (r : Int) = (r : Int) := u64w _ (by omega) (by omega)
  have r0 : ((r : Int) == 0) = false := beq_eq_false_iff_ne.2 (by omega)
  have HR := Lib.hid hr
  have HR2 := Lib.hid hr2
  have HM := Lib.hid hm2
  clear hr hr2 hr3 hm hm2
  generalize dbl (m : Int) = x at *
  go_enter Tryd.func9, Tryd.ntmps9
  go_wp2_with (first | (go_at_call 17; (with_reducible refine (HN.out _).mono ?_); rintro e w9 ⟨rfl, rfl⟩) | (go_at_call 19; (with_reducible refine (HI.out _).mono ?_); rintro e w9 ⟨rfl, rfl⟩) | (go_at_call 21; (with_reducible refine (HW.out _).mono ?_); rintro e w9 ⟨rfl, rfl⟩))
  go_loopw [8, 9] (fun v8 v9 wr => ∃ (u : Nat) (acc : List UInt8), v8 = .string (tx acc) ∧ v9 = .int .u64 (u : Int) ∧ u ≤ 2147483648 ∧ acc.length + u ≤ 2147483648 ∧ rads r u ++ acc = rads r m ∧ Hid (Below w9.heap.size w9 wr)) (fun _ v9 _ => (intOf v9).toNat)
  case atStart => exact ⟨m, [], rfl, rfl, HM.out, by simpa using HM.out, by rw [List.append_nil], Lib.hid (Below.refl _ _)⟩
  obtain ⟨u, acc, rfl, rfl, hu, hl, he, HB⟩ := hrel
  by_cases hz : u = 0
  · subst hz
    rw [rads_zero, List.nil_append] at he
    subst he
    go_wp2
    exact bodyPost_ret (results_tmp2 rfl _ _ _) rfl ⟨rfl, HB.out⟩
  · have hr := HR.out
    have hr2 := HR2.out
    have HUR := Lib.hid ur
    clear ur d1 d2 d3 d4 d5 r0
    obtain ⟨d, hd⟩ : ∃ d, d = u % r := ⟨_, rfl⟩
    obtain ⟨q, hq⟩ : ∃ q, q = u / r := ⟨_, rfl⟩
    have hdr : d < r := by rw [hd]; exact Nat.mod_lt _ (by omega)
    have hqu : q < u := by rw [hq]; exact Nat.div_lt_self (by omega) (by omega)
    have hst : rads r q ++ (dg d :: acc) = rads r m := by rw [← he, rads_step r u hr (by omega), hd, hq, List.append_assoc]; rfl
    have hd36 : d < 36 := Nat.lt_of_lt_of_le hdr hr2
    have hq31 : q ≤ 2147483648 := Nat.le_trans (Nat.le_of_lt hqu) hu
    have hl2 : (dg d :: acc).length + q ≤ 2147483648 := by rw [List.length_cons]; omega
    have hl3 : ¬ 9223372036854775807 < (tx [dg d]).size + (tx acc).size := by rw [tx_size, tx_size, List.length_singleton]; omega
    have hpos : decide ((0 : Int) < (u : Int)) = true := decide_eq_true (by omega)
    have hpos2 : decide (0 < u) = true := decide_eq_true (by omega)
    have tm : Int.tmod (u : Int) (r : Int) = (d : Int) := by rw [Int.tmod_eq_emod_of_nonneg (by omega), hd]; rfl
    have td : Int.tdiv (u : Int) (r : Int) = (q : Int) := by rw [Int.tdiv_eq_ediv_of_nonneg (by omega), hq]; rfl
    have c7 : (9223372036854775807 < (tx [dg d]).size + (tx acc).size) = False := eq_false hl3
    have HD := Lib.hid (numDigit.calls d hd36)
    have etx : tx [dg d] ++ tx acc = tx (dg d :: acc) := tx_add [dg d] acc
    have HST := Lib.hid hst
    have HQU := Lib.hid hqu
    have HL2 := Lib.hid hl2
    have HQ := Lib.hid hq31
    have r1 : ((r : Int) == 0) = false := beq_eq_false_iff_ne.2 (by omega)
    have r2 : (r = 0) = False := eq_false (by omega)
    have wd2 : wrap64 (d : Int) = (d : Int) := by clear tm td c7 he hst hl3 hl2; exact w64 _ (by omega) (by omega)
    have wq : IntKind.u64.wrap (q : Int) = (q : Int) := by clear tm td c7 he hst hl3 hl2 wd2; exact u64w _ (by omega) (by omega)
    have ur := HUR.out
    clear hst hqu hl hu he hz hd hq hdr hr hr2 hd36 hq31 hl2 hl3 HUR
    generalize tx [dg d] = td1 at *
    go_wp2_with (first | (go_at_call 22; (with_reducible refine (HD.out _).mono ?_); rintro e w10 ⟨rfl, rfl⟩))
    refine ⟨⟨q, dg d :: acc, rfl, rfl, HQ.out, HL2.out, HST.out, HB⟩, ?_⟩
    have := HQU.out
    show ((q : Int)).toNat < ((u : Int)).toNat
    rw [Int.toNat_natCast, Int.toNat_natCast]
    exact this
set_option maxHeartbeats 4000000 in
set_option maxRecDepth 100000 in
theorem TextIn.neg (m r : Nat) (hm : 0 < m) (hm2 : m ≤ 2147483648) (hr : 2 ≤ r) (hr2 : r ≤ 36) (hr3 : r ≠ 10) (w : World) : Calls Tryd.prog 9 #[.float .f64 (dbl (-(m : Int))), .int .i64 (r : Int)] w fun e w' => e = .returned (.tuple #[.string (tx (45 :: rads r m)), .bool true]) ∧ Below w.heap.size w w' := by
  have HN := Lib.hid (isnan_dbl (-(m : Int)) (by omega) (by omega))
  have HI := Lib.hid (IsInf.zero (-(m : Int)) (by omega) (by omega))
  have HW := Lib.hid (NumWhole.calls (-(m : Int)) (by omega) (by omega))
  obtain ⟨o1, o2⟩ := ord_dbl (-(m : Int)) (by omega) (by omega) (by omega)
  rw [decide_eq_true (by omega)] at o2
  have HP := Lib.hid (TextIn.pos m r hm hm2 hr hr2 hr3)
  have hneg : ∀ u, (Op.unary .neg (.float .f64 (dbl (-(m : Int))))).run Tryd.prog u = .ok (.float .f64 (dbl (m : Int))) u := fun u => by
    have hlt := mg_lt m (by omega)
    have h := neg_run true (mg m) (by omega) u
    have e1 : dbl (-(m : Int)) = wd true (mg m) := by rw [dbl_wd, decide_eq_true (by omega), show (-(m : Int)).natAbs = m from by omega]
    have e2 : dbl (m : Int) = wd false (mg m) := by rw [dbl_wd, decide_eq_false (by omega), show ((m : Int)).natAbs = m from by omega]
    rw [e1, e2]
    exact h
  have hl := rad_len r hr 31 m (by omega)
  have er : rad r m = rads r m := by unfold rad; rw [if_neg (by omega)]
  rw [er] at hl
  have c7 : (9223372036854775807 < 1 + (tx (rads r m)).size) = False := eq_false (by rw [tx_size]; omega)
  have etx : (⟨#[45]⟩ : ByteArray) ++ tx (rads r m) = tx (45 :: rads r m) := tx_add [45] (rads r m)
  have d1 : decide ((r : Int) < 2) = false := decide_eq_false (by omega)
  have d2 : decide ((36 : Int) < (r : Int)) = false := decide_eq_false (by omega)
  have d3 : ((r : Int) == 10) = false := beq_eq_false_iff_ne.2 (by omega)
  have d4 : decide (r < 2) = false := decide_eq_false (by omega)
  have d5 : decide (36 < r) = false := decide_eq_false (by omega)
  have ETX := Lib.hid etx
  clear hr hr2 hr3 hm hm2 hl er etx
  generalize tx (45 :: rads r m) = t2 at *
  generalize tx (rads r m) = t1 at *
  generalize dbl (-(m : Int)) = x at *
  generalize dbl (m : Int) = y at *
  go_enter Tryd.func9, Tryd.ntmps9
  go_wp2_with (first | (go_at_call 17; (with_reducible refine (HN.out _).mono ?_); rintro e w9 ⟨rfl, rfl⟩) | (go_at_call 19; (with_reducible refine (HI.out _).mono ?_); rintro e w9 ⟨rfl, rfl⟩) | (go_at_call 21; (with_reducible refine (HW.out _).mono ?_); rintro e w9 ⟨rfl, rfl⟩) | (go_at_call 9; (with_reducible refine (HP.out _).mono ?_); rintro e w9 ⟨rfl, hb⟩; have HB := Lib.hid hb; clear hb))
  refine bodyPost_ret (results_tmp2 rfl _ _ _) rfl ⟨?_, HB.out⟩
  rw [← ETX.out]
  rfl
set_option maxHeartbeats 4000000 in
set_option maxRecDepth 100000 in
theorem TextIn.ten (n : Int) (h0 : -2147483648 ≤ n) (h1 : n ≤ 2147483647) (w : World) : Calls Tryd.prog 9 #[.float .f64 (dbl n), .int .i64 10] w fun e w' => e = .returned (.tuple #[.string ⟨(Lib.itoa n).toArray⟩, .bool true]) ∧ Below w.heap.size w w' := by
  have HN := Lib.hid (NumText.whole n h0 h1)
  clear h0 h1
  generalize dbl n = x at *
  generalize (⟨(Lib.itoa n).toArray⟩ : ByteArray) = t at *
  go_enter Tryd.func9, Tryd.ntmps9
  go_wp2_with (first | (go_at_call 20; (with_reducible refine (HN.out _).mono ?_); rintro e w9 ⟨rfl, hb⟩; have HB := Lib.hid hb; clear hb))
  exact bodyPost_ret (results_tmp2 rfl _ _ _) rfl ⟨rfl, HB.out⟩
end Go.Proofs.YtheichpmhfledaaDoor
set_option linter.unusedVariables false
set_option linter.unusedSimpArgs false
namespace Go.Proofs.YtheichpmhfledaaDoor
open Go Go.RowKit Go.Proofs.YtheichpmhfledaaDoorW.PrintWords Go.Proofs.YtheichpmhfledaaDoorW.PrintLast
/-- The table for trailing zeros, as the program lays it. -/
def bruijn64 : List Int := [0, 1, 56, 2, 57, 49, 28, 3, 61, 58, 42, 50, 38, 29, 17, 4, 62, 47, 59, 36, 45, 43, 51, 22, 53, 39, 33, 30, 24, 18, 12, 5, 63, 55, 48, 27, 60, 41, 37, 16, 46, 35, 44, 21, 52, 32, 23, 11, 54, 26, 40, 15, 34, 20, 31, 10, 25, 14, 19, 9, 13, 8, 7, 6]
def Tab64 (w : World) : Prop := Lib.TabIs Tryd.prog w "math/bits.deBruijn64tab" .u8 bruijn64
theorem gtab64 : Tryd.prog.globalNamed "math/bits.deBruijn64tab" = some 3 := by kernel_rfl
set_option maxHeartbeats 4000000 in
set_option maxRecDepth 100000 in
theorem TZ64.calls (s : Nat) (hs : 1 ≤ s) (hs2 : s ≤ 5) (w : World) (ht : Tab64 w) : Calls Tryd.prog 80 #[.int .u64 ((2 ^ s : Nat) : Int)] w fun e w' => e = .returned (.int .i64 (s : Int)) ∧ w' = w := by
  obtain rfl | rfl | rfl | rfl | rfl : s = 1 ∨ s = 2 ∨ s = 3 ∨ s = 4 ∨ s = 5 := by omega
  · have c := Lib.TabIs.cell ht gtab64 1 (by decide)
    have e1 : IntKind.u64.wrap (-2) = 18446744073709551614 := by decide
    have e2 : Go.bits .and .u64 2 18446744073709551614 = 2 := by kernel_rfl
    have e3 : IntKind.u64.wrap (2 * 285870213051353865) = 571740426102707730 := by decide
    clear ht
    go_enter Tryd.func80, Tryd.ntmps80
    go_wp2
    go_ret
    exact ⟨by kernel_rfl, rfl⟩
  · have c := Lib.TabIs.cell ht gtab64 3 (by decide)
    have e1 : IntKind.u64.wrap (-4) = 18446744073709551612 := by decide
    have e2 : Go.bits .and .u64 4 18446744073709551612 = 4 := by kernel_rfl
    have e3 : IntKind.u64.wrap (4 * 285870213051353865) = 1143480852205415460 := by decide
    clear ht
    go_enter Tryd.func80, Tryd.ntmps80
    go_wp2
    go_ret
    exact ⟨by kernel_rfl, rfl⟩
  · have c := Lib.TabIs.cell ht gtab64 7 (by decide)
    have e1 : IntKind.u64.wrap (-8) = 18446744073709551608 := by decide
    have e2 : Go.bits .and .u64 8 18446744073709551608 = 8 := by kernel_rfl
    have e3 : IntKind.u64.wrap (8 * 285870213051353865) = 2286961704410830920 := by decide
    clear ht
    go_enter Tryd.func80, Tryd.ntmps80
    go_wp2
    go_ret
    exact ⟨by kernel_rfl, rfl⟩
  · have c := Lib.TabIs.cell ht gtab64 15 (by decide)
    have e1 : IntKind.u64.wrap (-16) = 18446744073709551600 := by decide
    have e2 : Go.bits .and .u64 16 18446744073709551600 = 16 := by kernel_rfl
    have e3 : IntKind.u64.wrap (16 * 285870213051353865) = 4573923408821661840 := by decide
    clear ht
    go_enter Tryd.func80, Tryd.ntmps80
    go_wp2
    go_ret
    exact ⟨by kernel_rfl, rfl⟩
  · have c := Lib.TabIs.cell ht gtab64 31 (by decide)
    have e1 : IntKind.u64.wrap (-32) = 18446744073709551584 := by decide
    have e2 : Go.bits .and .u64 32 18446744073709551584 = 32 := by kernel_rfl
    have e3 : IntKind.u64.wrap (32 * 285870213051353865) = 9147846817643323680 := by decide
    clear ht
    go_enter Tryd.func80, Tryd.ntmps80
    go_wp2
    go_ret
    exact ⟨by kernel_rfl, rfl⟩
set_option maxHeartbeats 4000000 in
set_option maxRecDepth 100000 in
theorem TZ.calls (s : Nat) (hs : 1 ≤ s) (hs2 : s ≤ 5) (w : World) (ht : Tab64 w) : Calls Tryd.prog 77 #[.int .u64 ((2 ^ s : Nat) : Int)] w fun e w' => e = .returned (.int .i64 (s : Int)) ∧ w' = w := by
  have H := Lib.hid (TZ64.calls s hs hs2 w ht)
  clear hs hs2 ht
  generalize 2 ^ s = b at *
  go_enter Tryd.func77, Tryd.ntmps77
  go_wp2_with (first | (go_at_call 80; (with_reducible refine H.out.mono ?_); rintro e w9 ⟨rfl, rfl⟩))
  go_ret
  exact ⟨rfl, rfl⟩
/-- Whether a radix is a power of two. -/
def pw (r : Nat) : Bool := r == 2 || r == 4 || r == 8 || r == 16 || r == 32
theorem pow_all : (List.range 37).all (fun r => decide (r < 2) || (Go.bits .and .i64 (r : Int) ((r : Int) - 1) == 0) == pw r) = true := by kernel_rfl
theorem pow_bits (r : Nat) (hr : 2 ≤ r) (hr2 : r ≤ 36) : (Go.bits .and .i64 (r : Int) ((r : Int) - 1) == 0) = pw r := by
  have h := List.all_eq_true.1 pow_all r (List.mem_range.2 (by omega))
  rw [decide_eq_false (by omega), Bool.false_or] at h
  exact eq_of_beq h
set_option maxHeartbeats 4000000 in
set_option maxRecDepth 100000 in
theorem IsPow.calls (r : Nat) (hr : 2 ≤ r) (hr2 : r ≤ 36) (w : World) : Calls Tryd.prog 76 #[.int .i64 (r : Int)] w fun e w' => e = .returned (.bool (pw r)) ∧ w' = w := by
  have h := pow_bits r hr hr2
  have ww : wrap64 ((r : Int) - 1) = (r : Int) - 1 := w64 _ (by omega) (by omega)
  clear hr hr2
  generalize pw r = b at *
  go_enter Tryd.func76, Tryd.ntmps76
  go_wp2
  go_ret
  exact ⟨rfl, rfl⟩
/-- The array of 65 bytes, whose end is written. -/
def ArrS (g i : Nat) (acc : List UInt8) (w : World) : Prop :=
  ∃ cs : Array Value, w.heap[g]? = some (.cells cs 98 (0, 0)) ∧ cs.size = 65 ∧ i + acc.length = 65 ∧ (∀ (j : Nat) (x : UInt8), acc[j]? = some x → cs[i + j]? = some (.int .u8 (x.toNat : Int))) ∧ ∀ j : Nat, j < 65 → ∃ z : Int, cs[j]? = some (.int .u8 z)
theorem ArrS.fresh {g : Nat} {w : World} (h : w.heap[g]? = some (.cells (Array.replicate 65 (.int .u8 0)) 98 (0, 0))) : ArrS g 65 [] w :=
  ⟨_, h, Array.size_replicate, rfl, fun j x hx => by simp at hx, fun j hj => ⟨0, by rw [Array.getElem?_replicate, if_pos hj]⟩⟩
theorem ArrS.cell {g i : Nat} {acc : List UInt8} {w : World} (h : ArrS g i acc w) (j : Nat) (hj : j < 65) : ∃ z : Int, w.cell? ⟨g, j, none⟩ = some (.int .u8 z) := by
  obtain ⟨cs, h1, h2, h3, h4, h5⟩ := h
  obtain ⟨z, hz⟩ := h5 j hj
  exact ⟨z, by rw [blk_cell h1, hz]⟩
theorem ArrS.frozen {g i : Nat} {acc : List UInt8} {w : World} (h : ArrS g i acc w) (j : Nat) : w.frozen? ⟨g, j, none⟩ = false := by
  obtain ⟨cs, h1, _⟩ := h
  exact blk_frozen h1 j
theorem ArrS.put {g i : Nat} {acc : List UInt8} {w : World} (h : ArrS g (i + 1) acc w) (x : UInt8) : ArrS g i (x :: acc) (w.setCell ⟨g, i, none⟩ (.int .u8 (x.toNat : Int))) := by
  obtain ⟨cs, h1, h2, h3, h4, h5⟩ := h
  refine ⟨cs.setIfInBounds i (.int .u8 (x.toNat : Int)), blk_put h1 i _ rfl, by rw [Array.size_setIfInBounds, h2], by rw [List.length_cons]; omega, fun j y hy => ?_, fun j hj => ?_⟩
  · cases j with
    | zero =>
      simp only [List.getElem?_cons_zero, Option.some.injEq] at hy
      subst hy
      rw [Nat.add_zero, Array.getElem?_setIfInBounds_self_of_lt (by omega)]
    | succ j =>
      rw [List.getElem?_cons_succ] at hy
      have := h4 j y hy
      rw [Array.getElem?_setIfInBounds_ne (by omega), show i + (j + 1) = i + 1 + j from by omega]
      exact this
  · by_cases e : i = j
    · subst e
      exact ⟨_, Array.getElem?_setIfInBounds_self_of_lt (by omega)⟩
    · obtain ⟨z, hz⟩ := h5 j hj
      exact ⟨z, by rw [Array.getElem?_setIfInBounds_ne e]; exact hz⟩
theorem ArrS.text {g i : Nat} {acc : List UInt8} {w : World} (h : ArrS g i acc w) (c : Nat) : (convert 80 9 (.slice (some ⟨g, i, none⟩) acc.length c)).run Tryd.prog w = .ok (.string (tx acc)) w := by
  obtain ⟨cs, h1, h2, h3, h4, h5⟩ := h
  exact run_convert_bytes_back w 80 9 5 ⟨g, i, none⟩ c acc (by kernel_rfl) (by kernel_rfl) (by kernel_rfl) (fun j hj => by
    have e : (⟨g, i, none⟩ : Addr).add j = ⟨g, i + j, none⟩ := Lib.add_plain g i j
    rw [e, blk_cell h1, h4 j _ (List.getElem?_eq_getElem hj)])
end Go.Proofs.YtheichpmhfledaaDoor
set_option linter.unusedVariables false
set_option linter.unusedSimpArgs false
namespace Go.Proofs.YtheichpmhfledaaDoor
open Go Go.RowKit Go.Proofs.YtheichpmhfledaaDoorW.PrintWords Go.Proofs.YtheichpmhfledaaDoorW.PrintLast
theorem dgv_all : ∀ d : Fin 36, (⟨#[48, 49, 50, 51, 52, 53, 54, 55, 56, 57, 97, 98, 99, 100, 101, 102, 103, 104, 105, 106, 107, 108, 109, 110, 111, 112, 113, 114, 115, 116, 117, 118, 119, 120, 121, 122]⟩ : ByteArray)[d.val]'(d.isLt) = dg d.val := by decide +kernel
theorem dgv (d : Nat) (h : d < (⟨#[48, 49, 50, 51, 52, 53, 54, 55, 56, 57, 97, 98, 99, 100, 101, 102, 103, 104, 105, 106, 107, 108, 109, 110, 111, 112, 113, 114, 115, 116, 117, 118, 119, 120, 121, 122]⟩ : ByteArray).size) : (⟨#[48, 49, 50, 51, 52, 53, 54, 55, 56, 57, 97, 98, 99, 100, 101, 102, 103, 104, 105, 106, 107, 108, 109, 110, 111, 112, 113, 114, 115, 116, 117, 118, 119, 120, 121, 122]⟩ : ByteArray)[d]'h = dg d := dgv_all ⟨d, h⟩
/-- The loops' world: i bytes of the array are free, the rest holds acc. -/
def Fm (w0 : World) (g r m : Nat) (i u : Nat) (acc : List UInt8) (w : World) : Prop := ArrS g i acc w ∧ Below w0.heap.size w0 w ∧ w0.heap.size ≤ g ∧ rad r u ++ acc = rad r m ∧ u ≤ m ∧ acc.length ≤ 31
theorem rad_pos (r u : Nat) (hr : 2 ≤ r) : 1 ≤ (rad r u).length := by
  by_cases h : u < r
  · rw [rad_small r u hr h]; simp
  · rw [rad_step r u hr (by omega), List.length_append, List.length_singleton]; omega
theorem Fm.range {w0 w : World} {g r m i u : Nat} {acc : List UInt8} (h : Fm w0 g r m i u acc w) : 34 ≤ i ∧ i ≤ 65 ∧ i + acc.length = 65 := by
  obtain ⟨⟨cs, _, _, h3, _⟩, _, _, _, _, h6⟩ := h
  omega
theorem Fm.step {w0 w : World} {g r m i u : Nat} {acc : List UInt8} (h : Fm w0 g r m (i + 1) u acc w) (hr : 2 ≤ r) (hl : (rad r m).length ≤ 32) (hu : r ≤ u) : Fm w0 g r m i (u / r) (dg (u % r) :: acc) (w.setCell ⟨g, i, none⟩ (.int .u8 ((dg (u % r)).toNat : Int))) := by
  obtain ⟨h1, h2, h3, h4, h5, h6⟩ := h
  have hs := rad_step r u hr hu
  have hlen : (rad r u).length + acc.length = (rad r m).length := by rw [← h4, List.length_append]
  rw [hs, List.length_append, List.length_singleton] at hlen
  have hp := rad_pos r (u / r) hr
  refine ⟨h1.put _, h2.setCell (p := ⟨g, i, none⟩) h3 _, h3, ?_, Nat.le_trans (Nat.div_le_self _ _) h5, by rw [List.length_cons]; omega⟩
  rw [← h4, hs, List.append_assoc]
  rfl
theorem Fm.last {w0 w : World} {g r m i u : Nat} {acc : List UInt8} (h : Fm w0 g r m (i + 1) u acc w) (hr : 2 ≤ r) (hu : u < r) : ArrS g i (rad r m) (w.setCell ⟨g, i, none⟩ (.int .u8 ((dg u).toNat : Int))) ∧ Below w0.heap.size w0 (w.setCell ⟨g, i, none⟩ (.int .u8 ((dg u).toNat : Int))) ∧ w0.heap.size ≤ g := by
  obtain ⟨h1, h2, h3, h4, h5, h6⟩ := h
  refine ⟨?_, h2.setCell (p := ⟨g, i, none⟩) h3 _, h3⟩
  have h7 := h1.put (dg u)
  rw [← h4, rad_small r u hr hu]
  exact h7
theorem slice_end (g i L : Nat) (h : i + L = 65) (hL : 0 < L) : ∀ W, (Instr.sliceAt 98 (.pointer (some ⟨g, 0, none⟩)) (some (.int .i64 (i : Int))) none none).run Tryd.prog W = .ok (.slice (some ⟨g, i, none⟩) L L) W := fun W => by
  have hal : Tryd.prog.arrayLen 98 = 65 := by kernel_rfl
  have hel : Tryd.prog.elem 98 = 5 := by kernel_rfl
  have ht : Tryd.prog.underlying 98 = some (.array (Tryd.prog.arrayLen 98) (Tryd.prog.elem 98)) := by kernel_rfl
  have hs : (sizeOf 5).run Tryd.prog W = .ok 1 W := by kernel_rfl
  rw [run_sliceAt_array_l W 98 ⟨g, 0, none⟩ ht .i64 (i : Int) (by omega) (by rw [hal]; omega), hel, hs, hal]
  show Result.ok (slicedAt ⟨g, 0, none⟩ ((i : Int)).toNat 65 65 1) W = _
  unfold slicedAt
  rw [Int.toNat_natCast, if_neg (by omega), Nat.mul_one, Lib.add_plain, Nat.zero_add, show 65 - i = L from by omega]
set_option maxHeartbeats 4000000 in
set_option maxRecDepth 100000 in
theorem FmtGen.pos (m r : Nat) (w : World) (hm : m ≤ 2147483648) (hr : 2 ≤ r) (hr2 : r ≤ 36) (hr3 : r ≠ 10) (hp : pw r = false) :
    Calls Tryd.prog 61 #[.slice none 0 0, .int .u64 (m : Int), .int .i64 (r : Int), .bool false, .bool false] w fun e w' => e = .returned (.tuple #[.slice none 0 0, .string (tx (rad r m))]) ∧ Below w.heap.size w w' := by
  have hP := fun w => IsPow.calls r hr hr2 w
  rw [hp] at hP
  have HP := Lib.hid hP
  have d1 : decide ((r : Int) < 2) = false := decide_eq_false (by omega)
  have d2 : decide ((36 : Int) < (r : Int)) = false := decide_eq_false (by omega)
  have d3 : ((r : Int) == 10) = false := beq_eq_false_iff_ne.2 (by omega)
  have d4 : decide (r < 2) = false := decide_eq_false (by omega)
  have d5 : decide (36 < r) = false := decide_eq_false (by omega)
  have ur : IntKind.u64.wrap (r : Int) = (r : Int) := u64w _ (by omega) (by omega)
  have HR := Lib.hid hr
  have HR2 := Lib.hid hr2
  have HM := Lib.hid hm
  clear hP hp hr hr2 hr3 hm
  go_enter Tryd.func61, Tryd.ntmps61
  go_upto_region 17 with (first | (go_at_call 76; (with_reducible refine (HP.out _).mono ?_); rintro e w9 ⟨rfl, rfl⟩) | ((with_reducible refine gate_dst (N := 12) rfl ?_); refine box_event ?hg (N := 12) ?hd (cs := Array.replicate 65 (.int .u8 0)) (t := 98) ?hr ?_; (case hd => rfl); (case hg => rfl); (case hr => first | (go_simp; done) | (go_simp; rfl)); intro gb hg w7 hbox hb; have HG := Lib.hid hg; have HY := Lib.hid hb; have HX7 := Lib.hid hbox; clear hg hbox hb))
  have hlen := rad_len r HR.out 31 m (by have := HM.out; omega)
  have HF0 := Lib.hid (show Fm w gb r m 65 m [] w9 from ⟨ArrS.fresh HX7.out, HY.out, Nat.le_of_eq HG.out.symm, List.append_nil _, Nat.le_refl _, by decide⟩)
  have HLEN := Lib.hid hlen
  have HD := Lib.hid dgv
  clear hlen HX7 HY HG
  generalize hdg : (⟨#[48, 49, 50, 51, 52, 53, 54, 55, 56, 57, 97, 98, 99, 100, 101, 102, 103, 104, 105, 106, 107, 108, 109, 110, 111, 112, 113, 114, 115, 116, 117, 118, 119, 120, 121, 122]⟩ : ByteArray) = digs at *
  have hds : digs.size = 36 := by rw [← hdg]; rfl
  clear hdg
  go_wp2
  go_loopw [1, 13] (fun v1 v13 wr => ∃ (i u : Nat) (acc : List UInt8), v1 = .int .u64 (u : Int) ∧ v13 = .int .i64 (i : Int) ∧ Hid (Fm w gb r m i u acc wr)) (fun v1 _ _ => (intOf v1).toNat)
  case atStart => exact ⟨65, m, [], rfl, rfl, HF0⟩
  obtain ⟨i, u, acc, rfl, rfl, HF⟩ := hrel
  have hrg := HF.out.range
  obtain ⟨i1, hi1⟩ : ∃ i1, i = i1 + 1 := ⟨i - 1, by omega⟩
  have wi : wrap64 ((i : Int) - 1) = (i1 : Int) := by rw [w64 _ (by omega) (by omega)]; omega
  have hi65 : i1 < 65 := by omega
  have HRG := Lib.hid hrg
  obtain ⟨z, z0⟩ := HF.out.1.cell i1 hi65
  have fz0 := HF.out.1.frozen i1
  have p1 : (0 : Int) ≤ (i1 : Int) := by omega
  have p2 : (i1 : Int) < 65 := by omega
  have p3 := hi65
  by_cases hlt : u < r
  · have hr := HR.out
    have hr2 := HR2.out
    have hu36 : u < 36 := Nat.lt_of_lt_of_le hlt hr2
    obtain ⟨L1, L2, L3⟩ := (hi1 ▸ HF.out : Fm w gb r m (i1 + 1) u acc wr).last hr hlt
    have L4 := L1.text (rad r m).length
    have hL : i1 + (rad r m).length = 65 := by obtain ⟨cs, _, _, h3, _⟩ := L1; exact h3
    have hsl := slice_end gb i1 (rad r m).length hL (by omega)
    have HB := Lib.hid L2
    have x3 : u < digs.size := by rw [hds]; exact hu36
    have hv : digs[u]'x3 = dg u := HD.out u x3
    have c1 : decide ((r : Int) ≤ (u : Int)) = false := decide_eq_false (by omega)
    have c2 : decide (r ≤ u) = false := decide_eq_false (by omega)
    have x1 : (0 : Int) ≤ (u : Int) := by omega
    have x2 : (u : Int) < 36 := by omega
    have x4 : (u : Int) < (digs.size : Int) := by omega
    clear hr hr2 hlt hu36 hL hrg hi1 HF hi65 L1 L2 L3
    replace p1 := eq_true p1
    replace p2 := eq_true p2
    replace x1 := eq_true x1
    replace x2 := eq_true x2
    replace x4 := eq_true x4
    generalize (rad r m).length = L at *
    generalize tx (rad r m) = t at *
    go_wp2
    refine bodyPost_ret (results_tmp2 rfl _ _ _) rfl ⟨?_, HB.out⟩
    kernel_rfl
  · have hr := HR.out
    have hr2 := HR2.out
    have hum := HF.out.2.2.2.2.1
    have hm := HM.out
    obtain ⟨d, hd⟩ : ∃ d, d = u % r := ⟨_, rfl⟩
    obtain ⟨q, hq⟩ : ∃ q, q = u / r := ⟨_, rfl⟩
    obtain ⟨X, hX⟩ : ∃ X, X = q * r := ⟨_, rfl⟩
    have hdX : u = X + d := by rw [hX, hd, hq, Nat.mul_comm]; exact (Nat.div_add_mod u r).symm
    have hdr : d < r := by rw [hd]; exact Nat.mod_lt _ (by omega)
    have hqu : q < u := by rw [hq]; exact Nat.div_lt_self (by omega) (by omega)
    have hst := Lib.hid (hi1 ▸ HF.out)
    have hd36 : d < 36 := Nat.lt_of_lt_of_le hdr hr2
    have HS := Lib.hid (Fm.step hst.out hr HLEN.out (by omega))
    rw [← hd, ← hq] at HS
    have td : Int.tdiv (u : Int) (r : Int) = (q : Int) := by rw [Int.tdiv_eq_ediv_of_nonneg (by omega), hq]; rfl
    have HQU := Lib.hid hqu
    have x3 : d < digs.size := by rw [hds]; exact hd36
    have hv : digs[d]'x3 = dg d := HD.out d x3
    have r1 : ((r : Int) == 0) = false := beq_eq_false_iff_ne.2 (by omega)
    have r2 : (r = 0) = False := eq_false (by omega)
    have c1 : decide ((r : Int) ≤ (u : Int)) = true := decide_eq_true (by omega)
    have c2 : decide (r ≤ u) = true := decide_eq_true (by omega)
    have x1 : (0 : Int) ≤ (d : Int) := by omega
    have x2 : (d : Int) < 36 := by omega
    have x4 : (d : Int) < (digs.size : Int) := by omega
    have eX : (q : Int) * (r : Int) = (X : Int) := by rw [hX]; exact (Int.natCast_mul _ _).symm
    have hXl : X < 18446744073709551616 := by omega
    have hql : q < 18446744073709551616 := by omega
    have hdl : d < 18446744073709551616 := by omega
    have esub : (u : Int) - (X : Int) = (d : Int) := by omega
    clear hst hd hq hX hdX hdr hqu hr hr2 hum hm hlt hrg hd36 hi1 HF hi65
    have HSub := Lib.hid esub
    have HEX := Lib.hid eX
    clear esub eX
    have wq : IntKind.u64.wrap (q : Int) = (q : Int) := u64w _ (by omega) (by omega)
    have wX : IntKind.u64.wrap ((q : Int) * (r : Int)) = (X : Int) := by rw [HEX.out]; exact u64w _ (by omega) (by omega)
    have ws : IntKind.u64.wrap ((u : Int) - (X : Int)) = (d : Int) := by rw [HSub.out]; exact u64w _ (by omega) (by omega)
    clear hXl hql hdl
    replace p1 := eq_true p1
    replace p2 := eq_true p2
    replace x1 := eq_true x1
    replace x2 := eq_true x2
    replace x4 := eq_true x4
    go_wp2
    refine ⟨⟨i1, q, dg d :: acc, rfl, by rw [wi], HS⟩, ?_⟩
    have := HQU.out
    show ((q : Int)).toNat < ((u : Int)).toNat
    rw [Int.toNat_natCast, Int.toNat_natCast]
    exact this
set_option maxHeartbeats 4000000 in
set_option maxRecDepth 100000 in
theorem FmtGen.neg (m r : Nat) (U : Int) (w : World) (hU : IntKind.u64.wrap (-U) = (m : Int)) (hm : m ≤ 2147483648) (hr : 2 ≤ r) (hr2 : r ≤ 36) (hr3 : r ≠ 10) (hp : pw r = false) :
    Calls Tryd.prog 61 #[.slice none 0 0, .int .u64 U, .int .i64 (r : Int), .bool true, .bool false] w fun e w' => e = .returned (.tuple #[.slice none 0 0, .string (tx (45 :: rad r m))]) ∧ Below w.heap.size w w' := by
  have hP := fun w => IsPow.calls r hr hr2 w
  rw [hp] at hP
  have HP := Lib.hid hP
  have d1 : decide ((r : Int) < 2) = false := decide_eq_false (by omega)
  have d2 : decide ((36 : Int) < (r : Int)) = false := decide_eq_false (by omega)
  have d3 : ((r : Int) == 10) = false := beq_eq_false_iff_ne.2 (by omega)
  have d4 : decide (r < 2) = false := decide_eq_false (by omega)
  have d5 : decide (36 < r) = false := decide_eq_false (by omega)
  have ur : IntKind.u64.wrap (r : Int) = (r : Int) := u64w _ (by omega) (by omega)
  have HR := Lib.hid hr
  have HR2 := Lib.hid hr2
  have HM := Lib.hid hm
  clear hP hp hr hr2 hr3 hm
  go_enter Tryd.func61, Tryd.ntmps61
  go_upto_region 17 with (first | (go_at_call 76; (with_reducible refine (HP.out _).mono ?_); rintro e w9 ⟨rfl, rfl⟩) | ((with_reducible refine gate_dst (N := 12) rfl ?_); refine box_event ?hg (N := 12) ?hd (cs := Array.replicate 65 (.int .u8 0)) (t := 98) ?hr ?_; (case hd => rfl); (case hg => rfl); (case hr => first | (go_simp; done) | (go_simp; rfl)); intro gb hg w7 hbox hb; have HG := Lib.hid hg; have HY := Lib.hid hb; have HX7 := Lib.hid hbox; clear hg hbox hb))
  have hlen := rad_len r HR.out 31 m (by have := HM.out; omega)
  have HF0 := Lib.hid (show Fm w gb r m 65 m [] w9 from ⟨ArrS.fresh HX7.out, HY.out, Nat.le_of_eq HG.out.symm, List.append_nil _, Nat.le_refl _, by decide⟩)
  have HLEN := Lib.hid hlen
  have HD := Lib.hid dgv
  clear hlen HX7 HY HG
  generalize hdg : (⟨#[48, 49, 50, 51, 52, 53, 54, 55, 56, 57, 97, 98, 99, 100, 101, 102, 103, 104, 105, 106, 107, 108, 109, 110, 111, 112, 113, 114, 115, 116, 117, 118, 119, 120, 121, 122]⟩ : ByteArray) = digs at *
  have hds : digs.size = 36 := by rw [← hdg]; rfl
  clear hdg
  go_wp2
  go_loopw [1, 13] (fun v1 v13 wr => ∃ (i u : Nat) (acc : List UInt8), v1 = .int .u64 (u : Int) ∧ v13 = .int .i64 (i : Int) ∧ Hid (Fm w gb r m i u acc wr)) (fun v1 _ _ => (intOf v1).toNat)
  case atStart => exact ⟨65, m, [], rfl, rfl, HF0⟩
  obtain ⟨i, u, acc, rfl, rfl, HF⟩ := hrel
  have hrg := HF.out.range
  obtain ⟨i1, hi1⟩ : ∃ i1, i = i1 + 1 := ⟨i - 1, by omega⟩
  have wi : wrap64 ((i : Int) - 1) = (i1 : Int) := by rw [w64 _ (by omega) (by omega)]; omega
  have hi65 : i1 < 65 := by omega
  have HRG := Lib.hid hrg
  obtain ⟨z, z0⟩ := HF.out.1.cell i1 hi65
  have fz0 := HF.out.1.frozen i1
  have p1 : (0 : Int) ≤ (i1 : Int) := by omega
  have p2 : (i1 : Int) < 65 := by omega
  have p3 := hi65
  by_cases hlt : u < r
  · have hr := HR.out
    have hr2 := HR2.out
    have hu36 : u < 36 := Nat.lt_of_lt_of_le hlt hr2
    obtain ⟨L1, L2, L3⟩ := (hi1 ▸ HF.out : Fm w gb r m (i1 + 1) u acc wr).last hr hlt
    have hL : i1 + (rad r m).length = 65 := by obtain ⟨cs, _, _, h3, _⟩ := L1; exact h3
    have hLN := HLEN.out
    obtain ⟨i2, hi2⟩ : ∃ i2, i1 = i2 + 1 := ⟨i1 - 1, by omega⟩
    have wi2 : wrap64 ((i1 : Int) - 1) = (i2 : Int) := by rw [w64 _ (by omega) (by omega)]; omega
    have y2 : (0 : Int) ≤ (i2 : Int) := by omega
    have y3 : (i2 : Int) < 65 := by omega
    have y4 : i2 < 65 := by omega
    obtain ⟨z2, z3⟩ := L1.cell i2 y4
    have fz2 := L1.frozen i2
    have M1 : ArrS gb i2 (45 :: rad r m) ((wr.setCell ⟨gb, i1, none⟩ (.int .u8 ((dg u).toNat : Int))).setCell ⟨gb, i2, none⟩ (.int .u8 45)) := (hi2 ▸ L1 : ArrS gb (i2 + 1) (rad r m) (wr.setCell ⟨gb, i1, none⟩ (.int .u8 ((dg u).toNat : Int)))).put 45
    have L4 := M1.text (45 :: rad r m).length
    have hL2 : i2 + (45 :: rad r m).length = 65 := by rw [List.length_cons]; omega
    have hsl := slice_end gb i2 (45 :: rad r m).length hL2 (by omega)
    have HB := Lib.hid (L2.setCell (p := ⟨gb, i2, none⟩) L3 (.int .u8 45))
    have x3 : u < digs.size := by rw [hds]; exact hu36
    have hv : digs[u]'x3 = dg u := HD.out u x3
    have c1 : decide ((r : Int) ≤ (u : Int)) = false := decide_eq_false (by omega)
    have c2 : decide (r ≤ u) = false := decide_eq_false (by omega)
    have x1 : (0 : Int) ≤ (u : Int) := by omega
    have x2 : (u : Int) < 36 := by omega
    have x4 : (u : Int) < (digs.size : Int) := by omega
    clear hr hr2 hlt hu36 hL hL2 hLN hi2 hrg hi1 HF hi65 L1 L2 L3 M1
    replace y2 := eq_true y2
    replace y3 := eq_true y3
    replace p1 := eq_true p1
    replace p2 := eq_true p2
    replace x1 := eq_true x1
    replace x2 := eq_true x2
    replace x4 := eq_true x4
    generalize (45 :: rad r m).length = L at *
    generalize tx (45 :: rad r m) = t at *
    go_upto_region 25 with (fail)
    clear p1 p2 p3 z0 fz0 x1 x2 x3 x4 hv c1 c2 HRG HF0
    generalize World.setCell wr ⟨gb, i1, none⟩ (.int .u8 ((dg u).toNat : Int)) = w5 at *
    go_wp2
    refine bodyPost_ret (results_tmp2 rfl _ _ _) rfl ⟨?_, HB.out⟩
    kernel_rfl
  · have hr := HR.out
    have hr2 := HR2.out
    have hum := HF.out.2.2.2.2.1
    have hm := HM.out
    obtain ⟨d, hd⟩ : ∃ d, d = u % r := ⟨_, rfl⟩
    obtain ⟨q, hq⟩ : ∃ q, q = u / r := ⟨_, rfl⟩
    obtain ⟨X, hX⟩ : ∃ X, X = q * r := ⟨_, rfl⟩
    have hdX : u = X + d := by rw [hX, hd, hq, Nat.mul_comm]; exact (Nat.div_add_mod u r).symm
    have hdr : d < r := by rw [hd]; exact Nat.mod_lt _ (by omega)
    have hqu : q < u := by rw [hq]; exact Nat.div_lt_self (by omega) (by omega)
    have hst := Lib.hid (hi1 ▸ HF.out)
    have hd36 : d < 36 := Nat.lt_of_lt_of_le hdr hr2
    have HS := Lib.hid (Fm.step hst.out hr HLEN.out (by omega))
    rw [← hd, ← hq] at HS
    have td : Int.tdiv (u : Int) (r : Int) = (q : Int) := by rw [Int.tdiv_eq_ediv_of_nonneg (by omega), hq]; rfl
    have HQU := Lib.hid hqu
    have x3 : d < digs.size := by rw [hds]; exact hd36
    have hv : digs[d]'x3 = dg d := HD.out d x3
    have r1 : ((r : Int) == 0) = false := beq_eq_false_iff_ne.2 (by omega)
    have r2 : (r = 0) = False := eq_false (by omega)
    have c1 : decide ((r : Int) ≤ (u : Int)) = true := decide_eq_true (by omega)
    have c2 : decide (r ≤ u) = true := decide_eq_true (by omega)
    have x1 : (0 : Int) ≤ (d : Int) := by omega
    have x2 : (d : Int) < 36 := by omega
    have x4 : (d : Int) < (digs.size : Int) := by omega
    have eX : (q : Int) * (r : Int) = (X : Int) := by rw [hX]; exact (Int.natCast_mul _ _).symm
    have hXl : X < 18446744073709551616 := by omega
    have hql : q < 18446744073709551616 := by omega
    have hdl : d < 18446744073709551616 := by omega
    have esub : (u : Int) - (X : Int) = (d : Int) := by omega
    clear hst hd hq hX hdX hdr hqu hr hr2 hum hm hlt hrg hd36 hi1 HF hi65
    have HSub := Lib.hid esub
    have HEX := Lib.hid eX
    clear esub eX
    have wq : IntKind.u64.wrap (q : Int) = (q : Int) := u64w _ (by omega) (by omega)
    have wX : IntKind.u64.wrap ((q : Int) * (r : Int)) = (X : Int) := by rw [HEX.out]; exact u64w _ (by omega) (by omega)
    have ws : IntKind.u64.wrap ((u : Int) - (X : Int)) = (d : Int) := by rw [HSub.out]; exact u64w _ (by omega) (by omega)
    clear hXl hql hdl
    replace p1 := eq_true p1
    replace p2 := eq_true p2
    replace x1 := eq_true x1
    replace x2 := eq_true x2
    replace x4 := eq_true x4
    go_wp2
    refine ⟨⟨i1, q, dg d :: acc, rfl, by rw [wi], HS⟩, ?_⟩
    have := HQU.out
    show ((q : Int)).toNat < ((u : Int)).toNat
    rw [Int.toNat_natCast, Int.toNat_natCast]
    exact this
set_option maxHeartbeats 4000000 in
set_option maxRecDepth 100000 in
theorem FmtPow.pos (m r : Nat) (w : World) (hm : m ≤ 2147483648) (hr : 2 ≤ r) (hr2 : r ≤ 36) (hr3 : r ≠ 10) (hp : pw r = true) (s : Nat) (hs : 1 ≤ s) (hs2 : s ≤ 5) (hrs : r = 2 ^ s) (htab : Tab64 w) :
    Calls Tryd.prog 61 #[.slice none 0 0, .int .u64 (m : Int), .int .i64 (r : Int), .bool false, .bool false] w fun e w' => e = .returned (.tuple #[.slice none 0 0, .string (tx (rad r m))]) ∧ Below w.heap.size w w' := by
  have hP := fun w => IsPow.calls r hr hr2 w
  rw [hp] at hP
  have HP := Lib.hid hP
  have d1 : decide ((r : Int) < 2) = false := decide_eq_false (by omega)
  have d2 : decide ((36 : Int) < (r : Int)) = false := decide_eq_false (by omega)
  have d3 : ((r : Int) == 10) = false := beq_eq_false_iff_ne.2 (by omega)
  have d4 : decide (r < 2) = false := decide_eq_false (by omega)
  have d5 : decide (36 < r) = false := decide_eq_false (by omega)
  have ur : IntKind.u64.wrap (r : Int) = (r : Int) := u64w _ (by omega) (by omega)
  have HTZ := Lib.hid (fun w (h : Tab64 w) => TZ.calls s hs hs2 w h)
  rw [← hrs] at HTZ
  have us : IntKind.u64.wrap (s : Int) = (s : Int) := u64w _ (by omega) (by omega)
  have u1 : IntKind.u64.wrap ((r : Int) - 1) = (r : Int) - 1 := u64w _ (by omega) (by omega)
  have hs64 : s < 64 := by omega
  have HTab := Lib.hid htab
  have HRS := Lib.hid hrs
  have HR := Lib.hid hr
  have HR2 := Lib.hid hr2
  have HM := Lib.hid hm
  clear hP hp hr hr2 hr3 hm hs hs2 hrs htab
  go_enter Tryd.func61, Tryd.ntmps61
  go_upto_region 8 with (first | (go_at_call 76; (with_reducible refine (HP.out _).mono ?_); rintro e w9 ⟨rfl, rfl⟩) | ((with_reducible refine gate_dst (N := 12) rfl ?_); refine box_event ?hg (N := 12) ?hd (cs := Array.replicate 65 (.int .u8 0)) (t := 98) ?hr ?_; (case hd => rfl); (case hg => rfl); (case hr => first | (go_simp; done) | (go_simp; rfl)); intro gb hg w7 hbox hb; have HG := Lib.hid hg; have HY := Lib.hid hb; have HX7 := Lib.hid hbox; clear hg hbox hb))
  have hlen := rad_len r HR.out 31 m (by have := HM.out; omega)
  have HF0 := Lib.hid (show Fm w gb r m 65 m [] w9 from ⟨ArrS.fresh HX7.out, HY.out, Nat.le_of_eq HG.out.symm, List.append_nil _, Nat.le_refl _, by decide⟩)
  have HLEN := Lib.hid hlen
  have HD := Lib.hid dgv
  have HT9 := Lib.hid (show Tab64 w9 from Go.Joins.tab_stays gtab64 HTab.out HY.out (Nat.le_refl _))
  clear hlen HX7 HY HG HTab
  generalize hdg : (⟨#[48, 49, 50, 51, 52, 53, 54, 55, 56, 57, 97, 98, 99, 100, 101, 102, 103, 104, 105, 106, 107, 108, 109, 110, 111, 112, 113, 114, 115, 116, 117, 118, 119, 120, 121, 122]⟩ : ByteArray) = digs at *
  have hds : digs.size = 36 := by rw [← hdg]; rfl
  clear hdg
  go_wp2_with (first | (go_at_call 77; (with_reducible refine (HTZ.out _ HT9.out).mono ?_); rintro e w10 ⟨rfl, rfl⟩))
  clear HT9 HTZ
  go_loopw [1, 13] (fun v1 v13 wr => ∃ (i u : Nat) (acc : List UInt8), v1 = .int .u64 (u : Int) ∧ v13 = .int .i64 (i : Int) ∧ Hid (Fm w gb r m i u acc wr)) (fun v1 _ _ => (intOf v1).toNat)
  case atStart => exact ⟨65, m, [], rfl, rfl, HF0⟩
  obtain ⟨i, u, acc, rfl, rfl, HF⟩ := hrel
  have hrg := HF.out.range
  obtain ⟨i1, hi1⟩ : ∃ i1, i = i1 + 1 := ⟨i - 1, by omega⟩
  have wi : wrap64 ((i : Int) - 1) = (i1 : Int) := by rw [w64 _ (by omega) (by omega)]; omega
  have hi65 : i1 < 65 := by omega
  have HRG := Lib.hid hrg
  obtain ⟨z, z0⟩ := HF.out.1.cell i1 hi65
  have fz0 := HF.out.1.frozen i1
  have p1 : (0 : Int) ≤ (i1 : Int) := by omega
  have p2 : (i1 : Int) < 65 := by omega
  have p3 := hi65
  by_cases hlt : u < r
  · have hr := HR.out
    have hr2 := HR2.out
    have hu36 : u < 36 := Nat.lt_of_lt_of_le hlt hr2
    obtain ⟨L1, L2, L3⟩ := (hi1 ▸ HF.out : Fm w gb r m (i1 + 1) u acc wr).last hr hlt
    have L4 := L1.text (rad r m).length
    have hL : i1 + (rad r m).length = 65 := by obtain ⟨cs, _, _, h3, _⟩ := L1; exact h3
    have hsl := slice_end gb i1 (rad r m).length hL (by omega)
    have HB := Lib.hid L2
    have x3 : u < digs.size := by rw [hds]; exact hu36
    have hv : digs[u]'x3 = dg u := HD.out u x3
    have c1 : decide ((r : Int) ≤ (u : Int)) = false := decide_eq_false (by omega)
    have c2 : decide (r ≤ u) = false := decide_eq_false (by omega)
    have x1 : (0 : Int) ≤ (u : Int) := by omega
    have x2 : (u : Int) < 36 := by omega
    have x4 : (u : Int) < (digs.size : Int) := by omega
    clear hr hr2 hlt hu36 hL hrg hi1 HF hi65 L1 L2 L3
    replace p1 := eq_true p1
    replace p2 := eq_true p2
    replace x1 := eq_true x1
    replace x2 := eq_true x2
    replace x4 := eq_true x4
    generalize (rad r m).length = L at *
    generalize tx (rad r m) = t at *
    go_wp2
    refine bodyPost_ret (results_tmp2 rfl _ _ _) rfl ⟨?_, HB.out⟩
    kernel_rfl
  · have hr := HR.out
    have hr2 := HR2.out
    have hum := HF.out.2.2.2.2.1
    have hm := HM.out
    obtain ⟨d, hd⟩ : ∃ d, d = u % r := ⟨_, rfl⟩
    obtain ⟨q, hq⟩ : ∃ q, q = u / r := ⟨_, rfl⟩
    have hdr : d < r := by rw [hd]; exact Nat.mod_lt _ (by omega)
    have hqu : q < u := by rw [hq]; exact Nat.div_lt_self (by omega) (by omega)
    have hst := Lib.hid (hi1 ▸ HF.out)
    have hd36 : d < 36 := Nat.lt_of_lt_of_le hdr hr2
    have HS := Lib.hid (Fm.step hst.out hr HLEN.out (by omega))
    rw [← hd, ← hq] at HS
    have hrs := HRS.out
    have hq2 : (u : Int) / 2 ^ s = (q : Int) := by
      have e : ((2 : Int) ^ s) = ((2 ^ s : Nat) : Int) := by rw [Int.natCast_pow]; rfl
      rw [e, ← hrs, hq]; rfl
    have hd2 : Go.bits .and .u64 (u : Int) ((r : Int) - 1) = (d : Int) := by
      have e : ((2 : Int) ^ s) = ((2 ^ s : Nat) : Int) := by rw [Int.natCast_pow]; rfl
      have h := bits_mask .u64 64 (by decide) (fun m h0 h1 => u64w m h0 (by simpa using h1)) s (by omega) (u : Int) (by omega) (by simpa using (by omega : (u : Int) < 18446744073709551616))
      rw [e, ← hrs] at h
      rw [h, hd]
      rfl
    have HQU := Lib.hid hqu
    have x3 : d < digs.size := by rw [hds]; exact hd36
    have hv : digs[d]'x3 = dg d := HD.out d x3
    have r1 : ((r : Int) == 0) = false := beq_eq_false_iff_ne.2 (by omega)
    have r2 : (r = 0) = False := eq_false (by omega)
    have c1 : decide ((r : Int) ≤ (u : Int)) = true := decide_eq_true (by omega)
    have c2 : decide (r ≤ u) = true := decide_eq_true (by omega)
    have x1 : (0 : Int) ≤ (d : Int) := by omega
    have x2 : (d : Int) < 36 := by omega
    have x4 : (d : Int) < (digs.size : Int) := by omega
    clear hst hd hq hdr hrs hqu hr hr2 hum hm hlt hrg hd36 hi1 HF hi65
    replace p1 := eq_true p1
    replace p2 := eq_true p2
    replace x1 := eq_true x1
    replace x2 := eq_true x2
    replace x4 := eq_true x4
    go_wp2
    refine ⟨⟨i1, q, dg d :: acc, rfl, by rw [wi], HS⟩, ?_⟩
    have := HQU.out
    show ((q : Int)).toNat < ((u : Int)).toNat
    rw [Int.toNat_natCast, Int.toNat_natCast]
    exact this
set_option maxHeartbeats 4000000 in
set_option maxRecDepth 100000 in
theorem FmtPow.neg (m r : Nat) (U : Int) (w : World) (hU : IntKind.u64.wrap (-U) = (m : Int)) (hm : m ≤ 2147483648) (hr : 2 ≤ r) (hr2 : r ≤ 36) (hr3 : r ≠ 10) (hp : pw r = true) (s : Nat) (hs : 1 ≤ s) (hs2 : s ≤ 5) (hrs : r = 2 ^ s) (htab : Tab64 w) :
    Calls Tryd.prog 61 #[.slice none 0 0, .int .u64 U, .int .i64 (r : Int), .bool true, .bool false] w fun e w' => e = .returned (.tuple #[.slice none 0 0, .string (tx (45 :: rad r m))]) ∧ Below w.heap.size w w' := by
  have hP := fun w => IsPow.calls r hr hr2 w
  rw [hp] at hP
  have HP := Lib.hid hP
  have d1 : decide ((r : Int) < 2) = false := decide_eq_false (by omega)
  have d2 : decide ((36 : Int) < (r : Int)) = false := decide_eq_false (by omega)
  have d3 : ((r : Int) == 10) = false := beq_eq_false_iff_ne.2 (by omega)
  have d4 : decide (r < 2) = false := decide_eq_false (by omega)
  have d5 : decide (36 < r) = false := decide_eq_false (by omega)
  have ur : IntKind.u64.wrap (r : Int) = (r : Int) := u64w _ (by omega) (by omega)
  have HTZ := Lib.hid (fun w (h : Tab64 w) => TZ.calls s hs hs2 w h)
  rw [← hrs] at HTZ
  have us : IntKind.u64.wrap (s : Int) = (s : Int) := u64w _ (by omega) (by omega)
  have u1 : IntKind.u64.wrap ((r : Int) - 1) = (r : Int) - 1 := u64w _ (by omega) (by omega)
  have hs64 : s < 64 := by omega
  have HTab := Lib.hid htab
  have HRS := Lib.hid hrs
  have HR := Lib.hid hr
  have HR2 := Lib.hid hr2
  have HM := Lib.hid hm
  clear hP hp hr hr2 hr3 hm hs hs2 hrs htab
  go_enter Tryd.func61, Tryd.ntmps61
  go_upto_region 8 with (first | (go_at_call 76; (with_reducible refine (HP.out _).mono ?_); rintro e w9 ⟨rfl, rfl⟩) | ((with_reducible refine gate_dst (N := 12) rfl ?_); refine box_event ?hg (N := 12) ?hd (cs := Array.replicate 65 (.int .u8 0)) (t := 98) ?hr ?_; (case hd => rfl); (case hg => rfl); (case hr => first | (go_simp; done) | (go_simp; rfl)); intro gb hg w7 hbox hb; have HG := Lib.hid hg; have HY := Lib.hid hb; have HX7 := Lib.hid hbox; clear hg hbox hb))
  have hlen := rad_len r HR.out 31 m (by have := HM.out; omega)
  have HF0 := Lib.hid (show Fm w gb r m 65 m [] w9 from ⟨ArrS.fresh HX7.out, HY.out, Nat.le_of_eq HG.out.symm, List.append_nil _, Nat.le_refl _, by decide⟩)
  have HLEN := Lib.hid hlen
  have HD := Lib.hid dgv
  have HT9 := Lib.hid (show Tab64 w9 from Go.Joins.tab_stays gtab64 HTab.out HY.out (Nat.le_refl _))
  clear hlen HX7 HY HG HTab
  generalize hdg : (⟨#[48, 49, 50, 51, 52, 53, 54, 55, 56, 57, 97, 98, 99, 100, 101, 102, 103, 104, 105, 106, 107, 108, 109, 110, 111, 112, 113, 114, 115, 116, 117, 118, 119, 120, 121, 122]⟩ : ByteArray) = digs at *
  have hds : digs.size = 36 := by rw [← hdg]; rfl
  clear hdg
  go_wp2_with (first | (go_at_call 77; (with_reducible refine (HTZ.out _ HT9.out).mono ?_); rintro e w10 ⟨rfl, rfl⟩))
  clear HT9 HTZ
  go_loopw [1, 13] (fun v1 v13 wr => ∃ (i u : Nat) (acc : List UInt8), v1 = .int .u64 (u : Int) ∧ v13 = .int .i64 (i : Int) ∧ Hid (Fm w gb r m i u acc wr)) (fun v1 _ _ => (intOf v1).toNat)
  case atStart => exact ⟨65, m, [], rfl, rfl, HF0⟩
  obtain ⟨i, u, acc, rfl, rfl, HF⟩ := hrel
  have hrg := HF.out.range
  obtain ⟨i1, hi1⟩ : ∃ i1, i = i1 + 1 := ⟨i - 1, by omega⟩
  have wi : wrap64 ((i : Int) - 1) = (i1 : Int) := by rw [w64 _ (by omega) (by omega)]; omega
  have hi65 : i1 < 65 := by omega
  have HRG := Lib.hid hrg
  obtain ⟨z, z0⟩ := HF.out.1.cell i1 hi65
  have fz0 := HF.out.1.frozen i1
  have p1 : (0 : Int) ≤ (i1 : Int) := by omega
  have p2 : (i1 : Int) < 65 := by omega
  have p3 := hi65
  by_cases hlt : u < r
  · have hr := HR.out
    have hr2 := HR2.out
    have hu36 : u < 36 := Nat.lt_of_lt_of_le hlt hr2
    obtain ⟨L1, L2, L3⟩ := (hi1 ▸ HF.out : Fm w gb r m (i1 + 1) u acc wr).last hr hlt
    have hL : i1 + (rad r m).length = 65 := by obtain ⟨cs, _, _, h3, _⟩ := L1; exact h3
    have hLN := HLEN.out
    obtain ⟨i2, hi2⟩ : ∃ i2, i1 = i2 + 1 := ⟨i1 - 1, by omega⟩
    have wi2 : wrap64 ((i1 : Int) - 1) = (i2 : Int) := by rw [w64 _ (by omega) (by omega)]; omega
    have y2 : (0 : Int) ≤ (i2 : Int) := by omega
    have y3 : (i2 : Int) < 65 := by omega
    have y4 : i2 < 65 := by omega
    obtain ⟨z2, z3⟩ := L1.cell i2 y4
    have fz2 := L1.frozen i2
    have M1 : ArrS gb i2 (45 :: rad r m) ((wr.setCell ⟨gb, i1, none⟩ (.int .u8 ((dg u).toNat : Int))).setCell ⟨gb, i2, none⟩ (.int .u8 45)) := (hi2 ▸ L1 : ArrS gb (i2 + 1) (rad r m) (wr.setCell ⟨gb, i1, none⟩ (.int .u8 ((dg u).toNat : Int)))).put 45
    have L4 := M1.text (45 :: rad r m).length
    have hL2 : i2 + (45 :: rad r m).length = 65 := by rw [List.length_cons]; omega
    have hsl := slice_end gb i2 (45 :: rad r m).length hL2 (by omega)
    have HB := Lib.hid (L2.setCell (p := ⟨gb, i2, none⟩) L3 (.int .u8 45))
    have x3 : u < digs.size := by rw [hds]; exact hu36
    have hv : digs[u]'x3 = dg u := HD.out u x3
    have c1 : decide ((r : Int) ≤ (u : Int)) = false := decide_eq_false (by omega)
    have c2 : decide (r ≤ u) = false := decide_eq_false (by omega)
    have x1 : (0 : Int) ≤ (u : Int) := by omega
    have x2 : (u : Int) < 36 := by omega
    have x4 : (u : Int) < (digs.size : Int) := by omega
    clear hr hr2 hlt hu36 hL hL2 hLN hi2 hrg hi1 HF hi65 L1 L2 L3 M1
    replace y2 := eq_true y2
    replace y3 := eq_true y3
    replace p1 := eq_true p1
    replace p2 := eq_true p2
    replace x1 := eq_true x1
    replace x2 := eq_true x2
    replace x4 := eq_true x4
    generalize (45 :: rad r m).length = L at *
    generalize tx (45 :: rad r m) = t at *
    go_upto_region 25 with (fail)
    clear p1 p2 p3 z0 fz0 x1 x2 x3 x4 hv c1 c2 HRG HF0
    generalize World.setCell wr ⟨gb, i1, none⟩ (.int .u8 ((dg u).toNat : Int)) = w5 at *
    go_wp2
    refine bodyPost_ret (results_tmp2 rfl _ _ _) rfl ⟨?_, HB.out⟩
    kernel_rfl
  · have hr := HR.out
    have hr2 := HR2.out
    have hum := HF.out.2.2.2.2.1
    have hm := HM.out
    obtain ⟨d, hd⟩ : ∃ d, d = u % r := ⟨_, rfl⟩
    obtain ⟨q, hq⟩ : ∃ q, q = u / r := ⟨_, rfl⟩
    have hdr : d < r := by rw [hd]; exact Nat.mod_lt _ (by omega)
    have hqu : q < u := by rw [hq]; exact Nat.div_lt_self (by omega) (by omega)
    have hst := Lib.hid (hi1 ▸ HF.out)
    have hd36 : d < 36 := Nat.lt_of_lt_of_le hdr hr2
    have HS := Lib.hid (Fm.step hst.out hr HLEN.out (by omega))
    rw [← hd, ← hq] at HS
    have hrs := HRS.out
    have hq2 : (u : Int) / 2 ^ s = (q : Int) := by
      have e : ((2 : Int) ^ s) = ((2 ^ s : Nat) : Int) := by rw [Int.natCast_pow]; rfl
      rw [e, ← hrs, hq]; rfl
    have hd2 : Go.bits .and .u64 (u : Int) ((r : Int) - 1) = (d : Int) := by
      have e : ((2 : Int) ^ s) = ((2 ^ s : Nat) : Int) := by rw [Int.natCast_pow]; rfl
      have h := bits_mask .u64 64 (by decide) (fun m h0 h1 => u64w m h0 (by simpa using h1)) s (by omega) (u : Int) (by omega) (by simpa using (by omega : (u : Int) < 18446744073709551616))
      rw [e, ← hrs] at h
      rw [h, hd]
      rfl
    have HQU := Lib.hid hqu
    have x3 : d < digs.size := by rw [hds]; exact hd36
    have hv : digs[d]'x3 = dg d := HD.out d x3
    have r1 : ((r : Int) == 0) = false := beq_eq_false_iff_ne.2 (by omega)
    have r2 : (r = 0) = False := eq_false (by omega)
    have c1 : decide ((r : Int) ≤ (u : Int)) = true := decide_eq_true (by omega)
    have c2 : decide (r ≤ u) = true := decide_eq_true (by omega)
    have x1 : (0 : Int) ≤ (d : Int) := by omega
    have x2 : (d : Int) < 36 := by omega
    have x4 : (d : Int) < (digs.size : Int) := by omega
    clear hst hd hq hdr hrs hqu hr hr2 hum hm hlt hrg hd36 hi1 HF hi65
    replace p1 := eq_true p1
    replace p2 := eq_true p2
    replace x1 := eq_true x1
    replace x2 := eq_true x2
    replace x4 := eq_true x4
    go_wp2
    refine ⟨⟨i1, q, dg d :: acc, rfl, by rw [wi], HS⟩, ?_⟩
    have := HQU.out
    show ((q : Int)).toNat < ((u : Int)).toNat
    rw [Int.toNat_natCast, Int.toNat_natCast]
    exact this
end Go.Proofs.YtheichpmhfledaaDoor
set_option linter.unusedVariables false
set_option linter.unusedSimpArgs false
namespace Go.Proofs.YtheichpmhfledaaDoor
open Go Go.RowKit Go.Proofs.YtheichpmhfledaaDoorW.PrintWords Go.Proofs.YtheichpmhfledaaDoorW.PrintLast
/-- The text of a whole number with a radix. -/
def radText (r : Nat) (n : Int) : ByteArray := if r = 10 then ⟨(Lib.itoa n).toArray⟩ else if n < 0 then tx (45 :: rad r n.natAbs) else tx (rad r n.natAbs)
theorem bits_call (r : Nat) (n : Int) (hr : 2 ≤ r) (hr2 : r ≤ 36) (hr3 : r ≠ 10) (h0 : -2147483648 ≤ n) (h1 : n ≤ 2147483647) (w : World) (ht : Tab64 w) :
    Calls Tryd.prog 61 #[.slice none 0 0, .int .u64 (IntKind.u64.wrap n), .int .i64 (r : Int), .bool (decide (n < 0)), .bool false] w fun e w' => e = .returned (.tuple #[.slice none 0 0, .string (radText r n)]) ∧ Below w.heap.size w w' := by
  unfold radText
  rw [if_neg hr3]
  have hp : pw r = false ∨ ∃ s, 1 ≤ s ∧ s ≤ 5 ∧ r = 2 ^ s ∧ pw r = true := by
    cases h : pw r with
    | false => exact Or.inl rfl
    | true =>
      right
      unfold pw at h
      simp only [Bool.or_eq_true, beq_iff_eq] at h
      rcases h with (((h | h) | h) | h) | h
      · exact ⟨1, by decide, by decide, h, rfl⟩
      · exact ⟨2, by decide, by decide, h, rfl⟩
      · exact ⟨3, by decide, by decide, h, rfl⟩
      · exact ⟨4, by decide, by decide, h, rfl⟩
      · exact ⟨5, by decide, by decide, h, rfl⟩
  by_cases hn : n < 0
  · obtain ⟨m, rfl⟩ : ∃ m : Nat, n = -(m : Int) := ⟨n.natAbs, by omega⟩
    rw [decide_eq_true hn, if_pos hn, show (-(m : Int)).natAbs = m from by omega]
    have hU : IntKind.u64.wrap (-(IntKind.u64.wrap (-(m : Int)))) = (m : Int) := by
      have e : ∀ x : Int, IntKind.u64.wrap x = x % 18446744073709551616 := fun x => by simp [IntKind.wrap, IntKind.bits, IntKind.signed]
      rw [e, e]
      omega
    rcases hp with hp | ⟨s, s1, s2, hs, hp⟩
    · exact FmtGen.neg m r _ w hU (by omega) hr hr2 hr3 hp
    · exact FmtPow.neg m r _ w hU (by omega) hr hr2 hr3 hp s s1 s2 hs ht
  · obtain ⟨m, rfl⟩ : ∃ m : Nat, n = (m : Int) := ⟨n.toNat, by omega⟩
    rw [decide_eq_false hn, if_neg hn, show ((m : Int)).natAbs = m from by omega, u64w _ (by omega) (by omega)]
    rcases hp with hp | ⟨s, s1, s2, hs, hp⟩
    · exact FmtGen.pos m r w (by omega) hr hr2 hr3 hp
    · exact FmtPow.pos m r w (by omega) hr hr2 hr3 hp s s1 s2 hs ht
set_option maxHeartbeats 4000000 in
set_option maxRecDepth 100000 in
theorem FormatIn.calls (r : Nat) (n : Int) (hr : 2 ≤ r) (hr2 : r ≤ 36) (hr3 : r ≠ 10) (h0 : -2147483648 ≤ n) (h1 : n ≤ 2147483647) (w : World) (ht : Tab64 w) :
    Calls Tryd.prog 43 #[.int .i64 n, .int .i64 (r : Int)] w fun e w' => e = .returned (.string (radText r n)) ∧ Below w.heap.size w w' := by
  have H := Lib.hid (bits_call r n hr hr2 hr3 h0 h1 w ht)
  have d3 : ((r : Int) == 10) = false := beq_eq_false_iff_ne.2 (by omega)
  clear hr hr2 hr3 h0 h1 ht
  generalize radText r n = t at *
  go_enter Tryd.func43, Tryd.ntmps43
  go_wp2_with (first | (go_at_call 61; (with_reducible refine H.out.mono ?_); rintro e w9 ⟨rfl, hb⟩; have HB := Lib.hid hb; clear hb))
  go_ret
  exact ⟨rfl, HB.out⟩
set_option maxHeartbeats 4000000 in
set_option maxRecDepth 100000 in
theorem FormatR.calls (r : Nat) (n : Int) (hr : 2 ≤ r) (hr2 : r ≤ 36) (h0 : -2147483648 ≤ n) (h1 : n ≤ 2147483647) (w : World) (ht : Tab64 w) (ht2 : Tab w) :
    Calls Tryd.prog 25 #[.int .i64 n, .int .i64 (r : Int)] w fun e w' => e = .returned (.string (radText r n)) ∧ Below w.heap.size w w' := by
  by_cases hr3 : r = 10
  · subst hr3
    have e : radText 10 n = ⟨(Lib.itoa n).toArray⟩ := by unfold radText; rw [if_pos rfl]
    rw [e]
    exact Format.calls n h0 h1 w ht2
  · have H := Lib.hid (FormatIn.calls r n hr hr2 hr3 h0 h1 w ht)
    clear hr hr2 hr3 h0 h1 ht ht2
    generalize radText r n = t at *
    go_enter Tryd.func25, Tryd.ntmps25
    go_wp2_with (first | (go_at_call 43; (with_reducible refine H.out.mono ?_); rintro e w9 ⟨rfl, hb⟩; have HB := Lib.hid hb; clear hb))
    go_ret
    exact ⟨rfl, HB.out⟩
set_option maxHeartbeats 4000000 in
set_option maxRecDepth 100000 in
theorem TryR.calls (r : Nat) (n : Int) (hr : 2 ≤ r) (hr2 : r ≤ 36) (h0 : -2147483648 ≤ n) (h1 : n ≤ 2147483647) (w : World) (ht : Tab64 w) (ht2 : Tab w) :
    Calls Tryd.prog 11 #[.float .f64 (dbl n), .int .i64 (r : Int)] w fun e w' => e = .returned (.tuple #[.string (radText r n), .bool true]) ∧ Below w.heap.size w w' := by
  have H := Lib.hid (FormatR.calls r n hr hr2 h0 h1 w ht ht2)
  have ci := conv_i32 n h0 h1
  have cf := conv_float n h0 (by omega)
  have hlt := mg_lt n.natAbs (by omega)
  have oe : (FloatKind.f64.format.order (dbl n) (dbl n) == some .eq) = true := by rw [dbl_wd]; exact ord_self _ _ (by omega)
  have ww : wrap64 n = n := by unfold wrap64; omega
  clear hr hr2 h0 h1 ht ht2 hlt
  generalize radText r n = t at *
  generalize dbl n = x at *
  go_enter Tryd.func11, Tryd.ntmps11
  go_wp2_with (first | (go_at_call 25; (with_reducible refine H.out.mono ?_); rintro e w9 ⟨rfl, hb⟩; have HB := Lib.hid hb; clear hb))
  exact bodyPost_ret (results_tmp2 rfl _ _ _) rfl ⟨rfl, HB.out⟩
set_option maxHeartbeats 4000000 in
set_option maxRecDepth 100000 in
theorem ToStrR.calls (r : Nat) (n : Int) (hr : 2 ≤ r) (hr2 : r ≤ 36) (h0 : -2147483648 ≤ n) (h1 : n ≤ 2147483647) (w : World) (ht : Tab64 w) (ht2 : Tab w) :
    Calls Tryd.prog 5 #[.float .f64 (dbl n), .int .i64 (r : Int)] w fun e w' => e = .returned (.tuple #[.string (radText r n), .bool true]) ∧ Below w.heap.size w w' := by
  have H := Lib.hid (TryR.calls r n hr hr2 h0 h1 w ht ht2)
  clear hr hr2 h0 h1 ht ht2
  generalize radText r n = t at *
  generalize dbl n = x at *
  go_enter Tryd.func5, Tryd.ntmps5
  go_wp2_with (first | (go_at_call 11; (with_reducible refine H.out.mono ?_); rintro e w9 ⟨rfl, hb⟩; have HB := Lib.hid hb; clear hb))
  exact bodyPost_ret (results_tmp2 rfl _ _ _) rfl ⟨rfl, HB.out⟩
theorem TextIn.calls (r : Nat) (n : Int) (hr : 2 ≤ r) (hr2 : r ≤ 36) (h0 : -2147483648 ≤ n) (h1 : n ≤ 2147483647) (w : World) :
    Calls Tryd.prog 9 #[.float .f64 (dbl n), .int .i64 (r : Int)] w fun e w' => e = .returned (.tuple #[.string (radText r n), .bool true]) ∧ Below w.heap.size w w' := by
  unfold radText
  by_cases hr3 : r = 10
  · subst hr3
    rw [if_pos rfl]
    exact TextIn.ten n h0 h1 w
  · rw [if_neg hr3]
    have er : ∀ m, 0 < m → rad r m = rads r m := fun m hm => by unfold rad; rw [if_neg (by omega)]
    rcases Int.lt_trichotomy n 0 with hn | hn | hn
    · obtain ⟨m, rfl⟩ : ∃ m : Nat, n = -(m : Int) := ⟨n.natAbs, by omega⟩
      rw [if_pos hn, show (-(m : Int)).natAbs = m from by omega, er m (by omega)]
      exact TextIn.neg m r (by omega) (by omega) hr hr2 hr3 w
    · subst hn
      have e0 : rad r (0 : Int).natAbs = [dg 0] := by unfold rad; rw [if_pos (by decide)]
      rw [if_neg (by decide), e0]
      exact TextIn.zero r hr hr2 hr3 w
    · obtain ⟨m, rfl⟩ : ∃ m : Nat, n = (m : Int) := ⟨n.toNat, by omega⟩
      rw [if_neg (by omega), show ((m : Int)).natAbs = m from by omega, er m (by omega)]
      exact TextIn.pos m r (by omega) (by omega) hr hr2 hr3 w
theorem Tab64.stays {w w' : World} (h : Tab64 w) (hb : Below w.heap.size w w') : Tab64 w' := Go.Joins.tab_stays gtab64 h hb (Nat.le_refl _)
set_option maxHeartbeats 4000000 in
set_option maxRecDepth 100000 in
theorem WLaw.calls (n radix : Int) (h0 : -2147483648 ≤ n) (h1 : n ≤ 2147483647) (w : World) (ht : Tab64 w) (ht2 : Tab w) : Calls Tryd.prog 4 #[.int .i32 n, .int .i64 radix] w fun e w' => e = .returned (.bool true) ∧ Below w.heap.size w w' := by
  have cf := conv_float n h0 (by omega)
  have HW := Lib.hid (whole.calls n h0 (by omega))
  obtain ⟨r, hr, hr2, hcase⟩ : ∃ r : Nat, 2 ≤ r ∧ r ≤ 36 ∧ ((decide (radix < 2) = true ∧ r = 10) ∨ (decide (radix < 2) = false ∧ decide (36 < radix) = true ∧ r = 10) ∨ (decide (radix < 2) = false ∧ decide (36 < radix) = false ∧ radix = (r : Int))) := by
    by_cases a : radix < 2
    · exact ⟨10, by decide, by decide, Or.inl ⟨decide_eq_true a, rfl⟩⟩
    · by_cases b : 36 < radix
      · exact ⟨10, by decide, by decide, Or.inr (Or.inl ⟨decide_eq_false a, decide_eq_true b, rfl⟩)⟩
      · exact ⟨radix.toNat, by omega, by omega, Or.inr (Or.inr ⟨decide_eq_false a, decide_eq_false b, by omega⟩)⟩
  have HS := Lib.hid (ToStrR.calls r n hr hr2 h0 h1 w ht ht2)
  have HT := Lib.hid (TextIn.calls r n hr hr2 h0 h1)
  clear hr hr2 h0 h1 ht ht2
  generalize radText r n = t at *
  generalize dbl n = x at *
  have e10 : ((10 : Nat) : Int) = 10 := rfl
  rcases hcase with ⟨a, rfl⟩ | ⟨a, b, rfl⟩ | ⟨a, b, rfl⟩
  all_goals
    (try rw [e10] at HS HT)
    clear e10
    go_enter Tryd.func4, Tryd.ntmps4
    go_wp2_with (first | (go_at_call 5; (with_reducible refine HS.out.mono ?_); rintro e w9 ⟨rfl, hb⟩; have HB := Lib.hid hb; clear hb) | (go_at_call 9; (with_reducible refine (HT.out _).mono ?_); rintro e w10 ⟨rfl, hb⟩; replace HB := Lib.hid (HB.out.trans (hb.mono HB.out.size)); clear hb) | (go_at_call 10; (with_reducible refine (HW.out _).mono ?_); rintro e w11 ⟨rfl, rfl⟩))
    go_ret
    exact ⟨by simp, HB.out⟩
end Go.Proofs.YtheichpmhfledaaDoor
