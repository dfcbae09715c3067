/- A text of WTF-8 is told to have code points above U+FFFF just if it has. No condition. -/
import Derived.Test.YtkdinhbfidckdaaRPFnNonBMPx2
import Derived.Laws.BitsLemmas
import Derived.Laws.RangeAny
namespace Go.Proofs.YtkdinhbfidckdaaR.Pure
open Go Go.RowKit Go.Proofs.YtkdinhbfidckdaaR.PFnNonBMP Go.Proofs.YtkdinhbfidckdaaRW.PrintWords Go.Proofs.YtkdinhbfidckdaaRW.PrintLast

set_option linter.unusedSectionVars false
/-! ### single bytes -/
theorem byte_cont64 : ∀ m : Fin 256, (Go.bits .and .i64 (m.val : Int) 192 = 128) ↔ (128 ≤ (m.val : Int) ∧ (m.val : Int) < 192) := by decide +kernel
theorem byte_low64 : ∀ m : Fin 256, Go.bits .and .i64 (m.val : Int) 63 = (m.val : Int) % 64 ∧ Go.bits .and .i64 (m.val : Int) 31 = (m.val : Int) % 32 ∧ Go.bits .and .i64 (m.val : Int) 15 = (m.val : Int) % 16 ∧ Go.bits .and .i64 (m.val : Int) 7 = (m.val : Int) % 8 := by decide +kernel
theorem byte_cont8 : ∀ m : Fin 256, (Go.bits .and .u8 (m.val : Int) 192 = 128) ↔ (128 ≤ (m.val : Int) ∧ (m.val : Int) < 192) := by decide +kernel
theorem fin_of {x : Int} (h0 : 0 ≤ x) (h1 : x ≤ 255) : ∃ m : Fin 256, (m.val : Int) = x := ⟨⟨x.toNat, by omega⟩, by simp; omega⟩
theorem cont64 {x : Int} (h0 : 0 ≤ x) (h1 : x ≤ 255) : (Go.bits .and .i64 x 192 = 128) ↔ (128 ≤ x ∧ x < 192) := by
  obtain ⟨m, rfl⟩ := fin_of h0 h1; exact byte_cont64 m
theorem low64 {x : Int} (h0 : 0 ≤ x) (h1 : x ≤ 255) : Go.bits .and .i64 x 63 = x % 64 ∧ Go.bits .and .i64 x 31 = x % 32 ∧ Go.bits .and .i64 x 15 = x % 16 ∧ Go.bits .and .i64 x 7 = x % 8 := by
  obtain ⟨m, rfl⟩ := fin_of h0 h1; exact byte_low64 m
theorem cont8 {x : Int} (h0 : 0 ≤ x) (h1 : x ≤ 255) : (Go.bits .and .u8 x 192 = 128) ↔ (128 ≤ x ∧ x < 192) := by
  obtain ⟨m, rfl⟩ := fin_of h0 h1; exact byte_cont8 m
theorem wraps_i64' (n : Int) (h₀ : 0 ≤ n) (h₁ : n < 2 ^ 63) : IntKind.i64.wrap n = n := by rw [IntKind.wrap_i64]; omega
theorem or64 {x y : Int} (i : Nat) (hx0 : 0 ≤ x) (hx : x % 2 ^ i = 0) (hx1 : x < 2 ^ 63) (hy0 : 0 ≤ y) (hy : y < 2 ^ i) (hy1 : y < 2 ^ 63) : Go.bits .or .i64 x y = x + y :=
  bits_join .i64 63 (by decide) wraps_i64' i x y hx0 hx hx1 hy0 hy hy1
theorem w64 {x : Int} (h0 : 0 ≤ x) (h1 : x < 9223372036854775808) : wrap64 x = x := by unfold wrap64; omega
theorem w32 {x : Int} (h0 : 0 ≤ x) (h1 : x < 2147483648) : wrap32 x = x := by unfold wrap32; omega

/-! ### the reference's reader of one code point, closed -/
/-- The code point that stands at place i, and how many bytes it has; 0 bytes: there is no whole one. -/
def runeOf (n b0 b1 b2 b3 : Int) : Int × Int :=
  if b0 < 128 then (b0, 1)
  else if 194 ≤ b0 ∧ b0 ≤ 223 then (if 2 ≤ n ∧ 128 ≤ b1 ∧ b1 < 192 then (b0 % 32 * 64 + b1 % 64, 2) else (0, 0))
  else if 224 ≤ b0 ∧ b0 ≤ 239 then (if 3 ≤ n ∧ (128 ≤ b1 ∧ b1 < 192) ∧ (128 ≤ b2 ∧ b2 < 192) ∧ 2048 ≤ (b0 % 16 * 64 + b1 % 64) * 64 + b2 % 64 ∧ ¬ (55296 ≤ (b0 % 16 * 64 + b1 % 64) * 64 + b2 % 64 ∧ (b0 % 16 * 64 + b1 % 64) * 64 + b2 % 64 ≤ 57343) then ((b0 % 16 * 64 + b1 % 64) * 64 + b2 % 64, 3) else (0, 0))
  else if 240 ≤ b0 ∧ b0 ≤ 244 then (if 4 ≤ n ∧ (128 ≤ b1 ∧ b1 < 192) ∧ (128 ≤ b2 ∧ b2 < 192) ∧ (128 ≤ b3 ∧ b3 < 192) ∧ 65536 ≤ ((b0 % 8 * 64 + b1 % 64) * 64 + b2 % 64) * 64 + b3 % 64 ∧ ((b0 % 8 * 64 + b1 % 64) * 64 + b2 % 64) * 64 + b3 % 64 ≤ 1114111 then (((b0 % 8 * 64 + b1 % 64) * 64 + b2 % 64) * 64 + b3 % 64, 4) else (0, 0))
  else (0, 0)
def runeAt (s : ByteArray) (i : Int) : Int × Int := if i < 0 ∨ i ≥ (s.size : Int) then (0, 0) else runeOf ((s.size : Int) - i) (bt s i) (bt s (i + 1)) (bt s (i + 2)) (bt s (i + 3))

section
variable {s : ByteArray} {i : Int} (hs : s.size ≤ 140737488351232) (h0 : 0 ≤ i) (h1 : i < (s.size : Int))
include hs h0 h1
theorem l0_step {k : Nat} {n r least j : Int} (hj0 : 0 ≤ j) (hj4 : j < 4) (hj : j < n) (hb : i + j < (s.size : Int)) (hr0 : 0 ≤ r) (hr1 : r < 2097152) (hc : 128 ≤ bt s (i + j) ∧ bt s (i + j) < 192) :
    spec_Rune.l0 (k + 1) s i n r least j = spec_Rune.l0 k s i n (r * 64 + bt s (i + j) % 64) least (j + 1) := by
  have hbt := bt_range s (i + j)
  have e1 : wrap64 (i + j) = i + j := w64 (by omega) (by omega)
  have e2 : wrap64 (bt s (i + j)) = bt s (i + j) := w64 (by omega) (by omega)
  have e3 : wrap64 (r * 64) = r * 64 := w64 (by omega) (by omega)
  have e4 : wrap64 (j + 1) = j + 1 := w64 (by omega) (by omega)
  have e5 := (low64 hbt.1 hbt.2).1
  simp only [spec_Rune.l0, e1, e2, e3, e4, e5]
  rw [if_pos hj, if_pos (by omega), if_pos hb, if_pos ((cont64 hbt.1 hbt.2).2 hc), or64 6 (by omega) (by omega) (by omega) (by omega) (by omega) (by omega)]
theorem l0_bad {k : Nat} {n r least j : Int} (hj0 : 0 ≤ j) (hj4 : j < 4) (hj : j < n) (hb : i + j < (s.size : Int)) (hc : ¬ (128 ≤ bt s (i + j) ∧ bt s (i + j) < 192)) :
    spec_Rune.l0 (k + 1) s i n r least j = some (0, 0) := by
  have hbt := bt_range s (i + j)
  have e1 : wrap64 (i + j) = i + j := w64 (by omega) (by omega)
  have e2 : wrap64 (bt s (i + j)) = bt s (i + j) := w64 (by omega) (by omega)
  simp only [spec_Rune.l0, e1, e2]
  rw [if_pos hj, if_pos (by omega), if_pos hb, if_neg (fun h => hc ((cont64 hbt.1 hbt.2).1 h))]
theorem l0_end {k : Nat} {n r least j : Int} (hj : ¬ j < n) :
    spec_Rune.l0 (k + 1) s i n r least j = some (if least ≤ r ∧ r ≤ 1114111 ∧ ¬ (55296 ≤ r ∧ r ≤ 57343) then (r, n) else (0, 0)) := by
  simp only [spec_Rune.l0]
  rw [if_neg hj]
  by_cases c1 : r < least
  · rw [if_pos c1, if_neg (by omega)]
  · rw [if_neg c1]
    by_cases c2 : r > 1114111
    · rw [if_pos c2, if_neg (by omega)]
    · rw [if_neg c2]
      by_cases c3 : r ≥ 55296
      · rw [if_pos c3]
        by_cases c4 : r ≤ 57343
        · rw [if_pos c4, if_neg (by omega)]
        · rw [if_neg c4, if_pos (by omega)]
      · rw [if_neg c3, if_pos (by omega)]
theorem j3_short {k : Nat} {n r least : Int} (hn : n ≠ 0) (hn4 : 0 ≤ n ∧ n ≤ 4) (hb : (s.size : Int) < i + n) : spec_Rune.j3 (k + 2) s i n r least = some (0, 0) := by
  have e1 : wrap64 (i + n) = i + n := w64 (by omega) (by omega)
  simp only [spec_Rune.j3, spec_Rune.j4, e1]
  rw [if_neg hn, if_pos (by simpa using hb)]
theorem j3_long {k : Nat} {n r least : Int} (hn : n ≠ 0) (hn4 : 0 ≤ n ∧ n ≤ 4) (hb : i + n ≤ (s.size : Int)) : spec_Rune.j3 (k + 2) s i n r least = spec_Rune.l0 k s i n r least 1 := by
  have e1 : wrap64 (i + n) = i + n := w64 (by omega) (by omega)
  simp only [spec_Rune.j3, spec_Rune.j4, e1]
  rw [if_neg hn, if_neg (by simp; omega)]

theorem rune_two (k : Nat) (r : Int) (hr : 0 ≤ r ∧ r < 32) (hr2 : 2 ≤ r) : spec_Rune.j3 (k + 4) s i 2 r 128 =
    some (if 2 ≤ (s.size : Int) - i ∧ 128 ≤ bt s (i + 1) ∧ bt s (i + 1) < 192 then (r * 64 + bt s (i + 1) % 64, 2) else (0, 0)) := by
  by_cases hb : i + 2 ≤ (s.size : Int)
  · rw [j3_long hs h0 h1 (by omega) (by omega) hb]
    by_cases hc : 128 ≤ bt s (i + 1) ∧ bt s (i + 1) < 192
    · rw [l0_step hs h0 h1 (by omega) (by omega) (by omega) (by omega) (by omega) (by omega) hc, l0_end hs h0 h1 (by omega), if_pos (by omega), if_pos (by omega)]
    · rw [l0_bad hs h0 h1 (by omega) (by omega) (by omega) (by omega) hc, if_neg (by omega)]
  · rw [j3_short hs h0 h1 (by omega) (by omega) (by omega), if_neg (by omega)]
theorem rune_three (k : Nat) (r : Int) (hr : 0 ≤ r ∧ r < 16) : spec_Rune.j3 (k + 5) s i 3 r 2048 =
    some (if 3 ≤ (s.size : Int) - i ∧ (128 ≤ bt s (i + 1) ∧ bt s (i + 1) < 192) ∧ (128 ≤ bt s (i + 2) ∧ bt s (i + 2) < 192) ∧ 2048 ≤ (r * 64 + bt s (i + 1) % 64) * 64 + bt s (i + 2) % 64 ∧ ¬ (55296 ≤ (r * 64 + bt s (i + 1) % 64) * 64 + bt s (i + 2) % 64 ∧ (r * 64 + bt s (i + 1) % 64) * 64 + bt s (i + 2) % 64 ≤ 57343) then ((r * 64 + bt s (i + 1) % 64) * 64 + bt s (i + 2) % 64, 3) else (0, 0)) := by
  by_cases hb : i + 3 ≤ (s.size : Int)
  · rw [j3_long hs h0 h1 (by omega) (by omega) hb]
    by_cases hc : 128 ≤ bt s (i + 1) ∧ bt s (i + 1) < 192
    · rw [l0_step hs h0 h1 (by omega) (by omega) (by omega) (by omega) (by omega) (by omega) hc]
      have e : (1 : Int) + 1 = 2 := rfl
      rw [e]
      by_cases hd : 128 ≤ bt s (i + 2) ∧ bt s (i + 2) < 192
      · rw [l0_step hs h0 h1 (by omega) (by omega) (by omega) (by omega) (by omega) (by omega) hd, l0_end hs h0 h1 (by omega)]
        by_cases hz : 2048 ≤ (r * 64 + bt s (i + 1) % 64) * 64 + bt s (i + 2) % 64 ∧ ¬ (55296 ≤ (r * 64 + bt s (i + 1) % 64) * 64 + bt s (i + 2) % 64 ∧ (r * 64 + bt s (i + 1) % 64) * 64 + bt s (i + 2) % 64 ≤ 57343)
        · rw [if_pos (by omega), if_pos ⟨by omega, hc, hd, hz⟩]
        · rw [if_neg (by omega), if_neg (fun h => hz h.2.2.2)]
      · rw [l0_bad hs h0 h1 (by omega) (by omega) (by omega) (by omega) hd, if_neg (fun h => hd h.2.2.1)]
    · rw [l0_bad hs h0 h1 (by omega) (by omega) (by omega) (by omega) hc, if_neg (fun h => hc h.2.1)]
  · rw [j3_short hs h0 h1 (by omega) (by omega) (by omega), if_neg (by omega)]
theorem rune_four (k : Nat) (r : Int) (hr : 0 ≤ r ∧ r < 8) : spec_Rune.j3 (k + 6) s i 4 r 65536 =
    some (if 4 ≤ (s.size : Int) - i ∧ (128 ≤ bt s (i + 1) ∧ bt s (i + 1) < 192) ∧ (128 ≤ bt s (i + 2) ∧ bt s (i + 2) < 192) ∧ (128 ≤ bt s (i + 3) ∧ bt s (i + 3) < 192) ∧ 65536 ≤ ((r * 64 + bt s (i + 1) % 64) * 64 + bt s (i + 2) % 64) * 64 + bt s (i + 3) % 64 ∧ ((r * 64 + bt s (i + 1) % 64) * 64 + bt s (i + 2) % 64) * 64 + bt s (i + 3) % 64 ≤ 1114111 then (((r * 64 + bt s (i + 1) % 64) * 64 + bt s (i + 2) % 64) * 64 + bt s (i + 3) % 64, 4) else (0, 0)) := by
  by_cases hb : i + 4 ≤ (s.size : Int)
  · rw [j3_long hs h0 h1 (by omega) (by omega) hb]
    by_cases hc : 128 ≤ bt s (i + 1) ∧ bt s (i + 1) < 192
    · rw [l0_step hs h0 h1 (by omega) (by omega) (by omega) (by omega) (by omega) (by omega) hc]
      have e : (1 : Int) + 1 = 2 := rfl
      rw [e]
      by_cases hd : 128 ≤ bt s (i + 2) ∧ bt s (i + 2) < 192
      · rw [l0_step hs h0 h1 (by omega) (by omega) (by omega) (by omega) (by omega) (by omega) hd]
        have e : (2 : Int) + 1 = 3 := rfl
        rw [e]
        by_cases hf : 128 ≤ bt s (i + 3) ∧ bt s (i + 3) < 192
        · rw [l0_step hs h0 h1 (by omega) (by omega) (by omega) (by omega) (by omega) (by omega) hf, l0_end hs h0 h1 (by omega)]
          by_cases hz : 65536 ≤ ((r * 64 + bt s (i + 1) % 64) * 64 + bt s (i + 2) % 64) * 64 + bt s (i + 3) % 64 ∧ ((r * 64 + bt s (i + 1) % 64) * 64 + bt s (i + 2) % 64) * 64 + bt s (i + 3) % 64 ≤ 1114111
          · rw [if_pos (by omega), if_pos ⟨by omega, hc, hd, hf, hz⟩]
          · rw [if_neg (by omega), if_neg (fun h => hz h.2.2.2.2)]
        · rw [l0_bad hs h0 h1 (by omega) (by omega) (by omega) (by omega) hf, if_neg (fun h => hf h.2.2.2.1)]
      · rw [l0_bad hs h0 h1 (by omega) (by omega) (by omega) (by omega) hd, if_neg (fun h => hd h.2.2.1)]
    · rw [l0_bad hs h0 h1 (by omega) (by omega) (by omega) (by omega) hc, if_neg (fun h => hc h.2.1)]
  · rw [j3_short hs h0 h1 (by omega) (by omega) (by omega), if_neg (by omega)]
end

theorem rune_tells (s : ByteArray) (hs : s.size ≤ 140737488351232) (i : Int) (k : Nat) : spec_Rune.f (k + 12) s i = some (runeAt s i) := by
  unfold spec_Rune.f runeAt
  by_cases h0 : i < 0
  · rw [if_pos h0, if_pos (Or.inl h0)]
    simp only [spec_Rune.j0, if_true]
  · rw [if_neg h0]
    by_cases h1 : i ≥ (s.size : Int)
    · rw [if_pos (Or.inr h1), decide_eq_true h1]
      simp only [spec_Rune.j0, if_true]
    · rw [if_neg (by omega), decide_eq_false h1]
      have hb := bt_range s i
      have e2 : wrap64 (bt s i) = bt s i := w64 (by omega) (by omega)
      have hl := low64 hb.1 hb.2
      simp only [spec_Rune.j0, e2, Bool.false_eq_true, if_false]
      rw [if_pos (by omega), if_pos (by omega)]
      unfold runeOf
      by_cases c0 : bt s i < 128
      · rw [if_pos c0, if_pos c0]
      rw [if_neg c0, if_neg c0]
      by_cases c1 : 194 ≤ bt s i ∧ bt s i ≤ 223
      · rw [if_pos c1, if_pos (show bt s i ≥ 194 from c1.1), decide_eq_true c1.2]
        simp only [spec_Rune.j1, if_true, hl.2.1]
        exact rune_two hs (by omega) (by omega) _ _ (by omega) (by omega)
      rw [if_neg c1]
      have e3 : (if bt s i ≥ 194 then spec_Rune.j1 (k + 11) s i (bt s i) 0 0 0 (decide (bt s i ≤ 223)) else spec_Rune.j1 (k + 11) s i (bt s i) 0 0 0 false) = spec_Rune.j1 (k + 11) s i (bt s i) 0 0 0 false := by
        by_cases c : bt s i ≥ 194
        · rw [if_pos c, decide_eq_false (by omega)]
        · rw [if_neg c]
      rw [e3]
      simp only [spec_Rune.j1, Bool.false_eq_true, if_false]
      by_cases c2 : 224 ≤ bt s i ∧ bt s i ≤ 239
      · rw [if_pos c2, if_pos (show bt s i ≥ 224 from c2.1), decide_eq_true c2.2]
        simp only [spec_Rune.j2, if_true, hl.2.2.1]
        exact rune_three hs (by omega) (by omega) _ _ (by omega)
      rw [if_neg c2]
      have e4 : (if bt s i ≥ 224 then spec_Rune.j2 (k + 10) s i (bt s i) 0 0 0 (decide (bt s i ≤ 239)) else spec_Rune.j2 (k + 10) s i (bt s i) 0 0 0 false) = spec_Rune.j2 (k + 10) s i (bt s i) 0 0 0 false := by
        by_cases c : bt s i ≥ 224
        · rw [if_pos c, decide_eq_false (by omega)]
        · rw [if_neg c]
      rw [e4]
      simp only [spec_Rune.j2, Bool.false_eq_true, if_false]
      by_cases c3 : 240 ≤ bt s i ∧ bt s i ≤ 244
      · rw [if_pos c3, if_pos (show bt s i ≥ 240 from c3.1), if_pos c3.2]
        simp only [hl.2.2.2]
        exact rune_four hs (by omega) (by omega) _ _ (by omega)
      · rw [if_neg c3]
        have e5 : ∀ x : Option (Int × Int), (if bt s i ≥ 240 then (if bt s i ≤ 244 then x else spec_Rune.j3 (k + 9) s i 0 0 0) else spec_Rune.j3 (k + 9) s i 0 0 0) = spec_Rune.j3 (k + 9) s i 0 0 0 := by
          intro x
          by_cases c : bt s i ≥ 240
          · rw [if_pos c, if_neg (by omega)]
          · rw [if_neg c]
        rw [e5]
        simp only [spec_Rune.j3, spec_Rune.j4, if_true]
/-! ### the reference's reader of one code point of WTF-8, closed -/
def wtfAt (s : ByteArray) : Int × Int :=
  if (runeAt s 0).2 > 0 then runeAt s 0
  else if 3 ≤ (s.size : Int) ∧ bt s 0 = 237 ∧ 160 ≤ bt s 1 ∧ bt s 1 ≤ 191 ∧ 128 ≤ bt s 2 ∧ bt s 2 < 192 then (53248 + bt s 1 % 64 * 64 + bt s 2 % 64, 3) else (0, 0)
theorem low8 {x : Int} (h0 : 0 ≤ x) (h1 : x ≤ 255) : Go.bits .and .u8 x 63 = x % 64 := u8_and63 x h0 (by omega)
theorem wtf_tells (s : ByteArray) (hs : s.size ≤ 140737488351232) (k : Nat) : spec_WtfRune.f (k + 12) s = some (wtfAt s) := by
  unfold spec_WtfRune.f wtfAt
  rw [rune_tells s hs]
  simp only [Option.bind_some]
  by_cases c : (runeAt s 0).2 > 0
  · rw [if_pos c, if_pos c]
  rw [if_neg c, if_neg c]
  by_cases c3 : (s.size : Int) < 3
  · rw [if_pos c3, if_neg (by omega)]
  rw [if_neg c3, if_pos (by omega)]
  by_cases c4 : bt s 0 = 237
  · rw [if_pos c4, if_pos (by omega)]
    have h1 := bt_range s 1
    have h2 := bt_range s 2
    by_cases c5 : bt s 1 < 160
    · rw [if_pos c5, if_neg (by omega)]
    rw [if_neg c5]
    by_cases c6 : bt s 1 > 191
    · rw [if_pos c6, if_neg (by omega)]
    rw [if_neg c6, if_pos (by omega)]
    by_cases c7 : 128 ≤ bt s 2 ∧ bt s 2 < 192
    · rw [if_pos ((cont8 h2.1 h2.2).2 c7), if_pos ⟨by omega, c4, by omega, by omega, c7⟩]
      rw [low8 h1.1 h1.2, low8 h2.1 h2.2]
      rw [w64 (x := bt s 1 % 64) (by omega) (by omega), w64 (x := bt s 1 % 64 * 64) (by omega) (by omega), w64 (x := bt s 2 % 64) (by omega) (by omega)]
      rw [or64 (x := 53248) (y := bt s 1 % 64 * 64) 12 (by omega) (by omega) (by omega) (by omega) (by omega) (by omega), or64 6 (by omega) (by omega) (by omega) (by omega) (by omega) (by omega)]
    · rw [if_neg (fun h => c7 ((cont8 h2.1 h2.2).1 h)), if_neg (fun h => c7 h.2.2.2.2)]
  · rw [if_neg c4, if_neg (fun h => c4 h.2.1)]
/-! ### Go's own decoder against the reference's -/
theorem bt_extract (s : ByteArray) (p : Nat) (i : Int) (hp : p ≤ s.size) (hi : 0 ≤ i) : bt (s.extract p s.size) i = bt s ((p : Int) + i) := by
  have hsz : (s.extract p s.size).size = s.size - p := by simp
  unfold bt
  by_cases h : p + i.toNat < s.size
  · have h1 : i.toNat < (s.extract p s.size).size := by omega
    have h2 : ((p : Int) + i).toNat < s.size := by omega
    rw [dif_pos h1, dif_pos h2]
    have e : ((p : Int) + i).toNat = p + i.toNat := by omega
    simp only [ByteArray.getElem_extract, e]
  · have h1 : ¬ i.toNat < (s.extract p s.size).size := by omega
    have h2 : ¬ ((p : Int) + i).toNat < s.size := by omega
    rw [dif_neg h1, dif_neg h2]
theorem get_bt (s : ByteArray) (j : Nat) (h : j < s.size) : ((s.get! j).toNat : Int) = bt s (j : Int) := by
  have e := get_at s j h
  simp only [Nat.add_zero] at e
  rw [e]
  unfold bt
  have h2 : ((j : Int)).toNat < s.size := by omega
  rw [dif_pos h2]
  simp
theorem decode_cont (s : ByteArray) (p : Nat) (hp : p < s.size) (h : 128 ≤ bt s (p : Int) ∧ bt s (p : Int) < 192) : Utf8.decode s p = (65533, 1) := by
  have g := get_bt s p hp
  obtain ⟨x, hx⟩ : ∃ x, (s.get! (p + 0)).toNat = x := ⟨_, rfl⟩
  have gx : (x : Int) = bt s (p : Int) := by rw [← g, ← hx]; rfl
  have h1 : 128 ≤ x ∧ x < 192 := by omega
  simp only [Utf8.decode, hx]
  have a1 : (x / 32 == 6) = false := by simp; omega
  have a2 : (x / 16 == 14) = false := by simp; omega
  have a3 : (x / 8 == 30) = false := by simp; omega
  rw [if_neg (by omega), a1, a2, a3]
  simp [Utf8.runeError]
theorem decode_of_rune (s : ByteArray) (p : Nat) (hp : p < s.size) (h : (runeAt (s.extract p s.size) 0).2 > 0) :
    Utf8.decode s p = ((runeAt (s.extract p s.size) 0).1.toNat, (runeAt (s.extract p s.size) 0).2.toNat) := by
  have hsz : (s.extract p s.size).size = s.size - p := by simp
  have e1 : (0 : Int) + 1 = 1 := rfl
  have e2 : (0 : Int) + 2 = 2 := rfl
  have e3 : (0 : Int) + 3 = 3 := rfl
  unfold runeAt at h ⊢
  rw [if_neg (by omega)] at h ⊢
  rw [e1, e2, e3, bt_extract s p 0 (by omega) (by omega), bt_extract s p 1 (by omega) (by omega), bt_extract s p 2 (by omega) (by omega), bt_extract s p 3 (by omega) (by omega)] at h ⊢
  have f0 : (p : Int) + 0 = ((p + 0 : Nat) : Int) := by omega
  have f1 : (p : Int) + 1 = ((p + 1 : Nat) : Int) := by omega
  have f2 : (p : Int) + 2 = ((p + 2 : Nat) : Int) := by omega
  have f3 : (p : Int) + 3 = ((p + 3 : Nat) : Int) := by omega
  rw [f0, f1, f2, f3] at h ⊢
  have g0 : ∀ k, p + k < s.size → ((s.get! (p + k)).toNat : Int) = bt s ((p + k : Nat) : Int) := fun k hk => get_bt s _ hk
  obtain ⟨x0, hx0⟩ : ∃ x, (s.get! (p + 0)).toNat = x := ⟨_, rfl⟩
  obtain ⟨x1, hx1⟩ : ∃ x, (s.get! (p + 1)).toNat = x := ⟨_, rfl⟩
  obtain ⟨x2, hx2⟩ : ∃ x, (s.get! (p + 2)).toNat = x := ⟨_, rfl⟩
  obtain ⟨x3, hx3⟩ : ∃ x, (s.get! (p + 3)).toNat = x := ⟨_, rfl⟩
  have y0 : bt s ((p + 0 : Nat) : Int) = x0 := by rw [← g0 0 (by omega), hx0]
  have y1 : p + 1 < s.size → bt s ((p + 1 : Nat) : Int) = x1 := fun hk => by rw [← g0 1 hk, hx1]
  have y2 : p + 2 < s.size → bt s ((p + 2 : Nat) : Int) = x2 := fun hk => by rw [← g0 2 hk, hx2]
  have y3 : p + 3 < s.size → bt s ((p + 3 : Nat) : Int) = x3 := fun hk => by rw [← g0 3 hk, hx3]
  generalize bt s ((p + 0 : Nat) : Int) = b0 at h y0 ⊢
  generalize bt s ((p + 1 : Nat) : Int) = b1 at h y1 ⊢
  generalize bt s ((p + 2 : Nat) : Int) = b2 at h y2 ⊢
  generalize bt s ((p + 3 : Nat) : Int) = b3 at h y3 ⊢
  simp only [Utf8.decode, hx0, hx1, hx2, hx3]
  unfold runeOf at h ⊢
  by_cases d0 : b0 < 128
  · rw [if_pos d0, if_pos (by omega)]
    simp only [Prod.mk.injEq]; omega
  rw [if_neg d0] at h ⊢
  rw [if_neg (by omega)]
  by_cases d1 : 194 ≤ b0 ∧ b0 ≤ 223
  · rw [if_pos d1] at h ⊢
    split at h
    · rename_i d2
      rw [if_pos d2]
      have z1 := y1 (by omega)
      have a1 : (x0 / 32 == 6 && (decide (p + 1 < s.size) && x1 / 64 == 2)) = true := by
        simp only [Bool.and_eq_true, beq_iff_eq, decide_eq_true_eq]; omega
      rw [a1, if_pos rfl, if_pos (by omega)]
      simp only [Prod.mk.injEq]; omega
    · exact absurd h (by decide)
  rw [if_neg d1] at h ⊢
  by_cases d3 : 224 ≤ b0 ∧ b0 ≤ 239
  · rw [if_pos d3] at h ⊢
    split at h
    · rename_i d4
      rw [if_pos d4]
      have z1 := y1 (by omega)
      have z2 := y2 (by omega)
      have a0 : (x0 / 32 == 6 && (decide (p + 1 < s.size) && x1 / 64 == 2)) = false := by
        have : (x0 / 32 == 6) = false := by simp; omega
        rw [this]; rfl
      have a1 : (x0 / 16 == 14 && (decide (p + 1 < s.size) && x1 / 64 == 2) && (decide (p + 2 < s.size) && x2 / 64 == 2)) = true := by
        simp only [Bool.and_eq_true, beq_iff_eq, decide_eq_true_eq]; omega
      have a2 : (decide (x0 % 16 * 4096 + x1 % 64 * 64 + x2 % 64 ≥ 2048) && Utf8.valid ((x0 % 16 * 4096 + x1 % 64 * 64 + x2 % 64 : Nat) : Int)) = true := by
        simp only [Utf8.valid, Bool.and_eq_true, Bool.or_eq_true, decide_eq_true_eq]; omega
      rw [a0, a1]
      simp only [Bool.false_eq_true, if_false, if_true]
      rw [if_pos (by simpa using a2)]
      simp only [Prod.mk.injEq]; omega
    · exact absurd h (by decide)
  rw [if_neg d3] at h ⊢
  by_cases d5 : 240 ≤ b0 ∧ b0 ≤ 244
  · rw [if_pos d5] at h ⊢
    split at h
    · rename_i d6
      rw [if_pos d6]
      have z1 := y1 (by omega)
      have z2 := y2 (by omega)
      have z3 := y3 (by omega)
      have a0 : (x0 / 32 == 6 && (decide (p + 1 < s.size) && x1 / 64 == 2)) = false := by
        have : (x0 / 32 == 6) = false := by simp; omega
        rw [this]; rfl
      have a1 : (x0 / 16 == 14 && (decide (p + 1 < s.size) && x1 / 64 == 2) && (decide (p + 2 < s.size) && x2 / 64 == 2)) = false := by
        have : (x0 / 16 == 14) = false := by simp; omega
        rw [this]; rfl
      have a2 : (x0 / 8 == 30 && (decide (p + 1 < s.size) && x1 / 64 == 2) && (decide (p + 2 < s.size) && x2 / 64 == 2) && (decide (p + 3 < s.size) && x3 / 64 == 2)) = true := by
        simp only [Bool.and_eq_true, beq_iff_eq, decide_eq_true_eq]; omega
      have a3 : (decide (x0 % 8 * 262144 + x1 % 64 * 4096 + x2 % 64 * 64 + x3 % 64 ≥ 65536) && Utf8.valid ((x0 % 8 * 262144 + x1 % 64 * 4096 + x2 % 64 * 64 + x3 % 64 : Nat) : Int)) = true := by
        simp only [Utf8.valid, Bool.and_eq_true, Bool.or_eq_true, decide_eq_true_eq]; omega
      rw [a0, a1, a2]
      simp only [Bool.false_eq_true, if_false, if_true]
      rw [if_pos (by simpa using a3)]
      simp only [Prod.mk.injEq]; omega
    · exact absurd h (by decide)
  rw [if_neg d5] at h; exact absurd h (by decide)
/-! ### what the package's loop tells, by places -/
theorem above_fuel (s : ByteArray) : ∀ (b b' p : Nat), s.size - p ≤ b → s.size - p ≤ b' → above s b p = above s b' p := by
  intro b
  induction b with
  | zero => intro b' p h _; rw [above_end s b' p (by omega)]; rfl
  | succ b ih =>
    intro b' p h h'
    by_cases hp : p < s.size
    · obtain ⟨c, rfl⟩ : ∃ c, b' = c + 1 := ⟨b' - 1, by omega⟩
      have hw := width_pos s p hp
      simp only [above]
      rw [if_pos hp, if_pos hp, ih c (p + (Utf8.decode s p).2) (by omega) (by omega)]
    · rw [above_end s _ p hp, above_end s _ p hp]
theorem above_step (s : ByteArray) (p : Nat) (hp : p < s.size) : above s s.size p = if 65535 < ((Utf8.decode s p).1 : Int) then true else above s s.size (p + (Utf8.decode s p).2) := by
  have hw := width_pos s p hp
  obtain ⟨c, hc⟩ : ∃ c, s.size = c + 1 := ⟨s.size - 1, by omega⟩
  have e : above s s.size p = above s (c + 1) p := above_fuel s _ _ _ (by omega) (by omega)
  rw [e]
  simp only [above]
  rw [if_pos hp]
  by_cases h : 65535 < ((Utf8.decode s p).1 : Int)
  · rw [if_pos h, if_pos h]
  · rw [if_neg h, if_neg h]; exact above_fuel s _ _ _ (by omega) (by omega)

theorem wtf_facts (t : ByteArray) (h : (wtfAt t).2 > 0) : 0 ≤ (wtfAt t).1 ∧ (wtfAt t).1 ≤ 1114111 ∧ 1 ≤ (wtfAt t).2 ∧ (wtfAt t).2 ≤ (t.size : Int) ∧
    (65536 ≤ (wtfAt t).1 → 2 ≤ (wtfAt t).2) ∧ (55296 ≤ (wtfAt t).1 → (wtfAt t).1 ≤ 57343 → (wtfAt t).2 = 3) := by
  have hb := bt_range t 0
  have hb1 := bt_range t 1
  have hb2 := bt_range t 2
  have hb3 := bt_range t 3
  revert h
  unfold wtfAt runeAt runeOf
  have e1 : (0 : Int) + 1 = 1 := rfl
  have e2 : (0 : Int) + 2 = 2 := rfl
  have e3 : (0 : Int) + 3 = 3 := rfl
  rw [e1, e2, e3]
  repeat' split
  all_goals (simp only []; intro h; refine ⟨?_, ?_, ?_, ?_, ?_, ?_⟩ <;> first | omega | (intros; trivial))

/-- One code point further on: what the package has seen. -/
theorem above_wtf (s : ByteArray) (p : Nat) (hp : p < s.size) (h : (wtfAt (s.extract p s.size)).2 > 0) :
    above s s.size p = if 65535 < (wtfAt (s.extract p s.size)).1 then true else above s s.size (p + (wtfAt (s.extract p s.size)).2.toNat) := by
  by_cases c : (runeAt (s.extract p s.size) 0).2 > 0
  · have e : wtfAt (s.extract p s.size) = runeAt (s.extract p s.size) 0 := by unfold wtfAt; rw [if_pos c]
    have hd := decode_of_rune s p hp c
    have hf := wtf_facts _ h
    rw [e] at hf ⊢
    rw [above_step s p hp, hd]
    have e2 : (((runeAt (s.extract p s.size) 0).1.toNat : Nat) : Int) = (runeAt (s.extract p s.size) 0).1 := by omega
    simp only [e2]
  · have hsz : (s.extract p s.size).size = s.size - p := by simp
    unfold wtfAt at h ⊢
    rw [if_neg c] at h ⊢
    split at h
    · rename_i d
      rw [if_pos d]
      rw [bt_extract s p 0 (by omega) (by omega), bt_extract s p 1 (by omega) (by omega), bt_extract s p 2 (by omega) (by omega)] at d
      rw [bt_extract s p 1 (by omega) (by omega), bt_extract s p 2 (by omega) (by omega)]
      have f0 : (p : Int) + 0 = ((p + 0 : Nat) : Int) := by omega
      have f1 : (p : Int) + 1 = ((p + 1 : Nat) : Int) := by omega
      have f2 : (p : Int) + 2 = ((p + 2 : Nat) : Int) := by omega
      have d1 := decode_cont s (p + 1) (by omega) (by rw [← f1]; omega)
      have d2 := decode_cont s (p + 2) (by omega) (by rw [← f2]; omega)
      have d0 : Utf8.decode s p = (65533, 1) := by
        have g0 := get_bt s p hp
        have g1 := get_bt s (p + 1) (by omega)
        have g2 := get_bt s (p + 2) (by omega)
        obtain ⟨x0, hx0⟩ : ∃ x, (s.get! (p + 0)).toNat = x := ⟨_, rfl⟩
        obtain ⟨x1, hx1⟩ : ∃ x, (s.get! (p + 1)).toNat = x := ⟨_, rfl⟩
        obtain ⟨x2, hx2⟩ : ∃ x, (s.get! (p + 2)).toNat = x := ⟨_, rfl⟩
        obtain ⟨x3, hx3⟩ : ∃ x, (s.get! (p + 3)).toNat = x := ⟨_, rfl⟩
        have y0 : (x0 : Int) = bt s (p : Int) := by rw [← g0, ← hx0]; rfl
        have y1 : (x1 : Int) = bt s ((p + 1 : Nat) : Int) := by rw [← g1, ← hx1]
        have y2 : (x2 : Int) = bt s ((p + 2 : Nat) : Int) := by rw [← g2, ← hx2]
        rw [f0, f1, f2] at d
        simp only [Nat.add_zero] at d
        rw [← y0, ← y1, ← y2] at d
        simp only [Utf8.decode, hx0, hx1, hx2, hx3]
        have a0 : (x0 / 32 == 6 && (decide (p + 1 < s.size) && x1 / 64 == 2)) = false := by
          have : (x0 / 32 == 6) = false := by simp; omega
          rw [this]; rfl
        have a1 : (x0 / 16 == 14 && (decide (p + 1 < s.size) && x1 / 64 == 2) && (decide (p + 2 < s.size) && x2 / 64 == 2)) = true := by
          simp only [Bool.and_eq_true, beq_iff_eq, decide_eq_true_eq]; omega
        have a2 : ¬ (x0 % 16 * 4096 + x1 % 64 * 64 + x2 % 64 ≥ 2048 ∧ Utf8.valid ((x0 % 16 * 4096 + x1 % 64 * 64 + x2 % 64 : Nat) : Int) = true) := by
          simp only [Utf8.valid, Bool.and_eq_true, Bool.or_eq_true, decide_eq_true_eq]; omega
        rw [if_neg (by omega), a0, a1]
        simp only [Bool.false_eq_true, if_false, if_true]
        rw [if_neg (by simpa using a2)]
        rfl
      rw [above_step s p hp, d0]
      simp only []
      rw [if_neg (by omega), above_step s (p + 1) (by omega), d1]
      simp only []
      rw [if_neg (by omega), above_step s (p + 1 + 1) (by omega), d2]
      simp only []
      rw [if_neg (by omega), if_neg (by omega)]
      rfl
    · exact absurd h (by decide)

/-! ### the code units -/
def lead (x : Int) : Prop := 55296 ≤ x ∧ x ≤ 56319
def trail (x : Int) : Prop := 56320 ≤ x ∧ x ≤ 57343
instance (x : Int) : Decidable (lead x) := inferInstanceAs (Decidable (_ ∧ _))
instance (x : Int) : Decidable (trail x) := inferInstanceAs (Decidable (_ ∧ _))
/-- Somewhere a surrogate that leads a pair stands right ahead of one that ends one. -/
def Ast (l : List Int) : Prop := ∃ i a b, l[i]? = some a ∧ l[i + 1]? = some b ∧ lead a ∧ trail b
theorem Ast.append {l m : List Int} (h : Ast l) : Ast (l ++ m) := by
  obtain ⟨i, a, b, ha, hb, h⟩ := h
  have h1 := (List.getElem?_eq_some_iff.1 ha).1
  have h2 := (List.getElem?_eq_some_iff.1 hb).1
  exact ⟨i, a, b, by rw [List.getElem?_append_left h1]; exact ha, by rw [List.getElem?_append_left h2]; exact hb, h⟩
theorem Ast.snoc {l : List Int} {x : Int} (hx : ∀ y, l.getLast? = some y → ¬ (lead y ∧ trail x)) : Ast (l ++ [x]) ↔ Ast l := by
  constructor
  · rintro ⟨i, a, b, ha, hb, h1, h2⟩
    have hlt : i + 1 < (l ++ [x]).length := (List.getElem?_eq_some_iff.1 hb).1
    rw [List.length_append, List.length_singleton] at hlt
    rw [List.getElem?_append_left (by omega)] at ha
    by_cases e : i + 1 < l.length
    · rw [List.getElem?_append_left e] at hb
      exact ⟨i, a, b, ha, hb, h1, h2⟩
    · have ei : i + 1 = l.length := by omega
      rw [List.getElem?_append_right (by omega), ei, Nat.sub_self] at hb
      simp at hb
      subst hb
      refine absurd ⟨h1, h2⟩ (hx a ?_)
      rw [List.getLast?_eq_getElem?, ← ha]
      congr 1
      omega
  · exact Ast.append
theorem Ast.pair {l : List Int} {a b : Int} (h1 : lead a) (h2 : trail b) : Ast (l ++ [a, b]) :=
  ⟨l.length, a, b, by rw [List.getElem?_append_right (by omega), Nat.sub_self]; rfl, by rw [List.getElem?_append_right (by omega), Nat.add_sub_cancel_left]; rfl, h1, h2⟩

theorem between_tells (a b c : Int) : spec_between.f a b c = some (decide (a ≤ b ∧ b ≤ c)) := by
  unfold spec_between.f
  by_cases h : a ≤ b
  · rw [if_pos h]; simp [h]
  · rw [if_neg h]; simp [h]
theorem trail_tells (x : Int) : spec_wtfTrail.f x = some (decide (trail x)) := by
  unfold spec_wtfTrail.f; rw [between_tells]; rfl
theorem lead_tells (x : Int) : spec_wtfLead.f x = some (decide (lead x)) := by
  unfold spec_wtfLead.f; rw [between_tells]; rfl




/-- The reference's list of code units, from place p on: what it has besides the units that were there. -/
theorem units_tells (s : ByteArray) (hs : (s.size : Int) ≤ 2147483647) (d : Nat) : ∀ (p : Nat) (out : List Int) (last : Int) (k : Nat), p ≤ s.size → s.size - p ≤ d → out.length ≤ p →
    (∀ x ∈ out, 0 ≤ x ∧ x ≤ 65535) → (∀ y, out.getLast? = some y → lead y → lead last) → 2 * d + 14 ≤ k →
    ∃ u b, spec_WtfUnits.l0 k (s.extract p s.size) out last = some (u, b) ∧ (b = true → (∀ x ∈ u, 0 ≤ x ∧ x ≤ 65535) ∧ u.length ≤ s.size ∧ (∃ m, u = out ++ m) ∧ (Ast u ↔ (Ast out ∨ above s s.size p = true))) := by
  induction d with
  | zero =>
    intro p out last k hp hd hl hr hy hk
    obtain ⟨k, rfl⟩ : ∃ m, k = m + 1 := ⟨k - 1, by omega⟩
    have hsz : (s.extract p s.size).size = s.size - p := by simp
    refine ⟨out, true, by simp only [spec_WtfUnits.l0]; rw [if_neg (by omega)], fun _ => ⟨hr, by omega, ⟨[], by simp⟩, ?_⟩⟩
    rw [above_end s _ p (by omega)]; simp
  | succ d ih =>
    intro p out last k hp hd hl hr hy hk
    obtain ⟨k, rfl⟩ : ∃ m, k = m + 1 := ⟨k - 1, by omega⟩
    have hsz : (s.extract p s.size).size = s.size - p := by simp
    by_cases he : p < s.size
    case neg =>
      refine ⟨out, true, by simp only [spec_WtfUnits.l0]; rw [if_neg (by omega)], fun _ => ⟨hr, by omega, ⟨[], by simp⟩, ?_⟩⟩
      rw [above_end s _ p (by omega)]; simp
    case pos =>
    obtain ⟨k, rfl⟩ : ∃ m, k = m + 12 := ⟨k - 12, by omega⟩
    simp only [spec_WtfUnits.l0]
    rw [if_pos (by omega), wtf_tells _ (by omega) k]
    simp only [Option.bind_some]
    by_cases h0 : (wtfAt (s.extract p s.size)).2 = 0
    · rw [if_pos h0]
      simp only [spec_WtfUnits.j1, if_true]
      exact ⟨[], false, rfl, fun h => by cases h⟩
    rw [if_neg h0]
    have hpos : (wtfAt (s.extract p s.size)).2 > 0 := by
      unfold wtfAt
      unfold wtfAt at h0
      split
      · assumption
      · split
        · show (3 : Int) > 0
          omega
        · rename_i a b; rw [if_neg a, if_neg b] at h0; exact absurd rfl h0
    have hf := wtf_facts _ hpos
    have hab := above_wtf s p he hpos
    generalize wtfAt (s.extract p s.size) = rn at h0 hpos hf hab ⊢
    obtain ⟨r, n⟩ := rn
    simp only [] at h0 hpos hf hab ⊢
    obtain ⟨hf1, hf2, hf3, hf4, hf5, hf6⟩ := hf
    rw [hsz] at hf4
    by_cases hbad : n = 3 ∧ trail r ∧ lead last
    · rw [if_pos hbad.1, trail_tells, lead_tells]
      simp only [Option.bind_some, hbad.2.1, hbad.2.2, decide_true, if_true]
      simp only [spec_WtfUnits.j1, if_true]
      exact ⟨[], false, rfl, fun h => by cases h⟩
    have hj : (if n = 3 then ((spec_wtfTrail.f r).bind fun t107 => (if t107 = true then ((spec_wtfLead.f last).bind fun t108 => (spec_WtfUnits.j1 (k + 12) (s.extract p s.size) out r n t108)) else (spec_WtfUnits.j1 (k + 12) (s.extract p s.size) out r n false))) else (spec_WtfUnits.j1 (k + 12) (s.extract p s.size) out r n false)) = spec_WtfUnits.j1 (k + 12) (s.extract p s.size) out r n false := by
      by_cases c3 : n = 3
      · rw [if_pos c3, trail_tells]
        simp only [Option.bind_some]
        by_cases ct : trail r
        · simp only [ct, decide_true, if_true]
          rw [lead_tells]
          have : ¬ lead last := fun h => hbad ⟨c3, ct, h⟩
          simp [this]
        · simp [ct]
      · rw [if_neg c3]
    rw [hj]
    obtain ⟨n', rfl⟩ : ∃ m : Nat, n = (m : Int) := ⟨n.toNat, by omega⟩
    have hext : (s.extract p s.size).extract ((n' : Int)).toNat (s.size - p) = s.extract (p + n') s.size := by
      rw [ByteArray.extract_extract]
      congr 1
      omega
    simp only [spec_WtfUnits.j1, Bool.false_eq_true, if_false, hext, hsz]
    rw [Int.toNat_natCast] at hab
    by_cases hbig : r ≥ 65536
    · rw [if_pos hbig]
      have e1 : wrap64 (r - 65536) = r - 65536 := w64 (by omega) (by omega)
      have e2 : wrap64 (55296 + (r - 65536) / 1024) = 55296 + (r - 65536) / 1024 := w64 (by omega) (by omega)
      have e3 : Go.bits .and .i64 (r - 65536) 1023 = (r - 65536) % 1024 := bits_mask .i64 63 (by decide) wraps_i64' 10 (by decide) _ (by omega) (by omega)
      have e4 : wrap64 (56320 + (r - 65536) % 1024) = 56320 + (r - 65536) % 1024 := w64 (by omega) (by omega)
      have e5 : IntKind.u16.wrap (55296 + (r - 65536) / 1024) = 55296 + (r - 65536) / 1024 := by simp [IntKind.wrap, IntKind.bits, IntKind.signed]; omega
      have e6 : IntKind.u16.wrap (56320 + (r - 65536) % 1024) = 56320 + (r - 65536) % 1024 := by simp [IntKind.wrap, IntKind.bits, IntKind.signed]; omega
      simp only [e1, e2, e3, e4, e5, e6, Option.bind_some, List.length_cons, List.length_nil]
      rw [if_pos (by omega), if_pos (by omega), if_pos (by omega)]
      have h2 := hf5 (by omega)
      obtain ⟨u, b, hu, hb⟩ := ih (p + n') (out ++ [55296 + (r - 65536) / 1024, 56320 + (r - 65536) % 1024]) r (k + 11) (by omega) (by omega) (by simp; omega)
        (by intro x hx; simp only [List.mem_append, List.mem_cons, List.not_mem_nil, or_false] at hx; rcases hx with hx | hx | hx
            · exact hr x hx
            · omega
            · omega)
        (by intro y hy2 hl2
            have e7 : out ++ [55296 + (r - 65536) / 1024, 56320 + (r - 65536) % 1024] = (out ++ [55296 + (r - 65536) / 1024]) ++ [56320 + (r - 65536) % 1024] := by simp
            rw [e7, List.getLast?_concat] at hy2
            obtain rfl := Option.some.inj hy2
            unfold lead at hl2; omega) (by omega)
      refine ⟨u, b, hu, fun hbt => ?_⟩
      obtain ⟨q1, q2, ⟨m, q3⟩, q4⟩ := hb hbt
      refine ⟨q1, q2, ⟨[55296 + (r - 65536) / 1024, 56320 + (r - 65536) % 1024] ++ m, by rw [q3, List.append_assoc]⟩, ?_⟩
      rw [hab, if_pos (by omega)]
      have hA : Ast u := by rw [q3]; exact (Ast.pair (by unfold lead; omega) (by unfold trail; omega)).append
      exact ⟨fun _ => .inr rfl, fun _ => hA⟩
    · rw [if_neg hbig]
      have e1 : IntKind.u16.wrap r = r := by simp [IntKind.wrap, IntKind.bits, IntKind.signed]; omega
      rw [e1, if_pos (by omega), if_pos (by omega), if_pos (by omega)]
      have hnl : ∀ y, out.getLast? = some y → ¬ (lead y ∧ trail r) := by
        rintro y hy2 ⟨h1, h2⟩
        exact hbad ⟨hf6 (by unfold trail at h2; omega) (by unfold trail at h2; omega), h2, hy y hy2 h1⟩
      obtain ⟨u, b, hu, hb⟩ := ih (p + n') (out ++ [r]) r (k + 11) (by omega) (by omega) (by simp; omega)
        (by intro x hx; simp only [List.mem_append, List.mem_cons, List.not_mem_nil, or_false] at hx; rcases hx with hx | hx
            · exact hr x hx
            · omega)
        (by intro y hy2 hl2
            rw [List.getLast?_concat] at hy2
            obtain rfl := Option.some.inj hy2
            exact hl2) (by omega)
      refine ⟨u, b, hu, fun hbt => ?_⟩
      obtain ⟨q1, q2, ⟨m, q3⟩, q4⟩ := hb hbt
      refine ⟨q1, q2, ⟨[r] ++ m, by rw [q3, List.append_assoc]⟩, ?_⟩
      rw [q4, hab, if_neg (by omega), Ast.snoc hnl]

/-! ### the reference's test -/
theorem rd_at {l : List Int} {i : Nat} {a : Int} (h : l[i]? = some a) : rd l (i : Int) = a := by
  unfold rd; simp [List.getD_eq_getElem?_getD, h]
theorem astral_tells (l : List Int) (hr : ∀ x ∈ l, 0 ≤ x ∧ x ≤ 65535) (hl : (l.length : Int) ≤ 2147483647) (d : Nat) : ∀ (i k : Nat), i ≤ l.length → l.length - i ≤ d → d < k →
    ∃ r, spec_WtfAstral.l0 k l (i : Int) = some r ∧ (r = true ↔ ∃ j a b, i ≤ j ∧ l[j]? = some a ∧ l[j + 1]? = some b ∧ lead a ∧ trail b) := by
  induction d with
  | zero =>
    intro i k hi hd hk
    obtain ⟨k, rfl⟩ : ∃ m, k = m + 1 := ⟨k - 1, by omega⟩
    refine ⟨false, by simp only [spec_WtfAstral.l0]; rw [if_neg (by omega)], ?_⟩
    constructor
    · intro h; cases h
    · rintro ⟨j, a, b, hj, ha, _⟩
      have := (List.getElem?_eq_some_iff.1 ha).1
      omega
  | succ d ih =>
    intro i k hi hd hk
    obtain ⟨k, rfl⟩ : ∃ m, k = m + 1 := ⟨k - 1, by omega⟩
    by_cases he : i < l.length
    case neg =>
      refine ⟨false, by simp only [spec_WtfAstral.l0]; rw [if_neg (by omega)], ?_⟩
      constructor
      · intro h; cases h
      · rintro ⟨j, a, b, hj, ha, _⟩
        have := (List.getElem?_eq_some_iff.1 ha).1
        omega
    case pos =>
    have hw : wrap64 ((i : Int) + 1) = ((i + 1 : Nat) : Int) := by rw [w64 (by omega) (by omega)]; omega
    obtain ⟨r, hr1, hr2⟩ := ih (i + 1) k (by omega) (by omega) (by omega)
    have ha : l[i]? = some l[i] := List.getElem?_eq_getElem he
    have hra := hr l[i] (List.getElem_mem he)
    have hpair : ∃ x, spec_wtfPair.f l (i : Int) = some (x, decide (lead l[i] ∧ ∃ b, l[i + 1]? = some b ∧ trail b)) := by
      unfold spec_wtfPair.f
      rw [hw]
      by_cases h1 : i + 1 < l.length
      · have hb : l[i + 1]? = some l[i + 1] := List.getElem?_eq_getElem h1
        have hrb := hr l[i + 1] (List.getElem_mem h1)
        rw [if_neg (by omega), if_pos (by omega), if_pos (by omega), rd_at ha, w64 (by omega) (by omega), lead_tells]
        simp only [Option.bind_some]
        by_cases c1 : lead l[i]
        · rw [if_pos (by simpa using c1), if_pos (by omega), if_pos (by omega), rd_at hb, w64 (by omega) (by omega), trail_tells]
          simp only [Option.bind_some]
          by_cases c2 : trail l[i + 1]
          · rw [if_pos (by simpa using c2)]
            rw [decide_eq_true ⟨c1, _, hb, c2⟩]
            exact ⟨_, rfl⟩
          · rw [if_neg (by simpa using c2)]
            refine ⟨0, ?_⟩
            rw [decide_eq_false]
            rintro ⟨_, b, hb2, h⟩
            rw [hb] at hb2
            obtain rfl := Option.some.inj hb2
            exact c2 h
        · rw [if_neg (by simpa using c1)]
          refine ⟨0, ?_⟩
          rw [decide_eq_false (fun h => c1 h.1)]
      · rw [if_pos (by omega)]
        refine ⟨0, ?_⟩
        rw [decide_eq_false]
        rintro ⟨_, b, hb2, h⟩
        have := (List.getElem?_eq_some_iff.1 hb2).1
        omega
    obtain ⟨x, hx⟩ := hpair
    simp only [spec_WtfAstral.l0]
    rw [if_pos (by omega), hx]
    simp only [Option.bind_some]
    by_cases c : lead l[i] ∧ ∃ b, l[i + 1]? = some b ∧ trail b
    · rw [if_pos (by simpa using c)]
      obtain ⟨c1, b, c2, c3⟩ := c
      exact ⟨true, rfl, fun _ => ⟨i, _, b, Nat.le_refl _, ha, c2, c1, c3⟩, fun _ => rfl⟩
    · rw [if_neg (by simpa using c), hw]
      refine ⟨r, hr1, hr2.trans ?_⟩
      constructor
      · rintro ⟨j, a, b, hj, h⟩; exact ⟨j, a, b, by omega, h⟩
      · rintro ⟨j, a, b, hj, h1, h2, h3, h4⟩
        by_cases e : j = i
        · subst e
          rw [ha] at h1
          obtain rfl := Option.some.inj h1
          exact absurd ⟨h3, b, h2, h4⟩ c
        · exact ⟨j, a, b, by omega, h1, h2, h3, h4⟩

theorem FnNonBMP : laws_FnNonBMP.Pure := by
  intro s hs
  refine ⟨2 * s.size + 15, ?_⟩
  unfold laws_FnNonBMP.f
  by_cases hbig : (s.size : Int) > 2147483647
  · rw [if_pos hbig]
  rw [if_neg hbig]
  have hx : s.extract 0 s.size = s := by simp
  obtain ⟨u, b, hu, hb⟩ := units_tells s (by omega) s.size 0 [] 0 (2 * s.size + 15) (by omega) (by omega) (by simp) (by simp) (by simp) (by omega)
  rw [hx] at hu
  have hawake : impl_HasNonBMP.f (⟨#[97, 240, 159, 152, 128]⟩ : ByteArray) = some true := by decide +kernel
  have himpl : impl_HasNonBMP.f s = some (above s s.size 0) := rfl
  unfold spec_WtfUnits.f
  rw [hu, hawake, himpl]
  simp only [Option.bind_some]
  cases b with
  | false => simp
  | true =>
    obtain ⟨q1, q2, _, q4⟩ := hb rfl
    obtain ⟨r, hr1, hr2⟩ := astral_tells u q1 (by omega) u.length 0 (2 * s.size + 15) (by omega) (by omega) (by omega)
    unfold spec_WtfAstral.f
    have e0 : ((0 : Nat) : Int) = 0 := rfl
    rw [e0] at hr1
    rw [hr1]
    have hA : r = true ↔ above s s.size 0 = true := by
      rw [hr2]
      have h0 : ¬ Ast [] := by rintro ⟨i, a, b, ha, _⟩; simp at ha
      have : Ast u ↔ above s s.size 0 = true := by rw [q4]; simp [h0]
      rw [← this]
      constructor
      · rintro ⟨j, a, b, _, h⟩; exact ⟨j, a, b, h⟩
      · rintro ⟨j, a, b, h⟩; exact ⟨j, a, b, Nat.zero_le _, h⟩
    have hE : above s s.size 0 = r := by
      cases r <;> cases hq : above s s.size 0 <;> simp_all
    rw [hE]
    simp

end Go.Proofs.YtkdinhbfidckdaaR.Pure
