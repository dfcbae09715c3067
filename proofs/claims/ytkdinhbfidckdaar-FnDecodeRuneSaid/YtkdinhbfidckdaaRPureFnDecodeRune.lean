/- The first code point of a text that begins with a whole one, by generalized UTF-8, is what the package reads there, with its number of bytes; of an empty text it gives U+FFFD and 0. No condition. -/
import Derived.Test.YtkdinhbfidckdaaRPFnDecodeRunex3
import Derived.Laws.BitsLemmas
import Derived.Laws.RangeAny
namespace Go.Proofs.YtkdinhbfidckdaaR.Pure
open Go Go.RowKit Go.Proofs.YtkdinhbfidckdaaR.PFnDecodeRune Go.Proofs.YtkdinhbfidckdaaRW.PrintWords Go.Proofs.YtkdinhbfidckdaaRW.PrintLast

set_option linter.unusedSectionVars false
/-! ### single bytes -/
theorem byte_cont64 : ∀ m : Fin 256, (Go.bits .and .i64 (m.val : Int) 192 = 128) ↔ (128 ≤ (m.val : Int) ∧ (m.val : Int) < 192) := by decide +kernel
theorem byte_low64 : ∀ m : Fin 256, Go.bits .and .i64 (m.val : Int) 63 = (m.val : Int) % 64 ∧ Go.bits .and .i64 (m.val : Int) 31 = (m.val : Int) % 32 ∧ Go.bits .and .i64 (m.val : Int) 15 = (m.val : Int) % 16 ∧ Go.bits .and .i64 (m.val : Int) 7 = (m.val : Int) % 8 := by decide +kernel
theorem byte_cont8 : ∀ m : Fin 256, (Go.bits .and .u8 (m.val : Int) 192 = 128) ↔ (128 ≤ (m.val : Int) ∧ (m.val : Int) < 192) := by decide +kernel
theorem fin_of {x : Int} (h0 : 0 ≤ x) (h1 : x ≤ 255) : ∃ m : Fin 256, (m.val : Int) = x := ⟨⟨x.toNat, by omega⟩, by simp; omega⟩
theorem cont64 {x : Int} (h0 : 0 ≤ x) (h1 : x ≤ 255) : (Go.bits .and .i64 x 192 = 128) ↔ (128 ≤ x ∧ x < 192) := by
  obtain ⟨m, rfl⟩ := fin_of h0 h1; exact byte_cont64 m
theorem low64 {x : Int} (h0 : 0 ≤ x) (h1 : x ≤ 255) : Go.bits .and .i64 x 63 = x % 64 ∧ Go.bits .and .i64 x 31 = x % 32 ∧ Go.bits .and .i64 x 15 = x % 16 ∧ Go.bits .and .i64 x 7 = x % 8 := by
  obtain ⟨m, rfl⟩ := fin_of h0 h1; exact byte_low64 m
theorem cont8 {x : Int} (h0 : 0 ≤ x) (h1 : x ≤ 255) : (Go.bits .and .u8 x 192 = 128) ↔ (128 ≤ x ∧ x < 192) := by
  obtain ⟨m, rfl⟩ := fin_of h0 h1; exact byte_cont8 m
theorem wraps_i64' (n : Int) (h₀ : 0 ≤ n) (h₁ : n < 2 ^ 63) : IntKind.i64.wrap n = n := by rw [IntKind.wrap_i64]; omega
theorem or64 {x y : Int} (i : Nat) (hx0 : 0 ≤ x) (hx : x % 2 ^ i = 0) (hx1 : x < 2 ^ 63) (hy0 : 0 ≤ y) (hy : y < 2 ^ i) (hy1 : y < 2 ^ 63) : Go.bits .or .i64 x y = x + y :=
  bits_join .i64 63 (by decide) wraps_i64' i x y hx0 hx hx1 hy0 hy hy1
theorem w64 {x : Int} (h0 : 0 ≤ x) (h1 : x < 9223372036854775808) : wrap64 x = x := by unfold wrap64; omega
theorem w32 {x : Int} (h0 : 0 ≤ x) (h1 : x < 2147483648) : wrap32 x = x := by unfold wrap32; omega

/-! ### the reference's reader of one code point, closed -/
/-- The code point that stands at place i, and how many bytes it has; 0 bytes: there is no whole one. -/
def runeOf (n b0 b1 b2 b3 : Int) : Int × Int :=
  if b0 < 128 then (b0, 1)
  else if 194 ≤ b0 ∧ b0 ≤ 223 then (if 2 ≤ n ∧ 128 ≤ b1 ∧ b1 < 192 then (b0 % 32 * 64 + b1 % 64, 2) else (0, 0))
  else if 224 ≤ b0 ∧ b0 ≤ 239 then (if 3 ≤ n ∧ (128 ≤ b1 ∧ b1 < 192) ∧ (128 ≤ b2 ∧ b2 < 192) ∧ 2048 ≤ (b0 % 16 * 64 + b1 % 64) * 64 + b2 % 64 ∧ ¬ (55296 ≤ (b0 % 16 * 64 + b1 % 64) * 64 + b2 % 64 ∧ (b0 % 16 * 64 + b1 % 64) * 64 + b2 % 64 ≤ 57343) then ((b0 % 16 * 64 + b1 % 64) * 64 + b2 % 64, 3) else (0, 0))
  else if 240 ≤ b0 ∧ b0 ≤ 244 then (if 4 ≤ n ∧ (128 ≤ b1 ∧ b1 < 192) ∧ (128 ≤ b2 ∧ b2 < 192) ∧ (128 ≤ b3 ∧ b3 < 192) ∧ 65536 ≤ ((b0 % 8 * 64 + b1 % 64) * 64 + b2 % 64) * 64 + b3 % 64 ∧ ((b0 % 8 * 64 + b1 % 64) * 64 + b2 % 64) * 64 + b3 % 64 ≤ 1114111 then (((b0 % 8 * 64 + b1 % 64) * 64 + b2 % 64) * 64 + b3 % 64, 4) else (0, 0))
  else (0, 0)
def runeAt (s : ByteArray) (i : Int) : Int × Int := if i < 0 ∨ i ≥ (s.size : Int) then (0, 0) else runeOf ((s.size : Int) - i) (bt s i) (bt s (i + 1)) (bt s (i + 2)) (bt s (i + 3))

section
variable {s : ByteArray} {i : Int} (hs : s.size ≤ 140737488351232) (h0 : 0 ≤ i) (h1 : i < (s.size : Int))
include hs h0 h1
theorem l0_step {k : Nat} {n r least j : Int} (hj0 : 0 ≤ j) (hj4 : j < 4) (hj : j < n) (hb : i + j < (s.size : Int)) (hr0 : 0 ≤ r) (hr1 : r < 2097152) (hc : 128 ≤ bt s (i + j) ∧ bt s (i + j) < 192) :
    spec_Rune.l0 (k + 1) s i n r least j = spec_Rune.l0 k s i n (r * 64 + bt s (i + j) % 64) least (j + 1) := by
  have hbt := bt_range s (i + j)
  have e1 : wrap64 (i + j) = i + j := w64 (by omega) (by omega)
  have e2 : wrap64 (bt s (i + j)) = bt s (i + j) := w64 (by omega) (by omega)
  have e3 : wrap64 (r * 64) = r * 64 := w64 (by omega) (by omega)
  have e4 : wrap64 (j + 1) = j + 1 := w64 (by omega) (by omega)
  have e5 := (low64 hbt.1 hbt.2).1
  simp only [spec_Rune.l0, e1, e2, e3, e4, e5]
  rw [if_pos hj, if_pos (by omega), if_pos hb, if_pos ((cont64 hbt.1 hbt.2).2 hc), or64 6 (by omega) (by omega) (by omega) (by omega) (by omega) (by omega)]
theorem l0_bad {k : Nat} {n r least j : Int} (hj0 : 0 ≤ j) (hj4 : j < 4) (hj : j < n) (hb : i + j < (s.size : Int)) (hc : ¬ (128 ≤ bt s (i + j) ∧ bt s (i + j) < 192)) :
    spec_Rune.l0 (k + 1) s i n r least j = some (0, 0) := by
  have hbt := bt_range s (i + j)
  have e1 : wrap64 (i + j) = i + j := w64 (by omega) (by omega)
  have e2 : wrap64 (bt s (i + j)) = bt s (i + j) := w64 (by omega) (by omega)
  simp only [spec_Rune.l0, e1, e2]
  rw [if_pos hj, if_pos (by omega), if_pos hb, if_neg (fun h => hc ((cont64 hbt.1 hbt.2).1 h))]
theorem l0_end {k : Nat} {n r least j : Int} (hj : ¬ j < n) :
    spec_Rune.l0 (k + 1) s i n r least j = some (if least ≤ r ∧ r ≤ 1114111 ∧ ¬ (55296 ≤ r ∧ r ≤ 57343) then (r, n) else (0, 0)) := by
  simp only [spec_Rune.l0]
  rw [if_neg hj]
  by_cases c1 : r < least
  · rw [if_pos c1, if_neg (by omega)]
  · rw [if_neg c1]
    by_cases c2 : r > 1114111
    · rw [if_pos c2, if_neg (by omega)]
    · rw [if_neg c2]
      by_cases c3 : r ≥ 55296
      · rw [if_pos c3]
        by_cases c4 : r ≤ 57343
        · rw [if_pos c4, if_neg (by omega)]
        · rw [if_neg c4, if_pos (by omega)]
      · rw [if_neg c3, if_pos (by omega)]
theorem j3_short {k : Nat} {n r least : Int} (hn : n ≠ 0) (hn4 : 0 ≤ n ∧ n ≤ 4) (hb : (s.size : Int) < i + n) : spec_Rune.j3 (k + 2) s i n r least = some (0, 0) := by
  have e1 : wrap64 (i + n) = i + n := w64 (by omega) (by omega)
  simp only [spec_Rune.j3, spec_Rune.j4, e1]
  rw [if_neg hn, if_pos (by simpa using hb)]
theorem j3_long {k : Nat} {n r least : Int} (hn : n ≠ 0) (hn4 : 0 ≤ n ∧ n ≤ 4) (hb : i + n ≤ (s.size : Int)) : spec_Rune.j3 (k + 2) s i n r least = spec_Rune.l0 k s i n r least 1 := by
  have e1 : wrap64 (i + n) = i + n := w64 (by omega) (by omega)
  simp only [spec_Rune.j3, spec_Rune.j4, e1]
  rw [if_neg hn, if_neg (by simp; omega)]

theorem rune_two (k : Nat) (r : Int) (hr : 0 ≤ r ∧ r < 32) (hr2 : 2 ≤ r) : spec_Rune.j3 (k + 4) s i 2 r 128 =
    some (if 2 ≤ (s.size : Int) - i ∧ 128 ≤ bt s (i + 1) ∧ bt s (i + 1) < 192 then (r * 64 + bt s (i + 1) % 64, 2) else (0, 0)) := by
  by_cases hb : i + 2 ≤ (s.size : Int)
  · rw [j3_long hs h0 h1 (by omega) (by omega) hb]
    by_cases hc : 128 ≤ bt s (i + 1) ∧ bt s (i + 1) < 192
    · rw [l0_step hs h0 h1 (by omega) (by omega) (by omega) (by omega) (by omega) (by omega) hc, l0_end hs h0 h1 (by omega), if_pos (by omega), if_pos (by omega)]
    · rw [l0_bad hs h0 h1 (by omega) (by omega) (by omega) (by omega) hc, if_neg (by omega)]
  · rw [j3_short hs h0 h1 (by omega) (by omega) (by omega), if_neg (by omega)]
theorem rune_three (k : Nat) (r : Int) (hr : 0 ≤ r ∧ r < 16) : spec_Rune.j3 (k + 5) s i 3 r 2048 =
    some (if 3 ≤ (s.size : Int) - i ∧ (128 ≤ bt s (i + 1) ∧ bt s (i + 1) < 192) ∧ (128 ≤ bt s (i + 2) ∧ bt s (i + 2) < 192) ∧ 2048 ≤ (r * 64 + bt s (i + 1) % 64) * 64 + bt s (i + 2) % 64 ∧ ¬ (55296 ≤ (r * 64 + bt s (i + 1) % 64) * 64 + bt s (i + 2) % 64 ∧ (r * 64 + bt s (i + 1) % 64) * 64 + bt s (i + 2) % 64 ≤ 57343) then ((r * 64 + bt s (i + 1) % 64) * 64 + bt s (i + 2) % 64, 3) else (0, 0)) := by
  by_cases hb : i + 3 ≤ (s.size : Int)
  · rw [j3_long hs h0 h1 (by omega) (by omega) hb]
    by_cases hc : 128 ≤ bt s (i + 1) ∧ bt s (i + 1) < 192
    · rw [l0_step hs h0 h1 (by omega) (by omega) (by omega) (by omega) (by omega) (by omega) hc]
      have e : (1 : Int) + 1 = 2 := rfl
      rw [e]
      by_cases hd : 128 ≤ bt s (i + 2) ∧ bt s (i + 2) < 192
      · rw [l0_step hs h0 h1 (by omega) (by omega) (by omega) (by omega) (by omega) (by omega) hd, l0_end hs h0 h1 (by omega)]
        by_cases hz : 2048 ≤ (r * 64 + bt s (i + 1) % 64) * 64 + bt s (i + 2) % 64 ∧ ¬ (55296 ≤ (r * 64 + bt s (i + 1) % 64) * 64 + bt s (i + 2) % 64 ∧ (r * 64 + bt s (i + 1) % 64) * 64 + bt s (i + 2) % 64 ≤ 57343)
        · rw [if_pos (by omega), if_pos ⟨by omega, hc, hd, hz⟩]
        · rw [if_neg (by omega), if_neg (fun h => hz h.2.2.2)]
      · rw [l0_bad hs h0 h1 (by omega) (by omega) (by omega) (by omega) hd, if_neg (fun h => hd h.2.2.1)]
    · rw [l0_bad hs h0 h1 (by omega) (by omega) (by omega) (by omega) hc, if_neg (fun h => hc h.2.1)]
  · rw [j3_short hs h0 h1 (by omega) (by omega) (by omega), if_neg (by omega)]
theorem rune_four (k : Nat) (r : Int) (hr : 0 ≤ r ∧ r < 8) : spec_Rune.j3 (k + 6) s i 4 r 65536 =
    some (if 4 ≤ (s.size : Int) - i ∧ (128 ≤ bt s (i + 1) ∧ bt s (i + 1) < 192) ∧ (128 ≤ bt s (i + 2) ∧ bt s (i + 2) < 192) ∧ (128 ≤ bt s (i + 3) ∧ bt s (i + 3) < 192) ∧ 65536 ≤ ((r * 64 + bt s (i + 1) % 64) * 64 + bt s (i + 2) % 64) * 64 + bt s (i + 3) % 64 ∧ ((r * 64 + bt s (i + 1) % 64) * 64 + bt s (i + 2) % 64) * 64 + bt s (i + 3) % 64 ≤ 1114111 then (((r * 64 + bt s (i + 1) % 64) * 64 + bt s (i + 2) % 64) * 64 + bt s (i + 3) % 64, 4) else (0, 0)) := by
  by_cases hb : i + 4 ≤ (s.size : Int)
  · rw [j3_long hs h0 h1 (by omega) (by omega) hb]
    by_cases hc : 128 ≤ bt s (i + 1) ∧ bt s (i + 1) < 192
    · rw [l0_step hs h0 h1 (by omega) (by omega) (by omega) (by omega) (by omega) (by omega) hc]
      have e : (1 : Int) + 1 = 2 := rfl
      rw [e]
      by_cases hd : 128 ≤ bt s (i + 2) ∧ bt s (i + 2) < 192
      · rw [l0_step hs h0 h1 (by omega) (by omega) (by omega) (by omega) (by omega) (by omega) hd]
        have e : (2 : Int) + 1 = 3 := rfl
        rw [e]
        by_cases hf : 128 ≤ bt s (i + 3) ∧ bt s (i + 3) < 192
        · rw [l0_step hs h0 h1 (by omega) (by omega) (by omega) (by omega) (by omega) (by omega) hf, l0_end hs h0 h1 (by omega)]
          by_cases hz : 65536 ≤ ((r * 64 + bt s (i + 1) % 64) * 64 + bt s (i + 2) % 64) * 64 + bt s (i + 3) % 64 ∧ ((r * 64 + bt s (i + 1) % 64) * 64 + bt s (i + 2) % 64) * 64 + bt s (i + 3) % 64 ≤ 1114111
          · rw [if_pos (by omega), if_pos ⟨by omega, hc, hd, hf, hz⟩]
          · rw [if_neg (by omega), if_neg (fun h => hz h.2.2.2.2)]
        · rw [l0_bad hs h0 h1 (by omega) (by omega) (by omega) (by omega) hf, if_neg (fun h => hf h.2.2.2.1)]
      · rw [l0_bad hs h0 h1 (by omega) (by omega) (by omega) (by omega) hd, if_neg (fun h => hd h.2.2.1)]
    · rw [l0_bad hs h0 h1 (by omega) (by omega) (by omega) (by omega) hc, if_neg (fun h => hc h.2.1)]
  · rw [j3_short hs h0 h1 (by omega) (by omega) (by omega), if_neg (by omega)]
end

theorem rune_tells (s : ByteArray) (hs : s.size ≤ 140737488351232) (i : Int) (k : Nat) : spec_Rune.f (k + 12) s i = some (runeAt s i) := by
  unfold spec_Rune.f runeAt
  by_cases h0 : i < 0
  · rw [if_pos h0, if_pos (Or.inl h0)]
    simp only [spec_Rune.j0, if_true]
  · rw [if_neg h0]
    by_cases h1 : i ≥ (s.size : Int)
    · rw [if_pos (Or.inr h1), decide_eq_true h1]
      simp only [spec_Rune.j0, if_true]
    · rw [if_neg (by omega), decide_eq_false h1]
      have hb := bt_range s i
      have e2 : wrap64 (bt s i) = bt s i := w64 (by omega) (by omega)
      have hl := low64 hb.1 hb.2
      simp only [spec_Rune.j0, e2, Bool.false_eq_true, if_false]
      rw [if_pos (by omega), if_pos (by omega)]
      unfold runeOf
      by_cases c0 : bt s i < 128
      · rw [if_pos c0, if_pos c0]
      rw [if_neg c0, if_neg c0]
      by_cases c1 : 194 ≤ bt s i ∧ bt s i ≤ 223
      · rw [if_pos c1, if_pos (show bt s i ≥ 194 from c1.1), decide_eq_true c1.2]
        simp only [spec_Rune.j1, if_true, hl.2.1]
        exact rune_two hs (by omega) (by omega) _ _ (by omega) (by omega)
      rw [if_neg c1]
      have e3 : (if bt s i ≥ 194 then spec_Rune.j1 (k + 11) s i (bt s i) 0 0 0 (decide (bt s i ≤ 223)) else spec_Rune.j1 (k + 11) s i (bt s i) 0 0 0 false) = spec_Rune.j1 (k + 11) s i (bt s i) 0 0 0 false := by
        by_cases c : bt s i ≥ 194
        · rw [if_pos c, decide_eq_false (by omega)]
        · rw [if_neg c]
      rw [e3]
      simp only [spec_Rune.j1, Bool.false_eq_true, if_false]
      by_cases c2 : 224 ≤ bt s i ∧ bt s i ≤ 239
      · rw [if_pos c2, if_pos (show bt s i ≥ 224 from c2.1), decide_eq_true c2.2]
        simp only [spec_Rune.j2, if_true, hl.2.2.1]
        exact rune_three hs (by omega) (by omega) _ _ (by omega)
      rw [if_neg c2]
      have e4 : (if bt s i ≥ 224 then spec_Rune.j2 (k + 10) s i (bt s i) 0 0 0 (decide (bt s i ≤ 239)) else spec_Rune.j2 (k + 10) s i (bt s i) 0 0 0 false) = spec_Rune.j2 (k + 10) s i (bt s i) 0 0 0 false := by
        by_cases c : bt s i ≥ 224
        · rw [if_pos c, decide_eq_false (by omega)]
        · rw [if_neg c]
      rw [e4]
      simp only [spec_Rune.j2, Bool.false_eq_true, if_false]
      by_cases c3 : 240 ≤ bt s i ∧ bt s i ≤ 244
      · rw [if_pos c3, if_pos (show bt s i ≥ 240 from c3.1), if_pos c3.2]
        simp only [hl.2.2.2]
        exact rune_four hs (by omega) (by omega) _ _ (by omega)
      · rw [if_neg c3]
        have e5 : ∀ x : Option (Int × Int), (if bt s i ≥ 240 then (if bt s i ≤ 244 then x else spec_Rune.j3 (k + 9) s i 0 0 0) else spec_Rune.j3 (k + 9) s i 0 0 0) = spec_Rune.j3 (k + 9) s i 0 0 0 := by
          intro x
          by_cases c : bt s i ≥ 240
          · rw [if_pos c, if_neg (by omega)]
          · rw [if_neg c]
        rw [e5]
        simp only [spec_Rune.j3, spec_Rune.j4, if_true]
/-! ### the reference's reader of one code point of WTF-8, closed -/
def wtfAt (s : ByteArray) : Int × Int :=
  if (runeAt s 0).2 > 0 then runeAt s 0
  else if 3 ≤ (s.size : Int) ∧ bt s 0 = 237 ∧ 160 ≤ bt s 1 ∧ bt s 1 ≤ 191 ∧ 128 ≤ bt s 2 ∧ bt s 2 < 192 then (53248 + bt s 1 % 64 * 64 + bt s 2 % 64, 3) else (0, 0)
theorem low8 {x : Int} (h0 : 0 ≤ x) (h1 : x ≤ 255) : Go.bits .and .u8 x 63 = x % 64 := u8_and63 x h0 (by omega)
theorem wtf_tells (s : ByteArray) (hs : s.size ≤ 140737488351232) (k : Nat) : spec_WtfRune.f (k + 12) s = some (wtfAt s) := by
  unfold spec_WtfRune.f wtfAt
  rw [rune_tells s hs]
  simp only [Option.bind_some]
  by_cases c : (runeAt s 0).2 > 0
  · rw [if_pos c, if_pos c]
  rw [if_neg c, if_neg c]
  by_cases c3 : (s.size : Int) < 3
  · rw [if_pos c3, if_neg (by omega)]
  rw [if_neg c3, if_pos (by omega)]
  by_cases c4 : bt s 0 = 237
  · rw [if_pos c4, if_pos (by omega)]
    have h1 := bt_range s 1
    have h2 := bt_range s 2
    by_cases c5 : bt s 1 < 160
    · rw [if_pos c5, if_neg (by omega)]
    rw [if_neg c5]
    by_cases c6 : bt s 1 > 191
    · rw [if_pos c6, if_neg (by omega)]
    rw [if_neg c6, if_pos (by omega)]
    by_cases c7 : 128 ≤ bt s 2 ∧ bt s 2 < 192
    · rw [if_pos ((cont8 h2.1 h2.2).2 c7), if_pos ⟨by omega, c4, by omega, by omega, c7⟩]
      rw [low8 h1.1 h1.2, low8 h2.1 h2.2]
      rw [w64 (x := bt s 1 % 64) (by omega) (by omega), w64 (x := bt s 1 % 64 * 64) (by omega) (by omega), w64 (x := bt s 2 % 64) (by omega) (by omega)]
      rw [or64 (x := 53248) (y := bt s 1 % 64 * 64) 12 (by omega) (by omega) (by omega) (by omega) (by omega) (by omega), or64 6 (by omega) (by omega) (by omega) (by omega) (by omega) (by omega)]
    · rw [if_neg (fun h => c7 ((cont8 h2.1 h2.2).1 h)), if_neg (fun h => c7 h.2.2.2.2)]
  · rw [if_neg c4, if_neg (fun h => c4 h.2.1)]
/-! ### the package's reader -/
theorem byte_lead8 : ∀ m : Fin 256, ((Go.bits .and .u8 (m.val : Int) 224 = 192) ↔ (192 ≤ (m.val : Int) ∧ (m.val : Int) < 224)) ∧ ((Go.bits .and .u8 (m.val : Int) 240 = 224) ↔ (224 ≤ (m.val : Int) ∧ (m.val : Int) < 240)) ∧ ((Go.bits .and .u8 (m.val : Int) 248 = 240) ↔ (240 ≤ (m.val : Int) ∧ (m.val : Int) < 248)) := by decide +kernel
theorem lead8 {x : Int} (h0 : 0 ≤ x) (h1 : x ≤ 255) : ((Go.bits .and .u8 x 224 = 192) ↔ (192 ≤ x ∧ x < 224)) ∧ ((Go.bits .and .u8 x 240 = 224) ↔ (224 ≤ x ∧ x < 240)) ∧ ((Go.bits .and .u8 x 248 = 240) ↔ (240 ≤ x ∧ x < 248)) := by
  obtain ⟨m, rfl⟩ := fin_of h0 h1; exact byte_lead8 m
theorem two32 {a b : Int} (ha : 0 ≤ a ∧ a ≤ 255) (hb : 0 ≤ b ∧ b ≤ 255) : Go.bits .or .i32 (wrap32 ((wrap32 (Go.bits .and .u8 a 31)) * 64)) (wrap32 (Go.bits .and .u8 b 63)) = a % 32 * 64 + b % 64 := by
  rw [u8_and31 a ha.1 (by omega), u8_and63 b hb.1 (by omega), w32 (x := a % 32) (by omega) (by omega), w32 (x := a % 32 * 64) (by omega) (by omega), w32 (x := b % 64) (by omega) (by omega)]
  exact i32_or6 _ _ (by omega) (by omega) (by omega) (by omega) (by omega)
theorem three32 {a b c : Int} (ha : 0 ≤ a ∧ a ≤ 255) (hb : 0 ≤ b ∧ b ≤ 255) (hc : 0 ≤ c ∧ c ≤ 255) : Go.bits .or .i32 (Go.bits .or .i32 (wrap32 ((wrap32 (Go.bits .and .u8 a 15)) * 4096)) (wrap32 ((wrap32 (Go.bits .and .u8 b 63)) * 64))) (wrap32 (Go.bits .and .u8 c 63)) = (a % 16 * 64 + b % 64) * 64 + c % 64 := by
  rw [u8_and15 a ha.1 (by omega), u8_and63 b hb.1 (by omega), u8_and63 c hc.1 (by omega), w32 (x := a % 16) (by omega) (by omega), w32 (x := a % 16 * 4096) (by omega) (by omega), w32 (x := b % 64) (by omega) (by omega), w32 (x := b % 64 * 64) (by omega) (by omega), w32 (x := c % 64) (by omega) (by omega)]
  rw [i32_or12 (a % 16 * 4096) (b % 64 * 64) (by omega) (by omega) (by omega) (by omega) (by omega), i32_or6 _ _ (by omega) (by omega) (by omega) (by omega) (by omega)]
  omega
theorem four32 {a b c d : Int} (ha : 0 ≤ a ∧ a ≤ 255) (hb : 0 ≤ b ∧ b ≤ 255) (hc : 0 ≤ c ∧ c ≤ 255) (hd : 0 ≤ d ∧ d ≤ 255) : Go.bits .or .i32 (Go.bits .or .i32 (Go.bits .or .i32 (wrap32 ((wrap32 (Go.bits .and .u8 a 7)) * 262144)) (wrap32 ((wrap32 (Go.bits .and .u8 b 63)) * 4096))) (wrap32 ((wrap32 (Go.bits .and .u8 c 63)) * 64))) (wrap32 (Go.bits .and .u8 d 63)) = ((a % 8 * 64 + b % 64) * 64 + c % 64) * 64 + d % 64 := by
  rw [u8_and7 a ha.1 (by omega), u8_and63 b hb.1 (by omega), u8_and63 c hc.1 (by omega), u8_and63 d hd.1 (by omega), w32 (x := a % 8) (by omega) (by omega), w32 (x := a % 8 * 262144) (by omega) (by omega), w32 (x := b % 64) (by omega) (by omega), w32 (x := b % 64 * 4096) (by omega) (by omega), w32 (x := c % 64) (by omega) (by omega), w32 (x := c % 64 * 64) (by omega) (by omega), w32 (x := d % 64) (by omega) (by omega)]
  rw [i32_or18 (a % 8 * 262144) (b % 64 * 4096) (by omega) (by omega) (by omega) (by omega) (by omega), i32_or12 (a % 8 * 262144 + b % 64 * 4096) (c % 64 * 64) (by omega) (by omega) (by omega) (by omega) (by omega), i32_or6 _ _ (by omega) (by omega) (by omega) (by omega) (by omega)]
  omega

/-- What the package's reader gives, of a text that is not empty. -/
theorem decode_one (s : ByteArray) (k : Nat) (h : 1 ≤ (s.size : Int)) (h0 : bt s 0 < 128) : helpers_DecodeWTF8Rune.f k s = some (bt s 0, 1) := by
  have hb := bt_range s 0
  unfold helpers_DecodeWTF8Rune.f
  rw [if_neg (by omega), if_pos (by omega), if_pos h0, w32 (by omega) (by omega)]
theorem decode_two (s : ByteArray) (k : Nat) (h : 2 ≤ (s.size : Int)) (h0 : 194 ≤ bt s 0 ∧ bt s 0 ≤ 223) (h1 : 128 ≤ bt s 1 ∧ bt s 1 < 192) : helpers_DecodeWTF8Rune.f (k + 1) s = some (bt s 0 % 32 * 64 + bt s 1 % 64, 2) := by
  have hb := bt_range s 0
  have hb1 := bt_range s 1
  unfold helpers_DecodeWTF8Rune.f
  rw [if_neg (by omega), if_pos (by omega), if_neg (by omega), if_pos ((lead8 hb.1 hb.2).1.2 (by omega))]
  simp only [helpers_DecodeWTF8Rune.j0]
  rw [if_neg (by omega), if_pos (by omega), if_pos ((cont8 hb1.1 hb1.2).2 h1), if_pos True.intro, two32 hb hb1, if_neg (by omega)]
theorem decode_three (s : ByteArray) (k : Nat) (h : 3 ≤ (s.size : Int)) (h0 : 224 ≤ bt s 0 ∧ bt s 0 ≤ 239) (h1 : 128 ≤ bt s 1 ∧ bt s 1 < 192) (h2 : 128 ≤ bt s 2 ∧ bt s 2 < 192) (h3 : 2048 ≤ (bt s 0 % 16 * 64 + bt s 1 % 64) * 64 + bt s 2 % 64) : helpers_DecodeWTF8Rune.f (k + 1) s = some ((bt s 0 % 16 * 64 + bt s 1 % 64) * 64 + bt s 2 % 64, 3) := by
  have hb := bt_range s 0
  have hb1 := bt_range s 1
  have hb2 := bt_range s 2
  unfold helpers_DecodeWTF8Rune.f
  rw [if_neg (by omega), if_pos (by omega), if_neg (by omega), if_neg (fun h => by have := (lead8 hb.1 hb.2).1.1 h; omega), if_pos ((lead8 hb.1 hb.2).2.1.2 (by omega))]
  simp only [helpers_DecodeWTF8Rune.j0]
  rw [if_neg (by omega), if_pos (by omega), if_pos ((cont8 hb1.1 hb1.2).2 h1), if_neg (by omega), if_pos (by omega), if_pos ((cont8 hb2.1 hb2.2).2 h2), if_pos True.intro, three32 hb hb1 hb2, if_neg (by omega)]
theorem decode_four (s : ByteArray) (k : Nat) (h : 4 ≤ (s.size : Int)) (h0 : 240 ≤ bt s 0 ∧ bt s 0 ≤ 244) (h1 : 128 ≤ bt s 1 ∧ bt s 1 < 192) (h2 : 128 ≤ bt s 2 ∧ bt s 2 < 192) (h3 : 128 ≤ bt s 3 ∧ bt s 3 < 192) (h4 : 65536 ≤ ((bt s 0 % 8 * 64 + bt s 1 % 64) * 64 + bt s 2 % 64) * 64 + bt s 3 % 64) (h5 : ((bt s 0 % 8 * 64 + bt s 1 % 64) * 64 + bt s 2 % 64) * 64 + bt s 3 % 64 ≤ 1114111) :
    helpers_DecodeWTF8Rune.f (k + 1) s = some (((bt s 0 % 8 * 64 + bt s 1 % 64) * 64 + bt s 2 % 64) * 64 + bt s 3 % 64, 4) := by
  have hb := bt_range s 0
  have hb1 := bt_range s 1
  have hb2 := bt_range s 2
  have hb3 := bt_range s 3
  unfold helpers_DecodeWTF8Rune.f
  rw [if_neg (by omega), if_pos (by omega), if_neg (by omega), if_neg (fun h => by have := (lead8 hb.1 hb.2).1.1 h; omega), if_neg (fun h => by have := (lead8 hb.1 hb.2).2.1.1 h; omega), if_pos ((lead8 hb.1 hb.2).2.2.2 (by omega))]
  simp only [helpers_DecodeWTF8Rune.j0]
  rw [if_neg (by omega), if_pos (by omega), if_pos ((cont8 hb1.1 hb1.2).2 h1), if_neg (by omega), if_pos (by omega), if_pos ((cont8 hb2.1 hb2.2).2 h2), if_neg (by omega), if_pos (by omega), if_pos ((cont8 hb3.1 hb3.2).2 h3), four32 hb hb1 hb2 hb3, if_neg (by omega), if_neg (by omega)]

theorem isSome_ite {α : Type} {c : Prop} [Decidable c] {x y : Option α} (h : c → x.isSome = true) (g : ¬ c → y.isSome = true) : (if c then x else y).isSome = true := by
  by_cases e : c
  · rw [if_pos e]; exact h e
  · rw [if_neg e]; exact g e
theorem j0_total (s : ByteArray) (k : Nat) (b sz : Int) (h : sz = 2 ∨ sz = 3 ∨ sz = 4) : (helpers_DecodeWTF8Rune.j0 (k + 1) s (s.size : Int) b sz).isSome = true := by
  simp only [helpers_DecodeWTF8Rune.j0]
  repeat' (refine isSome_ite (fun _ => ?_) (fun _ => ?_))
  all_goals first | rfl | (exfalso; omega)
theorem decode_total (s : ByteArray) (k : Nat) : ∃ p, helpers_DecodeWTF8Rune.f (k + 1) s = some p := by
  have h : (helpers_DecodeWTF8Rune.f (k + 1) s).isSome = true := by
    unfold helpers_DecodeWTF8Rune.f
    repeat' split
    all_goals first | rfl | exact j0_total s k _ _ (by omega) | (exfalso; omega)
  exact Option.isSome_iff_exists.1 h

/-- Where the reference finds a code point, the package finds the same one. -/
theorem decode_agrees (s : ByteArray) (k : Nat) (h : (wtfAt s).2 > 0) : helpers_DecodeWTF8Rune.f (k + 1) s = some (wtfAt s) := by
  unfold wtfAt at h ⊢
  by_cases c : (runeAt s 0).2 > 0
  · rw [if_pos c]
    unfold runeAt at c ⊢
    by_cases c0 : (0 : Int) < 0 ∨ 0 ≥ (s.size : Int)
    · rw [if_pos c0] at c; exact absurd c (by decide)
    rw [if_neg c0] at c ⊢
    have e1 : (0 : Int) + 1 = 1 := rfl
    have e2 : (0 : Int) + 2 = 2 := rfl
    have e3 : (0 : Int) + 3 = 3 := rfl
    rw [e1, e2, e3] at c ⊢
    unfold runeOf at c ⊢
    by_cases d0 : bt s 0 < 128
    · rw [if_pos d0, decode_one s _ (by omega) d0]
    rw [if_neg d0] at c ⊢
    by_cases d1 : 194 ≤ bt s 0 ∧ bt s 0 ≤ 223
    · rw [if_pos d1] at c ⊢
      by_cases d2 : 2 ≤ (s.size : Int) - 0 ∧ 128 ≤ bt s 1 ∧ bt s 1 < 192
      · rw [if_pos d2, decode_two s k (by omega) d1 d2.2]
      · rw [if_neg d2] at c; exact absurd c (by decide)
    rw [if_neg d1] at c ⊢
    by_cases d3 : 224 ≤ bt s 0 ∧ bt s 0 ≤ 239
    · rw [if_pos d3] at c ⊢
      split at c
      · rename_i d4
        rw [if_pos d4, decode_three s k (by omega) d3 d4.2.1 d4.2.2.1 d4.2.2.2.1]
      · exact absurd c (by decide)
    rw [if_neg d3] at c ⊢
    by_cases d5 : 240 ≤ bt s 0 ∧ bt s 0 ≤ 244
    · rw [if_pos d5] at c ⊢
      split at c
      · rename_i d6
        rw [if_pos d6, decode_four s k (by omega) d5 d6.2.1 d6.2.2.1 d6.2.2.2.1 d6.2.2.2.2.1 d6.2.2.2.2.2]
      · exact absurd c (by decide)
    rw [if_neg d5] at c; exact absurd c (by decide)
  · rw [if_neg c] at h ⊢
    split at h
    · rename_i d
      rw [if_pos d, decode_three s k (by omega) (by omega) (by omega) (by omega) (by omega)]
      congr 2
      omega
    · exact absurd h (by decide)

theorem FnDecodeRune : laws_FnDecodeRune.Pure := by
  intro s hs
  refine ⟨14, ?_⟩
  unfold laws_FnDecodeRune.f
  by_cases hbig : (s.size : Int) > 2147483647
  · rw [if_pos hbig]
  rw [if_neg hbig]
  have hawake : impl_DecodeRune.f 14 (⟨#[237, 176, 128, 33]⟩ : ByteArray) = some (56320, 3) := by decide +kernel
  rw [hawake]
  have e3 : ((3 : Int) == 3) = true := rfl
  simp only [Option.bind_some, if_true, e3, laws_FnDecodeRune.j0]
  rw [wtf_tells s hs 1]
  by_cases c : (wtfAt s).2 > 0
  · have hd : impl_DecodeRune.f 13 s = some (wtfAt s) := by
      unfold impl_DecodeRune.f
      rw [decode_agrees s 12 c]; rfl
    rw [hd]
    simp only [Option.bind_some]
    have hw : wrap64 (wtfAt s).1 = (wtfAt s).1 := by
      have hb := bt_range s 0
      have hb1 := bt_range s 1
      have hb2 := bt_range s 2
      have hb3 := bt_range s 3
      have hr : 0 ≤ (wtfAt s).1 ∧ (wtfAt s).1 ≤ 1114111 := by
        unfold wtfAt runeAt runeOf
        have e1 : (0 : Int) + 1 = 1 := rfl
        have e2 : (0 : Int) + 2 = 2 := rfl
        have e3 : (0 : Int) + 3 = 3 := rfl
        rw [e1, e2, e3]
        repeat' split
        all_goals (constructor <;> simp only [] <;> omega)
      exact w64 hr.1 (by omega)
    simp [c, hw]
  · have hp : ∃ p, impl_DecodeRune.f 13 s = some p ∧ (s.toList = [] → p = (65533, 0)) := by
      by_cases he : (s.size : Int) < 1
      · refine ⟨(65533, 0), ?_, fun _ => rfl⟩
        unfold impl_DecodeRune.f helpers_DecodeWTF8Rune.f
        rw [if_pos he]; rfl
      · obtain ⟨p, hq⟩ := decode_total s 12
        refine ⟨p, by unfold impl_DecodeRune.f; rw [hq]; rfl, fun he' => ?_⟩
        have hz : s.size = 0 := by
          have : s.toList.length = s.size := by rw [ByteArray.toList_eq, Array.length_toList]; rfl
          rw [he'] at this; simpa using this.symm
        omega
    obtain ⟨p, hp, hpe⟩ := hp
    rw [hp]
    simp only [Option.bind_some]
    rw [if_neg c]
    by_cases he : s.toList = ([] : List UInt8)
    · rw [if_pos he, hpe he]; rfl
    · rw [if_neg he]

end Go.Proofs.YtkdinhbfidckdaaR.Pure
