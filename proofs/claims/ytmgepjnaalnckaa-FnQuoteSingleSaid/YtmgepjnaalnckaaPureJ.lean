/- What the reference's scanner reads of the pieces of a string literal. -/
import Derived.Test.YtmgepjnaalnckaaExtNext
import Derived.KernelRfl
import Derived.Laws.BitsLemmas
import Derived.Laws.RangeAny
namespace Go.Proofs.Ytmgepjnaalnckaa.PureJ
open Go Go.RowKit Go.Proofs.Ytmgepjnaalnckaa Go.Proofs.Ytmgepjnaalnckaa.PJsString Go.Proofs.YtmgepjnaalnckaaW.PrintWords Go.Proofs.YtmgepjnaalnckaaW.PrintLast

set_option linter.unusedSectionVars false
/-! ### single bytes -/
theorem byte_cont64 : ∀ m : Fin 256, (Go.bits .and .i64 (m.val : Int) 192 = 128) ↔ (128 ≤ (m.val : Int) ∧ (m.val : Int) < 192) := by decide +kernel
theorem byte_low64 : ∀ m : Fin 256, Go.bits .and .i64 (m.val : Int) 63 = (m.val : Int) % 64 ∧ Go.bits .and .i64 (m.val : Int) 31 = (m.val : Int) % 32 ∧ Go.bits .and .i64 (m.val : Int) 15 = (m.val : Int) % 16 ∧ Go.bits .and .i64 (m.val : Int) 7 = (m.val : Int) % 8 := by decide +kernel
theorem byte_cont8 : ∀ m : Fin 256, (Go.bits .and .u8 (m.val : Int) 192 = 128) ↔ (128 ≤ (m.val : Int) ∧ (m.val : Int) < 192) := by decide +kernel
theorem fin_of {x : Int} (h0 : 0 ≤ x) (h1 : x ≤ 255) : ∃ m : Fin 256, (m.val : Int) = x := ⟨⟨x.toNat, by omega⟩, by simp; omega⟩
theorem cont64 {x : Int} (h0 : 0 ≤ x) (h1 : x ≤ 255) : (Go.bits .and .i64 x 192 = 128) ↔ (128 ≤ x ∧ x < 192) := by
  obtain ⟨m, rfl⟩ := fin_of h0 h1; exact byte_cont64 m
theorem low64 {x : Int} (h0 : 0 ≤ x) (h1 : x ≤ 255) : Go.bits .and .i64 x 63 = x % 64 ∧ Go.bits .and .i64 x 31 = x % 32 ∧ Go.bits .and .i64 x 15 = x % 16 ∧ Go.bits .and .i64 x 7 = x % 8 := by
  obtain ⟨m, rfl⟩ := fin_of h0 h1; exact byte_low64 m
theorem cont8 {x : Int} (h0 : 0 ≤ x) (h1 : x ≤ 255) : (Go.bits .and .u8 x 192 = 128) ↔ (128 ≤ x ∧ x < 192) := by
  obtain ⟨m, rfl⟩ := fin_of h0 h1; exact byte_cont8 m
theorem wraps_i64' (n : Int) (h₀ : 0 ≤ n) (h₁ : n < 2 ^ 63) : IntKind.i64.wrap n = n := by rw [IntKind.wrap_i64]; omega
theorem or64 {x y : Int} (i : Nat) (hx0 : 0 ≤ x) (hx : x % 2 ^ i = 0) (hx1 : x < 2 ^ 63) (hy0 : 0 ≤ y) (hy : y < 2 ^ i) (hy1 : y < 2 ^ 63) : Go.bits .or .i64 x y = x + y :=
  bits_join .i64 63 (by decide) wraps_i64' i x y hx0 hx hx1 hy0 hy hy1
theorem w64 {x : Int} (h0 : 0 ≤ x) (h1 : x < 9223372036854775808) : wrap64 x = x := by unfold wrap64; omega
theorem w32 {x : Int} (h0 : 0 ≤ x) (h1 : x < 2147483648) : wrap32 x = x := by unfold wrap32; omega

/-! ### the reference's reader of one code point, closed -/
/-- The code point that stands at place i, and how many bytes it has; 0 bytes: there is no whole one. -/
def runeOf (n b0 b1 b2 b3 : Int) : Int × Int :=
  if b0 < 128 then (b0, 1)
  else if 194 ≤ b0 ∧ b0 ≤ 223 then (if 2 ≤ n ∧ 128 ≤ b1 ∧ b1 < 192 then (b0 % 32 * 64 + b1 % 64, 2) else (0, 0))
  else if 224 ≤ b0 ∧ b0 ≤ 239 then (if 3 ≤ n ∧ (128 ≤ b1 ∧ b1 < 192) ∧ (128 ≤ b2 ∧ b2 < 192) ∧ 2048 ≤ (b0 % 16 * 64 + b1 % 64) * 64 + b2 % 64 ∧ ¬ (55296 ≤ (b0 % 16 * 64 + b1 % 64) * 64 + b2 % 64 ∧ (b0 % 16 * 64 + b1 % 64) * 64 + b2 % 64 ≤ 57343) then ((b0 % 16 * 64 + b1 % 64) * 64 + b2 % 64, 3) else (0, 0))
  else if 240 ≤ b0 ∧ b0 ≤ 244 then (if 4 ≤ n ∧ (128 ≤ b1 ∧ b1 < 192) ∧ (128 ≤ b2 ∧ b2 < 192) ∧ (128 ≤ b3 ∧ b3 < 192) ∧ 65536 ≤ ((b0 % 8 * 64 + b1 % 64) * 64 + b2 % 64) * 64 + b3 % 64 ∧ ((b0 % 8 * 64 + b1 % 64) * 64 + b2 % 64) * 64 + b3 % 64 ≤ 1114111 then (((b0 % 8 * 64 + b1 % 64) * 64 + b2 % 64) * 64 + b3 % 64, 4) else (0, 0))
  else (0, 0)
def runeAt (s : ByteArray) (i : Int) : Int × Int := if i < 0 ∨ i ≥ (s.size : Int) then (0, 0) else runeOf ((s.size : Int) - i) (bt s i) (bt s (i + 1)) (bt s (i + 2)) (bt s (i + 3))

section
variable {s : ByteArray} {i : Int} (hs : s.size ≤ 140737488351232) (h0 : 0 ≤ i) (h1 : i < (s.size : Int))
include hs h0 h1
theorem l0_step {k : Nat} {n r least j : Int} (hj0 : 0 ≤ j) (hj4 : j < 4) (hj : j < n) (hb : i + j < (s.size : Int)) (hr0 : 0 ≤ r) (hr1 : r < 2097152) (hc : 128 ≤ bt s (i + j) ∧ bt s (i + j) < 192) :
    spec_Rune.l0 (k + 1) s i n r least j = spec_Rune.l0 k s i n (r * 64 + bt s (i + j) % 64) least (j + 1) := by
  have hbt := bt_range s (i + j)
  have e1 : wrap64 (i + j) = i + j := w64 (by omega) (by omega)
  have e2 : wrap64 (bt s (i + j)) = bt s (i + j) := w64 (by omega) (by omega)
  have e3 : wrap64 (r * 64) = r * 64 := w64 (by omega) (by omega)
  have e4 : wrap64 (j + 1) = j + 1 := w64 (by omega) (by omega)
  have e5 := (low64 hbt.1 hbt.2).1
  simp only [spec_Rune.l0, e1, e2, e3, e4, e5]
  rw [if_pos hj, if_pos (by omega), if_pos hb, if_pos ((cont64 hbt.1 hbt.2).2 hc), or64 6 (by omega) (by omega) (by omega) (by omega) (by omega) (by omega)]
theorem l0_bad {k : Nat} {n r least j : Int} (hj0 : 0 ≤ j) (hj4 : j < 4) (hj : j < n) (hb : i + j < (s.size : Int)) (hc : ¬ (128 ≤ bt s (i + j) ∧ bt s (i + j) < 192)) :
    spec_Rune.l0 (k + 1) s i n r least j = some (0, 0) := by
  have hbt := bt_range s (i + j)
  have e1 : wrap64 (i + j) = i + j := w64 (by omega) (by omega)
  have e2 : wrap64 (bt s (i + j)) = bt s (i + j) := w64 (by omega) (by omega)
  simp only [spec_Rune.l0, e1, e2]
  rw [if_pos hj, if_pos (by omega), if_pos hb, if_neg (fun h => hc ((cont64 hbt.1 hbt.2).1 h))]
theorem l0_end {k : Nat} {n r least j : Int} (hj : ¬ j < n) :
    spec_Rune.l0 (k + 1) s i n r least j = some (if least ≤ r ∧ r ≤ 1114111 ∧ ¬ (55296 ≤ r ∧ r ≤ 57343) then (r, n) else (0, 0)) := by
  simp only [spec_Rune.l0]
  rw [if_neg hj]
  by_cases c1 : r < least
  · rw [if_pos c1, if_neg (by omega)]
  · rw [if_neg c1]
    by_cases c2 : r > 1114111
    · rw [if_pos c2, if_neg (by omega)]
    · rw [if_neg c2]
      by_cases c3 : r ≥ 55296
      · rw [if_pos c3]
        by_cases c4 : r ≤ 57343
        · rw [if_pos c4, if_neg (by omega)]
        · rw [if_neg c4, if_pos (by omega)]
      · rw [if_neg c3, if_pos (by omega)]
theorem j3_short {k : Nat} {n r least : Int} (hn : n ≠ 0) (hn4 : 0 ≤ n ∧ n ≤ 4) (hb : (s.size : Int) < i + n) : spec_Rune.j3 (k + 2) s i n r least = some (0, 0) := by
  have e1 : wrap64 (i + n) = i + n := w64 (by omega) (by omega)
  simp only [spec_Rune.j3, spec_Rune.j4, e1]
  rw [if_neg hn, if_pos (by simpa using hb)]
theorem j3_long {k : Nat} {n r least : Int} (hn : n ≠ 0) (hn4 : 0 ≤ n ∧ n ≤ 4) (hb : i + n ≤ (s.size : Int)) : spec_Rune.j3 (k + 2) s i n r least = spec_Rune.l0 k s i n r least 1 := by
  have e1 : wrap64 (i + n) = i + n := w64 (by omega) (by omega)
  simp only [spec_Rune.j3, spec_Rune.j4, e1]
  rw [if_neg hn, if_neg (by simp; omega)]

theorem rune_two (k : Nat) (r : Int) (hr : 0 ≤ r ∧ r < 32) (hr2 : 2 ≤ r) : spec_Rune.j3 (k + 4) s i 2 r 128 =
    some (if 2 ≤ (s.size : Int) - i ∧ 128 ≤ bt s (i + 1) ∧ bt s (i + 1) < 192 then (r * 64 + bt s (i + 1) % 64, 2) else (0, 0)) := by
  by_cases hb : i + 2 ≤ (s.size : Int)
  · rw [j3_long hs h0 h1 (by omega) (by omega) hb]
    by_cases hc : 128 ≤ bt s (i + 1) ∧ bt s (i + 1) < 192
    · rw [l0_step hs h0 h1 (by omega) (by omega) (by omega) (by omega) (by omega) (by omega) hc, l0_end hs h0 h1 (by omega), if_pos (by omega), if_pos (by omega)]
    · rw [l0_bad hs h0 h1 (by omega) (by omega) (by omega) (by omega) hc, if_neg (by omega)]
  · rw [j3_short hs h0 h1 (by omega) (by omega) (by omega), if_neg (by omega)]
theorem rune_three (k : Nat) (r : Int) (hr : 0 ≤ r ∧ r < 16) : spec_Rune.j3 (k + 5) s i 3 r 2048 =
    some (if 3 ≤ (s.size : Int) - i ∧ (128 ≤ bt s (i + 1) ∧ bt s (i + 1) < 192) ∧ (128 ≤ bt s (i + 2) ∧ bt s (i + 2) < 192) ∧ 2048 ≤ (r * 64 + bt s (i + 1) % 64) * 64 + bt s (i + 2) % 64 ∧ ¬ (55296 ≤ (r * 64 + bt s (i + 1) % 64) * 64 + bt s (i + 2) % 64 ∧ (r * 64 + bt s (i + 1) % 64) * 64 + bt s (i + 2) % 64 ≤ 57343) then ((r * 64 + bt s (i + 1) % 64) * 64 + bt s (i + 2) % 64, 3) else (0, 0)) := by
  by_cases hb : i + 3 ≤ (s.size : Int)
  · rw [j3_long hs h0 h1 (by omega) (by omega) hb]
    by_cases hc : 128 ≤ bt s (i + 1) ∧ bt s (i + 1) < 192
    · rw [l0_step hs h0 h1 (by omega) (by omega) (by omega) (by omega) (by omega) (by omega) hc]
      have e : (1 : Int) + 1 = 2 := rfl
      rw [e]
      by_cases hd : 128 ≤ bt s (i + 2) ∧ bt s (i + 2) < 192
      · rw [l0_step hs h0 h1 (by omega) (by omega) (by omega) (by omega) (by omega) (by omega) hd, l0_end hs h0 h1 (by omega)]
        by_cases hz : 2048 ≤ (r * 64 + bt s (i + 1) % 64) * 64 + bt s (i + 2) % 64 ∧ ¬ (55296 ≤ (r * 64 + bt s (i + 1) % 64) * 64 + bt s (i + 2) % 64 ∧ (r * 64 + bt s (i + 1) % 64) * 64 + bt s (i + 2) % 64 ≤ 57343)
        · rw [if_pos (by omega), if_pos ⟨by omega, hc, hd, hz⟩]
        · rw [if_neg (by omega), if_neg (fun h => hz h.2.2.2)]
      · rw [l0_bad hs h0 h1 (by omega) (by omega) (by omega) (by omega) hd, if_neg (fun h => hd h.2.2.1)]
    · rw [l0_bad hs h0 h1 (by omega) (by omega) (by omega) (by omega) hc, if_neg (fun h => hc h.2.1)]
  · rw [j3_short hs h0 h1 (by omega) (by omega) (by omega), if_neg (by omega)]
theorem rune_four (k : Nat) (r : Int) (hr : 0 ≤ r ∧ r < 8) : spec_Rune.j3 (k + 6) s i 4 r 65536 =
    some (if 4 ≤ (s.size : Int) - i ∧ (128 ≤ bt s (i + 1) ∧ bt s (i + 1) < 192) ∧ (128 ≤ bt s (i + 2) ∧ bt s (i + 2) < 192) ∧ (128 ≤ bt s (i + 3) ∧ bt s (i + 3) < 192) ∧ 65536 ≤ ((r * 64 + bt s (i + 1) % 64) * 64 + bt s (i + 2) % 64) * 64 + bt s (i + 3) % 64 ∧ ((r * 64 + bt s (i + 1) % 64) * 64 + bt s (i + 2) % 64) * 64 + bt s (i + 3) % 64 ≤ 1114111 then (((r * 64 + bt s (i + 1) % 64) * 64 + bt s (i + 2) % 64) * 64 + bt s (i + 3) % 64, 4) else (0, 0)) := by
  by_cases hb : i + 4 ≤ (s.size : Int)
  · rw [j3_long hs h0 h1 (by omega) (by omega) hb]
    by_cases hc : 128 ≤ bt s (i + 1) ∧ bt s (i + 1) < 192
    · rw [l0_step hs h0 h1 (by omega) (by omega) (by omega) (by omega) (by omega) (by omega) hc]
      have e : (1 : Int) + 1 = 2 := rfl
      rw [e]
      by_cases hd : 128 ≤ bt s (i + 2) ∧ bt s (i + 2) < 192
      · rw [l0_step hs h0 h1 (by omega) (by omega) (by omega) (by omega) (by omega) (by omega) hd]
        have e : (2 : Int) + 1 = 3 := rfl
        rw [e]
        by_cases hf : 128 ≤ bt s (i + 3) ∧ bt s (i + 3) < 192
        · rw [l0_step hs h0 h1 (by omega) (by omega) (by omega) (by omega) (by omega) (by omega) hf, l0_end hs h0 h1 (by omega)]
          by_cases hz : 65536 ≤ ((r * 64 + bt s (i + 1) % 64) * 64 + bt s (i + 2) % 64) * 64 + bt s (i + 3) % 64 ∧ ((r * 64 + bt s (i + 1) % 64) * 64 + bt s (i + 2) % 64) * 64 + bt s (i + 3) % 64 ≤ 1114111
          · rw [if_pos (by omega), if_pos ⟨by omega, hc, hd, hf, hz⟩]
          · rw [if_neg (by omega), if_neg (fun h => hz h.2.2.2.2)]
        · rw [l0_bad hs h0 h1 (by omega) (by omega) (by omega) (by omega) hf, if_neg (fun h => hf h.2.2.2.1)]
      · rw [l0_bad hs h0 h1 (by omega) (by omega) (by omega) (by omega) hd, if_neg (fun h => hd h.2.2.1)]
    · rw [l0_bad hs h0 h1 (by omega) (by omega) (by omega) (by omega) hc, if_neg (fun h => hc h.2.1)]
  · rw [j3_short hs h0 h1 (by omega) (by omega) (by omega), if_neg (by omega)]
end

theorem rune_tells (s : ByteArray) (hs : s.size ≤ 140737488351232) (i : Int) (k : Nat) : spec_Rune.f (k + 12) s i = some (runeAt s i) := by
  unfold spec_Rune.f runeAt
  by_cases h0 : i < 0
  · rw [if_pos h0, if_pos (Or.inl h0)]
    simp only [spec_Rune.j0, if_true]
  · rw [if_neg h0]
    by_cases h1 : i ≥ (s.size : Int)
    · rw [if_pos (Or.inr h1), decide_eq_true h1]
      simp only [spec_Rune.j0, if_true]
    · rw [if_neg (by omega), decide_eq_false h1]
      have hb := bt_range s i
      have e2 : wrap64 (bt s i) = bt s i := w64 (by omega) (by omega)
      have hl := low64 hb.1 hb.2
      simp only [spec_Rune.j0, e2, Bool.false_eq_true, if_false]
      rw [if_pos (by omega), if_pos (by omega)]
      unfold runeOf
      by_cases c0 : bt s i < 128
      · rw [if_pos c0, if_pos c0]
      rw [if_neg c0, if_neg c0]
      by_cases c1 : 194 ≤ bt s i ∧ bt s i ≤ 223
      · rw [if_pos c1, if_pos (show bt s i ≥ 194 from c1.1), decide_eq_true c1.2]
        simp only [spec_Rune.j1, if_true, hl.2.1]
        exact rune_two hs (by omega) (by omega) _ _ (by omega) (by omega)
      rw [if_neg c1]
      have e3 : (if bt s i ≥ 194 then spec_Rune.j1 (k + 11) s i (bt s i) 0 0 0 (decide (bt s i ≤ 223)) else spec_Rune.j1 (k + 11) s i (bt s i) 0 0 0 false) = spec_Rune.j1 (k + 11) s i (bt s i) 0 0 0 false := by
        by_cases c : bt s i ≥ 194
        · rw [if_pos c, decide_eq_false (by omega)]
        · rw [if_neg c]
      rw [e3]
      simp only [spec_Rune.j1, Bool.false_eq_true, if_false]
      by_cases c2 : 224 ≤ bt s i ∧ bt s i ≤ 239
      · rw [if_pos c2, if_pos (show bt s i ≥ 224 from c2.1), decide_eq_true c2.2]
        simp only [spec_Rune.j2, if_true, hl.2.2.1]
        exact rune_three hs (by omega) (by omega) _ _ (by omega)
      rw [if_neg c2]
      have e4 : (if bt s i ≥ 224 then spec_Rune.j2 (k + 10) s i (bt s i) 0 0 0 (decide (bt s i ≤ 239)) else spec_Rune.j2 (k + 10) s i (bt s i) 0 0 0 false) = spec_Rune.j2 (k + 10) s i (bt s i) 0 0 0 false := by
        by_cases c : bt s i ≥ 224
        · rw [if_pos c, decide_eq_false (by omega)]
        · rw [if_neg c]
      rw [e4]
      simp only [spec_Rune.j2, Bool.false_eq_true, if_false]
      by_cases c3 : 240 ≤ bt s i ∧ bt s i ≤ 244
      · rw [if_pos c3, if_pos (show bt s i ≥ 240 from c3.1), if_pos c3.2]
        simp only [hl.2.2.2]
        exact rune_four hs (by omega) (by omega) _ _ (by omega)
      · rw [if_neg c3]
        have e5 : ∀ x : Option (Int × Int), (if bt s i ≥ 240 then (if bt s i ≤ 244 then x else spec_Rune.j3 (k + 9) s i 0 0 0) else spec_Rune.j3 (k + 9) s i 0 0 0) = spec_Rune.j3 (k + 9) s i 0 0 0 := by
          intro x
          by_cases c : bt s i ≥ 240
          · rw [if_pos c, if_neg (by omega)]
          · rw [if_neg c]
        rw [e5]
        simp only [spec_Rune.j3, spec_Rune.j4, if_true]

/-! ### bytes that stand at a place -/
/-- The numbers xs stand from place i on. -/
def At (q : ByteArray) (i : Nat) (xs : List Int) : Prop := ∀ t (h : t < xs.length), bt q ((i + t : Nat) : Int) = xs[t]
theorem At.left {q : ByteArray} {i : Nat} {xs ys : List Int} (h : At q i (xs ++ ys)) : At q i xs := fun t ht => by
  rw [h t (by rw [List.length_append]; omega), List.getElem_append_left ht]
theorem At.right {q : ByteArray} {i : Nat} {xs ys : List Int} (h : At q i (xs ++ ys)) : At q (i + xs.length) ys := fun t ht => by
  have := h (xs.length + t) (by rw [List.length_append]; omega)
  rw [List.getElem_append_right (by omega)] at this
  simp only [Nat.add_sub_cancel_left] at this
  rw [Nat.add_assoc]; exact this
theorem At.get {q : ByteArray} {i : Nat} {xs : List Int} (h : At q i xs) (t : Nat) (ht : t < xs.length) : bt q ((i : Int) + (t : Int)) = xs[t] := by
  rw [← h t ht]; congr 1

/-! ### code units -/
def u1 (n : Int) : ByteArray := strOfNums [n / 256 % 256, n % 256]
def u2 (c : Int) : ByteArray := if c < 65536 then u1 c else u1 (55296 + (c - 65536) / 1024) ++ u1 (56320 + (c - 65536) % 1024)
theorem u1_size (n : Int) : (u1 n).size = 2 := by unfold u1; rw [strOfNums_size]; rfl
theorem u2_size (c : Int) : (u2 c).size ≤ 4 := by
  unfold u2
  split
  · rw [u1_size]; omega
  · rw [ByteArray.size_append, u1_size, u1_size]; omega
theorem and255 {x : Int} (h0 : 0 ≤ x) (h1 : x < 2 ^ 62) : Go.bits .and .i64 x 255 = x % 256 := bits_mask .i64 63 (by decide) wraps_i64' 8 (by decide) _ (by omega) (by omega)
theorem Unit_tells (k : Nat) (n : Int) (h0 : 0 ≤ n) (h1 : n < 65536) : spec_Unit.f (k + 4) n = some (u1 n) := by
  unfold spec_Unit.f spec_bytesOf.f
  rw [and255 h0 (by omega), and255 (x := n / 256) (by omega) (by omega)]
  simp [spec_bytesOf.l0, rd, w64, u1]
theorem Units_tells (k : Nat) (c : Int) (h0 : 0 ≤ c) (h1 : c ≤ 1114111) : spec_Units.f (k + 4) c = some (u2 c) := by
  unfold spec_Units.f u2
  by_cases h : c < 65536
  · rw [if_pos h, if_pos h, Unit_tells k c h0 h]; rfl
  · rw [if_neg h, if_neg h]
    have e1 : wrap64 (c - 65536) = c - 65536 := w64 (by omega) (by omega)
    have e2 : wrap64 (55296 + (c - 65536) / 1024) = 55296 + (c - 65536) / 1024 := w64 (by omega) (by omega)
    have e3 : Go.bits .and .i64 (c - 65536) 1023 = (c - 65536) % 1024 := bits_mask .i64 63 (by decide) wraps_i64' 10 (by decide) _ (by omega) (by omega)
    have e4 : wrap64 (56320 + (c - 65536) % 1024) = 56320 + (c - 65536) % 1024 := w64 (by omega) (by omega)
    rw [e1, e2, e3, e4, Unit_tells k _ (by omega) (by omega), bind_at, Unit_tells k _ (by omega) (by omega), bind_at, if_pos (by rw [u1_size, u1_size]; decide)]

/-! ### the scanner's steps -/
theorem quote_is (q : ByteArray) (i : Nat) (hi : i < q.size) (hs : q.size ≤ 1099511627776) (h : bt q (i : Int) = 39) : spec_scan_is.f q (i : Int) false false 0 ⟨#[39]⟩ = some (true, q, (i : Int), false, false, 0) := by
  have e1 : wrap64 ((q.size : Int) - (i : Int)) = (q.size : Int) - (i : Int) := w64 (by omega) (by omega)
  have e2 : wrap64 ((i : Int) + 1) = (i : Int) + 1 := w64 (by omega) (by omega)
  unfold spec_scan_is.f
  have hsz : ((⟨#[39]⟩ : ByteArray).size : Int) = 1 := rfl
  rw [hsz, e1, e2, if_pos (by omega), if_pos (by omega), if_pos (by omega), if_pos (by omega)]
  have he : q.extract ((i : Int)).toNat ((i : Int) + 1).toNat = ⟨#[39]⟩ := by
    have e3 : ((i : Int) + 1).toNat = i + 1 := by omega
    rw [Int.toNat_natCast, e3]
    have hb := bt_get q i hi
    apply ByteArray.ext
    rw [ByteArray.data_extract]
    apply Array.ext'
    rw [Array.toList_extract, List.extract_eq_take_drop]
    have hl : i < q.data.toList.length := by rw [Array.length_toList]; exact hi
    rw [List.drop_eq_getElem_cons hl, Nat.add_sub_cancel_left]
    simp only [List.take_succ_cons, List.take_zero]
    have : q.data.toList[i] = 39 := by
      have e4 : (q[i]'hi) = q.data.toList[i] := rfl
      rw [← e4]
      apply UInt8.toNat_inj.1
      show (q[i]'hi).toNat = 39
      omega
    rw [this]
  rw [he, beq_self_eq_true]
theorem rune_f (q : ByteArray) (i : Nat) (hs : q.size ≤ 1099511627776) (k : Nat) : spec_scan_rune.f (k + 12) q (i : Int) false false 0 = some ((runeAt q (i : Int)).1, (runeAt q (i : Int)).2, q, (i : Int), false, false, 0) := by
  unfold spec_scan_rune.f
  rw [rune_tells q (by omega) _ k]
  rfl
theorem rune_f1 (q : ByteArray) (i : Nat) (hi : i < q.size) (hb : bt q (i : Int) < 128) (k : Nat) : spec_scan_rune.f (k + 1) q (i : Int) false false 0 = some (bt q (i : Int), 1, q, (i : Int), false, false, 0) := rune_at k q i false false 0 hi hb
theorem runeAt_39 (q : ByteArray) (i : Nat) (hi : i < q.size) (h : bt q (i : Int) = 39) : runeAt q (i : Int) = (39, 1) := by
  unfold runeAt runeOf
  rw [if_neg (by omega), h, if_pos (by decide)]
theorem step_plain {q : ByteArray} {j : Nat} {U : ByteArray} {i w : Nat} {T : ByteArray} {c : Int} (hs : q.size ≤ 1099511627776) (hw : i + w ≤ q.size) (hw0 : 0 < w) (hr : runeAt q (i : Int) = (c, (w : Int))) (hc0 : 0 ≤ c) (hc1 : c ≤ 1114111)
    (h39 : c ≠ 39) (h10 : c ≠ 10) (h13 : c ≠ 13) (h92 : c ≠ 92) (hT : T.size ≤ 1099511627776) (h : ∃ m, TR q j U m (i + w) (T ++ u2 c)) : ∃ m, TR q j U m i T := by
  obtain ⟨m, h⟩ := h
  have hb : bt q (i : Int) ≠ 39 := fun e => by
    rw [runeAt_39 q i (by omega) e] at hr
    injection hr with h1 h2
    exact h39 h1.symm
  have e := rune_f q i hs 4
  rw [hr] at e
  have hu := u2_size c
  exact ⟨m + 1, TR.plain m i (i + w) 16 T (u2 c) c (w : Int) (by omega) (is_not q i false false 0 39 [] (by omega) hs (by decide) (by simpa using hb)) e (by omega) h10 h13 h92
    (by rw [w64 (by omega) (by omega)]; omega) (Units_tells 12 c hc0 hc1) (by omega) h⟩
theorem step_esc {q : ByteArray} {j : Nat} {U : ByteArray} {i i2 k : Nat} {T u : ByteArray} (hs : q.size ≤ 1099511627776) (hi : i + 1 < q.size) (h92 : bt q (i : Int) = 92)
    (he : spec_scan_escape.f (k + 1) q ((i + 1 : Nat) : Int) false false 0 false = some (u, false, true, q, (i2 : Int), false, false, 0)) (hu : u.size ≤ 4) (hT : T.size ≤ 1099511627776) (h : ∃ m, TR q j U m i2 (T ++ u)) : ∃ m, TR q j U m i T := by
  obtain ⟨m, h⟩ := h
  have e := rune_f1 q i (by omega) (by omega) k
  rw [h92] at e
  exact ⟨m + 1, TR.esc m i i2 (k + 1) T u (by omega) (is_not q i false false 0 39 [] (by omega) hs (by decide) (by simp; omega)) e (by rw [show wrap64 ((i : Int) + 1) = ((i + 1 : Nat) : Int) by rw [w64 (by omega) (by omega)]; rfl]; exact he) (by omega) h⟩
/-- The escapes of one letter. -/
def escOf (x : Int) : Option Int := if x = 98 then some 8 else if x = 116 then some 9 else if x = 110 then some 10 else if x = 102 then some 12 else if x = 114 then some 13 else if x = 92 then some 92 else none
theorem u2_small (n : Int) (h : n < 65536) : u2 n = u1 n := by unfold u2; rw [if_pos h]
theorem escape_one (q : ByteArray) (i : Nat) (hs : q.size ≤ 1099511627776) (hi : i < q.size) (x v : Int) (hx : bt q (i : Int) = x) (hv : escOf x = some v) :
    spec_scan_escape.f 16 q (i : Int) false false 0 false = some (u1 v, false, true, q, ((i + 1 : Nat) : Int), false, false, 0) := by
  have hw : wrap64 ((i : Int) + 1) = ((i + 1 : Nat) : Int) := by rw [w64 (by omega) (by omega)]; rfl
  unfold escOf at hv
  have hx128 : x < 128 := by
    by_cases h : x < 128
    · exact h
    · rw [if_neg (by omega), if_neg (by omega), if_neg (by omega), if_neg (by omega), if_neg (by omega), if_neg (by omega)] at hv; cases hv
  have e := rune_f1 q i hi (by omega) 15
  rw [hx] at e
  have z1 : ¬ ((1 : Int) = 0) := by decide
  unfold spec_scan_escape.f
  rw [e, bind_at, if_neg z1]
  simp only []
  rw [hw]
  by_cases h1 : x = 98
  · subst h1; rw [if_pos rfl] at hv; obtain rfl := Option.some.inj hv
    rw [if_pos rfl, Unit_tells 12 8 (by decide) (by decide)]; rfl
  rw [if_neg h1] at hv ⊢
  by_cases h2 : x = 116
  · subst h2; rw [if_pos rfl] at hv; obtain rfl := Option.some.inj hv
    rw [if_pos rfl, Unit_tells 12 9 (by decide) (by decide)]; rfl
  rw [if_neg h2] at hv ⊢
  by_cases h3 : x = 110
  · subst h3; rw [if_pos rfl] at hv; obtain rfl := Option.some.inj hv
    rw [if_pos rfl, Unit_tells 12 10 (by decide) (by decide)]; rfl
  rw [if_neg h3] at hv ⊢
  by_cases h4 : x = 102
  · subst h4; rw [if_pos rfl] at hv; obtain rfl := Option.some.inj hv
    rw [if_neg (by decide), if_pos rfl, Unit_tells 12 12 (by decide) (by decide)]; rfl
  rw [if_neg h4] at hv
  by_cases h5 : x = 114
  · subst h5; rw [if_pos rfl] at hv; obtain rfl := Option.some.inj hv
    rw [if_neg (by decide), if_neg (by decide), if_pos rfl, Unit_tells 12 13 (by decide) (by decide)]; rfl
  rw [if_neg h5] at hv
  by_cases h6 : x = 92
  · subst h6; rw [if_pos rfl] at hv; obtain rfl := Option.some.inj hv
    rw [if_neg (by decide), if_neg (by decide), if_neg (by decide), if_neg (by decide), if_neg (by decide), if_neg (by decide), if_neg (by decide), if_neg (by decide), if_neg (by decide), Digit_tells, bind_at, if_neg (by decide), Units_tells 12 92 (by decide) (by decide), u2_small 92 (by decide)]; rfl
  · rw [if_neg h6] at hv; cases hv

/-! ### hexadecimal digits -/
def hexd (n : Int) : Int := bt (⟨#[48, 49, 50, 51, 52, 53, 54, 55, 56, 57, 65, 66, 67, 68, 69, 70]⟩ : ByteArray) n
theorem hexd_all : ∀ n : Fin 16, spec_Hex.f (wrap64 (hexd (n.val : Int))) = some (n.val : Int) ∧ 48 ≤ hexd (n.val : Int) ∧ hexd (n.val : Int) ≤ 70 := by decide +kernel
theorem hexd_at {n : Int} (h0 : 0 ≤ n) (h1 : n < 16) : spec_Hex.f (wrap64 (hexd n)) = some n ∧ 48 ≤ hexd n ∧ hexd n ≤ 70 := by
  have := hexd_all ⟨n.toNat, by omega⟩
  have e : ((n.toNat : Nat) : Int) = n := by omega
  simp only [e] at this
  exact this
theorem hexd_eq (n : Int) : bt (⟨#[48, 49, 50, 51, 52, 53, 54, 55, 56, 57, 65, 66, 67, 68, 69, 70]⟩ : ByteArray) n = hexd n := rfl
attribute [irreducible] hexd
theorem hex_step (k : Nat) (q : ByteArray) (hs : q.size ≤ 1099511627776) (i : Nat) (hi : i < q.size) (d acc : Int) (n : Nat) (hd0 : 0 ≤ d) (hd1 : d < 16) (hb : bt q (i : Int) = hexd d) (ha0 : 0 ≤ acc) (ha1 : acc < 65536) (hn : n < 4) :
    spec_scan_hex.l0 (k + 1) 4 acc (n : Int) q (i : Int) false false 0 = spec_scan_hex.l0 k 4 (16 * acc + d) ((n + 1 : Nat) : Int) q ((i + 1 : Nat) : Int) false false 0 := by
  have h := hexd_at hd0 hd1
  rw [spec_scan_hex.l0, if_pos (by omega), if_neg (by omega), if_pos (by omega), if_pos (by omega), hb, h.1, bind_at, if_neg (by omega), bind_at]
  rw [w64 (x := 16 * acc) (by omega) (by omega), w64 (x := 16 * acc + d) (by omega) (by omega), w64 (x := (n : Int) + 1) (by omega) (by omega), w64 (x := (i : Int) + 1) (by omega) (by omega)]
  rfl
theorem hex_end (k : Nat) (q : ByteArray) (i : Int) (acc n : Int) (hn : ¬ n < 4) : spec_scan_hex.l0 (k + 1) 4 acc n q i false false 0 = some (acc, true, q, i, false, false, 0) := by
  rw [spec_scan_hex.l0, if_neg hn]
theorem hex_four (k : Nat) (q : ByteArray) (hs : q.size ≤ 1099511627776) (i : Nat) (hi : i + 4 ≤ q.size) (v d3 d2 d1 d0 : Int)
    (h3 : 0 ≤ d3 ∧ d3 < 16) (h2 : 0 ≤ d2 ∧ d2 < 16) (h1 : 0 ≤ d1 ∧ d1 < 16) (h0 : 0 ≤ d0 ∧ d0 < 16) (hv : v = ((d3 * 16 + d2) * 16 + d1) * 16 + d0)
    (b3 : bt q (i : Int) = hexd d3) (b2 : bt q ((i + 1 : Nat) : Int) = hexd d2) (b1 : bt q ((i + 1 + 1 : Nat) : Int) = hexd d1) (b0 : bt q ((i + 1 + 1 + 1 : Nat) : Int) = hexd d0) :
    spec_scan_hex.f (k + 1 + 1 + 1 + 1 + 1) q (i : Int) false false 0 4 = some (v, true, q, ((i + 1 + 1 + 1 + 1 : Nat) : Int), false, false, 0) := by
  have s1 := hex_step (k + 1 + 1 + 1 + 1) q hs i (by omega) d3 0 0 h3.1 h3.2 b3 (by omega) (by omega) (by omega)
  have s2 := hex_step (k + 1 + 1 + 1) q hs (i + 1) (by omega) d2 (16 * 0 + d3) (0 + 1) h2.1 h2.2 b2 (by omega) (by omega) (by omega)
  have s3 := hex_step (k + 1 + 1) q hs (i + 1 + 1) (by omega) d1 (16 * (16 * 0 + d3) + d2) (0 + 1 + 1) h1.1 h1.2 b1 (by omega) (by omega) (by omega)
  have s4 := hex_step (k + 1) q hs (i + 1 + 1 + 1) (by omega) d0 (16 * (16 * (16 * 0 + d3) + d2) + d1) (0 + 1 + 1 + 1) h0.1 h0.2 b0 (by omega) (by omega) (by omega)
  have s5 := hex_end k q ((i + 1 + 1 + 1 + 1 : Nat) : Int) (16 * (16 * (16 * (16 * 0 + d3) + d2) + d1) + d0) ((0 + 1 + 1 + 1 + 1 : Nat) : Int) (by decide)
  have ev : 16 * (16 * (16 * (16 * 0 + d3) + d2) + d1) + d0 = v := by omega
  rw [ev] at s5 s4
  exact s1.trans (s2.trans (s3.trans (s4.trans s5)))
theorem escape_hex (q : ByteArray) (i : Nat) (hs : q.size ≤ 1099511627776) (hi : i + 5 ≤ q.size) (v d3 d2 d1 d0 : Int) (hu : bt q (i : Int) = 117)
    (h3 : 0 ≤ d3 ∧ d3 < 16) (h2 : 0 ≤ d2 ∧ d2 < 16) (h1 : 0 ≤ d1 ∧ d1 < 16) (h0 : 0 ≤ d0 ∧ d0 < 16) (hv : v = ((d3 * 16 + d2) * 16 + d1) * 16 + d0)
    (b3 : bt q ((i + 1 : Nat) : Int) = hexd d3) (b2 : bt q ((i + 2 : Nat) : Int) = hexd d2) (b1 : bt q ((i + 3 : Nat) : Int) = hexd d1) (b0 : bt q ((i + 4 : Nat) : Int) = hexd d0) :
    spec_scan_escape.f 16 q (i : Int) false false 0 false = some (u1 v, false, true, q, ((i + 5 : Nat) : Int), false, false, 0) := by
  have hi0 : i < q.size := by clear b3 b2 b1 b0 hv hu; omega
  have hi1' : i + 1 < q.size := by clear b3 b2 b1 b0 hv hu; omega
  have hw : wrap64 ((i : Int) + 1) = ((i + 1 : Nat) : Int) := by clear b3 b2 b1 b0 hv hu; rw [w64 (by omega) (by omega)]; rfl
  have e := rune_f1 q i hi0 (by rw [hu]; decide) 15
  rw [hu] at e
  have z1 : ¬ ((1 : Int) = 0) := by decide
  have hd := (hexd_at h3.1 h3.2).2
  have hne : bt q ((i + 1 : Nat) : Int) ≠ 123 := by rw [b3]; generalize hexd d3 = x at hd; clear b3 b2 b1 b0 hv hu; omega
  have hi1 : spec_scan_is.f q ((i + 1 : Nat) : Int) false false 0 ⟨#[123]⟩ = some (false, q, ((i + 1 : Nat) : Int), false, false, 0) := is_not q (i + 1) false false 0 123 [] hi1' hs (by decide) hne
  have hv0 : 0 ≤ v ∧ v < 65536 := by clear b3 b2 b1 b0 hu; omega
  have hh : spec_scan_hex.f 16 q ((i + 1 : Nat) : Int) false false 0 4 = some (v, true, q, ((i + 5 : Nat) : Int), false, false, 0) := hex_four 11 q hs (i + 1) (by clear b3 b2 b1 b0 hv hu; omega) v d3 d2 d1 d0 h3 h2 h1 h0 hv b3 b2 b1 b0
  have hp : spec_scan_point.f 16 q ((i + 1 : Nat) : Int) false false 0 = some (v, true, q, ((i + 5 : Nat) : Int), false, false, 0) := by
    unfold spec_scan_point.f
    rw [hi1, bind_at, if_neg Bool.false_ne_true]
    simp only []
    rw [hh]
    rfl
  unfold spec_scan_escape.f
  rw [e, bind_at, if_neg z1]
  simp only []
  rw [hw, if_neg (by decide), if_neg (by decide), if_neg (by decide), if_neg (by decide), if_neg (by decide), if_neg (by decide), if_neg (by decide), if_pos trivial, hp, bind_at]
  simp only []
  rw [Units_tells 12 v hv0.1 (by have := hv0.2; clear b3 b2 b1 b0 hv hu; omega), u2_small v hv0.2]
  rfl
end Go.Proofs.Ytmgepjnaalnckaa.PureJ
