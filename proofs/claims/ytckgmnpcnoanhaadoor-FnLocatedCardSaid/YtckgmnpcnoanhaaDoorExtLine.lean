/- Code points, lines and their ends in a text: plain facts. -/
import Derived.Test.YtckgmnpcnoanhaaDoorPFnLocatedx2
import Derived.KernelRfl
import Derived.Laws.BitsLemmas
import Derived.Laws.RangeAny
import Derived.Shelf.Unicode.DecodeAny
import Derived.Stop.FmtQuoteTie
import Derived.Lib.SpaceUEq
import Derived.Lib.TrimUEq
import Derived.Lib.TrimAscii
import Derived.Lib.DecodeN
namespace Go.Proofs.YtckgmnpcnoanhaaDoor
open Go Go.RowKit Go.Proofs.YtckgmnpcnoanhaaDoor.PFnLocated Go.Proofs.YtckgmnpcnoanhaaDoorW.PrintWords Go.Proofs.YtckgmnpcnoanhaaDoorW.PrintLast
set_option linter.unusedSectionVars false
/-! ### single bytes -/
theorem byte_cont64 : ∀ m : Fin 256, (Go.bits .and .i64 (m.val : Int) 192 = 128) ↔ (128 ≤ (m.val : Int) ∧ (m.val : Int) < 192) := by decide +kernel
theorem byte_low64 : ∀ m : Fin 256, Go.bits .and .i64 (m.val : Int) 63 = (m.val : Int) % 64 ∧ Go.bits .and .i64 (m.val : Int) 31 = (m.val : Int) % 32 ∧ Go.bits .and .i64 (m.val : Int) 15 = (m.val : Int) % 16 ∧ Go.bits .and .i64 (m.val : Int) 7 = (m.val : Int) % 8 := by decide +kernel
theorem byte_cont8 : ∀ m : Fin 256, (Go.bits .and .u8 (m.val : Int) 192 = 128) ↔ (128 ≤ (m.val : Int) ∧ (m.val : Int) < 192) := by decide +kernel
theorem fin_of {x : Int} (h0 : 0 ≤ x) (h1 : x ≤ 255) : ∃ m : Fin 256, (m.val : Int) = x := ⟨⟨x.toNat, by omega⟩, by simp; omega⟩
theorem cont64 {x : Int} (h0 : 0 ≤ x) (h1 : x ≤ 255) : (Go.bits .and .i64 x 192 = 128) ↔ (128 ≤ x ∧ x < 192) := by
  obtain ⟨m, rfl⟩ := fin_of h0 h1; exact byte_cont64 m
theorem low64 {x : Int} (h0 : 0 ≤ x) (h1 : x ≤ 255) : Go.bits .and .i64 x 63 = x % 64 ∧ Go.bits .and .i64 x 31 = x % 32 ∧ Go.bits .and .i64 x 15 = x % 16 ∧ Go.bits .and .i64 x 7 = x % 8 := by
  obtain ⟨m, rfl⟩ := fin_of h0 h1; exact byte_low64 m
theorem cont8 {x : Int} (h0 : 0 ≤ x) (h1 : x ≤ 255) : (Go.bits .and .u8 x 192 = 128) ↔ (128 ≤ x ∧ x < 192) := by
  obtain ⟨m, rfl⟩ := fin_of h0 h1; exact byte_cont8 m
theorem wraps_i64' (n : Int) (h₀ : 0 ≤ n) (h₁ : n < 2 ^ 63) : IntKind.i64.wrap n = n := by rw [IntKind.wrap_i64]; omega
theorem or64 {x y : Int} (i : Nat) (hx0 : 0 ≤ x) (hx : x % 2 ^ i = 0) (hx1 : x < 2 ^ 63) (hy0 : 0 ≤ y) (hy : y < 2 ^ i) (hy1 : y < 2 ^ 63) : Go.bits .or .i64 x y = x + y :=
  bits_join .i64 63 (by decide) wraps_i64' i x y hx0 hx hx1 hy0 hy hy1
theorem w64 {x : Int} (h0 : 0 ≤ x) (h1 : x < 9223372036854775808) : wrap64 x = x := by unfold wrap64; omega
theorem w32 {x : Int} (h0 : 0 ≤ x) (h1 : x < 2147483648) : wrap32 x = x := by unfold wrap32; omega

/-! ### the reference's reader of one code point, closed -/
/-- The code point that stands at place i, and how many bytes it has; 0 bytes: there is no whole one. -/
def runeOf (n b0 b1 b2 b3 : Int) : Int × Int :=
  if b0 < 128 then (b0, 1)
  else if 194 ≤ b0 ∧ b0 ≤ 223 then (if 2 ≤ n ∧ 128 ≤ b1 ∧ b1 < 192 then (b0 % 32 * 64 + b1 % 64, 2) else (0, 0))
  else if 224 ≤ b0 ∧ b0 ≤ 239 then (if 3 ≤ n ∧ (128 ≤ b1 ∧ b1 < 192) ∧ (128 ≤ b2 ∧ b2 < 192) ∧ 2048 ≤ (b0 % 16 * 64 + b1 % 64) * 64 + b2 % 64 ∧ ¬ (55296 ≤ (b0 % 16 * 64 + b1 % 64) * 64 + b2 % 64 ∧ (b0 % 16 * 64 + b1 % 64) * 64 + b2 % 64 ≤ 57343) then ((b0 % 16 * 64 + b1 % 64) * 64 + b2 % 64, 3) else (0, 0))
  else if 240 ≤ b0 ∧ b0 ≤ 244 then (if 4 ≤ n ∧ (128 ≤ b1 ∧ b1 < 192) ∧ (128 ≤ b2 ∧ b2 < 192) ∧ (128 ≤ b3 ∧ b3 < 192) ∧ 65536 ≤ ((b0 % 8 * 64 + b1 % 64) * 64 + b2 % 64) * 64 + b3 % 64 ∧ ((b0 % 8 * 64 + b1 % 64) * 64 + b2 % 64) * 64 + b3 % 64 ≤ 1114111 then (((b0 % 8 * 64 + b1 % 64) * 64 + b2 % 64) * 64 + b3 % 64, 4) else (0, 0))
  else (0, 0)
def runeAt (s : ByteArray) (i : Int) : Int × Int := if i < 0 ∨ i ≥ (s.size : Int) then (0, 0) else runeOf ((s.size : Int) - i) (bt s i) (bt s (i + 1)) (bt s (i + 2)) (bt s (i + 3))

section
variable {s : ByteArray} {i : Int} (hs : s.size ≤ 140737488351232) (h0 : 0 ≤ i) (h1 : i < (s.size : Int))
include hs h0 h1
theorem l0_step {k : Nat} {n r least j : Int} (hj0 : 0 ≤ j) (hj4 : j < 4) (hj : j < n) (hb : i + j < (s.size : Int)) (hr0 : 0 ≤ r) (hr1 : r < 2097152) (hc : 128 ≤ bt s (i + j) ∧ bt s (i + j) < 192) :
    spec_Rune.l0 (k + 1) s i n r least j = spec_Rune.l0 k s i n (r * 64 + bt s (i + j) % 64) least (j + 1) := by
  have hbt := bt_range s (i + j)
  have e1 : wrap64 (i + j) = i + j := w64 (by omega) (by omega)
  have e2 : wrap64 (bt s (i + j)) = bt s (i + j) := w64 (by omega) (by omega)
  have e3 : wrap64 (r * 64) = r * 64 := w64 (by omega) (by omega)
  have e4 : wrap64 (j + 1) = j + 1 := w64 (by omega) (by omega)
  have e5 := (low64 hbt.1 hbt.2).1
  simp only [spec_Rune.l0, e1, e2, e3, e4, e5]
  rw [if_pos hj, if_pos (by omega), if_pos hb, if_pos ((cont64 hbt.1 hbt.2).2 hc), or64 6 (by omega) (by omega) (by omega) (by omega) (by omega) (by omega)]
theorem l0_bad {k : Nat} {n r least j : Int} (hj0 : 0 ≤ j) (hj4 : j < 4) (hj : j < n) (hb : i + j < (s.size : Int)) (hc : ¬ (128 ≤ bt s (i + j) ∧ bt s (i + j) < 192)) :
    spec_Rune.l0 (k + 1) s i n r least j = some (0, 0) := by
  have hbt := bt_range s (i + j)
  have e1 : wrap64 (i + j) = i + j := w64 (by omega) (by omega)
  have e2 : wrap64 (bt s (i + j)) = bt s (i + j) := w64 (by omega) (by omega)
  simp only [spec_Rune.l0, e1, e2]
  rw [if_pos hj, if_pos (by omega), if_pos hb, if_neg (fun h => hc ((cont64 hbt.1 hbt.2).1 h))]
theorem l0_end {k : Nat} {n r least j : Int} (hj : ¬ j < n) :
    spec_Rune.l0 (k + 1) s i n r least j = some (if least ≤ r ∧ r ≤ 1114111 ∧ ¬ (55296 ≤ r ∧ r ≤ 57343) then (r, n) else (0, 0)) := by
  simp only [spec_Rune.l0]
  rw [if_neg hj]
  by_cases c1 : r < least
  · rw [if_pos c1, if_neg (by omega)]
  · rw [if_neg c1]
    by_cases c2 : r > 1114111
    · rw [if_pos c2, if_neg (by omega)]
    · rw [if_neg c2]
      by_cases c3 : r ≥ 55296
      · rw [if_pos c3]
        by_cases c4 : r ≤ 57343
        · rw [if_pos c4, if_neg (by omega)]
        · rw [if_neg c4, if_pos (by omega)]
      · rw [if_neg c3, if_pos (by omega)]
theorem j3_short {k : Nat} {n r least : Int} (hn : n ≠ 0) (hn4 : 0 ≤ n ∧ n ≤ 4) (hb : (s.size : Int) < i + n) : spec_Rune.j3 (k + 2) s i n r least = some (0, 0) := by
  have e1 : wrap64 (i + n) = i + n := w64 (by omega) (by omega)
  simp only [spec_Rune.j3, spec_Rune.j4, e1]
  rw [if_neg hn, if_pos (by simpa using hb)]
theorem j3_long {k : Nat} {n r least : Int} (hn : n ≠ 0) (hn4 : 0 ≤ n ∧ n ≤ 4) (hb : i + n ≤ (s.size : Int)) : spec_Rune.j3 (k + 2) s i n r least = spec_Rune.l0 k s i n r least 1 := by
  have e1 : wrap64 (i + n) = i + n := w64 (by omega) (by omega)
  simp only [spec_Rune.j3, spec_Rune.j4, e1]
  rw [if_neg hn, if_neg (by simp; omega)]

theorem rune_two (k : Nat) (r : Int) (hr : 0 ≤ r ∧ r < 32) (hr2 : 2 ≤ r) : spec_Rune.j3 (k + 4) s i 2 r 128 =
    some (if 2 ≤ (s.size : Int) - i ∧ 128 ≤ bt s (i + 1) ∧ bt s (i + 1) < 192 then (r * 64 + bt s (i + 1) % 64, 2) else (0, 0)) := by
  by_cases hb : i + 2 ≤ (s.size : Int)
  · rw [j3_long hs h0 h1 (by omega) (by omega) hb]
    by_cases hc : 128 ≤ bt s (i + 1) ∧ bt s (i + 1) < 192
    · rw [l0_step hs h0 h1 (by omega) (by omega) (by omega) (by omega) (by omega) (by omega) hc, l0_end hs h0 h1 (by omega), if_pos (by omega), if_pos (by omega)]
    · rw [l0_bad hs h0 h1 (by omega) (by omega) (by omega) (by omega) hc, if_neg (by omega)]
  · rw [j3_short hs h0 h1 (by omega) (by omega) (by omega), if_neg (by omega)]
theorem rune_three (k : Nat) (r : Int) (hr : 0 ≤ r ∧ r < 16) : spec_Rune.j3 (k + 5) s i 3 r 2048 =
    some (if 3 ≤ (s.size : Int) - i ∧ (128 ≤ bt s (i + 1) ∧ bt s (i + 1) < 192) ∧ (128 ≤ bt s (i + 2) ∧ bt s (i + 2) < 192) ∧ 2048 ≤ (r * 64 + bt s (i + 1) % 64) * 64 + bt s (i + 2) % 64 ∧ ¬ (55296 ≤ (r * 64 + bt s (i + 1) % 64) * 64 + bt s (i + 2) % 64 ∧ (r * 64 + bt s (i + 1) % 64) * 64 + bt s (i + 2) % 64 ≤ 57343) then ((r * 64 + bt s (i + 1) % 64) * 64 + bt s (i + 2) % 64, 3) else (0, 0)) := by
  by_cases hb : i + 3 ≤ (s.size : Int)
  · rw [j3_long hs h0 h1 (by omega) (by omega) hb]
    by_cases hc : 128 ≤ bt s (i + 1) ∧ bt s (i + 1) < 192
    · rw [l0_step hs h0 h1 (by omega) (by omega) (by omega) (by omega) (by omega) (by omega) hc]
      have e : (1 : Int) + 1 = 2 := rfl
      rw [e]
      by_cases hd : 128 ≤ bt s (i + 2) ∧ bt s (i + 2) < 192
      · rw [l0_step hs h0 h1 (by omega) (by omega) (by omega) (by omega) (by omega) (by omega) hd, l0_end hs h0 h1 (by omega)]
        by_cases hz : 2048 ≤ (r * 64 + bt s (i + 1) % 64) * 64 + bt s (i + 2) % 64 ∧ ¬ (55296 ≤ (r * 64 + bt s (i + 1) % 64) * 64 + bt s (i + 2) % 64 ∧ (r * 64 + bt s (i + 1) % 64) * 64 + bt s (i + 2) % 64 ≤ 57343)
        · rw [if_pos (by omega), if_pos ⟨by omega, hc, hd, hz⟩]
        · rw [if_neg (by omega), if_neg (fun h => hz h.2.2.2)]
      · rw [l0_bad hs h0 h1 (by omega) (by omega) (by omega) (by omega) hd, if_neg (fun h => hd h.2.2.1)]
    · rw [l0_bad hs h0 h1 (by omega) (by omega) (by omega) (by omega) hc, if_neg (fun h => hc h.2.1)]
  · rw [j3_short hs h0 h1 (by omega) (by omega) (by omega), if_neg (by omega)]
theorem rune_four (k : Nat) (r : Int) (hr : 0 ≤ r ∧ r < 8) : spec_Rune.j3 (k + 6) s i 4 r 65536 =
    some (if 4 ≤ (s.size : Int) - i ∧ (128 ≤ bt s (i + 1) ∧ bt s (i + 1) < 192) ∧ (128 ≤ bt s (i + 2) ∧ bt s (i + 2) < 192) ∧ (128 ≤ bt s (i + 3) ∧ bt s (i + 3) < 192) ∧ 65536 ≤ ((r * 64 + bt s (i + 1) % 64) * 64 + bt s (i + 2) % 64) * 64 + bt s (i + 3) % 64 ∧ ((r * 64 + bt s (i + 1) % 64) * 64 + bt s (i + 2) % 64) * 64 + bt s (i + 3) % 64 ≤ 1114111 then (((r * 64 + bt s (i + 1) % 64) * 64 + bt s (i + 2) % 64) * 64 + bt s (i + 3) % 64, 4) else (0, 0)) := by
  by_cases hb : i + 4 ≤ (s.size : Int)
  · rw [j3_long hs h0 h1 (by omega) (by omega) hb]
    by_cases hc : 128 ≤ bt s (i + 1) ∧ bt s (i + 1) < 192
    · rw [l0_step hs h0 h1 (by omega) (by omega) (by omega) (by omega) (by omega) (by omega) hc]
      have e : (1 : Int) + 1 = 2 := rfl
      rw [e]
      by_cases hd : 128 ≤ bt s (i + 2) ∧ bt s (i + 2) < 192
      · rw [l0_step hs h0 h1 (by omega) (by omega) (by omega) (by omega) (by omega) (by omega) hd]
        have e : (2 : Int) + 1 = 3 := rfl
        rw [e]
        by_cases hf : 128 ≤ bt s (i + 3) ∧ bt s (i + 3) < 192
        · rw [l0_step hs h0 h1 (by omega) (by omega) (by omega) (by omega) (by omega) (by omega) hf, l0_end hs h0 h1 (by omega)]
          by_cases hz : 65536 ≤ ((r * 64 + bt s (i + 1) % 64) * 64 + bt s (i + 2) % 64) * 64 + bt s (i + 3) % 64 ∧ ((r * 64 + bt s (i + 1) % 64) * 64 + bt s (i + 2) % 64) * 64 + bt s (i + 3) % 64 ≤ 1114111
          · rw [if_pos (by omega), if_pos ⟨by omega, hc, hd, hf, hz⟩]
          · rw [if_neg (by omega), if_neg (fun h => hz h.2.2.2.2)]
        · rw [l0_bad hs h0 h1 (by omega) (by omega) (by omega) (by omega) hf, if_neg (fun h => hf h.2.2.2.1)]
      · rw [l0_bad hs h0 h1 (by omega) (by omega) (by omega) (by omega) hd, if_neg (fun h => hd h.2.2.1)]
    · rw [l0_bad hs h0 h1 (by omega) (by omega) (by omega) (by omega) hc, if_neg (fun h => hc h.2.1)]
  · rw [j3_short hs h0 h1 (by omega) (by omega) (by omega), if_neg (by omega)]
end

theorem rune_tells (s : ByteArray) (hs : s.size ≤ 140737488351232) (i : Int) (k : Nat) : spec_Rune.f (k + 12) s i = some (runeAt s i) := by
  unfold spec_Rune.f runeAt
  by_cases h0 : i < 0
  · rw [if_pos h0, if_pos (Or.inl h0)]
    simp only [spec_Rune.j0, if_true]
  · rw [if_neg h0]
    by_cases h1 : i ≥ (s.size : Int)
    · rw [if_pos (Or.inr h1), decide_eq_true h1]
      simp only [spec_Rune.j0, if_true]
    · rw [if_neg (by omega), decide_eq_false h1]
      have hb := bt_range s i
      have e2 : wrap64 (bt s i) = bt s i := w64 (by omega) (by omega)
      have hl := low64 hb.1 hb.2
      simp only [spec_Rune.j0, e2, Bool.false_eq_true, if_false]
      rw [if_pos (by omega), if_pos (by omega)]
      unfold runeOf
      by_cases c0 : bt s i < 128
      · rw [if_pos c0, if_pos c0]
      rw [if_neg c0, if_neg c0]
      by_cases c1 : 194 ≤ bt s i ∧ bt s i ≤ 223
      · rw [if_pos c1, if_pos (show bt s i ≥ 194 from c1.1), decide_eq_true c1.2]
        simp only [spec_Rune.j1, if_true, hl.2.1]
        exact rune_two hs (by omega) (by omega) _ _ (by omega) (by omega)
      rw [if_neg c1]
      have e3 : (if bt s i ≥ 194 then spec_Rune.j1 (k + 11) s i (bt s i) 0 0 0 (decide (bt s i ≤ 223)) else spec_Rune.j1 (k + 11) s i (bt s i) 0 0 0 false) = spec_Rune.j1 (k + 11) s i (bt s i) 0 0 0 false := by
        by_cases c : bt s i ≥ 194
        · rw [if_pos c, decide_eq_false (by omega)]
        · rw [if_neg c]
      rw [e3]
      simp only [spec_Rune.j1, Bool.false_eq_true, if_false]
      by_cases c2 : 224 ≤ bt s i ∧ bt s i ≤ 239
      · rw [if_pos c2, if_pos (show bt s i ≥ 224 from c2.1), decide_eq_true c2.2]
        simp only [spec_Rune.j2, if_true, hl.2.2.1]
        exact rune_three hs (by omega) (by omega) _ _ (by omega)
      rw [if_neg c2]
      have e4 : (if bt s i ≥ 224 then spec_Rune.j2 (k + 10) s i (bt s i) 0 0 0 (decide (bt s i ≤ 239)) else spec_Rune.j2 (k + 10) s i (bt s i) 0 0 0 false) = spec_Rune.j2 (k + 10) s i (bt s i) 0 0 0 false := by
        by_cases c : bt s i ≥ 224
        · rw [if_pos c, decide_eq_false (by omega)]
        · rw [if_neg c]
      rw [e4]
      simp only [spec_Rune.j2, Bool.false_eq_true, if_false]
      by_cases c3 : 240 ≤ bt s i ∧ bt s i ≤ 244
      · rw [if_pos c3, if_pos (show bt s i ≥ 240 from c3.1), if_pos c3.2]
        simp only [hl.2.2.2]
        exact rune_four hs (by omega) (by omega) _ _ (by omega)
      · rw [if_neg c3]
        have e5 : ∀ x : Option (Int × Int), (if bt s i ≥ 240 then (if bt s i ≤ 244 then x else spec_Rune.j3 (k + 9) s i 0 0 0) else spec_Rune.j3 (k + 9) s i 0 0 0) = spec_Rune.j3 (k + 9) s i 0 0 0 := by
          intro x
          by_cases c : bt s i ≥ 240
          · rw [if_pos c, if_neg (by omega)]
          · rw [if_neg c]
        rw [e5]
        simp only [spec_Rune.j3, spec_Rune.j4, if_true]
/-! ### code points at a place, as Go's own decoders tell them -/
theorem bt_get (s : ByteArray) (j : Nat) : bt s (j : Int) = ((s.get! j).toNat : Int) := by
  by_cases h : j < s.size
  · have h2 : bt s (j : Int) = ((s[j]'h).toNat : Int) := by
      unfold bt
      rw [dif_pos (by omega)]
      simp
    rw [h2, Utf8W.get!_of_lt s j h]
  · have h2 : bt s (j : Int) = 0 := by
      unfold bt
      rw [dif_neg (by omega)]
    rw [h2]
    have : s.get! j = default := by
      unfold ByteArray.get!
      exact getElem!_neg s.data j (by simpa using h)
    rw [this]; rfl
/-- A whole code point stands at place i: c, of w bytes. -/
def Rn (s : ByteArray) (i : Nat) (c : Int) (w : Nat) : Prop := runeAt s (i : Int) = (c, (w : Int)) ∧ 0 < w
theorem Rn.facts {s : ByteArray} {i w : Nat} {c : Int} (h : Rn s i c w) : 0 ≤ c ∧ c ≤ 1114111 ∧ 0 < w ∧ w ≤ 4 ∧ i + w ≤ s.size ∧ (c < 128 → w = 1 ∧ bt s (i : Int) = c) ∧ ¬ (128 ≤ bt s (i : Int) ∧ bt s (i : Int) < 192) ∧ (bt s (i : Int) < 128 → c = bt s (i : Int)) ∧ (128 ≤ bt s (i : Int) → 128 ≤ c ∧ 1 < w) ∧ (1 < w → 128 ≤ bt s ((i : Int) + 1) ∧ bt s ((i : Int) + 1) < 192) ∧ (2 < w → 128 ≤ bt s ((i : Int) + 2) ∧ bt s ((i : Int) + 2) < 192) ∧ (3 < w → 128 ≤ bt s ((i : Int) + 3) ∧ bt s ((i : Int) + 3) < 192) := by
  obtain ⟨h, hw⟩ := h
  have hb := bt_range s (i : Int)
  have hb1 := bt_range s ((i : Int) + 1)
  have hb2 := bt_range s ((i : Int) + 2)
  have hb3 := bt_range s ((i : Int) + 3)
  revert h
  unfold runeAt runeOf
  generalize bt s (i : Int) = x0 at *
  generalize bt s ((i : Int) + 1) = x1 at *
  generalize bt s ((i : Int) + 2) = x2 at *
  generalize bt s ((i : Int) + 3) = x3 at *
  repeat' split
  all_goals
    intro h
    simp only [Prod.mk.injEq] at h
    obtain ⟨h1, h2⟩ := h
    refine ⟨?_, ?_, ?_, ?_, ?_, ?_, ?_, ?_, ?_, ?_, ?_, ?_⟩ <;> omega
theorem Rn.cont {s : ByteArray} {i w : Nat} {c : Int} (h : Rn s i c w) {j : Nat} (h1 : i < j) (h2 : j < i + w) : 128 ≤ bt s (j : Int) ∧ bt s (j : Int) < 192 := by
  obtain ⟨_, _, _, h4, _, _, _, _, _, c1, c2, c3⟩ := h.facts
  have hj : j = i + 1 ∨ j = i + 2 ∨ j = i + 3 := by omega
  rcases hj with rfl | rfl | rfl
  · have := c1 (by omega); simpa using this
  · have := c2 (by omega); simpa using this
  · have := c3 (by omega); simpa using this
theorem Rn.inj {s : ByteArray} {i w w' : Nat} {c c' : Int} (h : Rn s i c w) (h' : Rn s i c' w') : c = c' ∧ w = w' := by
  have := h.1.symm.trans h'.1
  simp only [Prod.mk.injEq] at this
  omega
/-- What Go's decoder tells of four bytes. -/
theorem Rn.dec {s : ByteArray} {i w : Nat} {c : Int} (h : Rn s i c w) (n : Nat) (hn : w ≤ n) (b1 b2 b3 : Nat) (e1 : 1 < w → (b1 : Int) = bt s ((i : Int) + 1)) (e2 : 2 < w → (b2 : Int) = bt s ((i : Int) + 2)) (e3 : 3 < w → (b3 : Int) = bt s ((i : Int) + 3)) (b0 : Nat) (e0 : (b0 : Int) = bt s (i : Int)) : Lib.decodeN n b0 b1 b2 b3 = (c.toNat, w) := by
  obtain ⟨h, hw⟩ := h
  have hb := bt_range s (i : Int)
  have hb1 := bt_range s ((i : Int) + 1)
  have hb2 := bt_range s ((i : Int) + 2)
  have hb3 := bt_range s ((i : Int) + 3)
  revert h
  unfold runeAt runeOf
  generalize bt s (i : Int) = x0 at *
  generalize bt s ((i : Int) + 1) = x1 at *
  generalize bt s ((i : Int) + 2) = x2 at *
  generalize bt s ((i : Int) + 3) = x3 at *
  by_cases hr : (i : Int) < 0 ∨ (i : Int) ≥ (s.size : Int)
  · rw [if_pos hr]
    intro h
    simp only [Prod.mk.injEq] at h
    omega
  rw [if_neg hr]
  by_cases q0 : x0 < 128
  · rw [if_pos q0]
    intro h
    simp only [Prod.mk.injEq] at h
    unfold Lib.decodeN
    rw [if_pos (by omega)]
    refine Prod.ext ?_ ?_
    · show b0 = c.toNat; omega
    · show 1 = w; omega
  rw [if_neg q0]
  by_cases q1 : 194 ≤ x0 ∧ x0 ≤ 223
  · rw [if_pos q1]
    split
    case isFalse => intro h; simp only [Prod.mk.injEq] at h; omega
    rename_i g
    intro h
    simp only [Prod.mk.injEq] at h
    have hw2 : w = 2 := by omega
    subst hw2
    have := e1 (by omega)
    clear e1 e2 e3
    unfold Lib.decodeN
    rw [if_neg (by omega), if_pos (by omega), if_pos (by omega)]
    refine Prod.ext ?_ rfl
    show _ = c.toNat
    omega
  rw [if_neg q1]
  by_cases q2 : 224 ≤ x0 ∧ x0 ≤ 239
  · rw [if_pos q2]
    split
    case isFalse => intro h; simp only [Prod.mk.injEq] at h; omega
    rename_i g
    intro h
    simp only [Prod.mk.injEq] at h
    have hw2 : w = 3 := by omega
    subst hw2
    have f1 := e1 (by omega)
    have f2 := e2 (by omega)
    clear e1 e2 e3
    unfold Lib.decodeN
    rw [if_neg (by omega), if_neg (by omega), if_pos (by omega), if_pos (by omega)]
    refine Prod.ext ?_ rfl
    show _ = c.toNat
    omega
  rw [if_neg q2]
  by_cases q3 : 240 ≤ x0 ∧ x0 ≤ 244
  · rw [if_pos q3]
    split
    case isFalse => intro h; simp only [Prod.mk.injEq] at h; omega
    rename_i g
    intro h
    simp only [Prod.mk.injEq] at h
    have hw2 : w = 4 := by omega
    subst hw2
    have f1 := e1 (by omega)
    have f2 := e2 (by omega)
    have f3 := e3 (by omega)
    clear e1 e2 e3
    unfold Lib.decodeN
    rw [if_neg (by omega), if_neg (by omega), if_neg (by omega), if_pos (by omega), if_pos (by omega)]
    refine Prod.ext ?_ rfl
    show _ = c.toNat
    omega
  rw [if_neg q3]
  intro h; simp only [Prod.mk.injEq] at h; omega
theorem bt_get1 (s : ByteArray) (i k : Nat) : ((s.get! (i + k)).toNat : Int) = bt s ((i : Int) + (k : Int)) := by
  rw [← bt_get]; congr 1
/-- Go's decoder of the first code point. -/
theorem Rn.first {s : ByteArray} {i w : Nat} {c : Int} (h : Rn s i c w) : Lib.decodeGo (s.extract i s.size) = (c.toNat, w) := by
  have hf := h.facts
  have hsz : (s.extract i s.size).size ≠ 0 := by simp; omega
  unfold Lib.decodeGo
  rw [if_neg hsz, Go.Extern.FmtText.decode_extract s i, Lib.decode_at]
  exact h.dec _ (by omega) _ _ _ (fun _ => bt_get1 s i 1) (fun _ => bt_get1 s i 2) (fun _ => bt_get1 s i 3) _ (bt_get s i).symm
theorem list_split (s : ByteArray) (i w : Nat) : (s.extract 0 (i + w)).data.toList = (s.extract 0 i).data.toList ++ (s.extract i (i + w)).data.toList := by
  have h : s.extract 0 (i + w) = s.extract 0 i ++ s.extract i (i + w) := by
    rw [ByteArray.extract_append_extract]
    congr 1 <;> omega
  rw [h, ByteArray.data_append, Array.toList_append]
theorem ext_list (s : ByteArray) (i w : Nat) (h : i + w ≤ s.size) : (s.extract i (i + w)).data.toList = (List.range w).map fun k => s.get! (i + k) := by
  have hl : (s.extract i (i + w)).data.toList.length = w := by
    rw [Array.length_toList]
    show (s.extract i (i + w)).size = _
    simp; omega
  refine List.ext_getElem (by rw [hl]; simp) fun k h1 h2 => ?_
  rw [hl] at h1
  rw [Array.getElem_toList, List.getElem_map, List.getElem_range, Utf8W.get!_of_lt s (i + k) (by omega)]
  show (s.extract i (i + w))[k]'(by simp; omega) = _
  rw [ByteArray.getElem_extract]
theorem last4 (t : List UInt8) (c0 c1 c2 c3 : UInt8) (h3 : 128 ≤ c3.toNat) (h2 : Lib.runeStartB c2 = false) (h1 : Lib.runeStartB c1 = false) (h0 : Lib.runeStartB c0 = true) (hd : (Lib.decodeL [c0, c1, c2, c3]).2 = 4) : Lib.decodeLastL (t ++ [c0, c1, c2, c3]) = Lib.decodeL [c0, c1, c2, c3] := by
  have g1 := Lib.getD_app_end t [c0, c1, c2, c3] 1 (by omega) (by simp)
  have g2 := Lib.getD_app_end t [c0, c1, c2, c3] 2 (by omega) (by simp)
  have g3 := Lib.getD_app_end t [c0, c1, c2, c3] 3 (by omega) (by simp)
  have g4 := Lib.getD_app_end t [c0, c1, c2, c3] 4 (by omega) (by simp)
  have hl : (t ++ [c0, c1, c2, c3]).length = t.length + 4 := by simp
  have hs : Lib.lastStart (t ++ [c0, c1, c2, c3]) = (t ++ [c0, c1, c2, c3]).length - 4 := by
    unfold Lib.lastStart
    simp only [g2, g3, g4]
    rw [if_neg (by omega)]
    simp only [List.length_cons, List.length_nil, List.getD_cons_succ, List.getD_cons_zero, Nat.reduceAdd, Nat.reduceSub, h2, h1, h0, Bool.false_eq_true, if_false, if_true]
    rw [if_neg (by omega), if_neg (by omega)]
  have hdrop := Lib.drop_app_end t [c0, c1, c2, c3]
  unfold Lib.decodeLastL
  rw [if_neg (by simp), g1, if_neg (by simp; omega), hs]
  simp only [List.length_cons, List.length_nil] at hdrop
  simp only [hdrop, hd]
  rw [if_pos (by omega)]
theorem start_of {b : UInt8} (h : ¬ (128 ≤ (b.toNat : Int) ∧ (b.toNat : Int) < 192)) : Lib.runeStartB b = true := by
  unfold Lib.runeStartB
  simp only [bne_iff_ne, ne_eq]
  omega
theorem cont_of {b : UInt8} (h : 128 ≤ (b.toNat : Int) ∧ (b.toNat : Int) < 192) : Lib.runeStartB b = false := by
  unfold Lib.runeStartB
  simp only [bne_eq_false_iff_eq]
  omega
/-- Go's decoder of the last code point. -/
theorem Rn.last {s : ByteArray} {i w : Nat} {c : Int} (h : Rn s i c w) : Lib.decodeLastL (s.extract 0 (i + w)).data.toList = (c.toNat, w) := by
  have hf := h.facts
  rw [list_split, ext_list s i w (by omega)]
  have b0 := (bt_get s i).symm
  have b1 := bt_get1 s i 1
  have b2 := bt_get1 s i 2
  have b3 := bt_get1 s i 3
  have hst := start_of (b := s.get! i) (by rw [b0]; exact hf.2.2.2.2.2.2.1)
  have hw : w = 1 ∨ w = 2 ∨ w = 3 ∨ w = 4 := by omega
  rcases hw with rfl | rfl | rfl | rfl
  · have e : (List.range 1).map (fun k => s.get! (i + k)) = [s.get! i] := rfl
    have hlt : bt s (i : Int) < 128 := by omega
    rw [e, Lib.decodeLastL_ascii _ _ (by omega)]
    refine Prod.ext ?_ rfl
    show (s.get! i).toNat = c.toNat
    have := hf.2.2.2.2.2.2.2.1 hlt
    omega
  · have e : (List.range 2).map (fun k => s.get! (i + k)) = [s.get! i, s.get! (i + 1)] := rfl
    have hd : Lib.decodeL [s.get! i, s.get! (i + 1)] = (c.toNat, 2) := by
      rw [Lib.decodeL_N]
      exact h.dec _ (Nat.le_refl _) _ _ _ (fun _ => b1) (fun h => by omega) (fun h => by omega) _ b0
    have k1 := hf.2.2.2.2.2.2.2.2.2.1 (by omega)
    have b1' : ((s.get! (i + 1)).toNat : Int) = bt s ((i : Int) + 1) := b1
    rw [e, Lib.last2 _ _ _ (by omega) hst (by rw [hd]), hd]
  · have e : (List.range 3).map (fun k => s.get! (i + k)) = [s.get! i, s.get! (i + 1), s.get! (i + 2)] := rfl
    have hd : Lib.decodeL [s.get! i, s.get! (i + 1), s.get! (i + 2)] = (c.toNat, 3) := by
      rw [Lib.decodeL_N]
      exact h.dec _ (Nat.le_refl _) _ _ _ (fun _ => b1) (fun _ => b2) (fun h => by omega) _ b0
    have k1 := hf.2.2.2.2.2.2.2.2.2.1 (by omega)
    have k2 := hf.2.2.2.2.2.2.2.2.2.2.1 (by omega)
    have b1' : ((s.get! (i + 1)).toNat : Int) = bt s ((i : Int) + 1) := b1
    have b2' : ((s.get! (i + 2)).toNat : Int) = bt s ((i : Int) + 2) := b2
    rw [e, Lib.last3 _ _ _ _ (by omega) (cont_of (by omega)) hst (by rw [hd]), hd]
  · have e : (List.range 4).map (fun k => s.get! (i + k)) = [s.get! i, s.get! (i + 1), s.get! (i + 2), s.get! (i + 3)] := rfl
    have hd : Lib.decodeL [s.get! i, s.get! (i + 1), s.get! (i + 2), s.get! (i + 3)] = (c.toNat, 4) := by
      rw [Lib.decodeL_N]
      exact h.dec _ (Nat.le_refl _) _ _ _ (fun _ => b1) (fun _ => b2) (fun _ => b3) _ b0
    have k1 := hf.2.2.2.2.2.2.2.2.2.1 (by omega)
    have k2 := hf.2.2.2.2.2.2.2.2.2.2.1 (by omega)
    have k3 := hf.2.2.2.2.2.2.2.2.2.2.2 (by omega)
    have b1' : ((s.get! (i + 1)).toNat : Int) = bt s ((i : Int) + 1) := b1
    have b2' : ((s.get! (i + 2)).toNat : Int) = bt s ((i : Int) + 2) := b2
    have b3' : ((s.get! (i + 3)).toNat : Int) = bt s ((i : Int) + 3) := b3
    rw [e, last4 _ _ _ _ _ (by omega) (cont_of (by omega)) (cont_of (by omega)) hst (by rw [hd]), hd]
/-! ### lines: their numbers, their starts, their ends -/
def isEnd (c : Int) : Bool := decide (c = 10 ∨ c = 13 ∨ c = 8232 ∨ c = 8233)
theorem isEnd_iff (c : Int) : isEnd c = true ↔ (c = 10 ∨ c = 13 ∨ c = 8232 ∨ c = 8233) := by unfold isEnd; exact decide_eq_true_iff
theorem isEnd_not (c : Int) : isEnd c = false ↔ ¬ (c = 10 ∨ c = 13 ∨ c = 8232 ∨ c = 8233) := by unfold isEnd; exact decide_eq_false_iff_not
/-- Does the code point c, which begins at i, end a line of its own? (LF behind CR does not.) -/
def adds (s : ByteArray) (i : Nat) (c : Int) : Bool := if c = 10 then decide (i = 0 ∨ bt s ((i : Int) - 1) ≠ 13) else isEnd c
/-- Of a place between code points: how many lines ended before it, and where its line begins. -/
inductive Tr (s : ByteArray) : Nat → Nat → Nat → Prop
  | zero : Tr s 0 0 0
  | next (i l ls w : Nat) (c : Int) : Tr s i l ls → Rn s i c w → Tr s (i + w) (if adds s i c then l + 1 else l) (if isEnd c then i + w else ls)
/-- Where the line ends that goes on at a place. -/
inductive EndAt (s : ByteArray) : Nat → Nat → Prop
  | last : EndAt s s.size s.size
  | stop (i w : Nat) (c : Int) : Rn s i c w → isEnd c = true → EndAt s i i
  | next (i w e : Nat) (c : Int) : Rn s i c w → isEnd c = false → EndAt s (i + w) e → EndAt s i e
theorem EndAt.bounds {s : ByteArray} {i e : Nat} (h : EndAt s i e) : i ≤ e ∧ e ≤ s.size := by
  induction h with
  | last => omega
  | stop i w c h _ => have := h.facts; omega
  | next i w e c h _ _ ih => have := h.facts; omega
theorem Rn.not_size {s : ByteArray} {w : Nat} {c : Int} (h : Rn s s.size c w) : False := by have := h.facts; omega
theorem EndAt.fwd {s : ByteArray} {i w e : Nat} {c : Int} (h : EndAt s i e) (hr : Rn s i c w) (hn : isEnd c = false) : EndAt s (i + w) e := by
  cases h with
  | last => exact hr.not_size.elim
  | stop _ w' c' h' he => rw [(hr.inj h').1, he] at hn; cases hn
  | next _ w' _ c' h' _ h2 => rw [(hr.inj h').2]; exact h2
theorem EndAt.inj {s : ByteArray} {i e e' : Nat} (h : EndAt s i e) (h' : EndAt s i e') : e = e' := by
  induction h with
  | last =>
    cases h' with
    | last => rfl
    | stop _ w' c' h' he => exact h'.not_size.elim
    | next _ w' _ c' h' _ h2 => exact h'.not_size.elim
  | stop i w c h he =>
    cases h' with
    | last => exact h.not_size.elim
    | stop => rfl
    | next _ w' _ c' h' hn h2 => rw [(h'.inj h).1, he] at hn; cases hn
  | next i w e c h hn _ ih => exact ih (h'.fwd h hn)
theorem Tr.bounds {s : ByteArray} {i l ls : Nat} (h : Tr s i l ls) : l ≤ i ∧ ls ≤ i ∧ i ≤ s.size := by
  induction h with
  | zero => omega
  | next i l ls w c _ h ih =>
    have := h.facts
    refine ⟨?_, ?_, by omega⟩
    · split <;> omega
    · split <;> omega
theorem Tr.back {s : ByteArray} {j l ls : Nat} (h : Tr s j l ls) (hj : 0 < j) : ∃ i l' ls' w c, Tr s i l' ls' ∧ Rn s i c w ∧ j = i + w ∧ l = (if adds s i c then l' + 1 else l') ∧ ls = (if isEnd c then i + w else ls') := by
  cases h with
  | zero => omega
  | next i l' ls' w c h hr => exact ⟨i, l', ls', w, c, h, hr, rfl, rfl, rfl⟩
theorem Rn.same {s : ByteArray} {i i' w w' : Nat} {c c' : Int} (h : Rn s i c w) (h' : Rn s i' c' w') (e : i + w = i' + w') : i = i' ∧ c = c' ∧ w = w' := by
  have h1 := h.last
  have h2 := h'.last
  rw [e] at h1
  have e2 := h1.symm.trans h2
  simp only [Prod.mk.injEq] at e2
  have f1 := h.facts
  have f2 := h'.facts
  omega
theorem Tr.inj {s : ByteArray} {i l ls l' ls' : Nat} (h : Tr s i l ls) (h' : Tr s i l' ls') : l = l' ∧ ls = ls' := by
  induction h generalizing l' ls' with
  | zero =>
    generalize hz : 0 = z at h'
    cases h' with
    | zero => exact ⟨rfl, rfl⟩
    | next i l' ls' w c h hr => have := hr.facts; omega
  | next i l ls w c h hr ih =>
    have hw := hr.facts
    obtain ⟨i2, l2, ls2, w2, c2, t2, r2, e, e1, e2⟩ := h'.back (by omega)
    obtain ⟨rfl, rfl, rfl⟩ := hr.same r2 e
    obtain ⟨rfl, rfl⟩ := ih t2
    exact ⟨e1.symm, e2.symm⟩
/-- The line of a place goes on from where it begins. -/
theorem Tr.ends {s : ByteArray} {i l ls e : Nat} (h : Tr s i l ls) (he : EndAt s i e) : EndAt s ls e := by
  induction h with
  | zero => exact he
  | next i l ls w c h hr ih =>
    by_cases hc : isEnd c = true
    · rw [if_pos hc]; exact he
    · rw [if_neg hc]
      exact ih (.next i w e c hr (by simpa using hc) he)
/-- A text is well-formed: from every place between code points the next one can be read. -/
def Wf (s : ByteArray) : Prop := ∀ i l ls, Tr s i l ls → i < s.size → ∃ c w, Rn s i c w
/-- A place at which no code point goes on. -/
def Sp (s : ByteArray) (i : Nat) : Prop := i ≤ s.size ∧ (i < s.size → ¬ (128 ≤ bt s (i : Int) ∧ bt s (i : Int) < 192))
theorem Sp.not_in {s : ByteArray} {i j w : Nat} {c : Int} (h : Sp s j) (hr : Rn s i c w) (h1 : i < j) : i + w ≤ j := by
  rcases Nat.lt_or_ge j (i + w) with h2 | h2
  · have hw := hr.facts
    exact absurd (hr.cont h1 h2) (h.2 (by omega))
  · exact h2
theorem Tr.sp {s : ByteArray} {i l ls : Nat} (h : Tr s i l ls) (hW : Wf s) : Sp s i := by
  refine ⟨h.bounds.2.2, fun hi => ?_⟩
  obtain ⟨c, w, hr⟩ := hW i l ls h hi
  exact hr.facts.2.2.2.2.2.2.1
theorem Wf.end_of {s : ByteArray} (hW : Wf s) : ∀ d i l ls, s.size - i = d → Tr s i l ls → ∃ e, EndAt s i e := by
  intro d
  induction d using Nat.strongRecOn with
  | _ d ih =>
    intro i l ls hd h
    have hb := h.bounds
    rcases Nat.lt_or_ge i s.size with hi | hi
    · obtain ⟨c, w, hr⟩ := hW i l ls h hi
      have hf := hr.facts
      by_cases hc : isEnd c = true
      · exact ⟨i, .stop i w c hr hc⟩
      · obtain ⟨e, he⟩ := ih (s.size - (i + w)) (by omega) (i + w) _ _ rfl (.next i l ls w c h hr)
        exact ⟨e, .next i w e c hr (by simpa using hc) he⟩
    · obtain rfl : i = s.size := by omega
      exact ⟨_, .last⟩
/-- Every place at which no code point goes on is between code points. -/
theorem Wf.tr_of {s : ByteArray} (hW : Wf s) {j : Nat} (hj : Sp s j) : ∀ d i l ls, j - i = d → i ≤ j → Tr s i l ls → ∃ l' ls', Tr s j l' ls' := by
  intro d
  induction d using Nat.strongRecOn with
  | _ d ih =>
    intro i l ls hd hle h
    rcases Nat.lt_or_ge i j with hi | hi
    · obtain ⟨c, w, hr⟩ := hW i l ls h (by have := hj.1; omega)
      have hf := hr.facts
      exact ih (j - (i + w)) (by omega) (i + w) _ _ rfl (hj.not_in hr hi) (.next i l ls w c h hr)
    · obtain rfl : i = j := by omega
      exact ⟨l, ls, h⟩
/-- What the tracker holds of a place: its line's number; its line's start, if that is told to be known; its line's end, if that is told to be known. -/
def Good (s : ByteArray) (i : Nat) (l ls le : Nat) (hs he : Bool) : Prop := ls ≤ s.size ∧ le ≤ s.size ∧ ∃ ls0, Tr s i l ls0 ∧ (hs = true → ls = ls0) ∧ (he = true → EndAt s i le)
theorem Good.fwd_end {s : ByteArray} {i l ls le w : Nat} {c : Int} {hs he : Bool} (h : Good s i l ls le hs he) (hr : Rn s i c w) (hc : isEnd c = true) : Good s (i + w) (if adds s i c then l + 1 else l) (i + w) le true false := by
  obtain ⟨_, h2, ls0, ht, h3, h4⟩ := h
  have hf := hr.facts
  refine ⟨by omega, h2, i + w, ?_, fun _ => rfl, fun hx => by cases hx⟩
  have := Tr.next i l ls0 w c ht hr
  rw [if_pos hc] at this
  exact this
theorem Good.fwd {s : ByteArray} {i l ls le w : Nat} {c : Int} {hs he : Bool} (h : Good s i l ls le hs he) (hr : Rn s i c w) (hc : isEnd c = false) : Good s (i + w) l ls le hs he := by
  obtain ⟨h1, h2, ls0, ht, h3, h4⟩ := h
  refine ⟨h1, h2, ls0, ?_, h3, fun hx => (h4 hx).fwd hr hc⟩
  have := Tr.next i l ls0 w c ht hr
  rw [hc] at this
  have ha : adds s i c = false := by
    unfold adds
    rw [isEnd_not] at hc
    rw [if_neg (by omega)]
    rw [isEnd_not]; exact hc
  rw [ha] at this
  exact this
theorem Good.back {s : ByteArray} {j l ls le : Nat} {hs he : Bool} (h : Good s j l ls le hs he) (hj : 0 < j) : ∃ i w c l', Rn s i c w ∧ j = i + w ∧ l = (if adds s i c then l' + 1 else l') ∧
    ((isEnd c = true ∧ Good s i l' ls i false true) ∨ (isEnd c = false ∧ Good s i l ls le hs he)) := by
  obtain ⟨h1, h2, ls0, ht, h3, h4⟩ := h
  obtain ⟨i, l', ls', w, c, t, hr, e, e1, e2⟩ := ht.back hj
  have hf := hr.facts
  refine ⟨i, w, c, l', hr, e, e1, ?_⟩
  by_cases hc : isEnd c = true
  · exact Or.inl ⟨hc, h1, by omega, ls', t, fun hx => (by cases hx), fun _ => .stop i w c hr hc⟩
  · have hc : isEnd c = false := by simpa using hc
    refine Or.inr ⟨hc, h1, h2, ls', ?_, fun hx => ?_, fun hx => ?_⟩
    · have ha : adds s i c = false := by
        unfold adds
        have hc2 := hc
        rw [isEnd_not] at hc2
        rw [if_neg (by omega)]
        exact hc
      rw [ha] at e1
      have : l = l' := by simpa using e1
      rw [this]; exact t
    · rw [h3 hx, e2, hc]; rfl
    · subst e
      exact .next i w le c hr hc (h4 hx)
theorem Good.line_le {s : ByteArray} {j l ls le : Nat} {hs he : Bool} (h : Good s j l ls le hs he) : l ≤ j ∧ j ≤ s.size := by
  obtain ⟨_, _, ls0, ht, _⟩ := h
  have := ht.bounds
  omega
theorem Good.rune {s : ByteArray} {i l ls le : Nat} {hs he : Bool} (h : Good s i l ls le hs he) (hW : Wf s) (hi : i < s.size) : ∃ c w, Rn s i c w := by
  obtain ⟨_, _, ls0, ht, _⟩ := h
  exact hW i l ls0 ht hi
end Go.Proofs.YtckgmnpcnoanhaaDoor
