/- What internalQuote makes of a well-formed text. -/
import Derived.Test.YtmgepjnaalnckaaPureJ
import Derived.Test.YtmgepjnaalnckaaPinternalQuotex1
import Derived.Test.YtmgepjnaalnckaaExtQuote
namespace Go.Proofs.Ytmgepjnaalnckaa.PureQ
open Go Go.RowKit Go.Proofs.Ytmgepjnaalnckaa.PureJ Go.Proofs.Ytmgepjnaalnckaa.PinternalQuote Go.Proofs.YtmgepjnaalnckaaW.PrintWords Go.Proofs.YtmgepjnaalnckaaW.PrintLast
theorem bind_at {α β : Type} (a : α) (f : α → Option β) : (some a).bind f = f a := rfl
theorem bt_extract (s : ByteArray) (p : Nat) (i : Int) (hp : p ≤ s.size) (hi : 0 ≤ i) : bt (s.extract p s.size) i = bt s ((p : Int) + i) := by
  have hsz : (s.extract p s.size).size = s.size - p := by simp
  unfold bt
  by_cases h : p + i.toNat < s.size
  · have h1 : i.toNat < (s.extract p s.size).size := by omega
    have h2 : ((p : Int) + i).toNat < s.size := by omega
    rw [dif_pos h1, dif_pos h2]
    have e : ((p : Int) + i).toNat = p + i.toNat := by omega
    simp only [ByteArray.getElem_extract, e]
  · have h1 : ¬ i.toNat < (s.extract p s.size).size := by omega
    have h2 : ¬ ((p : Int) + i).toNat < s.size := by omega
    rw [dif_neg h1, dif_neg h2]
def wtfAt (s : ByteArray) : Int × Int :=
  if (runeAt s 0).2 > 0 then runeAt s 0
  else if 3 ≤ (s.size : Int) ∧ bt s 0 = 237 ∧ 160 ≤ bt s 1 ∧ bt s 1 ≤ 191 ∧ 128 ≤ bt s 2 ∧ bt s 2 < 192 then (53248 + bt s 1 % 64 * 64 + bt s 2 % 64, 3) else (0, 0)
/-! ### the package's reader -/
theorem byte_lead8 : ∀ m : Fin 256, ((Go.bits .and .u8 (m.val : Int) 224 = 192) ↔ (192 ≤ (m.val : Int) ∧ (m.val : Int) < 224)) ∧ ((Go.bits .and .u8 (m.val : Int) 240 = 224) ↔ (224 ≤ (m.val : Int) ∧ (m.val : Int) < 240)) ∧ ((Go.bits .and .u8 (m.val : Int) 248 = 240) ↔ (240 ≤ (m.val : Int) ∧ (m.val : Int) < 248)) := by decide +kernel
theorem lead8 {x : Int} (h0 : 0 ≤ x) (h1 : x ≤ 255) : ((Go.bits .and .u8 x 224 = 192) ↔ (192 ≤ x ∧ x < 224)) ∧ ((Go.bits .and .u8 x 240 = 224) ↔ (224 ≤ x ∧ x < 240)) ∧ ((Go.bits .and .u8 x 248 = 240) ↔ (240 ≤ x ∧ x < 248)) := by
  obtain ⟨m, rfl⟩ := fin_of h0 h1; exact byte_lead8 m
theorem two32 {a b : Int} (ha : 0 ≤ a ∧ a ≤ 255) (hb : 0 ≤ b ∧ b ≤ 255) : Go.bits .or .i32 (wrap32 ((wrap32 (Go.bits .and .u8 a 31)) * 64)) (wrap32 (Go.bits .and .u8 b 63)) = a % 32 * 64 + b % 64 := by
  rw [u8_and31 a ha.1 (by omega), u8_and63 b hb.1 (by omega), w32 (x := a % 32) (by omega) (by omega), w32 (x := a % 32 * 64) (by omega) (by omega), w32 (x := b % 64) (by omega) (by omega)]
  exact i32_or6 _ _ (by omega) (by omega) (by omega) (by omega) (by omega)
theorem three32 {a b c : Int} (ha : 0 ≤ a ∧ a ≤ 255) (hb : 0 ≤ b ∧ b ≤ 255) (hc : 0 ≤ c ∧ c ≤ 255) : Go.bits .or .i32 (Go.bits .or .i32 (wrap32 ((wrap32 (Go.bits .and .u8 a 15)) * 4096)) (wrap32 ((wrap32 (Go.bits .and .u8 b 63)) * 64))) (wrap32 (Go.bits .and .u8 c 63)) = (a % 16 * 64 + b % 64) * 64 + c % 64 := by
  rw [u8_and15 a ha.1 (by omega), u8_and63 b hb.1 (by omega), u8_and63 c hc.1 (by omega), w32 (x := a % 16) (by omega) (by omega), w32 (x := a % 16 * 4096) (by omega) (by omega), w32 (x := b % 64) (by omega) (by omega), w32 (x := b % 64 * 64) (by omega) (by omega), w32 (x := c % 64) (by omega) (by omega)]
  rw [i32_or12 (a % 16 * 4096) (b % 64 * 64) (by omega) (by omega) (by omega) (by omega) (by omega), i32_or6 _ _ (by omega) (by omega) (by omega) (by omega) (by omega)]
  omega
theorem four32 {a b c d : Int} (ha : 0 ≤ a ∧ a ≤ 255) (hb : 0 ≤ b ∧ b ≤ 255) (hc : 0 ≤ c ∧ c ≤ 255) (hd : 0 ≤ d ∧ d ≤ 255) : Go.bits .or .i32 (Go.bits .or .i32 (Go.bits .or .i32 (wrap32 ((wrap32 (Go.bits .and .u8 a 7)) * 262144)) (wrap32 ((wrap32 (Go.bits .and .u8 b 63)) * 4096))) (wrap32 ((wrap32 (Go.bits .and .u8 c 63)) * 64))) (wrap32 (Go.bits .and .u8 d 63)) = ((a % 8 * 64 + b % 64) * 64 + c % 64) * 64 + d % 64 := by
  rw [u8_and7 a ha.1 (by omega), u8_and63 b hb.1 (by omega), u8_and63 c hc.1 (by omega), u8_and63 d hd.1 (by omega), w32 (x := a % 8) (by omega) (by omega), w32 (x := a % 8 * 262144) (by omega) (by omega), w32 (x := b % 64) (by omega) (by omega), w32 (x := b % 64 * 4096) (by omega) (by omega), w32 (x := c % 64) (by omega) (by omega), w32 (x := c % 64 * 64) (by omega) (by omega), w32 (x := d % 64) (by omega) (by omega)]
  rw [i32_or18 (a % 8 * 262144) (b % 64 * 4096) (by omega) (by omega) (by omega) (by omega) (by omega), i32_or12 (a % 8 * 262144 + b % 64 * 4096) (c % 64 * 64) (by omega) (by omega) (by omega) (by omega) (by omega), i32_or6 _ _ (by omega) (by omega) (by omega) (by omega) (by omega)]
  omega

/-- What the package's reader gives, of a text that is not empty. -/
theorem decode_one (s : ByteArray) (k : Nat) (h : 1 ≤ (s.size : Int)) (h0 : bt s 0 < 128) : helpers_DecodeWTF8Rune.f k s = some (bt s 0, 1) := by
  have hb := bt_range s 0
  unfold helpers_DecodeWTF8Rune.f
  rw [if_neg (by omega), if_pos (by omega), if_pos h0, w32 (by omega) (by omega)]
theorem decode_two (s : ByteArray) (k : Nat) (h : 2 ≤ (s.size : Int)) (h0 : 194 ≤ bt s 0 ∧ bt s 0 ≤ 223) (h1 : 128 ≤ bt s 1 ∧ bt s 1 < 192) : helpers_DecodeWTF8Rune.f (k + 1) s = some (bt s 0 % 32 * 64 + bt s 1 % 64, 2) := by
  have hb := bt_range s 0
  have hb1 := bt_range s 1
  unfold helpers_DecodeWTF8Rune.f
  rw [if_neg (by omega), if_pos (by omega), if_neg (by omega), if_pos ((lead8 hb.1 hb.2).1.2 (by omega))]
  simp only [helpers_DecodeWTF8Rune.j0]
  rw [if_neg (by omega), if_pos (by omega), if_pos ((cont8 hb1.1 hb1.2).2 h1), if_pos True.intro, two32 hb hb1, if_neg (by omega)]
theorem decode_three (s : ByteArray) (k : Nat) (h : 3 ≤ (s.size : Int)) (h0 : 224 ≤ bt s 0 ∧ bt s 0 ≤ 239) (h1 : 128 ≤ bt s 1 ∧ bt s 1 < 192) (h2 : 128 ≤ bt s 2 ∧ bt s 2 < 192) (h3 : 2048 ≤ (bt s 0 % 16 * 64 + bt s 1 % 64) * 64 + bt s 2 % 64) : helpers_DecodeWTF8Rune.f (k + 1) s = some ((bt s 0 % 16 * 64 + bt s 1 % 64) * 64 + bt s 2 % 64, 3) := by
  have hb := bt_range s 0
  have hb1 := bt_range s 1
  have hb2 := bt_range s 2
  unfold helpers_DecodeWTF8Rune.f
  rw [if_neg (by omega), if_pos (by omega), if_neg (by omega), if_neg (fun h => by have := (lead8 hb.1 hb.2).1.1 h; omega), if_pos ((lead8 hb.1 hb.2).2.1.2 (by omega))]
  simp only [helpers_DecodeWTF8Rune.j0]
  rw [if_neg (by omega), if_pos (by omega), if_pos ((cont8 hb1.1 hb1.2).2 h1), if_neg (by omega), if_pos (by omega), if_pos ((cont8 hb2.1 hb2.2).2 h2), if_pos True.intro, three32 hb hb1 hb2, if_neg (by omega)]
theorem decode_four (s : ByteArray) (k : Nat) (h : 4 ≤ (s.size : Int)) (h0 : 240 ≤ bt s 0 ∧ bt s 0 ≤ 244) (h1 : 128 ≤ bt s 1 ∧ bt s 1 < 192) (h2 : 128 ≤ bt s 2 ∧ bt s 2 < 192) (h3 : 128 ≤ bt s 3 ∧ bt s 3 < 192) (h4 : 65536 ≤ ((bt s 0 % 8 * 64 + bt s 1 % 64) * 64 + bt s 2 % 64) * 64 + bt s 3 % 64) (h5 : ((bt s 0 % 8 * 64 + bt s 1 % 64) * 64 + bt s 2 % 64) * 64 + bt s 3 % 64 ≤ 1114111) :
    helpers_DecodeWTF8Rune.f (k + 1) s = some (((bt s 0 % 8 * 64 + bt s 1 % 64) * 64 + bt s 2 % 64) * 64 + bt s 3 % 64, 4) := by
  have hb := bt_range s 0
  have hb1 := bt_range s 1
  have hb2 := bt_range s 2
  have hb3 := bt_range s 3
  unfold helpers_DecodeWTF8Rune.f
  rw [if_neg (by omega), if_pos (by omega), if_neg (by omega), if_neg (fun h => by have := (lead8 hb.1 hb.2).1.1 h; omega), if_neg (fun h => by have := (lead8 hb.1 hb.2).2.1.1 h; omega), if_pos ((lead8 hb.1 hb.2).2.2.2 (by omega))]
  simp only [helpers_DecodeWTF8Rune.j0]
  rw [if_neg (by omega), if_pos (by omega), if_pos ((cont8 hb1.1 hb1.2).2 h1), if_neg (by omega), if_pos (by omega), if_pos ((cont8 hb2.1 hb2.2).2 h2), if_neg (by omega), if_pos (by omega), if_pos ((cont8 hb3.1 hb3.2).2 h3), four32 hb hb1 hb2 hb3, if_neg (by omega), if_neg (by omega)]

theorem isSome_ite {α : Type} {c : Prop} [Decidable c] {x y : Option α} (h : c → x.isSome = true) (g : ¬ c → y.isSome = true) : (if c then x else y).isSome = true := by
  by_cases e : c
  · rw [if_pos e]; exact h e
  · rw [if_neg e]; exact g e
theorem j0_total (s : ByteArray) (k : Nat) (b sz : Int) (h : sz = 2 ∨ sz = 3 ∨ sz = 4) : (helpers_DecodeWTF8Rune.j0 (k + 1) s (s.size : Int) b sz).isSome = true := by
  simp only [helpers_DecodeWTF8Rune.j0]
  repeat' (refine isSome_ite (fun _ => ?_) (fun _ => ?_))
  all_goals first | rfl | (exfalso; omega)
theorem decode_total (s : ByteArray) (k : Nat) : ∃ p, helpers_DecodeWTF8Rune.f (k + 1) s = some p := by
  have h : (helpers_DecodeWTF8Rune.f (k + 1) s).isSome = true := by
    unfold helpers_DecodeWTF8Rune.f
    repeat' split
    all_goals first | rfl | exact j0_total s k _ _ (by omega) | (exfalso; omega)
  exact Option.isSome_iff_exists.1 h

/-- Where the reference finds a code point, the package finds the same one. -/
theorem decode_agrees (s : ByteArray) (k : Nat) (h : (wtfAt s).2 > 0) : helpers_DecodeWTF8Rune.f (k + 1) s = some (wtfAt s) := by
  unfold wtfAt at h ⊢
  by_cases c : (runeAt s 0).2 > 0
  · rw [if_pos c]
    unfold runeAt at c ⊢
    by_cases c0 : (0 : Int) < 0 ∨ 0 ≥ (s.size : Int)
    · rw [if_pos c0] at c; exact absurd c (by decide)
    rw [if_neg c0] at c ⊢
    have e1 : (0 : Int) + 1 = 1 := rfl
    have e2 : (0 : Int) + 2 = 2 := rfl
    have e3 : (0 : Int) + 3 = 3 := rfl
    rw [e1, e2, e3] at c ⊢
    unfold runeOf at c ⊢
    by_cases d0 : bt s 0 < 128
    · rw [if_pos d0, decode_one s _ (by omega) d0]
    rw [if_neg d0] at c ⊢
    by_cases d1 : 194 ≤ bt s 0 ∧ bt s 0 ≤ 223
    · rw [if_pos d1] at c ⊢
      by_cases d2 : 2 ≤ (s.size : Int) - 0 ∧ 128 ≤ bt s 1 ∧ bt s 1 < 192
      · rw [if_pos d2, decode_two s k (by omega) d1 d2.2]
      · rw [if_neg d2] at c; exact absurd c (by decide)
    rw [if_neg d1] at c ⊢
    by_cases d3 : 224 ≤ bt s 0 ∧ bt s 0 ≤ 239
    · rw [if_pos d3] at c ⊢
      split at c
      · rename_i d4
        rw [if_pos d4, decode_three s k (by omega) d3 d4.2.1 d4.2.2.1 d4.2.2.2.1]
      · exact absurd c (by decide)
    rw [if_neg d3] at c ⊢
    by_cases d5 : 240 ≤ bt s 0 ∧ bt s 0 ≤ 244
    · rw [if_pos d5] at c ⊢
      split at c
      · rename_i d6
        rw [if_pos d6, decode_four s k (by omega) d5 d6.2.1 d6.2.2.1 d6.2.2.2.1 d6.2.2.2.2.1 d6.2.2.2.2.2]
      · exact absurd c (by decide)
    rw [if_neg d5] at c; exact absurd c (by decide)
  · rw [if_neg c] at h ⊢
    split at h
    · rename_i d
      rw [if_pos d, decode_three s k (by omega) (by omega) (by omega) (by omega) (by omega)]
      congr 2
      omega
    · exact absurd h (by decide)


/-! ### the code points of a well-formed text -/
theorem runeAt_extract (s : ByteArray) (p : Nat) (hp : p ≤ s.size) : runeAt (s.extract p s.size) 0 = runeAt s (p : Int) := by
  have hsz : (s.extract p s.size).size = s.size - p := by simp
  unfold runeAt
  by_cases h : (p : Int) ≥ (s.size : Int)
  · rw [if_pos (Or.inr (by rw [hsz]; omega)), if_pos (Or.inr h)]
  · rw [if_neg (by rw [hsz]; omega), if_neg (by omega)]
    have e1 : (0 : Int) + 1 = 1 := rfl
    have e2 : (0 : Int) + 2 = 2 := rfl
    have e3 : (0 : Int) + 3 = 3 := rfl
    rw [e1, e2, e3, bt_extract s p 0 hp (by decide), bt_extract s p 1 hp (by decide), bt_extract s p 2 hp (by decide), bt_extract s p 3 hp (by decide), hsz, Int.add_zero]
    congr 1
    omega
theorem rune_facts {s : ByteArray} {i : Int} {c w : Int} (h : runeAt s i = (c, w)) (hw : 0 < w) : 0 ≤ c ∧ c ≤ 1114111 ∧ ¬ (55296 ≤ c ∧ c ≤ 57343) ∧ w ≤ 4 ∧ i + w ≤ (s.size : Int) ∧ 0 ≤ i ∧ (c < 128 → w = 1) ∧ (c < 128 → bt s i = c) := by
  have hb := bt_range s i
  have hb1 := bt_range s (i + 1)
  have hb2 := bt_range s (i + 2)
  have hb3 := bt_range s (i + 3)
  revert h
  unfold runeAt runeOf
  generalize bt s i = x0 at *
  generalize bt s (i + 1) = x1 at *
  generalize bt s (i + 2) = x2 at *
  generalize bt s (i + 3) = x3 at *
  repeat' split
  all_goals
    intro h
    simp only [Prod.mk.injEq] at h
    obtain ⟨h1, h2⟩ := h
    refine ⟨?_, ?_, ?_, ?_, ?_, ?_, ?_, ?_⟩ <;> omega
theorem decode_at (s : ByteArray) (p : Nat) (hp : p ≤ s.size) {c w : Int} (h : runeAt s (p : Int) = (c, w)) (hw : 0 < w) : Ev (fun k => helpers_DecodeWTF8Rune.f k (s.extract p s.size)) (c, w) := by
  refine ⟨1, fun k hk => ?_⟩
  obtain ⟨k, rfl⟩ : ∃ m, k = m + 1 := ⟨k - 1, by omega⟩
  have e := runeAt_extract s p hp
  rw [h] at e
  have e2 : wtfAt (s.extract p s.size) = (c, w) := by
    unfold wtfAt
    rw [e, if_pos (show (c, w).2 > 0 from hw)]
  show helpers_DecodeWTF8Rune.f (k + 1) (s.extract p s.size) = some (c, w)
  rw [decode_agrees _ _ (by rw [e2]; exact hw), e2]

/-- The code points of a text from place p on, each with how many bytes it has. -/
inductive CP (s : ByteArray) : Nat → List (Int × Nat) → Prop
  | nil : CP s s.size []
  | cons (p w : Nat) (c : Int) (l : List (Int × Nat)) : 0 < w → runeAt s (p : Int) = (c, (w : Int)) → CP s (p + w) l → CP s p ((c, w) :: l)

def canP (a : Bool) (c : Int) : Bool := if c ≤ 126 then decide (32 ≤ c ∧ c ≠ 92 ∧ c ≠ 34) else (!a && decide (c ≠ 65279 ∧ (c < 55296 ∨ c > 57343)))
theorem canP_tells (c : Int) (a : Bool) : helpers_canPrintWithoutEscape.f c a = some (canP a c) := by
  unfold helpers_canPrintWithoutEscape.f canP
  by_cases h1 : c ≤ 126
  · rw [if_pos h1, if_pos h1]
    by_cases h2 : c ≥ 32
    · rw [if_pos h2]
      by_cases h3 : c = 92
      · rw [if_pos h3, decide_eq_false (by omega)]
      · rw [if_neg h3]
        by_cases h4 : c = 34
        · rw [decide_eq_false (by omega)]; simp [h4]
        · rw [decide_eq_true (by omega)]; simp [h4]
    · rw [if_neg h2, decide_eq_false (by omega)]
  · rw [if_neg h1, if_neg h1]
    cases a
    · rw [if_neg Bool.false_ne_true]
      by_cases h2 : c = 65279
      · rw [if_pos h2, decide_eq_false (by omega)]; rfl
      · rw [if_neg h2]
        by_cases h3 : c < 55296
        · rw [if_pos h3, decide_eq_true (by omega)]; rfl
        · rw [if_neg h3]
          by_cases h4 : c > 57343
          · rw [decide_eq_true h4, decide_eq_true (by omega)]; rfl
          · rw [decide_eq_false h4, decide_eq_false (by omega)]; rfl
    · rw [if_pos rfl]; rfl
def hx (v : Int) : List Int := [92, 117, hexd (v / 4096), hexd (v / 256 % 16), hexd (v / 16 % 16), hexd (v % 16)]
def esc1 (c : Int) : List Int :=
  if c = 8 then [92, 98] else if c = 12 then [92, 102] else if c = 10 then [92, 110] else if c = 13 then [92, 114] else if c = 9 then [92, 116] else if c = 92 then [92, 92] else if c = 34 then [34]
  else if c ≤ 65535 then hx c else hx (55296 + (c - 65536) / 1024) ++ hx (56320 + (c - 65536) % 1024)
def pc (s : ByteArray) (a : Bool) (p w : Nat) (c : Int) : List Int := if canP a c = true then bytesOf (s.extract p (p + w)) else esc1 c
def outp (s : ByteArray) (a : Bool) : Nat → List (Int × Nat) → List Int
  | _, [] => []
  | p, (c, w) :: l => pc s a p w c ++ outp s a (p + w) l
theorem esc1_length (c : Int) : 1 ≤ (esc1 c).length ∧ (esc1 c).length ≤ 12 := by
  unfold esc1 hx
  repeat' split
  all_goals simp
theorem pc_length (s : ByteArray) (a : Bool) (p w : Nat) (c : Int) (h : p + w ≤ s.size) (hw : 0 < w) : (pc s a p w c).length ≤ 12 * w := by
  unfold pc
  split
  · rw [bytesOf_length, ByteArray.size_extract]; omega
  · have := (esc1_length c).2; omega
theorem outp_length (s : ByteArray) (a : Bool) {p : Nat} {l : List (Int × Nat)} (h : CP s p l) : p ≤ s.size ∧ (outp s a p l).length ≤ 12 * (s.size - p) := by
  induction h with
  | nil => exact ⟨Nat.le_refl _, by simp [outp]⟩
  | cons p w c l hw hr hcp ih =>
    have hf := rune_facts hr (by omega)
    have := pc_length s a p w c (by omega) hw
    refine ⟨by omega, ?_⟩
    simp only [outp, List.length_append]
    omega
theorem bytes_append (s : ByteArray) (q p r : Nat) (h1 : q ≤ p) (h2 : p ≤ r) : bytesOf (s.extract q p) ++ bytesOf (s.extract p r) = bytesOf (s.extract q r) := by
  unfold bytesOf
  rw [← List.map_append]
  congr 1
  rw [ByteArray.data_extract, ByteArray.data_extract, ByteArray.data_extract, Array.toList_extract, Array.toList_extract, Array.toList_extract, List.extract_eq_take_drop, List.extract_eq_take_drop, List.extract_eq_take_drop]
  have e : r - q = (p - q) + (r - p) := by omega
  rw [e, List.take_add, List.drop_drop]
  congr 2
  · congr 1; omega
theorem and15 {x : Int} (h0 : 0 ≤ x) (h1 : x < 2147483648) : Go.bits .and .i32 x 15 = x % 16 := bits_mask .i32 31 (by decide) (fun n h0 h1 => by rw [IntKind.wrap_i32]; omega) 4 (by decide) _ (by omega) (by omega)
theorem and1023 {x : Int} (h0 : 0 ≤ x) (h1 : x < 2147483648) : Go.bits .and .i32 x 1023 = x % 1024 := bits_mask .i32 31 (by decide) (fun n h0 h1 => by rw [IntKind.wrap_i32]; omega) 10 (by decide) _ (by omega) (by omega)

set_option maxHeartbeats 2000000 in
theorem quote_ev (s : ByteArray) (a : Bool) (hs : s.size ≤ 2147483647) {p : Nat} {l : List (Int × Nat)} (h : CP s p l) (h39 : ∀ x ∈ l, x.1 ≠ 39) :
    (∀ acc : List Int, acc.length ≤ 12 * p + 1 → Ev (fun k => helpers_internalQuote.l0 k s a 39 acc (p : Int) (s.size : Int)) (acc ++ outp s a p l ++ [39])) ∧
    (∀ (acc : List Int) (q : Nat), q ≤ p → acc.length ≤ 12 * q + 1 → Ev (fun k => helpers_internalQuote.l1 k s a 39 acc (p : Int) (s.size : Int) (q : Int)) (acc ++ bytesOf (s.extract q p) ++ outp s a p l ++ [39])) := by
  induction h with
  | nil =>
    have hl0 : ∀ acc : List Int, acc.length ≤ 12 * s.size + 1 → Ev (fun k => helpers_internalQuote.l0 k s a 39 acc (s.size : Int) (s.size : Int)) (acc ++ outp s a s.size [] ++ [39]) := fun acc hacc => by
      refine Ev.step (f := fun _ => some (acc ++ outp s a s.size [] ++ [39])) (fun k => ?_) (Ev.now _)
      rw [helpers_internalQuote.l0, if_neg (by omega), if_pos (by omega)]
      simp [outp]
    refine ⟨hl0, fun acc q hq hacc => ?_⟩
    have hx : (s.extract q s.size).size = s.size - q := by simp
    have h2 := hl0 (acc ++ bytesOf (s.extract q s.size)) (by rw [List.length_append, bytesOf_length, hx]; omega)
    refine Ev.step (fun k => ?_) h2
    rw [helpers_internalQuote.l1, if_neg (by omega), if_pos (by omega), if_pos (by omega), if_pos (by omega), Int.toNat_natCast, Int.toNat_natCast, if_pos (by rw [hx]; omega)]
  | cons p w c l hw hr hcp ih =>
    have hf := rune_facts hr (by omega)
    obtain ⟨hc0, hc1, hcs, hw4, hpw, _, hw1, hb1⟩ := hf
    have ih := ih (fun x hx => h39 x (List.mem_cons_of_mem _ hx))
    have hne : c ≠ 39 := h39 (c, w) (List.mem_cons_self ..)
    have hpw' : p + w ≤ s.size := by omega
    have ewr : wrap64 ((p : Int) + (w : Int)) = ((p + w : Nat) : Int) := by rw [w64 (by omega) (by omega)]; rfl
    have hd := decode_at s p (by omega) hr (by omega)
    have hplen := pc_length s a p w c hpw' hw
    have hl0 : ∀ acc : List Int, acc.length ≤ 12 * p + 1 → Ev (fun k => helpers_internalQuote.l0 k s a 39 acc (p : Int) (s.size : Int)) (acc ++ outp s a p ((c, w) :: l) ++ [39]) := fun acc hacc => by
      by_cases hcan : canP a c = true
      · have h1 := ih.2 acc p (by omega) hacc
        have er : acc ++ bytesOf (s.extract p (p + w)) ++ outp s a (p + w) l ++ [39] = acc ++ outp s a p ((c, w) :: l) ++ [39] := by
          simp only [outp, pc, if_pos hcan, List.append_assoc]
        rw [er] at h1
        refine Ev.step (fun k => by rw [helpers_internalQuote.l0, if_pos (by omega), if_pos (by omega), if_pos (by omega), Int.toNat_natCast]) (Ev.bind hd ?_)
        refine Ev.congr (fun k => ?_) h1
        rw [canP_tells, bind_at, if_pos hcan, ewr]
      · have hfin : ∀ xs : List Int, xs = esc1 c → Ev (fun k => helpers_internalQuote.l0 k s a 39 (acc ++ xs) ((p + w : Nat) : Int) (s.size : Int)) (acc ++ outp s a p ((c, w) :: l) ++ [39]) := fun xs hxs => by
          have hp : pc s a p w c = esc1 c := by unfold pc; rw [if_neg hcan]
          have h1 := ih.1 (acc ++ xs) (by rw [List.length_append, hxs]; rw [hp] at hplen; omega)
          have er : acc ++ xs ++ outp s a (p + w) l ++ [39] = acc ++ outp s a p ((c, w) :: l) ++ [39] := by
            simp only [outp, hp, hxs, List.append_assoc]
          rw [er] at h1
          exact h1
        refine Ev.step (fun k => by rw [helpers_internalQuote.l0, if_pos (by omega), if_pos (by omega), if_pos (by omega), Int.toNat_natCast]) (Ev.bind hd ?_)
        by_cases c1 : c = 8
        · have hw1 := hw1 (by omega)
          have ew1 : wrap64 ((p : Int) + 1) = ((p + w : Nat) : Int) := by rw [← ewr, hw1]
          refine Ev.congr (fun k => ?_) (hfin [92, 98] (by rw [c1]; rfl))
          rw [canP_tells, bind_at, if_neg hcan, if_pos c1, if_pos (by omega), ew1]; rfl
        by_cases c2 : c = 12
        · have hw1 := hw1 (by omega)
          have ew1 : wrap64 ((p : Int) + 1) = ((p + w : Nat) : Int) := by rw [← ewr, hw1]
          refine Ev.congr (fun k => ?_) (hfin [92, 102] (by rw [c2]; rfl))
          rw [canP_tells, bind_at, if_neg hcan, if_neg c1, if_pos c2, if_pos (by omega), ew1]; rfl
        by_cases c3 : c = 10
        · have hw1 := hw1 (by omega)
          have ew1 : wrap64 ((p : Int) + 1) = ((p + w : Nat) : Int) := by rw [← ewr, hw1]
          refine Ev.congr (fun k => ?_) (hfin [92, 110] (by rw [c3]; rfl))
          rw [canP_tells, bind_at, if_neg hcan, if_neg c1, if_neg c2, if_pos c3, if_pos (by omega), ew1]; rfl
        by_cases c4 : c = 13
        · have hw1 := hw1 (by omega)
          have ew1 : wrap64 ((p : Int) + 1) = ((p + w : Nat) : Int) := by rw [← ewr, hw1]
          refine Ev.congr (fun k => ?_) (hfin [92, 114] (by rw [c4]; rfl))
          rw [canP_tells, bind_at, if_neg hcan, if_neg c1, if_neg c2, if_neg c3, if_pos c4, if_pos (by omega), ew1]; rfl
        by_cases c5 : c = 9
        · have hw1 := hw1 (by omega)
          have ew1 : wrap64 ((p : Int) + 1) = ((p + w : Nat) : Int) := by rw [← ewr, hw1]
          refine Ev.congr (fun k => ?_) (hfin [92, 116] (by rw [c5]; rfl))
          rw [canP_tells, bind_at, if_neg hcan, if_neg c1, if_neg c2, if_neg c3, if_neg c4, if_pos c5, if_pos (by omega), ew1]; rfl
        by_cases c6 : c = 92
        · have hw1 := hw1 (by omega)
          have ew1 : wrap64 ((p : Int) + 1) = ((p + w : Nat) : Int) := by rw [← ewr, hw1]
          refine Ev.congr (fun k => ?_) (hfin [92, 92] (by rw [c6]; rfl))
          rw [canP_tells, bind_at, if_neg hcan, if_neg c1, if_neg c2, if_neg c3, if_neg c4, if_neg c5, if_pos c6, if_pos (by omega), ew1]; rfl
        by_cases c7 : c = 34
        · have hw1 := hw1 (by omega)
          have ew1 : wrap64 ((p : Int) + 1) = ((p + w : Nat) : Int) := by rw [← ewr, hw1]
          refine Ev.congr (fun k => ?_) (hfin [34] (by rw [c7]; rfl))
          rw [canP_tells, bind_at, if_neg hcan, if_neg c1, if_neg c2, if_neg c3, if_neg c4, if_neg c5, if_neg c6, if_pos c7, if_neg (by decide), if_pos (by omega), ew1]
        by_cases c9 : c ≤ 65535
        · refine Ev.congr (fun k => ?_) (hfin (hx c) (by unfold esc1; rw [if_neg c1, if_neg c2, if_neg c3, if_neg c4, if_neg c5, if_neg c6, if_neg c7, if_pos c9]))
          rw [canP_tells, bind_at, if_neg hcan, if_neg c1, if_neg c2, if_neg c3, if_neg c4, if_neg c5, if_neg c6, if_neg c7, if_neg hne, if_pos c9]
          rw [and15 (x := c / 256) (by omega) (by omega), and15 (x := c / 16) (by omega) (by omega), and15 (x := c) (by omega) (by omega)]
          rw [if_pos (by omega), if_pos (by omega), if_pos (by omega), if_pos (by omega), if_pos (by omega), if_pos (by omega), if_pos (by omega), if_pos (by omega), bind_at, if_pos (by simp; omega), ewr]
          simp only [hexd_eq]
          rfl
        · refine Ev.congr (fun k => ?_) (hfin (hx (55296 + (c - 65536) / 1024) ++ hx (56320 + (c - 65536) % 1024)) (by unfold esc1; rw [if_neg c1, if_neg c2, if_neg c3, if_neg c4, if_neg c5, if_neg c6, if_neg c7, if_neg c9]))
          rw [canP_tells, bind_at, if_neg hcan, if_neg c1, if_neg c2, if_neg c3, if_neg c4, if_neg c5, if_neg c6, if_neg c7, if_neg hne, if_neg c9]
          rw [w32 (x := c - 65536) (by omega) (by omega), and1023 (x := (c - 65536) / 1024) (by omega) (by omega), and1023 (x := c - 65536) (by omega) (by omega)]
          rw [show (c - 65536) / 1024 % 1024 = (c - 65536) / 1024 by omega, w32 (x := 55296 + (c - 65536) / 1024) (by omega) (by omega), w32 (x := 56320 + (c - 65536) % 1024) (by omega) (by omega)]
          have hA : 55296 ≤ 55296 + (c - 65536) / 1024 ∧ 55296 + (c - 65536) / 1024 ≤ 56319 := by omega
          have hB : 56320 ≤ 56320 + (c - 65536) % 1024 ∧ 56320 + (c - 65536) % 1024 ≤ 57343 := by omega
          generalize 55296 + (c - 65536) / 1024 = x at *
          generalize 56320 + (c - 65536) % 1024 = y at *
          rw [and15 (x := x / 256) (by omega) (by omega), and15 (x := x / 16) (by omega) (by omega), and15 (x := x) (by omega) (by omega), and15 (x := y / 256) (by omega) (by omega), and15 (x := y / 16) (by omega) (by omega), and15 (x := y) (by omega) (by omega)]
          rw [if_pos (by omega), if_pos (by omega), if_pos (by omega), if_pos (by omega), if_pos (by omega), if_pos (by omega), if_pos (by omega), if_pos (by omega), if_pos (by omega), if_pos (by omega), if_pos (by omega), if_pos (by omega), if_pos (by omega), if_pos (by omega), if_pos (by omega), if_pos (by omega), bind_at, if_pos (by simp; omega), ewr]
          simp only [hexd_eq]
          rfl
    refine ⟨hl0, fun acc q hq hacc => ?_⟩
    by_cases hcan : canP a c = true
    · have h1 := ih.2 acc q (by omega) hacc
      have er : acc ++ bytesOf (s.extract q (p + w)) ++ outp s a (p + w) l ++ [39] = acc ++ bytesOf (s.extract q p) ++ outp s a p ((c, w) :: l) ++ [39] := by
        simp only [outp, pc, if_pos hcan, List.append_assoc]
        rw [← bytes_append s q p (p + w) hq (by omega), List.append_assoc]
      rw [er] at h1
      refine Ev.step (fun k => by rw [helpers_internalQuote.l1, if_pos (by omega), if_pos (by omega), if_pos (by omega), Int.toNat_natCast]) (Ev.bind hd ?_)
      refine Ev.congr (fun k => ?_) h1
      rw [canP_tells, bind_at, if_pos hcan, ewr]
    · have hx : (s.extract q p).size = p - q := by rw [ByteArray.size_extract]; omega
      have h1 := hl0 (acc ++ bytesOf (s.extract q p)) (by rw [List.length_append, bytesOf_length, hx]; omega)
      refine Ev.step (fun k => by rw [helpers_internalQuote.l1, if_pos (by omega), if_pos (by omega), if_pos (by omega), Int.toNat_natCast]) (Ev.bind hd ?_)
      refine Ev.congr (fun k => ?_) h1
      rw [canP_tells, bind_at, if_neg hcan, if_pos (by omega), if_pos (by omega), Int.toNat_natCast, if_pos (by rw [hx]; omega)]
end Go.Proofs.Ytmgepjnaalnckaa.PureQ
