/- What the printed functions of the reference's scanner answer on the bytes of a plain name. -/
import Derived.Test.YtbcljhedleemdaaPpassx4
import Derived.Test.YtbcljhedleemdaaPInNamex2
import Derived.Test.YtbcljhedleemdaaPUTF8x1
import Derived.Test.YtbcljhedleemdaaPDigitx1
namespace Go.Proofs.Ytbcljhedleemdaa
open Go.RowKit Go.Proofs.YtbcljhedleemdaaW.PrintWords Go.Proofs.Ytbcljhedleemdaa.Ppass

def startB (c : Int) : Bool := decide ((97 ≤ c ∧ c ≤ 122) ∨ (65 ≤ c ∧ c ≤ 90) ∨ c = 95)
def nameB (c : Int) : Bool := decide ((97 ≤ c ∧ c ≤ 122) ∨ (65 ≤ c ∧ c ≤ 90) ∨ (48 ≤ c ∧ c ≤ 57) ∨ c = 95)
theorem startB_iff {c : Int} (h : startB c = true) : (97 ≤ c ∧ c ≤ 122) ∨ (65 ≤ c ∧ c ≤ 90) ∨ c = 95 := of_decide_eq_true h
theorem nameB_iff {c : Int} (h : nameB c = true) : (97 ≤ c ∧ c ≤ 122) ∨ (65 ≤ c ∧ c ≤ 90) ∨ (48 ≤ c ∧ c ≤ 57) ∨ c = 95 := of_decide_eq_true h

theorem w64' {x : Int} (h0 : 0 ≤ x) (h1 : x < 9223372036854775808) : wrap64 x = x := by unfold wrap64; omega
theorem Rune_at (k : Nat) (s : ByteArray) (i : Nat) (hi : i < s.size) (hb : bt s (i : Int) < 128) : spec_Rune.f (k + 1) s (i : Int) = some (bt s (i : Int), 1) := by
  have h0 := (bt_range s (i : Int)).1
  have e : wrap64 (bt s (i : Int)) = bt s (i : Int) := w64' h0 (by omega)
  unfold spec_Rune.f
  rw [if_neg (by omega), decide_eq_false (by omega)]
  simp only [spec_Rune.j0, e]
  rw [if_neg (by decide), if_pos (by omega), if_pos (by omega), if_pos hb]
theorem Rune_end (k : Nat) (s : ByteArray) : spec_Rune.f (k + 1) s (s.size : Int) = some (0, 0) := by
  unfold spec_Rune.f
  rw [if_neg (by omega), decide_eq_true (by omega)]
  simp only [spec_Rune.j0, if_true]
theorem rune_at (k : Nat) (s : ByteArray) (i : Nat) (sc ln : Bool) (bad : Int) (hi : i < s.size) (hb : bt s (i : Int) < 128) : spec_scan_rune.f (k + 1) s (i : Int) sc ln bad = some (bt s (i : Int), 1, s, (i : Int), sc, ln, bad) := by
  unfold spec_scan_rune.f
  rw [Rune_at k s i hi hb]
  rfl
theorem rune_end (k : Nat) (s : ByteArray) (sc ln : Bool) (bad : Int) : spec_scan_rune.f (k + 1) s (s.size : Int) sc ln bad = some (0, 0, s, (s.size : Int), sc, ln, bad) := by
  unfold spec_scan_rune.f
  rw [Rune_end k s]
  rfl
theorem bt_get (s : ByteArray) (i : Nat) (h : i < s.size) : bt s (i : Int) = ((s[i]'h).toNat : Int) := by
  unfold bt
  rw [dif_pos (by simpa using h)]
  simp
theorem head_extract (s : ByteArray) (i j : Nat) (hi : i < j) (hj : j ≤ s.size) : (s.extract i j).toList.head? = some (s[i]'(by omega)) := by
  have hlen : i < (s.extract i j).size + i := by simp; omega
  rw [ByteArray.toList_eq, List.head?_eq_getElem?]
  have h0 : 0 < (s.extract i j).size := by simp; omega
  have h1 : (s.extract i j).data.toList[0]? = some ((s.extract i j)[0]'h0) := by
    rw [List.getElem?_eq_getElem (by rw [Array.length_toList]; exact h0)]
    rfl
  rw [h1, ByteArray.getElem_extract]
  simp
theorem is_not (s : ByteArray) (i : Nat) (sc ln : Bool) (bad : Int) (b : UInt8) (l : List UInt8) (hi : i < s.size) (hs : s.size ≤ 2147483647) (hl : l.length ≤ 100) (hb : bt s (i : Int) ≠ (b.toNat : Int)) : spec_scan_is.f s (i : Int) sc ln bad ⟨(b :: l).toArray⟩ = some (false, s, (i : Int), sc, ln, bad) := by
  have hsz : ((⟨(b :: l).toArray⟩ : ByteArray).size : Int) = (l.length : Int) + 1 := by
    show (((b :: l).toArray.size : Nat) : Int) = _
    simp
  unfold spec_scan_is.f
  rw [hsz]
  have e1 : wrap64 ((s.size : Int) - (i : Int)) = (s.size : Int) - (i : Int) := w64' (by omega) (by omega)
  have e2 : wrap64 ((i : Int) + ((l.length : Int) + 1)) = (i : Int) + ((l.length : Int) + 1) := w64' (by omega) (by omega)
  rw [e1, e2]
  by_cases h : (l.length : Int) + 1 ≤ (s.size : Int) - (i : Int)
  · rw [if_pos h, if_pos (by omega), if_pos (by omega), if_pos (by omega)]
    have hne : ((s.extract ((i : Int)).toNat ((i : Int) + ((l.length : Int) + 1)).toNat).toList == (⟨(b :: l).toArray⟩ : ByteArray).toList) = false := by
      rw [beq_eq_false_iff_ne]
      intro e
      have e3 := congrArg List.head? e
      rw [Int.toNat_natCast, head_extract s i _ (by omega) (by omega), ByteArray.toList_eq] at e3
      simp at e3
      rw [bt_get s i hi, e3] at hb
      exact hb rfl
    rw [hne]
  · rw [if_neg h]
theorem between_tells (a b c : Int) : spec_between.f a b c = some (decide (a ≤ b ∧ b ≤ c)) := by
  unfold spec_between.f
  by_cases h : a ≤ b
  · rw [if_pos h]; simp [h]
  · rw [if_neg h]; simp [h]
theorem between_tells' (a b c : Int) : PInName.spec_between.f a b c = some (decide (a ≤ b ∧ b ≤ c)) := by
  unfold PInName.spec_between.f
  by_cases h : a ≤ b
  · rw [if_pos h]; simp [h]
  · rw [if_neg h]; simp [h]
theorem InName_start (k : Nat) (c : Int) (h : startB c = true) : PInName.spec_InName.f (k + 1) c = some 2 := by
  unfold PInName.spec_InName.f
  simp only [between_tells', Option.bind_some, PInName.spec_InName.j0]
  rcases startB_iff h with h | h | h
  · have d1 : decide (97 ≤ c ∧ c ≤ 122) = true := decide_eq_true h
    rw [d1]; rfl
  · have d1 : decide (97 ≤ c ∧ c ≤ 122) = false := decide_eq_false (by omega)
    have d2 : decide (65 ≤ c ∧ c ≤ 90) = true := decide_eq_true h
    rw [d1, d2]; rfl
  · subst h; rfl
theorem InName_digit (k : Nat) (c : Int) (h : 48 ≤ c ∧ c ≤ 57) : PInName.spec_InName.f (k + 1) c = some 1 := by
  unfold PInName.spec_InName.f
  simp only [between_tells', Option.bind_some, PInName.spec_InName.j0, PInName.spec_Digit.f]
  have d1 : decide (97 ≤ c ∧ c ≤ 122) = false := decide_eq_false (by omega)
  have d2 : decide (65 ≤ c ∧ c ≤ 90) = false := decide_eq_false (by omega)
  have d3 : decide (48 ≤ c ∧ c ≤ 57) = true := decide_eq_true h
  have d4 : (c == 95) = false := by rw [beq_eq_false_iff_ne]; omega
  rw [d1, d2, d3, d4, if_neg (by decide), if_neg (by decide), if_neg (by omega)]
  rfl
theorem UTF8_one (k : Nat) (c : Int) (h0 : 0 ≤ c) (h : c < 128) : PUTF8.spec_UTF8.f (k + 3) c = some ⟨#[UInt8.ofNat c.toNat]⟩ := by
  unfold PUTF8.spec_UTF8.f PUTF8.spec_bytesOf.f
  rw [if_pos h]
  simp [PUTF8.spec_bytesOf.l0, rd, strOfNums, w64']
  rw [show c % 256 = c by omega]
theorem Digit_tells (c : Int) : PDigit.spec_Digit.f c = some (decide (48 ≤ c ∧ c ≤ 57)) := by
  unfold PDigit.spec_Digit.f PDigit.spec_between.f
  by_cases h : 48 ≤ c
  · rw [if_pos h]; simp [h]
  · rw [if_neg h]; simp [h]
theorem LineEnd_not (c : Int) (h : startB c = true) : spec_LineEnd.f c = some false := by
  have := startB_iff h
  unfold spec_LineEnd.f
  rw [if_neg (by omega), if_neg (by omega), if_neg (by omega), show (c == 8233) = false by rw [beq_eq_false_iff_ne]; omega]
theorem Blank_not (c : Int) (h : startB c = true) : spec_Blank.f c = some false := by
  have := startB_iff h
  unfold spec_Blank.f
  simp only [between_tells, Option.bind_some]
  rw [if_neg (by omega), if_neg (by omega), if_neg (by omega), if_neg (by omega), if_neg (by omega), if_neg (by omega), if_neg (by omega), if_neg (by omega), if_neg (by omega), if_neg (by omega), decide_eq_false (by omega)]
theorem pass_j5 (s : ByteArray) (k : Nat) (x2 : Bool) : spec_scan_pass.j5 (k + 1) x2 false s 0 false false 0 = some (s, 0, false, false, 0) := by
  rw [spec_scan_pass.j5, if_neg Bool.false_ne_true, if_neg Bool.false_ne_true]
theorem pass_j4 (s : ByteArray) (k : Nat) (x2 : Bool) : spec_scan_pass.j4 (k + 1 + 1) x2 false s 0 false false 0 = some (s, 0, false, false, 0) := by
  rw [spec_scan_pass.j4, if_neg Bool.false_ne_true, if_neg Bool.false_ne_true, pass_j5]
theorem bind_at {α β : Type} (a : α) (f : α → Option β) : (some a).bind f = f a := rfl
theorem pass_j3 (s : ByteArray) (hs : s.size ≤ 2147483647) (h0 : 0 < s.size) (h : startB (bt s 0) = true) (k : Nat) (x2 : Bool) : spec_scan_pass.j3 (k + 1 + 1 + 1) x2 true s 0 false false 0 = some (s, 0, false, false, 0) := by
  have hb := startB_iff h
  have e2 : spec_scan_is.f s 0 false false 0 ⟨#[47, 47]⟩ = some (false, s, 0, false, false, 0) := is_not s 0 false false 0 47 [47] h0 hs (by decide) (by show bt s 0 ≠ 47; omega)
  have e3 : spec_scan_is.f s 0 false false 0 ⟨#[47, 42]⟩ = some (false, s, 0, false, false, 0) := is_not s 0 false false 0 47 [42] h0 hs (by decide) (by show bt s 0 ≠ 47; omega)
  have e4 : spec_scan_rune.f (k + 1 + 1) s 0 false false 0 = some (bt s 0, 1, s, 0, false, false, 0) := rune_at (k + 1) s 0 false false 0 h0 (by show bt s 0 < 128; omega)
  have z1 : ¬ ((1 : Int) = 0) := by decide
  rw [spec_scan_pass.j3, if_pos rfl, e4, bind_at, if_neg z1, LineEnd_not _ h, bind_at, if_neg Bool.false_ne_true, Blank_not _ h, bind_at, if_neg Bool.false_ne_true, e2, bind_at, if_neg Bool.false_ne_true, e3, bind_at, if_neg Bool.false_ne_true, if_neg Bool.false_ne_true, pass_j4]
theorem pass_l0 (s : ByteArray) (hs : s.size ≤ 2147483647) (h0 : 0 < s.size) (h : startB (bt s 0) = true) (k : Nat) (x2 : Bool) : spec_scan_pass.l0 (k + 1 + 1 + 1 + 1) x2 s 0 false false 0 = some (s, 0, false, false, 0) := by
  have hlt : (0 : Int) < (s.size : Int) := by omega
  have z0 : ((0 : Int) == 0) = true := rfl
  rw [spec_scan_pass.l0, if_pos hlt, z0, pass_j3 s hs h0 h]
theorem pass_tells (k : Nat) (s : ByteArray) (hs : s.size ≤ 2147483647) (h0 : 0 < s.size) (h : startB (bt s 0) = true) : spec_scan_pass.f (k + 1 + 1 + 1 + 1 + 1 + 1) s 0 false false 0 = some (s, 0, false, false, 0) := by
  have hb := startB_iff h
  have e1 : spec_scan_is.f s 0 false false 0 ⟨#[35, 33]⟩ = some (false, s, 0, false, false, 0) := is_not s 0 false false 0 35 [33] h0 hs (by decide) (by show bt s 0 ≠ 35; omega)
  unfold spec_scan_pass.f
  rw [if_pos rfl, e1, bind_at, spec_scan_pass.j0, if_neg Bool.false_ne_true, spec_scan_pass.j1, pass_l0 s hs h0 h]
end Go.Proofs.Ytbcljhedleemdaa
