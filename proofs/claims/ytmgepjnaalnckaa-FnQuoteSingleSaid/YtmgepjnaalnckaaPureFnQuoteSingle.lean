/- FnQuoteSingle: a text of UTF-8 without single quotes that is quoted is a string literal of JavaScript in single quotes that means it, of ASCII alone if that is asked. -/
import Derived.Test.YtmgepjnaalnckaaPFnQuoteSinglex3
import Derived.Test.YtmgepjnaalnckaaPureT
import Derived.KernelRfl
import Derived.Laws.BitsLemmas
import Derived.Laws.RangeAny
set_option linter.unusedSectionVars false
namespace Go.Proofs.Ytmgepjnaalnckaa.Pure
open Go Go.RowKit Go.Proofs.Ytmgepjnaalnckaa Go.Proofs.Ytmgepjnaalnckaa.PFnQuoteSingle Go.Proofs.YtmgepjnaalnckaaW.PrintWords Go.Proofs.YtmgepjnaalnckaaW.PrintLast
open Go.Proofs.Ytmgepjnaalnckaa.PureJ (runeAt runeOf w64 w32 or64 cont8 cont64 low64 wraps_i64' fin_of)
theorem rune_tells (s : ByteArray) (hs : s.size ≤ 140737488351232) (i : Int) (k : Nat) : spec_Rune.f (k + 12) s i = some (runeAt s i) := PureJ.rune_tells s hs i k

/-! ### the reference's reader of one code point of WTF-8, closed -/
def wtfAt (s : ByteArray) : Int × Int :=
  if (runeAt s 0).2 > 0 then runeAt s 0
  else if 3 ≤ (s.size : Int) ∧ bt s 0 = 237 ∧ 160 ≤ bt s 1 ∧ bt s 1 ≤ 191 ∧ 128 ≤ bt s 2 ∧ bt s 2 < 192 then (53248 + bt s 1 % 64 * 64 + bt s 2 % 64, 3) else (0, 0)
theorem low8 {x : Int} (h0 : 0 ≤ x) (h1 : x ≤ 255) : Go.bits .and .u8 x 63 = x % 64 := u8_and63 x h0 (by omega)
theorem wtf_tells (s : ByteArray) (hs : s.size ≤ 140737488351232) (k : Nat) : spec_WtfRune.f (k + 12) s = some (wtfAt s) := by
  unfold spec_WtfRune.f wtfAt
  rw [rune_tells s hs]
  simp only [Option.bind_some]
  by_cases c : (runeAt s 0).2 > 0
  · rw [if_pos c, if_pos c]
  rw [if_neg c, if_neg c]
  by_cases c3 : (s.size : Int) < 3
  · rw [if_pos c3, if_neg (by omega)]
  rw [if_neg c3, if_pos (by omega)]
  by_cases c4 : bt s 0 = 237
  · rw [if_pos c4, if_pos (by omega)]
    have h1 := bt_range s 1
    have h2 := bt_range s 2
    by_cases c5 : bt s 1 < 160
    · rw [if_pos c5, if_neg (by omega)]
    rw [if_neg c5]
    by_cases c6 : bt s 1 > 191
    · rw [if_pos c6, if_neg (by omega)]
    rw [if_neg c6, if_pos (by omega)]
    by_cases c7 : 128 ≤ bt s 2 ∧ bt s 2 < 192
    · rw [if_pos ((cont8 h2.1 h2.2).2 c7), if_pos ⟨by omega, c4, by omega, by omega, c7⟩]
      rw [low8 h1.1 h1.2, low8 h2.1 h2.2]
      rw [w64 (x := bt s 1 % 64) (by omega) (by omega), w64 (x := bt s 1 % 64 * 64) (by omega) (by omega), w64 (x := bt s 2 % 64) (by omega) (by omega)]
      rw [or64 (x := 53248) (y := bt s 1 % 64 * 64) 12 (by omega) (by omega) (by omega) (by omega) (by omega) (by omega), or64 6 (by omega) (by omega) (by omega) (by omega) (by omega) (by omega)]
    · rw [if_neg (fun h => c7 ((cont8 h2.1 h2.2).1 h)), if_neg (fun h => c7 h.2.2.2.2)]
  · rw [if_neg c4, if_neg (fun h => c4 h.2.1)]

theorem bt_get (s : ByteArray) (i : Nat) (h : i < s.size) : bt s (i : Int) = ((s[i]'h).toNat : Int) := by
  unfold bt
  rw [dif_pos (by simpa using h)]
  simp
/-! ### the checks of the law, of any text -/
theorem bind_at {α β : Type} (a : α) (f : α → Option β) : (some a).bind f = f a := rfl
theorem same_rune : runeAt = PureJ.runeAt := rfl
theorem rune_ev (s : ByteArray) (hs : s.size ≤ 140737488351232) (i : Int) : Ev (fun k => spec_Rune.f k s i) (runeAt s i) := ⟨12, fun k hk => by
  obtain ⟨k, rfl⟩ : ∃ m, k = m + 12 := ⟨k - 12, by omega⟩
  exact rune_tells s hs i k⟩
theorem rune_w {s : ByteArray} {i : Int} (h : (runeAt s i).2 ≠ 0) : 0 < (runeAt s i).2 := by
  revert h
  unfold runeAt runeOf
  repeat' split
  all_goals simp
theorem wf_tells (s : ByteArray) (hs : s.size ≤ 2147483647) : ∀ d p, s.size - p ≤ d → p ≤ s.size → ∃ b, Ev (fun k => spec_WellFormed.l0 k s (p : Int)) b ∧ (b = true → ∃ l, PureQ.CP s p l)
  | 0, p, hd, hp => by
    obtain rfl : p = s.size := by omega
    refine ⟨true, Ev.step (f := fun _ => some true) (fun k => ?_) (Ev.now _), fun _ => ⟨[], PureQ.CP.nil⟩⟩
    rw [spec_WellFormed.l0, if_neg (by omega)]
  | d + 1, p, hd, hp => by
    by_cases he : p < s.size
    case neg =>
      obtain rfl : p = s.size := by omega
      refine ⟨true, Ev.step (f := fun _ => some true) (fun k => ?_) (Ev.now _), fun _ => ⟨[], PureQ.CP.nil⟩⟩
      rw [spec_WellFormed.l0, if_neg (by omega)]
    case pos =>
    have hr := rune_ev s (by omega) (p : Int)
    by_cases h0 : (runeAt s (p : Int)).2 = 0
    · refine ⟨false, Ev.step (fun k => by rw [spec_WellFormed.l0, if_pos (by omega)]) (Ev.bind hr (Ev.congr (fun k => ?_) (Ev.now _))), fun h => by cases h⟩
      rw [if_pos h0]
    · have hw := rune_w h0
      obtain ⟨c, hc⟩ : ∃ c, (runeAt s (p : Int)).1 = c := ⟨_, rfl⟩
      obtain ⟨w, hww⟩ : ∃ w : Nat, (runeAt s (p : Int)).2 = (w : Int) := ⟨(runeAt s (p : Int)).2.toNat, by omega⟩
      have he2 : PureJ.runeAt s (p : Int) = (c, (w : Int)) := by rw [← same_rune, ← hc, ← hww]
      have hf := PureQ.rune_facts he2 (by omega)
      obtain ⟨b, hb, hcp⟩ := wf_tells s hs d (p + w) (by omega) (by omega)
      refine ⟨b, Ev.step (fun k => by rw [spec_WellFormed.l0, if_pos (by omega)]) (Ev.bind hr (Ev.congr (fun k => ?_) hb)), fun h => ?_⟩
      · rw [if_neg h0, hww, w64 (by omega) (by omega)]; rfl
      · obtain ⟨l, hl⟩ := hcp h
        exact ⟨_, PureQ.CP.cons p w c l (by omega) he2 hl⟩
theorem lower_tells (b : Int) (h0 : 0 ≤ b) (h1 : b ≤ 255) : ∃ v, spec_textLower.f b = some v ∧ (v = 39 ↔ b = 39) := by
  unfold spec_textLower.f
  by_cases h2 : b ≥ 65
  · rw [if_pos h2]
    by_cases h3 : b ≤ 90
    · rw [if_pos h3]; exact ⟨_, rfl, by omega⟩
    · rw [if_neg h3]; exact ⟨_, rfl, Iff.rfl⟩
  · rw [if_neg h2]; exact ⟨_, rfl, Iff.rfl⟩
theorem finds_tells (s : ByteArray) (hs : s.size ≤ 2147483647) : ∀ d p, s.size - p ≤ d → p ≤ s.size → ∃ r, Ev (fun k => spec_TextFinds.l0 k s (⟨#[39]⟩ : ByteArray) (p : Int)) r ∧ (¬ r ≥ 0 → ∀ i : Nat, p ≤ i → i < s.size → bt s (i : Int) ≠ 39)
  | 0, p, hd, hp => by
    obtain rfl : p = s.size := by omega
    refine ⟨-1, Ev.step (f := fun _ => some (-1)) (fun k => ?_) (Ev.now _), fun _ i h1 h2 => by omega⟩
    rw [spec_TextFinds.l0, if_neg (by rw [show (((⟨#[39]⟩ : ByteArray).size : Nat) : Int) = 1 from rfl, w64 (by omega) (by omega)]; omega)]
  | d + 1, p, hd, hp => by
    have h1 : (((⟨#[39]⟩ : ByteArray).size : Nat) : Int) = 1 := rfl
    by_cases he : p < s.size
    case neg =>
      obtain rfl : p = s.size := by omega
      refine ⟨-1, Ev.step (f := fun _ => some (-1)) (fun k => ?_) (Ev.now _), fun _ i h1 h2 => by omega⟩
      rw [spec_TextFinds.l0, if_neg (by rw [h1, w64 (by omega) (by omega)]; omega)]
    case pos =>
    have hb := bt_range s (p : Int)
    obtain ⟨v, hv, hvi⟩ := lower_tells (bt s (p : Int)) hb.1 hb.2
    have h39 : spec_textLower.f (bt (⟨#[39]⟩ : ByteArray) 0) = some 39 := by decide +kernel
    have e0 : wrap64 ((p : Int) + 0) = (p : Int) := by rw [w64 (by omega) (by omega)]; omega
    have e1 : wrap64 ((0 : Int) + 1) = 1 := by decide +kernel
    have ep : wrap64 ((p : Int) + 1) = ((p + 1 : Nat) : Int) := by rw [w64 (by omega) (by omega)]; rfl
    have start : ∀ r, Ev (fun k => spec_TextFinds.j2 k s (⟨#[39]⟩ : ByteArray) (p : Int) (v == 39) 1 false) r → Ev (fun k => spec_TextFinds.l0 k s (⟨#[39]⟩ : ByteArray) (p : Int)) r := fun r h => by
      have g1 : Ev (fun k => spec_TextFinds.l1 k s (⟨#[39]⟩ : ByteArray) (p : Int) (v == 39) 1) r := Ev.step (fun k => by rw [spec_TextFinds.l1, if_neg (by rw [h1]; decide)]) h
      have g2 : Ev (fun k => spec_TextFinds.j2 k s (⟨#[39]⟩ : ByteArray) (p : Int) true 0 true) r := Ev.step (fun k => by
        rw [spec_TextFinds.j2, if_pos rfl, e0, if_pos (by omega), if_pos (by omega), hv, bind_at, if_pos (by decide), if_pos (by rw [h1]; decide), h39, bind_at, e1]) g1
      have g3 : Ev (fun k => spec_TextFinds.l1 k s (⟨#[39]⟩ : ByteArray) (p : Int) true 0) r := Ev.step (fun k => by rw [spec_TextFinds.l1, if_pos (by rw [h1]; decide)]) g2
      exact Ev.step (fun k => by rw [spec_TextFinds.l0, if_pos (by rw [h1, ep]; omega)]) g3
    by_cases hq : v = 39
    · refine ⟨(p : Int), start _ (Ev.step (f := fun _ => some (p : Int)) (fun k => ?_) (Ev.now _)), fun h => absurd (show (p : Int) ≥ 0 by omega) h⟩
      rw [spec_TextFinds.j2, if_neg Bool.false_ne_true, if_pos (by rw [hq]; rfl)]
    · obtain ⟨r, hr, hi⟩ := finds_tells s hs d (p + 1) (by omega) (by omega)
      refine ⟨r, start _ (Ev.step (fun k => ?_) hr), fun h i h1 h2 => ?_⟩
      · rw [spec_TextFinds.j2, if_neg Bool.false_ne_true, if_neg (by simpa using hq), ep]
      · by_cases e : i = p
        · subst e; exact fun h => hq (hvi.2 h)
        · exact hi h i (by omega) h2
theorem no39 {s : ByteArray} {p : Nat} {l : List (Int × Nat)} (h : PureQ.CP s p l) (hb : ∀ i : Nat, p ≤ i → i < s.size → bt s (i : Int) ≠ 39) : ∀ x ∈ l, x.1 ≠ 39 := by
  induction h with
  | nil => intro x hx; cases hx
  | cons p w c l hw hr hcp ih =>
    have hf := PureQ.rune_facts hr (by omega)
    intro x hx
    rcases List.mem_cons.1 hx with rfl | hx
    · intro e
      have := hf.2.2.2.2.2.2.2 (by show c < 128; rw [show c = 39 from e]; decide)
      exact hb p (Nat.le_refl _) (by omega) (this.trans e)
    · exact ih (fun i h1 h2 => hb i (by omega) h2) x hx

/-! ### the code units of the text -/
def un1 (c : Int) : List Int := if c ≥ 65536 then [55296 + (c - 65536) / 1024, 56320 + (c - 65536) % 1024] else [c]
def un : List (Int × Nat) → List Int
  | [] => []
  | (c, _) :: l => un1 c ++ un l
theorem wtf_rune (s : ByteArray) (p : Nat) (hp : p ≤ s.size) (hs : s.size ≤ 2147483647) {c w : Int} (h : PureJ.runeAt s (p : Int) = (c, w)) (hw : 0 < w) : Ev (fun k => spec_WtfRune.f k (s.extract p s.size)) (c, w) := by
  refine ⟨12, fun k hk => ?_⟩
  obtain ⟨k, rfl⟩ : ∃ m, k = m + 12 := ⟨k - 12, by omega⟩
  have hsz : (s.extract p s.size).size = s.size - p := by simp
  have e := PureQ.runeAt_extract s p hp
  rw [h] at e
  have e2 : wtfAt (s.extract p s.size) = (c, w) := by
    unfold wtfAt
    rw [same_rune, e, if_pos (show (c, w).2 > 0 from hw)]
  show spec_WtfRune.f (k + 12) (s.extract p s.size) = some (c, w)
  rw [wtf_tells _ (by omega) k, e2]
theorem between_tells (a b c : Int) : spec_between.f a b c = some (decide (a ≤ b ∧ b ≤ c)) := by
  unfold spec_between.f
  by_cases h : a ≤ b
  · rw [if_pos h]; simp [h]
  · rw [if_neg h]; simp [h]
theorem u16w {x : Int} (h0 : 0 ≤ x) (h1 : x < 65536) : IntKind.u16.wrap x = x := by simp [IntKind.wrap, IntKind.bits, IntKind.signed]; omega
theorem un1_length (c : Int) : (un1 c).length ≤ 2 := by unfold un1; split <;> simp
theorem units_tell (s : ByteArray) (hs : s.size ≤ 2147483647) {p : Nat} {l : List (Int × Nat)} (h : PureQ.CP s p l) :
    ∀ (out : List Int) (last : Int), out.length ≤ 2 * p → Ev (fun k => spec_WtfUnits.l0 k (s.extract p s.size) out last) (out ++ un l, true) := by
  induction h with
  | nil =>
    intro out last ho
    have hsz : (s.extract s.size s.size).size = 0 := by simp
    refine Ev.step (f := fun _ => some (out ++ un [], true)) (fun k => ?_) (Ev.now _)
    rw [spec_WtfUnits.l0, if_neg (by rw [hsz]; decide)]
    simp [un]
  | cons p w c l hw hr hcp ih =>
    intro out last ho
    have hf := PureQ.rune_facts hr (by omega)
    obtain ⟨hc0, hc1, hcs, hw4, hpw, _, hw1, hb1⟩ := hf
    have hsz : (s.extract p s.size).size = s.size - p := by simp
    have hext : (s.extract p s.size).extract ((w : Int)).toNat (s.extract p s.size).size = s.extract (p + w) s.size := by
      rw [hsz, ByteArray.extract_extract, Int.toNat_natCast]
      congr 1
      omega
    have hl := un1_length c
    have h1 := ih (out ++ un1 c) c (by rw [List.length_append]; omega)
    rw [List.append_assoc] at h1
    have hj : Ev (fun k => spec_WtfUnits.j1 k (s.extract p s.size) out c (w : Int) false) (out ++ un ((c, w) :: l), true) := by
      refine Ev.step (fun k => ?_) h1
      rw [spec_WtfUnits.j1, if_neg Bool.false_ne_true]
      unfold un1
      by_cases hbig : c ≥ 65536
      · have e1 : wrap64 (c - 65536) = c - 65536 := w64 (by omega) (by omega)
        have e2 : wrap64 (55296 + (c - 65536) / 1024) = 55296 + (c - 65536) / 1024 := w64 (by omega) (by omega)
        have e3 : Go.bits .and .i64 (c - 65536) 1023 = (c - 65536) % 1024 := bits_mask .i64 63 (by decide) wraps_i64' 10 (by decide) _ (by omega) (by omega)
        have e4 : wrap64 (56320 + (c - 65536) % 1024) = 56320 + (c - 65536) % 1024 := w64 (by omega) (by omega)
        rw [if_pos hbig, if_pos hbig, e1, e2, e3, e4, u16w (by omega) (by omega), u16w (by omega) (by omega), bind_at, if_pos (by simp; omega), if_pos (by omega), if_pos (by rw [hsz]; omega), hext]
      · rw [if_neg hbig, if_neg hbig, if_pos (by omega), if_pos (by omega), if_pos (by rw [hsz]; omega), hext, u16w hc0 (by omega)]
    refine Ev.step (fun k => by rw [spec_WtfUnits.l0, if_pos (by rw [hsz]; omega)]) (Ev.bind (wtf_rune s p (by omega) hs hr (by omega)) ?_)
    have hno : ¬ (56320 ≤ c ∧ c ≤ 57343) := by omega
    refine Ev.congr (fun k => ?_) hj
    rw [if_neg (show ¬ ((w : Int) = 0) by omega)]
    by_cases h3 : (w : Int) = 3
    · rw [if_pos h3]
      unfold spec_wtfTrail.f
      rw [between_tells, bind_at, bind_at, decide_eq_false hno, if_neg Bool.false_ne_true]
    · rw [if_neg h3]
theorem wtf_pos (t : ByteArray) (h : (wtfAt t).2 ≠ 0) : 1 ≤ (wtfAt t).2 ∧ (wtfAt t).2 ≤ (t.size : Int) := by
  have hb := bt_range t 0
  revert h
  unfold wtfAt runeAt runeOf
  have e1 : (0 : Int) + 1 = 1 := rfl
  have e2 : (0 : Int) + 2 = 2 := rfl
  have e3 : (0 : Int) + 3 = 3 := rfl
  rw [e1, e2, e3]
  generalize bt t 0 = x0 at *
  generalize bt t 1 = x1 at *
  generalize bt t 2 = x2 at *
  generalize bt t 3 = x3 at *
  repeat' split
  all_goals (simp only []; intro h; constructor <;> omega)
theorem units_total : ∀ (d : Nat) (t : ByteArray) (out : List Int) (last : Int), t.size ≤ d → t.size ≤ 2147483647 → out.length + 2 * t.size ≤ 10000000000 → ∃ r, Ev (fun k => spec_WtfUnits.l0 k t out last) r
  | 0, t, out, last, hd, hs, ho => by
    refine ⟨(out, true), Ev.step (f := fun _ => some (out, true)) (fun k => ?_) (Ev.now _)⟩
    rw [spec_WtfUnits.l0, if_neg (by omega)]
  | d + 1, t, out, last, hd, hs, ho => by
    by_cases he : (t.size : Int) > 0
    case neg =>
      refine ⟨(out, true), Ev.step (f := fun _ => some (out, true)) (fun k => ?_) (Ev.now _)⟩
      rw [spec_WtfUnits.l0, if_neg he]
    case pos =>
    have hw : Ev (fun k => spec_WtfRune.f k t) (wtfAt t) := ⟨12, fun k hk => by
      obtain ⟨k, rfl⟩ : ∃ m, k = m + 12 := ⟨k - 12, by omega⟩
      exact wtf_tells t (by omega) k⟩
    have hbad : ∀ r n, Ev (fun k => spec_WtfUnits.j1 k t out r n true) ([], false) := fun r n => Ev.step (f := fun _ => some ([], false)) (fun k => by rw [spec_WtfUnits.j1, if_pos rfl]) (Ev.now _)
    by_cases h0 : (wtfAt t).2 = 0
    · refine ⟨([], false), Ev.step (fun k => by rw [spec_WtfUnits.l0, if_pos he]) (Ev.bind hw (Ev.congr (fun k => ?_) (hbad (wtfAt t).1 (wtfAt t).2)))⟩
      rw [if_pos h0]
    · have hp := wtf_pos t h0
      have hgood : ∃ r, Ev (fun k => spec_WtfUnits.j1 k t out (wtfAt t).1 (wtfAt t).2 false) r := by
        have hsz : (t.extract ((wtfAt t).2).toNat t.size).size = t.size - (wtfAt t).2.toNat := by simp
        by_cases hbig : (wtfAt t).1 ≥ 65536
        · obtain ⟨r, hr⟩ := units_total d (t.extract ((wtfAt t).2).toNat t.size) (out ++ [IntKind.u16.wrap (wrap64 (55296 + ((wrap64 ((wtfAt t).1 - 65536)) / 1024))), IntKind.u16.wrap (wrap64 (56320 + (Go.bits .and .i64 (wrap64 ((wtfAt t).1 - 65536)) 1023)))]) (wtfAt t).1 (by omega) (by omega) (by rw [List.length_append, hsz]; simp; omega)
          refine ⟨r, Ev.step (fun k => ?_) hr⟩
          rw [spec_WtfUnits.j1, if_neg Bool.false_ne_true, if_pos hbig, bind_at, if_pos (by simp; omega), if_pos (by omega), if_pos hp.2]
        · obtain ⟨r, hr⟩ := units_total d (t.extract ((wtfAt t).2).toNat t.size) (out ++ [IntKind.u16.wrap ((wtfAt t).1)]) (wtfAt t).1 (by omega) (by omega) (by rw [List.length_append, hsz]; simp; omega)
          refine ⟨r, Ev.step (fun k => ?_) hr⟩
          rw [spec_WtfUnits.j1, if_neg Bool.false_ne_true, if_neg hbig, if_pos (by omega), if_pos (by omega), if_pos hp.2]
      obtain ⟨r, hr⟩ := hgood
      by_cases hb : (wtfAt t).2 = 3 ∧ (56320 ≤ (wtfAt t).1 ∧ (wtfAt t).1 ≤ 57343) ∧ (55296 ≤ last ∧ last ≤ 56319)
      · refine ⟨([], false), Ev.step (fun k => by rw [spec_WtfUnits.l0, if_pos he]) (Ev.bind hw (Ev.congr (fun k => ?_) (hbad (wtfAt t).1 (wtfAt t).2)))⟩
        unfold spec_wtfTrail.f spec_wtfLead.f
        rw [if_neg h0, if_pos hb.1, between_tells, bind_at, bind_at, decide_eq_true hb.2.1, if_pos rfl, between_tells, bind_at, bind_at, decide_eq_true hb.2.2]
      · refine ⟨r, Ev.step (fun k => by rw [spec_WtfUnits.l0, if_pos he]) (Ev.bind hw (Ev.congr (fun k => ?_) hr))⟩
        unfold spec_wtfTrail.f spec_wtfLead.f
        rw [if_neg h0]
        by_cases h3 : (wtfAt t).2 = 3
        · rw [if_pos h3, between_tells, bind_at, bind_at]
          by_cases ht : 56320 ≤ (wtfAt t).1 ∧ (wtfAt t).1 ≤ 57343
          · rw [decide_eq_true ht, if_pos rfl, between_tells, bind_at, bind_at, decide_eq_false (fun h => hb ⟨h3, ht, h⟩)]
          · rw [decide_eq_false ht, if_neg Bool.false_ne_true]
        · rw [if_neg h3]

/-! ### the quoted text -/
theorem bt_strOf (xs : List Int) (j : Nat) (hj : j < xs.length) (h0 : 0 ≤ xs[j]) (h1 : xs[j] < 256) : bt (strOfNums xs) (j : Int) = xs[j] := by
  have hs : j < (strOfNums xs).size := by rw [strOfNums_size]; exact hj
  rw [bt_get _ _ hs]
  have e : (strOfNums xs)[j]'hs = UInt8.ofNat (xs[j]).toNat := by
    show (strOfNums xs).data[j]'_ = _
    simp [strOfNums]
  rw [e]
  simp
  omega
theorem strOf_append (xs ys : List Int) : strOfNums (xs ++ ys) = strOfNums xs ++ strOfNums ys := by
  apply ByteArray.ext
  rw [ByteArray.data_append]
  simp [strOfNums]
theorem at_strOf {xs : List Int} (h : ∀ x ∈ xs, 0 ≤ x ∧ x < 256) : PureJ.At (strOfNums xs) 0 xs := fun t ht => by
  rw [Nat.zero_add]
  exact bt_strOf xs t ht (h _ (List.getElem_mem ht)).1 (h _ (List.getElem_mem ht)).2
theorem hexd_range {n : Int} (h0 : 0 ≤ n) (h1 : n < 16) : 0 ≤ PureJ.hexd n ∧ PureJ.hexd n ≤ 127 := by
  have := (PureJ.hexd_at h0 h1).2
  generalize PureJ.hexd n = x at *
  omega
theorem hx_range {v : Int} (h0 : 0 ≤ v) (h1 : v < 65536) : ∀ x ∈ PureQ.hx v, 0 ≤ x ∧ x ≤ 127 := by
  intro x hx
  unfold PureQ.hx at hx
  simp only [List.mem_cons, List.not_mem_nil, or_false] at hx
  rcases hx with rfl | rfl | rfl | rfl | rfl | rfl
  · decide
  · decide
  · exact hexd_range (by omega) (by omega)
  · exact hexd_range (by omega) (by omega)
  · exact hexd_range (by omega) (by omega)
  · exact hexd_range (by omega) (by omega)
theorem esc1_range {c : Int} (h0 : 0 ≤ c) (h1 : c ≤ 1114111) : ∀ x ∈ PureQ.esc1 c, 0 ≤ x ∧ x ≤ 127 := by
  unfold PureQ.esc1
  by_cases c1 : c = 8
  · rw [if_pos c1]; decide
  rw [if_neg c1]
  by_cases c2 : c = 12
  · rw [if_pos c2]; decide
  rw [if_neg c2]
  by_cases c3 : c = 10
  · rw [if_pos c3]; decide
  rw [if_neg c3]
  by_cases c4 : c = 13
  · rw [if_pos c4]; decide
  rw [if_neg c4]
  by_cases c5 : c = 9
  · rw [if_pos c5]; decide
  rw [if_neg c5]
  by_cases c6 : c = 92
  · rw [if_pos c6]; decide
  rw [if_neg c6]
  by_cases c7 : c = 34
  · rw [if_pos c7]; decide
  rw [if_neg c7]
  by_cases c8 : c ≤ 65535
  · rw [if_pos c8]; exact hx_range h0 (by omega)
  · rw [if_neg c8]
    intro x hx
    rcases List.mem_append.1 hx with h | h
    · exact hx_range (by omega) (by omega) x h
    · exact hx_range (by omega) (by omega) x h
theorem bytes_range (s : ByteArray) : ∀ x ∈ bytesOf s, 0 ≤ x ∧ x < 256 := by
  intro x hx
  unfold bytesOf at hx
  obtain ⟨b, _, rfl⟩ := List.mem_map.1 hx
  have := UInt8.toNat_lt b
  constructor <;> omega
theorem outp_range {s : ByteArray} {a : Bool} {p : Nat} {l : List (Int × Nat)} (h : PureQ.CP s p l) : ∀ x ∈ PureQ.outp s a p l, (0 ≤ x ∧ x < 256) ∧ (a = true → x ≤ 127) := by
  induction h with
  | nil => intro x hx; simp [PureQ.outp] at hx
  | cons p w c l hw hr hcp ih =>
    have hf := PureQ.rune_facts hr (by omega)
    obtain ⟨hc0, hc1, hcs, hw4, hpw, _, hw1, hb1⟩ := hf
    intro x hx
    simp only [PureQ.outp] at hx
    rcases List.mem_append.1 hx with hx1 | hx1
    · clear hx ih
      unfold PureQ.pc at hx1
      by_cases hcan : PureQ.canP a c = true
      · rw [if_pos hcan] at hx1
        refine ⟨bytes_range _ x hx1, fun ha => ?_⟩
        subst ha
        have hc : c ≤ 126 := by
          unfold PureQ.canP at hcan
          split at hcan
          · assumption
          · simp at hcan
        obtain ⟨t, ht, rfl⟩ := List.getElem_of_mem hx1
        have hlen : (bytesOf (s.extract p (p + w))).length = w := by rw [bytesOf_length, ByteArray.size_extract]; omega
        have hw1 := hw1 (by omega)
        have hb1 := hb1 (by omega)
        have ht0 : t = 0 := by omega
        rw [PureQ.bytesOf_at s p (p + w) (by omega) t ht]
        subst ht0
        rw [Nat.add_zero, hb1]
        omega
      · rw [if_neg hcan] at hx1
        have := esc1_range hc0 hc1 x hx1
        exact ⟨⟨this.1, by omega⟩, fun _ => this.2⟩
    · exact ih x hx1
def quoted (s : ByteArray) (a : Bool) (l : List (Int × Nat)) : List Int := [39] ++ PureQ.outp s a 0 l ++ [39]
theorem quoted_range {s : ByteArray} {a : Bool} {l : List (Int × Nat)} (h : PureQ.CP s 0 l) : ∀ x ∈ quoted s a l, (0 ≤ x ∧ x < 256) ∧ (a = true → x ≤ 127) := by
  intro x hx
  unfold quoted at hx
  rcases List.mem_append.1 hx with hx | hx
  · rcases List.mem_append.1 hx with hx | hx
    · rw [List.mem_singleton.1 hx]; exact ⟨by decide, fun _ => by decide⟩
    · exact outp_range h x hx
  · rw [List.mem_singleton.1 hx]; exact ⟨by decide, fun _ => by decide⟩
theorem quote_tells (s : ByteArray) (a : Bool) (hs : s.size ≤ 2147483647) {l : List (Int × Nat)} (h : PureQ.CP s 0 l) (h39 : ∀ x ∈ l, x.1 ≠ 39) : Ev (fun k => impl_QuoteSingle.f k s a) (strOfNums (quoted s a l)) := by
  have h1 := (PureQ.quote_ev s a hs h h39).1 [39] (by simp)
  have h2 : Ev (fun k => PinternalQuote.helpers_internalQuote.f k s a 39) (quoted s a l) := Ev.congr (fun k => by
    unfold PinternalQuote.helpers_internalQuote.f
    rw [bind_at, if_pos (by decide)]
    rfl) h1
  have h3 : Ev (fun k => helpers_internalQuote.f k s a 39) (quoted s a l) := Ev.congr (fun k => by unfold helpers_internalQuote.f; rw [if_pos hs]) h2
  have h4 : Ev (fun k => helpers_QuoteSingle.f k s a) (quoted s a l) := by
    unfold helpers_QuoteSingle.f
    exact Ev.bind h3 (Ev.now _)
  unfold impl_QuoteSingle.f
  exact Ev.bind h4 (Ev.now _)

/-! ### the code units that the literal means -/
def fl : List Int → List Int
  | [] => []
  | n :: us => n / 256 % 256 :: n % 256 :: fl us
theorem fl_append (a b : List Int) : fl (a ++ b) = fl a ++ fl b := by
  induction a with
  | nil => rfl
  | cons n a ih => simp [fl, ih]
theorem fl_length (a : List Int) : (fl a).length = 2 * a.length := by
  induction a with
  | nil => rfl
  | cons n a ih => simp [fl, ih]; omega
theorem fl_range (a : List Int) : ∀ x ∈ fl a, 0 ≤ x ∧ x < 256 := by
  induction a with
  | nil => intro x hx; simp [fl] at hx
  | cons n a ih =>
    intro x hx
    simp only [fl, List.mem_cons] at hx
    rcases hx with rfl | rfl | hx
    · omega
    · omega
    · exact ih x hx
theorem fl_at : ∀ (a : List Int) (t : Nat) (h : t < a.length), (fl a)[2 * t]? = some (a[t] / 256 % 256) ∧ (fl a)[2 * t + 1]? = some (a[t] % 256)
  | [], t, h => by simp at h
  | n :: a, 0, h => by simp [fl]
  | n :: a, t + 1, h => by
    have := fl_at a t (by simpa using h)
    have e1 : 2 * (t + 1) = 2 * t + 1 + 1 := by omega
    rw [e1]
    simp only [fl, List.getElem?_cons_succ, List.getElem_cons_succ]
    exact this
theorem ub_un (l : List (Int × Nat)) : PureQ.ub l = strOfNums (fl (un l)) := by
  induction l with
  | nil => rfl
  | cons x l ih =>
    obtain ⟨c, w⟩ := x
    simp only [PureQ.ub, un, fl_append, strOf_append, ih]
    congr 1
    unfold PureJ.u2 un1
    by_cases h : c < 65536
    · rw [if_pos h, if_neg (by omega)]; rfl
    · rw [if_neg h, if_pos (by omega)]
      unfold PureJ.u1
      rw [← strOf_append]
      rfl
theorem un_range {s : ByteArray} {p : Nat} {l : List (Int × Nat)} (h : PureQ.CP s p l) : (∀ x ∈ un l, 0 ≤ x ∧ x < 65536) ∧ p ≤ s.size ∧ (un l).length ≤ 2 * (s.size - p) := by
  induction h with
  | nil => exact ⟨by simp [un], Nat.le_refl _, by simp [un]⟩
  | cons p w c l hw hr hcp ih =>
    have hf := PureQ.rune_facts hr (by omega)
    have hl := un1_length c
    refine ⟨fun x hx => ?_, by omega, by simp only [un, List.length_append]; omega⟩
    simp only [un] at hx
    rcases List.mem_append.1 hx with hx | hx
    · unfold un1 at hx
      split at hx
      · simp only [List.mem_cons, List.not_mem_nil, or_false] at hx
        rcases hx with rfl | rfl <;> omega
      · rw [List.mem_singleton.1 hx]; omega
    · exact ih.1 x hx
theorem or16 {x y : Int} (hx0 : 0 ≤ x) (hx : x % 256 = 0) (hx1 : x < 65536) (hy0 : 0 ≤ y) (hy : y < 256) : Go.bits .or .u16 x y = x + y :=
  bits_join .u16 16 (by decide) (fun n h0 h1 => u16w h0 (by omega)) 8 x y hx0 hx (by omega) hy0 hy (by omega)
theorem wide_tells (us : List Int) (hr : ∀ x ∈ us, 0 ≤ x ∧ x < 65536) (hl : us.length ≤ 10000000000) : ∀ d t, t + d = us.length → Ev (fun k => spec_WtfWide.l0 k (strOfNums (fl us)) (us.take t) ((2 * t : Nat) : Int)) us
  | 0, t, ht => by
    have hsz : (strOfNums (fl us)).size = 2 * us.length := by rw [strOfNums_size, fl_length]
    refine Ev.step (f := fun _ => some us) (fun k => ?_) (Ev.now _)
    rw [spec_WtfWide.l0, if_neg (by rw [w64 (by omega) (by omega)]; omega), List.take_of_length_le (by omega)]
  | d + 1, t, ht => by
    have hsz : (strOfNums (fl us)).size = 2 * us.length := by rw [strOfNums_size, fl_length]
    have ih := wide_tells us hr hl d (t + 1) (by omega)
    have h1 : t < us.length := by omega
    have ha := fl_at us t h1
    have hx := hr _ (List.getElem_mem h1)
    have ew : wrap64 (((2 * t : Nat) : Int) + 1) = ((2 * t + 1 : Nat) : Int) := by rw [w64 (by omega) (by omega)]; rfl
    have ew2 : wrap64 (((2 * t : Nat) : Int) + 2) = ((2 * (t + 1) : Nat) : Int) := by rw [w64 (by omega) (by omega)]; omega
    have g : ∀ (j : Nat) (v : Int), (fl us)[j]? = some v → bt (strOfNums (fl us)) (j : Int) = v := fun j v h => by
      obtain ⟨hj, rfl⟩ := List.getElem?_eq_some_iff.1 h
      have := fl_range us _ (List.getElem_mem hj)
      exact bt_strOf _ j hj this.1 this.2
    have b0 := g _ _ ha.1
    have b1 := g _ _ ha.2
    refine Ev.step (fun k => ?_) ih
    rw [spec_WtfWide.l0, ew, if_pos (by omega), if_pos (by omega), if_pos (by omega), if_pos (by omega), if_pos (by rw [List.length_take]; omega), b0, b1, ew2]
    have e : Go.bits .or .u16 (IntKind.u16.wrap ((IntKind.u16.wrap (us[t] / 256 % 256)) * 256)) (IntKind.u16.wrap (us[t] % 256)) = us[t] := by
      generalize us[t] = x at hx
      rw [u16w (x := x / 256 % 256) (by omega) (by omega), u16w (x := x / 256 % 256 * 256) (by omega) (by omega), u16w (x := x % 256) (by omega) (by omega), or16 (by omega) (by omega) (by omega) (by omega) (by omega)]
      omega
    rw [e, List.take_succ_eq_append_getElem h1]
theorem equal_tells (us : List Int) (hl : us.length ≤ 10000000000) : ∀ d t, t + d = us.length → Ev (fun k => spec_WtfEqual.l0 k us us (t : Int)) true
  | 0, t, ht => Ev.step (f := fun _ => some true) (fun k => by rw [spec_WtfEqual.l0, if_neg (by omega)]) (Ev.now _)
  | d + 1, t, ht => Ev.step (fun k => by rw [spec_WtfEqual.l0, if_pos (by omega), if_pos (by omega), if_pos (by omega), if_pos rfl, w64 (by omega) (by omega)]; rfl) (equal_tells us hl d (t + 1) (by omega))
theorem ascii_tells (xs : List Int) (hl : xs.length ≤ 1000000000000) (hr : ∀ x ∈ xs, 0 ≤ x ∧ x ≤ 127) : ∀ d t, t + d = xs.length → Ev (fun k => spec_TextAscii.l0 k (strOfNums xs) (t : Int)) true
  | 0, t, ht => Ev.step (f := fun _ => some true) (fun k => by rw [spec_TextAscii.l0, if_neg (by rw [strOfNums_size]; omega)]) (Ev.now _)
  | d + 1, t, ht => Ev.step (fun k => by
      have h := hr _ (List.getElem_mem (show t < xs.length by omega))
      rw [spec_TextAscii.l0, if_pos (by rw [strOfNums_size]; omega), if_pos (by omega), bt_strOf xs t (by omega) h.1 (by omega), if_neg (by omega), w64 (by omega) (by omega)]
      first | done | rfl) (ascii_tells xs hl hr d (t + 1) (by omega))

/-! ### the law -/
theorem law_open (s : ByteArray) (a : Bool) (us : List Int) : Ev (fun k => laws_FnQuoteSingle.j0 k s a true us true) true :=
  Ev.step (f := fun _ => some true) (fun k => by rw [laws_FnQuoteSingle.j0, if_pos rfl]) (Ev.now _)
theorem awake : Ev (fun k => impl_QuoteSingle.f k (⟨#[97]⟩ : ByteArray) true) ⟨#[39, 97, 39]⟩ := by
  have hcp : PureQ.CP (⟨#[97]⟩ : ByteArray) 0 [(97, 1)] := PureQ.CP.cons 0 1 97 [] (by decide) (by decide +kernel) PureQ.CP.nil
  have h := quote_tells (⟨#[97]⟩ : ByteArray) true (by decide) hcp (by simp)
  have e : strOfNums (quoted (⟨#[97]⟩ : ByteArray) true [(97, 1)]) = ⟨#[39, 97, 39]⟩ := by decide +kernel
  rw [e] at h
  exact h
theorem law_good (s : ByteArray) (a : Bool) (hs : s.size ≤ 2147483647) {l : List (Int × Nat)} (h : PureQ.CP s 0 l) (h39 : ∀ x ∈ l, x.1 ≠ 39) : Ev (fun k => laws_FnQuoteSingle.j0 k s a true (un l) false) true := by
  have hq := quote_tells s a hs h h39
  have hol := (PureQ.outp_length s a h).2
  have hlen : (quoted s a l).length = (PureQ.outp s a 0 l).length + 2 := by unfold quoted; simp
  have hsz : (strOfNums (quoted s a l)).size = (PureQ.outp s a 0 l).length + 2 := by rw [strOfNums_size, hlen]
  have hA := at_strOf (fun x hx => (quoted_range (a := a) h x hx).1)
  have hA1 : PureJ.At (strOfNums (quoted s a l)) 1 (PureQ.outp s a 0 l ++ [39]) := by
    have e : quoted s a l = [39] ++ (PureQ.outp s a 0 l ++ [39]) := by unfold quoted; rw [List.append_assoc]
    have h2 := hA
    rw [e] at h2
    have h3 := h2.right
    rw [← e] at h3
    exact h3
  have hb0 : bt (strOfNums (quoted s a l)) 0 = 39 := by
    have := hA 0 (by rw [hlen]; omega)
    simpa [quoted] using this
  obtain ⟨m, hm⟩ := PureQ.tr_of (strOfNums (quoted s a l)) s a hs (by rw [hsz]; omega) h h39 1 ⟨#[]⟩ hA1 (by rw [hsz]; omega) (by show 0 + _ ≤ _; omega)
  have eU : (⟨#[]⟩ : ByteArray) ++ PureQ.ub l = strOfNums (fl (un l)) := by
    rw [ub_un]
    apply ByteArray.ext
    rw [ByteArray.data_append]
    simp
  rw [eU] at hm
  have hu := un_range h
  obtain ⟨hur, _, hul⟩ := hu
  generalize hqq : strOfNums (quoted s a l) = q at *
  have hfirst : q.extract 0 1 = ⟨#[39]⟩ := by
    have hi : 0 < q.size := by omega
    have hb := bt_get q 0 hi
    rw [show bt q ((0 : Nat) : Int) = 39 from hb0] at hb
    apply ByteArray.ext
    rw [ByteArray.data_extract]
    apply Array.ext'
    rw [Array.toList_extract, List.extract_eq_take_drop]
    have hl : 0 < q.data.toList.length := by rw [Array.length_toList]; exact hi
    rw [List.drop_zero]
    have e1 : q.data.toList = q.data.toList[0] :: q.data.toList.drop 1 := by rw [← List.drop_eq_getElem_cons hl, List.drop_zero]
    rw [e1]
    have : q.data.toList[0] = 39 := by
      have e4 : (q[0]'hi) = q.data.toList[0] := rfl
      rw [← e4]
      apply UInt8.toNat_inj.1
      show (q[0]'hi).toNat = 39
      omega
    rw [this]
    rfl
  have hlit : Lit1 q (q.size - 1) (strOfNums (fl (un l))) m := ⟨by omega, hb0, hfirst, by omega, by omega, hm⟩
  have hnx := Next_tells hlit
  have hw : Ev (fun k => spec_WtfWide.f k (strOfNums (fl (un l)))) (un l) := by
    unfold spec_WtfWide.f
    have := wide_tells (un l) hur (by omega) (un l).length 0 (by omega)
    exact this
  have hj : Ev (fun k => spec_JsString.f k q) (un l, true) := by
    unfold spec_JsString.f
    rw [hnx]
    refine Ev.congr (fun k => ?_) (Ev.bind (f := fun _ t => some (t, true)) hw (Ev.now _))
    rw [bind_at, if_pos rfl, if_neg Bool.false_ne_true, if_pos rfl, if_pos rfl]
  have he : Ev (fun k => spec_WtfEqual.f k (un l) (un l)) true := by
    unfold spec_WtfEqual.f
    have := equal_tells (un l) (by omega) (un l).length 0 (by omega)
    exact Ev.congr (fun k => by rw [if_pos rfl]; rfl) this
  refine Ev.step (fun k => by rw [laws_FnQuoteSingle.j0, if_neg Bool.false_ne_true]) (Ev.bind hq (Ev.bind hj ?_))
  have hlast : Ev (fun k => if a = true then ((spec_TextAscii.f k q).bind fun t159 => (if t159 = true then (some true) else (some false))) else (some true)) true := by
    cases a
    · exact Ev.congr (fun k => by rw [if_neg Bool.false_ne_true]) (Ev.now true)
    · have ha : Ev (fun k => spec_TextAscii.f k q) true := by
        unfold spec_TextAscii.f
        have := ascii_tells (quoted s true l) (by rw [hlen]; omega) (fun x hx => ⟨(quoted_range (a := true) h x hx).1.1, (quoted_range (a := true) h x hx).2 rfl⟩) (quoted s true l).length 0 (by omega)
        rw [hqq] at this
        exact this
      refine Ev.congr (fun k => ?_) (Ev.bind (f := fun _ t159 => (if t159 = true then (some true) else (some false))) ha (Ev.now true))
      rw [if_pos rfl]
  refine Ev.congr (fun k => ?_) (Ev.bind (f := fun k t158 => (if t158 = true then (if a = true then ((spec_TextAscii.f k q).bind fun t159 => (if t159 = true then (some true) else (some false))) else (some true)) else (some false))) he (Ev.congr (fun k => by rw [if_pos rfl]) hlast))
  rw [if_pos rfl, if_pos (by omega), if_pos hb0]
theorem FnQuoteSingle : laws_FnQuoteSingle.Pure := by
  intro s a hs0
  by_cases hbig : (s.size : Int) > 2147483647
  · exact ⟨0, by unfold laws_FnQuoteSingle.f; rw [if_pos hbig]⟩
  have hs : s.size ≤ 2147483647 := by omega
  have haw : ((⟨#[39, 97, 39]⟩ : ByteArray).toList == ([39, 97, 39] : List UInt8)) = true := by decide +kernel
  have hx : s.extract 0 s.size = s := by simp
  obtain ⟨b, hb, hcp⟩ := wf_tells s hs s.size 0 (by omega) (by omega)
  obtain ⟨r, hr, hri⟩ := finds_tells s hs s.size 0 (by omega) (by omega)
  have hb : Ev (fun k => spec_WellFormed.f k s) b := Ev.congr (fun k => rfl) hb
  have hr : Ev (fun k => spec_TextFinds.f k s (⟨#[39]⟩ : ByteArray)) r := Ev.congr (fun k => rfl) hr
  have goal : Ev (fun k => laws_FnQuoteSingle.f k s a) true := by
    unfold laws_FnQuoteSingle.f
    refine Ev.congr (fun k => by rw [if_neg hbig]) (Ev.bind awake ?_)
    rw [haw]
    cases b with
    | false =>
      obtain ⟨u, hu⟩ := units_total s.size s [] 0 (Nat.le_refl _) hs (by simp; omega)
      have hu : Ev (fun k => spec_WtfUnits.f k s) u := hu
      refine Ev.bind hu ?_
      by_cases hu2 : u.2 = true
      · refine Ev.congr (fun k => by rw [if_pos hu2]) (Ev.bind hb ?_)
        exact Ev.congr (fun k => by rw [if_neg Bool.false_ne_true]) (law_open s a u.1)
      · exact Ev.congr (fun k => by rw [if_neg hu2]) (law_open s a u.1)
    | true =>
      obtain ⟨l, hl⟩ := hcp rfl
      have hu := units_tell s hs hl [] 0 (by simp)
      rw [hx, List.nil_append] at hu
      have hu : Ev (fun k => spec_WtfUnits.f k s) (un l, true) := hu
      refine Ev.bind hu (Ev.congr (fun k => by rw [if_pos rfl]) (Ev.bind hb (Ev.congr (fun k => by rw [if_pos rfl]) (Ev.bind hr ?_))))
      by_cases hq : r ≥ 0
      · exact Ev.congr (fun k => by rw [decide_eq_true hq]) (law_open s a (un l))
      · exact Ev.congr (fun k => by rw [decide_eq_false hq]) (law_good s a hs hl (no39 hl (fun i h1 h2 => hri hq i h1 h2)))
  exact goal.rounds
end Go.Proofs.Ytmgepjnaalnckaa.Pure
