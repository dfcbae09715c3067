-- Written by printx.py of this session, over the kit's print, with contracts of this session for some functions
import Derived.Test.YtmgepjnaalnckaaPinternalQuotex0
namespace Go.Proofs.Ytmgepjnaalnckaa.PinternalQuote
open Go.RowKit Go.Proofs.YtmgepjnaalnckaaW.PrintWords Go.Proofs.YtmgepjnaalnckaaW.PrintLast Go.Proofs.YtmgepjnaalnckaaW.PrintMore
attribute [local go_sem] max2_int min2_int max_two min_two max_three min_three max_four min_four   -- for this text's walks alone
set_option linter.unusedVariables false
set_option linter.unusedSimpArgs false

/-! ### helpers_canPrintWithoutEscape: function 35 -/
def helpers_canPrintWithoutEscape.f (a0 : Int) (a1 : Bool) : Option (Bool) := if a0 ≤ 126 then (if a0 ≥ 32 then (if a0 = 92 then (some false) else (some (a0 != 34))) else (some false)) else (if a1 = true then (some false) else (if a0 = 65279 then (some false) else (if a0 < 55296 then (some true) else (some (decide (a0 > 57343))))))
set_option maxHeartbeats 8000000 in
set_option maxRecDepth 100000 in
theorem helpers_canPrintWithoutEscape.calls (a0 : Int) (a1 : Bool) (r : Bool) (w : World) (h : helpers_canPrintWithoutEscape.f a0 a1 = some r) :
    Calls Try.prog 35 #[.int .i32 a0, .bool a1] w fun e w' => e = .returned (.bool r) ∧ Drawn0 w w' := by
  have H : (if a0 ≤ 126 then (if a0 ≥ 32 then (if a0 = 92 then (some false) else (some (a0 != 34))) else (some false)) else (if a1 = true then (some false) else (if a0 = 65279 then (some false) else (if a0 < 55296 then (some true) else (some (decide (a0 > 57343))))))) = some r := h
  clear h
  by_cases c3 : a0 ≤ 126
  · rw [if_pos c3] at H
    have c3b0 : decide (a0 ≤ 126) = true := decide_eq_true c3
    clear c3
    by_cases c4 : a0 ≥ 32
    · rw [if_pos c4] at H
      have c4b0 : decide (32 ≤ a0) = true := decide_eq_true c4
      clear c4
      by_cases c5 : a0 = 92
      · rw [if_pos c5] at H
        have c5b0 : (a0 == 92) = true := beq_iff_eq.mpr c5
        have c5b1 : (a0 != 92) = false := bne_eq_false_iff_eq.mpr c5
        clear c5
        obtain rfl := Option.some.inj H
        go_enter Try.func35, Try.ntmps35
        go_wp2
        go_ret
        exact ⟨by first | rfl | (simp; done) | (simp [*]; done), by repeat (first | exact Drawn0.refl _ | apply Drawn0.step)⟩
      · rw [if_neg c5] at H
        have c5b0 : (a0 == 92) = false := beq_eq_false_iff_ne.mpr c5
        have c5b1 : (a0 != 92) = true := bne_iff_ne.mpr c5
        obtain rfl := Option.some.inj H
        go_enter Try.func35, Try.ntmps35
        go_wp2
        go_ret
        exact ⟨by first | rfl | (simp; done) | (simp [*]; done), by repeat (first | exact Drawn0.refl _ | apply Drawn0.step)⟩
    · rw [if_neg c4] at H
      have c4b0 : decide (32 ≤ a0) = false := decide_eq_false c4
      clear c4
      obtain rfl := Option.some.inj H
      go_enter Try.func35, Try.ntmps35
      go_wp2
      go_ret
      exact ⟨by first | rfl | (simp; done) | (simp [*]; done), by repeat (first | exact Drawn0.refl _ | apply Drawn0.step)⟩
  · rw [if_neg c3] at H
    have c3b0 : decide (a0 ≤ 126) = false := decide_eq_false c3
    clear c3
    by_cases c6 : a1 = true
    · subst c6
      have H1 : (some false) = some r := by rw [if_pos rfl] at H; exact H
      clear H
      have H := H1
      clear H1
      obtain rfl := Option.some.inj H
      go_enter Try.func35, Try.ntmps35
      go_wp2
      go_ret
      exact ⟨by first | rfl | (simp; done) | (simp [*]; done), by repeat (first | exact Drawn0.refl _ | apply Drawn0.step)⟩
    · replace c6 := Bool.eq_false_iff.mpr c6
      subst c6
      have H1 : (if a0 = 65279 then (some false) else (if a0 < 55296 then (some true) else (some (decide (a0 > 57343))))) = some r := by rw [if_neg (show ¬ (false = true) by decide)] at H; exact H
      clear H
      have H := H1
      clear H1
      by_cases c7 : a0 = 65279
      · rw [if_pos c7] at H
        have c7b0 : (a0 == 65279) = true := beq_iff_eq.mpr c7
        have c7b1 : (a0 != 65279) = false := bne_eq_false_iff_eq.mpr c7
        clear c7
        obtain rfl := Option.some.inj H
        go_enter Try.func35, Try.ntmps35
        go_wp2
        go_ret
        exact ⟨by first | rfl | (simp; done) | (simp [*]; done), by repeat (first | exact Drawn0.refl _ | apply Drawn0.step)⟩
      · rw [if_neg c7] at H
        have c7b0 : (a0 == 65279) = false := beq_eq_false_iff_ne.mpr c7
        have c7b1 : (a0 != 65279) = true := bne_iff_ne.mpr c7
        by_cases c8 : a0 < 55296
        · rw [if_pos c8] at H
          have c8b0 : decide (a0 < 55296) = true := decide_eq_true c8
          clear c8
          obtain rfl := Option.some.inj H
          go_enter Try.func35, Try.ntmps35
          go_wp2
          go_ret
          exact ⟨by first | rfl | (simp; done) | (simp [*]; done), by repeat (first | exact Drawn0.refl _ | apply Drawn0.step)⟩
        · rw [if_neg c8] at H
          have c8b0 : decide (a0 < 55296) = false := decide_eq_false c8
          clear c8
          obtain rfl := Option.some.inj H
          go_enter Try.func35, Try.ntmps35
          go_wp2
          go_ret
          exact ⟨by first | rfl | (simp; done) | (simp [*]; done), by repeat (first | exact Drawn0.refl _ | apply Drawn0.step)⟩

/-! ### utf8_RuneLen: function 36 -/
def utf8_RuneLen.j0 : Nat → Int → Bool → Option (Int)
  | 0, _, _ => none
  | k + 1, x0, x12 => if x12 = true then (some (-1)) else (if x0 ≤ 65535 then (some 3) else (if x0 ≤ 1114111 then (some 4) else (some (-1))))
def utf8_RuneLen.f (k : Nat) (a0 : Int) : Option (Int) := if a0 < 0 then (some (-1)) else (if a0 ≤ 127 then (some 1) else (if a0 ≤ 2047 then (some 2) else (if 55296 ≤ a0 then (utf8_RuneLen.j0 k a0 (decide (a0 ≤ 57343))) else (utf8_RuneLen.j0 k a0 false))))
theorem utf8_RuneLen.mono_l : ∀ k, (∀ y0 y1, LeO (utf8_RuneLen.j0 k y0 y1) (utf8_RuneLen.j0 (k + 1) y0 y1))
  | 0 => fun _ _ r h => by simp [utf8_RuneLen.j0] at h
  | k + 1 => by
    have ih0 := utf8_RuneLen.mono_l k
    · intro y0 y1
      unfold utf8_RuneLen.j0
      repeat' first
      | (with_reducible exact ih0 _ _)
      | (with_reducible exact LeO.refl _)
      | (with_reducible exact LeO.none _)
      | (with_reducible refine LeO.ite ?_ ?_)
      | (with_reducible refine LeO.bind ?_ (fun _ => ?_))
      | exact ih0 _ _
      | exact LeO.none _
      | refine LeO.ite ?_ ?_
      | refine LeO.bind ?_ (fun _ => ?_)
theorem utf8_RuneLen.mono : ∀ a0 k, LeO (utf8_RuneLen.f k a0) (utf8_RuneLen.f (k + 1) a0) := by
  intro a0 k
  have ih0 := utf8_RuneLen.mono_l k
  unfold utf8_RuneLen.f
  repeat' first
      | (with_reducible exact ih0 _ _)
      | (with_reducible exact LeO.refl _)
      | (with_reducible exact LeO.none _)
      | (with_reducible refine LeO.ite ?_ ?_)
      | (with_reducible refine LeO.bind ?_ (fun _ => ?_))
      | exact ih0 _ _
      | exact LeO.none _
      | refine LeO.ite ?_ ?_
      | refine LeO.bind ?_ (fun _ => ?_)
set_option maxHeartbeats 8000000 in
set_option maxRecDepth 100000 in
theorem utf8_RuneLen.calls (k : Nat) (a0 : Int) (r : Int) (w : World) (h : utf8_RuneLen.f k a0 = some r) :
    Calls Try.prog 36 #[.int .i32 a0] w fun e w' => e = .returned (.int .i64 r) ∧ Drawn0 w w' := by
  have H : (if a0 < 0 then (some (-1)) else (if a0 ≤ 127 then (some 1) else (if a0 ≤ 2047 then (some 2) else (if 55296 ≤ a0 then (utf8_RuneLen.j0 k a0 (decide (a0 ≤ 57343))) else (utf8_RuneLen.j0 k a0 false))))) = some r := h
  clear h
  by_cases c2 : a0 < 0
  · rw [if_pos c2] at H
    have c2b0 : decide (a0 < 0) = true := decide_eq_true c2
    clear c2
    obtain rfl := Option.some.inj H
    go_enter Try.func36, Try.ntmps36
    go_wp2
    go_ret
    exact ⟨by first | rfl | (simp; done) | (simp [*]; done), by repeat (first | exact Drawn0.refl _ | apply Drawn0.step)⟩
  · rw [if_neg c2] at H
    have c2b0 : decide (a0 < 0) = false := decide_eq_false c2
    clear c2
    by_cases c3 : a0 ≤ 127
    · rw [if_pos c3] at H
      have c3b0 : decide (a0 ≤ 127) = true := decide_eq_true c3
      clear c3
      obtain rfl := Option.some.inj H
      go_enter Try.func36, Try.ntmps36
      go_wp2
      go_ret
      exact ⟨by first | rfl | (simp; done) | (simp [*]; done), by repeat (first | exact Drawn0.refl _ | apply Drawn0.step)⟩
    · rw [if_neg c3] at H
      have c3b0 : decide (a0 ≤ 127) = false := decide_eq_false c3
      clear c3
      by_cases c4 : a0 ≤ 2047
      · rw [if_pos c4] at H
        have c4b0 : decide (a0 ≤ 2047) = true := decide_eq_true c4
        clear c4
        obtain rfl := Option.some.inj H
        go_enter Try.func36, Try.ntmps36
        go_wp2
        go_ret
        exact ⟨by first | rfl | (simp; done) | (simp [*]; done), by repeat (first | exact Drawn0.refl _ | apply Drawn0.step)⟩
      · rw [if_neg c4] at H
        have c4b0 : decide (a0 ≤ 2047) = false := decide_eq_false c4
        clear c4
        have HC5 := Aside0.mk H
        clear H
        go_enter Try.func36, Try.ntmps36
        go_upto_region 7 with (fail)
        go_cut [12] (fun v12 wc => ∃ (kq : Nat) (x12_4 : Bool), v12 = .bool x12_4 ∧ Aside0 (utf8_RuneLen.j0 kq a0 x12_4 = some r) ∧ Aside0 (kq ≤ k) ∧ Drawn0 w wc)
        case first =>
          have H := HC5.out
          clear HC5
          by_cases c6 : 55296 ≤ a0
          · rw [if_pos c6] at H
            have c6b0 : decide (55296 ≤ a0) = true := decide_eq_true c6
            clear c6
            (first | rw [c6b0] | (simp only [i64_w, i32_w]; rw [c6b0]) | skip)
            have H' := Aside0.mk H
            clear H
            go_wp2
            go_meet
            case rel => exact ⟨_, (decide (a0 ≤ 57343)), (by first | rfl | (simp; done) | (simp [*]; done)), H', ⟨by first | omega | exact Nat.le_refl _⟩, by repeat (first | exact Drawn0.refl _ | apply Drawn0.step)⟩
          · rw [if_neg c6] at H
            have c6b0 : decide (55296 ≤ a0) = false := decide_eq_false c6
            clear c6
            (first | rw [c6b0] | (simp only [i64_w, i32_w]; rw [c6b0]) | skip)
            have H' := Aside0.mk H
            clear H
            go_wp2
            go_meet
            case rel => exact ⟨_, (false), (by first | rfl | (simp; done) | (simp [*]; done)), H', ⟨by first | omega | exact Nat.le_refl _⟩, by repeat (first | exact Drawn0.refl _ | apply Drawn0.step)⟩
        case rest =>
          clear HC5
          try clear c2
          try clear c2b0
          try clear p2
          try clear c3
          try clear c3b0
          try clear c4
          try clear c4b0
          try clear c6
          try clear c6b0
          obtain ⟨kq, x12_4, rfl, HA, HJ4, ⟨mc4, rfl⟩⟩ := hcut
          cases kq with
          | zero => exact absurd HA.out (by simp [utf8_RuneLen.j0])
          | succ kj4 =>
            have H := HA.out
            clear HA
            simp only [utf8_RuneLen.j0] at H
            by_cases c7 : x12_4 = true
            · subst c7
              have H1 : (some (-1)) = some r := by rw [if_pos rfl] at H; exact H
              clear H
              have H := H1
              clear H1
              obtain rfl := Option.some.inj H
              go_wp2
              go_ret
              exact ⟨by first | rfl | (simp; done) | (simp [*]; done), by repeat (first | exact Drawn0.refl _ | apply Drawn0.step)⟩
            · replace c7 := Bool.eq_false_iff.mpr c7
              subst c7
              have H1 : (if a0 ≤ 65535 then (some 3) else (if a0 ≤ 1114111 then (some 4) else (some (-1)))) = some r := by rw [if_neg (show ¬ (false = true) by decide)] at H; exact H
              clear H
              have H := H1
              clear H1
              by_cases c8 : a0 ≤ 65535
              · rw [if_pos c8] at H
                have c8b0 : decide (a0 ≤ 65535) = true := decide_eq_true c8
                clear c8
                obtain rfl := Option.some.inj H
                go_wp2
                go_ret
                exact ⟨by first | rfl | (simp; done) | (simp [*]; done), by repeat (first | exact Drawn0.refl _ | apply Drawn0.step)⟩
              · rw [if_neg c8] at H
                have c8b0 : decide (a0 ≤ 65535) = false := decide_eq_false c8
                clear c8
                by_cases c9 : a0 ≤ 1114111
                · rw [if_pos c9] at H
                  have c9b0 : decide (a0 ≤ 1114111) = true := decide_eq_true c9
                  clear c9
                  obtain rfl := Option.some.inj H
                  go_wp2
                  go_ret
                  exact ⟨by first | rfl | (simp; done) | (simp [*]; done), by repeat (first | exact Drawn0.refl _ | apply Drawn0.step)⟩
                · rw [if_neg c9] at H
                  have c9b0 : decide (a0 ≤ 1114111) = false := decide_eq_false c9
                  clear c9
                  obtain rfl := Option.some.inj H
                  go_wp2
                  go_ret
                  exact ⟨by first | rfl | (simp; done) | (simp [*]; done), by repeat (first | exact Drawn0.refl _ | apply Drawn0.step)⟩

/-! ### helpers_DecodeWTF8Rune: function 37 -/
def helpers_DecodeWTF8Rune.j0 : Nat → ByteArray → Int → Int → Int → Option (Int × Int)
  | 0, _, _, _, _ => none
  | k + 1, x0, x4, x5, x6 => if x4 < x6 then (some (65533, 0)) else (if 1 < (x0.size : Int) then (if (Go.bits .and .u8 (bt x0 1) 192) = 128 then (if x6 = 2 then (if (Go.bits .or .i32 (wrap32 ((wrap32 (Go.bits .and .u8 x5 31)) * 64)) (wrap32 (Go.bits .and .u8 (bt x0 1) 63))) < 128 then (some (65533, 1)) else (some (Go.bits .or .i32 (wrap32 ((wrap32 (Go.bits .and .u8 x5 31)) * 64)) (wrap32 (Go.bits .and .u8 (bt x0 1) 63)), 2))) else (if 2 < (x0.size : Int) then (if (Go.bits .and .u8 (bt x0 2) 192) = 128 then (if x6 = 3 then (if (Go.bits .or .i32 (Go.bits .or .i32 (wrap32 ((wrap32 (Go.bits .and .u8 x5 15)) * 4096)) (wrap32 ((wrap32 (Go.bits .and .u8 (bt x0 1) 63)) * 64))) (wrap32 (Go.bits .and .u8 (bt x0 2) 63))) < 2048 then (some (65533, 1)) else (some (Go.bits .or .i32 (Go.bits .or .i32 (wrap32 ((wrap32 (Go.bits .and .u8 x5 15)) * 4096)) (wrap32 ((wrap32 (Go.bits .and .u8 (bt x0 1) 63)) * 64))) (wrap32 (Go.bits .and .u8 (bt x0 2) 63)), 3))) else (if 3 < (x0.size : Int) then (if (Go.bits .and .u8 (bt x0 3) 192) = 128 then (if (Go.bits .or .i32 (Go.bits .or .i32 (Go.bits .or .i32 (wrap32 ((wrap32 (Go.bits .and .u8 x5 7)) * 262144)) (wrap32 ((wrap32 (Go.bits .and .u8 (bt x0 1) 63)) * 4096))) (wrap32 ((wrap32 (Go.bits .and .u8 (bt x0 2) 63)) * 64))) (wrap32 (Go.bits .and .u8 (bt x0 3) 63))) < 65536 then (some (65533, 1)) else (if (Go.bits .or .i32 (Go.bits .or .i32 (Go.bits .or .i32 (wrap32 ((wrap32 (Go.bits .and .u8 x5 7)) * 262144)) (wrap32 ((wrap32 (Go.bits .and .u8 (bt x0 1) 63)) * 4096))) (wrap32 ((wrap32 (Go.bits .and .u8 (bt x0 2) 63)) * 64))) (wrap32 (Go.bits .and .u8 (bt x0 3) 63))) > 1114111 then (some (65533, 1)) else (some (Go.bits .or .i32 (Go.bits .or .i32 (Go.bits .or .i32 (wrap32 ((wrap32 (Go.bits .and .u8 x5 7)) * 262144)) (wrap32 ((wrap32 (Go.bits .and .u8 (bt x0 1) 63)) * 4096))) (wrap32 ((wrap32 (Go.bits .and .u8 (bt x0 2) 63)) * 64))) (wrap32 (Go.bits .and .u8 (bt x0 3) 63)), 4)))) else (some (65533, 1))) else (none))) else (some (65533, 1))) else (none))) else (some (65533, 1))) else (none))
def helpers_DecodeWTF8Rune.f (k : Nat) (a0 : ByteArray) : Option (Int × Int) := if (a0.size : Int) < 1 then (some (65533, 0)) else (if 0 < (a0.size : Int) then (if (bt a0 0) < 128 then (some (wrap32 (bt a0 0), 1)) else (if (Go.bits .and .u8 (bt a0 0) 224) = 192 then (helpers_DecodeWTF8Rune.j0 k a0 (a0.size : Int) (bt a0 0) 2) else (if (Go.bits .and .u8 (bt a0 0) 240) = 224 then (helpers_DecodeWTF8Rune.j0 k a0 (a0.size : Int) (bt a0 0) 3) else (if (Go.bits .and .u8 (bt a0 0) 248) = 240 then (helpers_DecodeWTF8Rune.j0 k a0 (a0.size : Int) (bt a0 0) 4) else (some (65533, 1)))))) else (none))
theorem helpers_DecodeWTF8Rune.mono_l : ∀ k, (∀ y0 y1 y2 y3, LeO (helpers_DecodeWTF8Rune.j0 k y0 y1 y2 y3) (helpers_DecodeWTF8Rune.j0 (k + 1) y0 y1 y2 y3))
  | 0 => fun _ _ _ _ r h => by simp [helpers_DecodeWTF8Rune.j0] at h
  | k + 1 => by
    have ih0 := helpers_DecodeWTF8Rune.mono_l k
    · intro y0 y1 y2 y3
      unfold helpers_DecodeWTF8Rune.j0
      repeat' first
      | (with_reducible exact ih0 _ _ _ _)
      | (with_reducible exact LeO.refl _)
      | (with_reducible exact LeO.none _)
      | (with_reducible refine LeO.ite ?_ ?_)
      | (with_reducible refine LeO.bind ?_ (fun _ => ?_))
      | exact ih0 _ _ _ _
      | exact LeO.none _
      | refine LeO.ite ?_ ?_
      | refine LeO.bind ?_ (fun _ => ?_)
theorem helpers_DecodeWTF8Rune.mono : ∀ a0 k, LeO (helpers_DecodeWTF8Rune.f k a0) (helpers_DecodeWTF8Rune.f (k + 1) a0) := by
  intro a0 k
  have ih0 := helpers_DecodeWTF8Rune.mono_l k
  unfold helpers_DecodeWTF8Rune.f
  repeat' first
      | (with_reducible exact ih0 _ _ _ _)
      | (with_reducible exact LeO.refl _)
      | (with_reducible exact LeO.none _)
      | (with_reducible refine LeO.ite ?_ ?_)
      | (with_reducible refine LeO.bind ?_ (fun _ => ?_))
      | exact ih0 _ _ _ _
      | exact LeO.none _
      | refine LeO.ite ?_ ?_
      | refine LeO.bind ?_ (fun _ => ?_)
set_option maxHeartbeats 8000000 in
set_option maxRecDepth 100000 in
theorem helpers_DecodeWTF8Rune.calls (k : Nat) (a0 : ByteArray) (r1 : Int) (r2 : Int) (w : World) (h : helpers_DecodeWTF8Rune.f k a0 = some (r1, r2)) :
    Calls Try.prog 37 #[.string a0] w fun e w' => e = .returned (.tuple #[.int .i32 r1, .int .i64 r2]) ∧ Drawn0 w w' := by
  have H : (if (a0.size : Int) < 1 then (some (65533, 0)) else (if 0 < (a0.size : Int) then (if (bt a0 0) < 128 then (some (wrap32 (bt a0 0), 1)) else (if (Go.bits .and .u8 (bt a0 0) 224) = 192 then (helpers_DecodeWTF8Rune.j0 k a0 (a0.size : Int) (bt a0 0) 2) else (if (Go.bits .and .u8 (bt a0 0) 240) = 224 then (helpers_DecodeWTF8Rune.j0 k a0 (a0.size : Int) (bt a0 0) 3) else (if (Go.bits .and .u8 (bt a0 0) 248) = 240 then (helpers_DecodeWTF8Rune.j0 k a0 (a0.size : Int) (bt a0 0) 4) else (some (65533, 1)))))) else (none))) = some (r1, r2) := h
  clear h
  by_cases c2 : (a0.size : Int) < 1
  · rw [if_pos c2] at H
    have c2b0 : decide ((a0.size : Int) < 1) = true := decide_eq_true c2
    have c2b1 : decide (a0.size < 1) = true := decide_eq_true (by omega)
    clear c2
    simp only [Option.some.injEq, Prod.mk.injEq] at H
    obtain ⟨rfl, rfl⟩ := H
    go_enter Try.func37, Try.ntmps37
    go_wp2
    go_ret2
    exact ⟨by first | rfl | (simp; done) | (simp [*]; done), by repeat (first | exact Drawn0.refl _ | apply Drawn0.step)⟩
  · rw [if_neg c2] at H
    have c2b0 : decide ((a0.size : Int) < 1) = false := decide_eq_false c2
    have c2b1 : decide (a0.size < 1) = false := decide_eq_false (by omega)
    clear c2
    by_cases c3 : 0 < (a0.size : Int)
    · rw [if_pos c3] at H
      have c3b0 : decide (0 < (a0.size : Int)) = true := decide_eq_true c3
      have c3b1 : decide (0 < a0.size) = true := decide_eq_true (by omega)
      clear c3
      by_cases c5 : (bt a0 0) < 128
      · rw [if_pos c5] at H
        have c5b0 : decide ((bt a0 0) < 128) = true := decide_eq_true c5
        clear c5
        simp only [Option.some.injEq, Prod.mk.injEq] at H
        obtain ⟨rfl, rfl⟩ := H
        have p4 : 0 ≤ (0 : Int) := (by omega)
        have q4 : 0 < a0.size := (by have : (0 : Int) < (a0.size : Int) := of_decide_eq_true (by first | (with_reducible assumption) | assumption); omega)
        have hx4 : ∀ h : 0 < a0.size, ((a0[0]'h).toNat : Int) = bt a0 0 := bt_at a0 0
        clear p4
        have qi4 : (0 < (a0.size : Int)) = True := eq_true (of_decide_eq_true (by first | (with_reducible assumption) | assumption))
        replace q4 := eq_true q4
        go_enter Try.func37, Try.ntmps37
        go_wp2
        go_ret2
        exact ⟨by first | rfl | (simp; done) | (simp [*]; done), by repeat (first | exact Drawn0.refl _ | apply Drawn0.step)⟩
      · rw [if_neg c5] at H
        have c5b0 : decide ((bt a0 0) < 128) = false := decide_eq_false c5
        clear c5
        have HC6 := Aside0.mk H
        clear H
        have p4 : 0 ≤ (0 : Int) := (by omega)
        have q4 : 0 < a0.size := (by have : (0 : Int) < (a0.size : Int) := of_decide_eq_true (by first | (with_reducible assumption) | assumption); omega)
        have hx4 : ∀ h : 0 < a0.size, ((a0[0]'h).toNat : Int) = bt a0 0 := bt_at a0 0
        clear p4
        have qi4 : (0 < (a0.size : Int)) = True := eq_true (of_decide_eq_true (by first | (with_reducible assumption) | assumption))
        replace q4 := eq_true q4
        go_enter Try.func37, Try.ntmps37
        go_upto_if 25 with (fail)
        go_cut [6] (fun v6 wc => ∃ (kq : Nat) (x6_5 : Int), v6 = .int .i64 x6_5 ∧ Aside0 (helpers_DecodeWTF8Rune.j0 kq a0 (a0.size : Int) (bt a0 0) x6_5 = some (r1, r2)) ∧ Aside0 (kq ≤ k) ∧ Drawn0 w wc)
        case first =>
          have H := HC6.out
          clear HC6
          by_cases c7 : (Go.bits .and .u8 (bt a0 0) 224) = 192
          · rw [if_pos c7] at H
            have c7b0 : ((Go.bits .and .u8 (bt a0 0) 224) == 192) = true := beq_iff_eq.mpr c7
            have c7b1 : ((Go.bits .and .u8 (bt a0 0) 224) != 192) = false := bne_eq_false_iff_eq.mpr c7
            clear c7
            (first | rw [c7b0] | (simp only [i64_w, i32_w]; rw [c7b0]) | skip)
            have H' := Aside0.mk H
            clear H
            go_wp2
            go_meet
            case rel => exact ⟨_, (2), (by first | rfl | (simp; done) | (simp [*]; done)), H', ⟨by first | omega | exact Nat.le_refl _⟩, by repeat (first | exact Drawn0.refl _ | apply Drawn0.step)⟩
          · rw [if_neg c7] at H
            have c7b0 : ((Go.bits .and .u8 (bt a0 0) 224) == 192) = false := beq_eq_false_iff_ne.mpr c7
            have c7b1 : ((Go.bits .and .u8 (bt a0 0) 224) != 192) = true := bne_iff_ne.mpr c7
            (first | rw [c7b0] | (simp only [i64_w, i32_w]; rw [c7b0]) | skip)
            by_cases c8 : (Go.bits .and .u8 (bt a0 0) 240) = 224
            · rw [if_pos c8] at H
              have c8b0 : ((Go.bits .and .u8 (bt a0 0) 240) == 224) = true := beq_iff_eq.mpr c8
              have c8b1 : ((Go.bits .and .u8 (bt a0 0) 240) != 224) = false := bne_eq_false_iff_eq.mpr c8
              clear c8
              have H' := Aside0.mk H
              clear H
              go_wp2
              go_meet
              case rel => exact ⟨_, (3), (by first | rfl | (simp; done) | (simp [*]; done)), H', ⟨by first | omega | exact Nat.le_refl _⟩, by repeat (first | exact Drawn0.refl _ | apply Drawn0.step)⟩
            · rw [if_neg c8] at H
              have c8b0 : ((Go.bits .and .u8 (bt a0 0) 240) == 224) = false := beq_eq_false_iff_ne.mpr c8
              have c8b1 : ((Go.bits .and .u8 (bt a0 0) 240) != 224) = true := bne_iff_ne.mpr c8
              by_cases c9 : (Go.bits .and .u8 (bt a0 0) 248) = 240
              · rw [if_pos c9] at H
                have c9b0 : ((Go.bits .and .u8 (bt a0 0) 248) == 240) = true := beq_iff_eq.mpr c9
                have c9b1 : ((Go.bits .and .u8 (bt a0 0) 248) != 240) = false := bne_eq_false_iff_eq.mpr c9
                clear c9
                have H' := Aside0.mk H
                clear H
                go_wp2
                go_meet
                case rel => exact ⟨_, (4), (by first | rfl | (simp; done) | (simp [*]; done)), H', ⟨by first | omega | exact Nat.le_refl _⟩, by repeat (first | exact Drawn0.refl _ | apply Drawn0.step)⟩
              · rw [if_neg c9] at H
                have c9b0 : ((Go.bits .and .u8 (bt a0 0) 248) == 240) = false := beq_eq_false_iff_ne.mpr c9
                have c9b1 : ((Go.bits .and .u8 (bt a0 0) 248) != 240) = true := bne_iff_ne.mpr c9
                simp only [Option.some.injEq, Prod.mk.injEq] at H
                obtain ⟨rfl, rfl⟩ := H
                go_wp2
                go_ret2
                exact ⟨by first | rfl | (simp; done) | (simp [*]; done), by repeat (first | exact Drawn0.refl _ | apply Drawn0.step)⟩
        case rest =>
          clear HC6
          try clear c2
          try clear c2b0
          try clear c2b1
          try clear p2
          try clear c3
          try clear c3b0
          try clear c3b1
          try clear p3
          try clear p4
          try clear q4
          try clear hx4
          try clear qi4
          try clear c5
          try clear c5b0
          try clear c7
          try clear c7b0
          try clear c7b1
          try clear c8
          try clear c8b0
          try clear c8b1
          try clear c9
          try clear c9b0
          try clear c9b1
          try clear p4
          try clear q4
          obtain ⟨kq, x6_5, rfl, HA, HJ5, ⟨mc5, rfl⟩⟩ := hcut
          cases kq with
          | zero => exact absurd HA.out (by simp [helpers_DecodeWTF8Rune.j0])
          | succ kj5 =>
            have H := HA.out
            clear HA
            simp only [helpers_DecodeWTF8Rune.j0] at H
            by_cases c10 : (a0.size : Int) < x6_5
            · rw [if_pos c10] at H
              have c10b0 : decide ((a0.size : Int) < x6_5) = true := decide_eq_true c10
              clear c10
              simp only [Option.some.injEq, Prod.mk.injEq] at H
              obtain ⟨rfl, rfl⟩ := H
              go_wp2
              go_ret2
              exact ⟨by first | rfl | (simp; done) | (simp [*]; done), by repeat (first | exact Drawn0.refl _ | apply Drawn0.step)⟩
            · rw [if_neg c10] at H
              have c10b0 : decide ((a0.size : Int) < x6_5) = false := decide_eq_false c10
              clear c10
              by_cases c11 : 1 < (a0.size : Int)
              · rw [if_pos c11] at H
                have c11b0 : decide (1 < (a0.size : Int)) = true := decide_eq_true c11
                have c11b1 : decide (1 < a0.size) = true := decide_eq_true (by omega)
                clear c11
                by_cases c13 : (Go.bits .and .u8 (bt a0 1) 192) = 128
                · rw [if_pos c13] at H
                  have c13b0 : ((Go.bits .and .u8 (bt a0 1) 192) == 128) = true := beq_iff_eq.mpr c13
                  have c13b1 : ((Go.bits .and .u8 (bt a0 1) 192) != 128) = false := bne_eq_false_iff_eq.mpr c13
                  clear c13
                  by_cases c14 : x6_5 = 2
                  · rw [if_pos c14] at H
                    have c14b0 : (x6_5 == 2) = true := beq_iff_eq.mpr c14
                    have c14b1 : (x6_5 != 2) = false := bne_eq_false_iff_eq.mpr c14
                    clear c14
                    by_cases c15 : (Go.bits .or .i32 (wrap32 ((wrap32 (Go.bits .and .u8 (bt a0 0) 31)) * 64)) (wrap32 (Go.bits .and .u8 (bt a0 1) 63))) < 128
                    · rw [if_pos c15] at H
                      have c15b0 : decide ((Go.bits .or .i32 (wrap32 ((wrap32 (Go.bits .and .u8 (bt a0 0) 31)) * 64)) (wrap32 (Go.bits .and .u8 (bt a0 1) 63))) < 128) = true := decide_eq_true c15
                      clear c15
                      simp only [Option.some.injEq, Prod.mk.injEq] at H
                      obtain ⟨rfl, rfl⟩ := H
                      have p12 : 0 ≤ (1 : Int) := (by omega)
                      have q12 : 1 < a0.size := (by have : (1 : Int) < (a0.size : Int) := of_decide_eq_true (by first | (with_reducible assumption) | assumption); omega)
                      have hx12 : ∀ h : 1 < a0.size, ((a0[1]'h).toNat : Int) = bt a0 1 := bt_at a0 1
                      clear p12
                      have qi12 : (1 < (a0.size : Int)) = True := eq_true (of_decide_eq_true (by first | (with_reducible assumption) | assumption))
                      replace q12 := eq_true q12
                      go_wp2
                      go_ret2
                      exact ⟨by first | rfl | (simp; done) | (simp [*]; done), by repeat (first | exact Drawn0.refl _ | apply Drawn0.step)⟩
                    · rw [if_neg c15] at H
                      have c15b0 : decide ((Go.bits .or .i32 (wrap32 ((wrap32 (Go.bits .and .u8 (bt a0 0) 31)) * 64)) (wrap32 (Go.bits .and .u8 (bt a0 1) 63))) < 128) = false := decide_eq_false c15
                      clear c15
                      simp only [Option.some.injEq, Prod.mk.injEq] at H
                      obtain ⟨rfl, rfl⟩ := H
                      have p12 : 0 ≤ (1 : Int) := (by omega)
                      have q12 : 1 < a0.size := (by have : (1 : Int) < (a0.size : Int) := of_decide_eq_true (by first | (with_reducible assumption) | assumption); omega)
                      have hx12 : ∀ h : 1 < a0.size, ((a0[1]'h).toNat : Int) = bt a0 1 := bt_at a0 1
                      clear p12
                      have qi12 : (1 < (a0.size : Int)) = True := eq_true (of_decide_eq_true (by first | (with_reducible assumption) | assumption))
                      replace q12 := eq_true q12
                      go_wp2
                      go_ret2
                      exact ⟨by first | rfl | (simp; done) | (simp [*]; done), by repeat (first | exact Drawn0.refl _ | apply Drawn0.step)⟩
                  · rw [if_neg c14] at H
                    have c14b0 : (x6_5 == 2) = false := beq_eq_false_iff_ne.mpr c14
                    have c14b1 : (x6_5 != 2) = true := bne_iff_ne.mpr c14
                    by_cases c16 : 2 < (a0.size : Int)
                    · rw [if_pos c16] at H
                      have c16b0 : decide (2 < (a0.size : Int)) = true := decide_eq_true c16
                      have c16b1 : decide (2 < a0.size) = true := decide_eq_true (by omega)
                      clear c16
                      by_cases c18 : (Go.bits .and .u8 (bt a0 2) 192) = 128
                      · rw [if_pos c18] at H
                        have c18b0 : ((Go.bits .and .u8 (bt a0 2) 192) == 128) = true := beq_iff_eq.mpr c18
                        have c18b1 : ((Go.bits .and .u8 (bt a0 2) 192) != 128) = false := bne_eq_false_iff_eq.mpr c18
                        clear c18
                        by_cases c19 : x6_5 = 3
                        · rw [if_pos c19] at H
                          have c19b0 : (x6_5 == 3) = true := beq_iff_eq.mpr c19
                          have c19b1 : (x6_5 != 3) = false := bne_eq_false_iff_eq.mpr c19
                          clear c19
                          by_cases c20 : (Go.bits .or .i32 (Go.bits .or .i32 (wrap32 ((wrap32 (Go.bits .and .u8 (bt a0 0) 15)) * 4096)) (wrap32 ((wrap32 (Go.bits .and .u8 (bt a0 1) 63)) * 64))) (wrap32 (Go.bits .and .u8 (bt a0 2) 63))) < 2048
                          · rw [if_pos c20] at H
                            have c20b0 : decide ((Go.bits .or .i32 (Go.bits .or .i32 (wrap32 ((wrap32 (Go.bits .and .u8 (bt a0 0) 15)) * 4096)) (wrap32 ((wrap32 (Go.bits .and .u8 (bt a0 1) 63)) * 64))) (wrap32 (Go.bits .and .u8 (bt a0 2) 63))) < 2048) = true := decide_eq_true c20
                            clear c20
                            simp only [Option.some.injEq, Prod.mk.injEq] at H
                            obtain ⟨rfl, rfl⟩ := H
                            have p12 : 0 ≤ (1 : Int) := (by omega)
                            have q12 : 1 < a0.size := (by have : (1 : Int) < (a0.size : Int) := of_decide_eq_true (by first | (with_reducible assumption) | assumption); omega)
                            have hx12 : ∀ h : 1 < a0.size, ((a0[1]'h).toNat : Int) = bt a0 1 := bt_at a0 1
                            clear p12
                            have qi12 : (1 < (a0.size : Int)) = True := eq_true (of_decide_eq_true (by first | (with_reducible assumption) | assumption))
                            replace q12 := eq_true q12
                            have p17 : 0 ≤ (2 : Int) := (by omega)
                            have q17 : 2 < a0.size := (by have : (2 : Int) < (a0.size : Int) := of_decide_eq_true (by first | (with_reducible assumption) | assumption); omega)
                            have hx17 : ∀ h : 2 < a0.size, ((a0[2]'h).toNat : Int) = bt a0 2 := bt_at a0 2
                            clear p17
                            have qi17 : (2 < (a0.size : Int)) = True := eq_true (of_decide_eq_true (by first | (with_reducible assumption) | assumption))
                            replace q17 := eq_true q17
                            go_wp2
                            go_ret2
                            exact ⟨by first | rfl | (simp; done) | (simp [*]; done), by repeat (first | exact Drawn0.refl _ | apply Drawn0.step)⟩
                          · rw [if_neg c20] at H
                            have c20b0 : decide ((Go.bits .or .i32 (Go.bits .or .i32 (wrap32 ((wrap32 (Go.bits .and .u8 (bt a0 0) 15)) * 4096)) (wrap32 ((wrap32 (Go.bits .and .u8 (bt a0 1) 63)) * 64))) (wrap32 (Go.bits .and .u8 (bt a0 2) 63))) < 2048) = false := decide_eq_false c20
                            clear c20
                            simp only [Option.some.injEq, Prod.mk.injEq] at H
                            obtain ⟨rfl, rfl⟩ := H
                            have p12 : 0 ≤ (1 : Int) := (by omega)
                            have q12 : 1 < a0.size := (by have : (1 : Int) < (a0.size : Int) := of_decide_eq_true (by first | (with_reducible assumption) | assumption); omega)
                            have hx12 : ∀ h : 1 < a0.size, ((a0[1]'h).toNat : Int) = bt a0 1 := bt_at a0 1
                            clear p12
                            have qi12 : (1 < (a0.size : Int)) = True := eq_true (of_decide_eq_true (by first | (with_reducible assumption) | assumption))
                            replace q12 := eq_true q12
                            have p17 : 0 ≤ (2 : Int) := (by omega)
                            have q17 : 2 < a0.size := (by have : (2 : Int) < (a0.size : Int) := of_decide_eq_true (by first | (with_reducible assumption) | assumption); omega)
                            have hx17 : ∀ h : 2 < a0.size, ((a0[2]'h).toNat : Int) = bt a0 2 := bt_at a0 2
                            clear p17
                            have qi17 : (2 < (a0.size : Int)) = True := eq_true (of_decide_eq_true (by first | (with_reducible assumption) | assumption))
                            replace q17 := eq_true q17
                            go_wp2
                            go_ret2
                            exact ⟨by first | rfl | (simp; done) | (simp [*]; done), by repeat (first | exact Drawn0.refl _ | apply Drawn0.step)⟩
                        · rw [if_neg c19] at H
                          have c19b0 : (x6_5 == 3) = false := beq_eq_false_iff_ne.mpr c19
                          have c19b1 : (x6_5 != 3) = true := bne_iff_ne.mpr c19
                          by_cases c21 : 3 < (a0.size : Int)
                          · rw [if_pos c21] at H
                            have c21b0 : decide (3 < (a0.size : Int)) = true := decide_eq_true c21
                            have c21b1 : decide (3 < a0.size) = true := decide_eq_true (by omega)
                            clear c21
                            by_cases c23 : (Go.bits .and .u8 (bt a0 3) 192) = 128
                            · rw [if_pos c23] at H
                              have c23b0 : ((Go.bits .and .u8 (bt a0 3) 192) == 128) = true := beq_iff_eq.mpr c23
                              have c23b1 : ((Go.bits .and .u8 (bt a0 3) 192) != 128) = false := bne_eq_false_iff_eq.mpr c23
                              clear c23
                              by_cases c24 : (Go.bits .or .i32 (Go.bits .or .i32 (Go.bits .or .i32 (wrap32 ((wrap32 (Go.bits .and .u8 (bt a0 0) 7)) * 262144)) (wrap32 ((wrap32 (Go.bits .and .u8 (bt a0 1) 63)) * 4096))) (wrap32 ((wrap32 (Go.bits .and .u8 (bt a0 2) 63)) * 64))) (wrap32 (Go.bits .and .u8 (bt a0 3) 63))) < 65536
                              · rw [if_pos c24] at H
                                have c24b0 : decide ((Go.bits .or .i32 (Go.bits .or .i32 (Go.bits .or .i32 (wrap32 ((wrap32 (Go.bits .and .u8 (bt a0 0) 7)) * 262144)) (wrap32 ((wrap32 (Go.bits .and .u8 (bt a0 1) 63)) * 4096))) (wrap32 ((wrap32 (Go.bits .and .u8 (bt a0 2) 63)) * 64))) (wrap32 (Go.bits .and .u8 (bt a0 3) 63))) < 65536) = true := decide_eq_true c24
                                clear c24
                                simp only [Option.some.injEq, Prod.mk.injEq] at H
                                obtain ⟨rfl, rfl⟩ := H
                                have p12 : 0 ≤ (1 : Int) := (by omega)
                                have q12 : 1 < a0.size := (by have : (1 : Int) < (a0.size : Int) := of_decide_eq_true (by first | (with_reducible assumption) | assumption); omega)
                                have hx12 : ∀ h : 1 < a0.size, ((a0[1]'h).toNat : Int) = bt a0 1 := bt_at a0 1
                                clear p12
                                have qi12 : (1 < (a0.size : Int)) = True := eq_true (of_decide_eq_true (by first | (with_reducible assumption) | assumption))
                                replace q12 := eq_true q12
                                have p17 : 0 ≤ (2 : Int) := (by omega)
                                have q17 : 2 < a0.size := (by have : (2 : Int) < (a0.size : Int) := of_decide_eq_true (by first | (with_reducible assumption) | assumption); omega)
                                have hx17 : ∀ h : 2 < a0.size, ((a0[2]'h).toNat : Int) = bt a0 2 := bt_at a0 2
                                clear p17
                                have qi17 : (2 < (a0.size : Int)) = True := eq_true (of_decide_eq_true (by first | (with_reducible assumption) | assumption))
                                replace q17 := eq_true q17
                                have p22 : 0 ≤ (3 : Int) := (by omega)
                                have q22 : 3 < a0.size := (by have : (3 : Int) < (a0.size : Int) := of_decide_eq_true (by first | (with_reducible assumption) | assumption); omega)
                                have hx22 : ∀ h : 3 < a0.size, ((a0[3]'h).toNat : Int) = bt a0 3 := bt_at a0 3
                                clear p22
                                have qi22 : (3 < (a0.size : Int)) = True := eq_true (of_decide_eq_true (by first | (with_reducible assumption) | assumption))
                                replace q22 := eq_true q22
                                go_wp2
                                go_ret2
                                exact ⟨by first | rfl | (simp; done) | (simp [*]; done), by repeat (first | exact Drawn0.refl _ | apply Drawn0.step)⟩
                              · rw [if_neg c24] at H
                                have c24b0 : decide ((Go.bits .or .i32 (Go.bits .or .i32 (Go.bits .or .i32 (wrap32 ((wrap32 (Go.bits .and .u8 (bt a0 0) 7)) * 262144)) (wrap32 ((wrap32 (Go.bits .and .u8 (bt a0 1) 63)) * 4096))) (wrap32 ((wrap32 (Go.bits .and .u8 (bt a0 2) 63)) * 64))) (wrap32 (Go.bits .and .u8 (bt a0 3) 63))) < 65536) = false := decide_eq_false c24
                                clear c24
                                by_cases c25 : (Go.bits .or .i32 (Go.bits .or .i32 (Go.bits .or .i32 (wrap32 ((wrap32 (Go.bits .and .u8 (bt a0 0) 7)) * 262144)) (wrap32 ((wrap32 (Go.bits .and .u8 (bt a0 1) 63)) * 4096))) (wrap32 ((wrap32 (Go.bits .and .u8 (bt a0 2) 63)) * 64))) (wrap32 (Go.bits .and .u8 (bt a0 3) 63))) > 1114111
                                · rw [if_pos c25] at H
                                  have c25b0 : decide (1114111 < (Go.bits .or .i32 (Go.bits .or .i32 (Go.bits .or .i32 (wrap32 ((wrap32 (Go.bits .and .u8 (bt a0 0) 7)) * 262144)) (wrap32 ((wrap32 (Go.bits .and .u8 (bt a0 1) 63)) * 4096))) (wrap32 ((wrap32 (Go.bits .and .u8 (bt a0 2) 63)) * 64))) (wrap32 (Go.bits .and .u8 (bt a0 3) 63)))) = true := decide_eq_true c25
                                  clear c25
                                  simp only [Option.some.injEq, Prod.mk.injEq] at H
                                  obtain ⟨rfl, rfl⟩ := H
                                  have p12 : 0 ≤ (1 : Int) := (by omega)
                                  have q12 : 1 < a0.size := (by have : (1 : Int) < (a0.size : Int) := of_decide_eq_true (by first | (with_reducible assumption) | assumption); omega)
                                  have hx12 : ∀ h : 1 < a0.size, ((a0[1]'h).toNat : Int) = bt a0 1 := bt_at a0 1
                                  clear p12
                                  have qi12 : (1 < (a0.size : Int)) = True := eq_true (of_decide_eq_true (by first | (with_reducible assumption) | assumption))
                                  replace q12 := eq_true q12
                                  have p17 : 0 ≤ (2 : Int) := (by omega)
                                  have q17 : 2 < a0.size := (by have : (2 : Int) < (a0.size : Int) := of_decide_eq_true (by first | (with_reducible assumption) | assumption); omega)
                                  have hx17 : ∀ h : 2 < a0.size, ((a0[2]'h).toNat : Int) = bt a0 2 := bt_at a0 2
                                  clear p17
                                  have qi17 : (2 < (a0.size : Int)) = True := eq_true (of_decide_eq_true (by first | (with_reducible assumption) | assumption))
                                  replace q17 := eq_true q17
                                  have p22 : 0 ≤ (3 : Int) := (by omega)
                                  have q22 : 3 < a0.size := (by have : (3 : Int) < (a0.size : Int) := of_decide_eq_true (by first | (with_reducible assumption) | assumption); omega)
                                  have hx22 : ∀ h : 3 < a0.size, ((a0[3]'h).toNat : Int) = bt a0 3 := bt_at a0 3
                                  clear p22
                                  have qi22 : (3 < (a0.size : Int)) = True := eq_true (of_decide_eq_true (by first | (with_reducible assumption) | assumption))
                                  replace q22 := eq_true q22
                                  go_wp2
                                  go_ret2
                                  exact ⟨by first | rfl | (simp; done) | (simp [*]; done), by repeat (first | exact Drawn0.refl _ | apply Drawn0.step)⟩
                                · rw [if_neg c25] at H
                                  have c25b0 : decide (1114111 < (Go.bits .or .i32 (Go.bits .or .i32 (Go.bits .or .i32 (wrap32 ((wrap32 (Go.bits .and .u8 (bt a0 0) 7)) * 262144)) (wrap32 ((wrap32 (Go.bits .and .u8 (bt a0 1) 63)) * 4096))) (wrap32 ((wrap32 (Go.bits .and .u8 (bt a0 2) 63)) * 64))) (wrap32 (Go.bits .and .u8 (bt a0 3) 63)))) = false := decide_eq_false c25
                                  clear c25
                                  simp only [Option.some.injEq, Prod.mk.injEq] at H
                                  obtain ⟨rfl, rfl⟩ := H
                                  have p12 : 0 ≤ (1 : Int) := (by omega)
                                  have q12 : 1 < a0.size := (by have : (1 : Int) < (a0.size : Int) := of_decide_eq_true (by first | (with_reducible assumption) | assumption); omega)
                                  have hx12 : ∀ h : 1 < a0.size, ((a0[1]'h).toNat : Int) = bt a0 1 := bt_at a0 1
                                  clear p12
                                  have qi12 : (1 < (a0.size : Int)) = True := eq_true (of_decide_eq_true (by first | (with_reducible assumption) | assumption))
                                  replace q12 := eq_true q12
                                  have p17 : 0 ≤ (2 : Int) := (by omega)
                                  have q17 : 2 < a0.size := (by have : (2 : Int) < (a0.size : Int) := of_decide_eq_true (by first | (with_reducible assumption) | assumption); omega)
                                  have hx17 : ∀ h : 2 < a0.size, ((a0[2]'h).toNat : Int) = bt a0 2 := bt_at a0 2
                                  clear p17
                                  have qi17 : (2 < (a0.size : Int)) = True := eq_true (of_decide_eq_true (by first | (with_reducible assumption) | assumption))
                                  replace q17 := eq_true q17
                                  have p22 : 0 ≤ (3 : Int) := (by omega)
                                  have q22 : 3 < a0.size := (by have : (3 : Int) < (a0.size : Int) := of_decide_eq_true (by first | (with_reducible assumption) | assumption); omega)
                                  have hx22 : ∀ h : 3 < a0.size, ((a0[3]'h).toNat : Int) = bt a0 3 := bt_at a0 3
                                  clear p22
                                  have qi22 : (3 < (a0.size : Int)) = True := eq_true (of_decide_eq_true (by first | (with_reducible assumption) | assumption))
                                  replace q22 := eq_true q22
                                  go_wp2
                                  go_ret2
                                  exact ⟨by first | rfl | (simp; done) | (simp [*]; done), by repeat (first | exact Drawn0.refl _ | apply Drawn0.step)⟩
                            · rw [if_neg c23] at H
                              have c23b0 : ((Go.bits .and .u8 (bt a0 3) 192) == 128) = false := beq_eq_false_iff_ne.mpr c23
                              have c23b1 : ((Go.bits .and .u8 (bt a0 3) 192) != 128) = true := bne_iff_ne.mpr c23
                              simp only [Option.some.injEq, Prod.mk.injEq] at H
                              obtain ⟨rfl, rfl⟩ := H
                              have p12 : 0 ≤ (1 : Int) := (by omega)
                              have q12 : 1 < a0.size := (by have : (1 : Int) < (a0.size : Int) := of_decide_eq_true (by first | (with_reducible assumption) | assumption); omega)
                              have hx12 : ∀ h : 1 < a0.size, ((a0[1]'h).toNat : Int) = bt a0 1 := bt_at a0 1
                              clear p12
                              have qi12 : (1 < (a0.size : Int)) = True := eq_true (of_decide_eq_true (by first | (with_reducible assumption) | assumption))
                              replace q12 := eq_true q12
                              have p17 : 0 ≤ (2 : Int) := (by omega)
                              have q17 : 2 < a0.size := (by have : (2 : Int) < (a0.size : Int) := of_decide_eq_true (by first | (with_reducible assumption) | assumption); omega)
                              have hx17 : ∀ h : 2 < a0.size, ((a0[2]'h).toNat : Int) = bt a0 2 := bt_at a0 2
                              clear p17
                              have qi17 : (2 < (a0.size : Int)) = True := eq_true (of_decide_eq_true (by first | (with_reducible assumption) | assumption))
                              replace q17 := eq_true q17
                              have p22 : 0 ≤ (3 : Int) := (by omega)
                              have q22 : 3 < a0.size := (by have : (3 : Int) < (a0.size : Int) := of_decide_eq_true (by first | (with_reducible assumption) | assumption); omega)
                              have hx22 : ∀ h : 3 < a0.size, ((a0[3]'h).toNat : Int) = bt a0 3 := bt_at a0 3
                              clear p22
                              have qi22 : (3 < (a0.size : Int)) = True := eq_true (of_decide_eq_true (by first | (with_reducible assumption) | assumption))
                              replace q22 := eq_true q22
                              go_wp2
                              go_ret2
                              exact ⟨by first | rfl | (simp; done) | (simp [*]; done), by repeat (first | exact Drawn0.refl _ | apply Drawn0.step)⟩
                          · rw [if_neg c21] at H
                            exact absurd H (by simp)
                      · rw [if_neg c18] at H
                        have c18b0 : ((Go.bits .and .u8 (bt a0 2) 192) == 128) = false := beq_eq_false_iff_ne.mpr c18
                        have c18b1 : ((Go.bits .and .u8 (bt a0 2) 192) != 128) = true := bne_iff_ne.mpr c18
                        simp only [Option.some.injEq, Prod.mk.injEq] at H
                        obtain ⟨rfl, rfl⟩ := H
                        have p12 : 0 ≤ (1 : Int) := (by omega)
                        have q12 : 1 < a0.size := (by have : (1 : Int) < (a0.size : Int) := of_decide_eq_true (by first | (with_reducible assumption) | assumption); omega)
                        have hx12 : ∀ h : 1 < a0.size, ((a0[1]'h).toNat : Int) = bt a0 1 := bt_at a0 1
                        clear p12
                        have qi12 : (1 < (a0.size : Int)) = True := eq_true (of_decide_eq_true (by first | (with_reducible assumption) | assumption))
                        replace q12 := eq_true q12
                        have p17 : 0 ≤ (2 : Int) := (by omega)
                        have q17 : 2 < a0.size := (by have : (2 : Int) < (a0.size : Int) := of_decide_eq_true (by first | (with_reducible assumption) | assumption); omega)
                        have hx17 : ∀ h : 2 < a0.size, ((a0[2]'h).toNat : Int) = bt a0 2 := bt_at a0 2
                        clear p17
                        have qi17 : (2 < (a0.size : Int)) = True := eq_true (of_decide_eq_true (by first | (with_reducible assumption) | assumption))
                        replace q17 := eq_true q17
                        go_wp2
                        go_ret2
                        exact ⟨by first | rfl | (simp; done) | (simp [*]; done), by repeat (first | exact Drawn0.refl _ | apply Drawn0.step)⟩
                    · rw [if_neg c16] at H
                      exact absurd H (by simp)
                · rw [if_neg c13] at H
                  have c13b0 : ((Go.bits .and .u8 (bt a0 1) 192) == 128) = false := beq_eq_false_iff_ne.mpr c13
                  have c13b1 : ((Go.bits .and .u8 (bt a0 1) 192) != 128) = true := bne_iff_ne.mpr c13
                  simp only [Option.some.injEq, Prod.mk.injEq] at H
                  obtain ⟨rfl, rfl⟩ := H
                  have p12 : 0 ≤ (1 : Int) := (by omega)
                  have q12 : 1 < a0.size := (by have : (1 : Int) < (a0.size : Int) := of_decide_eq_true (by first | (with_reducible assumption) | assumption); omega)
                  have hx12 : ∀ h : 1 < a0.size, ((a0[1]'h).toNat : Int) = bt a0 1 := bt_at a0 1
                  clear p12
                  have qi12 : (1 < (a0.size : Int)) = True := eq_true (of_decide_eq_true (by first | (with_reducible assumption) | assumption))
                  replace q12 := eq_true q12
                  go_wp2
                  go_ret2
                  exact ⟨by first | rfl | (simp; done) | (simp [*]; done), by repeat (first | exact Drawn0.refl _ | apply Drawn0.step)⟩
              · rw [if_neg c11] at H
                exact absurd H (by simp)
    · rw [if_neg c3] at H
      exact absurd H (by simp)

end Go.Proofs.Ytmgepjnaalnckaa.PinternalQuote
