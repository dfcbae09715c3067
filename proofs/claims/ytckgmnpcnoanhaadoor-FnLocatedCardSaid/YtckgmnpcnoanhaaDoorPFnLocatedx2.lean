-- Written by printx.py of this session, over the kit's print, with contracts of this session for some functions
import Derived.Test.YtckgmnpcnoanhaaDoorPFnLocatedx0
import Derived.Test.YtckgmnpcnoanhaaDoorPFnLocatedx1
namespace Go.Proofs.YtckgmnpcnoanhaaDoor.PFnLocated
open Go.RowKit Go.Proofs.YtckgmnpcnoanhaaDoorW.PrintWords Go.Proofs.YtckgmnpcnoanhaaDoorW.PrintLast Go.Proofs.YtckgmnpcnoanhaaDoorW.PrintMore
attribute [local go_sem] max2_int min2_int max_two min_two max_three min_three max_four min_four   -- for this text's walks alone
set_option linter.unusedVariables false
set_option linter.unusedSimpArgs false

/-! ### spec_Rounded: function 6 -/
def spec_Rounded.f (a0 : ByteArray) (a1 : Int) : Option (Bool) := if a1 < 0 then (some false) else (if a1 > (a0.size : Int) then (some false) else (if a1 < (a0.size : Int) then (if 0 ≤ a1 then (if (Go.bits .and .u8 (bt a0 a1) 192) = 128 then (some false) else (if a1 = 0 then (some true) else (if a1 = (a0.size : Int) then (some true) else (if 0 ≤ (wrap64 (a1 - 1)) then (if (wrap64 (a1 - 1)) < (a0.size : Int) then (if (bt a0 (wrap64 (a1 - 1))) = 13 then (some ((bt a0 a1) != 10)) else (some true)) else (none)) else (none))))) else (none)) else (if a1 = 0 then (some true) else (if a1 = (a0.size : Int) then (some true) else (if 0 ≤ (wrap64 (a1 - 1)) then (if (wrap64 (a1 - 1)) < (a0.size : Int) then (if (bt a0 (wrap64 (a1 - 1))) = 13 then (if 0 ≤ a1 then (none) else (none)) else (some true)) else (none)) else (none))))))
set_option maxHeartbeats 8000000 in
set_option maxRecDepth 100000 in
theorem spec_Rounded.calls (a0 : ByteArray) (a1 : Int) (r : Bool) (w : World) (h : spec_Rounded.f a0 a1 = some r) :
    Calls Tryd.prog 6 #[.string a0, .int .i64 a1] w fun e w' => e = .returned (.bool r) ∧ Drawn0 w w' := by
  have H : (if a1 < 0 then (some false) else (if a1 > (a0.size : Int) then (some false) else (if a1 < (a0.size : Int) then (if 0 ≤ a1 then (if (Go.bits .and .u8 (bt a0 a1) 192) = 128 then (some false) else (if a1 = 0 then (some true) else (if a1 = (a0.size : Int) then (some true) else (if 0 ≤ (wrap64 (a1 - 1)) then (if (wrap64 (a1 - 1)) < (a0.size : Int) then (if (bt a0 (wrap64 (a1 - 1))) = 13 then (some ((bt a0 a1) != 10)) else (some true)) else (none)) else (none))))) else (none)) else (if a1 = 0 then (some true) else (if a1 = (a0.size : Int) then (some true) else (if 0 ≤ (wrap64 (a1 - 1)) then (if (wrap64 (a1 - 1)) < (a0.size : Int) then (if (bt a0 (wrap64 (a1 - 1))) = 13 then (if 0 ≤ a1 then (none) else (none)) else (some true)) else (none)) else (none))))))) = some r := h
  clear h
  by_cases c3 : a1 < 0
  · rw [if_pos c3] at H
    have c3b0 : decide (a1 < 0) = true := decide_eq_true c3
    clear c3
    obtain rfl := Option.some.inj H
    go_enter Tryd.func6, Tryd.ntmps6
    go_wp2
    go_ret
    exact ⟨by first | rfl | (simp; done) | (simp [*]; done), by repeat (first | exact Drawn0.refl _ | apply Drawn0.step)⟩
  · rw [if_neg c3] at H
    have c3b0 : decide (a1 < 0) = false := decide_eq_false c3
    clear c3
    by_cases c4 : a1 > (a0.size : Int)
    · rw [if_pos c4] at H
      have c4b0 : decide ((a0.size : Int) < a1) = true := decide_eq_true c4
      clear c4
      obtain rfl := Option.some.inj H
      go_enter Tryd.func6, Tryd.ntmps6
      go_wp2
      go_ret
      exact ⟨by first | rfl | (simp; done) | (simp [*]; done), by repeat (first | exact Drawn0.refl _ | apply Drawn0.step)⟩
    · rw [if_neg c4] at H
      have c4b0 : decide ((a0.size : Int) < a1) = false := decide_eq_false c4
      clear c4
      by_cases c5 : a1 < (a0.size : Int)
      · rw [if_pos c5] at H
        have c5b0 : decide (a1 < (a0.size : Int)) = true := decide_eq_true c5
        clear c5
        by_cases c6 : 0 ≤ a1
        · rw [if_pos c6] at H
          have c6b0 : decide (0 ≤ a1) = true := decide_eq_true c6
          clear c6
          by_cases c8 : (Go.bits .and .u8 (bt a0 a1) 192) = 128
          · rw [if_pos c8] at H
            have c8b0 : ((Go.bits .and .u8 (bt a0 a1) 192) == 128) = true := beq_iff_eq.mpr c8
            have c8b1 : ((Go.bits .and .u8 (bt a0 a1) 192) != 128) = false := bne_eq_false_iff_eq.mpr c8
            clear c8
            obtain rfl := Option.some.inj H
            have p7 : 0 ≤ (a1 : Int) := of_decide_eq_true (by first | (with_reducible assumption) | assumption)
            have q7 : a1 < (a0.size : Int) := of_decide_eq_true (by first | (with_reducible assumption) | assumption)
            have hx7 := bt_at a0 a1
            replace p7 := eq_true p7
            replace q7 := eq_true q7
            go_enter Tryd.func6, Tryd.ntmps6
            go_wp2
            go_ret
            exact ⟨by first | rfl | (simp; done) | (simp [*]; done), by repeat (first | exact Drawn0.refl _ | apply Drawn0.step)⟩
          · rw [if_neg c8] at H
            have c8b0 : ((Go.bits .and .u8 (bt a0 a1) 192) == 128) = false := beq_eq_false_iff_ne.mpr c8
            have c8b1 : ((Go.bits .and .u8 (bt a0 a1) 192) != 128) = true := bne_iff_ne.mpr c8
            by_cases c9 : a1 = 0
            · rw [if_pos c9] at H
              have c9b0 : (a1 == 0) = true := beq_iff_eq.mpr c9
              have c9b1 : (a1 != 0) = false := bne_eq_false_iff_eq.mpr c9
              clear c9
              obtain rfl := Option.some.inj H
              have p7 : 0 ≤ (a1 : Int) := of_decide_eq_true (by first | (with_reducible assumption) | assumption)
              have q7 : a1 < (a0.size : Int) := of_decide_eq_true (by first | (with_reducible assumption) | assumption)
              have hx7 := bt_at a0 a1
              replace p7 := eq_true p7
              replace q7 := eq_true q7
              go_enter Tryd.func6, Tryd.ntmps6
              go_wp2
              go_ret
              exact ⟨by first | rfl | (simp; done) | (simp [*]; done), by repeat (first | exact Drawn0.refl _ | apply Drawn0.step)⟩
            · rw [if_neg c9] at H
              have c9b0 : (a1 == 0) = false := beq_eq_false_iff_ne.mpr c9
              have c9b1 : (a1 != 0) = true := bne_iff_ne.mpr c9
              by_cases c10 : a1 = (a0.size : Int)
              · rw [if_pos c10] at H
                have c10b0 : (a1 == (a0.size : Int)) = true := beq_iff_eq.mpr c10
                have c10b1 : (a1 != (a0.size : Int)) = false := bne_eq_false_iff_eq.mpr c10
                clear c10
                obtain rfl := Option.some.inj H
                have p7 : 0 ≤ (a1 : Int) := of_decide_eq_true (by first | (with_reducible assumption) | assumption)
                have q7 : a1 < (a0.size : Int) := of_decide_eq_true (by first | (with_reducible assumption) | assumption)
                have hx7 := bt_at a0 a1
                replace p7 := eq_true p7
                replace q7 := eq_true q7
                go_enter Tryd.func6, Tryd.ntmps6
                go_wp2
                go_ret
                exact ⟨by first | rfl | (simp; done) | (simp [*]; done), by repeat (first | exact Drawn0.refl _ | apply Drawn0.step)⟩
              · rw [if_neg c10] at H
                have c10b0 : (a1 == (a0.size : Int)) = false := beq_eq_false_iff_ne.mpr c10
                have c10b1 : (a1 != (a0.size : Int)) = true := bne_iff_ne.mpr c10
                obtain ⟨ji11, hji11⟩ : ∃ j_ : Int, (wrap64 (a1 - 1)) = j_ := ⟨_, rfl⟩
                replace H : (if 0 ≤ (ji11) then (if (ji11) < (a0.size : Int) then (if (bt a0 (ji11)) = 13 then (some ((bt a0 a1) != 10)) else (some true)) else (none)) else (none)) = some r := by first | (rw [hji11] at H; exact H) | (simp only [hji11] at H ⊢; exact H)
                have hji11w : (IntKind.i64.wrap (a1 - 1)) = ji11 := (i64_w _).trans hji11
                by_cases c12 : 0 ≤ (ji11)
                · rw [if_pos c12] at H
                  have c12b0 : decide (0 ≤ (ji11)) = true := decide_eq_true c12
                  clear c12
                  by_cases c13 : (ji11) < (a0.size : Int)
                  · rw [if_pos c13] at H
                    have c13b0 : decide ((ji11) < (a0.size : Int)) = true := decide_eq_true c13
                    clear c13
                    by_cases c15 : (bt a0 (ji11)) = 13
                    · rw [if_pos c15] at H
                      have c15b0 : ((bt a0 (ji11)) == 13) = true := beq_iff_eq.mpr c15
                      have c15b1 : ((bt a0 (ji11)) != 13) = false := bne_eq_false_iff_eq.mpr c15
                      clear c15
                      obtain rfl := Option.some.inj H
                      have p7 : 0 ≤ (a1 : Int) := of_decide_eq_true (by first | (with_reducible assumption) | assumption)
                      have q7 : a1 < (a0.size : Int) := of_decide_eq_true (by first | (with_reducible assumption) | assumption)
                      have hx7 := bt_at a0 a1
                      replace p7 := eq_true p7
                      replace q7 := eq_true q7
                      have p14 : 0 ≤ ((ji11) : Int) := of_decide_eq_true (by first | (with_reducible assumption) | assumption)
                      have q14 : (ji11) < (a0.size : Int) := of_decide_eq_true (by first | (with_reducible assumption) | assumption)
                      have hx14 := bt_at a0 (ji11)
                      replace p14 := eq_true p14
                      replace q14 := eq_true q14
                      have p16 : 0 ≤ (a1 : Int) := of_decide_eq_true (by first | (with_reducible assumption) | assumption)
                      have q16 : a1 < (a0.size : Int) := of_decide_eq_true (by first | (with_reducible assumption) | assumption)
                      have hx16 := bt_at a0 a1
                      replace p16 := eq_true p16
                      replace q16 := eq_true q16
                      go_enter Tryd.func6, Tryd.ntmps6
                      go_wp2
                      go_ret
                      exact ⟨by first | rfl | (simp; done) | (simp only [← hji11] <;> (first | rfl | simp)) | (simp [*]; done), by repeat (first | exact Drawn0.refl _ | apply Drawn0.step)⟩
                    · rw [if_neg c15] at H
                      have c15b0 : ((bt a0 (ji11)) == 13) = false := beq_eq_false_iff_ne.mpr c15
                      have c15b1 : ((bt a0 (ji11)) != 13) = true := bne_iff_ne.mpr c15
                      obtain rfl := Option.some.inj H
                      have p7 : 0 ≤ (a1 : Int) := of_decide_eq_true (by first | (with_reducible assumption) | assumption)
                      have q7 : a1 < (a0.size : Int) := of_decide_eq_true (by first | (with_reducible assumption) | assumption)
                      have hx7 := bt_at a0 a1
                      replace p7 := eq_true p7
                      replace q7 := eq_true q7
                      have p14 : 0 ≤ ((ji11) : Int) := of_decide_eq_true (by first | (with_reducible assumption) | assumption)
                      have q14 : (ji11) < (a0.size : Int) := of_decide_eq_true (by first | (with_reducible assumption) | assumption)
                      have hx14 := bt_at a0 (ji11)
                      replace p14 := eq_true p14
                      replace q14 := eq_true q14
                      go_enter Tryd.func6, Tryd.ntmps6
                      go_wp2
                      go_ret
                      exact ⟨by first | rfl | (simp; done) | (simp only [← hji11] <;> (first | rfl | simp)) | (simp [*]; done), by repeat (first | exact Drawn0.refl _ | apply Drawn0.step)⟩
                  · rw [if_neg c13] at H
                    exact absurd H (by simp)
                · rw [if_neg c12] at H
                  exact absurd H (by simp)
        · rw [if_neg c6] at H
          exact absurd H (by simp)
      · rw [if_neg c5] at H
        have c5b0 : decide (a1 < (a0.size : Int)) = false := decide_eq_false c5
        clear c5
        by_cases c17 : a1 = 0
        · rw [if_pos c17] at H
          have c17b0 : (a1 == 0) = true := beq_iff_eq.mpr c17
          have c17b1 : (a1 != 0) = false := bne_eq_false_iff_eq.mpr c17
          clear c17
          obtain rfl := Option.some.inj H
          go_enter Tryd.func6, Tryd.ntmps6
          go_wp2
          go_ret
          exact ⟨by first | rfl | (simp; done) | (simp [*]; done), by repeat (first | exact Drawn0.refl _ | apply Drawn0.step)⟩
        · rw [if_neg c17] at H
          have c17b0 : (a1 == 0) = false := beq_eq_false_iff_ne.mpr c17
          have c17b1 : (a1 != 0) = true := bne_iff_ne.mpr c17
          by_cases c18 : a1 = (a0.size : Int)
          · rw [if_pos c18] at H
            have c18b0 : (a1 == (a0.size : Int)) = true := beq_iff_eq.mpr c18
            have c18b1 : (a1 != (a0.size : Int)) = false := bne_eq_false_iff_eq.mpr c18
            clear c18
            obtain rfl := Option.some.inj H
            go_enter Tryd.func6, Tryd.ntmps6
            go_wp2
            go_ret
            exact ⟨by first | rfl | (simp; done) | (simp [*]; done), by repeat (first | exact Drawn0.refl _ | apply Drawn0.step)⟩
          · rw [if_neg c18] at H
            have c18b0 : (a1 == (a0.size : Int)) = false := beq_eq_false_iff_ne.mpr c18
            have c18b1 : (a1 != (a0.size : Int)) = true := bne_iff_ne.mpr c18
            obtain ⟨ji19, hji19⟩ : ∃ j_ : Int, (wrap64 (a1 - 1)) = j_ := ⟨_, rfl⟩
            replace H : (if 0 ≤ (ji19) then (if (ji19) < (a0.size : Int) then (if (bt a0 (ji19)) = 13 then (if 0 ≤ a1 then (none) else (none)) else (some true)) else (none)) else (none)) = some r := by first | (rw [hji19] at H; exact H) | (simp only [hji19] at H ⊢; exact H)
            have hji19w : (IntKind.i64.wrap (a1 - 1)) = ji19 := (i64_w _).trans hji19
            by_cases c20 : 0 ≤ (ji19)
            · rw [if_pos c20] at H
              have c20b0 : decide (0 ≤ (ji19)) = true := decide_eq_true c20
              clear c20
              by_cases c21 : (ji19) < (a0.size : Int)
              · rw [if_pos c21] at H
                have c21b0 : decide ((ji19) < (a0.size : Int)) = true := decide_eq_true c21
                clear c21
                by_cases c23 : (bt a0 (ji19)) = 13
                · rw [if_pos c23] at H
                  have c23b0 : ((bt a0 (ji19)) == 13) = true := beq_iff_eq.mpr c23
                  have c23b1 : ((bt a0 (ji19)) != 13) = false := bne_eq_false_iff_eq.mpr c23
                  clear c23
                  by_cases c24 : 0 ≤ a1
                  · rw [if_pos c24] at H
                    exact absurd H (by simp)
                  · rw [if_neg c24] at H
                    exact absurd H (by simp)
                · rw [if_neg c23] at H
                  have c23b0 : ((bt a0 (ji19)) == 13) = false := beq_eq_false_iff_ne.mpr c23
                  have c23b1 : ((bt a0 (ji19)) != 13) = true := bne_iff_ne.mpr c23
                  obtain rfl := Option.some.inj H
                  have p22 : 0 ≤ ((ji19) : Int) := of_decide_eq_true (by first | (with_reducible assumption) | assumption)
                  have q22 : (ji19) < (a0.size : Int) := of_decide_eq_true (by first | (with_reducible assumption) | assumption)
                  have hx22 := bt_at a0 (ji19)
                  replace p22 := eq_true p22
                  replace q22 := eq_true q22
                  go_enter Tryd.func6, Tryd.ntmps6
                  go_wp2
                  go_ret
                  exact ⟨by first | rfl | (simp; done) | (simp only [← hji19] <;> (first | rfl | simp)) | (simp [*]; done), by repeat (first | exact Drawn0.refl _ | apply Drawn0.step)⟩
              · rw [if_neg c21] at H
                exact absurd H (by simp)
            · rw [if_neg c20] at H
              exact absurd H (by simp)

/-! ### spec_LineEnd: function 14 -/
def spec_LineEnd.f (a0 : Int) : Option (Bool) := if a0 = 10 then (some true) else (if a0 = 13 then (some true) else (if a0 = 8232 then (some true) else (some (a0 == 8233))))
set_option maxHeartbeats 8000000 in
set_option maxRecDepth 100000 in
theorem spec_LineEnd.calls (a0 : Int) (r : Bool) (w : World) (h : spec_LineEnd.f a0 = some r) :
    Calls Tryd.prog 14 #[.int .i64 a0] w fun e w' => e = .returned (.bool r) ∧ Drawn0 w w' := by
  have H : (if a0 = 10 then (some true) else (if a0 = 13 then (some true) else (if a0 = 8232 then (some true) else (some (a0 == 8233))))) = some r := h
  clear h
  by_cases c2 : a0 = 10
  · rw [if_pos c2] at H
    have c2b0 : (a0 == 10) = true := beq_iff_eq.mpr c2
    have c2b1 : (a0 != 10) = false := bne_eq_false_iff_eq.mpr c2
    clear c2
    obtain rfl := Option.some.inj H
    go_enter Tryd.func14, Tryd.ntmps14
    go_wp2
    go_ret
    exact ⟨by first | rfl | (simp; done) | (simp [*]; done), by repeat (first | exact Drawn0.refl _ | apply Drawn0.step)⟩
  · rw [if_neg c2] at H
    have c2b0 : (a0 == 10) = false := beq_eq_false_iff_ne.mpr c2
    have c2b1 : (a0 != 10) = true := bne_iff_ne.mpr c2
    by_cases c3 : a0 = 13
    · rw [if_pos c3] at H
      have c3b0 : (a0 == 13) = true := beq_iff_eq.mpr c3
      have c3b1 : (a0 != 13) = false := bne_eq_false_iff_eq.mpr c3
      clear c3
      obtain rfl := Option.some.inj H
      go_enter Tryd.func14, Tryd.ntmps14
      go_wp2
      go_ret
      exact ⟨by first | rfl | (simp; done) | (simp [*]; done), by repeat (first | exact Drawn0.refl _ | apply Drawn0.step)⟩
    · rw [if_neg c3] at H
      have c3b0 : (a0 == 13) = false := beq_eq_false_iff_ne.mpr c3
      have c3b1 : (a0 != 13) = true := bne_iff_ne.mpr c3
      by_cases c4 : a0 = 8232
      · rw [if_pos c4] at H
        have c4b0 : (a0 == 8232) = true := beq_iff_eq.mpr c4
        have c4b1 : (a0 != 8232) = false := bne_eq_false_iff_eq.mpr c4
        clear c4
        obtain rfl := Option.some.inj H
        go_enter Tryd.func14, Tryd.ntmps14
        go_wp2
        go_ret
        exact ⟨by first | rfl | (simp; done) | (simp [*]; done), by repeat (first | exact Drawn0.refl _ | apply Drawn0.step)⟩
      · rw [if_neg c4] at H
        have c4b0 : (a0 == 8232) = false := beq_eq_false_iff_ne.mpr c4
        have c4b1 : (a0 != 8232) = true := bne_iff_ne.mpr c4
        obtain rfl := Option.some.inj H
        go_enter Tryd.func14, Tryd.ntmps14
        go_wp2
        go_ret
        exact ⟨by first | rfl | (simp; done) | (simp [*]; done), by repeat (first | exact Drawn0.refl _ | apply Drawn0.step)⟩

/-! ### spec_LineOf: function 7 -/
mutual
def spec_LineOf.l0 : Nat → ByteArray → Int → Int → Int → Int → Option (Int × Int × ByteArray)
  | 0, _, _, _, _, _ => none
  | k + 1, x0, x1, x4, x7, x8 => if x8 < x1 then ((spec_Rune.f k x0 x8).bind fun bt104 => (if bt104.2 = 0 then (some (0, 0, (⟨#[]⟩ : ByteArray))) else ((spec_LineEnd.f bt104.1).bind fun t106 => (if t106 = true then (if bt104.1 = 13 then (if (wrap64 (x8 + bt104.2)) < (x0.size : Int) then (if 0 ≤ (wrap64 (x8 + bt104.2)) then (if ((bt x0 (wrap64 (x8 + bt104.2))) = 10) then (spec_LineOf.l0 k x0 x1 x4 x7 (wrap64 (x8 + bt104.2))) else (spec_LineOf.l0 k x0 x1 (wrap64 (x4 + 1)) (wrap64 (x8 + bt104.2)) (wrap64 (x8 + bt104.2)))) else (none)) else (spec_LineOf.l0 k x0 x1 (wrap64 (x4 + 1)) (wrap64 (x8 + bt104.2)) (wrap64 (x8 + bt104.2)))) else (spec_LineOf.l0 k x0 x1 (wrap64 (x4 + 1)) (wrap64 (x8 + bt104.2)) (wrap64 (x8 + bt104.2)))) else (spec_LineOf.l0 k x0 x1 x4 x7 (wrap64 (x8 + bt104.2))))))) else (spec_LineOf.l1 k x0 x1 x4 x7 x7)
def spec_LineOf.l1 : Nat → ByteArray → Int → Int → Int → Int → Option (Int × Int × ByteArray)
  | 0, _, _, _, _, _ => none
  | k + 1, x0, x1, x4, x7, x11 => if x11 < (x0.size : Int) then ((spec_Rune.f k x0 x11).bind fun bt107 => (if bt107.2 = 0 then (if 0 ≤ x7 then (if x7 ≤ x11 then (if x11 ≤ (x0.size : Int) then (some (x4, wrap64 (x1 - x7), x0.extract (x7 : Int).toNat (x11 : Int).toNat)) else (none)) else (none)) else (none)) else ((spec_LineEnd.f bt107.1).bind fun t109 => (if t109 = true then (if 0 ≤ x7 then (if x7 ≤ x11 then (if x11 ≤ (x0.size : Int) then (some (x4, wrap64 (x1 - x7), x0.extract (x7 : Int).toNat (x11 : Int).toNat)) else (none)) else (none)) else (none)) else (spec_LineOf.l1 k x0 x1 x4 x7 (wrap64 (x11 + bt107.2))))))) else (if 0 ≤ x7 then (if x7 ≤ x11 then (if x11 ≤ (x0.size : Int) then (some (x4, wrap64 (x1 - x7), x0.extract (x7 : Int).toNat (x11 : Int).toNat)) else (none)) else (none)) else (none))
end
def spec_LineOf.f (k : Nat) (a0 : ByteArray) (a1 : Int) : Option (Int × Int × ByteArray) := spec_LineOf.l0 k a0 a1 1 0 0
theorem spec_LineOf.mono_l : ∀ k, (∀ y0 y1 y2 y3 y4, LeO (spec_LineOf.l0 k y0 y1 y2 y3 y4) (spec_LineOf.l0 (k + 1) y0 y1 y2 y3 y4)) ∧ (∀ y0 y1 y2 y3 y4, LeO (spec_LineOf.l1 k y0 y1 y2 y3 y4) (spec_LineOf.l1 (k + 1) y0 y1 y2 y3 y4))
  | 0 => ⟨fun _ _ _ _ _ r h => by simp [spec_LineOf.l0] at h, fun _ _ _ _ _ r h => by simp [spec_LineOf.l1] at h⟩
  | k + 1 => by
    obtain ⟨ih0, ih1⟩ := spec_LineOf.mono_l k
    refine ⟨?_, ?_⟩
    · intro y0 y1 y2 y3 y4
      unfold spec_LineOf.l0
      repeat' first
      | (with_reducible exact ih0 _ _ _ _ _)
      | (with_reducible exact ih1 _ _ _ _ _)
      | (with_reducible exact spec_Rune.mono _ _ _)
      | (with_reducible exact LeO.refl _)
      | (with_reducible exact LeO.none _)
      | (with_reducible refine LeO.ite ?_ ?_)
      | (with_reducible refine LeO.bind ?_ (fun _ => ?_))
      | exact ih0 _ _ _ _ _
      | exact ih1 _ _ _ _ _
      | exact spec_Rune.mono _ _ _
      | exact LeO.none _
      | refine LeO.ite ?_ ?_
      | refine LeO.bind ?_ (fun _ => ?_)
    · intro y0 y1 y2 y3 y4
      unfold spec_LineOf.l1
      repeat' first
      | (with_reducible exact ih0 _ _ _ _ _)
      | (with_reducible exact ih1 _ _ _ _ _)
      | (with_reducible exact spec_Rune.mono _ _ _)
      | (with_reducible exact LeO.refl _)
      | (with_reducible exact LeO.none _)
      | (with_reducible refine LeO.ite ?_ ?_)
      | (with_reducible refine LeO.bind ?_ (fun _ => ?_))
      | exact ih0 _ _ _ _ _
      | exact ih1 _ _ _ _ _
      | exact spec_Rune.mono _ _ _
      | exact LeO.none _
      | refine LeO.ite ?_ ?_
      | refine LeO.bind ?_ (fun _ => ?_)
theorem spec_LineOf.mono : ∀ a0 a1 k, LeO (spec_LineOf.f k a0 a1) (spec_LineOf.f (k + 1) a0 a1) := by
  intro a0 a1 k
  obtain ⟨ih0, ih1⟩ := spec_LineOf.mono_l k
  unfold spec_LineOf.f
  repeat' first
      | (with_reducible exact ih0 _ _ _ _ _)
      | (with_reducible exact ih1 _ _ _ _ _)
      | (with_reducible exact spec_Rune.mono _ _ _)
      | (with_reducible exact LeO.refl _)
      | (with_reducible exact LeO.none _)
      | (with_reducible refine LeO.ite ?_ ?_)
      | (with_reducible refine LeO.bind ?_ (fun _ => ?_))
      | exact ih0 _ _ _ _ _
      | exact ih1 _ _ _ _ _
      | exact spec_Rune.mono _ _ _
      | exact LeO.none _
      | refine LeO.ite ?_ ?_
      | refine LeO.bind ?_ (fun _ => ?_)
set_option maxHeartbeats 8000000 in
set_option maxRecDepth 100000 in
theorem spec_LineOf.calls (k : Nat) (a0 : ByteArray) (a1 : Int) (r1 : Int) (r2 : Int) (r3 : ByteArray) (w : World) (h : spec_LineOf.f k a0 a1 = some (r1, r2, r3)) :
    Calls Tryd.prog 7 #[.string a0, .int .i64 a1] w fun e w' => e = .returned (.tuple #[.int .i64 r1, .int .i64 r2, .string r3]) ∧ Drawn0 w w' := by
  have H : (spec_LineOf.l0 k a0 a1 1 0 0) = some (r1, r2, r3) := h
  clear h
  have H' := Aside0.mk H
  clear H
  go_enter Tryd.func7, Tryd.ntmps7
  go_wp2
  repeat (go_quiet (fail); try go_wp2)
  go_loopg [4, 7, 8] k (fun kq v4 v7 v8 w' => ∃ (x4_1 : Int) (x7_1 : Int) (x8_1 : Int), v4 = .int .i64 x4_1 ∧ v7 = .int .i64 x7_1 ∧ v8 = .int .i64 x8_1 ∧ Aside0 (spec_LineOf.l0 kq a0 a1 x4_1 x7_1 x8_1 = some (r1, r2, r3)) ∧ Aside0 (kq ≤ k) ∧ Drawn0 w w')
  case atStart => exact ⟨(1), (0), (0), (by first | rfl | (simp; done) | (simp [*]; done)), (by first | rfl | (simp; done) | (simp [*]; done)), (by first | rfl | (simp; done) | (simp [*]; done)), H', ⟨Nat.le_refl _⟩, by repeat (first | exact Drawn0.refl _ | apply Drawn0.step)⟩
  case round =>
    clear H'
    try clear p2
    obtain ⟨x4_1, x7_1, x8_1, rfl, rfl, rfl, HA, HK1, ⟨m1, rfl⟩⟩ := hrel
    cases gk with
    | zero => exact absurd HA.out (by simp [spec_LineOf.l0])
    | succ k1 =>
      have H := HA.out
      clear HA
      simp only [spec_LineOf.l0] at H
      by_cases c3 : x8_1 < a1
      · rw [if_pos c3] at H
        have c3b0 : decide (x8_1 < a1) = true := decide_eq_true c3
        clear c3
        replace H := Option.bind_eq_some_iff.mp H
        obtain ⟨⟨t104, t105⟩, A40, H⟩ := H
        replace H : (if t105 = 0 then (some (0, 0, (⟨#[]⟩ : ByteArray))) else ((spec_LineEnd.f t104).bind fun t106 => (if t106 = true then (if t104 = 13 then (if (wrap64 (x8_1 + t105)) < (a0.size : Int) then (if 0 ≤ (wrap64 (x8_1 + t105)) then (if ((bt a0 (wrap64 (x8_1 + t105))) = 10) then (spec_LineOf.l0 k1 a0 a1 x4_1 x7_1 (wrap64 (x8_1 + t105))) else (spec_LineOf.l0 k1 a0 a1 (wrap64 (x4_1 + 1)) (wrap64 (x8_1 + t105)) (wrap64 (x8_1 + t105)))) else (none)) else (spec_LineOf.l0 k1 a0 a1 (wrap64 (x4_1 + 1)) (wrap64 (x8_1 + t105)) (wrap64 (x8_1 + t105)))) else (spec_LineOf.l0 k1 a0 a1 (wrap64 (x4_1 + 1)) (wrap64 (x8_1 + t105)) (wrap64 (x8_1 + t105)))) else (spec_LineOf.l0 k1 a0 a1 x4_1 x7_1 (wrap64 (x8_1 + t105)))))) = some (r1, r2, r3) := H
        have A4 := Aside0.mk A40
        clear A40
        by_cases c5 : t105 = 0
        · rw [if_pos c5] at H
          have c5b0 : (t105 == 0) = true := beq_iff_eq.mpr c5
          have c5b1 : (t105 != 0) = false := bne_eq_false_iff_eq.mpr c5
          clear c5
          simp only [Option.some.injEq, Prod.mk.injEq] at H
          obtain ⟨rfl, rfl, rfl⟩ := H
          go_wp2_with (first | (go_at_call 13; (with_reducible refine (spec_Rune.calls k1 a0 x8_1 t104 t105 _ A4.out).mono ?_); rintro e w' ⟨rfl, ⟨nd, rfl⟩⟩; (try first | exact ⟨rfl, _, World.drewN_drewN _ _ _⟩ | exact ⟨rfl, _, Eq.trans (World.drewN_drewN _ _ _) (congrArg (World.drewN _) (Nat.add_assoc _ _ _))⟩)))
          repeat (go_quiet (first | (go_at_call 13; (with_reducible refine (spec_Rune.calls k1 a0 x8_1 t104 t105 _ A4.out).mono ?_); rintro e w' ⟨rfl, ⟨nd, rfl⟩⟩; (try first | exact ⟨rfl, _, World.drewN_drewN _ _ _⟩ | exact ⟨rfl, _, Eq.trans (World.drewN_drewN _ _ _) (congrArg (World.drewN _) (Nat.add_assoc _ _ _))⟩))); try go_wp2_with (first | (go_at_call 13; (with_reducible refine (spec_Rune.calls k1 a0 x8_1 t104 t105 _ A4.out).mono ?_); rintro e w' ⟨rfl, ⟨nd, rfl⟩⟩; (try first | exact ⟨rfl, _, World.drewN_drewN _ _ _⟩ | exact ⟨rfl, _, Eq.trans (World.drewN_drewN _ _ _) (congrArg (World.drewN _) (Nat.add_assoc _ _ _))⟩))))
          go_ret3
          exact ⟨by first | rfl | (simp; done) | (simp [*]; done), by repeat (first | exact Drawn0.refl _ | apply Drawn0.step)⟩
        · rw [if_neg c5] at H
          have c5b0 : (t105 == 0) = false := beq_eq_false_iff_ne.mpr c5
          have c5b1 : (t105 != 0) = true := bne_iff_ne.mpr c5
          replace H := Option.bind_eq_some_iff.mp H
          obtain ⟨t106, A60, H⟩ := H
          replace H : (if t106 = true then (if t104 = 13 then (if (wrap64 (x8_1 + t105)) < (a0.size : Int) then (if 0 ≤ (wrap64 (x8_1 + t105)) then (if ((bt a0 (wrap64 (x8_1 + t105))) = 10) then (spec_LineOf.l0 k1 a0 a1 x4_1 x7_1 (wrap64 (x8_1 + t105))) else (spec_LineOf.l0 k1 a0 a1 (wrap64 (x4_1 + 1)) (wrap64 (x8_1 + t105)) (wrap64 (x8_1 + t105)))) else (none)) else (spec_LineOf.l0 k1 a0 a1 (wrap64 (x4_1 + 1)) (wrap64 (x8_1 + t105)) (wrap64 (x8_1 + t105)))) else (spec_LineOf.l0 k1 a0 a1 (wrap64 (x4_1 + 1)) (wrap64 (x8_1 + t105)) (wrap64 (x8_1 + t105)))) else (spec_LineOf.l0 k1 a0 a1 x4_1 x7_1 (wrap64 (x8_1 + t105)))) = some (r1, r2, r3) := H
          have A6 := Aside0.mk A60
          clear A60
          by_cases c7 : t106 = true
          · subst c7
            have H1 : (if t104 = 13 then (if (wrap64 (x8_1 + t105)) < (a0.size : Int) then (if 0 ≤ (wrap64 (x8_1 + t105)) then (if ((bt a0 (wrap64 (x8_1 + t105))) = 10) then (spec_LineOf.l0 k1 a0 a1 x4_1 x7_1 (wrap64 (x8_1 + t105))) else (spec_LineOf.l0 k1 a0 a1 (wrap64 (x4_1 + 1)) (wrap64 (x8_1 + t105)) (wrap64 (x8_1 + t105)))) else (none)) else (spec_LineOf.l0 k1 a0 a1 (wrap64 (x4_1 + 1)) (wrap64 (x8_1 + t105)) (wrap64 (x8_1 + t105)))) else (spec_LineOf.l0 k1 a0 a1 (wrap64 (x4_1 + 1)) (wrap64 (x8_1 + t105)) (wrap64 (x8_1 + t105)))) = some (r1, r2, r3) := by rw [if_pos rfl] at H; exact H
            clear H
            have H := H1
            clear H1
            by_cases c8 : t104 = 13
            · rw [if_pos c8] at H
              have c8b0 : (t104 == 13) = true := beq_iff_eq.mpr c8
              have c8b1 : (t104 != 13) = false := bne_eq_false_iff_eq.mpr c8
              clear c8
              by_cases c9 : (wrap64 (x8_1 + t105)) < (a0.size : Int)
              · rw [if_pos c9] at H
                have c9b0 : decide ((wrap64 (x8_1 + t105)) < (a0.size : Int)) = true := decide_eq_true c9
                clear c9
                obtain ⟨ji10, hji10⟩ : ∃ j_ : Int, (wrap64 (x8_1 + t105)) = j_ := ⟨_, rfl⟩
                replace H : (if 0 ≤ (ji10) then (if ((bt a0 (ji10)) = 10) then (spec_LineOf.l0 k1 a0 a1 x4_1 x7_1 ji10) else (spec_LineOf.l0 k1 a0 a1 (wrap64 (x4_1 + 1)) ji10 ji10)) else (none)) = some (r1, r2, r3) := by first | (rw [hji10] at H; exact H) | (simp only [hji10] at H ⊢; exact H)
                (try rw [hji10] at c9b0)
                (try rw [hji10] at A4)
                (try rw [hji10] at A6)
                have hji10w : (IntKind.i64.wrap (x8_1 + t105)) = ji10 := (i64_w _).trans hji10
                by_cases c11 : 0 ≤ (ji10)
                · rw [if_pos c11] at H
                  have c11b0 : decide (0 ≤ (ji10)) = true := decide_eq_true c11
                  clear c11
                  by_cases c13 : ((bt a0 (ji10)) = 10)
                  · rw [if_pos c13] at H
                    have c13b0 : ((bt a0 (ji10)) == 10) = true := beq_iff_eq.mpr c13
                    have c13b1 : ((bt a0 (ji10)) != 10) = false := bne_eq_false_iff_eq.mpr c13
                    clear c13
                    have H' := Aside0.mk H
                    clear H
                    go_wp2_with (first | (go_at_call 13; (with_reducible refine (spec_Rune.calls k1 a0 x8_1 t104 t105 _ A4.out).mono ?_); rintro e w' ⟨rfl, ⟨nd, rfl⟩⟩; (try first | exact ⟨rfl, _, World.drewN_drewN _ _ _⟩ | exact ⟨rfl, _, Eq.trans (World.drewN_drewN _ _ _) (congrArg (World.drewN _) (Nat.add_assoc _ _ _))⟩)) | (go_at_call 14; (with_reducible refine (spec_LineEnd.calls t104 true _ A6.out).mono ?_); rintro e w' ⟨rfl, ⟨nd, rfl⟩⟩; (try first | exact ⟨rfl, _, World.drewN_drewN _ _ _⟩ | exact ⟨rfl, _, Eq.trans (World.drewN_drewN _ _ _) (congrArg (World.drewN _) (Nat.add_assoc _ _ _))⟩); have p12 : 0 ≤ ((ji10) : Int) := of_decide_eq_true (by first | (with_reducible assumption) | assumption); have q12 : (ji10) < (a0.size : Int) := of_decide_eq_true (by first | (with_reducible assumption) | assumption); have hx12 := bt_at a0 (ji10); replace p12 := eq_true p12; replace q12 := eq_true q12))
                    repeat (go_quiet (first | (go_at_call 13; (with_reducible refine (spec_Rune.calls k1 a0 x8_1 t104 t105 _ A4.out).mono ?_); rintro e w' ⟨rfl, ⟨nd, rfl⟩⟩; (try first | exact ⟨rfl, _, World.drewN_drewN _ _ _⟩ | exact ⟨rfl, _, Eq.trans (World.drewN_drewN _ _ _) (congrArg (World.drewN _) (Nat.add_assoc _ _ _))⟩)) | (go_at_call 14; (with_reducible refine (spec_LineEnd.calls t104 true _ A6.out).mono ?_); rintro e w' ⟨rfl, ⟨nd, rfl⟩⟩; (try first | exact ⟨rfl, _, World.drewN_drewN _ _ _⟩ | exact ⟨rfl, _, Eq.trans (World.drewN_drewN _ _ _) (congrArg (World.drewN _) (Nat.add_assoc _ _ _))⟩); have p12 : 0 ≤ ((ji10) : Int) := of_decide_eq_true (by first | (with_reducible assumption) | assumption); have q12 : (ji10) < (a0.size : Int) := of_decide_eq_true (by first | (with_reducible assumption) | assumption); have hx12 := bt_at a0 (ji10); replace p12 := eq_true p12; replace q12 := eq_true q12)); try go_wp2_with (first | (go_at_call 13; (with_reducible refine (spec_Rune.calls k1 a0 x8_1 t104 t105 _ A4.out).mono ?_); rintro e w' ⟨rfl, ⟨nd, rfl⟩⟩; (try first | exact ⟨rfl, _, World.drewN_drewN _ _ _⟩ | exact ⟨rfl, _, Eq.trans (World.drewN_drewN _ _ _) (congrArg (World.drewN _) (Nat.add_assoc _ _ _))⟩)) | (go_at_call 14; (with_reducible refine (spec_LineEnd.calls t104 true _ A6.out).mono ?_); rintro e w' ⟨rfl, ⟨nd, rfl⟩⟩; (try first | exact ⟨rfl, _, World.drewN_drewN _ _ _⟩ | exact ⟨rfl, _, Eq.trans (World.drewN_drewN _ _ _) (congrArg (World.drewN _) (Nat.add_assoc _ _ _))⟩); have p12 : 0 ≤ ((ji10) : Int) := of_decide_eq_true (by first | (with_reducible assumption) | assumption); have q12 : (ji10) < (a0.size : Int) := of_decide_eq_true (by first | (with_reducible assumption) | assumption); have hx12 := bt_at a0 (ji10); replace p12 := eq_true p12; replace q12 := eq_true q12)))
                    go_roundg k1
                    case measure => have := HK1.out; omega
                    case rel => exact ⟨(x4_1), (x7_1), (ji10), (by first | rfl | (simp; done) | (simp [*]; done)), (by first | rfl | (simp; done) | (simp [*]; done)), (by first | rfl | (simp; done) | (simp only [← hji10] <;> (first | rfl | simp)) | (simp [*]; done)), H', ⟨by have := HK1.out; omega⟩, by repeat (first | exact Drawn0.refl _ | apply Drawn0.step)⟩
                  · rw [if_neg c13] at H
                    have c13b0 : ((bt a0 (ji10)) == 10) = false := beq_eq_false_iff_ne.mpr c13
                    have c13b1 : ((bt a0 (ji10)) != 10) = true := bne_iff_ne.mpr c13
                    have H' := Aside0.mk H
                    clear H
                    go_wp2_with (first | (go_at_call 13; (with_reducible refine (spec_Rune.calls k1 a0 x8_1 t104 t105 _ A4.out).mono ?_); rintro e w' ⟨rfl, ⟨nd, rfl⟩⟩; (try first | exact ⟨rfl, _, World.drewN_drewN _ _ _⟩ | exact ⟨rfl, _, Eq.trans (World.drewN_drewN _ _ _) (congrArg (World.drewN _) (Nat.add_assoc _ _ _))⟩)) | (go_at_call 14; (with_reducible refine (spec_LineEnd.calls t104 true _ A6.out).mono ?_); rintro e w' ⟨rfl, ⟨nd, rfl⟩⟩; (try first | exact ⟨rfl, _, World.drewN_drewN _ _ _⟩ | exact ⟨rfl, _, Eq.trans (World.drewN_drewN _ _ _) (congrArg (World.drewN _) (Nat.add_assoc _ _ _))⟩); have p12 : 0 ≤ ((ji10) : Int) := of_decide_eq_true (by first | (with_reducible assumption) | assumption); have q12 : (ji10) < (a0.size : Int) := of_decide_eq_true (by first | (with_reducible assumption) | assumption); have hx12 := bt_at a0 (ji10); replace p12 := eq_true p12; replace q12 := eq_true q12))
                    repeat (go_quiet (first | (go_at_call 13; (with_reducible refine (spec_Rune.calls k1 a0 x8_1 t104 t105 _ A4.out).mono ?_); rintro e w' ⟨rfl, ⟨nd, rfl⟩⟩; (try first | exact ⟨rfl, _, World.drewN_drewN _ _ _⟩ | exact ⟨rfl, _, Eq.trans (World.drewN_drewN _ _ _) (congrArg (World.drewN _) (Nat.add_assoc _ _ _))⟩)) | (go_at_call 14; (with_reducible refine (spec_LineEnd.calls t104 true _ A6.out).mono ?_); rintro e w' ⟨rfl, ⟨nd, rfl⟩⟩; (try first | exact ⟨rfl, _, World.drewN_drewN _ _ _⟩ | exact ⟨rfl, _, Eq.trans (World.drewN_drewN _ _ _) (congrArg (World.drewN _) (Nat.add_assoc _ _ _))⟩); have p12 : 0 ≤ ((ji10) : Int) := of_decide_eq_true (by first | (with_reducible assumption) | assumption); have q12 : (ji10) < (a0.size : Int) := of_decide_eq_true (by first | (with_reducible assumption) | assumption); have hx12 := bt_at a0 (ji10); replace p12 := eq_true p12; replace q12 := eq_true q12)); try go_wp2_with (first | (go_at_call 13; (with_reducible refine (spec_Rune.calls k1 a0 x8_1 t104 t105 _ A4.out).mono ?_); rintro e w' ⟨rfl, ⟨nd, rfl⟩⟩; (try first | exact ⟨rfl, _, World.drewN_drewN _ _ _⟩ | exact ⟨rfl, _, Eq.trans (World.drewN_drewN _ _ _) (congrArg (World.drewN _) (Nat.add_assoc _ _ _))⟩)) | (go_at_call 14; (with_reducible refine (spec_LineEnd.calls t104 true _ A6.out).mono ?_); rintro e w' ⟨rfl, ⟨nd, rfl⟩⟩; (try first | exact ⟨rfl, _, World.drewN_drewN _ _ _⟩ | exact ⟨rfl, _, Eq.trans (World.drewN_drewN _ _ _) (congrArg (World.drewN _) (Nat.add_assoc _ _ _))⟩); have p12 : 0 ≤ ((ji10) : Int) := of_decide_eq_true (by first | (with_reducible assumption) | assumption); have q12 : (ji10) < (a0.size : Int) := of_decide_eq_true (by first | (with_reducible assumption) | assumption); have hx12 := bt_at a0 (ji10); replace p12 := eq_true p12; replace q12 := eq_true q12)))
                    go_roundg k1
                    case measure => have := HK1.out; omega
                    case rel => exact ⟨(wrap64 (x4_1 + 1)), (ji10), (ji10), (by first | rfl | (simp; done) | (simp [*]; done)), (by first | rfl | (simp; done) | (simp only [← hji10] <;> (first | rfl | simp)) | (simp [*]; done)), (by first | rfl | (simp; done) | (simp only [← hji10] <;> (first | rfl | simp)) | (simp [*]; done)), H', ⟨by have := HK1.out; omega⟩, by repeat (first | exact Drawn0.refl _ | apply Drawn0.step)⟩
                · rw [if_neg c11] at H
                  exact absurd H (by simp)
              · rw [if_neg c9] at H
                have c9b0 : decide ((wrap64 (x8_1 + t105)) < (a0.size : Int)) = false := decide_eq_false c9
                clear c9
                have H' := Aside0.mk H
                clear H
                go_wp2_with (first | (go_at_call 13; (with_reducible refine (spec_Rune.calls k1 a0 x8_1 t104 t105 _ A4.out).mono ?_); rintro e w' ⟨rfl, ⟨nd, rfl⟩⟩; (try first | exact ⟨rfl, _, World.drewN_drewN _ _ _⟩ | exact ⟨rfl, _, Eq.trans (World.drewN_drewN _ _ _) (congrArg (World.drewN _) (Nat.add_assoc _ _ _))⟩)) | (go_at_call 14; (with_reducible refine (spec_LineEnd.calls t104 true _ A6.out).mono ?_); rintro e w' ⟨rfl, ⟨nd, rfl⟩⟩; (try first | exact ⟨rfl, _, World.drewN_drewN _ _ _⟩ | exact ⟨rfl, _, Eq.trans (World.drewN_drewN _ _ _) (congrArg (World.drewN _) (Nat.add_assoc _ _ _))⟩)))
                repeat (go_quiet (first | (go_at_call 13; (with_reducible refine (spec_Rune.calls k1 a0 x8_1 t104 t105 _ A4.out).mono ?_); rintro e w' ⟨rfl, ⟨nd, rfl⟩⟩; (try first | exact ⟨rfl, _, World.drewN_drewN _ _ _⟩ | exact ⟨rfl, _, Eq.trans (World.drewN_drewN _ _ _) (congrArg (World.drewN _) (Nat.add_assoc _ _ _))⟩)) | (go_at_call 14; (with_reducible refine (spec_LineEnd.calls t104 true _ A6.out).mono ?_); rintro e w' ⟨rfl, ⟨nd, rfl⟩⟩; (try first | exact ⟨rfl, _, World.drewN_drewN _ _ _⟩ | exact ⟨rfl, _, Eq.trans (World.drewN_drewN _ _ _) (congrArg (World.drewN _) (Nat.add_assoc _ _ _))⟩))); try go_wp2_with (first | (go_at_call 13; (with_reducible refine (spec_Rune.calls k1 a0 x8_1 t104 t105 _ A4.out).mono ?_); rintro e w' ⟨rfl, ⟨nd, rfl⟩⟩; (try first | exact ⟨rfl, _, World.drewN_drewN _ _ _⟩ | exact ⟨rfl, _, Eq.trans (World.drewN_drewN _ _ _) (congrArg (World.drewN _) (Nat.add_assoc _ _ _))⟩)) | (go_at_call 14; (with_reducible refine (spec_LineEnd.calls t104 true _ A6.out).mono ?_); rintro e w' ⟨rfl, ⟨nd, rfl⟩⟩; (try first | exact ⟨rfl, _, World.drewN_drewN _ _ _⟩ | exact ⟨rfl, _, Eq.trans (World.drewN_drewN _ _ _) (congrArg (World.drewN _) (Nat.add_assoc _ _ _))⟩))))
                go_roundg k1
                case measure => have := HK1.out; omega
                case rel => exact ⟨(wrap64 (x4_1 + 1)), (wrap64 (x8_1 + t105)), (wrap64 (x8_1 + t105)), (by first | rfl | (simp; done) | (simp [*]; done)), (by first | rfl | (simp; done) | (simp [*]; done)), (by first | rfl | (simp; done) | (simp [*]; done)), H', ⟨by have := HK1.out; omega⟩, by repeat (first | exact Drawn0.refl _ | apply Drawn0.step)⟩
            · rw [if_neg c8] at H
              have c8b0 : (t104 == 13) = false := beq_eq_false_iff_ne.mpr c8
              have c8b1 : (t104 != 13) = true := bne_iff_ne.mpr c8
              have H' := Aside0.mk H
              clear H
              go_wp2_with (first | (go_at_call 13; (with_reducible refine (spec_Rune.calls k1 a0 x8_1 t104 t105 _ A4.out).mono ?_); rintro e w' ⟨rfl, ⟨nd, rfl⟩⟩; (try first | exact ⟨rfl, _, World.drewN_drewN _ _ _⟩ | exact ⟨rfl, _, Eq.trans (World.drewN_drewN _ _ _) (congrArg (World.drewN _) (Nat.add_assoc _ _ _))⟩)) | (go_at_call 14; (with_reducible refine (spec_LineEnd.calls t104 true _ A6.out).mono ?_); rintro e w' ⟨rfl, ⟨nd, rfl⟩⟩; (try first | exact ⟨rfl, _, World.drewN_drewN _ _ _⟩ | exact ⟨rfl, _, Eq.trans (World.drewN_drewN _ _ _) (congrArg (World.drewN _) (Nat.add_assoc _ _ _))⟩)))
              repeat (go_quiet (first | (go_at_call 13; (with_reducible refine (spec_Rune.calls k1 a0 x8_1 t104 t105 _ A4.out).mono ?_); rintro e w' ⟨rfl, ⟨nd, rfl⟩⟩; (try first | exact ⟨rfl, _, World.drewN_drewN _ _ _⟩ | exact ⟨rfl, _, Eq.trans (World.drewN_drewN _ _ _) (congrArg (World.drewN _) (Nat.add_assoc _ _ _))⟩)) | (go_at_call 14; (with_reducible refine (spec_LineEnd.calls t104 true _ A6.out).mono ?_); rintro e w' ⟨rfl, ⟨nd, rfl⟩⟩; (try first | exact ⟨rfl, _, World.drewN_drewN _ _ _⟩ | exact ⟨rfl, _, Eq.trans (World.drewN_drewN _ _ _) (congrArg (World.drewN _) (Nat.add_assoc _ _ _))⟩))); try go_wp2_with (first | (go_at_call 13; (with_reducible refine (spec_Rune.calls k1 a0 x8_1 t104 t105 _ A4.out).mono ?_); rintro e w' ⟨rfl, ⟨nd, rfl⟩⟩; (try first | exact ⟨rfl, _, World.drewN_drewN _ _ _⟩ | exact ⟨rfl, _, Eq.trans (World.drewN_drewN _ _ _) (congrArg (World.drewN _) (Nat.add_assoc _ _ _))⟩)) | (go_at_call 14; (with_reducible refine (spec_LineEnd.calls t104 true _ A6.out).mono ?_); rintro e w' ⟨rfl, ⟨nd, rfl⟩⟩; (try first | exact ⟨rfl, _, World.drewN_drewN _ _ _⟩ | exact ⟨rfl, _, Eq.trans (World.drewN_drewN _ _ _) (congrArg (World.drewN _) (Nat.add_assoc _ _ _))⟩))))
              go_roundg k1
              case measure => have := HK1.out; omega
              case rel => exact ⟨(wrap64 (x4_1 + 1)), (wrap64 (x8_1 + t105)), (wrap64 (x8_1 + t105)), (by first | rfl | (simp; done) | (simp [*]; done)), (by first | rfl | (simp; done) | (simp [*]; done)), (by first | rfl | (simp; done) | (simp [*]; done)), H', ⟨by have := HK1.out; omega⟩, by repeat (first | exact Drawn0.refl _ | apply Drawn0.step)⟩
          · replace c7 := Bool.eq_false_iff.mpr c7
            subst c7
            have H1 : (spec_LineOf.l0 k1 a0 a1 x4_1 x7_1 (wrap64 (x8_1 + t105))) = some (r1, r2, r3) := by rw [if_neg (show ¬ (false = true) by decide)] at H; exact H
            clear H
            have H := H1
            clear H1
            have H' := Aside0.mk H
            clear H
            go_wp2_with (first | (go_at_call 13; (with_reducible refine (spec_Rune.calls k1 a0 x8_1 t104 t105 _ A4.out).mono ?_); rintro e w' ⟨rfl, ⟨nd, rfl⟩⟩; (try first | exact ⟨rfl, _, World.drewN_drewN _ _ _⟩ | exact ⟨rfl, _, Eq.trans (World.drewN_drewN _ _ _) (congrArg (World.drewN _) (Nat.add_assoc _ _ _))⟩)) | (go_at_call 14; (with_reducible refine (spec_LineEnd.calls t104 false _ A6.out).mono ?_); rintro e w' ⟨rfl, ⟨nd, rfl⟩⟩; (try first | exact ⟨rfl, _, World.drewN_drewN _ _ _⟩ | exact ⟨rfl, _, Eq.trans (World.drewN_drewN _ _ _) (congrArg (World.drewN _) (Nat.add_assoc _ _ _))⟩)))
            repeat (go_quiet (first | (go_at_call 13; (with_reducible refine (spec_Rune.calls k1 a0 x8_1 t104 t105 _ A4.out).mono ?_); rintro e w' ⟨rfl, ⟨nd, rfl⟩⟩; (try first | exact ⟨rfl, _, World.drewN_drewN _ _ _⟩ | exact ⟨rfl, _, Eq.trans (World.drewN_drewN _ _ _) (congrArg (World.drewN _) (Nat.add_assoc _ _ _))⟩)) | (go_at_call 14; (with_reducible refine (spec_LineEnd.calls t104 false _ A6.out).mono ?_); rintro e w' ⟨rfl, ⟨nd, rfl⟩⟩; (try first | exact ⟨rfl, _, World.drewN_drewN _ _ _⟩ | exact ⟨rfl, _, Eq.trans (World.drewN_drewN _ _ _) (congrArg (World.drewN _) (Nat.add_assoc _ _ _))⟩))); try go_wp2_with (first | (go_at_call 13; (with_reducible refine (spec_Rune.calls k1 a0 x8_1 t104 t105 _ A4.out).mono ?_); rintro e w' ⟨rfl, ⟨nd, rfl⟩⟩; (try first | exact ⟨rfl, _, World.drewN_drewN _ _ _⟩ | exact ⟨rfl, _, Eq.trans (World.drewN_drewN _ _ _) (congrArg (World.drewN _) (Nat.add_assoc _ _ _))⟩)) | (go_at_call 14; (with_reducible refine (spec_LineEnd.calls t104 false _ A6.out).mono ?_); rintro e w' ⟨rfl, ⟨nd, rfl⟩⟩; (try first | exact ⟨rfl, _, World.drewN_drewN _ _ _⟩ | exact ⟨rfl, _, Eq.trans (World.drewN_drewN _ _ _) (congrArg (World.drewN _) (Nat.add_assoc _ _ _))⟩))))
            go_roundg k1
            case measure => have := HK1.out; omega
            case rel => exact ⟨(x4_1), (x7_1), (wrap64 (x8_1 + t105)), (by first | rfl | (simp; done) | (simp [*]; done)), (by first | rfl | (simp; done) | (simp [*]; done)), (by first | rfl | (simp; done) | (simp [*]; done)), H', ⟨by have := HK1.out; omega⟩, by repeat (first | exact Drawn0.refl _ | apply Drawn0.step)⟩
      · rw [if_neg c3] at H
        have c3b0 : decide (x8_1 < a1) = false := decide_eq_false c3
        clear c3
        have H' := Aside0.mk H
        clear H
        go_wp2
        repeat (go_quiet (fail); try go_wp2)
        go_loopg [11] k1 (fun kq v11 w' => ∃ (x11_2 : Int), v11 = .int .i64 x11_2 ∧ Aside0 (spec_LineOf.l1 kq a0 a1 x4_1 x7_1 x11_2 = some (r1, r2, r3)) ∧ Aside0 (kq ≤ k1) ∧ Drawn0 w w')
        case atStart => exact ⟨(x7_1), (by first | rfl | (simp; done) | (simp [*]; done)), H', ⟨Nat.le_refl _⟩, by repeat (first | exact Drawn0.refl _ | apply Drawn0.step)⟩
        case round =>
          clear H'
          try clear c1
          try clear p1
          try clear q1
          try clear hx1
          try clear p2
          try clear c3
          try clear c3b0
          try clear c5
          try clear c5b0
          try clear c5b1
          try clear p6
          try clear c7
          try clear c8
          try clear c8b0
          try clear c8b1
          try clear c9
          try clear c9b0
          try clear c11
          try clear c11b0
          try clear p12
          try clear q12
          try clear hx12
          try clear c13
          try clear c13b0
          try clear c13b1
          try clear p12
          try clear p2
          try clear q12
          obtain ⟨x11_2, rfl, HA, HK2, ⟨m2, rfl⟩⟩ := hrel
          cases gk with
          | zero => exact absurd HA.out (by simp [spec_LineOf.l1])
          | succ k2 =>
            have H := HA.out
            clear HA
            simp only [spec_LineOf.l1] at H
            by_cases c14 : x11_2 < (a0.size : Int)
            · rw [if_pos c14] at H
              have c14b0 : decide (x11_2 < (a0.size : Int)) = true := decide_eq_true c14
              clear c14
              replace H := Option.bind_eq_some_iff.mp H
              obtain ⟨⟨t107, t108⟩, A150, H⟩ := H
              replace H : (if t108 = 0 then (if 0 ≤ x7_1 then (if x7_1 ≤ x11_2 then (if x11_2 ≤ (a0.size : Int) then (some (x4_1, wrap64 (a1 - x7_1), a0.extract (x7_1 : Int).toNat (x11_2 : Int).toNat)) else (none)) else (none)) else (none)) else ((spec_LineEnd.f t107).bind fun t109 => (if t109 = true then (if 0 ≤ x7_1 then (if x7_1 ≤ x11_2 then (if x11_2 ≤ (a0.size : Int) then (some (x4_1, wrap64 (a1 - x7_1), a0.extract (x7_1 : Int).toNat (x11_2 : Int).toNat)) else (none)) else (none)) else (none)) else (spec_LineOf.l1 k2 a0 a1 x4_1 x7_1 (wrap64 (x11_2 + t108)))))) = some (r1, r2, r3) := H
              have A15 := Aside0.mk A150
              clear A150
              by_cases c16 : t108 = 0
              · rw [if_pos c16] at H
                have c16b0 : (t108 == 0) = true := beq_iff_eq.mpr c16
                have c16b1 : (t108 != 0) = false := bne_eq_false_iff_eq.mpr c16
                clear c16
                by_cases c17 : 0 ≤ x7_1
                · rw [if_pos c17] at H
                  have c17b0 := eq_true c17
                  have c17b1 : decide (0 ≤ x7_1) = true := decide_eq_true c17
                  clear c17
                  by_cases c18 : x7_1 ≤ x11_2
                  · rw [if_pos c18] at H
                    have c18b0 := eq_true c18
                    have c18b1 : decide (x7_1 ≤ x11_2) = true := decide_eq_true c18
                    clear c18
                    by_cases c19 : x11_2 ≤ (a0.size : Int)
                    · rw [if_pos c19] at H
                      have c19b0 := eq_true c19
                      have c19b1 : decide (x11_2 ≤ (a0.size : Int)) = true := decide_eq_true c19
                      clear c19
                      simp only [Option.some.injEq, Prod.mk.injEq] at H
                      obtain ⟨rfl, rfl, rfl⟩ := H
                      go_wp2_with (first | (go_at_call 13; (with_reducible refine (spec_Rune.calls k2 a0 x11_2 t107 t108 _ A15.out).mono ?_); rintro e w' ⟨rfl, ⟨nd, rfl⟩⟩; (try first | exact ⟨rfl, _, World.drewN_drewN _ _ _⟩ | exact ⟨rfl, _, Eq.trans (World.drewN_drewN _ _ _) (congrArg (World.drewN _) (Nat.add_assoc _ _ _))⟩)))
                      repeat (go_quiet (first | (go_at_call 13; (with_reducible refine (spec_Rune.calls k2 a0 x11_2 t107 t108 _ A15.out).mono ?_); rintro e w' ⟨rfl, ⟨nd, rfl⟩⟩; (try first | exact ⟨rfl, _, World.drewN_drewN _ _ _⟩ | exact ⟨rfl, _, Eq.trans (World.drewN_drewN _ _ _) (congrArg (World.drewN _) (Nat.add_assoc _ _ _))⟩))); try go_wp2_with (first | (go_at_call 13; (with_reducible refine (spec_Rune.calls k2 a0 x11_2 t107 t108 _ A15.out).mono ?_); rintro e w' ⟨rfl, ⟨nd, rfl⟩⟩; (try first | exact ⟨rfl, _, World.drewN_drewN _ _ _⟩ | exact ⟨rfl, _, Eq.trans (World.drewN_drewN _ _ _) (congrArg (World.drewN _) (Nat.add_assoc _ _ _))⟩))))
                      go_ret3
                      exact ⟨by first | rfl | (simp; done) | (simp [*]; done), by repeat (first | exact Drawn0.refl _ | apply Drawn0.step)⟩
                    · rw [if_neg c19] at H
                      exact absurd H (by simp)
                  · rw [if_neg c18] at H
                    exact absurd H (by simp)
                · rw [if_neg c17] at H
                  exact absurd H (by simp)
              · rw [if_neg c16] at H
                have c16b0 : (t108 == 0) = false := beq_eq_false_iff_ne.mpr c16
                have c16b1 : (t108 != 0) = true := bne_iff_ne.mpr c16
                replace H := Option.bind_eq_some_iff.mp H
                obtain ⟨t109, A200, H⟩ := H
                replace H : (if t109 = true then (if 0 ≤ x7_1 then (if x7_1 ≤ x11_2 then (if x11_2 ≤ (a0.size : Int) then (some (x4_1, wrap64 (a1 - x7_1), a0.extract (x7_1 : Int).toNat (x11_2 : Int).toNat)) else (none)) else (none)) else (none)) else (spec_LineOf.l1 k2 a0 a1 x4_1 x7_1 (wrap64 (x11_2 + t108)))) = some (r1, r2, r3) := H
                have A20 := Aside0.mk A200
                clear A200
                by_cases c21 : t109 = true
                · subst c21
                  have H1 : (if 0 ≤ x7_1 then (if x7_1 ≤ x11_2 then (if x11_2 ≤ (a0.size : Int) then (some (x4_1, wrap64 (a1 - x7_1), a0.extract (x7_1 : Int).toNat (x11_2 : Int).toNat)) else (none)) else (none)) else (none)) = some (r1, r2, r3) := by rw [if_pos rfl] at H; exact H
                  clear H
                  have H := H1
                  clear H1
                  by_cases c22 : 0 ≤ x7_1
                  · rw [if_pos c22] at H
                    have c22b0 := eq_true c22
                    have c22b1 : decide (0 ≤ x7_1) = true := decide_eq_true c22
                    clear c22
                    by_cases c23 : x7_1 ≤ x11_2
                    · rw [if_pos c23] at H
                      have c23b0 := eq_true c23
                      have c23b1 : decide (x7_1 ≤ x11_2) = true := decide_eq_true c23
                      clear c23
                      by_cases c24 : x11_2 ≤ (a0.size : Int)
                      · rw [if_pos c24] at H
                        have c24b0 := eq_true c24
                        have c24b1 : decide (x11_2 ≤ (a0.size : Int)) = true := decide_eq_true c24
                        clear c24
                        simp only [Option.some.injEq, Prod.mk.injEq] at H
                        obtain ⟨rfl, rfl, rfl⟩ := H
                        go_wp2_with (first | (go_at_call 13; (with_reducible refine (spec_Rune.calls k2 a0 x11_2 t107 t108 _ A15.out).mono ?_); rintro e w' ⟨rfl, ⟨nd, rfl⟩⟩; (try first | exact ⟨rfl, _, World.drewN_drewN _ _ _⟩ | exact ⟨rfl, _, Eq.trans (World.drewN_drewN _ _ _) (congrArg (World.drewN _) (Nat.add_assoc _ _ _))⟩)) | (go_at_call 14; (with_reducible refine (spec_LineEnd.calls t107 true _ A20.out).mono ?_); rintro e w' ⟨rfl, ⟨nd, rfl⟩⟩; (try first | exact ⟨rfl, _, World.drewN_drewN _ _ _⟩ | exact ⟨rfl, _, Eq.trans (World.drewN_drewN _ _ _) (congrArg (World.drewN _) (Nat.add_assoc _ _ _))⟩)))
                        repeat (go_quiet (first | (go_at_call 13; (with_reducible refine (spec_Rune.calls k2 a0 x11_2 t107 t108 _ A15.out).mono ?_); rintro e w' ⟨rfl, ⟨nd, rfl⟩⟩; (try first | exact ⟨rfl, _, World.drewN_drewN _ _ _⟩ | exact ⟨rfl, _, Eq.trans (World.drewN_drewN _ _ _) (congrArg (World.drewN _) (Nat.add_assoc _ _ _))⟩)) | (go_at_call 14; (with_reducible refine (spec_LineEnd.calls t107 true _ A20.out).mono ?_); rintro e w' ⟨rfl, ⟨nd, rfl⟩⟩; (try first | exact ⟨rfl, _, World.drewN_drewN _ _ _⟩ | exact ⟨rfl, _, Eq.trans (World.drewN_drewN _ _ _) (congrArg (World.drewN _) (Nat.add_assoc _ _ _))⟩))); try go_wp2_with (first | (go_at_call 13; (with_reducible refine (spec_Rune.calls k2 a0 x11_2 t107 t108 _ A15.out).mono ?_); rintro e w' ⟨rfl, ⟨nd, rfl⟩⟩; (try first | exact ⟨rfl, _, World.drewN_drewN _ _ _⟩ | exact ⟨rfl, _, Eq.trans (World.drewN_drewN _ _ _) (congrArg (World.drewN _) (Nat.add_assoc _ _ _))⟩)) | (go_at_call 14; (with_reducible refine (spec_LineEnd.calls t107 true _ A20.out).mono ?_); rintro e w' ⟨rfl, ⟨nd, rfl⟩⟩; (try first | exact ⟨rfl, _, World.drewN_drewN _ _ _⟩ | exact ⟨rfl, _, Eq.trans (World.drewN_drewN _ _ _) (congrArg (World.drewN _) (Nat.add_assoc _ _ _))⟩))))
                        go_ret3
                        exact ⟨by first | rfl | (simp; done) | (simp [*]; done), by repeat (first | exact Drawn0.refl _ | apply Drawn0.step)⟩
                      · rw [if_neg c24] at H
                        exact absurd H (by simp)
                    · rw [if_neg c23] at H
                      exact absurd H (by simp)
                  · rw [if_neg c22] at H
                    exact absurd H (by simp)
                · replace c21 := Bool.eq_false_iff.mpr c21
                  subst c21
                  have H1 : (spec_LineOf.l1 k2 a0 a1 x4_1 x7_1 (wrap64 (x11_2 + t108))) = some (r1, r2, r3) := by rw [if_neg (show ¬ (false = true) by decide)] at H; exact H
                  clear H
                  have H := H1
                  clear H1
                  have H' := Aside0.mk H
                  clear H
                  go_wp2_with (first | (go_at_call 13; (with_reducible refine (spec_Rune.calls k2 a0 x11_2 t107 t108 _ A15.out).mono ?_); rintro e w' ⟨rfl, ⟨nd, rfl⟩⟩; (try first | exact ⟨rfl, _, World.drewN_drewN _ _ _⟩ | exact ⟨rfl, _, Eq.trans (World.drewN_drewN _ _ _) (congrArg (World.drewN _) (Nat.add_assoc _ _ _))⟩)) | (go_at_call 14; (with_reducible refine (spec_LineEnd.calls t107 false _ A20.out).mono ?_); rintro e w' ⟨rfl, ⟨nd, rfl⟩⟩; (try first | exact ⟨rfl, _, World.drewN_drewN _ _ _⟩ | exact ⟨rfl, _, Eq.trans (World.drewN_drewN _ _ _) (congrArg (World.drewN _) (Nat.add_assoc _ _ _))⟩)))
                  repeat (go_quiet (first | (go_at_call 13; (with_reducible refine (spec_Rune.calls k2 a0 x11_2 t107 t108 _ A15.out).mono ?_); rintro e w' ⟨rfl, ⟨nd, rfl⟩⟩; (try first | exact ⟨rfl, _, World.drewN_drewN _ _ _⟩ | exact ⟨rfl, _, Eq.trans (World.drewN_drewN _ _ _) (congrArg (World.drewN _) (Nat.add_assoc _ _ _))⟩)) | (go_at_call 14; (with_reducible refine (spec_LineEnd.calls t107 false _ A20.out).mono ?_); rintro e w' ⟨rfl, ⟨nd, rfl⟩⟩; (try first | exact ⟨rfl, _, World.drewN_drewN _ _ _⟩ | exact ⟨rfl, _, Eq.trans (World.drewN_drewN _ _ _) (congrArg (World.drewN _) (Nat.add_assoc _ _ _))⟩))); try go_wp2_with (first | (go_at_call 13; (with_reducible refine (spec_Rune.calls k2 a0 x11_2 t107 t108 _ A15.out).mono ?_); rintro e w' ⟨rfl, ⟨nd, rfl⟩⟩; (try first | exact ⟨rfl, _, World.drewN_drewN _ _ _⟩ | exact ⟨rfl, _, Eq.trans (World.drewN_drewN _ _ _) (congrArg (World.drewN _) (Nat.add_assoc _ _ _))⟩)) | (go_at_call 14; (with_reducible refine (spec_LineEnd.calls t107 false _ A20.out).mono ?_); rintro e w' ⟨rfl, ⟨nd, rfl⟩⟩; (try first | exact ⟨rfl, _, World.drewN_drewN _ _ _⟩ | exact ⟨rfl, _, Eq.trans (World.drewN_drewN _ _ _) (congrArg (World.drewN _) (Nat.add_assoc _ _ _))⟩))))
                  go_roundg k2
                  case measure => have := HK1.out; have := HK2.out; omega
                  case rel => exact ⟨(wrap64 (x11_2 + t108)), (by first | rfl | (simp; done) | (simp [*]; done)), H', ⟨by have := HK1.out; have := HK2.out; omega⟩, by repeat (first | exact Drawn0.refl _ | apply Drawn0.step)⟩
            · rw [if_neg c14] at H
              have c14b0 : decide (x11_2 < (a0.size : Int)) = false := decide_eq_false c14
              clear c14
              by_cases c25 : 0 ≤ x7_1
              · rw [if_pos c25] at H
                have c25b0 := eq_true c25
                have c25b1 : decide (0 ≤ x7_1) = true := decide_eq_true c25
                clear c25
                by_cases c26 : x7_1 ≤ x11_2
                · rw [if_pos c26] at H
                  have c26b0 := eq_true c26
                  have c26b1 : decide (x7_1 ≤ x11_2) = true := decide_eq_true c26
                  clear c26
                  by_cases c27 : x11_2 ≤ (a0.size : Int)
                  · rw [if_pos c27] at H
                    have c27b0 := eq_true c27
                    have c27b1 : decide (x11_2 ≤ (a0.size : Int)) = true := decide_eq_true c27
                    clear c27
                    simp only [Option.some.injEq, Prod.mk.injEq] at H
                    obtain ⟨rfl, rfl, rfl⟩ := H
                    go_wp2
                    repeat (go_quiet (fail); try go_wp2)
                    go_ret3
                    exact ⟨by first | rfl | (simp; done) | (simp [*]; done), by repeat (first | exact Drawn0.refl _ | apply Drawn0.step)⟩
                  · rw [if_neg c27] at H
                    exact absurd H (by simp)
                · rw [if_neg c26] at H
                  exact absurd H (by simp)
              · rw [if_neg c25] at H
                exact absurd H (by simp)

-- NOT PRINTED: function 3 (laws_FnLocated)

end Go.Proofs.YtckgmnpcnoanhaaDoor.PFnLocated
