-- Written by printx.py of this session, over the kit's print, with contracts of this session for some functions
import Derived.Test.YtmgepjnaalnckaaPFnQuoteSinglex0
import Derived.Test.YtmgepjnaalnckaaPFnQuoteSinglex1
import Derived.Test.YtmgepjnaalnckaaExtQuote
import Derived.Test.YtmgepjnaalnckaaExtNext
import Derived.Test.YtmgepjnaalnckaaExtRune
namespace Go.Proofs.Ytmgepjnaalnckaa.PFnQuoteSingle
noncomputable section
open Go.RowKit Go.Proofs.YtmgepjnaalnckaaW.PrintWords Go.Proofs.YtmgepjnaalnckaaW.PrintLast Go.Proofs.YtmgepjnaalnckaaW.PrintMore
attribute [local go_sem] max2_int min2_int max_two min_two max_three min_three max_four min_four   -- for this text's walks alone
set_option linter.unusedVariables false
set_option linter.unusedSimpArgs false

/-! ### spec_TextFinds: function 8 -/
mutual
def spec_TextFinds.l0 : Nat → ByteArray → ByteArray → Int → Option (Int)
  | 0, _, _, _ => none
  | k + 1, x0, x1, x5 => if (wrap64 (x5 + (x1.size : Int))) ≤ (x0.size : Int) then (spec_TextFinds.l1 k x0 x1 x5 true 0) else (some (-1))
def spec_TextFinds.l1 : Nat → ByteArray → ByteArray → Int → Bool → Int → Option (Int)
  | 0, _, _, _, _, _ => none
  | k + 1, x0, x1, x5, x6, x7 => if x7 < (x1.size : Int) then (spec_TextFinds.j2 k x0 x1 x5 x6 x7 x6) else (spec_TextFinds.j2 k x0 x1 x5 x6 x7 false)
def spec_TextFinds.j2 : Nat → ByteArray → ByteArray → Int → Bool → Int → Bool → Option (Int)
  | 0, _, _, _, _, _, _ => none
  | k + 1, x0, x1, x5, x6, x7, x23 => if x23 = true then (if 0 ≤ (wrap64 (x5 + x7)) then (if (wrap64 (x5 + x7)) < (x0.size : Int) then ((spec_textLower.f (bt x0 (wrap64 (x5 + x7)))).bind fun t126 => (if 0 ≤ x7 then (if x7 < (x1.size : Int) then ((spec_textLower.f (bt x1 x7)).bind fun t127 => (spec_TextFinds.l1 k x0 x1 x5 (t126 == t127) (wrap64 (x7 + 1)))) else (none)) else (none))) else (none)) else (none)) else (if x6 = true then (some x5) else (spec_TextFinds.l0 k x0 x1 (wrap64 (x5 + 1))))
end
def spec_TextFinds.f (k : Nat) (a0 : ByteArray) (a1 : ByteArray) : Option (Int) := spec_TextFinds.l0 k a0 a1 0
theorem spec_TextFinds.mono_l : ∀ k, (∀ y0 y1 y2, LeO (spec_TextFinds.l0 k y0 y1 y2) (spec_TextFinds.l0 (k + 1) y0 y1 y2)) ∧ (∀ y0 y1 y2 y3 y4, LeO (spec_TextFinds.l1 k y0 y1 y2 y3 y4) (spec_TextFinds.l1 (k + 1) y0 y1 y2 y3 y4)) ∧ (∀ y0 y1 y2 y3 y4 y5, LeO (spec_TextFinds.j2 k y0 y1 y2 y3 y4 y5) (spec_TextFinds.j2 (k + 1) y0 y1 y2 y3 y4 y5))
  | 0 => ⟨fun _ _ _ r h => by simp [spec_TextFinds.l0] at h, fun _ _ _ _ _ r h => by simp [spec_TextFinds.l1] at h, fun _ _ _ _ _ _ r h => by simp [spec_TextFinds.j2] at h⟩
  | k + 1 => by
    obtain ⟨ih0, ih1, ih2⟩ := spec_TextFinds.mono_l k
    refine ⟨?_, ?_, ?_⟩
    · intro y0 y1 y2
      unfold spec_TextFinds.l0
      repeat' first
      | (with_reducible exact ih0 _ _ _)
      | (with_reducible exact ih1 _ _ _ _ _)
      | (with_reducible exact ih2 _ _ _ _ _ _)
      | (with_reducible exact LeO.refl _)
      | (with_reducible exact LeO.none _)
      | (with_reducible refine LeO.ite ?_ ?_)
      | (with_reducible refine LeO.bind ?_ (fun _ => ?_))
      | exact ih0 _ _ _
      | exact ih1 _ _ _ _ _
      | exact ih2 _ _ _ _ _ _
      | exact LeO.none _
      | refine LeO.ite ?_ ?_
      | refine LeO.bind ?_ (fun _ => ?_)
    · intro y0 y1 y2 y3 y4
      unfold spec_TextFinds.l1
      repeat' first
      | (with_reducible exact ih0 _ _ _)
      | (with_reducible exact ih1 _ _ _ _ _)
      | (with_reducible exact ih2 _ _ _ _ _ _)
      | (with_reducible exact LeO.refl _)
      | (with_reducible exact LeO.none _)
      | (with_reducible refine LeO.ite ?_ ?_)
      | (with_reducible refine LeO.bind ?_ (fun _ => ?_))
      | exact ih0 _ _ _
      | exact ih1 _ _ _ _ _
      | exact ih2 _ _ _ _ _ _
      | exact LeO.none _
      | refine LeO.ite ?_ ?_
      | refine LeO.bind ?_ (fun _ => ?_)
    · intro y0 y1 y2 y3 y4 y5
      unfold spec_TextFinds.j2
      repeat' first
      | (with_reducible exact ih0 _ _ _)
      | (with_reducible exact ih1 _ _ _ _ _)
      | (with_reducible exact ih2 _ _ _ _ _ _)
      | (with_reducible exact LeO.refl _)
      | (with_reducible exact LeO.none _)
      | (with_reducible refine LeO.ite ?_ ?_)
      | (with_reducible refine LeO.bind ?_ (fun _ => ?_))
      | exact ih0 _ _ _
      | exact ih1 _ _ _ _ _
      | exact ih2 _ _ _ _ _ _
      | exact LeO.none _
      | refine LeO.ite ?_ ?_
      | refine LeO.bind ?_ (fun _ => ?_)
theorem spec_TextFinds.mono : ∀ a0 a1 k, LeO (spec_TextFinds.f k a0 a1) (spec_TextFinds.f (k + 1) a0 a1) := by
  intro a0 a1 k
  obtain ⟨ih0, ih1, ih2⟩ := spec_TextFinds.mono_l k
  unfold spec_TextFinds.f
  repeat' first
      | (with_reducible exact ih0 _ _ _)
      | (with_reducible exact ih1 _ _ _ _ _)
      | (with_reducible exact ih2 _ _ _ _ _ _)
      | (with_reducible exact LeO.refl _)
      | (with_reducible exact LeO.none _)
      | (with_reducible refine LeO.ite ?_ ?_)
      | (with_reducible refine LeO.bind ?_ (fun _ => ?_))
      | exact ih0 _ _ _
      | exact ih1 _ _ _ _ _
      | exact ih2 _ _ _ _ _ _
      | exact LeO.none _
      | refine LeO.ite ?_ ?_
      | refine LeO.bind ?_ (fun _ => ?_)
set_option maxHeartbeats 8000000 in
set_option maxRecDepth 100000 in
theorem spec_TextFinds.calls (k : Nat) (a0 : ByteArray) (a1 : ByteArray) (r : Int) (w : World) (h : spec_TextFinds.f k a0 a1 = some r) :
    Calls Try.prog 8 #[.string a0, .string a1] w fun e w' => e = .returned (.int .i64 r) ∧ Drawn0 w w' := by
  have H : (spec_TextFinds.l0 k a0 a1 0) = some r := h
  clear h
  have H' := Aside0.mk H
  clear H
  go_enter Try.func8, Try.ntmps8
  go_wp2
  repeat (go_quiet (fail); try go_wp2)
  go_loopg [5] k (fun kq v5 w' => ∃ (x5_1 : Int), v5 = .int .i64 x5_1 ∧ Aside0 (spec_TextFinds.l0 kq a0 a1 x5_1 = some r) ∧ Aside0 (kq ≤ k) ∧ Drawn0 w w')
  case atStart => exact ⟨(0), (by first | rfl | (simp; done) | (simp [*]; done)), H', ⟨Nat.le_refl _⟩, by repeat (first | exact Drawn0.refl _ | apply Drawn0.step)⟩
  case round =>
    clear H'
    try clear p2
    obtain ⟨x5_1, rfl, HA, HK1, ⟨m1, rfl⟩⟩ := hrel
    cases gk with
    | zero => exact absurd HA.out (by simp [spec_TextFinds.l0])
    | succ k1 =>
      have H := HA.out
      clear HA
      simp only [spec_TextFinds.l0] at H
      by_cases c3 : (wrap64 (x5_1 + (a1.size : Int))) ≤ (a0.size : Int)
      · rw [if_pos c3] at H
        have c3b0 : decide ((wrap64 (x5_1 + (a1.size : Int))) ≤ (a0.size : Int)) = true := decide_eq_true c3
        clear c3
        have H' := Aside0.mk H
        clear H
        go_wp2
        repeat (go_quiet (fail); try go_wp2)
        go_loopg [6, 7] k1 (fun kq v6 v7 w' => ∃ (x6_2 : Bool) (x7_2 : Int), v6 = .bool x6_2 ∧ v7 = .int .i64 x7_2 ∧ Aside0 (spec_TextFinds.l1 kq a0 a1 x5_1 x6_2 x7_2 = some r) ∧ Aside0 (kq ≤ k1) ∧ Drawn0 w w')
        case atStart => exact ⟨(true), (0), (by first | rfl | (simp; done) | (simp [*]; done)), (by first | rfl | (simp; done) | (simp [*]; done)), H', ⟨Nat.le_refl _⟩, by repeat (first | exact Drawn0.refl _ | apply Drawn0.step)⟩
        case round =>
          clear H'
          try clear p2
          try clear c3
          try clear c3b0
          try clear p2
          obtain ⟨x6_2, x7_2, rfl, rfl, HA, HK2, ⟨m2, rfl⟩⟩ := hrel
          cases gk with
          | zero => exact absurd HA.out (by simp [spec_TextFinds.l1])
          | succ k2 =>
            have H := HA.out
            clear HA
            simp only [spec_TextFinds.l1] at H
            have HC4 := Aside0.mk H
            clear H
            go_upto_region 6 with (fail)
            repeat (go_quiet (fail); go_upto_region 6 with (fail))
            go_cut [23] (fun v23 wc => ∃ (kq : Nat) (x23_3 : Bool), v23 = .bool x23_3 ∧ Aside0 (spec_TextFinds.j2 kq a0 a1 x5_1 x6_2 x7_2 x23_3 = some r) ∧ Aside0 (kq ≤ k2) ∧ Drawn0 w wc)
            case first =>
              have H := HC4.out
              clear HC4
              by_cases c5 : x7_2 < (a1.size : Int)
              · rw [if_pos c5] at H
                have c5b0 : decide (x7_2 < (a1.size : Int)) = true := decide_eq_true c5
                clear c5
                (first | rw [c5b0] | (simp only [i64_w, i32_w]; rw [c5b0]) | skip)
                have H' := Aside0.mk H
                clear H
                go_wp2
                repeat (go_quiet (fail); try go_wp2)
                go_meet
                case rel => exact ⟨_, (x6_2), (by first | rfl | (simp; done) | (simp [*]; done)), H', ⟨by have := HK1.out; have := HK2.out; first | omega | exact Nat.le_refl _⟩, by repeat (first | exact Drawn0.refl _ | apply Drawn0.step)⟩
              · rw [if_neg c5] at H
                have c5b0 : decide (x7_2 < (a1.size : Int)) = false := decide_eq_false c5
                clear c5
                (first | rw [c5b0] | (simp only [i64_w, i32_w]; rw [c5b0]) | skip)
                have H' := Aside0.mk H
                clear H
                go_wp2
                repeat (go_quiet (fail); try go_wp2)
                go_meet
                case rel => exact ⟨_, (false), (by first | rfl | (simp; done) | (simp [*]; done)), H', ⟨by have := HK1.out; have := HK2.out; first | omega | exact Nat.le_refl _⟩, by repeat (first | exact Drawn0.refl _ | apply Drawn0.step)⟩
            case rest =>
              clear HC4
              try clear p2
              try clear c3
              try clear c3b0
              try clear c5
              try clear c5b0
              try clear p2
              obtain ⟨kq, x23_3, rfl, HA, HJ3, ⟨mc3, rfl⟩⟩ := hcut
              cases kq with
              | zero => exact absurd HA.out (by simp [spec_TextFinds.j2])
              | succ kj3 =>
                have H := HA.out
                clear HA
                simp only [spec_TextFinds.j2] at H
                by_cases c6 : x23_3 = true
                · subst c6
                  have H1 : (if 0 ≤ (wrap64 (x5_1 + x7_2)) then (if (wrap64 (x5_1 + x7_2)) < (a0.size : Int) then ((spec_textLower.f (bt a0 (wrap64 (x5_1 + x7_2)))).bind fun t126 => (if 0 ≤ x7_2 then (if x7_2 < (a1.size : Int) then ((spec_textLower.f (bt a1 x7_2)).bind fun t127 => (spec_TextFinds.l1 kj3 a0 a1 x5_1 (t126 == t127) (wrap64 (x7_2 + 1)))) else (none)) else (none))) else (none)) else (none)) = some r := by rw [if_pos rfl] at H; exact H
                  clear H
                  have H := H1
                  clear H1
                  obtain ⟨ji7, hji7⟩ : ∃ j_ : Int, (wrap64 (x5_1 + x7_2)) = j_ := ⟨_, rfl⟩
                  replace H : (if 0 ≤ (ji7) then (if (ji7) < (a0.size : Int) then ((spec_textLower.f (bt a0 (ji7))).bind fun t126 => (if 0 ≤ x7_2 then (if x7_2 < (a1.size : Int) then ((spec_textLower.f (bt a1 x7_2)).bind fun t127 => (spec_TextFinds.l1 kj3 a0 a1 x5_1 (t126 == t127) (wrap64 (x7_2 + 1)))) else (none)) else (none))) else (none)) else (none)) = some r := by first | (rw [hji7] at H; exact H) | (simp only [hji7] at H ⊢; exact H)
                  have hji7w : (IntKind.i64.wrap (x5_1 + x7_2)) = ji7 := (i64_w _).trans hji7
                  by_cases c8 : 0 ≤ (ji7)
                  · rw [if_pos c8] at H
                    have c8b0 : decide (0 ≤ (ji7)) = true := decide_eq_true c8
                    clear c8
                    by_cases c9 : (ji7) < (a0.size : Int)
                    · rw [if_pos c9] at H
                      have c9b0 : decide ((ji7) < (a0.size : Int)) = true := decide_eq_true c9
                      clear c9
                      replace H := Option.bind_eq_some_iff.mp H
                      obtain ⟨t126, A110, H⟩ := H
                      replace H : (if 0 ≤ x7_2 then (if x7_2 < (a1.size : Int) then ((spec_textLower.f (bt a1 x7_2)).bind fun t127 => (spec_TextFinds.l1 kj3 a0 a1 x5_1 (t126 == t127) (wrap64 (x7_2 + 1)))) else (none)) else (none)) = some r := H
                      have A11 := Aside0.mk A110
                      clear A110
                      by_cases c12 : 0 ≤ x7_2
                      · rw [if_pos c12] at H
                        have c12b0 : decide (0 ≤ x7_2) = true := decide_eq_true c12
                        clear c12
                        by_cases c13 : x7_2 < (a1.size : Int)
                        · rw [if_pos c13] at H
                          have c13b0 : decide (x7_2 < (a1.size : Int)) = true := decide_eq_true c13
                          clear c13
                          replace H := Option.bind_eq_some_iff.mp H
                          obtain ⟨t127, A150, H⟩ := H
                          replace H : (spec_TextFinds.l1 kj3 a0 a1 x5_1 (t126 == t127) (wrap64 (x7_2 + 1))) = some r := H
                          have A15 := Aside0.mk A150
                          clear A150
                          have H' := Aside0.mk H
                          clear H
                          have p10 : 0 ≤ ((ji7) : Int) := of_decide_eq_true (by first | (with_reducible assumption) | assumption)
                          have q10 : (ji7) < (a0.size : Int) := of_decide_eq_true (by first | (with_reducible assumption) | assumption)
                          have hx10 := bt_at a0 (ji7)
                          replace p10 := eq_true p10
                          replace q10 := eq_true q10
                          go_wp2_with (first | (go_at_call 19; (with_reducible refine (spec_textLower.calls (bt a0 (ji7)) t126 _ A11.out).mono ?_); rintro e w' ⟨rfl, ⟨nd, rfl⟩⟩; (try first | exact ⟨rfl, _, World.drewN_drewN _ _ _⟩ | exact ⟨rfl, _, Eq.trans (World.drewN_drewN _ _ _) (congrArg (World.drewN _) (Nat.add_assoc _ _ _))⟩); have p14 : 0 ≤ (x7_2 : Int) := of_decide_eq_true (by first | (with_reducible assumption) | assumption); have q14 : x7_2 < (a1.size : Int) := of_decide_eq_true (by first | (with_reducible assumption) | assumption); have hx14 := bt_at a1 x7_2; replace p14 := eq_true p14; replace q14 := eq_true q14) | (go_at_call 19; (with_reducible refine (spec_textLower.calls (bt a1 x7_2) t127 _ A15.out).mono ?_); rintro e w' ⟨rfl, ⟨nd, rfl⟩⟩; (try first | exact ⟨rfl, _, World.drewN_drewN _ _ _⟩ | exact ⟨rfl, _, Eq.trans (World.drewN_drewN _ _ _) (congrArg (World.drewN _) (Nat.add_assoc _ _ _))⟩)))
                          repeat (go_quiet (first | (go_at_call 19; (with_reducible refine (spec_textLower.calls (bt a0 (ji7)) t126 _ A11.out).mono ?_); rintro e w' ⟨rfl, ⟨nd, rfl⟩⟩; (try first | exact ⟨rfl, _, World.drewN_drewN _ _ _⟩ | exact ⟨rfl, _, Eq.trans (World.drewN_drewN _ _ _) (congrArg (World.drewN _) (Nat.add_assoc _ _ _))⟩); have p14 : 0 ≤ (x7_2 : Int) := of_decide_eq_true (by first | (with_reducible assumption) | assumption); have q14 : x7_2 < (a1.size : Int) := of_decide_eq_true (by first | (with_reducible assumption) | assumption); have hx14 := bt_at a1 x7_2; replace p14 := eq_true p14; replace q14 := eq_true q14) | (go_at_call 19; (with_reducible refine (spec_textLower.calls (bt a1 x7_2) t127 _ A15.out).mono ?_); rintro e w' ⟨rfl, ⟨nd, rfl⟩⟩; (try first | exact ⟨rfl, _, World.drewN_drewN _ _ _⟩ | exact ⟨rfl, _, Eq.trans (World.drewN_drewN _ _ _) (congrArg (World.drewN _) (Nat.add_assoc _ _ _))⟩))); try go_wp2_with (first | (go_at_call 19; (with_reducible refine (spec_textLower.calls (bt a0 (ji7)) t126 _ A11.out).mono ?_); rintro e w' ⟨rfl, ⟨nd, rfl⟩⟩; (try first | exact ⟨rfl, _, World.drewN_drewN _ _ _⟩ | exact ⟨rfl, _, Eq.trans (World.drewN_drewN _ _ _) (congrArg (World.drewN _) (Nat.add_assoc _ _ _))⟩); have p14 : 0 ≤ (x7_2 : Int) := of_decide_eq_true (by first | (with_reducible assumption) | assumption); have q14 : x7_2 < (a1.size : Int) := of_decide_eq_true (by first | (with_reducible assumption) | assumption); have hx14 := bt_at a1 x7_2; replace p14 := eq_true p14; replace q14 := eq_true q14) | (go_at_call 19; (with_reducible refine (spec_textLower.calls (bt a1 x7_2) t127 _ A15.out).mono ?_); rintro e w' ⟨rfl, ⟨nd, rfl⟩⟩; (try first | exact ⟨rfl, _, World.drewN_drewN _ _ _⟩ | exact ⟨rfl, _, Eq.trans (World.drewN_drewN _ _ _) (congrArg (World.drewN _) (Nat.add_assoc _ _ _))⟩))))
                          go_roundg kj3
                          case measure => have := HK1.out; have := HK2.out; have := HJ3.out; omega
                          case rel => exact ⟨((t126 == t127)), (wrap64 (x7_2 + 1)), (by first | rfl | (simp; done) | (simp [*]; done)), (by first | rfl | (simp; done) | (simp [*]; done)), H', ⟨by have := HK1.out; have := HK2.out; have := HJ3.out; omega⟩, by repeat (first | exact Drawn0.refl _ | apply Drawn0.step)⟩
                        · rw [if_neg c13] at H
                          exact absurd H (by simp)
                      · rw [if_neg c12] at H
                        exact absurd H (by simp)
                    · rw [if_neg c9] at H
                      exact absurd H (by simp)
                  · rw [if_neg c8] at H
                    exact absurd H (by simp)
                · replace c6 := Bool.eq_false_iff.mpr c6
                  subst c6
                  have H1 : (if x6_2 = true then (some x5_1) else (spec_TextFinds.l0 kj3 a0 a1 (wrap64 (x5_1 + 1)))) = some r := by rw [if_neg (show ¬ (false = true) by decide)] at H; exact H
                  clear H
                  have H := H1
                  clear H1
                  by_cases c16 : x6_2 = true
                  · subst c16
                    have H1 : (some x5_1) = some r := by rw [if_pos rfl] at H; exact H
                    clear H
                    have H := H1
                    clear H1
                    obtain rfl := Option.some.inj H
                    go_wp2
                    repeat (go_quiet (fail); try go_wp2)
                    go_ret
                    exact ⟨by first | rfl | (simp; done) | (simp [*]; done), by repeat (first | exact Drawn0.refl _ | apply Drawn0.step)⟩
                  · replace c16 := Bool.eq_false_iff.mpr c16
                    subst c16
                    have H1 : (spec_TextFinds.l0 kj3 a0 a1 (wrap64 (x5_1 + 1))) = some r := by rw [if_neg (show ¬ (false = true) by decide)] at H; exact H
                    clear H
                    have H := H1
                    clear H1
                    have H' := Aside0.mk H
                    clear H
                    go_wp2
                    repeat (go_quiet (fail); try go_wp2)
                    go_roundg kj3
                    case measure => have := HK1.out; have := HK2.out; have := HJ3.out; omega
                    case rel => exact ⟨(wrap64 (x5_1 + 1)), (by first | rfl | (simp; done) | (simp [*]; done)), H', ⟨by have := HK1.out; have := HK2.out; have := HJ3.out; omega⟩, by repeat (first | exact Drawn0.refl _ | apply Drawn0.step)⟩
      · rw [if_neg c3] at H
        have c3b0 : decide ((wrap64 (x5_1 + (a1.size : Int))) ≤ (a0.size : Int)) = false := decide_eq_false c3
        clear c3
        obtain rfl := Option.some.inj H
        go_wp2
        repeat (go_quiet (fail); try go_wp2)
        go_ret
        exact ⟨by first | rfl | (simp; done) | (simp [*]; done), by repeat (first | exact Drawn0.refl _ | apply Drawn0.step)⟩

-- function 20 (spec_Next): its contract stands in YtmgepjnaalnckaaExtNext

/-! ### spec_WtfWide: function 21 -/
def spec_WtfWide.l0 : Nat → ByteArray → List Int → Int → Option (List Int)
  | 0, _, _, _ => none
  | k + 1, x0, x3, x4 => if (wrap64 (x4 + 1)) < (x0.size : Int) then (if 0 ≤ x4 then (if x4 < (x0.size : Int) then (if 0 ≤ (wrap64 (x4 + 1)) then (if x3.length < 70368744177664 then (spec_WtfWide.l0 k x0 (x3 ++ [Go.bits .or .u16 (IntKind.u16.wrap ((IntKind.u16.wrap (bt x0 x4)) * 256)) (IntKind.u16.wrap (bt x0 (wrap64 (x4 + 1))))]) (wrap64 (x4 + 2))) else (none)) else (none)) else (none)) else (none)) else (some x3)
def spec_WtfWide.f (k : Nat) (a0 : ByteArray) : Option (List Int) := spec_WtfWide.l0 k a0 ([] : List Int) 0
theorem spec_WtfWide.mono_l : ∀ k, (∀ y0 y1 y2, LeO (spec_WtfWide.l0 k y0 y1 y2) (spec_WtfWide.l0 (k + 1) y0 y1 y2))
  | 0 => fun _ _ _ r h => by simp [spec_WtfWide.l0] at h
  | k + 1 => by
    have ih0 := spec_WtfWide.mono_l k
    · intro y0 y1 y2
      unfold spec_WtfWide.l0
      repeat' first
      | (with_reducible exact ih0 _ _ _)
      | (with_reducible exact LeO.refl _)
      | (with_reducible exact LeO.none _)
      | (with_reducible refine LeO.ite ?_ ?_)
      | (with_reducible refine LeO.bind ?_ (fun _ => ?_))
      | exact ih0 _ _ _
      | exact LeO.none _
      | refine LeO.ite ?_ ?_
      | refine LeO.bind ?_ (fun _ => ?_)
theorem spec_WtfWide.mono : ∀ a0 k, LeO (spec_WtfWide.f k a0) (spec_WtfWide.f (k + 1) a0) := by
  intro a0 k
  have ih0 := spec_WtfWide.mono_l k
  unfold spec_WtfWide.f
  repeat' first
      | (with_reducible exact ih0 _ _ _)
      | (with_reducible exact LeO.refl _)
      | (with_reducible exact LeO.none _)
      | (with_reducible refine LeO.ite ?_ ?_)
      | (with_reducible refine LeO.bind ?_ (fun _ => ?_))
      | exact ih0 _ _ _
      | exact LeO.none _
      | refine LeO.ite ?_ ?_
      | refine LeO.bind ?_ (fun _ => ?_)
def spec_WtfWide.T5 : Bool × List (List Nat × List Nat) := (true, [([], []), ([], []), ([], []), ([1, 2], [1, 2]), ([3], [3]), ([4], [4]), ([], []), ([], []), ([7], [7]), ([6, 8], [6, 8]), ([9], [9]), ([5, 10], [5, 10]), ([11], [11]), ([0, 12], [0, 12]), ([13, 13, 0, 1, 2, 3, 4, 5, 6, 7, 8, 9, 10, 11, 12, 13], [0, 13])])
def spec_WtfWide.B5 : List Nat := [0, 0, 0, 6, 14, 30, 0, 0, 128, 448, 960, 2046, 4094, 8191, 16383]
theorem spec_WtfWide.tab5 : rtab .any (opsOf Try.f21 5) = spec_WtfWide.T5 := by kernel_rfl
theorem spec_WtfWide.bits5 : waitsOk spec_WtfWide.T5.2 spec_WtfWide.B5 = true := by kernel_rfl
set_option maxHeartbeats 8000000 in
set_option maxRecDepth 100000 in
theorem spec_WtfWide.calls (k : Nat) (a0 : ByteArray) (r : List Int) (w : World) (h : spec_WtfWide.f k a0 = some r) :
    Calls Try.prog 21 #[.string a0] w fun e w' => ∃ v0_ : Value, e = .returned (v0_) ∧ Kd.R (Kd.int .u16) 39 w' w.heap.size (fun _ => True) v0_ r ∧ Below w.heap.size w w' := by
  have HB := Aside0.mk (Below.refl w.heap.size w)
  have H : (spec_WtfWide.l0 k a0 ([] : List Int) 0) = some r := h
  clear h
  have H' := Aside0.mk H
  clear H
  go_enter Try.func21, Try.ntmps21
  go_wp2
  go_loopg [3, 4] k (fun kq v3 v4 w' => ∃ (x3_1 : List Int) (x4_1 : Int), v4 = .int .i64 x4_1 ∧ Aside0 (spec_WtfWide.l0 kq a0 x3_1 x4_1 = some r) ∧ Aside0 (kq ≤ k) ∧ Aside0 (Kd.R (Kd.int .u16) 39 w' w.heap.size (fun _ => True) v3 x3_1) ∧ Aside0 (Below w.heap.size w w'))
  case atStart => exact ⟨(([] : List Int)), (0), (by first | rfl | (simp; done) | (simp [*]; done)), H', ⟨Nat.le_refl _⟩, ⟨by first | exact Kd.R_nil _ _ _ _ _ | exact Kd.N_nil _ _ _ _ _ | exact Kd.V_nil _ _ _ _ _ | exact Kd.Q_nil _ _ _ _ _ | exact Kd.S_nil _ _ _ _ _⟩, ⟨by repeat (first | (with_reducible first | exact HB.out | apply below_alloc | apply pw_below_drewN | apply below_drew1) | exact HB.out)⟩⟩
  case round =>
    clear H'
    obtain ⟨x3_1, x4_1, rfl, HA, HK1, HO_3, HB⟩ := hrel
    cases gk with
    | zero => exact absurd HA.out (by simp [spec_WtfWide.l0])
    | succ k1 =>
      have H := HA.out
      clear HA
      simp only [spec_WtfWide.l0] at H
      by_cases c2 : (wrap64 (x4_1 + 1)) < (a0.size : Int)
      · rw [if_pos c2] at H
        have c2b0 : decide ((wrap64 (x4_1 + 1)) < (a0.size : Int)) = true := decide_eq_true c2
        clear c2
        by_cases c3 : 0 ≤ x4_1
        · rw [if_pos c3] at H
          have c3b0 : decide (0 ≤ x4_1) = true := decide_eq_true c3
          clear c3
          by_cases c4 : x4_1 < (a0.size : Int)
          · rw [if_pos c4] at H
            have c4b0 : decide (x4_1 < (a0.size : Int)) = true := decide_eq_true c4
            clear c4
            obtain ⟨ji6, hji6⟩ : ∃ j_ : Int, (wrap64 (x4_1 + 1)) = j_ := ⟨_, rfl⟩
            replace H : (if 0 ≤ (ji6) then (if x3_1.length < 70368744177664 then (spec_WtfWide.l0 k1 a0 (x3_1 ++ [Go.bits .or .u16 (IntKind.u16.wrap ((IntKind.u16.wrap (bt a0 x4_1)) * 256)) (IntKind.u16.wrap (bt a0 (ji6)))]) (wrap64 (x4_1 + 2))) else (none)) else (none)) = some r := by first | (rw [hji6] at H; exact H) | (simp only [hji6] at H ⊢; exact H)
            (try rw [hji6] at c2b0)
            have hji6w : (IntKind.i64.wrap (x4_1 + 1)) = ji6 := (i64_w _).trans hji6
            by_cases c7 : 0 ≤ (ji6)
            · rw [if_pos c7] at H
              have c7b0 : decide (0 ≤ (ji6)) = true := decide_eq_true c7
              clear c7
              by_cases c9 : x3_1.length < 70368744177664
              · rw [if_pos c9] at H
                have LMc9 := Aside0.mk c9
                clear c9
                obtain ⟨y128, hy128⟩ : ∃ y_ : List Int, y_ = (x3_1 ++ [Go.bits .or .u16 (IntKind.u16.wrap ((IntKind.u16.wrap (bt a0 x4_1)) * 256)) (IntKind.u16.wrap (bt a0 (ji6)))]) := ⟨_, rfl⟩
                replace H : (spec_WtfWide.l0 k1 a0 y128 (wrap64 (x4_1 + 2))) = some r := by first | (rw [hy128]; with_reducible exact H) | (have H2_ := (Option.bind_some _ _).symm.trans H; rw [hy128]; with_reducible exact H2_) | (have H2_ := (Option.bind_some _ _).symm.trans H; with_reducible exact H2_) | with_reducible exact H | (rw [hy128]; exact H) | exact H
                have Ny128 := Aside0.mk hy128
                clear hy128
                have H' := Aside0.mk H
                clear H
                try go_wp2
                have n0_ := Aside0.mk (Kd.R_drew HO_3.out)
                have n1_ := Aside0.mk (below_drew1 HB.out)
                clear HO_3
                clear HB
                have HO_3 := n0_
                have HB := n1_
                clear n0_ n1_
                have p5 : 0 ≤ (x4_1 : Int) := of_decide_eq_true (by first | (with_reducible assumption) | assumption)
                have q5 : x4_1 < (a0.size : Int) := of_decide_eq_true (by first | (with_reducible assumption) | assumption)
                have hx5 := bt_at a0 x4_1
                replace p5 := eq_true p5
                replace q5 := eq_true q5
                have p8 : 0 ≤ ((ji6) : Int) := of_decide_eq_true (by first | (with_reducible assumption) | assumption)
                have q8 : (ji6) < (a0.size : Int) := of_decide_eq_true (by first | (with_reducible assumption) | assumption)
                have hx8 := bt_at a0 (ji6)
                replace p8 := eq_true p8
                replace q8 := eq_true q8
                refine start_ (n := 15) (S := fun w' => True) (ds := []) #[false, false, false, false, false, false, false, false, false, false, false, false, false, false, false] (by kernel_rfl) rfl rfl trivial (fun hHeld => ?_); refine with_tabW spec_WtfWide.tab5 spec_WtfWide.bits5 (fun HT_ HW_ => ?_)
                generalize wr.drew = w10 at HO_3 HB hHeld ⊢
                refine pure_ (i := 0) (N := some 12) (v := ?_) (a' := ?_) #[true, false, false, false, false, false, false, false, false, false, false, false, false, false, false] rfl rfl (any_of HT_.out (by kernel_rfl)) (fun _ _ _ h => h) (Or.inl ⟨by rfl, ?_⟩) ?_ ?_
                rotate_left
                · intro w'
                  go_simp
                  with_reducible rfl
                rotate_left
                · simp only [Act.put, List.setIfInBounds_toArray, List.set_cons_zero, List.set_cons_succ, i64_w, i32_w]
                  rfl
                refine pure_ (i := 1) (N := some 13) (v := ?_) (a' := ?_) #[true, true, false, false, false, false, false, false, false, false, false, false, false, false, false] rfl rfl (any_of HT_.out (by kernel_rfl)) (fun _ _ _ h => h) (Or.inl ⟨by rfl, ?_⟩) ?_ ?_
                rotate_left
                · intro w'
                  go_simp
                  with_reducible rfl
                rotate_left
                · simp only [Act.put, List.setIfInBounds_toArray, List.set_cons_zero, List.set_cons_succ, i64_w, i32_w]
                  rfl
                refine pure_ (i := 2) (N := some 14) (v := ?_) (a' := ?_) #[true, true, true, false, false, false, false, false, false, false, false, false, false, false, false] rfl rfl (any_of HT_.out (by kernel_rfl)) (fun _ _ _ h => h) (Or.inl ⟨by rfl, ?_⟩) ?_ ?_
                rotate_left
                · intro w'
                  go_simp
                  with_reducible rfl
                rotate_left
                · simp only [Act.put, List.setIfInBounds_toArray, List.set_cons_zero, List.set_cons_succ, i64_w, i32_w]
                  rfl
                refine pure_ (i := 6) (N := some 18) (v := ?_) (a' := ?_) #[true, true, true, false, false, false, true, false, false, false, false, false, false, false, false] rfl rfl (any_of HT_.out (by kernel_rfl)) (fun _ _ _ h => h) (Or.inl ⟨by rfl, ?_⟩) ?_ ?_
                rotate_left
                · intro w'
                  go_simp
                  with_reducible rfl
                rotate_left
                · simp only [Act.put, List.setIfInBounds_toArray, List.set_cons_zero, List.set_cons_succ, i64_w, i32_w]
                  rfl
                refine pure_ (i := 7) (N := some 19) (v := ?_) (a' := ?_) #[true, true, true, false, false, false, true, true, false, false, false, false, false, false, false] rfl rfl (any_of HT_.out (by kernel_rfl)) (fun _ _ _ h => h) (Or.inl ⟨by rfl, ?_⟩) ?_ ?_
                rotate_left
                · intro w'
                  go_simp
                  with_reducible rfl
                rotate_left
                · simp only [Act.put, List.setIfInBounds_toArray, List.set_cons_zero, List.set_cons_succ, i64_w, i32_w]
                  rfl
                refine pure_ (i := 8) (N := some 20) (v := ?_) (a' := ?_) #[true, true, true, false, false, false, true, true, true, false, false, false, false, false, false] rfl rfl (any_of HT_.out (by kernel_rfl)) (fun _ _ _ h => h) (Or.inl ⟨by rfl, ?_⟩) ?_ ?_
                rotate_left
                · intro w'
                  go_simp
                  with_reducible rfl
                rotate_left
                · simp only [Act.put, List.setIfInBounds_toArray, List.set_cons_zero, List.set_cons_succ, i64_w, i32_w]
                  rfl
                refine take_ (i := 3) (N := some 15) (v := ?_) (a' := ?_) #[true, true, true, true, false, false, true, true, true, false, false, false, false, false, false] rfl rfl (take_ofW HT_.out HW_.out (by kernel_rfl)) (fun _ _ _ h => h) (Or.inl ⟨by rfl, ?_⟩) hHeld ?_ ?_
                rotate_left
                · intro w' _
                  go_simp
                  with_reducible rfl
                rotate_left
                · simp only [Act.put, List.setIfInBounds_toArray, List.set_cons_zero, List.set_cons_succ, i64_w, i32_w]
                  rfl
                refine pure_ (i := 4) (N := some 16) (v := ?_) (a' := ?_) #[true, true, true, true, true, false, true, true, true, false, false, false, false, false, false] rfl rfl (any_of HT_.out (by kernel_rfl)) (fun _ _ _ h => h) (Or.inl ⟨by rfl, ?_⟩) ?_ ?_
                rotate_left
                · intro w'
                  go_simp
                  with_reducible rfl
                rotate_left
                · simp only [Act.put, List.setIfInBounds_toArray, List.set_cons_zero, List.set_cons_succ, i64_w, i32_w]
                  rfl
                refine pure_ (i := 5) (N := some 17) (v := ?_) (a' := ?_) #[true, true, true, true, true, true, true, true, true, false, false, false, false, false, false] rfl rfl (any_of HT_.out (by kernel_rfl)) (fun _ _ _ h => h) (Or.inl ⟨by rfl, ?_⟩) ?_ ?_
                rotate_left
                · intro w'
                  go_simp
                  with_reducible rfl
                rotate_left
                · simp only [Act.put, List.setIfInBounds_toArray, List.set_cons_zero, List.set_cons_succ, i64_w, i32_w]
                  rfl
                refine take_ (i := 9) (N := some 21) (v := ?_) (a' := ?_) #[true, true, true, true, true, true, true, true, true, true, false, false, false, false, false] rfl rfl (take_ofW HT_.out HW_.out (by kernel_rfl)) (fun _ _ _ h => h) (Or.inl ⟨by rfl, ?_⟩) hHeld ?_ ?_
                rotate_left
                · intro w' _
                  go_simp
                  with_reducible rfl
                rotate_left
                · simp only [Act.put, List.setIfInBounds_toArray, List.set_cons_zero, List.set_cons_succ, i64_w, i32_w]
                  rfl
                refine pure_ (i := 10) (N := some 22) (v := ?_) (a' := ?_) #[true, true, true, true, true, true, true, true, true, true, true, false, false, false, false] rfl rfl (any_of HT_.out (by kernel_rfl)) (fun _ _ _ h => h) (Or.inl ⟨by rfl, ?_⟩) ?_ ?_
                rotate_left
                · intro w'
                  go_simp
                  with_reducible rfl
                rotate_left
                · simp only [Act.put, List.setIfInBounds_toArray, List.set_cons_zero, List.set_cons_succ, i64_w, i32_w]
                  rfl
                refine pure_ (i := 11) (N := some 23) (v := ?_) (a' := ?_) #[true, true, true, true, true, true, true, true, true, true, true, true, false, false, false] rfl rfl (any_of HT_.out (by kernel_rfl)) (fun _ _ _ h => h) (Or.inl ⟨by rfl, ?_⟩) ?_ ?_
                rotate_left
                · intro w'
                  go_simp
                  with_reducible rfl
                rotate_left
                · simp only [Act.put, List.setIfInBounds_toArray, List.set_cons_zero, List.set_cons_succ, i64_w, i32_w]
                  rfl
                refine one_ (i := 12) (N := some 24) #[true, true, true, true, true, true, true, true, true, true, true, true, true, false, false] rfl rfl (one_of HT_.out (by kernel_rfl)) (by decide) (fun K hK => ?_)
                refine value_ (w1 := ?_) (v := ?_) (by rfl) rfl ?_ ?_
                rotate_left 2
                · go_simp
                  constructor
                  · rfl
                  · rfl
                refine hK.out _ _ trivial (fun hHeld => ?_)
                clear hK K
                refine norm_ (a' := ?_) ?_ ?_
                rotate_left
                · show Act.put _ (some 24) _ = _
                  simp only [Act.put, List.setIfInBounds_toArray, List.set_cons_zero, List.set_cons_succ, i64_w, i32_w]
                  rfl
                refine one_ (i := 13) (N := some 25) #[true, true, true, true, true, true, true, true, true, true, true, true, true, true, false] rfl rfl (one_of HT_.out (by kernel_rfl)) (by decide) (fun K hK => ?_)
                refine Kd.R_append_step (Kd.int .u16) (w0 := w) w.heap.size (by rfl) (.tmp 12) (.tmp 24) 23 39 (.int .u16 0) 2 rfl Try.underlying23 info39 rfl (by decide) (by omega) u3 x3_1 (Go.bits .or .u16 (IntKind.u16.wrap ((IntKind.u16.wrap (bt a0 x4_1)) * 256)) (IntKind.u16.wrap (bt a0 (ji6)))) [.int .u16 (Go.bits .or .u16 (IntKind.u16.wrap ((IntKind.u16.wrap (bt a0 x4_1)) * 256)) (IntKind.u16.wrap (bt a0 (ji6))))] (fun _ => True) (fun _ => False) rfl rfl ?aP (fun _ hk => hk.elim) ?aF ?aO ?aB ?aS ?aL ?_
                (case aP => exact rfl)
                (case aB => exact (by repeat (first | (with_reducible first | exact HB.out | apply below_alloc | apply pw_below_drewN | apply below_drew1) | exact HB.out)))
                (case aF => exact (fun _ _ => trivial))
                (case aO => exact (by (with_reducible repeat (first | apply Kd.R_alloc | apply Kd.R_drewN | apply Kd.R_drew)); exact HO_3.out))
                (case aS => exact (below_size (by repeat (first | (with_reducible first | exact HB.out | apply below_alloc | apply pw_below_drewN | apply below_drew1) | exact HB.out))))
                (case aL => have := LMc9.out; omega)
                intro v129 w11 ho hb hg hat
                rw [← Ny128.out] at ho
                have n0_ := Aside0.mk (hb)
                have n1_ := Aside0.mk (ho)
                clear HB
                clear HO_3
                have HB := n0_
                have HO130 := n1_
                clear n0_ n1_
                clear ho hb hg hat
                refine hK.out _ _ trivial (fun hHeld => ?_)
                clear hK K
                refine norm_ (a' := ?_) ?_ ?_
                rotate_left
                · show Act.put _ (some 25) _ = _
                  simp only [Act.put, List.setIfInBounds_toArray, List.set_cons_zero, List.set_cons_succ, i64_w, i32_w]
                  rfl
                refine pure_ (i := 14) (N := some 3) (v := ?_) (a' := ?_) #[true, true, true, true, true, true, true, true, true, true, true, true, true, true, true] rfl rfl (any_of HT_.out (by kernel_rfl)) (fun _ _ _ h => h) (Or.inl ⟨by rfl, ?_⟩) ?_ ?_
                rotate_left
                · intro w'
                  go_simp
                  with_reducible rfl
                rotate_left
                · simp only [Act.put, List.setIfInBounds_toArray, List.set_cons_zero, List.set_cons_succ, i64_w, i32_w]
                  rfl
                refine done_ (done_of HT_.out (by kernel_rfl)) ?_
                try go_wp2
                go_roundg k1
                case measure => have := HK1.out; omega
                case rel => exact ⟨(y128), (wrap64 (x4_1 + 2)), (by first | rfl | (simp; done) | (simp [*]; done)), H', ⟨by have := HK1.out; omega⟩, ⟨by (with_reducible repeat (first | apply Kd.R_alloc | apply Kd.R_drewN | apply Kd.R_drew)); exact HO130.out⟩, ⟨by repeat (first | (with_reducible first | exact HB.out | apply below_alloc | apply pw_below_drewN | apply below_drew1) | exact HB.out)⟩⟩
              · rw [if_neg c9] at H
                exact absurd H (by simp)
            · rw [if_neg c7] at H
              exact absurd H (by simp)
          · rw [if_neg c4] at H
            exact absurd H (by simp)
        · rw [if_neg c3] at H
          exact absurd H (by simp)
      · rw [if_neg c2] at H
        have c2b0 : decide ((wrap64 (x4_1 + 1)) < (a0.size : Int)) = false := decide_eq_false c2
        clear c2
        obtain rfl := Option.some.inj H
        go_wp2
        go_ret
        exact ⟨_, by first | rfl | (simp [errW_none, errW_some] <;> rfl) | (simp [*, errW_none, errW_some] <;> rfl), by (with_reducible repeat (first | apply Kd.R_alloc | apply Kd.R_drewN | apply Kd.R_drew)); exact HO_3.out, by repeat (first | (with_reducible first | exact HB.out | apply below_alloc | apply pw_below_drewN | apply below_drew1) | exact HB.out)⟩

/-! ### spec_JsString: function 9 -/
def spec_JsString.f (k : Nat) (a0 : ByteArray) : Option (List Int × Bool) := (spec_Next.f a0 0 0 false).bind fun bt131 => (if bt131.1 = 8 then (if bt131.2.2.2.2.2.2.2.2 = true then (some (([] : List Int), false)) else (if bt131.2.2.2.2.1 = 0 then (if bt131.2.2.2.2.2.1 = (a0.size : Int) then ((spec_WtfWide.f k bt131.2.1).bind fun t141 => (some (t141, true))) else (some (([] : List Int), false))) else (some (([] : List Int), false)))) else (some (([] : List Int), false)))
theorem spec_JsString.mono : ∀ a0 k, LeO (spec_JsString.f k a0) (spec_JsString.f (k + 1) a0) := by
  intro a0 k
  unfold spec_JsString.f
  repeat' first
      | (with_reducible exact spec_WtfWide.mono _ _)
      | (with_reducible exact LeO.refl _)
      | (with_reducible exact LeO.none _)
      | (with_reducible refine LeO.ite ?_ ?_)
      | (with_reducible refine LeO.bind ?_ (fun _ => ?_))
      | exact spec_WtfWide.mono _ _
      | exact LeO.none _
      | refine LeO.ite ?_ ?_
      | refine LeO.bind ?_ (fun _ => ?_)
set_option maxHeartbeats 8000000 in
set_option maxRecDepth 100000 in
theorem spec_JsString.calls (k : Nat) (a0 : ByteArray) (r1 : List Int) (r2 : Bool) (w : World) (h : spec_JsString.f k a0 = some (r1, r2)) :
    Calls Try.prog 9 #[.string a0] w fun e w' => ∃ v0_ : Value, e = .returned (.tuple #[v0_, .bool r2]) ∧ Kd.R (Kd.int .u16) 39 w' w.heap.size (fun _ => True) v0_ r1 ∧ Below w.heap.size w w' := by
  have hu45 := Try.underlying45
  have HB := Aside0.mk (Below.refl w.heap.size w)
  have H : ((spec_Next.f a0 0 0 false).bind fun bt131 => (if bt131.1 = 8 then (if bt131.2.2.2.2.2.2.2.2 = true then (some (([] : List Int), false)) else (if bt131.2.2.2.2.1 = 0 then (if bt131.2.2.2.2.2.1 = (a0.size : Int) then ((spec_WtfWide.f k bt131.2.1).bind fun t141 => (some (t141, true))) else (some (([] : List Int), false))) else (some (([] : List Int), false)))) else (some (([] : List Int), false)))) = some (r1, r2) := h
  clear h
  replace H := Option.bind_eq_some_iff.mp H
  obtain ⟨⟨t131, t132, t133, t134, t135, t136, t137, t138, t139⟩, A20, H⟩ := H
  replace H : (if t131 = 8 then (if t139 = true then (some (([] : List Int), false)) else (if t135 = 0 then (if t136 = (a0.size : Int) then ((spec_WtfWide.f k t132).bind fun t141 => (some (t141, true))) else (some (([] : List Int), false))) else (some (([] : List Int), false)))) else (some (([] : List Int), false))) = some (r1, r2) := H
  have A2 := Aside0.mk A20
  clear A20
  by_cases c3 : t131 = 8
  · rw [if_pos c3] at H
    have c3b0 : (t131 == 8) = true := beq_iff_eq.mpr c3
    have c3b1 : (t131 != 8) = false := bne_eq_false_iff_eq.mpr c3
    clear c3
    by_cases c4 : t139 = true
    · subst c4
      have H1 : (some (([] : List Int), false)) = some (r1, r2) := by rw [if_pos rfl] at H; exact H
      clear H
      have H := H1
      clear H1
      simp only [Option.some.injEq, Prod.mk.injEq] at H
      obtain ⟨rfl, rfl⟩ := H
      go_enter Try.func9, Try.ntmps9
      go_wp2_with (first | ((with_reducible refine gate_callee (f := 20) rfl ?_); refine goesL_ (some 6) rfl rfl Try.func20 (by kernel_rfl) rfl #[.string a0, .int .i64 0, .int .i64 0, .bool false] rfl (by (try simp only [List.map_toArray, List.map_cons, List.map_nil]); first | done | rfl | (simp only [List.length_drop, List.length_take]; rfl)) ?_; (with_reducible refine (spec_Next.calls a0 0 0 false t131 t132 t133 t134 t135 t136 t137 t138 true _ A2.out).mono ?_); rintro e w5 ⟨rfl, hb⟩; refine ⟨_, rfl, ?_⟩; have n0_ := Aside0.mk (below_step (by repeat (first | (with_reducible first | exact HB.out | apply below_alloc | apply pw_below_drewN | apply below_drew1) | exact HB.out)) hb); clear HB; have HB := n0_; clear n0_; (try clear hb); (try clear hb2); (try clear hk); (try clear hi)) | ((with_reducible refine gate_dst (N := 4) rfl ?_); (try (refine gate_guard (by rfl) ?_; dsimp only)); refine box_event ?hg (N := 4) ?hd (cs := #[.int .i64 0, .string (⟨#[]⟩ : ByteArray), .string (⟨#[]⟩ : ByteArray), .int .u64 0, .int .i64 0, .int .i64 0, .bool false, .bool false, .bool false]) (t := 45) ?hr ?_; (case hd => rfl); (case hg => rfl); (case hr => first | (go_simp; done) | (go_simp; rfl)); intro gb140 hg w6 hbox hb; have n0_ := Aside0.mk (below_step (by repeat (first | (with_reducible first | exact HB.out | apply below_alloc | apply pw_below_drewN | apply below_drew1) | exact HB.out)) hb); have n1_ := Aside0.mk (hbox); have n2_ := Aside0.mk ((by rw [hg]; exact (below_size (by repeat (first | (with_reducible first | exact HB.out | apply below_alloc | apply pw_below_drewN | apply below_drew1) | exact HB.out))) : w.heap.size ≤ gb140)); have n3_ := Aside0.mk ((by rw [hg]; exact (below_size (by repeat (first | (with_reducible first | exact HB.out | apply below_alloc | apply pw_below_drewN | apply below_drew1) | exact HB.out))) : w.heap.size ≤ gb140)); clear HB; have HB := n0_; have BK140 := n1_; have GW140 := n2_; have GE140 := n3_; clear n0_ n1_ n2_ n3_; clear hb hbox hg; have hcz7_0 : w6.cell? ⟨gb140, 0, none⟩ = some (.int .i64 0) := (blk_cell BK140.out 0).trans rfl; have hcz7_1 : w6.cell? ⟨gb140, 1, none⟩ = some (.string (⟨#[]⟩ : ByteArray)) := (blk_cell BK140.out 1).trans rfl; have hcz7_2 : w6.cell? ⟨gb140, 2, none⟩ = some (.string (⟨#[]⟩ : ByteArray)) := (blk_cell BK140.out 2).trans rfl; have hcz7_3 : w6.cell? ⟨gb140, 3, none⟩ = some (.int .u64 0) := (blk_cell BK140.out 3).trans rfl; have hcz7_4 : w6.cell? ⟨gb140, 4, none⟩ = some (.int .i64 0) := (blk_cell BK140.out 4).trans rfl; have hcz7_5 : w6.cell? ⟨gb140, 5, none⟩ = some (.int .i64 0) := (blk_cell BK140.out 5).trans rfl; have hcz7_6 : w6.cell? ⟨gb140, 6, none⟩ = some (.bool false) := (blk_cell BK140.out 6).trans rfl; have hcz7_7 : w6.cell? ⟨gb140, 7, none⟩ = some (.bool false) := (blk_cell BK140.out 7).trans rfl; have hcz7_8 : w6.cell? ⟨gb140, 8, none⟩ = some (.bool false) := (blk_cell BK140.out 8).trans rfl; have hfz7_0 := blk_frozen BK140.out 0; have hfz7_1 := blk_frozen BK140.out 1; have hfz7_2 := blk_frozen BK140.out 2; have hfz7_3 := blk_frozen BK140.out 3; have hfz7_4 := blk_frozen BK140.out 4; have hfz7_5 := blk_frozen BK140.out 5; have hfz7_6 := blk_frozen BK140.out 6; have hfz7_7 := blk_frozen BK140.out 7; have hfz7_8 := blk_frozen BK140.out 8))
      go_ret2
      exact ⟨_, by first | rfl | (simp [errW_none, errW_some] <;> rfl) | (simp [*, errW_none, errW_some] <;> rfl), by first | exact Kd.R_nil _ _ _ _ _ | exact Kd.N_nil _ _ _ _ _ | exact Kd.V_nil _ _ _ _ _ | exact Kd.Q_nil _ _ _ _ _ | exact Kd.S_nil _ _ _ _ _, by repeat (first | (with_reducible first | exact HB.out | apply below_alloc | apply pw_below_drewN | apply below_drew1 | refine below_set ?_ GE140.out) | exact HB.out)⟩
    · replace c4 := Bool.eq_false_iff.mpr c4
      subst c4
      have H1 : (if t135 = 0 then (if t136 = (a0.size : Int) then ((spec_WtfWide.f k t132).bind fun t141 => (some (t141, true))) else (some (([] : List Int), false))) else (some (([] : List Int), false))) = some (r1, r2) := by rw [if_neg (show ¬ (false = true) by decide)] at H; exact H
      clear H
      have H := H1
      clear H1
      by_cases c8 : t135 = 0
      · rw [if_pos c8] at H
        have c8b0 : (t135 == 0) = true := beq_iff_eq.mpr c8
        have c8b1 : (t135 != 0) = false := bne_eq_false_iff_eq.mpr c8
        clear c8
        by_cases c9 : t136 = (a0.size : Int)
        · rw [if_pos c9] at H
          have c9b0 : (t136 == (a0.size : Int)) = true := beq_iff_eq.mpr c9
          have c9b1 : (t136 != (a0.size : Int)) = false := bne_eq_false_iff_eq.mpr c9
          clear c9
          replace H := Option.bind_eq_some_iff.mp H
          obtain ⟨t141, A100, H⟩ := H
          replace H : (some (t141, true)) = some (r1, r2) := H
          have A10 := Aside0.mk A100
          clear A100
          simp only [Option.some.injEq, Prod.mk.injEq] at H
          obtain ⟨rfl, rfl⟩ := H
          go_enter Try.func9, Try.ntmps9
          go_wp2_with (first | ((with_reducible refine gate_callee (f := 20) rfl ?_); refine goesL_ (some 6) rfl rfl Try.func20 (by kernel_rfl) rfl #[.string a0, .int .i64 0, .int .i64 0, .bool false] rfl (by (try simp only [List.map_toArray, List.map_cons, List.map_nil]); first | done | rfl | (simp only [List.length_drop, List.length_take]; rfl)) ?_; (with_reducible refine (spec_Next.calls a0 0 0 false t131 t132 t133 t134 t135 t136 t137 t138 false _ A2.out).mono ?_); rintro e w11 ⟨rfl, hb⟩; refine ⟨_, rfl, ?_⟩; have n0_ := Aside0.mk (below_step (by repeat (first | (with_reducible first | exact HB.out | apply below_alloc | apply pw_below_drewN | apply below_drew1) | exact HB.out)) hb); clear HB; have HB := n0_; clear n0_; (try clear hb); (try clear hb2); (try clear hk); (try clear hi)) | ((with_reducible refine gate_dst (N := 4) rfl ?_); (try (refine gate_guard (by rfl) ?_; dsimp only)); refine box_event ?hg (N := 4) ?hd (cs := #[.int .i64 0, .string (⟨#[]⟩ : ByteArray), .string (⟨#[]⟩ : ByteArray), .int .u64 0, .int .i64 0, .int .i64 0, .bool false, .bool false, .bool false]) (t := 45) ?hr ?_; (case hd => rfl); (case hg => rfl); (case hr => first | (go_simp; done) | (go_simp; rfl)); intro gb140 hg w12 hbox hb; have n0_ := Aside0.mk (below_step (by repeat (first | (with_reducible first | exact HB.out | apply below_alloc | apply pw_below_drewN | apply below_drew1) | exact HB.out)) hb); have n1_ := Aside0.mk (hbox); have n2_ := Aside0.mk ((by rw [hg]; exact (below_size (by repeat (first | (with_reducible first | exact HB.out | apply below_alloc | apply pw_below_drewN | apply below_drew1) | exact HB.out))) : w.heap.size ≤ gb140)); have n3_ := Aside0.mk ((by rw [hg]; exact (below_size (by repeat (first | (with_reducible first | exact HB.out | apply below_alloc | apply pw_below_drewN | apply below_drew1) | exact HB.out))) : w.heap.size ≤ gb140)); clear HB; have HB := n0_; have BK140 := n1_; have GW140 := n2_; have GE140 := n3_; clear n0_ n1_ n2_ n3_; clear hb hbox hg; have hcz13_0 : w12.cell? ⟨gb140, 0, none⟩ = some (.int .i64 0) := (blk_cell BK140.out 0).trans rfl; have hcz13_1 : w12.cell? ⟨gb140, 1, none⟩ = some (.string (⟨#[]⟩ : ByteArray)) := (blk_cell BK140.out 1).trans rfl; have hcz13_2 : w12.cell? ⟨gb140, 2, none⟩ = some (.string (⟨#[]⟩ : ByteArray)) := (blk_cell BK140.out 2).trans rfl; have hcz13_3 : w12.cell? ⟨gb140, 3, none⟩ = some (.int .u64 0) := (blk_cell BK140.out 3).trans rfl; have hcz13_4 : w12.cell? ⟨gb140, 4, none⟩ = some (.int .i64 0) := (blk_cell BK140.out 4).trans rfl; have hcz13_5 : w12.cell? ⟨gb140, 5, none⟩ = some (.int .i64 0) := (blk_cell BK140.out 5).trans rfl; have hcz13_6 : w12.cell? ⟨gb140, 6, none⟩ = some (.bool false) := (blk_cell BK140.out 6).trans rfl; have hcz13_7 : w12.cell? ⟨gb140, 7, none⟩ = some (.bool false) := (blk_cell BK140.out 7).trans rfl; have hcz13_8 : w12.cell? ⟨gb140, 8, none⟩ = some (.bool false) := (blk_cell BK140.out 8).trans rfl; have hfz13_0 := blk_frozen BK140.out 0; have hfz13_1 := blk_frozen BK140.out 1; have hfz13_2 := blk_frozen BK140.out 2; have hfz13_3 := blk_frozen BK140.out 3; have hfz13_4 := blk_frozen BK140.out 4; have hfz13_5 := blk_frozen BK140.out 5; have hfz13_6 := blk_frozen BK140.out 6; have hfz13_7 := blk_frozen BK140.out 7; have hfz13_8 := blk_frozen BK140.out 8) | ((with_reducible refine gate_callee (f := 21) rfl ?_); refine goesL_ (some 28) rfl rfl Try.func21 (by kernel_rfl) rfl #[.string t132] rfl (by (try simp only [List.map_toArray, List.map_cons, List.map_nil]); first | done | rfl | (simp only [List.length_drop, List.length_take]; rfl)) ?_; (with_reducible refine (spec_WtfWide.calls k t132 t141 _ A10.out).mono ?_); rintro e w14 ⟨v142, rfl, ho0, hb⟩; refine ⟨_, rfl, ?_⟩; have n0_ := Aside0.mk (Kd.R_lower ho0 (below_size (by repeat (first | (with_reducible first | exact HB.out | apply below_alloc | apply pw_below_drewN | apply below_drew1 | refine below_set ?_ GE140.out) | exact HB.out)))); have n1_ := Aside0.mk (blk_below (g := gb140) (o := .cells #[.int .i64 t131, .string t132, .string t133, .int .u64 t134, .int .i64 t135, .int .i64 t136, .bool t137, .bool t138, .bool false] 45 (0, 0)) (by (with_reducible repeat (first | refine blk_drewN ?_ _ | refine blk_drew ?_ | refine blk_alloc ?_ _)); refine blk_put (cs := #[.int .i64 t131, .string t132, .string t133, .int .u64 t134, .int .i64 t135, .int .i64 t136, .bool t137, .bool t138, .bool false]) ?_ 8 _ rfl; (with_reducible repeat (first | refine blk_drewN ?_ _ | refine blk_drew ?_ | refine blk_alloc ?_ _)); refine blk_put (cs := #[.int .i64 t131, .string t132, .string t133, .int .u64 t134, .int .i64 t135, .int .i64 t136, .bool t137, .bool false, .bool false]) ?_ 7 _ rfl; (with_reducible repeat (first | refine blk_drewN ?_ _ | refine blk_drew ?_ | refine blk_alloc ?_ _)); refine blk_put (cs := #[.int .i64 t131, .string t132, .string t133, .int .u64 t134, .int .i64 t135, .int .i64 t136, .bool false, .bool false, .bool false]) ?_ 6 _ rfl; (with_reducible repeat (first | refine blk_drewN ?_ _ | refine blk_drew ?_ | refine blk_alloc ?_ _)); refine blk_put (cs := #[.int .i64 t131, .string t132, .string t133, .int .u64 t134, .int .i64 t135, .int .i64 0, .bool false, .bool false, .bool false]) ?_ 5 _ rfl; (with_reducible repeat (first | refine blk_drewN ?_ _ | refine blk_drew ?_ | refine blk_alloc ?_ _)); refine blk_put (cs := #[.int .i64 t131, .string t132, .string t133, .int .u64 t134, .int .i64 0, .int .i64 0, .bool false, .bool false, .bool false]) ?_ 4 _ rfl; (with_reducible repeat (first | refine blk_drewN ?_ _ | refine blk_drew ?_ | refine blk_alloc ?_ _)); refine blk_put (cs := #[.int .i64 t131, .string t132, .string t133, .int .u64 0, .int .i64 0, .int .i64 0, .bool false, .bool false, .bool false]) ?_ 3 _ rfl; (with_reducible repeat (first | refine blk_drewN ?_ _ | refine blk_drew ?_ | refine blk_alloc ?_ _)); refine blk_put (cs := #[.int .i64 t131, .string t132, .string (⟨#[]⟩ : ByteArray), .int .u64 0, .int .i64 0, .int .i64 0, .bool false, .bool false, .bool false]) ?_ 2 _ rfl; (with_reducible repeat (first | refine blk_drewN ?_ _ | refine blk_drew ?_ | refine blk_alloc ?_ _)); refine blk_put (cs := #[.int .i64 t131, .string (⟨#[]⟩ : ByteArray), .string (⟨#[]⟩ : ByteArray), .int .u64 0, .int .i64 0, .int .i64 0, .bool false, .bool false, .bool false]) ?_ 1 _ rfl; (with_reducible repeat (first | refine blk_drewN ?_ _ | refine blk_drew ?_ | refine blk_alloc ?_ _)); refine blk_put (cs := #[.int .i64 0, .string (⟨#[]⟩ : ByteArray), .string (⟨#[]⟩ : ByteArray), .int .u64 0, .int .i64 0, .int .i64 0, .bool false, .bool false, .bool false]) ?_ 0 _ rfl; (with_reducible repeat (first | refine blk_drewN ?_ _ | refine blk_drew ?_ | refine blk_alloc ?_ _)); exact BK140.out) hb); have n2_ := Aside0.mk (below_step (by repeat (first | (with_reducible first | exact HB.out | apply below_alloc | apply pw_below_drewN | apply below_drew1 | refine below_set ?_ GE140.out) | exact HB.out)) hb); clear BK140; clear HB; have HO143 := n0_; have BK140 := n1_; have HB := n2_; clear n0_ n1_ n2_; (try clear hb); (try clear hb2); (try clear hk); (try clear hi); (try clear ho0)))
          go_ret2
          exact ⟨_, by first | rfl | (simp [errW_none, errW_some] <;> rfl) | (simp [*, errW_none, errW_some] <;> rfl), by (with_reducible repeat (first | apply Kd.R_alloc | apply Kd.R_drewN | apply Kd.R_drew)); exact HO143.out, by repeat (first | (with_reducible first | exact HB.out | apply below_alloc | apply pw_below_drewN | apply below_drew1 | refine below_set ?_ GE140.out) | exact HB.out)⟩
        · rw [if_neg c9] at H
          have c9b0 : (t136 == (a0.size : Int)) = false := beq_eq_false_iff_ne.mpr c9
          have c9b1 : (t136 != (a0.size : Int)) = true := bne_iff_ne.mpr c9
          simp only [Option.some.injEq, Prod.mk.injEq] at H
          obtain ⟨rfl, rfl⟩ := H
          go_enter Try.func9, Try.ntmps9
          go_wp2_with (first | ((with_reducible refine gate_callee (f := 20) rfl ?_); refine goesL_ (some 6) rfl rfl Try.func20 (by kernel_rfl) rfl #[.string a0, .int .i64 0, .int .i64 0, .bool false] rfl (by (try simp only [List.map_toArray, List.map_cons, List.map_nil]); first | done | rfl | (simp only [List.length_drop, List.length_take]; rfl)) ?_; (with_reducible refine (spec_Next.calls a0 0 0 false t131 t132 t133 t134 t135 t136 t137 t138 false _ A2.out).mono ?_); rintro e w15 ⟨rfl, hb⟩; refine ⟨_, rfl, ?_⟩; have n0_ := Aside0.mk (below_step (by repeat (first | (with_reducible first | exact HB.out | apply below_alloc | apply pw_below_drewN | apply below_drew1) | exact HB.out)) hb); clear HB; have HB := n0_; clear n0_; (try clear hb); (try clear hb2); (try clear hk); (try clear hi)) | ((with_reducible refine gate_dst (N := 4) rfl ?_); (try (refine gate_guard (by rfl) ?_; dsimp only)); refine box_event ?hg (N := 4) ?hd (cs := #[.int .i64 0, .string (⟨#[]⟩ : ByteArray), .string (⟨#[]⟩ : ByteArray), .int .u64 0, .int .i64 0, .int .i64 0, .bool false, .bool false, .bool false]) (t := 45) ?hr ?_; (case hd => rfl); (case hg => rfl); (case hr => first | (go_simp; done) | (go_simp; rfl)); intro gb140 hg w16 hbox hb; have n0_ := Aside0.mk (below_step (by repeat (first | (with_reducible first | exact HB.out | apply below_alloc | apply pw_below_drewN | apply below_drew1) | exact HB.out)) hb); have n1_ := Aside0.mk (hbox); have n2_ := Aside0.mk ((by rw [hg]; exact (below_size (by repeat (first | (with_reducible first | exact HB.out | apply below_alloc | apply pw_below_drewN | apply below_drew1) | exact HB.out))) : w.heap.size ≤ gb140)); have n3_ := Aside0.mk ((by rw [hg]; exact (below_size (by repeat (first | (with_reducible first | exact HB.out | apply below_alloc | apply pw_below_drewN | apply below_drew1) | exact HB.out))) : w.heap.size ≤ gb140)); clear HB; have HB := n0_; have BK140 := n1_; have GW140 := n2_; have GE140 := n3_; clear n0_ n1_ n2_ n3_; clear hb hbox hg; have hcz17_0 : w16.cell? ⟨gb140, 0, none⟩ = some (.int .i64 0) := (blk_cell BK140.out 0).trans rfl; have hcz17_1 : w16.cell? ⟨gb140, 1, none⟩ = some (.string (⟨#[]⟩ : ByteArray)) := (blk_cell BK140.out 1).trans rfl; have hcz17_2 : w16.cell? ⟨gb140, 2, none⟩ = some (.string (⟨#[]⟩ : ByteArray)) := (blk_cell BK140.out 2).trans rfl; have hcz17_3 : w16.cell? ⟨gb140, 3, none⟩ = some (.int .u64 0) := (blk_cell BK140.out 3).trans rfl; have hcz17_4 : w16.cell? ⟨gb140, 4, none⟩ = some (.int .i64 0) := (blk_cell BK140.out 4).trans rfl; have hcz17_5 : w16.cell? ⟨gb140, 5, none⟩ = some (.int .i64 0) := (blk_cell BK140.out 5).trans rfl; have hcz17_6 : w16.cell? ⟨gb140, 6, none⟩ = some (.bool false) := (blk_cell BK140.out 6).trans rfl; have hcz17_7 : w16.cell? ⟨gb140, 7, none⟩ = some (.bool false) := (blk_cell BK140.out 7).trans rfl; have hcz17_8 : w16.cell? ⟨gb140, 8, none⟩ = some (.bool false) := (blk_cell BK140.out 8).trans rfl; have hfz17_0 := blk_frozen BK140.out 0; have hfz17_1 := blk_frozen BK140.out 1; have hfz17_2 := blk_frozen BK140.out 2; have hfz17_3 := blk_frozen BK140.out 3; have hfz17_4 := blk_frozen BK140.out 4; have hfz17_5 := blk_frozen BK140.out 5; have hfz17_6 := blk_frozen BK140.out 6; have hfz17_7 := blk_frozen BK140.out 7; have hfz17_8 := blk_frozen BK140.out 8))
          go_ret2
          exact ⟨_, by first | rfl | (simp [errW_none, errW_some] <;> rfl) | (simp [*, errW_none, errW_some] <;> rfl), by first | exact Kd.R_nil _ _ _ _ _ | exact Kd.N_nil _ _ _ _ _ | exact Kd.V_nil _ _ _ _ _ | exact Kd.Q_nil _ _ _ _ _ | exact Kd.S_nil _ _ _ _ _, by repeat (first | (with_reducible first | exact HB.out | apply below_alloc | apply pw_below_drewN | apply below_drew1 | refine below_set ?_ GE140.out) | exact HB.out)⟩
      · rw [if_neg c8] at H
        have c8b0 : (t135 == 0) = false := beq_eq_false_iff_ne.mpr c8
        have c8b1 : (t135 != 0) = true := bne_iff_ne.mpr c8
        simp only [Option.some.injEq, Prod.mk.injEq] at H
        obtain ⟨rfl, rfl⟩ := H
        go_enter Try.func9, Try.ntmps9
        go_wp2_with (first | ((with_reducible refine gate_callee (f := 20) rfl ?_); refine goesL_ (some 6) rfl rfl Try.func20 (by kernel_rfl) rfl #[.string a0, .int .i64 0, .int .i64 0, .bool false] rfl (by (try simp only [List.map_toArray, List.map_cons, List.map_nil]); first | done | rfl | (simp only [List.length_drop, List.length_take]; rfl)) ?_; (with_reducible refine (spec_Next.calls a0 0 0 false t131 t132 t133 t134 t135 t136 t137 t138 false _ A2.out).mono ?_); rintro e w18 ⟨rfl, hb⟩; refine ⟨_, rfl, ?_⟩; have n0_ := Aside0.mk (below_step (by repeat (first | (with_reducible first | exact HB.out | apply below_alloc | apply pw_below_drewN | apply below_drew1) | exact HB.out)) hb); clear HB; have HB := n0_; clear n0_; (try clear hb); (try clear hb2); (try clear hk); (try clear hi)) | ((with_reducible refine gate_dst (N := 4) rfl ?_); (try (refine gate_guard (by rfl) ?_; dsimp only)); refine box_event ?hg (N := 4) ?hd (cs := #[.int .i64 0, .string (⟨#[]⟩ : ByteArray), .string (⟨#[]⟩ : ByteArray), .int .u64 0, .int .i64 0, .int .i64 0, .bool false, .bool false, .bool false]) (t := 45) ?hr ?_; (case hd => rfl); (case hg => rfl); (case hr => first | (go_simp; done) | (go_simp; rfl)); intro gb140 hg w19 hbox hb; have n0_ := Aside0.mk (below_step (by repeat (first | (with_reducible first | exact HB.out | apply below_alloc | apply pw_below_drewN | apply below_drew1) | exact HB.out)) hb); have n1_ := Aside0.mk (hbox); have n2_ := Aside0.mk ((by rw [hg]; exact (below_size (by repeat (first | (with_reducible first | exact HB.out | apply below_alloc | apply pw_below_drewN | apply below_drew1) | exact HB.out))) : w.heap.size ≤ gb140)); have n3_ := Aside0.mk ((by rw [hg]; exact (below_size (by repeat (first | (with_reducible first | exact HB.out | apply below_alloc | apply pw_below_drewN | apply below_drew1) | exact HB.out))) : w.heap.size ≤ gb140)); clear HB; have HB := n0_; have BK140 := n1_; have GW140 := n2_; have GE140 := n3_; clear n0_ n1_ n2_ n3_; clear hb hbox hg; have hcz20_0 : w19.cell? ⟨gb140, 0, none⟩ = some (.int .i64 0) := (blk_cell BK140.out 0).trans rfl; have hcz20_1 : w19.cell? ⟨gb140, 1, none⟩ = some (.string (⟨#[]⟩ : ByteArray)) := (blk_cell BK140.out 1).trans rfl; have hcz20_2 : w19.cell? ⟨gb140, 2, none⟩ = some (.string (⟨#[]⟩ : ByteArray)) := (blk_cell BK140.out 2).trans rfl; have hcz20_3 : w19.cell? ⟨gb140, 3, none⟩ = some (.int .u64 0) := (blk_cell BK140.out 3).trans rfl; have hcz20_4 : w19.cell? ⟨gb140, 4, none⟩ = some (.int .i64 0) := (blk_cell BK140.out 4).trans rfl; have hcz20_5 : w19.cell? ⟨gb140, 5, none⟩ = some (.int .i64 0) := (blk_cell BK140.out 5).trans rfl; have hcz20_6 : w19.cell? ⟨gb140, 6, none⟩ = some (.bool false) := (blk_cell BK140.out 6).trans rfl; have hcz20_7 : w19.cell? ⟨gb140, 7, none⟩ = some (.bool false) := (blk_cell BK140.out 7).trans rfl; have hcz20_8 : w19.cell? ⟨gb140, 8, none⟩ = some (.bool false) := (blk_cell BK140.out 8).trans rfl; have hfz20_0 := blk_frozen BK140.out 0; have hfz20_1 := blk_frozen BK140.out 1; have hfz20_2 := blk_frozen BK140.out 2; have hfz20_3 := blk_frozen BK140.out 3; have hfz20_4 := blk_frozen BK140.out 4; have hfz20_5 := blk_frozen BK140.out 5; have hfz20_6 := blk_frozen BK140.out 6; have hfz20_7 := blk_frozen BK140.out 7; have hfz20_8 := blk_frozen BK140.out 8))
        go_ret2
        exact ⟨_, by first | rfl | (simp [errW_none, errW_some] <;> rfl) | (simp [*, errW_none, errW_some] <;> rfl), by first | exact Kd.R_nil _ _ _ _ _ | exact Kd.N_nil _ _ _ _ _ | exact Kd.V_nil _ _ _ _ _ | exact Kd.Q_nil _ _ _ _ _ | exact Kd.S_nil _ _ _ _ _, by repeat (first | (with_reducible first | exact HB.out | apply below_alloc | apply pw_below_drewN | apply below_drew1 | refine below_set ?_ GE140.out) | exact HB.out)⟩
  · rw [if_neg c3] at H
    have c3b0 : (t131 == 8) = false := beq_eq_false_iff_ne.mpr c3
    have c3b1 : (t131 != 8) = true := bne_iff_ne.mpr c3
    simp only [Option.some.injEq, Prod.mk.injEq] at H
    obtain ⟨rfl, rfl⟩ := H
    go_enter Try.func9, Try.ntmps9
    go_wp2_with (first | ((with_reducible refine gate_callee (f := 20) rfl ?_); refine goesL_ (some 6) rfl rfl Try.func20 (by kernel_rfl) rfl #[.string a0, .int .i64 0, .int .i64 0, .bool false] rfl (by (try simp only [List.map_toArray, List.map_cons, List.map_nil]); first | done | rfl | (simp only [List.length_drop, List.length_take]; rfl)) ?_; (with_reducible refine (spec_Next.calls a0 0 0 false t131 t132 t133 t134 t135 t136 t137 t138 t139 _ A2.out).mono ?_); rintro e w21 ⟨rfl, hb⟩; refine ⟨_, rfl, ?_⟩; have n0_ := Aside0.mk (below_step (by repeat (first | (with_reducible first | exact HB.out | apply below_alloc | apply pw_below_drewN | apply below_drew1) | exact HB.out)) hb); clear HB; have HB := n0_; clear n0_; (try clear hb); (try clear hb2); (try clear hk); (try clear hi)) | ((with_reducible refine gate_dst (N := 4) rfl ?_); (try (refine gate_guard (by rfl) ?_; dsimp only)); refine box_event ?hg (N := 4) ?hd (cs := #[.int .i64 0, .string (⟨#[]⟩ : ByteArray), .string (⟨#[]⟩ : ByteArray), .int .u64 0, .int .i64 0, .int .i64 0, .bool false, .bool false, .bool false]) (t := 45) ?hr ?_; (case hd => rfl); (case hg => rfl); (case hr => first | (go_simp; done) | (go_simp; rfl)); intro gb140 hg w22 hbox hb; have n0_ := Aside0.mk (below_step (by repeat (first | (with_reducible first | exact HB.out | apply below_alloc | apply pw_below_drewN | apply below_drew1) | exact HB.out)) hb); have n1_ := Aside0.mk (hbox); have n2_ := Aside0.mk ((by rw [hg]; exact (below_size (by repeat (first | (with_reducible first | exact HB.out | apply below_alloc | apply pw_below_drewN | apply below_drew1) | exact HB.out))) : w.heap.size ≤ gb140)); have n3_ := Aside0.mk ((by rw [hg]; exact (below_size (by repeat (first | (with_reducible first | exact HB.out | apply below_alloc | apply pw_below_drewN | apply below_drew1) | exact HB.out))) : w.heap.size ≤ gb140)); clear HB; have HB := n0_; have BK140 := n1_; have GW140 := n2_; have GE140 := n3_; clear n0_ n1_ n2_ n3_; clear hb hbox hg; have hcz23_0 : w22.cell? ⟨gb140, 0, none⟩ = some (.int .i64 0) := (blk_cell BK140.out 0).trans rfl; have hcz23_1 : w22.cell? ⟨gb140, 1, none⟩ = some (.string (⟨#[]⟩ : ByteArray)) := (blk_cell BK140.out 1).trans rfl; have hcz23_2 : w22.cell? ⟨gb140, 2, none⟩ = some (.string (⟨#[]⟩ : ByteArray)) := (blk_cell BK140.out 2).trans rfl; have hcz23_3 : w22.cell? ⟨gb140, 3, none⟩ = some (.int .u64 0) := (blk_cell BK140.out 3).trans rfl; have hcz23_4 : w22.cell? ⟨gb140, 4, none⟩ = some (.int .i64 0) := (blk_cell BK140.out 4).trans rfl; have hcz23_5 : w22.cell? ⟨gb140, 5, none⟩ = some (.int .i64 0) := (blk_cell BK140.out 5).trans rfl; have hcz23_6 : w22.cell? ⟨gb140, 6, none⟩ = some (.bool false) := (blk_cell BK140.out 6).trans rfl; have hcz23_7 : w22.cell? ⟨gb140, 7, none⟩ = some (.bool false) := (blk_cell BK140.out 7).trans rfl; have hcz23_8 : w22.cell? ⟨gb140, 8, none⟩ = some (.bool false) := (blk_cell BK140.out 8).trans rfl; have hfz23_0 := blk_frozen BK140.out 0; have hfz23_1 := blk_frozen BK140.out 1; have hfz23_2 := blk_frozen BK140.out 2; have hfz23_3 := blk_frozen BK140.out 3; have hfz23_4 := blk_frozen BK140.out 4; have hfz23_5 := blk_frozen BK140.out 5; have hfz23_6 := blk_frozen BK140.out 6; have hfz23_7 := blk_frozen BK140.out 7; have hfz23_8 := blk_frozen BK140.out 8))
    go_ret2
    exact ⟨_, by first | rfl | (simp [errW_none, errW_some] <;> rfl) | (simp [*, errW_none, errW_some] <;> rfl), by first | exact Kd.R_nil _ _ _ _ _ | exact Kd.N_nil _ _ _ _ _ | exact Kd.V_nil _ _ _ _ _ | exact Kd.Q_nil _ _ _ _ _ | exact Kd.S_nil _ _ _ _ _, by repeat (first | (with_reducible first | exact HB.out | apply below_alloc | apply pw_below_drewN | apply below_drew1 | refine below_set ?_ GE140.out) | exact HB.out)⟩

/-! ### spec_WtfEqual: function 10 -/
def spec_WtfEqual.l0 : Nat → List Int → List Int → Int → Option (Bool)
  | 0, _, _, _ => none
  | k + 1, x0, x1, x5 => if x5 < (x0.length : Int) then (if 0 ≤ x5 then (if x5 < (x1.length : Int) then (if (rd x0 x5) = (rd x1 x5) then (spec_WtfEqual.l0 k x0 x1 (wrap64 (x5 + 1))) else (some false)) else (none)) else (none)) else (some true)
def spec_WtfEqual.f (k : Nat) (l0 : List Int) (l1 : List Int) : Option (Bool) := if (l0.length : Int) = (l1.length : Int) then (spec_WtfEqual.l0 k l0 l1 0) else (some false)
theorem spec_WtfEqual.mono_l : ∀ k, (∀ y0 y1 y2, LeO (spec_WtfEqual.l0 k y0 y1 y2) (spec_WtfEqual.l0 (k + 1) y0 y1 y2))
  | 0 => fun _ _ _ r h => by simp [spec_WtfEqual.l0] at h
  | k + 1 => by
    have ih0 := spec_WtfEqual.mono_l k
    · intro y0 y1 y2
      unfold spec_WtfEqual.l0
      repeat' first
      | (with_reducible exact ih0 _ _ _)
      | (with_reducible exact LeO.refl _)
      | (with_reducible exact LeO.none _)
      | (with_reducible refine LeO.ite ?_ ?_)
      | (with_reducible refine LeO.bind ?_ (fun _ => ?_))
      | exact ih0 _ _ _
      | exact LeO.none _
      | refine LeO.ite ?_ ?_
      | refine LeO.bind ?_ (fun _ => ?_)
theorem spec_WtfEqual.mono : ∀ a0 a1 k, LeO (spec_WtfEqual.f k a0 a1) (spec_WtfEqual.f (k + 1) a0 a1) := by
  intro a0 a1 k
  have ih0 := spec_WtfEqual.mono_l k
  unfold spec_WtfEqual.f
  repeat' first
      | (with_reducible exact ih0 _ _ _)
      | (with_reducible exact LeO.refl _)
      | (with_reducible exact LeO.none _)
      | (with_reducible refine LeO.ite ?_ ?_)
      | (with_reducible refine LeO.bind ?_ (fun _ => ?_))
      | exact ih0 _ _ _
      | exact LeO.none _
      | refine LeO.ite ?_ ?_
      | refine LeO.bind ?_ (fun _ => ?_)
set_option maxHeartbeats 8000000 in
set_option maxRecDepth 100000 in
theorem spec_WtfEqual.calls (k : Nat) (A0 : Option Addr) (c0 : Nat) (l0 : List Int) (A1 : Option Addr) (c1 : Nat) (l1 : List Int) (r : Bool) (w : World) (hr0 : Kd.C (Kd.int .u16) w A0 l0.length l0) (hc0 : l0.length ≤ c0) (hr1 : Kd.C (Kd.int .u16) w A1 l1.length l1) (hc1 : l1.length ≤ c1) (h : spec_WtfEqual.f k l0 l1 = some r) :
    Calls Try.prog 10 #[.slice A0 l0.length c0, .slice A1 l1.length c1] w fun e w' => e = .returned (.bool r) ∧ Drawn0 w w' := by
  have HR0 := Aside0.mk hr0
  have HC0 := Aside0.mk hc0
  clear hr0 hc0
  have HR1 := Aside0.mk hr1
  have HC1 := Aside0.mk hc1
  clear hr1 hc1
  have H : (if (l0.length : Int) = (l1.length : Int) then (spec_WtfEqual.l0 k l0 l1 0) else (some false)) = some r := h
  clear h
  by_cases c3 : (l0.length : Int) = (l1.length : Int)
  · rw [if_pos c3] at H
    have c3b0 : ((l0.length : Int) == (l1.length : Int)) = true := beq_iff_eq.mpr c3
    have c3b1 : ((l0.length : Int) != (l1.length : Int)) = false := bne_eq_false_iff_eq.mpr c3
    have c3b2 : (l0.length == l1.length) = true := by first | simpa using c3 | (simp at c3 ⊢; omega)
    clear c3
    have H' := Aside0.mk H
    clear H
    go_enter Try.func10, Try.ntmps10
    go_wp2
    repeat (go_quiet (fail); try go_wp2)
    go_loopg [5] k (fun kq v5 w' => ∃ (x5_1 : Int), v5 = .int .i64 x5_1 ∧ Aside0 (spec_WtfEqual.l0 kq l0 l1 x5_1 = some r) ∧ Aside0 (kq ≤ k) ∧ Drawn0 w w')
    case atStart => exact ⟨(0), (by first | rfl | (simp; done) | (simp [*]; done)), H', ⟨Nat.le_refl _⟩, by repeat (first | exact Drawn0.refl _ | apply Drawn0.step)⟩
    case round =>
      clear H'
      try clear c1
      try clear p2
      try clear c3
      try clear c3b0
      try clear c3b1
      try clear c3b2
      obtain ⟨x5_1, rfl, HA, HK1, ⟨m1, rfl⟩⟩ := hrel
      cases gk with
      | zero => exact absurd HA.out (by simp [spec_WtfEqual.l0])
      | succ k1 =>
        have H := HA.out
        clear HA
        simp only [spec_WtfEqual.l0] at H
        by_cases c4 : x5_1 < (l0.length : Int)
        · rw [if_pos c4] at H
          have c4b0 : decide (x5_1 < (l0.length : Int)) = true := decide_eq_true c4
          clear c4
          by_cases c5 : 0 ≤ x5_1
          · rw [if_pos c5] at H
            have c5b0 : decide (0 ≤ x5_1) = true := decide_eq_true c5
            clear c5
            by_cases c6 : x5_1 < (l1.length : Int)
            · rw [if_pos c6] at H
              have c6b0 : decide (x5_1 < (l1.length : Int)) = true := decide_eq_true c6
              clear c6
              by_cases c7 : (rd l0 x5_1) = (rd l1 x5_1)
              · rw [if_pos c7] at H
                have c7b0 : ((rd l0 x5_1) == (rd l1 x5_1)) = true := beq_iff_eq.mpr c7
                have c7b1 : ((rd l0 x5_1) != (rd l1 x5_1)) = false := bne_eq_false_iff_eq.mpr c7
                clear c7
                have H' := Aside0.mk H
                clear H
                have p144 : 0 ≤ (x5_1 : Int) := of_decide_eq_true (by first | (with_reducible assumption) | assumption)
                have q144 : x5_1 < (l0.length : Int) := of_decide_eq_true (by first | (with_reducible assumption) | assumption)
                obtain ⟨ad144, e144, hx144_0⟩ := Kd.at_int HR0.out x5_1 p144 q144
                cases e144
                replace p144 := eq_true p144
                replace q144 := eq_true q144
                have p145 : 0 ≤ (x5_1 : Int) := of_decide_eq_true (by first | (with_reducible assumption) | assumption)
                have q145 : x5_1 < (l1.length : Int) := of_decide_eq_true (by first | (with_reducible assumption) | assumption)
                obtain ⟨ad145, e145, hx145_0⟩ := Kd.at_int HR1.out x5_1 p145 q145
                cases e145
                replace p145 := eq_true p145
                replace q145 := eq_true q145
                go_wp2
                repeat (go_quiet (fail); try go_wp2)
                go_roundg k1
                case measure => have := HK1.out; omega
                case rel => exact ⟨(wrap64 (x5_1 + 1)), (by first | rfl | (simp; done) | (simp [*]; done)), H', ⟨by have := HK1.out; omega⟩, by repeat (first | exact Drawn0.refl _ | apply Drawn0.step)⟩
              · rw [if_neg c7] at H
                have c7b0 : ((rd l0 x5_1) == (rd l1 x5_1)) = false := beq_eq_false_iff_ne.mpr c7
                have c7b1 : ((rd l0 x5_1) != (rd l1 x5_1)) = true := bne_iff_ne.mpr c7
                obtain rfl := Option.some.inj H
                have p144 : 0 ≤ (x5_1 : Int) := of_decide_eq_true (by first | (with_reducible assumption) | assumption)
                have q144 : x5_1 < (l0.length : Int) := of_decide_eq_true (by first | (with_reducible assumption) | assumption)
                obtain ⟨ad144, e144, hx144_0⟩ := Kd.at_int HR0.out x5_1 p144 q144
                cases e144
                replace p144 := eq_true p144
                replace q144 := eq_true q144
                have p145 : 0 ≤ (x5_1 : Int) := of_decide_eq_true (by first | (with_reducible assumption) | assumption)
                have q145 : x5_1 < (l1.length : Int) := of_decide_eq_true (by first | (with_reducible assumption) | assumption)
                obtain ⟨ad145, e145, hx145_0⟩ := Kd.at_int HR1.out x5_1 p145 q145
                cases e145
                replace p145 := eq_true p145
                replace q145 := eq_true q145
                go_wp2
                repeat (go_quiet (fail); try go_wp2)
                go_ret
                exact ⟨by first | rfl | (simp; done) | (simp [*]; done), by repeat (first | exact Drawn0.refl _ | apply Drawn0.step)⟩
            · rw [if_neg c6] at H
              exact absurd H (by simp)
          · rw [if_neg c5] at H
            exact absurd H (by simp)
        · rw [if_neg c4] at H
          have c4b0 : decide (x5_1 < (l0.length : Int)) = false := decide_eq_false c4
          clear c4
          obtain rfl := Option.some.inj H
          go_wp2
          repeat (go_quiet (fail); try go_wp2)
          go_ret
          exact ⟨by first | rfl | (simp; done) | (simp [*]; done), by repeat (first | exact Drawn0.refl _ | apply Drawn0.step)⟩
  · rw [if_neg c3] at H
    have c3b0 : ((l0.length : Int) == (l1.length : Int)) = false := beq_eq_false_iff_ne.mpr c3
    have c3b1 : ((l0.length : Int) != (l1.length : Int)) = true := bne_iff_ne.mpr c3
    have c3b2 : (l0.length == l1.length) = false := by first | simpa using c3 | (simp at c3 ⊢; omega)
    obtain rfl := Option.some.inj H
    go_enter Try.func10, Try.ntmps10
    go_wp2
    repeat (go_quiet (fail); try go_wp2)
    go_ret
    exact ⟨by first | rfl | (simp; done) | (simp [*]; done), by repeat (first | exact Drawn0.refl _ | apply Drawn0.step)⟩

/-! ### spec_TextAscii: function 11 -/
def spec_TextAscii.l0 : Nat → ByteArray → Int → Option (Bool)
  | 0, _, _ => none
  | k + 1, x0, x3 => if x3 < (x0.size : Int) then (if 0 ≤ x3 then (if (bt x0 x3) > 127 then (some false) else (spec_TextAscii.l0 k x0 (wrap64 (x3 + 1)))) else (none)) else (some true)
def spec_TextAscii.f (k : Nat) (a0 : ByteArray) : Option (Bool) := spec_TextAscii.l0 k a0 0
theorem spec_TextAscii.mono_l : ∀ k, (∀ y0 y1, LeO (spec_TextAscii.l0 k y0 y1) (spec_TextAscii.l0 (k + 1) y0 y1))
  | 0 => fun _ _ r h => by simp [spec_TextAscii.l0] at h
  | k + 1 => by
    have ih0 := spec_TextAscii.mono_l k
    · intro y0 y1
      unfold spec_TextAscii.l0
      repeat' first
      | (with_reducible exact ih0 _ _)
      | (with_reducible exact LeO.refl _)
      | (with_reducible exact LeO.none _)
      | (with_reducible refine LeO.ite ?_ ?_)
      | (with_reducible refine LeO.bind ?_ (fun _ => ?_))
      | exact ih0 _ _
      | exact LeO.none _
      | refine LeO.ite ?_ ?_
      | refine LeO.bind ?_ (fun _ => ?_)
theorem spec_TextAscii.mono : ∀ a0 k, LeO (spec_TextAscii.f k a0) (spec_TextAscii.f (k + 1) a0) := by
  intro a0 k
  have ih0 := spec_TextAscii.mono_l k
  unfold spec_TextAscii.f
  repeat' first
      | (with_reducible exact ih0 _ _)
      | (with_reducible exact LeO.refl _)
      | (with_reducible exact LeO.none _)
      | (with_reducible refine LeO.ite ?_ ?_)
      | (with_reducible refine LeO.bind ?_ (fun _ => ?_))
      | exact ih0 _ _
      | exact LeO.none _
      | refine LeO.ite ?_ ?_
      | refine LeO.bind ?_ (fun _ => ?_)
set_option maxHeartbeats 8000000 in
set_option maxRecDepth 100000 in
theorem spec_TextAscii.calls (k : Nat) (a0 : ByteArray) (r : Bool) (w : World) (h : spec_TextAscii.f k a0 = some r) :
    Calls Try.prog 11 #[.string a0] w fun e w' => e = .returned (.bool r) ∧ Drawn0 w w' := by
  have H : (spec_TextAscii.l0 k a0 0) = some r := h
  clear h
  have H' := Aside0.mk H
  clear H
  go_enter Try.func11, Try.ntmps11
  go_wp2
  go_loopg [3] k (fun kq v3 w' => ∃ (x3_1 : Int), v3 = .int .i64 x3_1 ∧ Aside0 (spec_TextAscii.l0 kq a0 x3_1 = some r) ∧ Aside0 (kq ≤ k) ∧ Drawn0 w w')
  case atStart => exact ⟨(0), (by first | rfl | (simp; done) | (simp [*]; done)), H', ⟨Nat.le_refl _⟩, by repeat (first | exact Drawn0.refl _ | apply Drawn0.step)⟩
  case round =>
    clear H'
    try clear c1
    obtain ⟨x3_1, rfl, HA, HK1, ⟨m1, rfl⟩⟩ := hrel
    cases gk with
    | zero => exact absurd HA.out (by simp [spec_TextAscii.l0])
    | succ k1 =>
      have H := HA.out
      clear HA
      simp only [spec_TextAscii.l0] at H
      by_cases c2 : x3_1 < (a0.size : Int)
      · rw [if_pos c2] at H
        have c2b0 : decide (x3_1 < (a0.size : Int)) = true := decide_eq_true c2
        clear c2
        by_cases c3 : 0 ≤ x3_1
        · rw [if_pos c3] at H
          have c3b0 : decide (0 ≤ x3_1) = true := decide_eq_true c3
          clear c3
          by_cases c5 : (bt a0 x3_1) > 127
          · rw [if_pos c5] at H
            have c5b0 : decide (127 < (bt a0 x3_1)) = true := decide_eq_true c5
            clear c5
            obtain rfl := Option.some.inj H
            have p4 : 0 ≤ (x3_1 : Int) := of_decide_eq_true (by first | (with_reducible assumption) | assumption)
            have q4 : x3_1 < (a0.size : Int) := of_decide_eq_true (by first | (with_reducible assumption) | assumption)
            have hx4 := bt_at a0 x3_1
            replace p4 := eq_true p4
            replace q4 := eq_true q4
            go_wp2
            go_ret
            exact ⟨by first | rfl | (simp; done) | (simp [*]; done), by repeat (first | exact Drawn0.refl _ | apply Drawn0.step)⟩
          · rw [if_neg c5] at H
            have c5b0 : decide (127 < (bt a0 x3_1)) = false := decide_eq_false c5
            clear c5
            have H' := Aside0.mk H
            clear H
            have p4 : 0 ≤ (x3_1 : Int) := of_decide_eq_true (by first | (with_reducible assumption) | assumption)
            have q4 : x3_1 < (a0.size : Int) := of_decide_eq_true (by first | (with_reducible assumption) | assumption)
            have hx4 := bt_at a0 x3_1
            replace p4 := eq_true p4
            replace q4 := eq_true q4
            go_wp2
            go_roundg k1
            case measure => have := HK1.out; omega
            case rel => exact ⟨(wrap64 (x3_1 + 1)), (by first | rfl | (simp; done) | (simp [*]; done)), H', ⟨by have := HK1.out; omega⟩, by repeat (first | exact Drawn0.refl _ | apply Drawn0.step)⟩
        · rw [if_neg c3] at H
          exact absurd H (by simp)
      · rw [if_neg c2] at H
        have c2b0 : decide (x3_1 < (a0.size : Int)) = false := decide_eq_false c2
        clear c2
        obtain rfl := Option.some.inj H
        go_wp2
        go_ret
        exact ⟨by first | rfl | (simp; done) | (simp [*]; done), by repeat (first | exact Drawn0.refl _ | apply Drawn0.step)⟩

end
end Go.Proofs.Ytmgepjnaalnckaa.PFnQuoteSingle
