-- Written by printx.py of this session, over the kit's print, with contracts of this session for some functions
import Derived.Test.YtheichpmhfledaaDoorPFnNumberBackx0
namespace Go.Proofs.YtheichpmhfledaaDoor.PFnNumberBack
open Go.RowKit Go.Proofs.YtheichpmhfledaaDoorW.PrintWords Go.Proofs.YtheichpmhfledaaDoorW.PrintLast Go.Proofs.YtheichpmhfledaaDoorW.PrintMore
attribute [local go_sem] max2_int min2_int max_two min_two max_three min_three max_four min_four   -- for this text's walks alone
set_option linter.unusedVariables false
set_option linter.unusedSimpArgs false

-- NOT PRINTED: function 17 (math_IsNaN)

-- NOT PRINTED: function 18 (math_Float64bits)

-- NOT PRINTED: function 33 (math_Float64frombits)

-- NOT PRINTED: function 24 (math_Abs)

-- NOT PRINTED: function 19 (math_IsInf)

-- function 25 (strconv_FormatInt): its contract stands in YtheichpmhfledaaDoorExtDigits

-- NOT PRINTED: function 11 (js_ast_TryToStringOnNumberSafely)

-- NOT PRINTED: function 5 (impl_NumberToString)

/-! ### spec_Rune: function 26 -/
mutual
def spec_Rune.j0 : Nat → ByteArray → Int → Bool → Option (Int × Int)
  | 0, _, _, _ => none
  | k + 1, x0, x1, x19 => if x19 = true then (some (0, 0)) else (if 0 ≤ x1 then (if x1 < (x0.size : Int) then (if (wrap64 (bt x0 x1)) < 128 then (some (wrap64 (bt x0 x1), 1)) else (if (wrap64 (bt x0 x1)) ≥ 194 then (spec_Rune.j1 k x0 x1 (wrap64 (bt x0 x1)) 0 0 0 (decide ((wrap64 (bt x0 x1)) ≤ 223))) else (spec_Rune.j1 k x0 x1 (wrap64 (bt x0 x1)) 0 0 0 false))) else (none)) else (none))
def spec_Rune.j3 : Nat → ByteArray → Int → Int → Int → Int → Option (Int × Int)
  | 0, _, _, _, _, _ => none
  | k + 1, x0, x1, x7, x8, x9 => if x7 = 0 then (spec_Rune.j4 k x0 x1 x7 x8 x9 true) else (spec_Rune.j4 k x0 x1 x7 x8 x9 (decide ((wrap64 (x1 + x7)) > (x0.size : Int))))
def spec_Rune.j4 : Nat → ByteArray → Int → Int → Int → Int → Bool → Option (Int × Int)
  | 0, _, _, _, _, _, _ => none
  | k + 1, x0, x1, x7, x8, x9, x63 => if x63 = true then (some (0, 0)) else (spec_Rune.l0 k x0 x1 x7 x8 x9 1)
def spec_Rune.l0 : Nat → ByteArray → Int → Int → Int → Int → Int → Option (Int × Int)
  | 0, _, _, _, _, _, _ => none
  | k + 1, x0, x1, x7, x8, x9, x10 => if x10 < x7 then (if 0 ≤ (wrap64 (x1 + x10)) then (if (wrap64 (x1 + x10)) < (x0.size : Int) then (if (Go.bits .and .i64 (wrap64 (bt x0 (wrap64 (x1 + x10)))) 192) = 128 then (spec_Rune.l0 k x0 x1 x7 (Go.bits .or .i64 (wrap64 (x8 * 64)) (Go.bits .and .i64 (wrap64 (bt x0 (wrap64 (x1 + x10)))) 63)) x9 (wrap64 (x10 + 1))) else (some (0, 0))) else (none)) else (none)) else (if x8 < x9 then (some (0, 0)) else (if x8 > 1114111 then (some (0, 0)) else (if x8 ≥ 55296 then (if x8 ≤ 57343 then (some (0, 0)) else (some (x8, x7))) else (some (x8, x7)))))
def spec_Rune.j1 : Nat → ByteArray → Int → Int → Int → Int → Int → Bool → Option (Int × Int)
  | 0, _, _, _, _, _, _, _ => none
  | k + 1, x0, x1, x6, x7, x8, x9, x27 => if x27 = true then (spec_Rune.j3 k x0 x1 2 (Go.bits .and .i64 x6 31) 128) else (if x6 ≥ 224 then (spec_Rune.j2 k x0 x1 x6 x7 x8 x9 (decide (x6 ≤ 239))) else (spec_Rune.j2 k x0 x1 x6 x7 x8 x9 false))
def spec_Rune.j2 : Nat → ByteArray → Int → Int → Int → Int → Int → Bool → Option (Int × Int)
  | 0, _, _, _, _, _, _, _ => none
  | k + 1, x0, x1, x6, x7, x8, x9, x36 => if x36 = true then (spec_Rune.j3 k x0 x1 3 (Go.bits .and .i64 x6 15) 2048) else (if x6 ≥ 240 then (if x6 ≤ 244 then (spec_Rune.j3 k x0 x1 4 (Go.bits .and .i64 x6 7) 65536) else (spec_Rune.j3 k x0 x1 x7 x8 x9)) else (spec_Rune.j3 k x0 x1 x7 x8 x9))
end
def spec_Rune.f (k : Nat) (a0 : ByteArray) (a1 : Int) : Option (Int × Int) := if a1 < 0 then (spec_Rune.j0 k a0 a1 true) else (spec_Rune.j0 k a0 a1 (decide (a1 ≥ (a0.size : Int))))
theorem spec_Rune.mono_l : ∀ k, (∀ y0 y1 y2, LeO (spec_Rune.j0 k y0 y1 y2) (spec_Rune.j0 (k + 1) y0 y1 y2)) ∧ (∀ y0 y1 y2 y3 y4, LeO (spec_Rune.j3 k y0 y1 y2 y3 y4) (spec_Rune.j3 (k + 1) y0 y1 y2 y3 y4)) ∧ (∀ y0 y1 y2 y3 y4 y5, LeO (spec_Rune.j4 k y0 y1 y2 y3 y4 y5) (spec_Rune.j4 (k + 1) y0 y1 y2 y3 y4 y5)) ∧ (∀ y0 y1 y2 y3 y4 y5, LeO (spec_Rune.l0 k y0 y1 y2 y3 y4 y5) (spec_Rune.l0 (k + 1) y0 y1 y2 y3 y4 y5)) ∧ (∀ y0 y1 y2 y3 y4 y5 y6, LeO (spec_Rune.j1 k y0 y1 y2 y3 y4 y5 y6) (spec_Rune.j1 (k + 1) y0 y1 y2 y3 y4 y5 y6)) ∧ (∀ y0 y1 y2 y3 y4 y5 y6, LeO (spec_Rune.j2 k y0 y1 y2 y3 y4 y5 y6) (spec_Rune.j2 (k + 1) y0 y1 y2 y3 y4 y5 y6))
  | 0 => ⟨fun _ _ _ r h => by simp [spec_Rune.j0] at h, fun _ _ _ _ _ r h => by simp [spec_Rune.j3] at h, fun _ _ _ _ _ _ r h => by simp [spec_Rune.j4] at h, fun _ _ _ _ _ _ r h => by simp [spec_Rune.l0] at h, fun _ _ _ _ _ _ _ r h => by simp [spec_Rune.j1] at h, fun _ _ _ _ _ _ _ r h => by simp [spec_Rune.j2] at h⟩
  | k + 1 => by
    obtain ⟨ih0, ih1, ih2, ih3, ih4, ih5⟩ := spec_Rune.mono_l k
    refine ⟨?_, ?_, ?_, ?_, ?_, ?_⟩
    · intro y0 y1 y2
      unfold spec_Rune.j0
      repeat' first
      | (with_reducible exact ih0 _ _ _)
      | (with_reducible exact ih1 _ _ _ _ _)
      | (with_reducible exact ih2 _ _ _ _ _ _)
      | (with_reducible exact ih3 _ _ _ _ _ _)
      | (with_reducible exact ih4 _ _ _ _ _ _ _)
      | (with_reducible exact ih5 _ _ _ _ _ _ _)
      | (with_reducible exact LeO.refl _)
      | (with_reducible exact LeO.none _)
      | (with_reducible refine LeO.ite ?_ ?_)
      | (with_reducible refine LeO.bind ?_ (fun _ => ?_))
      | exact ih0 _ _ _
      | exact ih1 _ _ _ _ _
      | exact ih2 _ _ _ _ _ _
      | exact ih3 _ _ _ _ _ _
      | exact ih4 _ _ _ _ _ _ _
      | exact ih5 _ _ _ _ _ _ _
      | exact LeO.none _
      | refine LeO.ite ?_ ?_
      | refine LeO.bind ?_ (fun _ => ?_)
    · intro y0 y1 y2 y3 y4
      unfold spec_Rune.j3
      repeat' first
      | (with_reducible exact ih0 _ _ _)
      | (with_reducible exact ih1 _ _ _ _ _)
      | (with_reducible exact ih2 _ _ _ _ _ _)
      | (with_reducible exact ih3 _ _ _ _ _ _)
      | (with_reducible exact ih4 _ _ _ _ _ _ _)
      | (with_reducible exact ih5 _ _ _ _ _ _ _)
      | (with_reducible exact LeO.refl _)
      | (with_reducible exact LeO.none _)
      | (with_reducible refine LeO.ite ?_ ?_)
      | (with_reducible refine LeO.bind ?_ (fun _ => ?_))
      | exact ih0 _ _ _
      | exact ih1 _ _ _ _ _
      | exact ih2 _ _ _ _ _ _
      | exact ih3 _ _ _ _ _ _
      | exact ih4 _ _ _ _ _ _ _
      | exact ih5 _ _ _ _ _ _ _
      | exact LeO.none _
      | refine LeO.ite ?_ ?_
      | refine LeO.bind ?_ (fun _ => ?_)
    · intro y0 y1 y2 y3 y4 y5
      unfold spec_Rune.j4
      repeat' first
      | (with_reducible exact ih0 _ _ _)
      | (with_reducible exact ih1 _ _ _ _ _)
      | (with_reducible exact ih2 _ _ _ _ _ _)
      | (with_reducible exact ih3 _ _ _ _ _ _)
      | (with_reducible exact ih4 _ _ _ _ _ _ _)
      | (with_reducible exact ih5 _ _ _ _ _ _ _)
      | (with_reducible exact LeO.refl _)
      | (with_reducible exact LeO.none _)
      | (with_reducible refine LeO.ite ?_ ?_)
      | (with_reducible refine LeO.bind ?_ (fun _ => ?_))
      | exact ih0 _ _ _
      | exact ih1 _ _ _ _ _
      | exact ih2 _ _ _ _ _ _
      | exact ih3 _ _ _ _ _ _
      | exact ih4 _ _ _ _ _ _ _
      | exact ih5 _ _ _ _ _ _ _
      | exact LeO.none _
      | refine LeO.ite ?_ ?_
      | refine LeO.bind ?_ (fun _ => ?_)
    · intro y0 y1 y2 y3 y4 y5
      unfold spec_Rune.l0
      repeat' first
      | (with_reducible exact ih0 _ _ _)
      | (with_reducible exact ih1 _ _ _ _ _)
      | (with_reducible exact ih2 _ _ _ _ _ _)
      | (with_reducible exact ih3 _ _ _ _ _ _)
      | (with_reducible exact ih4 _ _ _ _ _ _ _)
      | (with_reducible exact ih5 _ _ _ _ _ _ _)
      | (with_reducible exact LeO.refl _)
      | (with_reducible exact LeO.none _)
      | (with_reducible refine LeO.ite ?_ ?_)
      | (with_reducible refine LeO.bind ?_ (fun _ => ?_))
      | exact ih0 _ _ _
      | exact ih1 _ _ _ _ _
      | exact ih2 _ _ _ _ _ _
      | exact ih3 _ _ _ _ _ _
      | exact ih4 _ _ _ _ _ _ _
      | exact ih5 _ _ _ _ _ _ _
      | exact LeO.none _
      | refine LeO.ite ?_ ?_
      | refine LeO.bind ?_ (fun _ => ?_)
    · intro y0 y1 y2 y3 y4 y5 y6
      unfold spec_Rune.j1
      repeat' first
      | (with_reducible exact ih0 _ _ _)
      | (with_reducible exact ih1 _ _ _ _ _)
      | (with_reducible exact ih2 _ _ _ _ _ _)
      | (with_reducible exact ih3 _ _ _ _ _ _)
      | (with_reducible exact ih4 _ _ _ _ _ _ _)
      | (with_reducible exact ih5 _ _ _ _ _ _ _)
      | (with_reducible exact LeO.refl _)
      | (with_reducible exact LeO.none _)
      | (with_reducible refine LeO.ite ?_ ?_)
      | (with_reducible refine LeO.bind ?_ (fun _ => ?_))
      | exact ih0 _ _ _
      | exact ih1 _ _ _ _ _
      | exact ih2 _ _ _ _ _ _
      | exact ih3 _ _ _ _ _ _
      | exact ih4 _ _ _ _ _ _ _
      | exact ih5 _ _ _ _ _ _ _
      | exact LeO.none _
      | refine LeO.ite ?_ ?_
      | refine LeO.bind ?_ (fun _ => ?_)
    · intro y0 y1 y2 y3 y4 y5 y6
      unfold spec_Rune.j2
      repeat' first
      | (with_reducible exact ih0 _ _ _)
      | (with_reducible exact ih1 _ _ _ _ _)
      | (with_reducible exact ih2 _ _ _ _ _ _)
      | (with_reducible exact ih3 _ _ _ _ _ _)
      | (with_reducible exact ih4 _ _ _ _ _ _ _)
      | (with_reducible exact ih5 _ _ _ _ _ _ _)
      | (with_reducible exact LeO.refl _)
      | (with_reducible exact LeO.none _)
      | (with_reducible refine LeO.ite ?_ ?_)
      | (with_reducible refine LeO.bind ?_ (fun _ => ?_))
      | exact ih0 _ _ _
      | exact ih1 _ _ _ _ _
      | exact ih2 _ _ _ _ _ _
      | exact ih3 _ _ _ _ _ _
      | exact ih4 _ _ _ _ _ _ _
      | exact ih5 _ _ _ _ _ _ _
      | exact LeO.none _
      | refine LeO.ite ?_ ?_
      | refine LeO.bind ?_ (fun _ => ?_)
theorem spec_Rune.mono : ∀ a0 a1 k, LeO (spec_Rune.f k a0 a1) (spec_Rune.f (k + 1) a0 a1) := by
  intro a0 a1 k
  obtain ⟨ih0, ih1, ih2, ih3, ih4, ih5⟩ := spec_Rune.mono_l k
  unfold spec_Rune.f
  repeat' first
      | (with_reducible exact ih0 _ _ _)
      | (with_reducible exact ih1 _ _ _ _ _)
      | (with_reducible exact ih2 _ _ _ _ _ _)
      | (with_reducible exact ih3 _ _ _ _ _ _)
      | (with_reducible exact ih4 _ _ _ _ _ _ _)
      | (with_reducible exact ih5 _ _ _ _ _ _ _)
      | (with_reducible exact LeO.refl _)
      | (with_reducible exact LeO.none _)
      | (with_reducible refine LeO.ite ?_ ?_)
      | (with_reducible refine LeO.bind ?_ (fun _ => ?_))
      | exact ih0 _ _ _
      | exact ih1 _ _ _ _ _
      | exact ih2 _ _ _ _ _ _
      | exact ih3 _ _ _ _ _ _
      | exact ih4 _ _ _ _ _ _ _
      | exact ih5 _ _ _ _ _ _ _
      | exact LeO.none _
      | refine LeO.ite ?_ ?_
      | refine LeO.bind ?_ (fun _ => ?_)
set_option maxHeartbeats 8000000 in
set_option maxRecDepth 100000 in
theorem spec_Rune.calls (k : Nat) (a0 : ByteArray) (a1 : Int) (r1 : Int) (r2 : Int) (w : World) (h : spec_Rune.f k a0 a1 = some (r1, r2)) :
    Calls Tryd.prog 26 #[.string a0, .int .i64 a1] w fun e w' => e = .returned (.tuple #[.int .i64 r1, .int .i64 r2]) ∧ Drawn0 w w' := by
  have H : (if a1 < 0 then (spec_Rune.j0 k a0 a1 true) else (spec_Rune.j0 k a0 a1 (decide (a1 ≥ (a0.size : Int))))) = some (r1, r2) := h
  clear h
  have HC3 := Aside0.mk H
  clear H
  go_enter Tryd.func26, Tryd.ntmps26
  go_upto_region 1 with (fail)
  go_cut [19] (fun v19 wc => ∃ (kq : Nat) (x19_2 : Bool), v19 = .bool x19_2 ∧ Aside0 (spec_Rune.j0 kq a0 a1 x19_2 = some (r1, r2)) ∧ Aside0 (kq ≤ k) ∧ Drawn0 w wc)
  case first =>
    have H := HC3.out
    clear HC3
    by_cases c4 : a1 < 0
    · rw [if_pos c4] at H
      have c4b0 : decide (a1 < 0) = true := decide_eq_true c4
      clear c4
      (first | rw [c4b0] | (simp only [i64_w, i32_w]; rw [c4b0]) | skip)
      have H' := Aside0.mk H
      clear H
      go_wp2
      go_meet
      case rel => exact ⟨_, (true), (by first | rfl | (simp; done) | (simp [*]; done)), H', ⟨by first | omega | exact Nat.le_refl _⟩, by repeat (first | exact Drawn0.refl _ | apply Drawn0.step)⟩
    · rw [if_neg c4] at H
      have c4b0 : decide (a1 < 0) = false := decide_eq_false c4
      clear c4
      (first | rw [c4b0] | (simp only [i64_w, i32_w]; rw [c4b0]) | skip)
      have H' := Aside0.mk H
      clear H
      go_wp2
      go_meet
      case rel => exact ⟨_, (decide (a1 ≥ (a0.size : Int))), (by first | rfl | (simp; done) | (simp [*]; done)), H', ⟨by first | omega | exact Nat.le_refl _⟩, by repeat (first | exact Drawn0.refl _ | apply Drawn0.step)⟩
  case rest =>
    clear HC3
    try clear c2
    try clear p2
    try clear c4
    try clear c4b0
    obtain ⟨kq, x19_2, rfl, HA, HJ2, ⟨mc2, rfl⟩⟩ := hcut
    cases kq with
    | zero => exact absurd HA.out (by simp [spec_Rune.j0])
    | succ kj2 =>
      have H := HA.out
      clear HA
      simp only [spec_Rune.j0] at H
      by_cases c5 : x19_2 = true
      · subst c5
        have H1 : (some (0, 0)) = some (r1, r2) := by rw [if_pos rfl] at H; exact H
        clear H
        have H := H1
        clear H1
        simp only [Option.some.injEq, Prod.mk.injEq] at H
        obtain ⟨rfl, rfl⟩ := H
        go_wp2
        go_ret2
        exact ⟨by first | rfl | (simp; done) | (simp [*]; done), by repeat (first | exact Drawn0.refl _ | apply Drawn0.step)⟩
      · replace c5 := Bool.eq_false_iff.mpr c5
        subst c5
        have H1 : (if 0 ≤ a1 then (if a1 < (a0.size : Int) then (if (wrap64 (bt a0 a1)) < 128 then (some (wrap64 (bt a0 a1), 1)) else (if (wrap64 (bt a0 a1)) ≥ 194 then (spec_Rune.j1 kj2 a0 a1 (wrap64 (bt a0 a1)) 0 0 0 (decide ((wrap64 (bt a0 a1)) ≤ 223))) else (spec_Rune.j1 kj2 a0 a1 (wrap64 (bt a0 a1)) 0 0 0 false))) else (none)) else (none)) = some (r1, r2) := by rw [if_neg (show ¬ (false = true) by decide)] at H; exact H
        clear H
        have H := H1
        clear H1
        by_cases c6 : 0 ≤ a1
        · rw [if_pos c6] at H
          have c6b0 : decide (0 ≤ a1) = true := decide_eq_true c6
          clear c6
          by_cases c7 : a1 < (a0.size : Int)
          · rw [if_pos c7] at H
            have c7b0 : decide (a1 < (a0.size : Int)) = true := decide_eq_true c7
            clear c7
            by_cases c9 : (wrap64 (bt a0 a1)) < 128
            · rw [if_pos c9] at H
              have c9b0 : decide ((wrap64 (bt a0 a1)) < 128) = true := decide_eq_true c9
              clear c9
              simp only [Option.some.injEq, Prod.mk.injEq] at H
              obtain ⟨rfl, rfl⟩ := H
              have p8 : 0 ≤ (a1 : Int) := of_decide_eq_true (by first | (with_reducible assumption) | assumption)
              have q8 : a1 < (a0.size : Int) := of_decide_eq_true (by first | (with_reducible assumption) | assumption)
              have hx8 := bt_at a0 a1
              replace p8 := eq_true p8
              replace q8 := eq_true q8
              go_wp2
              go_ret2
              exact ⟨by first | rfl | (simp; done) | (simp [*]; done), by repeat (first | exact Drawn0.refl _ | apply Drawn0.step)⟩
            · rw [if_neg c9] at H
              have c9b0 : decide ((wrap64 (bt a0 a1)) < 128) = false := decide_eq_false c9
              clear c9
              have HC10 := Aside0.mk H
              clear H
              have p8 : 0 ≤ (a1 : Int) := of_decide_eq_true (by first | (with_reducible assumption) | assumption)
              have q8 : a1 < (a0.size : Int) := of_decide_eq_true (by first | (with_reducible assumption) | assumption)
              have hx8 := bt_at a0 a1
              replace p8 := eq_true p8
              replace q8 := eq_true q8
              go_upto_block 0 with (fail)
              go_cut [7, 8, 9] (fun v7 v8 v9 wc => ∃ (kq : Nat) (x7_9 : Int) (x8_9 : Int) (x9_9 : Int), v7 = .int .i64 x7_9 ∧ v8 = .int .i64 x8_9 ∧ v9 = .int .i64 x9_9 ∧ Aside0 (spec_Rune.j3 kq a0 a1 x7_9 x8_9 x9_9 = some (r1, r2)) ∧ Aside0 (kq ≤ kj2) ∧ Drawn0 w wc)
              case first =>
                have H := HC10.out
                clear HC10
                have HC11 := Aside0.mk H
                clear H
                go_upto_region 7 with (fail)
                go_cut [27] (fun v27 wc => ∃ (kq : Nat) (x27_10 : Bool), v27 = .bool x27_10 ∧ Aside0 (spec_Rune.j1 kq a0 a1 (wrap64 (bt a0 a1)) 0 0 0 x27_10 = some (r1, r2)) ∧ Aside0 (kq ≤ kj2) ∧ Drawn0 w wc)
                case first =>
                  have H := HC11.out
                  clear HC11
                  by_cases c12 : (wrap64 (bt a0 a1)) ≥ 194
                  · rw [if_pos c12] at H
                    have c12b0 : decide (194 ≤ (wrap64 (bt a0 a1))) = true := decide_eq_true c12
                    clear c12
                    (first | rw [c12b0] | (simp only [i64_w, i32_w]; rw [c12b0]) | skip)
                    have H' := Aside0.mk H
                    clear H
                    go_wp2
                    go_meet
                    case rel => exact ⟨_, (decide ((wrap64 (bt a0 a1)) ≤ 223)), (by first | rfl | (simp; done) | (simp [*]; done)), H', ⟨by have := HJ2.out; first | omega | exact Nat.le_refl _⟩, by repeat (first | exact Drawn0.refl _ | apply Drawn0.step)⟩
                  · rw [if_neg c12] at H
                    have c12b0 : decide (194 ≤ (wrap64 (bt a0 a1))) = false := decide_eq_false c12
                    clear c12
                    (first | rw [c12b0] | (simp only [i64_w, i32_w]; rw [c12b0]) | skip)
                    have H' := Aside0.mk H
                    clear H
                    go_wp2
                    go_meet
                    case rel => exact ⟨_, (false), (by first | rfl | (simp; done) | (simp [*]; done)), H', ⟨by have := HJ2.out; first | omega | exact Nat.le_refl _⟩, by repeat (first | exact Drawn0.refl _ | apply Drawn0.step)⟩
                case rest =>
                  clear HC11
                  try clear c1
                  try clear c2
                  try clear p2
                  try clear c4
                  try clear c4b0
                  try clear c5
                  try clear c6
                  try clear c6b0
                  try clear p6
                  try clear c7
                  try clear c7b0
                  try clear p8
                  try clear q8
                  try clear hx8
                  try clear c9
                  try clear c9b0
                  try clear c12
                  try clear c12b0
                  try clear p2
                  try clear p8
                  try clear q8
                  obtain ⟨kq, x27_10, rfl, HA, HJ10, ⟨mc10, rfl⟩⟩ := hcut
                  cases kq with
                  | zero => exact absurd HA.out (by simp [spec_Rune.j1])
                  | succ kj10 =>
                    have H := HA.out
                    clear HA
                    simp only [spec_Rune.j1] at H
                    by_cases c13 : x27_10 = true
                    · subst c13
                      have H1 : (spec_Rune.j3 kj10 a0 a1 2 (Go.bits .and .i64 (wrap64 (bt a0 a1)) 31) 128) = some (r1, r2) := by rw [if_pos rfl] at H; exact H
                      clear H
                      have H := H1
                      clear H1
                      have H' := Aside0.mk H
                      clear H
                      go_wp2
                      go_meet
                      case rel => exact ⟨_, (2), (Go.bits .and .i64 (wrap64 (bt a0 a1)) 31), (128), (by first | rfl | (simp; done) | (simp [*]; done)), (by first | rfl | (simp; done) | (simp [*]; done)), (by first | rfl | (simp; done) | (simp [*]; done)), H', ⟨by have := HJ2.out; have := HJ10.out; first | omega | exact Nat.le_refl _⟩, by repeat (first | exact Drawn0.refl _ | apply Drawn0.step)⟩
                    · replace c13 := Bool.eq_false_iff.mpr c13
                      subst c13
                      have H1 : (if (wrap64 (bt a0 a1)) ≥ 224 then (spec_Rune.j2 kj10 a0 a1 (wrap64 (bt a0 a1)) 0 0 0 (decide ((wrap64 (bt a0 a1)) ≤ 239))) else (spec_Rune.j2 kj10 a0 a1 (wrap64 (bt a0 a1)) 0 0 0 false)) = some (r1, r2) := by rw [if_neg (show ¬ (false = true) by decide)] at H; exact H
                      clear H
                      have H := H1
                      clear H1
                      have HC14 := Aside0.mk H
                      clear H
                      go_upto_region 9 with (fail)
                      go_cut [36] (fun v36 wc => ∃ (kq : Nat) (x36_13 : Bool), v36 = .bool x36_13 ∧ Aside0 (spec_Rune.j2 kq a0 a1 (wrap64 (bt a0 a1)) 0 0 0 x36_13 = some (r1, r2)) ∧ Aside0 (kq ≤ kj10) ∧ Drawn0 w wc)
                      case first =>
                        have H := HC14.out
                        clear HC14
                        by_cases c15 : (wrap64 (bt a0 a1)) ≥ 224
                        · rw [if_pos c15] at H
                          have c15b0 : decide (224 ≤ (wrap64 (bt a0 a1))) = true := decide_eq_true c15
                          clear c15
                          (first | rw [c15b0] | (simp only [i64_w, i32_w]; rw [c15b0]) | skip)
                          have H' := Aside0.mk H
                          clear H
                          go_wp2
                          go_meet
                          case rel => exact ⟨_, (decide ((wrap64 (bt a0 a1)) ≤ 239)), (by first | rfl | (simp; done) | (simp [*]; done)), H', ⟨by have := HJ2.out; have := HJ10.out; first | omega | exact Nat.le_refl _⟩, by repeat (first | exact Drawn0.refl _ | apply Drawn0.step)⟩
                        · rw [if_neg c15] at H
                          have c15b0 : decide (224 ≤ (wrap64 (bt a0 a1))) = false := decide_eq_false c15
                          clear c15
                          (first | rw [c15b0] | (simp only [i64_w, i32_w]; rw [c15b0]) | skip)
                          have H' := Aside0.mk H
                          clear H
                          go_wp2
                          go_meet
                          case rel => exact ⟨_, (false), (by first | rfl | (simp; done) | (simp [*]; done)), H', ⟨by have := HJ2.out; have := HJ10.out; first | omega | exact Nat.le_refl _⟩, by repeat (first | exact Drawn0.refl _ | apply Drawn0.step)⟩
                      case rest =>
                        clear HC14
                        try clear c1
                        try clear c2
                        try clear p2
                        try clear c4
                        try clear c4b0
                        try clear c5
                        try clear c6
                        try clear c6b0
                        try clear p6
                        try clear c7
                        try clear c7b0
                        try clear p8
                        try clear q8
                        try clear hx8
                        try clear c9
                        try clear c9b0
                        try clear c10
                        try clear c12
                        try clear c12b0
                        try clear c13
                        try clear c15
                        try clear c15b0
                        try clear p2
                        try clear p6
                        try clear p8
                        try clear q8
                        obtain ⟨kq, x36_13, rfl, HA, HJ13, ⟨mc13, rfl⟩⟩ := hcut
                        cases kq with
                        | zero => exact absurd HA.out (by simp [spec_Rune.j2])
                        | succ kj13 =>
                          have H := HA.out
                          clear HA
                          simp only [spec_Rune.j2] at H
                          by_cases c16 : x36_13 = true
                          · subst c16
                            have H1 : (spec_Rune.j3 kj13 a0 a1 3 (Go.bits .and .i64 (wrap64 (bt a0 a1)) 15) 2048) = some (r1, r2) := by rw [if_pos rfl] at H; exact H
                            clear H
                            have H := H1
                            clear H1
                            have H' := Aside0.mk H
                            clear H
                            go_wp2
                            go_meet
                            case rel => exact ⟨_, (3), (Go.bits .and .i64 (wrap64 (bt a0 a1)) 15), (2048), (by first | rfl | (simp; done) | (simp [*]; done)), (by first | rfl | (simp; done) | (simp [*]; done)), (by first | rfl | (simp; done) | (simp [*]; done)), H', ⟨by have := HJ2.out; have := HJ10.out; have := HJ13.out; first | omega | exact Nat.le_refl _⟩, by repeat (first | exact Drawn0.refl _ | apply Drawn0.step)⟩
                          · replace c16 := Bool.eq_false_iff.mpr c16
                            subst c16
                            have H1 : (if (wrap64 (bt a0 a1)) ≥ 240 then (if (wrap64 (bt a0 a1)) ≤ 244 then (spec_Rune.j3 kj13 a0 a1 4 (Go.bits .and .i64 (wrap64 (bt a0 a1)) 7) 65536) else (spec_Rune.j3 kj13 a0 a1 0 0 0)) else (spec_Rune.j3 kj13 a0 a1 0 0 0)) = some (r1, r2) := by rw [if_neg (show ¬ (false = true) by decide)] at H; exact H
                            clear H
                            have H := H1
                            clear H1
                            by_cases c17 : (wrap64 (bt a0 a1)) ≥ 240
                            · rw [if_pos c17] at H
                              have c17b0 : decide (240 ≤ (wrap64 (bt a0 a1))) = true := decide_eq_true c17
                              clear c17
                              by_cases c18 : (wrap64 (bt a0 a1)) ≤ 244
                              · rw [if_pos c18] at H
                                have c18b0 : decide ((wrap64 (bt a0 a1)) ≤ 244) = true := decide_eq_true c18
                                clear c18
                                have H' := Aside0.mk H
                                clear H
                                go_wp2
                                go_meet
                                case rel => exact ⟨_, (4), (Go.bits .and .i64 (wrap64 (bt a0 a1)) 7), (65536), (by first | rfl | (simp; done) | (simp [*]; done)), (by first | rfl | (simp; done) | (simp [*]; done)), (by first | rfl | (simp; done) | (simp [*]; done)), H', ⟨by have := HJ2.out; have := HJ10.out; have := HJ13.out; first | omega | exact Nat.le_refl _⟩, by repeat (first | exact Drawn0.refl _ | apply Drawn0.step)⟩
                              · rw [if_neg c18] at H
                                have c18b0 : decide ((wrap64 (bt a0 a1)) ≤ 244) = false := decide_eq_false c18
                                clear c18
                                have H' := Aside0.mk H
                                clear H
                                go_wp2
                                go_meet
                                case rel => exact ⟨_, (0), (0), (0), (by first | rfl | (simp; done) | (simp [*]; done)), (by first | rfl | (simp; done) | (simp [*]; done)), (by first | rfl | (simp; done) | (simp [*]; done)), H', ⟨by have := HJ2.out; have := HJ10.out; have := HJ13.out; first | omega | exact Nat.le_refl _⟩, by repeat (first | exact Drawn0.refl _ | apply Drawn0.step)⟩
                            · rw [if_neg c17] at H
                              have c17b0 : decide (240 ≤ (wrap64 (bt a0 a1))) = false := decide_eq_false c17
                              clear c17
                              have H' := Aside0.mk H
                              clear H
                              go_wp2
                              go_meet
                              case rel => exact ⟨_, (0), (0), (0), (by first | rfl | (simp; done) | (simp [*]; done)), (by first | rfl | (simp; done) | (simp [*]; done)), (by first | rfl | (simp; done) | (simp [*]; done)), H', ⟨by have := HJ2.out; have := HJ10.out; have := HJ13.out; first | omega | exact Nat.le_refl _⟩, by repeat (first | exact Drawn0.refl _ | apply Drawn0.step)⟩
              case rest =>
                clear HC10
                try clear c1
                try clear c2
                try clear p2
                try clear c4
                try clear c4b0
                try clear c5
                try clear c6
                try clear c6b0
                try clear p6
                try clear c7
                try clear c7b0
                try clear p8
                try clear q8
                try clear hx8
                try clear c9
                try clear c9b0
                try clear c10
                try clear c12
                try clear c12b0
                try clear c13
                try clear c15
                try clear c15b0
                try clear c16
                try clear c17
                try clear c17b0
                try clear c18
                try clear c18b0
                try clear p2
                try clear p6
                try clear p8
                try clear q8
                obtain ⟨kq, x7_9, x8_9, x9_9, rfl, rfl, rfl, HA, HJ9, ⟨mc9, rfl⟩⟩ := hcut
                cases kq with
                | zero => exact absurd HA.out (by simp [spec_Rune.j3])
                | succ kj9 =>
                  have H := HA.out
                  clear HA
                  simp only [spec_Rune.j3] at H
                  have HC19 := Aside0.mk H
                  clear H
                  go_upto_region 13 with (fail)
                  go_cut [63] (fun v63 wc => ∃ (kq : Nat) (x63_18 : Bool), v63 = .bool x63_18 ∧ Aside0 (spec_Rune.j4 kq a0 a1 x7_9 x8_9 x9_9 x63_18 = some (r1, r2)) ∧ Aside0 (kq ≤ kj9) ∧ Drawn0 w wc)
                  case first =>
                    have H := HC19.out
                    clear HC19
                    by_cases c20 : x7_9 = 0
                    · rw [if_pos c20] at H
                      have c20b0 : (x7_9 == 0) = true := beq_iff_eq.mpr c20
                      have c20b1 : (x7_9 != 0) = false := bne_eq_false_iff_eq.mpr c20
                      clear c20
                      (first | rw [c20b0] | (simp only [i64_w, i32_w]; rw [c20b0]) | skip)
                      have H' := Aside0.mk H
                      clear H
                      go_wp2
                      go_meet
                      case rel => exact ⟨_, (true), (by first | rfl | (simp; done) | (simp [*]; done)), H', ⟨by have := HJ2.out; have := HJ9.out; first | omega | exact Nat.le_refl _⟩, by repeat (first | exact Drawn0.refl _ | apply Drawn0.step)⟩
                    · rw [if_neg c20] at H
                      have c20b0 : (x7_9 == 0) = false := beq_eq_false_iff_ne.mpr c20
                      have c20b1 : (x7_9 != 0) = true := bne_iff_ne.mpr c20
                      (first | rw [c20b0] | (simp only [i64_w, i32_w]; rw [c20b0]) | skip)
                      have H' := Aside0.mk H
                      clear H
                      go_wp2
                      go_meet
                      case rel => exact ⟨_, (decide ((wrap64 (a1 + x7_9)) > (a0.size : Int))), (by first | rfl | (simp; done) | (simp [*]; done)), H', ⟨by have := HJ2.out; have := HJ9.out; first | omega | exact Nat.le_refl _⟩, by repeat (first | exact Drawn0.refl _ | apply Drawn0.step)⟩
                  case rest =>
                    clear HC19
                    try clear c1
                    try clear c2
                    try clear p2
                    try clear c4
                    try clear c4b0
                    try clear c5
                    try clear c6
                    try clear c6b0
                    try clear p6
                    try clear c7
                    try clear c7b0
                    try clear p8
                    try clear q8
                    try clear hx8
                    try clear c9
                    try clear c9b0
                    try clear c10
                    try clear c12
                    try clear c12b0
                    try clear c13
                    try clear c15
                    try clear c15b0
                    try clear c16
                    try clear c17
                    try clear c17b0
                    try clear c18
                    try clear c18b0
                    try clear c20
                    try clear c20b0
                    try clear c20b1
                    try clear p2
                    try clear p6
                    try clear p8
                    try clear q8
                    obtain ⟨kq, x63_18, rfl, HA, HJ18, ⟨mc18, rfl⟩⟩ := hcut
                    cases kq with
                    | zero => exact absurd HA.out (by simp [spec_Rune.j4])
                    | succ kj18 =>
                      have H := HA.out
                      clear HA
                      simp only [spec_Rune.j4] at H
                      by_cases c21 : x63_18 = true
                      · subst c21
                        have H1 : (some (0, 0)) = some (r1, r2) := by rw [if_pos rfl] at H; exact H
                        clear H
                        have H := H1
                        clear H1
                        simp only [Option.some.injEq, Prod.mk.injEq] at H
                        obtain ⟨rfl, rfl⟩ := H
                        go_wp2
                        go_ret2
                        exact ⟨by first | rfl | (simp; done) | (simp [*]; done), by repeat (first | exact Drawn0.refl _ | apply Drawn0.step)⟩
                      · replace c21 := Bool.eq_false_iff.mpr c21
                        subst c21
                        have H1 : (spec_Rune.l0 kj18 a0 a1 x7_9 x8_9 x9_9 1) = some (r1, r2) := by rw [if_neg (show ¬ (false = true) by decide)] at H; exact H
                        clear H
                        have H := H1
                        clear H1
                        have H' := Aside0.mk H
                        clear H
                        go_wp2
                        go_loopg [8, 10] kj18 (fun kq v8 v10 w' => ∃ (x8_4 : Int) (x10_4 : Int), v8 = .int .i64 x8_4 ∧ v10 = .int .i64 x10_4 ∧ Aside0 (spec_Rune.l0 kq a0 a1 x7_9 x8_4 x9_9 x10_4 = some (r1, r2)) ∧ Aside0 (kq ≤ kj18) ∧ Drawn0 w w')
                        case atStart => exact ⟨(x8_9), (1), (by first | rfl | (simp; done) | (simp [*]; done)), (by first | rfl | (simp; done) | (simp [*]; done)), H', ⟨Nat.le_refl _⟩, by repeat (first | exact Drawn0.refl _ | apply Drawn0.step)⟩
                        case round =>
                          clear H'
                          try clear c1
                          try clear c2
                          try clear p2
                          try clear c4
                          try clear c4b0
                          try clear c5
                          try clear c6
                          try clear c6b0
                          try clear p6
                          try clear c7
                          try clear c7b0
                          try clear p8
                          try clear q8
                          try clear hx8
                          try clear c9
                          try clear c9b0
                          try clear c10
                          try clear c12
                          try clear c12b0
                          try clear c13
                          try clear c15
                          try clear c15b0
                          try clear c16
                          try clear c17
                          try clear c17b0
                          try clear c18
                          try clear c18b0
                          try clear c20
                          try clear c20b0
                          try clear c20b1
                          try clear c21
                          try clear p2
                          try clear p6
                          try clear p8
                          try clear q8
                          obtain ⟨x8_4, x10_4, rfl, rfl, HA, HK4, ⟨m4, rfl⟩⟩ := hrel
                          cases gk with
                          | zero => exact absurd HA.out (by simp [spec_Rune.l0])
                          | succ k4 =>
                            have H := HA.out
                            clear HA
                            simp only [spec_Rune.l0] at H
                            by_cases c22 : x10_4 < x7_9
                            · rw [if_pos c22] at H
                              have c22b0 : decide (x10_4 < x7_9) = true := decide_eq_true c22
                              clear c22
                              obtain ⟨ji23, hji23⟩ : ∃ j_ : Int, (wrap64 (a1 + x10_4)) = j_ := ⟨_, rfl⟩
                              replace H : (if 0 ≤ (ji23) then (if (ji23) < (a0.size : Int) then (if (Go.bits .and .i64 (wrap64 (bt a0 (ji23))) 192) = 128 then (spec_Rune.l0 k4 a0 a1 x7_9 (Go.bits .or .i64 (wrap64 (x8_4 * 64)) (Go.bits .and .i64 (wrap64 (bt a0 (ji23))) 63)) x9_9 (wrap64 (x10_4 + 1))) else (some (0, 0))) else (none)) else (none)) = some (r1, r2) := by first | (rw [hji23] at H; exact H) | (simp only [hji23] at H ⊢; exact H)
                              have hji23w : (IntKind.i64.wrap (a1 + x10_4)) = ji23 := (i64_w _).trans hji23
                              by_cases c24 : 0 ≤ (ji23)
                              · rw [if_pos c24] at H
                                have c24b0 : decide (0 ≤ (ji23)) = true := decide_eq_true c24
                                clear c24
                                by_cases c25 : (ji23) < (a0.size : Int)
                                · rw [if_pos c25] at H
                                  have c25b0 : decide ((ji23) < (a0.size : Int)) = true := decide_eq_true c25
                                  clear c25
                                  by_cases c27 : (Go.bits .and .i64 (wrap64 (bt a0 (ji23))) 192) = 128
                                  · rw [if_pos c27] at H
                                    have c27b0 : ((Go.bits .and .i64 (wrap64 (bt a0 (ji23))) 192) == 128) = true := beq_iff_eq.mpr c27
                                    have c27b1 : ((Go.bits .and .i64 (wrap64 (bt a0 (ji23))) 192) != 128) = false := bne_eq_false_iff_eq.mpr c27
                                    clear c27
                                    have H' := Aside0.mk H
                                    clear H
                                    have p26 : 0 ≤ ((ji23) : Int) := of_decide_eq_true (by first | (with_reducible assumption) | assumption)
                                    have q26 : (ji23) < (a0.size : Int) := of_decide_eq_true (by first | (with_reducible assumption) | assumption)
                                    have hx26 := bt_at a0 (ji23)
                                    replace p26 := eq_true p26
                                    replace q26 := eq_true q26
                                    go_wp2
                                    go_roundg k4
                                    case measure => have := HJ2.out; have := HJ9.out; have := HJ18.out; have := HK4.out; omega
                                    case rel => exact ⟨(Go.bits .or .i64 (wrap64 (x8_4 * 64)) (Go.bits .and .i64 (wrap64 (bt a0 (ji23))) 63)), (wrap64 (x10_4 + 1)), (by first | rfl | (simp; done) | (simp only [← hji23] <;> (first | rfl | simp)) | (simp [*]; done)), (by first | rfl | (simp; done) | (simp [*]; done)), H', ⟨by have := HJ2.out; have := HJ9.out; have := HJ18.out; have := HK4.out; omega⟩, by repeat (first | exact Drawn0.refl _ | apply Drawn0.step)⟩
                                  · rw [if_neg c27] at H
                                    have c27b0 : ((Go.bits .and .i64 (wrap64 (bt a0 (ji23))) 192) == 128) = false := beq_eq_false_iff_ne.mpr c27
                                    have c27b1 : ((Go.bits .and .i64 (wrap64 (bt a0 (ji23))) 192) != 128) = true := bne_iff_ne.mpr c27
                                    simp only [Option.some.injEq, Prod.mk.injEq] at H
                                    obtain ⟨rfl, rfl⟩ := H
                                    have p26 : 0 ≤ ((ji23) : Int) := of_decide_eq_true (by first | (with_reducible assumption) | assumption)
                                    have q26 : (ji23) < (a0.size : Int) := of_decide_eq_true (by first | (with_reducible assumption) | assumption)
                                    have hx26 := bt_at a0 (ji23)
                                    replace p26 := eq_true p26
                                    replace q26 := eq_true q26
                                    go_wp2
                                    go_ret2
                                    exact ⟨by first | rfl | (simp; done) | (simp only [← hji23] <;> (first | rfl | simp)) | (simp [*]; done), by repeat (first | exact Drawn0.refl _ | apply Drawn0.step)⟩
                                · rw [if_neg c25] at H
                                  exact absurd H (by simp)
                              · rw [if_neg c24] at H
                                exact absurd H (by simp)
                            · rw [if_neg c22] at H
                              have c22b0 : decide (x10_4 < x7_9) = false := decide_eq_false c22
                              clear c22
                              by_cases c28 : x8_4 < x9_9
                              · rw [if_pos c28] at H
                                have c28b0 : decide (x8_4 < x9_9) = true := decide_eq_true c28
                                clear c28
                                simp only [Option.some.injEq, Prod.mk.injEq] at H
                                obtain ⟨rfl, rfl⟩ := H
                                go_wp2
                                go_ret2
                                exact ⟨by first | rfl | (simp; done) | (simp [*]; done), by repeat (first | exact Drawn0.refl _ | apply Drawn0.step)⟩
                              · rw [if_neg c28] at H
                                have c28b0 : decide (x8_4 < x9_9) = false := decide_eq_false c28
                                clear c28
                                by_cases c29 : x8_4 > 1114111
                                · rw [if_pos c29] at H
                                  have c29b0 : decide (1114111 < x8_4) = true := decide_eq_true c29
                                  clear c29
                                  simp only [Option.some.injEq, Prod.mk.injEq] at H
                                  obtain ⟨rfl, rfl⟩ := H
                                  go_wp2
                                  go_ret2
                                  exact ⟨by first | rfl | (simp; done) | (simp [*]; done), by repeat (first | exact Drawn0.refl _ | apply Drawn0.step)⟩
                                · rw [if_neg c29] at H
                                  have c29b0 : decide (1114111 < x8_4) = false := decide_eq_false c29
                                  clear c29
                                  by_cases c30 : x8_4 ≥ 55296
                                  · rw [if_pos c30] at H
                                    have c30b0 : decide (55296 ≤ x8_4) = true := decide_eq_true c30
                                    clear c30
                                    by_cases c31 : x8_4 ≤ 57343
                                    · rw [if_pos c31] at H
                                      have c31b0 : decide (x8_4 ≤ 57343) = true := decide_eq_true c31
                                      clear c31
                                      simp only [Option.some.injEq, Prod.mk.injEq] at H
                                      obtain ⟨rfl, rfl⟩ := H
                                      go_wp2
                                      go_ret2
                                      exact ⟨by first | rfl | (simp; done) | (simp [*]; done), by repeat (first | exact Drawn0.refl _ | apply Drawn0.step)⟩
                                    · rw [if_neg c31] at H
                                      have c31b0 : decide (x8_4 ≤ 57343) = false := decide_eq_false c31
                                      clear c31
                                      simp only [Option.some.injEq, Prod.mk.injEq] at H
                                      obtain ⟨rfl, rfl⟩ := H
                                      go_wp2
                                      go_ret2
                                      exact ⟨by first | rfl | (simp; done) | (simp [*]; done), by repeat (first | exact Drawn0.refl _ | apply Drawn0.step)⟩
                                  · rw [if_neg c30] at H
                                    have c30b0 : decide (55296 ≤ x8_4) = false := decide_eq_false c30
                                    clear c30
                                    simp only [Option.some.injEq, Prod.mk.injEq] at H
                                    obtain ⟨rfl, rfl⟩ := H
                                    go_wp2
                                    go_ret2
                                    exact ⟨by first | rfl | (simp; done) | (simp [*]; done), by repeat (first | exact Drawn0.refl _ | apply Drawn0.step)⟩
          · rw [if_neg c7] at H
            exact absurd H (by simp)
        · rw [if_neg c6] at H
          exact absurd H (by simp)

/-! ### spec_WtfRune: function 12 -/
def spec_WtfRune.f (k : Nat) (a0 : ByteArray) : Option (Int × Int) := (spec_Rune.f k a0 0).bind fun bt101 => (if bt101.2 > 0 then (some (bt101.1, bt101.2)) else (if (a0.size : Int) < 3 then (some (0, 0)) else (if 0 < (a0.size : Int) then (if (bt a0 0) = 237 then (if 1 < (a0.size : Int) then (if (bt a0 1) < 160 then (some (0, 0)) else (if (bt a0 1) > 191 then (some (0, 0)) else (if 2 < (a0.size : Int) then (if (Go.bits .and .u8 (bt a0 2) 192) = 128 then (some (Go.bits .or .i64 (Go.bits .or .i64 53248 (wrap64 ((wrap64 (Go.bits .and .u8 (bt a0 1) 63)) * 64))) (wrap64 (Go.bits .and .u8 (bt a0 2) 63)), 3)) else (some (0, 0))) else (none)))) else (none)) else (some (0, 0))) else (none))))
theorem spec_WtfRune.mono : ∀ a0 k, LeO (spec_WtfRune.f k a0) (spec_WtfRune.f (k + 1) a0) := by
  intro a0 k
  unfold spec_WtfRune.f
  repeat' first
      | (with_reducible exact spec_Rune.mono _ _ _)
      | (with_reducible exact LeO.refl _)
      | (with_reducible exact LeO.none _)
      | (with_reducible refine LeO.ite ?_ ?_)
      | (with_reducible refine LeO.bind ?_ (fun _ => ?_))
      | exact spec_Rune.mono _ _ _
      | exact LeO.none _
      | refine LeO.ite ?_ ?_
      | refine LeO.bind ?_ (fun _ => ?_)
set_option maxHeartbeats 8000000 in
set_option maxRecDepth 100000 in
theorem spec_WtfRune.calls (k : Nat) (a0 : ByteArray) (r1 : Int) (r2 : Int) (w : World) (h : spec_WtfRune.f k a0 = some (r1, r2)) :
    Calls Tryd.prog 12 #[.string a0] w fun e w' => e = .returned (.tuple #[.int .i64 r1, .int .i64 r2]) ∧ Drawn0 w w' := by
  have H : ((spec_Rune.f k a0 0).bind fun bt101 => (if bt101.2 > 0 then (some (bt101.1, bt101.2)) else (if (a0.size : Int) < 3 then (some (0, 0)) else (if 0 < (a0.size : Int) then (if (bt a0 0) = 237 then (if 1 < (a0.size : Int) then (if (bt a0 1) < 160 then (some (0, 0)) else (if (bt a0 1) > 191 then (some (0, 0)) else (if 2 < (a0.size : Int) then (if (Go.bits .and .u8 (bt a0 2) 192) = 128 then (some (Go.bits .or .i64 (Go.bits .or .i64 53248 (wrap64 ((wrap64 (Go.bits .and .u8 (bt a0 1) 63)) * 64))) (wrap64 (Go.bits .and .u8 (bt a0 2) 63)), 3)) else (some (0, 0))) else (none)))) else (none)) else (some (0, 0))) else (none))))) = some (r1, r2) := h
  clear h
  replace H := Option.bind_eq_some_iff.mp H
  obtain ⟨⟨t101, t102⟩, A20, H⟩ := H
  replace H : (if t102 > 0 then (some (t101, t102)) else (if (a0.size : Int) < 3 then (some (0, 0)) else (if 0 < (a0.size : Int) then (if (bt a0 0) = 237 then (if 1 < (a0.size : Int) then (if (bt a0 1) < 160 then (some (0, 0)) else (if (bt a0 1) > 191 then (some (0, 0)) else (if 2 < (a0.size : Int) then (if (Go.bits .and .u8 (bt a0 2) 192) = 128 then (some (Go.bits .or .i64 (Go.bits .or .i64 53248 (wrap64 ((wrap64 (Go.bits .and .u8 (bt a0 1) 63)) * 64))) (wrap64 (Go.bits .and .u8 (bt a0 2) 63)), 3)) else (some (0, 0))) else (none)))) else (none)) else (some (0, 0))) else (none)))) = some (r1, r2) := H
  have A2 := Aside0.mk A20
  clear A20
  by_cases c3 : t102 > 0
  · rw [if_pos c3] at H
    have c3b0 : decide (0 < t102) = true := decide_eq_true c3
    clear c3
    simp only [Option.some.injEq, Prod.mk.injEq] at H
    obtain ⟨rfl, rfl⟩ := H
    go_enter Tryd.func12, Tryd.ntmps12
    go_wp2_with (first | (go_at_call 26; (with_reducible refine (spec_Rune.calls k a0 0 t101 t102 _ A2.out).mono ?_); rintro e w' ⟨rfl, ⟨nd, rfl⟩⟩; (try first | exact ⟨rfl, _, World.drewN_drewN _ _ _⟩ | exact ⟨rfl, _, Eq.trans (World.drewN_drewN _ _ _) (congrArg (World.drewN _) (Nat.add_assoc _ _ _))⟩)))
    repeat (go_quiet (first | (go_at_call 26; (with_reducible refine (spec_Rune.calls k a0 0 t101 t102 _ A2.out).mono ?_); rintro e w' ⟨rfl, ⟨nd, rfl⟩⟩; (try first | exact ⟨rfl, _, World.drewN_drewN _ _ _⟩ | exact ⟨rfl, _, Eq.trans (World.drewN_drewN _ _ _) (congrArg (World.drewN _) (Nat.add_assoc _ _ _))⟩))); try go_wp2_with (first | (go_at_call 26; (with_reducible refine (spec_Rune.calls k a0 0 t101 t102 _ A2.out).mono ?_); rintro e w' ⟨rfl, ⟨nd, rfl⟩⟩; (try first | exact ⟨rfl, _, World.drewN_drewN _ _ _⟩ | exact ⟨rfl, _, Eq.trans (World.drewN_drewN _ _ _) (congrArg (World.drewN _) (Nat.add_assoc _ _ _))⟩))))
    go_ret2
    exact ⟨by first | rfl | (simp; done) | (simp [*]; done), by repeat (first | exact Drawn0.refl _ | apply Drawn0.step)⟩
  · rw [if_neg c3] at H
    have c3b0 : decide (0 < t102) = false := decide_eq_false c3
    clear c3
    by_cases c4 : (a0.size : Int) < 3
    · rw [if_pos c4] at H
      have c4b0 : decide ((a0.size : Int) < 3) = true := decide_eq_true c4
      have c4b1 : decide (a0.size < 3) = true := decide_eq_true (by omega)
      clear c4
      simp only [Option.some.injEq, Prod.mk.injEq] at H
      obtain ⟨rfl, rfl⟩ := H
      go_enter Tryd.func12, Tryd.ntmps12
      go_wp2_with (first | (go_at_call 26; (with_reducible refine (spec_Rune.calls k a0 0 t101 t102 _ A2.out).mono ?_); rintro e w' ⟨rfl, ⟨nd, rfl⟩⟩; (try first | exact ⟨rfl, _, World.drewN_drewN _ _ _⟩ | exact ⟨rfl, _, Eq.trans (World.drewN_drewN _ _ _) (congrArg (World.drewN _) (Nat.add_assoc _ _ _))⟩)))
      repeat (go_quiet (first | (go_at_call 26; (with_reducible refine (spec_Rune.calls k a0 0 t101 t102 _ A2.out).mono ?_); rintro e w' ⟨rfl, ⟨nd, rfl⟩⟩; (try first | exact ⟨rfl, _, World.drewN_drewN _ _ _⟩ | exact ⟨rfl, _, Eq.trans (World.drewN_drewN _ _ _) (congrArg (World.drewN _) (Nat.add_assoc _ _ _))⟩))); try go_wp2_with (first | (go_at_call 26; (with_reducible refine (spec_Rune.calls k a0 0 t101 t102 _ A2.out).mono ?_); rintro e w' ⟨rfl, ⟨nd, rfl⟩⟩; (try first | exact ⟨rfl, _, World.drewN_drewN _ _ _⟩ | exact ⟨rfl, _, Eq.trans (World.drewN_drewN _ _ _) (congrArg (World.drewN _) (Nat.add_assoc _ _ _))⟩))))
      go_ret2
      exact ⟨by first | rfl | (simp; done) | (simp [*]; done), by repeat (first | exact Drawn0.refl _ | apply Drawn0.step)⟩
    · rw [if_neg c4] at H
      have c4b0 : decide ((a0.size : Int) < 3) = false := decide_eq_false c4
      have c4b1 : decide (a0.size < 3) = false := decide_eq_false (by omega)
      clear c4
      by_cases c5 : 0 < (a0.size : Int)
      · rw [if_pos c5] at H
        have c5b0 : decide (0 < (a0.size : Int)) = true := decide_eq_true c5
        have c5b1 : decide (0 < a0.size) = true := decide_eq_true (by omega)
        clear c5
        by_cases c7 : (bt a0 0) = 237
        · rw [if_pos c7] at H
          have c7b0 : ((bt a0 0) == 237) = true := beq_iff_eq.mpr c7
          have c7b1 : ((bt a0 0) != 237) = false := bne_eq_false_iff_eq.mpr c7
          clear c7
          by_cases c8 : 1 < (a0.size : Int)
          · rw [if_pos c8] at H
            have c8b0 : decide (1 < (a0.size : Int)) = true := decide_eq_true c8
            have c8b1 : decide (1 < a0.size) = true := decide_eq_true (by omega)
            clear c8
            by_cases c10 : (bt a0 1) < 160
            · rw [if_pos c10] at H
              have c10b0 : decide ((bt a0 1) < 160) = true := decide_eq_true c10
              clear c10
              simp only [Option.some.injEq, Prod.mk.injEq] at H
              obtain ⟨rfl, rfl⟩ := H
              go_enter Tryd.func12, Tryd.ntmps12
              go_wp2_with (first | (go_at_call 26; (with_reducible refine (spec_Rune.calls k a0 0 t101 t102 _ A2.out).mono ?_); rintro e w' ⟨rfl, ⟨nd, rfl⟩⟩; (try first | exact ⟨rfl, _, World.drewN_drewN _ _ _⟩ | exact ⟨rfl, _, Eq.trans (World.drewN_drewN _ _ _) (congrArg (World.drewN _) (Nat.add_assoc _ _ _))⟩); have p6 : 0 ≤ (0 : Int) := (by omega); have q6 : 0 < a0.size := (by have : (0 : Int) < (a0.size : Int) := of_decide_eq_true (by first | (with_reducible assumption) | assumption); omega); have hx6 : ∀ h : 0 < a0.size, ((a0[0]'h).toNat : Int) = bt a0 0 := bt_at a0 0; clear p6; have qi6 : (0 < (a0.size : Int)) = True := eq_true (of_decide_eq_true (by first | (with_reducible assumption) | assumption)); replace q6 := eq_true q6; have p9 : 0 ≤ (1 : Int) := (by omega); have q9 : 1 < a0.size := (by have : (1 : Int) < (a0.size : Int) := of_decide_eq_true (by first | (with_reducible assumption) | assumption); omega); have hx9 : ∀ h : 1 < a0.size, ((a0[1]'h).toNat : Int) = bt a0 1 := bt_at a0 1; clear p9; have qi9 : (1 < (a0.size : Int)) = True := eq_true (of_decide_eq_true (by first | (with_reducible assumption) | assumption)); replace q9 := eq_true q9))
              repeat (go_quiet (first | (go_at_call 26; (with_reducible refine (spec_Rune.calls k a0 0 t101 t102 _ A2.out).mono ?_); rintro e w' ⟨rfl, ⟨nd, rfl⟩⟩; (try first | exact ⟨rfl, _, World.drewN_drewN _ _ _⟩ | exact ⟨rfl, _, Eq.trans (World.drewN_drewN _ _ _) (congrArg (World.drewN _) (Nat.add_assoc _ _ _))⟩); have p6 : 0 ≤ (0 : Int) := (by omega); have q6 : 0 < a0.size := (by have : (0 : Int) < (a0.size : Int) := of_decide_eq_true (by first | (with_reducible assumption) | assumption); omega); have hx6 : ∀ h : 0 < a0.size, ((a0[0]'h).toNat : Int) = bt a0 0 := bt_at a0 0; clear p6; have qi6 : (0 < (a0.size : Int)) = True := eq_true (of_decide_eq_true (by first | (with_reducible assumption) | assumption)); replace q6 := eq_true q6; have p9 : 0 ≤ (1 : Int) := (by omega); have q9 : 1 < a0.size := (by have : (1 : Int) < (a0.size : Int) := of_decide_eq_true (by first | (with_reducible assumption) | assumption); omega); have hx9 : ∀ h : 1 < a0.size, ((a0[1]'h).toNat : Int) = bt a0 1 := bt_at a0 1; clear p9; have qi9 : (1 < (a0.size : Int)) = True := eq_true (of_decide_eq_true (by first | (with_reducible assumption) | assumption)); replace q9 := eq_true q9)); try go_wp2_with (first | (go_at_call 26; (with_reducible refine (spec_Rune.calls k a0 0 t101 t102 _ A2.out).mono ?_); rintro e w' ⟨rfl, ⟨nd, rfl⟩⟩; (try first | exact ⟨rfl, _, World.drewN_drewN _ _ _⟩ | exact ⟨rfl, _, Eq.trans (World.drewN_drewN _ _ _) (congrArg (World.drewN _) (Nat.add_assoc _ _ _))⟩); have p6 : 0 ≤ (0 : Int) := (by omega); have q6 : 0 < a0.size := (by have : (0 : Int) < (a0.size : Int) := of_decide_eq_true (by first | (with_reducible assumption) | assumption); omega); have hx6 : ∀ h : 0 < a0.size, ((a0[0]'h).toNat : Int) = bt a0 0 := bt_at a0 0; clear p6; have qi6 : (0 < (a0.size : Int)) = True := eq_true (of_decide_eq_true (by first | (with_reducible assumption) | assumption)); replace q6 := eq_true q6; have p9 : 0 ≤ (1 : Int) := (by omega); have q9 : 1 < a0.size := (by have : (1 : Int) < (a0.size : Int) := of_decide_eq_true (by first | (with_reducible assumption) | assumption); omega); have hx9 : ∀ h : 1 < a0.size, ((a0[1]'h).toNat : Int) = bt a0 1 := bt_at a0 1; clear p9; have qi9 : (1 < (a0.size : Int)) = True := eq_true (of_decide_eq_true (by first | (with_reducible assumption) | assumption)); replace q9 := eq_true q9)))
              go_ret2
              exact ⟨by first | rfl | (simp; done) | (simp [*]; done), by repeat (first | exact Drawn0.refl _ | apply Drawn0.step)⟩
            · rw [if_neg c10] at H
              have c10b0 : decide ((bt a0 1) < 160) = false := decide_eq_false c10
              clear c10
              by_cases c12 : (bt a0 1) > 191
              · rw [if_pos c12] at H
                have c12b0 : decide (191 < (bt a0 1)) = true := decide_eq_true c12
                clear c12
                simp only [Option.some.injEq, Prod.mk.injEq] at H
                obtain ⟨rfl, rfl⟩ := H
                go_enter Tryd.func12, Tryd.ntmps12
                go_wp2_with (first | (go_at_call 26; (with_reducible refine (spec_Rune.calls k a0 0 t101 t102 _ A2.out).mono ?_); rintro e w' ⟨rfl, ⟨nd, rfl⟩⟩; (try first | exact ⟨rfl, _, World.drewN_drewN _ _ _⟩ | exact ⟨rfl, _, Eq.trans (World.drewN_drewN _ _ _) (congrArg (World.drewN _) (Nat.add_assoc _ _ _))⟩); have p6 : 0 ≤ (0 : Int) := (by omega); have q6 : 0 < a0.size := (by have : (0 : Int) < (a0.size : Int) := of_decide_eq_true (by first | (with_reducible assumption) | assumption); omega); have hx6 : ∀ h : 0 < a0.size, ((a0[0]'h).toNat : Int) = bt a0 0 := bt_at a0 0; clear p6; have qi6 : (0 < (a0.size : Int)) = True := eq_true (of_decide_eq_true (by first | (with_reducible assumption) | assumption)); replace q6 := eq_true q6; have p9 : 0 ≤ (1 : Int) := (by omega); have q9 : 1 < a0.size := (by have : (1 : Int) < (a0.size : Int) := of_decide_eq_true (by first | (with_reducible assumption) | assumption); omega); have hx9 : ∀ h : 1 < a0.size, ((a0[1]'h).toNat : Int) = bt a0 1 := bt_at a0 1; clear p9; have qi9 : (1 < (a0.size : Int)) = True := eq_true (of_decide_eq_true (by first | (with_reducible assumption) | assumption)); replace q9 := eq_true q9; have p11 : 0 ≤ (1 : Int) := (by omega); have q11 : 1 < a0.size := (by have : (1 : Int) < (a0.size : Int) := of_decide_eq_true (by first | (with_reducible assumption) | assumption); omega); have hx11 : ∀ h : 1 < a0.size, ((a0[1]'h).toNat : Int) = bt a0 1 := bt_at a0 1; clear p11; have qi11 : (1 < (a0.size : Int)) = True := eq_true (of_decide_eq_true (by first | (with_reducible assumption) | assumption)); replace q11 := eq_true q11))
                repeat (go_quiet (first | (go_at_call 26; (with_reducible refine (spec_Rune.calls k a0 0 t101 t102 _ A2.out).mono ?_); rintro e w' ⟨rfl, ⟨nd, rfl⟩⟩; (try first | exact ⟨rfl, _, World.drewN_drewN _ _ _⟩ | exact ⟨rfl, _, Eq.trans (World.drewN_drewN _ _ _) (congrArg (World.drewN _) (Nat.add_assoc _ _ _))⟩); have p6 : 0 ≤ (0 : Int) := (by omega); have q6 : 0 < a0.size := (by have : (0 : Int) < (a0.size : Int) := of_decide_eq_true (by first | (with_reducible assumption) | assumption); omega); have hx6 : ∀ h : 0 < a0.size, ((a0[0]'h).toNat : Int) = bt a0 0 := bt_at a0 0; clear p6; have qi6 : (0 < (a0.size : Int)) = True := eq_true (of_decide_eq_true (by first | (with_reducible assumption) | assumption)); replace q6 := eq_true q6; have p9 : 0 ≤ (1 : Int) := (by omega); have q9 : 1 < a0.size := (by have : (1 : Int) < (a0.size : Int) := of_decide_eq_true (by first | (with_reducible assumption) | assumption); omega); have hx9 : ∀ h : 1 < a0.size, ((a0[1]'h).toNat : Int) = bt a0 1 := bt_at a0 1; clear p9; have qi9 : (1 < (a0.size : Int)) = True := eq_true (of_decide_eq_true (by first | (with_reducible assumption) | assumption)); replace q9 := eq_true q9; have p11 : 0 ≤ (1 : Int) := (by omega); have q11 : 1 < a0.size := (by have : (1 : Int) < (a0.size : Int) := of_decide_eq_true (by first | (with_reducible assumption) | assumption); omega); have hx11 : ∀ h : 1 < a0.size, ((a0[1]'h).toNat : Int) = bt a0 1 := bt_at a0 1; clear p11; have qi11 : (1 < (a0.size : Int)) = True := eq_true (of_decide_eq_true (by first | (with_reducible assumption) | assumption)); replace q11 := eq_true q11)); try go_wp2_with (first | (go_at_call 26; (with_reducible refine (spec_Rune.calls k a0 0 t101 t102 _ A2.out).mono ?_); rintro e w' ⟨rfl, ⟨nd, rfl⟩⟩; (try first | exact ⟨rfl, _, World.drewN_drewN _ _ _⟩ | exact ⟨rfl, _, Eq.trans (World.drewN_drewN _ _ _) (congrArg (World.drewN _) (Nat.add_assoc _ _ _))⟩); have p6 : 0 ≤ (0 : Int) := (by omega); have q6 : 0 < a0.size := (by have : (0 : Int) < (a0.size : Int) := of_decide_eq_true (by first | (with_reducible assumption) | assumption); omega); have hx6 : ∀ h : 0 < a0.size, ((a0[0]'h).toNat : Int) = bt a0 0 := bt_at a0 0; clear p6; have qi6 : (0 < (a0.size : Int)) = True := eq_true (of_decide_eq_true (by first | (with_reducible assumption) | assumption)); replace q6 := eq_true q6; have p9 : 0 ≤ (1 : Int) := (by omega); have q9 : 1 < a0.size := (by have : (1 : Int) < (a0.size : Int) := of_decide_eq_true (by first | (with_reducible assumption) | assumption); omega); have hx9 : ∀ h : 1 < a0.size, ((a0[1]'h).toNat : Int) = bt a0 1 := bt_at a0 1; clear p9; have qi9 : (1 < (a0.size : Int)) = True := eq_true (of_decide_eq_true (by first | (with_reducible assumption) | assumption)); replace q9 := eq_true q9; have p11 : 0 ≤ (1 : Int) := (by omega); have q11 : 1 < a0.size := (by have : (1 : Int) < (a0.size : Int) := of_decide_eq_true (by first | (with_reducible assumption) | assumption); omega); have hx11 : ∀ h : 1 < a0.size, ((a0[1]'h).toNat : Int) = bt a0 1 := bt_at a0 1; clear p11; have qi11 : (1 < (a0.size : Int)) = True := eq_true (of_decide_eq_true (by first | (with_reducible assumption) | assumption)); replace q11 := eq_true q11)))
                go_ret2
                exact ⟨by first | rfl | (simp; done) | (simp [*]; done), by repeat (first | exact Drawn0.refl _ | apply Drawn0.step)⟩
              · rw [if_neg c12] at H
                have c12b0 : decide (191 < (bt a0 1)) = false := decide_eq_false c12
                clear c12
                by_cases c13 : 2 < (a0.size : Int)
                · rw [if_pos c13] at H
                  have c13b0 : decide (2 < (a0.size : Int)) = true := decide_eq_true c13
                  have c13b1 : decide (2 < a0.size) = true := decide_eq_true (by omega)
                  clear c13
                  by_cases c15 : (Go.bits .and .u8 (bt a0 2) 192) = 128
                  · rw [if_pos c15] at H
                    have c15b0 : ((Go.bits .and .u8 (bt a0 2) 192) == 128) = true := beq_iff_eq.mpr c15
                    have c15b1 : ((Go.bits .and .u8 (bt a0 2) 192) != 128) = false := bne_eq_false_iff_eq.mpr c15
                    clear c15
                    simp only [Option.some.injEq, Prod.mk.injEq] at H
                    obtain ⟨rfl, rfl⟩ := H
                    go_enter Tryd.func12, Tryd.ntmps12
                    go_wp2_with (first | (go_at_call 26; (with_reducible refine (spec_Rune.calls k a0 0 t101 t102 _ A2.out).mono ?_); rintro e w' ⟨rfl, ⟨nd, rfl⟩⟩; (try first | exact ⟨rfl, _, World.drewN_drewN _ _ _⟩ | exact ⟨rfl, _, Eq.trans (World.drewN_drewN _ _ _) (congrArg (World.drewN _) (Nat.add_assoc _ _ _))⟩); have p6 : 0 ≤ (0 : Int) := (by omega); have q6 : 0 < a0.size := (by have : (0 : Int) < (a0.size : Int) := of_decide_eq_true (by first | (with_reducible assumption) | assumption); omega); have hx6 : ∀ h : 0 < a0.size, ((a0[0]'h).toNat : Int) = bt a0 0 := bt_at a0 0; clear p6; have qi6 : (0 < (a0.size : Int)) = True := eq_true (of_decide_eq_true (by first | (with_reducible assumption) | assumption)); replace q6 := eq_true q6; have p9 : 0 ≤ (1 : Int) := (by omega); have q9 : 1 < a0.size := (by have : (1 : Int) < (a0.size : Int) := of_decide_eq_true (by first | (with_reducible assumption) | assumption); omega); have hx9 : ∀ h : 1 < a0.size, ((a0[1]'h).toNat : Int) = bt a0 1 := bt_at a0 1; clear p9; have qi9 : (1 < (a0.size : Int)) = True := eq_true (of_decide_eq_true (by first | (with_reducible assumption) | assumption)); replace q9 := eq_true q9; have p11 : 0 ≤ (1 : Int) := (by omega); have q11 : 1 < a0.size := (by have : (1 : Int) < (a0.size : Int) := of_decide_eq_true (by first | (with_reducible assumption) | assumption); omega); have hx11 : ∀ h : 1 < a0.size, ((a0[1]'h).toNat : Int) = bt a0 1 := bt_at a0 1; clear p11; have qi11 : (1 < (a0.size : Int)) = True := eq_true (of_decide_eq_true (by first | (with_reducible assumption) | assumption)); replace q11 := eq_true q11; have p14 : 0 ≤ (2 : Int) := (by omega); have q14 : 2 < a0.size := (by have : (2 : Int) < (a0.size : Int) := of_decide_eq_true (by first | (with_reducible assumption) | assumption); omega); have hx14 : ∀ h : 2 < a0.size, ((a0[2]'h).toNat : Int) = bt a0 2 := bt_at a0 2; clear p14; have qi14 : (2 < (a0.size : Int)) = True := eq_true (of_decide_eq_true (by first | (with_reducible assumption) | assumption)); replace q14 := eq_true q14; have p16 : 0 ≤ (1 : Int) := (by omega); have q16 : 1 < a0.size := (by have : (1 : Int) < (a0.size : Int) := of_decide_eq_true (by first | (with_reducible assumption) | assumption); omega); have hx16 : ∀ h : 1 < a0.size, ((a0[1]'h).toNat : Int) = bt a0 1 := bt_at a0 1; clear p16; have qi16 : (1 < (a0.size : Int)) = True := eq_true (of_decide_eq_true (by first | (with_reducible assumption) | assumption)); replace q16 := eq_true q16; have p17 : 0 ≤ (2 : Int) := (by omega); have q17 : 2 < a0.size := (by have : (2 : Int) < (a0.size : Int) := of_decide_eq_true (by first | (with_reducible assumption) | assumption); omega); have hx17 : ∀ h : 2 < a0.size, ((a0[2]'h).toNat : Int) = bt a0 2 := bt_at a0 2; clear p17; have qi17 : (2 < (a0.size : Int)) = True := eq_true (of_decide_eq_true (by first | (with_reducible assumption) | assumption)); replace q17 := eq_true q17))
                    repeat (go_quiet (first | (go_at_call 26; (with_reducible refine (spec_Rune.calls k a0 0 t101 t102 _ A2.out).mono ?_); rintro e w' ⟨rfl, ⟨nd, rfl⟩⟩; (try first | exact ⟨rfl, _, World.drewN_drewN _ _ _⟩ | exact ⟨rfl, _, Eq.trans (World.drewN_drewN _ _ _) (congrArg (World.drewN _) (Nat.add_assoc _ _ _))⟩); have p6 : 0 ≤ (0 : Int) := (by omega); have q6 : 0 < a0.size := (by have : (0 : Int) < (a0.size : Int) := of_decide_eq_true (by first | (with_reducible assumption) | assumption); omega); have hx6 : ∀ h : 0 < a0.size, ((a0[0]'h).toNat : Int) = bt a0 0 := bt_at a0 0; clear p6; have qi6 : (0 < (a0.size : Int)) = True := eq_true (of_decide_eq_true (by first | (with_reducible assumption) | assumption)); replace q6 := eq_true q6; have p9 : 0 ≤ (1 : Int) := (by omega); have q9 : 1 < a0.size := (by have : (1 : Int) < (a0.size : Int) := of_decide_eq_true (by first | (with_reducible assumption) | assumption); omega); have hx9 : ∀ h : 1 < a0.size, ((a0[1]'h).toNat : Int) = bt a0 1 := bt_at a0 1; clear p9; have qi9 : (1 < (a0.size : Int)) = True := eq_true (of_decide_eq_true (by first | (with_reducible assumption) | assumption)); replace q9 := eq_true q9; have p11 : 0 ≤ (1 : Int) := (by omega); have q11 : 1 < a0.size := (by have : (1 : Int) < (a0.size : Int) := of_decide_eq_true (by first | (with_reducible assumption) | assumption); omega); have hx11 : ∀ h : 1 < a0.size, ((a0[1]'h).toNat : Int) = bt a0 1 := bt_at a0 1; clear p11; have qi11 : (1 < (a0.size : Int)) = True := eq_true (of_decide_eq_true (by first | (with_reducible assumption) | assumption)); replace q11 := eq_true q11; have p14 : 0 ≤ (2 : Int) := (by omega); have q14 : 2 < a0.size := (by have : (2 : Int) < (a0.size : Int) := of_decide_eq_true (by first | (with_reducible assumption) | assumption); omega); have hx14 : ∀ h : 2 < a0.size, ((a0[2]'h).toNat : Int) = bt a0 2 := bt_at a0 2; clear p14; have qi14 : (2 < (a0.size : Int)) = True := eq_true (of_decide_eq_true (by first | (with_reducible assumption) | assumption)); replace q14 := eq_true q14; have p16 : 0 ≤ (1 : Int) := (by omega); have q16 : 1 < a0.size := (by have : (1 : Int) < (a0.size : Int) := of_decide_eq_true (by first | (with_reducible assumption) | assumption); omega); have hx16 : ∀ h : 1 < a0.size, ((a0[1]'h).toNat : Int) = bt a0 1 := bt_at a0 1; clear p16; have qi16 : (1 < (a0.size : Int)) = True := eq_true (of_decide_eq_true (by first | (with_reducible assumption) | assumption)); replace q16 := eq_true q16; have p17 : 0 ≤ (2 : Int) := (by omega); have q17 : 2 < a0.size := (by have : (2 : Int) < (a0.size : Int) := of_decide_eq_true (by first | (with_reducible assumption) | assumption); omega); have hx17 : ∀ h : 2 < a0.size, ((a0[2]'h).toNat : Int) = bt a0 2 := bt_at a0 2; clear p17; have qi17 : (2 < (a0.size : Int)) = True := eq_true (of_decide_eq_true (by first | (with_reducible assumption) | assumption)); replace q17 := eq_true q17)); try go_wp2_with (first | (go_at_call 26; (with_reducible refine (spec_Rune.calls k a0 0 t101 t102 _ A2.out).mono ?_); rintro e w' ⟨rfl, ⟨nd, rfl⟩⟩; (try first | exact ⟨rfl, _, World.drewN_drewN _ _ _⟩ | exact ⟨rfl, _, Eq.trans (World.drewN_drewN _ _ _) (congrArg (World.drewN _) (Nat.add_assoc _ _ _))⟩); have p6 : 0 ≤ (0 : Int) := (by omega); have q6 : 0 < a0.size := (by have : (0 : Int) < (a0.size : Int) := of_decide_eq_true (by first | (with_reducible assumption) | assumption); omega); have hx6 : ∀ h : 0 < a0.size, ((a0[0]'h).toNat : Int) = bt a0 0 := bt_at a0 0; clear p6; have qi6 : (0 < (a0.size : Int)) = True := eq_true (of_decide_eq_true (by first | (with_reducible assumption) | assumption)); replace q6 := eq_true q6; have p9 : 0 ≤ (1 : Int) := (by omega); have q9 : 1 < a0.size := (by have : (1 : Int) < (a0.size : Int) := of_decide_eq_true (by first | (with_reducible assumption) | assumption); omega); have hx9 : ∀ h : 1 < a0.size, ((a0[1]'h).toNat : Int) = bt a0 1 := bt_at a0 1; clear p9; have qi9 : (1 < (a0.size : Int)) = True := eq_true (of_decide_eq_true (by first | (with_reducible assumption) | assumption)); replace q9 := eq_true q9; have p11 : 0 ≤ (1 : Int) := (by omega); have q11 : 1 < a0.size := (by have : (1 : Int) < (a0.size : Int) := of_decide_eq_true (by first | (with_reducible assumption) | assumption); omega); have hx11 : ∀ h : 1 < a0.size, ((a0[1]'h).toNat : Int) = bt a0 1 := bt_at a0 1; clear p11; have qi11 : (1 < (a0.size : Int)) = True := eq_true (of_decide_eq_true (by first | (with_reducible assumption) | assumption)); replace q11 := eq_true q11; have p14 : 0 ≤ (2 : Int) := (by omega); have q14 : 2 < a0.size := (by have : (2 : Int) < (a0.size : Int) := of_decide_eq_true (by first | (with_reducible assumption) | assumption); omega); have hx14 : ∀ h : 2 < a0.size, ((a0[2]'h).toNat : Int) = bt a0 2 := bt_at a0 2; clear p14; have qi14 : (2 < (a0.size : Int)) = True := eq_true (of_decide_eq_true (by first | (with_reducible assumption) | assumption)); replace q14 := eq_true q14; have p16 : 0 ≤ (1 : Int) := (by omega); have q16 : 1 < a0.size := (by have : (1 : Int) < (a0.size : Int) := of_decide_eq_true (by first | (with_reducible assumption) | assumption); omega); have hx16 : ∀ h : 1 < a0.size, ((a0[1]'h).toNat : Int) = bt a0 1 := bt_at a0 1; clear p16; have qi16 : (1 < (a0.size : Int)) = True := eq_true (of_decide_eq_true (by first | (with_reducible assumption) | assumption)); replace q16 := eq_true q16; have p17 : 0 ≤ (2 : Int) := (by omega); have q17 : 2 < a0.size := (by have : (2 : Int) < (a0.size : Int) := of_decide_eq_true (by first | (with_reducible assumption) | assumption); omega); have hx17 : ∀ h : 2 < a0.size, ((a0[2]'h).toNat : Int) = bt a0 2 := bt_at a0 2; clear p17; have qi17 : (2 < (a0.size : Int)) = True := eq_true (of_decide_eq_true (by first | (with_reducible assumption) | assumption)); replace q17 := eq_true q17)))
                    go_ret2
                    exact ⟨by first | rfl | (simp; done) | (simp [*]; done), by repeat (first | exact Drawn0.refl _ | apply Drawn0.step)⟩
                  · rw [if_neg c15] at H
                    have c15b0 : ((Go.bits .and .u8 (bt a0 2) 192) == 128) = false := beq_eq_false_iff_ne.mpr c15
                    have c15b1 : ((Go.bits .and .u8 (bt a0 2) 192) != 128) = true := bne_iff_ne.mpr c15
                    simp only [Option.some.injEq, Prod.mk.injEq] at H
                    obtain ⟨rfl, rfl⟩ := H
                    go_enter Tryd.func12, Tryd.ntmps12
                    go_wp2_with (first | (go_at_call 26; (with_reducible refine (spec_Rune.calls k a0 0 t101 t102 _ A2.out).mono ?_); rintro e w' ⟨rfl, ⟨nd, rfl⟩⟩; (try first | exact ⟨rfl, _, World.drewN_drewN _ _ _⟩ | exact ⟨rfl, _, Eq.trans (World.drewN_drewN _ _ _) (congrArg (World.drewN _) (Nat.add_assoc _ _ _))⟩); have p6 : 0 ≤ (0 : Int) := (by omega); have q6 : 0 < a0.size := (by have : (0 : Int) < (a0.size : Int) := of_decide_eq_true (by first | (with_reducible assumption) | assumption); omega); have hx6 : ∀ h : 0 < a0.size, ((a0[0]'h).toNat : Int) = bt a0 0 := bt_at a0 0; clear p6; have qi6 : (0 < (a0.size : Int)) = True := eq_true (of_decide_eq_true (by first | (with_reducible assumption) | assumption)); replace q6 := eq_true q6; have p9 : 0 ≤ (1 : Int) := (by omega); have q9 : 1 < a0.size := (by have : (1 : Int) < (a0.size : Int) := of_decide_eq_true (by first | (with_reducible assumption) | assumption); omega); have hx9 : ∀ h : 1 < a0.size, ((a0[1]'h).toNat : Int) = bt a0 1 := bt_at a0 1; clear p9; have qi9 : (1 < (a0.size : Int)) = True := eq_true (of_decide_eq_true (by first | (with_reducible assumption) | assumption)); replace q9 := eq_true q9; have p11 : 0 ≤ (1 : Int) := (by omega); have q11 : 1 < a0.size := (by have : (1 : Int) < (a0.size : Int) := of_decide_eq_true (by first | (with_reducible assumption) | assumption); omega); have hx11 : ∀ h : 1 < a0.size, ((a0[1]'h).toNat : Int) = bt a0 1 := bt_at a0 1; clear p11; have qi11 : (1 < (a0.size : Int)) = True := eq_true (of_decide_eq_true (by first | (with_reducible assumption) | assumption)); replace q11 := eq_true q11; have p14 : 0 ≤ (2 : Int) := (by omega); have q14 : 2 < a0.size := (by have : (2 : Int) < (a0.size : Int) := of_decide_eq_true (by first | (with_reducible assumption) | assumption); omega); have hx14 : ∀ h : 2 < a0.size, ((a0[2]'h).toNat : Int) = bt a0 2 := bt_at a0 2; clear p14; have qi14 : (2 < (a0.size : Int)) = True := eq_true (of_decide_eq_true (by first | (with_reducible assumption) | assumption)); replace q14 := eq_true q14))
                    repeat (go_quiet (first | (go_at_call 26; (with_reducible refine (spec_Rune.calls k a0 0 t101 t102 _ A2.out).mono ?_); rintro e w' ⟨rfl, ⟨nd, rfl⟩⟩; (try first | exact ⟨rfl, _, World.drewN_drewN _ _ _⟩ | exact ⟨rfl, _, Eq.trans (World.drewN_drewN _ _ _) (congrArg (World.drewN _) (Nat.add_assoc _ _ _))⟩); have p6 : 0 ≤ (0 : Int) := (by omega); have q6 : 0 < a0.size := (by have : (0 : Int) < (a0.size : Int) := of_decide_eq_true (by first | (with_reducible assumption) | assumption); omega); have hx6 : ∀ h : 0 < a0.size, ((a0[0]'h).toNat : Int) = bt a0 0 := bt_at a0 0; clear p6; have qi6 : (0 < (a0.size : Int)) = True := eq_true (of_decide_eq_true (by first | (with_reducible assumption) | assumption)); replace q6 := eq_true q6; have p9 : 0 ≤ (1 : Int) := (by omega); have q9 : 1 < a0.size := (by have : (1 : Int) < (a0.size : Int) := of_decide_eq_true (by first | (with_reducible assumption) | assumption); omega); have hx9 : ∀ h : 1 < a0.size, ((a0[1]'h).toNat : Int) = bt a0 1 := bt_at a0 1; clear p9; have qi9 : (1 < (a0.size : Int)) = True := eq_true (of_decide_eq_true (by first | (with_reducible assumption) | assumption)); replace q9 := eq_true q9; have p11 : 0 ≤ (1 : Int) := (by omega); have q11 : 1 < a0.size := (by have : (1 : Int) < (a0.size : Int) := of_decide_eq_true (by first | (with_reducible assumption) | assumption); omega); have hx11 : ∀ h : 1 < a0.size, ((a0[1]'h).toNat : Int) = bt a0 1 := bt_at a0 1; clear p11; have qi11 : (1 < (a0.size : Int)) = True := eq_true (of_decide_eq_true (by first | (with_reducible assumption) | assumption)); replace q11 := eq_true q11; have p14 : 0 ≤ (2 : Int) := (by omega); have q14 : 2 < a0.size := (by have : (2 : Int) < (a0.size : Int) := of_decide_eq_true (by first | (with_reducible assumption) | assumption); omega); have hx14 : ∀ h : 2 < a0.size, ((a0[2]'h).toNat : Int) = bt a0 2 := bt_at a0 2; clear p14; have qi14 : (2 < (a0.size : Int)) = True := eq_true (of_decide_eq_true (by first | (with_reducible assumption) | assumption)); replace q14 := eq_true q14)); try go_wp2_with (first | (go_at_call 26; (with_reducible refine (spec_Rune.calls k a0 0 t101 t102 _ A2.out).mono ?_); rintro e w' ⟨rfl, ⟨nd, rfl⟩⟩; (try first | exact ⟨rfl, _, World.drewN_drewN _ _ _⟩ | exact ⟨rfl, _, Eq.trans (World.drewN_drewN _ _ _) (congrArg (World.drewN _) (Nat.add_assoc _ _ _))⟩); have p6 : 0 ≤ (0 : Int) := (by omega); have q6 : 0 < a0.size := (by have : (0 : Int) < (a0.size : Int) := of_decide_eq_true (by first | (with_reducible assumption) | assumption); omega); have hx6 : ∀ h : 0 < a0.size, ((a0[0]'h).toNat : Int) = bt a0 0 := bt_at a0 0; clear p6; have qi6 : (0 < (a0.size : Int)) = True := eq_true (of_decide_eq_true (by first | (with_reducible assumption) | assumption)); replace q6 := eq_true q6; have p9 : 0 ≤ (1 : Int) := (by omega); have q9 : 1 < a0.size := (by have : (1 : Int) < (a0.size : Int) := of_decide_eq_true (by first | (with_reducible assumption) | assumption); omega); have hx9 : ∀ h : 1 < a0.size, ((a0[1]'h).toNat : Int) = bt a0 1 := bt_at a0 1; clear p9; have qi9 : (1 < (a0.size : Int)) = True := eq_true (of_decide_eq_true (by first | (with_reducible assumption) | assumption)); replace q9 := eq_true q9; have p11 : 0 ≤ (1 : Int) := (by omega); have q11 : 1 < a0.size := (by have : (1 : Int) < (a0.size : Int) := of_decide_eq_true (by first | (with_reducible assumption) | assumption); omega); have hx11 : ∀ h : 1 < a0.size, ((a0[1]'h).toNat : Int) = bt a0 1 := bt_at a0 1; clear p11; have qi11 : (1 < (a0.size : Int)) = True := eq_true (of_decide_eq_true (by first | (with_reducible assumption) | assumption)); replace q11 := eq_true q11; have p14 : 0 ≤ (2 : Int) := (by omega); have q14 : 2 < a0.size := (by have : (2 : Int) < (a0.size : Int) := of_decide_eq_true (by first | (with_reducible assumption) | assumption); omega); have hx14 : ∀ h : 2 < a0.size, ((a0[2]'h).toNat : Int) = bt a0 2 := bt_at a0 2; clear p14; have qi14 : (2 < (a0.size : Int)) = True := eq_true (of_decide_eq_true (by first | (with_reducible assumption) | assumption)); replace q14 := eq_true q14)))
                    go_ret2
                    exact ⟨by first | rfl | (simp; done) | (simp [*]; done), by repeat (first | exact Drawn0.refl _ | apply Drawn0.step)⟩
                · rw [if_neg c13] at H
                  exact absurd H (by simp)
          · rw [if_neg c8] at H
            exact absurd H (by simp)
        · rw [if_neg c7] at H
          have c7b0 : ((bt a0 0) == 237) = false := beq_eq_false_iff_ne.mpr c7
          have c7b1 : ((bt a0 0) != 237) = true := bne_iff_ne.mpr c7
          simp only [Option.some.injEq, Prod.mk.injEq] at H
          obtain ⟨rfl, rfl⟩ := H
          go_enter Tryd.func12, Tryd.ntmps12
          go_wp2_with (first | (go_at_call 26; (with_reducible refine (spec_Rune.calls k a0 0 t101 t102 _ A2.out).mono ?_); rintro e w' ⟨rfl, ⟨nd, rfl⟩⟩; (try first | exact ⟨rfl, _, World.drewN_drewN _ _ _⟩ | exact ⟨rfl, _, Eq.trans (World.drewN_drewN _ _ _) (congrArg (World.drewN _) (Nat.add_assoc _ _ _))⟩); have p6 : 0 ≤ (0 : Int) := (by omega); have q6 : 0 < a0.size := (by have : (0 : Int) < (a0.size : Int) := of_decide_eq_true (by first | (with_reducible assumption) | assumption); omega); have hx6 : ∀ h : 0 < a0.size, ((a0[0]'h).toNat : Int) = bt a0 0 := bt_at a0 0; clear p6; have qi6 : (0 < (a0.size : Int)) = True := eq_true (of_decide_eq_true (by first | (with_reducible assumption) | assumption)); replace q6 := eq_true q6))
          repeat (go_quiet (first | (go_at_call 26; (with_reducible refine (spec_Rune.calls k a0 0 t101 t102 _ A2.out).mono ?_); rintro e w' ⟨rfl, ⟨nd, rfl⟩⟩; (try first | exact ⟨rfl, _, World.drewN_drewN _ _ _⟩ | exact ⟨rfl, _, Eq.trans (World.drewN_drewN _ _ _) (congrArg (World.drewN _) (Nat.add_assoc _ _ _))⟩); have p6 : 0 ≤ (0 : Int) := (by omega); have q6 : 0 < a0.size := (by have : (0 : Int) < (a0.size : Int) := of_decide_eq_true (by first | (with_reducible assumption) | assumption); omega); have hx6 : ∀ h : 0 < a0.size, ((a0[0]'h).toNat : Int) = bt a0 0 := bt_at a0 0; clear p6; have qi6 : (0 < (a0.size : Int)) = True := eq_true (of_decide_eq_true (by first | (with_reducible assumption) | assumption)); replace q6 := eq_true q6)); try go_wp2_with (first | (go_at_call 26; (with_reducible refine (spec_Rune.calls k a0 0 t101 t102 _ A2.out).mono ?_); rintro e w' ⟨rfl, ⟨nd, rfl⟩⟩; (try first | exact ⟨rfl, _, World.drewN_drewN _ _ _⟩ | exact ⟨rfl, _, Eq.trans (World.drewN_drewN _ _ _) (congrArg (World.drewN _) (Nat.add_assoc _ _ _))⟩); have p6 : 0 ≤ (0 : Int) := (by omega); have q6 : 0 < a0.size := (by have : (0 : Int) < (a0.size : Int) := of_decide_eq_true (by first | (with_reducible assumption) | assumption); omega); have hx6 : ∀ h : 0 < a0.size, ((a0[0]'h).toNat : Int) = bt a0 0 := bt_at a0 0; clear p6; have qi6 : (0 < (a0.size : Int)) = True := eq_true (of_decide_eq_true (by first | (with_reducible assumption) | assumption)); replace q6 := eq_true q6)))
          go_ret2
          exact ⟨by first | rfl | (simp; done) | (simp [*]; done), by repeat (first | exact Drawn0.refl _ | apply Drawn0.step)⟩
      · rw [if_neg c5] at H
        exact absurd H (by simp)

end Go.Proofs.YtheichpmhfledaaDoor.PFnNumberBack
