-- Written by printx.py of this session, over the kit's print, with contracts of this session for some functions
import Derived.Test.YtckgmnpcnoanhaaDoorPFnLocatedx0
namespace Go.Proofs.YtckgmnpcnoanhaaDoor.PFnLocated
open Go.RowKit Go.Proofs.YtckgmnpcnoanhaaDoorW.PrintWords Go.Proofs.YtckgmnpcnoanhaaDoorW.PrintLast Go.Proofs.YtckgmnpcnoanhaaDoorW.PrintMore
attribute [local go_sem] max2_int min2_int max_two min_two max_three min_three max_four min_four   -- for this text's walks alone
set_option linter.unusedVariables false
set_option linter.unusedSimpArgs false

-- NOT PRINTED: function 8 (logger_MakeLineColumnTracker)

/-! ### impl_within: function 9 -/
def impl_within.f (a0 : ByteArray) (a1 : Int) (a2 : Int) : Option (Bool) := if a1 ≥ 0 then (if a1 ≤ (a0.size : Int) then (if a2 ≥ 0 then (some (decide (a2 ≤ (wrap64 ((a0.size : Int) - a1))))) else (some false)) else (some false)) else (some false)
set_option maxHeartbeats 8000000 in
set_option maxRecDepth 100000 in
theorem impl_within.calls (a0 : ByteArray) (a1 : Int) (a2 : Int) (r : Bool) (w : World) (h : impl_within.f a0 a1 a2 = some r) :
    Calls Tryd.prog 9 #[.string a0, .int .i64 a1, .int .i64 a2] w fun e w' => e = .returned (.bool r) ∧ Drawn0 w w' := by
  have H : (if a1 ≥ 0 then (if a1 ≤ (a0.size : Int) then (if a2 ≥ 0 then (some (decide (a2 ≤ (wrap64 ((a0.size : Int) - a1))))) else (some false)) else (some false)) else (some false)) = some r := h
  clear h
  by_cases c4 : a1 ≥ 0
  · rw [if_pos c4] at H
    have c4b0 : decide (0 ≤ a1) = true := decide_eq_true c4
    clear c4
    by_cases c5 : a1 ≤ (a0.size : Int)
    · rw [if_pos c5] at H
      have c5b0 : decide (a1 ≤ (a0.size : Int)) = true := decide_eq_true c5
      clear c5
      by_cases c6 : a2 ≥ 0
      · rw [if_pos c6] at H
        have c6b0 : decide (0 ≤ a2) = true := decide_eq_true c6
        clear c6
        obtain rfl := Option.some.inj H
        go_enter Tryd.func9, Tryd.ntmps9
        go_wp2
        go_ret
        exact ⟨by first | rfl | (simp; done) | (simp [*]; done), by repeat (first | exact Drawn0.refl _ | apply Drawn0.step)⟩
      · rw [if_neg c6] at H
        have c6b0 : decide (0 ≤ a2) = false := decide_eq_false c6
        clear c6
        obtain rfl := Option.some.inj H
        go_enter Tryd.func9, Tryd.ntmps9
        go_wp2
        go_ret
        exact ⟨by first | rfl | (simp; done) | (simp [*]; done), by repeat (first | exact Drawn0.refl _ | apply Drawn0.step)⟩
    · rw [if_neg c5] at H
      have c5b0 : decide (a1 ≤ (a0.size : Int)) = false := decide_eq_false c5
      clear c5
      obtain rfl := Option.some.inj H
      go_enter Tryd.func9, Tryd.ntmps9
      go_wp2
      go_ret
      exact ⟨by first | rfl | (simp; done) | (simp [*]; done), by repeat (first | exact Drawn0.refl _ | apply Drawn0.step)⟩
  · rw [if_neg c4] at H
    have c4b0 : decide (0 ≤ a1) = false := decide_eq_false c4
    clear c4
    obtain rfl := Option.some.inj H
    go_enter Tryd.func9, Tryd.ntmps9
    go_wp2
    go_ret
    exact ⟨by first | rfl | (simp; done) | (simp [*]; done), by repeat (first | exact Drawn0.refl _ | apply Drawn0.step)⟩

-- NOT PRINTED: function 10 (impl_calm)

-- NOT PRINTED: function 4 (impl_Located)

/-! ### spec_Rune: function 13 -/
mutual
def spec_Rune.j0 : Nat → ByteArray → Int → Bool → Option (Int × Int)
  | 0, _, _, _ => none
  | k + 1, x0, x1, x19 => if x19 = true then (some (0, 0)) else (if 0 ≤ x1 then (if x1 < (x0.size : Int) then (if (wrap64 (bt x0 x1)) < 128 then (some (wrap64 (bt x0 x1), 1)) else (if (wrap64 (bt x0 x1)) ≥ 194 then (spec_Rune.j1 k x0 x1 (wrap64 (bt x0 x1)) 0 0 0 (decide ((wrap64 (bt x0 x1)) ≤ 223))) else (spec_Rune.j1 k x0 x1 (wrap64 (bt x0 x1)) 0 0 0 false))) else (none)) else (none))
def spec_Rune.j3 : Nat → ByteArray → Int → Int → Int → Int → Option (Int × Int)
  | 0, _, _, _, _, _ => none
  | k + 1, x0, x1, x7, x8, x9 => if x7 = 0 then (spec_Rune.j4 k x0 x1 x7 x8 x9 true) else (spec_Rune.j4 k x0 x1 x7 x8 x9 (decide ((wrap64 (x1 + x7)) > (x0.size : Int))))
def spec_Rune.j4 : Nat → ByteArray → Int → Int → Int → Int → Bool → Option (Int × Int)
  | 0, _, _, _, _, _, _ => none
  | k + 1, x0, x1, x7, x8, x9, x63 => if x63 = true then (some (0, 0)) else (spec_Rune.l0 k x0 x1 x7 x8 x9 1)
def spec_Rune.l0 : Nat → ByteArray → Int → Int → Int → Int → Int → Option (Int × Int)
  | 0, _, _, _, _, _, _ => none
  | k + 1, x0, x1, x7, x8, x9, x10 => if x10 < x7 then (if 0 ≤ (wrap64 (x1 + x10)) then (if (wrap64 (x1 + x10)) < (x0.size : Int) then (if (Go.bits .and .i64 (wrap64 (bt x0 (wrap64 (x1 + x10)))) 192) = 128 then (spec_Rune.l0 k x0 x1 x7 (Go.bits .or .i64 (wrap64 (x8 * 64)) (Go.bits .and .i64 (wrap64 (bt x0 (wrap64 (x1 + x10)))) 63)) x9 (wrap64 (x10 + 1))) else (some (0, 0))) else (none)) else (none)) else (if x8 < x9 then (some (0, 0)) else (if x8 > 1114111 then (some (0, 0)) else (if x8 ≥ 55296 then (if x8 ≤ 57343 then (some (0, 0)) else (some (x8, x7))) else (some (x8, x7)))))
def spec_Rune.j1 : Nat → ByteArray → Int → Int → Int → Int → Int → Bool → Option (Int × Int)
  | 0, _, _, _, _, _, _, _ => none
  | k + 1, x0, x1, x6, x7, x8, x9, x27 => if x27 = true then (spec_Rune.j3 k x0 x1 2 (Go.bits .and .i64 x6 31) 128) else (if x6 ≥ 224 then (spec_Rune.j2 k x0 x1 x6 x7 x8 x9 (decide (x6 ≤ 239))) else (spec_Rune.j2 k x0 x1 x6 x7 x8 x9 false))
def spec_Rune.j2 : Nat → ByteArray → Int → Int → Int → Int → Int → Bool → Option (Int × Int)
  | 0, _, _, _, _, _, _, _ => none
  | k + 1, x0, x1, x6, x7, x8, x9, x36 => if x36 = true then (spec_Rune.j3 k x0 x1 3 (Go.bits .and .i64 x6 15) 2048) else (if x6 ≥ 240 then (if x6 ≤ 244 then (spec_Rune.j3 k x0 x1 4 (Go.bits .and .i64 x6 7) 65536) else (spec_Rune.j3 k x0 x1 x7 x8 x9)) else (spec_Rune.j3 k x0 x1 x7 x8 x9))
end
def spec_Rune.f (k : Nat) (a0 : ByteArray) (a1 : Int) : Option (Int × Int) := if a1 < 0 then (spec_Rune.j0 k a0 a1 true) else (spec_Rune.j0 k a0 a1 (decide (a1 ≥ (a0.size : Int))))
theorem spec_Rune.mono_l : ∀ k, (∀ y0 y1 y2, LeO (spec_Rune.j0 k y0 y1 y2) (spec_Rune.j0 (k + 1) y0 y1 y2)) ∧ (∀ y0 y1 y2 y3 y4, LeO (spec_Rune.j3 k y0 y1 y2 y3 y4) (spec_Rune.j3 (k + 1) y0 y1 y2 y3 y4)) ∧ (∀ y0 y1 y2 y3 y4 y5, LeO (spec_Rune.j4 k y0 y1 y2 y3 y4 y5) (spec_Rune.j4 (k + 1) y0 y1 y2 y3 y4 y5)) ∧ (∀ y0 y1 y2 y3 y4 y5, LeO (spec_Rune.l0 k y0 y1 y2 y3 y4 y5) (spec_Rune.l0 (k + 1) y0 y1 y2 y3 y4 y5)) ∧ (∀ y0 y1 y2 y3 y4 y5 y6, LeO (spec_Rune.j1 k y0 y1 y2 y3 y4 y5 y6) (spec_Rune.j1 (k + 1) y0 y1 y2 y3 y4 y5 y6)) ∧ (∀ y0 y1 y2 y3 y4 y5 y6, LeO (spec_Rune.j2 k y0 y1 y2 y3 y4 y5 y6) (spec_Rune.j2 (k + 1) y0 y1 y2 y3 y4 y5 y6))
  | 0 => ⟨fun _ _ _ r h => by simp [spec_Rune.j0] at h, fun _ _ _ _ _ r h => by simp [spec_Rune.j3] at h, fun _ _ _ _ _ _ r h => by simp [spec_Rune.j4] at h, fun _ _ _ _ _ _ r h => by simp [spec_Rune.l0] at h, fun _ _ _ _ _ _ _ r h => by simp [spec_Rune.j1] at h, fun _ _ _ _ _ _ _ r h => by simp [spec_Rune.j2] at h⟩
  | k + 1 => by
    obtain ⟨ih0, ih1, ih2, ih3, ih4, ih5⟩ := spec_Rune.mono_l k
    refine ⟨?_, ?_, ?_, ?_, ?_, ?_⟩
    · intro y0 y1 y2
      unfold spec_Rune.j0
      repeat' first
      | (with_reducible exact ih0 _ _ _)
      | (with_reducible exact ih1 _ _ _ _ _)
      | (with_reducible exact ih2 _ _ _ _ _ _)
      | (with_reducible exact ih3 _ _ _ _ _ _)
      | (with_reducible exact ih4 _ _ _ _ _ _ _)
      | (with_reducible exact ih5 _ _ _ _ _ _ _)
      | (with_reducible exact LeO.refl _)
      | (with_reducible exact LeO.none _)
      | (with_reducible refine LeO.ite ?_ ?_)
      | (with_reducible refine LeO.bind ?_ (fun _ => ?_))
      | exact ih0 _ _ _
      | exact ih1 _ _ _ _ _
      | exact ih2 _ _ _ _ _ _
      | exact ih3 _ _ _ _ _ _
      | exact ih4 _ _ _ _ _ _ _
      | exact ih5 _ _ _ _ _ _ _
      | exact LeO.none _
      | refine LeO.ite ?_ ?_
      | refine LeO.bind ?_ (fun _ => ?_)
    · intro y0 y1 y2 y3 y4
      unfold spec_Rune.j3
      repeat' first
      | (with_reducible exact ih0 _ _ _)
      | (with_reducible exact ih1 _ _ _ _ _)
      | (with_reducible exact ih2 _ _ _ _ _ _)
      | (with_reducible exact ih3 _ _ _ _ _ _)
      | (with_reducible exact ih4 _ _ _ _ _ _ _)
      | (with_reducible exact ih5 _ _ _ _ _ _ _)
      | (with_reducible exact LeO.refl _)
      | (with_reducible exact LeO.none _)
      | (with_reducible refine LeO.ite ?_ ?_)
      | (with_reducible refine LeO.bind ?_ (fun _ => ?_))
      | exact ih0 _ _ _
      | exact ih1 _ _ _ _ _
      | exact ih2 _ _ _ _ _ _
      | exact ih3 _ _ _ _ _ _
      | exact ih4 _ _ _ _ _ _ _
      | exact ih5 _ _ _ _ _ _ _
      | exact LeO.none _
      | refine LeO.ite ?_ ?_
      | refine LeO.bind ?_ (fun _ => ?_)
    · intro y0 y1 y2 y3 y4 y5
      unfold spec_Rune.j4
      repeat' first
      | (with_reducible exact ih0 _ _ _)
      | (with_reducible exact ih1 _ _ _ _ _)
      | (with_reducible exact ih2 _ _ _ _ _ _)
      | (with_reducible exact ih3 _ _ _ _ _ _)
      | (with_reducible exact ih4 _ _ _ _ _ _ _)
      | (with_reducible exact ih5 _ _ _ _ _ _ _)
      | (with_reducible exact LeO.refl _)
      | (with_reducible exact LeO.none _)
      | (with_reducible refine LeO.ite ?_ ?_)
      | (with_reducible refine LeO.bind ?_ (fun _ => ?_))
      | exact ih0 _ _ _
      | exact ih1 _ _ _ _ _
      | exact ih2 _ _ _ _ _ _
      | exact ih3 _ _ _ _ _ _
      | exact ih4 _ _ _ _ _ _ _
      | exact ih5 _ _ _ _ _ _ _
      | exact LeO.none _
      | refine LeO.ite ?_ ?_
      | refine LeO.bind ?_ (fun _ => ?_)
    · intro y0 y1 y2 y3 y4 y5
      unfold spec_Rune.l0
      repeat' first
      | (with_reducible exact ih0 _ _ _)
      | (with_reducible exact ih1 _ _ _ _ _)
      | (with_reducible exact ih2 _ _ _ _ _ _)
      | (with_reducible exact ih3 _ _ _ _ _ _)
      | (with_reducible exact ih4 _ _ _ _ _ _ _)
      | (with_reducible exact ih5 _ _ _ _ _ _ _)
      | (with_reducible exact LeO.refl _)
      | (with_reducible exact LeO.none _)
      | (with_reducible refine LeO.ite ?_ ?_)
      | (with_reducible refine LeO.bind ?_ (fun _ => ?_))
      | exact ih0 _ _ _
      | exact ih1 _ _ _ _ _
      | exact ih2 _ _ _ _ _ _
      | exact ih3 _ _ _ _ _ _
      | exact ih4 _ _ _ _ _ _ _
      | exact ih5 _ _ _ _ _ _ _
      | exact LeO.none _
      | refine LeO.ite ?_ ?_
      | refine LeO.bind ?_ (fun _ => ?_)
    · intro y0 y1 y2 y3 y4 y5 y6
      unfold spec_Rune.j1
      repeat' first
      | (with_reducible exact ih0 _ _ _)
      | (with_reducible exact ih1 _ _ _ _ _)
      | (with_reducible exact ih2 _ _ _ _ _ _)
      | (with_reducible exact ih3 _ _ _ _ _ _)
      | (with_reducible exact ih4 _ _ _ _ _ _ _)
      | (with_reducible exact ih5 _ _ _ _ _ _ _)
      | (with_reducible exact LeO.refl _)
      | (with_reducible exact LeO.none _)
      | (with_reducible refine LeO.ite ?_ ?_)
      | (with_reducible refine LeO.bind ?_ (fun _ => ?_))
      | exact ih0 _ _ _
      | exact ih1 _ _ _ _ _
      | exact ih2 _ _ _ _ _ _
      | exact ih3 _ _ _ _ _ _
      | exact ih4 _ _ _ _ _ _ _
      | exact ih5 _ _ _ _ _ _ _
      | exact LeO.none _
      | refine LeO.ite ?_ ?_
      | refine LeO.bind ?_ (fun _ => ?_)
    · intro y0 y1 y2 y3 y4 y5 y6
      unfold spec_Rune.j2
      repeat' first
      | (with_reducible exact ih0 _ _ _)
      | (with_reducible exact ih1 _ _ _ _ _)
      | (with_reducible exact ih2 _ _ _ _ _ _)
      | (with_reducible exact ih3 _ _ _ _ _ _)
      | (with_reducible exact ih4 _ _ _ _ _ _ _)
      | (with_reducible exact ih5 _ _ _ _ _ _ _)
      | (with_reducible exact LeO.refl _)
      | (with_reducible exact LeO.none _)
      | (with_reducible refine LeO.ite ?_ ?_)
      | (with_reducible refine LeO.bind ?_ (fun _ => ?_))
      | exact ih0 _ _ _
      | exact ih1 _ _ _ _ _
      | exact ih2 _ _ _ _ _ _
      | exact ih3 _ _ _ _ _ _
      | exact ih4 _ _ _ _ _ _ _
      | exact ih5 _ _ _ _ _ _ _
      | exact LeO.none _
      | refine LeO.ite ?_ ?_
      | refine LeO.bind ?_ (fun _ => ?_)
theorem spec_Rune.mono : ∀ a0 a1 k, LeO (spec_Rune.f k a0 a1) (spec_Rune.f (k + 1) a0 a1) := by
  intro a0 a1 k
  obtain ⟨ih0, ih1, ih2, ih3, ih4, ih5⟩ := spec_Rune.mono_l k
  unfold spec_Rune.f
  repeat' first
      | (with_reducible exact ih0 _ _ _)
      | (with_reducible exact ih1 _ _ _ _ _)
      | (with_reducible exact ih2 _ _ _ _ _ _)
      | (with_reducible exact ih3 _ _ _ _ _ _)
      | (with_reducible exact ih4 _ _ _ _ _ _ _)
      | (with_reducible exact ih5 _ _ _ _ _ _ _)
      | (with_reducible exact LeO.refl _)
      | (with_reducible exact LeO.none _)
      | (with_reducible refine LeO.ite ?_ ?_)
      | (with_reducible refine LeO.bind ?_ (fun _ => ?_))
      | exact ih0 _ _ _
      | exact ih1 _ _ _ _ _
      | exact ih2 _ _ _ _ _ _
      | exact ih3 _ _ _ _ _ _
      | exact ih4 _ _ _ _ _ _ _
      | exact ih5 _ _ _ _ _ _ _
      | exact LeO.none _
      | refine LeO.ite ?_ ?_
      | refine LeO.bind ?_ (fun _ => ?_)
set_option maxHeartbeats 8000000 in
set_option maxRecDepth 100000 in
theorem spec_Rune.calls (k : Nat) (a0 : ByteArray) (a1 : Int) (r1 : Int) (r2 : Int) (w : World) (h : spec_Rune.f k a0 a1 = some (r1, r2)) :
    Calls Tryd.prog 13 #[.string a0, .int .i64 a1] w fun e w' => e = .returned (.tuple #[.int .i64 r1, .int .i64 r2]) ∧ Drawn0 w w' := by
  have H : (if a1 < 0 then (spec_Rune.j0 k a0 a1 true) else (spec_Rune.j0 k a0 a1 (decide (a1 ≥ (a0.size : Int))))) = some (r1, r2) := h
  clear h
  have HC3 := Aside0.mk H
  clear H
  go_enter Tryd.func13, Tryd.ntmps13
  go_upto_region 1 with (fail)
  go_cut [19] (fun v19 wc => ∃ (kq : Nat) (x19_2 : Bool), v19 = .bool x19_2 ∧ Aside0 (spec_Rune.j0 kq a0 a1 x19_2 = some (r1, r2)) ∧ Aside0 (kq ≤ k) ∧ Drawn0 w wc)
  case first =>
    have H := HC3.out
    clear HC3
    by_cases c4 : a1 < 0
    · rw [if_pos c4] at H
      have c4b0 : decide (a1 < 0) = true := decide_eq_true c4
      clear c4
      (first | rw [c4b0] | (simp only [i64_w, i32_w]; rw [c4b0]) | skip)
      have H' := Aside0.mk H
      clear H
      go_wp2
      go_meet
      case rel => exact ⟨_, (true), (by first | rfl | (simp; done) | (simp [*]; done)), H', ⟨by first | omega | exact Nat.le_refl _⟩, by repeat (first | exact Drawn0.refl _ | apply Drawn0.step)⟩
    · rw [if_neg c4] at H
      have c4b0 : decide (a1 < 0) = false := decide_eq_false c4
      clear c4
      (first | rw [c4b0] | (simp only [i64_w, i32_w]; rw [c4b0]) | skip)
      have H' := Aside0.mk H
      clear H
      go_wp2
      go_meet
      case rel => exact ⟨_, (decide (a1 ≥ (a0.size : Int))), (by first | rfl | (simp; done) | (simp [*]; done)), H', ⟨by first | omega | exact Nat.le_refl _⟩, by repeat (first | exact Drawn0.refl _ | apply Drawn0.step)⟩
  case rest =>
    clear HC3
    try clear c1
    try clear p2
    try clear c4
    try clear c4b0
    obtain ⟨kq, x19_2, rfl, HA, HJ2, ⟨mc2, rfl⟩⟩ := hcut
    cases kq with
    | zero => exact absurd HA.out (by simp [spec_Rune.j0])
    | succ kj2 =>
      have H := HA.out
      clear HA
      simp only [spec_Rune.j0] at H
      by_cases c5 : x19_2 = true
      · subst c5
        have H1 : (some (0, 0)) = some (r1, r2) := by rw [if_pos rfl] at H; exact H
        clear H
        have H := H1
        clear H1
        simp only [Option.some.injEq, Prod.mk.injEq] at H
        obtain ⟨rfl, rfl⟩ := H
        go_wp2
        go_ret2
        exact ⟨by first | rfl | (simp; done) | (simp [*]; done), by repeat (first | exact Drawn0.refl _ | apply Drawn0.step)⟩
      · replace c5 := Bool.eq_false_iff.mpr c5
        subst c5
        have H1 : (if 0 ≤ a1 then (if a1 < (a0.size : Int) then (if (wrap64 (bt a0 a1)) < 128 then (some (wrap64 (bt a0 a1), 1)) else (if (wrap64 (bt a0 a1)) ≥ 194 then (spec_Rune.j1 kj2 a0 a1 (wrap64 (bt a0 a1)) 0 0 0 (decide ((wrap64 (bt a0 a1)) ≤ 223))) else (spec_Rune.j1 kj2 a0 a1 (wrap64 (bt a0 a1)) 0 0 0 false))) else (none)) else (none)) = some (r1, r2) := by rw [if_neg (show ¬ (false = true) by decide)] at H; exact H
        clear H
        have H := H1
        clear H1
        by_cases c6 : 0 ≤ a1
        · rw [if_pos c6] at H
          have c6b0 : decide (0 ≤ a1) = true := decide_eq_true c6
          clear c6
          by_cases c7 : a1 < (a0.size : Int)
          · rw [if_pos c7] at H
            have c7b0 : decide (a1 < (a0.size : Int)) = true := decide_eq_true c7
            clear c7
            by_cases c9 : (wrap64 (bt a0 a1)) < 128
            · rw [if_pos c9] at H
              have c9b0 : decide ((wrap64 (bt a0 a1)) < 128) = true := decide_eq_true c9
              clear c9
              simp only [Option.some.injEq, Prod.mk.injEq] at H
              obtain ⟨rfl, rfl⟩ := H
              have p8 : 0 ≤ (a1 : Int) := of_decide_eq_true (by first | (with_reducible assumption) | assumption)
              have q8 : a1 < (a0.size : Int) := of_decide_eq_true (by first | (with_reducible assumption) | assumption)
              have hx8 := bt_at a0 a1
              replace p8 := eq_true p8
              replace q8 := eq_true q8
              go_wp2
              go_ret2
              exact ⟨by first | rfl | (simp; done) | (simp [*]; done), by repeat (first | exact Drawn0.refl _ | apply Drawn0.step)⟩
            · rw [if_neg c9] at H
              have c9b0 : decide ((wrap64 (bt a0 a1)) < 128) = false := decide_eq_false c9
              clear c9
              have HC10 := Aside0.mk H
              clear H
              have p8 : 0 ≤ (a1 : Int) := of_decide_eq_true (by first | (with_reducible assumption) | assumption)
              have q8 : a1 < (a0.size : Int) := of_decide_eq_true (by first | (with_reducible assumption) | assumption)
              have hx8 := bt_at a0 a1
              replace p8 := eq_true p8
              replace q8 := eq_true q8
              go_upto_block 0 with (fail)
              go_cut [7, 8, 9] (fun v7 v8 v9 wc => ∃ (kq : Nat) (x7_9 : Int) (x8_9 : Int) (x9_9 : Int), v7 = .int .i64 x7_9 ∧ v8 = .int .i64 x8_9 ∧ v9 = .int .i64 x9_9 ∧ Aside0 (spec_Rune.j3 kq a0 a1 x7_9 x8_9 x9_9 = some (r1, r2)) ∧ Aside0 (kq ≤ kj2) ∧ Drawn0 w wc)
              case first =>
                have H := HC10.out
                clear HC10
                have HC11 := Aside0.mk H
                clear H
                go_upto_region 7 with (fail)
                go_cut [27] (fun v27 wc => ∃ (kq : Nat) (x27_10 : Bool), v27 = .bool x27_10 ∧ Aside0 (spec_Rune.j1 kq a0 a1 (wrap64 (bt a0 a1)) 0 0 0 x27_10 = some (r1, r2)) ∧ Aside0 (kq ≤ kj2) ∧ Drawn0 w wc)
                case first =>
                  have H := HC11.out
                  clear HC11
                  by_cases c12 : (wrap64 (bt a0 a1)) ≥ 194
                  · rw [if_pos c12] at H
                    have c12b0 : decide (194 ≤ (wrap64 (bt a0 a1))) = true := decide_eq_true c12
                    clear c12
                    (first | rw [c12b0] | (simp only [i64_w, i32_w]; rw [c12b0]) | skip)
                    have H' := Aside0.mk H
                    clear H
                    go_wp2
                    go_meet
                    case rel => exact ⟨_, (decide ((wrap64 (bt a0 a1)) ≤ 223)), (by first | rfl | (simp; done) | (simp [*]; done)), H', ⟨by have := HJ2.out; first | omega | exact Nat.le_refl _⟩, by repeat (first | exact Drawn0.refl _ | apply Drawn0.step)⟩
                  · rw [if_neg c12] at H
                    have c12b0 : decide (194 ≤ (wrap64 (bt a0 a1))) = false := decide_eq_false c12
                    clear c12
                    (first | rw [c12b0] | (simp only [i64_w, i32_w]; rw [c12b0]) | skip)
                    have H' := Aside0.mk H
                    clear H
                    go_wp2
                    go_meet
                    case rel => exact ⟨_, (false), (by first | rfl | (simp; done) | (simp [*]; done)), H', ⟨by have := HJ2.out; first | omega | exact Nat.le_refl _⟩, by repeat (first | exact Drawn0.refl _ | apply Drawn0.step)⟩
                case rest =>
                  clear HC11
                  try clear c1
                  try clear c2
                  try clear p2
                  try clear c4
                  try clear c4b0
                  try clear c5
                  try clear c6
                  try clear c6b0
                  try clear p6
                  try clear c7
                  try clear c7b0
                  try clear p8
                  try clear q8
                  try clear hx8
                  try clear c9
                  try clear c9b0
                  try clear c12
                  try clear c12b0
                  try clear p2
                  try clear p8
                  try clear q8
                  obtain ⟨kq, x27_10, rfl, HA, HJ10, ⟨mc10, rfl⟩⟩ := hcut
                  cases kq with
                  | zero => exact absurd HA.out (by simp [spec_Rune.j1])
                  | succ kj10 =>
                    have H := HA.out
                    clear HA
                    simp only [spec_Rune.j1] at H
                    by_cases c13 : x27_10 = true
                    · subst c13
                      have H1 : (spec_Rune.j3 kj10 a0 a1 2 (Go.bits .and .i64 (wrap64 (bt a0 a1)) 31) 128) = some (r1, r2) := by rw [if_pos rfl] at H; exact H
                      clear H
                      have H := H1
                      clear H1
                      have H' := Aside0.mk H
                      clear H
                      go_wp2
                      go_meet
                      case rel => exact ⟨_, (2), (Go.bits .and .i64 (wrap64 (bt a0 a1)) 31), (128), (by first | rfl | (simp; done) | (simp [*]; done)), (by first | rfl | (simp; done) | (simp [*]; done)), (by first | rfl | (simp; done) | (simp [*]; done)), H', ⟨by have := HJ2.out; have := HJ10.out; first | omega | exact Nat.le_refl _⟩, by repeat (first | exact Drawn0.refl _ | apply Drawn0.step)⟩
                    · replace c13 := Bool.eq_false_iff.mpr c13
                      subst c13
                      have H1 : (if (wrap64 (bt a0 a1)) ≥ 224 then (spec_Rune.j2 kj10 a0 a1 (wrap64 (bt a0 a1)) 0 0 0 (decide ((wrap64 (bt a0 a1)) ≤ 239))) else (spec_Rune.j2 kj10 a0 a1 (wrap64 (bt a0 a1)) 0 0 0 false)) = some (r1, r2) := by rw [if_neg (show ¬ (false = true) by decide)] at H; exact H
                      clear H
                      have H := H1
                      clear H1
                      have HC14 := Aside0.mk H
                      clear H
                      go_upto_region 9 with (fail)
                      go_cut [36] (fun v36 wc => ∃ (kq : Nat) (x36_13 : Bool), v36 = .bool x36_13 ∧ Aside0 (spec_Rune.j2 kq a0 a1 (wrap64 (bt a0 a1)) 0 0 0 x36_13 = some (r1, r2)) ∧ Aside0 (kq ≤ kj10) ∧ Drawn0 w wc)
                      case first =>
                        have H := HC14.out
                        clear HC14
                        by_cases c15 : (wrap64 (bt a0 a1)) ≥ 224
                        · rw [if_pos c15] at H
                          have c15b0 : decide (224 ≤ (wrap64 (bt a0 a1))) = true := decide_eq_true c15
                          clear c15
                          (first | rw [c15b0] | (simp only [i64_w, i32_w]; rw [c15b0]) | skip)
                          have H' := Aside0.mk H
                          clear H
                          go_wp2
                          go_meet
                          case rel => exact ⟨_, (decide ((wrap64 (bt a0 a1)) ≤ 239)), (by first | rfl | (simp; done) | (simp [*]; done)), H', ⟨by have := HJ2.out; have := HJ10.out; first | omega | exact Nat.le_refl _⟩, by repeat (first | exact Drawn0.refl _ | apply Drawn0.step)⟩
                        · rw [if_neg c15] at H
                          have c15b0 : decide (224 ≤ (wrap64 (bt a0 a1))) = false := decide_eq_false c15
                          clear c15
                          (first | rw [c15b0] | (simp only [i64_w, i32_w]; rw [c15b0]) | skip)
                          have H' := Aside0.mk H
                          clear H
                          go_wp2
                          go_meet
                          case rel => exact ⟨_, (false), (by first | rfl | (simp; done) | (simp [*]; done)), H', ⟨by have := HJ2.out; have := HJ10.out; first | omega | exact Nat.le_refl _⟩, by repeat (first | exact Drawn0.refl _ | apply Drawn0.step)⟩
                      case rest =>
                        clear HC14
                        try clear c1
                        try clear c2
                        try clear p2
                        try clear c4
                        try clear c4b0
                        try clear c5
                        try clear c6
                        try clear c6b0
                        try clear p6
                        try clear c7
                        try clear c7b0
                        try clear p8
                        try clear q8
                        try clear hx8
                        try clear c9
                        try clear c9b0
                        try clear c10
                        try clear c12
                        try clear c12b0
                        try clear c13
                        try clear c15
                        try clear c15b0
                        try clear p2
                        try clear p6
                        try clear p8
                        try clear q8
                        obtain ⟨kq, x36_13, rfl, HA, HJ13, ⟨mc13, rfl⟩⟩ := hcut
                        cases kq with
                        | zero => exact absurd HA.out (by simp [spec_Rune.j2])
                        | succ kj13 =>
                          have H := HA.out
                          clear HA
                          simp only [spec_Rune.j2] at H
                          by_cases c16 : x36_13 = true
                          · subst c16
                            have H1 : (spec_Rune.j3 kj13 a0 a1 3 (Go.bits .and .i64 (wrap64 (bt a0 a1)) 15) 2048) = some (r1, r2) := by rw [if_pos rfl] at H; exact H
                            clear H
                            have H := H1
                            clear H1
                            have H' := Aside0.mk H
                            clear H
                            go_wp2
                            go_meet
                            case rel => exact ⟨_, (3), (Go.bits .and .i64 (wrap64 (bt a0 a1)) 15), (2048), (by first | rfl | (simp; done) | (simp [*]; done)), (by first | rfl | (simp; done) | (simp [*]; done)), (by first | rfl | (simp; done) | (simp [*]; done)), H', ⟨by have := HJ2.out; have := HJ10.out; have := HJ13.out; first | omega | exact Nat.le_refl _⟩, by repeat (first | exact Drawn0.refl _ | apply Drawn0.step)⟩
                          · replace c16 := Bool.eq_false_iff.mpr c16
                            subst c16
                            have H1 : (if (wrap64 (bt a0 a1)) ≥ 240 then (if (wrap64 (bt a0 a1)) ≤ 244 then (spec_Rune.j3 kj13 a0 a1 4 (Go.bits .and .i64 (wrap64 (bt a0 a1)) 7) 65536) else (spec_Rune.j3 kj13 a0 a1 0 0 0)) else (spec_Rune.j3 kj13 a0 a1 0 0 0)) = some (r1, r2) := by rw [if_neg (show ¬ (false = true) by decide)] at H; exact H
                            clear H
                            have H := H1
                            clear H1
                            by_cases c17 : (wrap64 (bt a0 a1)) ≥ 240
                            · rw [if_pos c17] at H
                              have c17b0 : decide (240 ≤ (wrap64 (bt a0 a1))) = true := decide_eq_true c17
                              clear c17
                              by_cases c18 : (wrap64 (bt a0 a1)) ≤ 244
                              · rw [if_pos c18] at H
                                have c18b0 : decide ((wrap64 (bt a0 a1)) ≤ 244) = true := decide_eq_true c18
                                clear c18
                                have H' := Aside0.mk H
                                clear H
                                go_wp2
                                go_meet
                                case rel => exact ⟨_, (4), (Go.bits .and .i64 (wrap64 (bt a0 a1)) 7), (65536), (by first | rfl | (simp; done) | (simp [*]; done)), (by first | rfl | (simp; done) | (simp [*]; done)), (by first | rfl | (simp; done) | (simp [*]; done)), H', ⟨by have := HJ2.out; have := HJ10.out; have := HJ13.out; first | omega | exact Nat.le_refl _⟩, by repeat (first | exact Drawn0.refl _ | apply Drawn0.step)⟩
                              · rw [if_neg c18] at H
                                have c18b0 : decide ((wrap64 (bt a0 a1)) ≤ 244) = false := decide_eq_false c18
                                clear c18
                                have H' := Aside0.mk H
                                clear H
                                go_wp2
                                go_meet
                                case rel => exact ⟨_, (0), (0), (0), (by first | rfl | (simp; done) | (simp [*]; done)), (by first | rfl | (simp; done) | (simp [*]; done)), (by first | rfl | (simp; done) | (simp [*]; done)), H', ⟨by have := HJ2.out; have := HJ10.out; have := HJ13.out; first | omega | exact Nat.le_refl _⟩, by repeat (first | exact Drawn0.refl _ | apply Drawn0.step)⟩
                            · rw [if_neg c17] at H
                              have c17b0 : decide (240 ≤ (wrap64 (bt a0 a1))) = false := decide_eq_false c17
                              clear c17
                              have H' := Aside0.mk H
                              clear H
                              go_wp2
                              go_meet
                              case rel => exact ⟨_, (0), (0), (0), (by first | rfl | (simp; done) | (simp [*]; done)), (by first | rfl | (simp; done) | (simp [*]; done)), (by first | rfl | (simp; done) | (simp [*]; done)), H', ⟨by have := HJ2.out; have := HJ10.out; have := HJ13.out; first | omega | exact Nat.le_refl _⟩, by repeat (first | exact Drawn0.refl _ | apply Drawn0.step)⟩
              case rest =>
                clear HC10
                try clear c1
                try clear c2
                try clear p2
                try clear c4
                try clear c4b0
                try clear c5
                try clear c6
                try clear c6b0
                try clear p6
                try clear c7
                try clear c7b0
                try clear p8
                try clear q8
                try clear hx8
                try clear c9
                try clear c9b0
                try clear c10
                try clear c12
                try clear c12b0
                try clear c13
                try clear c15
                try clear c15b0
                try clear c16
                try clear c17
                try clear c17b0
                try clear c18
                try clear c18b0
                try clear p2
                try clear p6
                try clear p8
                try clear q8
                obtain ⟨kq, x7_9, x8_9, x9_9, rfl, rfl, rfl, HA, HJ9, ⟨mc9, rfl⟩⟩ := hcut
                cases kq with
                | zero => exact absurd HA.out (by simp [spec_Rune.j3])
                | succ kj9 =>
                  have H := HA.out
                  clear HA
                  simp only [spec_Rune.j3] at H
                  have HC19 := Aside0.mk H
                  clear H
                  go_upto_region 13 with (fail)
                  go_cut [63] (fun v63 wc => ∃ (kq : Nat) (x63_18 : Bool), v63 = .bool x63_18 ∧ Aside0 (spec_Rune.j4 kq a0 a1 x7_9 x8_9 x9_9 x63_18 = some (r1, r2)) ∧ Aside0 (kq ≤ kj9) ∧ Drawn0 w wc)
                  case first =>
                    have H := HC19.out
                    clear HC19
                    by_cases c20 : x7_9 = 0
                    · rw [if_pos c20] at H
                      have c20b0 : (x7_9 == 0) = true := beq_iff_eq.mpr c20
                      have c20b1 : (x7_9 != 0) = false := bne_eq_false_iff_eq.mpr c20
                      clear c20
                      (first | rw [c20b0] | (simp only [i64_w, i32_w]; rw [c20b0]) | skip)
                      have H' := Aside0.mk H
                      clear H
                      go_wp2
                      go_meet
                      case rel => exact ⟨_, (true), (by first | rfl | (simp; done) | (simp [*]; done)), H', ⟨by have := HJ2.out; have := HJ9.out; first | omega | exact Nat.le_refl _⟩, by repeat (first | exact Drawn0.refl _ | apply Drawn0.step)⟩
                    · rw [if_neg c20] at H
                      have c20b0 : (x7_9 == 0) = false := beq_eq_false_iff_ne.mpr c20
                      have c20b1 : (x7_9 != 0) = true := bne_iff_ne.mpr c20
                      (first | rw [c20b0] | (simp only [i64_w, i32_w]; rw [c20b0]) | skip)
                      have H' := Aside0.mk H
                      clear H
                      go_wp2
                      go_meet
                      case rel => exact ⟨_, (decide ((wrap64 (a1 + x7_9)) > (a0.size : Int))), (by first | rfl | (simp; done) | (simp [*]; done)), H', ⟨by have := HJ2.out; have := HJ9.out; first | omega | exact Nat.le_refl _⟩, by repeat (first | exact Drawn0.refl _ | apply Drawn0.step)⟩
                  case rest =>
                    clear HC19
                    try clear c1
                    try clear c2
                    try clear p2
                    try clear c4
                    try clear c4b0
                    try clear c5
                    try clear c6
                    try clear c6b0
                    try clear p6
                    try clear c7
                    try clear c7b0
                    try clear p8
                    try clear q8
                    try clear hx8
                    try clear c9
                    try clear c9b0
                    try clear c10
                    try clear c12
                    try clear c12b0
                    try clear c13
                    try clear c15
                    try clear c15b0
                    try clear c16
                    try clear c17
                    try clear c17b0
                    try clear c18
                    try clear c18b0
                    try clear c20
                    try clear c20b0
                    try clear c20b1
                    try clear p2
                    try clear p6
                    try clear p8
                    try clear q8
                    obtain ⟨kq, x63_18, rfl, HA, HJ18, ⟨mc18, rfl⟩⟩ := hcut
                    cases kq with
                    | zero => exact absurd HA.out (by simp [spec_Rune.j4])
                    | succ kj18 =>
                      have H := HA.out
                      clear HA
                      simp only [spec_Rune.j4] at H
                      by_cases c21 : x63_18 = true
                      · subst c21
                        have H1 : (some (0, 0)) = some (r1, r2) := by rw [if_pos rfl] at H; exact H
                        clear H
                        have H := H1
                        clear H1
                        simp only [Option.some.injEq, Prod.mk.injEq] at H
                        obtain ⟨rfl, rfl⟩ := H
                        go_wp2
                        go_ret2
                        exact ⟨by first | rfl | (simp; done) | (simp [*]; done), by repeat (first | exact Drawn0.refl _ | apply Drawn0.step)⟩
                      · replace c21 := Bool.eq_false_iff.mpr c21
                        subst c21
                        have H1 : (spec_Rune.l0 kj18 a0 a1 x7_9 x8_9 x9_9 1) = some (r1, r2) := by rw [if_neg (show ¬ (false = true) by decide)] at H; exact H
                        clear H
                        have H := H1
                        clear H1
                        have H' := Aside0.mk H
                        clear H
                        go_wp2
                        go_loopg [8, 10] kj18 (fun kq v8 v10 w' => ∃ (x8_4 : Int) (x10_4 : Int), v8 = .int .i64 x8_4 ∧ v10 = .int .i64 x10_4 ∧ Aside0 (spec_Rune.l0 kq a0 a1 x7_9 x8_4 x9_9 x10_4 = some (r1, r2)) ∧ Aside0 (kq ≤ kj18) ∧ Drawn0 w w')
                        case atStart => exact ⟨(x8_9), (1), (by first | rfl | (simp; done) | (simp [*]; done)), (by first | rfl | (simp; done) | (simp [*]; done)), H', ⟨Nat.le_refl _⟩, by repeat (first | exact Drawn0.refl _ | apply Drawn0.step)⟩
                        case round =>
                          clear H'
                          try clear c1
                          try clear c2
                          try clear p2
                          try clear c4
                          try clear c4b0
                          try clear c5
                          try clear c6
                          try clear c6b0
                          try clear p6
                          try clear c7
                          try clear c7b0
                          try clear p8
                          try clear q8
                          try clear hx8
                          try clear c9
                          try clear c9b0
                          try clear c10
                          try clear c12
                          try clear c12b0
                          try clear c13
                          try clear c15
                          try clear c15b0
                          try clear c16
                          try clear c17
                          try clear c17b0
                          try clear c18
                          try clear c18b0
                          try clear c20
                          try clear c20b0
                          try clear c20b1
                          try clear c21
                          try clear p2
                          try clear p6
                          try clear p8
                          try clear q8
                          obtain ⟨x8_4, x10_4, rfl, rfl, HA, HK4, ⟨m4, rfl⟩⟩ := hrel
                          cases gk with
                          | zero => exact absurd HA.out (by simp [spec_Rune.l0])
                          | succ k4 =>
                            have H := HA.out
                            clear HA
                            simp only [spec_Rune.l0] at H
                            by_cases c22 : x10_4 < x7_9
                            · rw [if_pos c22] at H
                              have c22b0 : decide (x10_4 < x7_9) = true := decide_eq_true c22
                              clear c22
                              obtain ⟨ji23, hji23⟩ : ∃ j_ : Int, (wrap64 (a1 + x10_4)) = j_ := ⟨_, rfl⟩
                              replace H : (if 0 ≤ (ji23) then (if (ji23) < (a0.size : Int) then (if (Go.bits .and .i64 (wrap64 (bt a0 (ji23))) 192) = 128 then (spec_Rune.l0 k4 a0 a1 x7_9 (Go.bits .or .i64 (wrap64 (x8_4 * 64)) (Go.bits .and .i64 (wrap64 (bt a0 (ji23))) 63)) x9_9 (wrap64 (x10_4 + 1))) else (some (0, 0))) else (none)) else (none)) = some (r1, r2) := by first | (rw [hji23] at H; exact H) | (simp only [hji23] at H ⊢; exact H)
                              have hji23w : (IntKind.i64.wrap (a1 + x10_4)) = ji23 := (i64_w _).trans hji23
                              by_cases c24 : 0 ≤ (ji23)
                              · rw [if_pos c24] at H
                                have c24b0 : decide (0 ≤ (ji23)) = true := decide_eq_true c24
                                clear c24
                                by_cases c25 : (ji23) < (a0.size : Int)
                                · rw [if_pos c25] at H
                                  have c25b0 : decide ((ji23) < (a0.size : Int)) = true := decide_eq_true c25
                                  clear c25
                                  by_cases c27 : (Go.bits .and .i64 (wrap64 (bt a0 (ji23))) 192) = 128
                                  · rw [if_pos c27] at H
                                    have c27b0 : ((Go.bits .and .i64 (wrap64 (bt a0 (ji23))) 192) == 128) = true := beq_iff_eq.mpr c27
                                    have c27b1 : ((Go.bits .and .i64 (wrap64 (bt a0 (ji23))) 192) != 128) = false := bne_eq_false_iff_eq.mpr c27
                                    clear c27
                                    have H' := Aside0.mk H
                                    clear H
                                    have p26 : 0 ≤ ((ji23) : Int) := of_decide_eq_true (by first | (with_reducible assumption) | assumption)
                                    have q26 : (ji23) < (a0.size : Int) := of_decide_eq_true (by first | (with_reducible assumption) | assumption)
                                    have hx26 := bt_at a0 (ji23)
                                    replace p26 := eq_true p26
                                    replace q26 := eq_true q26
                                    go_wp2
                                    go_roundg k4
                                    case measure => have := HJ2.out; have := HJ9.out; have := HJ18.out; have := HK4.out; omega
                                    case rel => exact ⟨(Go.bits .or .i64 (wrap64 (x8_4 * 64)) (Go.bits .and .i64 (wrap64 (bt a0 (ji23))) 63)), (wrap64 (x10_4 + 1)), (by first | rfl | (simp; done) | (simp only [← hji23] <;> (first | rfl | simp)) | (simp [*]; done)), (by first | rfl | (simp; done) | (simp [*]; done)), H', ⟨by have := HJ2.out; have := HJ9.out; have := HJ18.out; have := HK4.out; omega⟩, by repeat (first | exact Drawn0.refl _ | apply Drawn0.step)⟩
                                  · rw [if_neg c27] at H
                                    have c27b0 : ((Go.bits .and .i64 (wrap64 (bt a0 (ji23))) 192) == 128) = false := beq_eq_false_iff_ne.mpr c27
                                    have c27b1 : ((Go.bits .and .i64 (wrap64 (bt a0 (ji23))) 192) != 128) = true := bne_iff_ne.mpr c27
                                    simp only [Option.some.injEq, Prod.mk.injEq] at H
                                    obtain ⟨rfl, rfl⟩ := H
                                    have p26 : 0 ≤ ((ji23) : Int) := of_decide_eq_true (by first | (with_reducible assumption) | assumption)
                                    have q26 : (ji23) < (a0.size : Int) := of_decide_eq_true (by first | (with_reducible assumption) | assumption)
                                    have hx26 := bt_at a0 (ji23)
                                    replace p26 := eq_true p26
                                    replace q26 := eq_true q26
                                    go_wp2
                                    go_ret2
                                    exact ⟨by first | rfl | (simp; done) | (simp only [← hji23] <;> (first | rfl | simp)) | (simp [*]; done), by repeat (first | exact Drawn0.refl _ | apply Drawn0.step)⟩
                                · rw [if_neg c25] at H
                                  exact absurd H (by simp)
                              · rw [if_neg c24] at H
                                exact absurd H (by simp)
                            · rw [if_neg c22] at H
                              have c22b0 : decide (x10_4 < x7_9) = false := decide_eq_false c22
                              clear c22
                              by_cases c28 : x8_4 < x9_9
                              · rw [if_pos c28] at H
                                have c28b0 : decide (x8_4 < x9_9) = true := decide_eq_true c28
                                clear c28
                                simp only [Option.some.injEq, Prod.mk.injEq] at H
                                obtain ⟨rfl, rfl⟩ := H
                                go_wp2
                                go_ret2
                                exact ⟨by first | rfl | (simp; done) | (simp [*]; done), by repeat (first | exact Drawn0.refl _ | apply Drawn0.step)⟩
                              · rw [if_neg c28] at H
                                have c28b0 : decide (x8_4 < x9_9) = false := decide_eq_false c28
                                clear c28
                                by_cases c29 : x8_4 > 1114111
                                · rw [if_pos c29] at H
                                  have c29b0 : decide (1114111 < x8_4) = true := decide_eq_true c29
                                  clear c29
                                  simp only [Option.some.injEq, Prod.mk.injEq] at H
                                  obtain ⟨rfl, rfl⟩ := H
                                  go_wp2
                                  go_ret2
                                  exact ⟨by first | rfl | (simp; done) | (simp [*]; done), by repeat (first | exact Drawn0.refl _ | apply Drawn0.step)⟩
                                · rw [if_neg c29] at H
                                  have c29b0 : decide (1114111 < x8_4) = false := decide_eq_false c29
                                  clear c29
                                  by_cases c30 : x8_4 ≥ 55296
                                  · rw [if_pos c30] at H
                                    have c30b0 : decide (55296 ≤ x8_4) = true := decide_eq_true c30
                                    clear c30
                                    by_cases c31 : x8_4 ≤ 57343
                                    · rw [if_pos c31] at H
                                      have c31b0 : decide (x8_4 ≤ 57343) = true := decide_eq_true c31
                                      clear c31
                                      simp only [Option.some.injEq, Prod.mk.injEq] at H
                                      obtain ⟨rfl, rfl⟩ := H
                                      go_wp2
                                      go_ret2
                                      exact ⟨by first | rfl | (simp; done) | (simp [*]; done), by repeat (first | exact Drawn0.refl _ | apply Drawn0.step)⟩
                                    · rw [if_neg c31] at H
                                      have c31b0 : decide (x8_4 ≤ 57343) = false := decide_eq_false c31
                                      clear c31
                                      simp only [Option.some.injEq, Prod.mk.injEq] at H
                                      obtain ⟨rfl, rfl⟩ := H
                                      go_wp2
                                      go_ret2
                                      exact ⟨by first | rfl | (simp; done) | (simp [*]; done), by repeat (first | exact Drawn0.refl _ | apply Drawn0.step)⟩
                                  · rw [if_neg c30] at H
                                    have c30b0 : decide (55296 ≤ x8_4) = false := decide_eq_false c30
                                    clear c30
                                    simp only [Option.some.injEq, Prod.mk.injEq] at H
                                    obtain ⟨rfl, rfl⟩ := H
                                    go_wp2
                                    go_ret2
                                    exact ⟨by first | rfl | (simp; done) | (simp [*]; done), by repeat (first | exact Drawn0.refl _ | apply Drawn0.step)⟩
          · rw [if_neg c7] at H
            exact absurd H (by simp)
        · rw [if_neg c6] at H
          exact absurd H (by simp)

/-! ### spec_WellFormed: function 5 -/
def spec_WellFormed.l0 : Nat → ByteArray → Int → Option (Bool)
  | 0, _, _ => none
  | k + 1, x0, x3 => if x3 < (x0.size : Int) then ((spec_Rune.f k x0 x3).bind fun bt102 => (if bt102.2 = 0 then (some false) else (spec_WellFormed.l0 k x0 (wrap64 (x3 + bt102.2))))) else (some true)
def spec_WellFormed.f (k : Nat) (a0 : ByteArray) : Option (Bool) := spec_WellFormed.l0 k a0 0
theorem spec_WellFormed.mono_l : ∀ k, (∀ y0 y1, LeO (spec_WellFormed.l0 k y0 y1) (spec_WellFormed.l0 (k + 1) y0 y1))
  | 0 => fun _ _ r h => by simp [spec_WellFormed.l0] at h
  | k + 1 => by
    have ih0 := spec_WellFormed.mono_l k
    · intro y0 y1
      unfold spec_WellFormed.l0
      repeat' first
      | (with_reducible exact ih0 _ _)
      | (with_reducible exact spec_Rune.mono _ _ _)
      | (with_reducible exact LeO.refl _)
      | (with_reducible exact LeO.none _)
      | (with_reducible refine LeO.ite ?_ ?_)
      | (with_reducible refine LeO.bind ?_ (fun _ => ?_))
      | exact ih0 _ _
      | exact spec_Rune.mono _ _ _
      | exact LeO.none _
      | refine LeO.ite ?_ ?_
      | refine LeO.bind ?_ (fun _ => ?_)
theorem spec_WellFormed.mono : ∀ a0 k, LeO (spec_WellFormed.f k a0) (spec_WellFormed.f (k + 1) a0) := by
  intro a0 k
  have ih0 := spec_WellFormed.mono_l k
  unfold spec_WellFormed.f
  repeat' first
      | (with_reducible exact ih0 _ _)
      | (with_reducible exact spec_Rune.mono _ _ _)
      | (with_reducible exact LeO.refl _)
      | (with_reducible exact LeO.none _)
      | (with_reducible refine LeO.ite ?_ ?_)
      | (with_reducible refine LeO.bind ?_ (fun _ => ?_))
      | exact ih0 _ _
      | exact spec_Rune.mono _ _ _
      | exact LeO.none _
      | refine LeO.ite ?_ ?_
      | refine LeO.bind ?_ (fun _ => ?_)
set_option maxHeartbeats 8000000 in
set_option maxRecDepth 100000 in
theorem spec_WellFormed.calls (k : Nat) (a0 : ByteArray) (r : Bool) (w : World) (h : spec_WellFormed.f k a0 = some r) :
    Calls Tryd.prog 5 #[.string a0] w fun e w' => e = .returned (.bool r) ∧ Drawn0 w w' := by
  have H : (spec_WellFormed.l0 k a0 0) = some r := h
  clear h
  have H' := Aside0.mk H
  clear H
  go_enter Tryd.func5, Tryd.ntmps5
  go_wp2
  go_loopg [3] k (fun kq v3 w' => ∃ (x3_1 : Int), v3 = .int .i64 x3_1 ∧ Aside0 (spec_WellFormed.l0 kq a0 x3_1 = some r) ∧ Aside0 (kq ≤ k) ∧ Drawn0 w w')
  case atStart => exact ⟨(0), (by first | rfl | (simp; done) | (simp [*]; done)), H', ⟨Nat.le_refl _⟩, by repeat (first | exact Drawn0.refl _ | apply Drawn0.step)⟩
  case round =>
    clear H'
    obtain ⟨x3_1, rfl, HA, HK1, ⟨m1, rfl⟩⟩ := hrel
    cases gk with
    | zero => exact absurd HA.out (by simp [spec_WellFormed.l0])
    | succ k1 =>
      have H := HA.out
      clear HA
      simp only [spec_WellFormed.l0] at H
      by_cases c2 : x3_1 < (a0.size : Int)
      · rw [if_pos c2] at H
        have c2b0 : decide (x3_1 < (a0.size : Int)) = true := decide_eq_true c2
        clear c2
        replace H := Option.bind_eq_some_iff.mp H
        obtain ⟨⟨t102, t103⟩, A30, H⟩ := H
        replace H : (if t103 = 0 then (some false) else (spec_WellFormed.l0 k1 a0 (wrap64 (x3_1 + t103)))) = some r := H
        have A3 := Aside0.mk A30
        clear A30
        by_cases c4 : t103 = 0
        · rw [if_pos c4] at H
          have c4b0 : (t103 == 0) = true := beq_iff_eq.mpr c4
          have c4b1 : (t103 != 0) = false := bne_eq_false_iff_eq.mpr c4
          clear c4
          obtain rfl := Option.some.inj H
          go_wp2_with (first | ((with_reducible refine gate_callee (f := 13) rfl ?_); refine goesL_ (some 13) rfl rfl Tryd.func13 (by kernel_rfl) rfl #[.string a0, .int .i64 x3_1] rfl (by (try simp only [List.map_toArray, List.map_cons, List.map_nil]); first | done | rfl | (simp only [List.length_drop, List.length_take]; rfl)) ?_; (with_reducible refine (spec_Rune.calls k1 a0 x3_1 t102 t103 _ A3.out).mono ?_); rintro e w' ⟨rfl, ⟨nd, rfl⟩⟩; refine ⟨_, rfl, ?_⟩))
          go_ret
          exact ⟨by first | rfl | (simp; done) | (simp [*]; done), by repeat (first | exact Drawn0.refl _ | apply Drawn0.step)⟩
        · rw [if_neg c4] at H
          have c4b0 : (t103 == 0) = false := beq_eq_false_iff_ne.mpr c4
          have c4b1 : (t103 != 0) = true := bne_iff_ne.mpr c4
          have H' := Aside0.mk H
          clear H
          go_wp2_with (first | ((with_reducible refine gate_callee (f := 13) rfl ?_); refine goesL_ (some 13) rfl rfl Tryd.func13 (by kernel_rfl) rfl #[.string a0, .int .i64 x3_1] rfl (by (try simp only [List.map_toArray, List.map_cons, List.map_nil]); first | done | rfl | (simp only [List.length_drop, List.length_take]; rfl)) ?_; (with_reducible refine (spec_Rune.calls k1 a0 x3_1 t102 t103 _ A3.out).mono ?_); rintro e w' ⟨rfl, ⟨nd, rfl⟩⟩; refine ⟨_, rfl, ?_⟩))
          go_roundg k1
          case measure => have := HK1.out; omega
          case rel => exact ⟨(wrap64 (x3_1 + t103)), (by first | rfl | (simp; done) | (simp [*]; done)), H', ⟨by have := HK1.out; omega⟩, by repeat (first | exact Drawn0.refl _ | apply Drawn0.step)⟩
      · rw [if_neg c2] at H
        have c2b0 : decide (x3_1 < (a0.size : Int)) = false := decide_eq_false c2
        clear c2
        obtain rfl := Option.some.inj H
        go_wp2
        go_ret
        exact ⟨by first | rfl | (simp; done) | (simp [*]; done), by repeat (first | exact Drawn0.refl _ | apply Drawn0.step)⟩

end Go.Proofs.YtckgmnpcnoanhaaDoor.PFnLocated
