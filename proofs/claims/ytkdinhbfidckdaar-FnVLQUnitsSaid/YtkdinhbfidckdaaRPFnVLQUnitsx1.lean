-- Written by printx.py of this session, over the kit's print, with contracts of this session for some functions
import Derived.Test.YtkdinhbfidckdaaRPFnVLQUnitsx0
namespace Go.Proofs.YtkdinhbfidckdaaR.PFnVLQUnits
open Go.RowKit Go.Proofs.YtkdinhbfidckdaaRW.PrintWords Go.Proofs.YtkdinhbfidckdaaRW.PrintLast Go.Proofs.YtkdinhbfidckdaaRW.PrintMore
attribute [local go_sem] max2_int min2_int max_two min_two max_three min_three max_four min_four   -- for this text's walks alone
set_option linter.unusedVariables false
set_option linter.unusedSimpArgs false

-- function 26 (impl_DecodeVLQ16): its contract stands in YtkdinhbfidckdaaRExtVLQ

/-! ### spec_mapDigit: function 51 -/
def spec_mapDigit.l0 : Nat → Int → Int → Option (Int)
  | 0, _, _ => none
  | k + 1, x0, x3 => if x3 < 64 then (if 0 ≤ x3 then (if (bt (⟨#[65, 66, 67, 68, 69, 70, 71, 72, 73, 74, 75, 76, 77, 78, 79, 80, 81, 82, 83, 84, 85, 86, 87, 88, 89, 90, 97, 98, 99, 100, 101, 102, 103, 104, 105, 106, 107, 108, 109, 110, 111, 112, 113, 114, 115, 116, 117, 118, 119, 120, 121, 122, 48, 49, 50, 51, 52, 53, 54, 55, 56, 57, 43, 47]⟩ : ByteArray) x3) = x0 then (some x3) else (spec_mapDigit.l0 k x0 (wrap64 (x3 + 1)))) else (none)) else (some (-1))
def spec_mapDigit.f (k : Nat) (a0 : Int) : Option (Int) := spec_mapDigit.l0 k a0 0
theorem spec_mapDigit.mono_l : ∀ k, (∀ y0 y1, LeO (spec_mapDigit.l0 k y0 y1) (spec_mapDigit.l0 (k + 1) y0 y1))
  | 0 => fun _ _ r h => by simp [spec_mapDigit.l0] at h
  | k + 1 => by
    have ih0 := spec_mapDigit.mono_l k
    · intro y0 y1
      unfold spec_mapDigit.l0
      repeat' first
      | (with_reducible exact ih0 _ _)
      | (with_reducible exact LeO.refl _)
      | (with_reducible exact LeO.none _)
      | (with_reducible refine LeO.ite ?_ ?_)
      | (with_reducible refine LeO.bind ?_ (fun _ => ?_))
      | exact ih0 _ _
      | exact LeO.none _
      | refine LeO.ite ?_ ?_
      | refine LeO.bind ?_ (fun _ => ?_)
theorem spec_mapDigit.mono : ∀ a0 k, LeO (spec_mapDigit.f k a0) (spec_mapDigit.f (k + 1) a0) := by
  intro a0 k
  have ih0 := spec_mapDigit.mono_l k
  unfold spec_mapDigit.f
  repeat' first
      | (with_reducible exact ih0 _ _)
      | (with_reducible exact LeO.refl _)
      | (with_reducible exact LeO.none _)
      | (with_reducible refine LeO.ite ?_ ?_)
      | (with_reducible refine LeO.bind ?_ (fun _ => ?_))
      | exact ih0 _ _
      | exact LeO.none _
      | refine LeO.ite ?_ ?_
      | refine LeO.bind ?_ (fun _ => ?_)
set_option maxHeartbeats 8000000 in
set_option maxRecDepth 100000 in
theorem spec_mapDigit.calls (k : Nat) (a0 : Int) (r : Int) (w : World) (h : spec_mapDigit.f k a0 = some r) :
    Calls Try.prog 51 #[.int .u8 a0] w fun e w' => e = .returned (.int .i64 r) ∧ Drawn0 w w' := by
  have H : (spec_mapDigit.l0 k a0 0) = some r := h
  clear h
  have H' := Aside0.mk H
  clear H
  go_enter Try.func51, Try.ntmps51
  go_wp2
  go_loopg [3] k (fun kq v3 w' => ∃ (x3_1 : Int), v3 = .int .i64 x3_1 ∧ Aside0 (spec_mapDigit.l0 kq a0 x3_1 = some r) ∧ Aside0 (kq ≤ k) ∧ Drawn0 w w')
  case atStart => exact ⟨(0), (by first | rfl | (simp; done) | (simp [*]; done)), H', ⟨Nat.le_refl _⟩, by repeat (first | exact Drawn0.refl _ | apply Drawn0.step)⟩
  case round =>
    clear H'
    obtain ⟨x3_1, rfl, HA, HK1, ⟨m1, rfl⟩⟩ := hrel
    cases gk with
    | zero => exact absurd HA.out (by simp [spec_mapDigit.l0])
    | succ k1 =>
      have H := HA.out
      clear HA
      simp only [spec_mapDigit.l0] at H
      by_cases c2 : x3_1 < 64
      · rw [if_pos c2] at H
        have c2b0 : decide (x3_1 < 64) = true := decide_eq_true c2
        clear c2
        by_cases c3 : 0 ≤ x3_1
        · rw [if_pos c3] at H
          have c3b0 : decide (0 ≤ x3_1) = true := decide_eq_true c3
          clear c3
          by_cases c5 : (bt (⟨#[65, 66, 67, 68, 69, 70, 71, 72, 73, 74, 75, 76, 77, 78, 79, 80, 81, 82, 83, 84, 85, 86, 87, 88, 89, 90, 97, 98, 99, 100, 101, 102, 103, 104, 105, 106, 107, 108, 109, 110, 111, 112, 113, 114, 115, 116, 117, 118, 119, 120, 121, 122, 48, 49, 50, 51, 52, 53, 54, 55, 56, 57, 43, 47]⟩ : ByteArray) x3_1) = a0
          · rw [if_pos c5] at H
            have c5b0 : ((bt (⟨#[65, 66, 67, 68, 69, 70, 71, 72, 73, 74, 75, 76, 77, 78, 79, 80, 81, 82, 83, 84, 85, 86, 87, 88, 89, 90, 97, 98, 99, 100, 101, 102, 103, 104, 105, 106, 107, 108, 109, 110, 111, 112, 113, 114, 115, 116, 117, 118, 119, 120, 121, 122, 48, 49, 50, 51, 52, 53, 54, 55, 56, 57, 43, 47]⟩ : ByteArray) x3_1) == a0) = true := beq_iff_eq.mpr c5
            have c5b1 : ((bt (⟨#[65, 66, 67, 68, 69, 70, 71, 72, 73, 74, 75, 76, 77, 78, 79, 80, 81, 82, 83, 84, 85, 86, 87, 88, 89, 90, 97, 98, 99, 100, 101, 102, 103, 104, 105, 106, 107, 108, 109, 110, 111, 112, 113, 114, 115, 116, 117, 118, 119, 120, 121, 122, 48, 49, 50, 51, 52, 53, 54, 55, 56, 57, 43, 47]⟩ : ByteArray) x3_1) != a0) = false := bne_eq_false_iff_eq.mpr c5
            clear c5
            obtain rfl := Option.some.inj H
            have p4 : 0 ≤ (x3_1 : Int) := of_decide_eq_true (by first | (with_reducible assumption) | assumption)
            have q4 : x3_1 < (64 : Int) := of_decide_eq_true (by first | (with_reducible assumption) | assumption)
            have hx4 := bt_at (⟨#[65, 66, 67, 68, 69, 70, 71, 72, 73, 74, 75, 76, 77, 78, 79, 80, 81, 82, 83, 84, 85, 86, 87, 88, 89, 90, 97, 98, 99, 100, 101, 102, 103, 104, 105, 106, 107, 108, 109, 110, 111, 112, 113, 114, 115, 116, 117, 118, 119, 120, 121, 122, 48, 49, 50, 51, 52, 53, 54, 55, 56, 57, 43, 47]⟩ : ByteArray) x3_1
            replace p4 := eq_true p4
            replace q4 := eq_true q4
            go_wp2
            go_ret
            exact ⟨by first | rfl | (simp; done) | (simp [*]; done), by repeat (first | exact Drawn0.refl _ | apply Drawn0.step)⟩
          · rw [if_neg c5] at H
            have c5b0 : ((bt (⟨#[65, 66, 67, 68, 69, 70, 71, 72, 73, 74, 75, 76, 77, 78, 79, 80, 81, 82, 83, 84, 85, 86, 87, 88, 89, 90, 97, 98, 99, 100, 101, 102, 103, 104, 105, 106, 107, 108, 109, 110, 111, 112, 113, 114, 115, 116, 117, 118, 119, 120, 121, 122, 48, 49, 50, 51, 52, 53, 54, 55, 56, 57, 43, 47]⟩ : ByteArray) x3_1) == a0) = false := beq_eq_false_iff_ne.mpr c5
            have c5b1 : ((bt (⟨#[65, 66, 67, 68, 69, 70, 71, 72, 73, 74, 75, 76, 77, 78, 79, 80, 81, 82, 83, 84, 85, 86, 87, 88, 89, 90, 97, 98, 99, 100, 101, 102, 103, 104, 105, 106, 107, 108, 109, 110, 111, 112, 113, 114, 115, 116, 117, 118, 119, 120, 121, 122, 48, 49, 50, 51, 52, 53, 54, 55, 56, 57, 43, 47]⟩ : ByteArray) x3_1) != a0) = true := bne_iff_ne.mpr c5
            have H' := Aside0.mk H
            clear H
            have p4 : 0 ≤ (x3_1 : Int) := of_decide_eq_true (by first | (with_reducible assumption) | assumption)
            have q4 : x3_1 < (64 : Int) := of_decide_eq_true (by first | (with_reducible assumption) | assumption)
            have hx4 := bt_at (⟨#[65, 66, 67, 68, 69, 70, 71, 72, 73, 74, 75, 76, 77, 78, 79, 80, 81, 82, 83, 84, 85, 86, 87, 88, 89, 90, 97, 98, 99, 100, 101, 102, 103, 104, 105, 106, 107, 108, 109, 110, 111, 112, 113, 114, 115, 116, 117, 118, 119, 120, 121, 122, 48, 49, 50, 51, 52, 53, 54, 55, 56, 57, 43, 47]⟩ : ByteArray) x3_1
            replace p4 := eq_true p4
            replace q4 := eq_true q4
            go_wp2
            go_roundg k1
            case measure => have := HK1.out; omega
            case rel => exact ⟨(wrap64 (x3_1 + 1)), (by first | rfl | (simp; done) | (simp [*]; done)), H', ⟨by have := HK1.out; omega⟩, by repeat (first | exact Drawn0.refl _ | apply Drawn0.step)⟩
        · rw [if_neg c3] at H
          exact absurd H (by simp)
      · rw [if_neg c2] at H
        have c2b0 : decide (x3_1 < 64) = false := decide_eq_false c2
        clear c2
        obtain rfl := Option.some.inj H
        go_wp2
        go_ret
        exact ⟨by first | rfl | (simp; done) | (simp [*]; done), by repeat (first | exact Drawn0.refl _ | apply Drawn0.step)⟩

/-! ### spec_VLQ: function 27 -/
mutual
def spec_VLQ.l0 : Nat → ByteArray → Int → Int → Int → Option (Int × Int × Bool)
  | 0, _, _, _, _ => none
  | k + 1, x0, x1, x7, x8 => if x1 < 0 then (spec_VLQ.j1 k x0 x1 x7 x8 true) else (if x1 ≥ (x0.size : Int) then (spec_VLQ.j1 k x0 x1 x7 x8 true) else (spec_VLQ.j1 k x0 x1 x7 x8 (decide (x8 > 30))))
def spec_VLQ.j1 : Nat → ByteArray → Int → Int → Int → Bool → Option (Int × Int × Bool)
  | 0, _, _, _, _, _ => none
  | k + 1, x0, x1, x7, x8, x21 => if x21 = true then (some (0, x1, false)) else (if 0 ≤ x1 then (if x1 < (x0.size : Int) then ((spec_mapDigit.f k (bt x0 x1)).bind fun t101 => (if t101 < 0 then (some (0, wrap64 (x1 + 1), false)) else (if 0 ≤ x8 then (if t101 < 32 then (if (Go.bits .and .i64 (wrap64 (x7 + (shl .i64 (Go.bits .and .i64 t101 31) x8))) 1) = 1 then (if (wrap64 (-((wrap64 (x7 + (shl .i64 (Go.bits .and .i64 t101 31) x8))) / 2))) < 2147483648 then (if (wrap64 (-((wrap64 (x7 + (shl .i64 (Go.bits .and .i64 t101 31) x8))) / 2))) > (-2147483648) then (some (wrap64 (-((wrap64 (x7 + (shl .i64 (Go.bits .and .i64 t101 31) x8))) / 2)), wrap64 (x1 + 1), !((wrap64 (x7 + (shl .i64 (Go.bits .and .i64 t101 31) x8))) == 1))) else (some (wrap64 (-((wrap64 (x7 + (shl .i64 (Go.bits .and .i64 t101 31) x8))) / 2)), wrap64 (x1 + 1), false))) else (some (wrap64 (-((wrap64 (x7 + (shl .i64 (Go.bits .and .i64 t101 31) x8))) / 2)), wrap64 (x1 + 1), false))) else (if ((wrap64 (x7 + (shl .i64 (Go.bits .and .i64 t101 31) x8))) / 2) < 2147483648 then (if ((wrap64 (x7 + (shl .i64 (Go.bits .and .i64 t101 31) x8))) / 2) > (-2147483648) then (some ((wrap64 (x7 + (shl .i64 (Go.bits .and .i64 t101 31) x8))) / 2, wrap64 (x1 + 1), !((wrap64 (x7 + (shl .i64 (Go.bits .and .i64 t101 31) x8))) == 1))) else (some ((wrap64 (x7 + (shl .i64 (Go.bits .and .i64 t101 31) x8))) / 2, wrap64 (x1 + 1), false))) else (some ((wrap64 (x7 + (shl .i64 (Go.bits .and .i64 t101 31) x8))) / 2, wrap64 (x1 + 1), false)))) else (spec_VLQ.l0 k x0 (wrap64 (x1 + 1)) (wrap64 (x7 + (shl .i64 (Go.bits .and .i64 t101 31) x8))) (wrap64 (x8 + 5)))) else (none)))) else (none)) else (none))
end
def spec_VLQ.f (k : Nat) (a0 : ByteArray) (a1 : Int) : Option (Int × Int × Bool) := spec_VLQ.l0 k a0 a1 0 0
theorem spec_VLQ.mono_l : ∀ k, (∀ y0 y1 y2 y3, LeO (spec_VLQ.l0 k y0 y1 y2 y3) (spec_VLQ.l0 (k + 1) y0 y1 y2 y3)) ∧ (∀ y0 y1 y2 y3 y4, LeO (spec_VLQ.j1 k y0 y1 y2 y3 y4) (spec_VLQ.j1 (k + 1) y0 y1 y2 y3 y4))
  | 0 => ⟨fun _ _ _ _ r h => by simp [spec_VLQ.l0] at h, fun _ _ _ _ _ r h => by simp [spec_VLQ.j1] at h⟩
  | k + 1 => by
    obtain ⟨ih0, ih1⟩ := spec_VLQ.mono_l k
    refine ⟨?_, ?_⟩
    · intro y0 y1 y2 y3
      unfold spec_VLQ.l0
      repeat' first
      | (with_reducible exact ih0 _ _ _ _)
      | (with_reducible exact ih1 _ _ _ _ _)
      | (with_reducible exact spec_mapDigit.mono _ _)
      | (with_reducible exact LeO.refl _)
      | (with_reducible exact LeO.none _)
      | (with_reducible refine LeO.ite ?_ ?_)
      | (with_reducible refine LeO.bind ?_ (fun _ => ?_))
      | exact ih0 _ _ _ _
      | exact ih1 _ _ _ _ _
      | exact spec_mapDigit.mono _ _
      | exact LeO.none _
      | refine LeO.ite ?_ ?_
      | refine LeO.bind ?_ (fun _ => ?_)
    · intro y0 y1 y2 y3 y4
      unfold spec_VLQ.j1
      repeat' first
      | (with_reducible exact ih0 _ _ _ _)
      | (with_reducible exact ih1 _ _ _ _ _)
      | (with_reducible exact spec_mapDigit.mono _ _)
      | (with_reducible exact LeO.refl _)
      | (with_reducible exact LeO.none _)
      | (with_reducible refine LeO.ite ?_ ?_)
      | (with_reducible refine LeO.bind ?_ (fun _ => ?_))
      | exact ih0 _ _ _ _
      | exact ih1 _ _ _ _ _
      | exact spec_mapDigit.mono _ _
      | exact LeO.none _
      | refine LeO.ite ?_ ?_
      | refine LeO.bind ?_ (fun _ => ?_)
theorem spec_VLQ.mono : ∀ a0 a1 k, LeO (spec_VLQ.f k a0 a1) (spec_VLQ.f (k + 1) a0 a1) := by
  intro a0 a1 k
  obtain ⟨ih0, ih1⟩ := spec_VLQ.mono_l k
  unfold spec_VLQ.f
  repeat' first
      | (with_reducible exact ih0 _ _ _ _)
      | (with_reducible exact ih1 _ _ _ _ _)
      | (with_reducible exact spec_mapDigit.mono _ _)
      | (with_reducible exact LeO.refl _)
      | (with_reducible exact LeO.none _)
      | (with_reducible refine LeO.ite ?_ ?_)
      | (with_reducible refine LeO.bind ?_ (fun _ => ?_))
      | exact ih0 _ _ _ _
      | exact ih1 _ _ _ _ _
      | exact spec_mapDigit.mono _ _
      | exact LeO.none _
      | refine LeO.ite ?_ ?_
      | refine LeO.bind ?_ (fun _ => ?_)
set_option maxHeartbeats 8000000 in
set_option maxRecDepth 100000 in
theorem spec_VLQ.calls (k : Nat) (a0 : ByteArray) (a1 : Int) (r1 : Int) (r2 : Int) (r3 : Bool) (w : World) (h : spec_VLQ.f k a0 a1 = some (r1, r2, r3)) :
    Calls Try.prog 27 #[.string a0, .int .i64 a1] w fun e w' => e = .returned (.tuple #[.int .i64 r1, .int .i64 r2, .bool r3]) ∧ Drawn0 w w' := by
  have H : (spec_VLQ.l0 k a0 a1 0 0) = some (r1, r2, r3) := h
  clear h
  have H' := Aside0.mk H
  clear H
  go_enter Try.func27, Try.ntmps27
  go_wp2
  go_loopg [1, 7, 8] k (fun kq v1 v7 v8 w' => ∃ (x1_1 : Int) (x7_1 : Int) (x8_1 : Int), v1 = .int .i64 x1_1 ∧ v7 = .int .i64 x7_1 ∧ v8 = .int .i64 x8_1 ∧ Aside0 (spec_VLQ.l0 kq a0 x1_1 x7_1 x8_1 = some (r1, r2, r3)) ∧ Aside0 (kq ≤ k) ∧ Drawn0 w w')
  case atStart => exact ⟨(a1), (0), (0), (by first | rfl | (simp; done) | (simp [*]; done)), (by first | rfl | (simp; done) | (simp [*]; done)), (by first | rfl | (simp; done) | (simp [*]; done)), H', ⟨Nat.le_refl _⟩, by repeat (first | exact Drawn0.refl _ | apply Drawn0.step)⟩
  case round =>
    clear H'
    try clear c2
    try clear p2
    obtain ⟨x1_1, x7_1, x8_1, rfl, rfl, rfl, HA, HK1, ⟨m1, rfl⟩⟩ := hrel
    cases gk with
    | zero => exact absurd HA.out (by simp [spec_VLQ.l0])
    | succ k1 =>
      have H := HA.out
      clear HA
      simp only [spec_VLQ.l0] at H
      have HC3 := Aside0.mk H
      clear H
      go_upto_region 2 with (fail)
      go_cut [21] (fun v21 wc => ∃ (kq : Nat) (x21_2 : Bool), v21 = .bool x21_2 ∧ Aside0 (spec_VLQ.j1 kq a0 x1_1 x7_1 x8_1 x21_2 = some (r1, r2, r3)) ∧ Aside0 (kq ≤ k1) ∧ Drawn0 w wc)
      case first =>
        have H := HC3.out
        clear HC3
        by_cases c4 : x1_1 < 0
        · rw [if_pos c4] at H
          have c4b0 : decide (x1_1 < 0) = true := decide_eq_true c4
          clear c4
          (first | rw [c4b0] | (simp only [i64_w, i32_w]; rw [c4b0]) | skip)
          have H' := Aside0.mk H
          clear H
          go_wp2
          go_meet
          case rel => exact ⟨_, (true), (by first | rfl | (simp; done) | (simp [*]; done)), H', ⟨by have := HK1.out; first | omega | exact Nat.le_refl _⟩, by repeat (first | exact Drawn0.refl _ | apply Drawn0.step)⟩
        · rw [if_neg c4] at H
          have c4b0 : decide (x1_1 < 0) = false := decide_eq_false c4
          clear c4
          (first | rw [c4b0] | (simp only [i64_w, i32_w]; rw [c4b0]) | skip)
          by_cases c5 : x1_1 ≥ (a0.size : Int)
          · rw [if_pos c5] at H
            have c5b0 : decide ((a0.size : Int) ≤ x1_1) = true := decide_eq_true c5
            clear c5
            have H' := Aside0.mk H
            clear H
            go_wp2
            go_meet
            case rel => exact ⟨_, (true), (by first | rfl | (simp; done) | (simp [*]; done)), H', ⟨by have := HK1.out; first | omega | exact Nat.le_refl _⟩, by repeat (first | exact Drawn0.refl _ | apply Drawn0.step)⟩
          · rw [if_neg c5] at H
            have c5b0 : decide ((a0.size : Int) ≤ x1_1) = false := decide_eq_false c5
            clear c5
            have H' := Aside0.mk H
            clear H
            go_wp2
            go_meet
            case rel => exact ⟨_, (decide (x8_1 > 30)), (by first | rfl | (simp; done) | (simp [*]; done)), H', ⟨by have := HK1.out; first | omega | exact Nat.le_refl _⟩, by repeat (first | exact Drawn0.refl _ | apply Drawn0.step)⟩
      case rest =>
        clear HC3
        try clear c2
        try clear p2
        try clear c4
        try clear c4b0
        try clear c5
        try clear c5b0
        try clear p2
        obtain ⟨kq, x21_2, rfl, HA, HJ2, ⟨mc2, rfl⟩⟩ := hcut
        cases kq with
        | zero => exact absurd HA.out (by simp [spec_VLQ.j1])
        | succ kj2 =>
          have H := HA.out
          clear HA
          simp only [spec_VLQ.j1] at H
          by_cases c6 : x21_2 = true
          · subst c6
            have H1 : (some (0, x1_1, false)) = some (r1, r2, r3) := by rw [if_pos rfl] at H; exact H
            clear H
            have H := H1
            clear H1
            simp only [Option.some.injEq, Prod.mk.injEq] at H
            obtain ⟨rfl, rfl, rfl⟩ := H
            go_wp2
            go_ret3
            exact ⟨by first | rfl | (simp; done) | (simp [*]; done), by repeat (first | exact Drawn0.refl _ | apply Drawn0.step)⟩
          · replace c6 := Bool.eq_false_iff.mpr c6
            subst c6
            have H1 : (if 0 ≤ x1_1 then (if x1_1 < (a0.size : Int) then ((spec_mapDigit.f kj2 (bt a0 x1_1)).bind fun t101 => (if t101 < 0 then (some (0, wrap64 (x1_1 + 1), false)) else (if 0 ≤ x8_1 then (if t101 < 32 then (if (Go.bits .and .i64 (wrap64 (x7_1 + (shl .i64 (Go.bits .and .i64 t101 31) x8_1))) 1) = 1 then (if (wrap64 (-((wrap64 (x7_1 + (shl .i64 (Go.bits .and .i64 t101 31) x8_1))) / 2))) < 2147483648 then (if (wrap64 (-((wrap64 (x7_1 + (shl .i64 (Go.bits .and .i64 t101 31) x8_1))) / 2))) > (-2147483648) then (some (wrap64 (-((wrap64 (x7_1 + (shl .i64 (Go.bits .and .i64 t101 31) x8_1))) / 2)), wrap64 (x1_1 + 1), !((wrap64 (x7_1 + (shl .i64 (Go.bits .and .i64 t101 31) x8_1))) == 1))) else (some (wrap64 (-((wrap64 (x7_1 + (shl .i64 (Go.bits .and .i64 t101 31) x8_1))) / 2)), wrap64 (x1_1 + 1), false))) else (some (wrap64 (-((wrap64 (x7_1 + (shl .i64 (Go.bits .and .i64 t101 31) x8_1))) / 2)), wrap64 (x1_1 + 1), false))) else (if ((wrap64 (x7_1 + (shl .i64 (Go.bits .and .i64 t101 31) x8_1))) / 2) < 2147483648 then (if ((wrap64 (x7_1 + (shl .i64 (Go.bits .and .i64 t101 31) x8_1))) / 2) > (-2147483648) then (some ((wrap64 (x7_1 + (shl .i64 (Go.bits .and .i64 t101 31) x8_1))) / 2, wrap64 (x1_1 + 1), !((wrap64 (x7_1 + (shl .i64 (Go.bits .and .i64 t101 31) x8_1))) == 1))) else (some ((wrap64 (x7_1 + (shl .i64 (Go.bits .and .i64 t101 31) x8_1))) / 2, wrap64 (x1_1 + 1), false))) else (some ((wrap64 (x7_1 + (shl .i64 (Go.bits .and .i64 t101 31) x8_1))) / 2, wrap64 (x1_1 + 1), false)))) else (spec_VLQ.l0 kj2 a0 (wrap64 (x1_1 + 1)) (wrap64 (x7_1 + (shl .i64 (Go.bits .and .i64 t101 31) x8_1))) (wrap64 (x8_1 + 5)))) else (none)))) else (none)) else (none)) = some (r1, r2, r3) := by rw [if_neg (show ¬ (false = true) by decide)] at H; exact H
            clear H
            have H := H1
            clear H1
            by_cases c7 : 0 ≤ x1_1
            · rw [if_pos c7] at H
              have c7b0 : decide (0 ≤ x1_1) = true := decide_eq_true c7
              clear c7
              by_cases c8 : x1_1 < (a0.size : Int)
              · rw [if_pos c8] at H
                have c8b0 : decide (x1_1 < (a0.size : Int)) = true := decide_eq_true c8
                clear c8
                replace H := Option.bind_eq_some_iff.mp H
                obtain ⟨t101, A100, H⟩ := H
                replace H : (if t101 < 0 then (some (0, wrap64 (x1_1 + 1), false)) else (if 0 ≤ x8_1 then (if t101 < 32 then (if (Go.bits .and .i64 (wrap64 (x7_1 + (shl .i64 (Go.bits .and .i64 t101 31) x8_1))) 1) = 1 then (if (wrap64 (-((wrap64 (x7_1 + (shl .i64 (Go.bits .and .i64 t101 31) x8_1))) / 2))) < 2147483648 then (if (wrap64 (-((wrap64 (x7_1 + (shl .i64 (Go.bits .and .i64 t101 31) x8_1))) / 2))) > (-2147483648) then (some (wrap64 (-((wrap64 (x7_1 + (shl .i64 (Go.bits .and .i64 t101 31) x8_1))) / 2)), wrap64 (x1_1 + 1), !((wrap64 (x7_1 + (shl .i64 (Go.bits .and .i64 t101 31) x8_1))) == 1))) else (some (wrap64 (-((wrap64 (x7_1 + (shl .i64 (Go.bits .and .i64 t101 31) x8_1))) / 2)), wrap64 (x1_1 + 1), false))) else (some (wrap64 (-((wrap64 (x7_1 + (shl .i64 (Go.bits .and .i64 t101 31) x8_1))) / 2)), wrap64 (x1_1 + 1), false))) else (if ((wrap64 (x7_1 + (shl .i64 (Go.bits .and .i64 t101 31) x8_1))) / 2) < 2147483648 then (if ((wrap64 (x7_1 + (shl .i64 (Go.bits .and .i64 t101 31) x8_1))) / 2) > (-2147483648) then (some ((wrap64 (x7_1 + (shl .i64 (Go.bits .and .i64 t101 31) x8_1))) / 2, wrap64 (x1_1 + 1), !((wrap64 (x7_1 + (shl .i64 (Go.bits .and .i64 t101 31) x8_1))) == 1))) else (some ((wrap64 (x7_1 + (shl .i64 (Go.bits .and .i64 t101 31) x8_1))) / 2, wrap64 (x1_1 + 1), false))) else (some ((wrap64 (x7_1 + (shl .i64 (Go.bits .and .i64 t101 31) x8_1))) / 2, wrap64 (x1_1 + 1), false)))) else (spec_VLQ.l0 kj2 a0 (wrap64 (x1_1 + 1)) (wrap64 (x7_1 + (shl .i64 (Go.bits .and .i64 t101 31) x8_1))) (wrap64 (x8_1 + 5)))) else (none))) = some (r1, r2, r3) := H
                have A10 := Aside0.mk A100
                clear A100
                by_cases c11 : t101 < 0
                · rw [if_pos c11] at H
                  have c11b0 : decide (t101 < 0) = true := decide_eq_true c11
                  clear c11
                  simp only [Option.some.injEq, Prod.mk.injEq] at H
                  obtain ⟨rfl, rfl, rfl⟩ := H
                  have p9 : 0 ≤ (x1_1 : Int) := of_decide_eq_true (by first | (with_reducible assumption) | assumption)
                  have q9 : x1_1 < (a0.size : Int) := of_decide_eq_true (by first | (with_reducible assumption) | assumption)
                  have hx9 := bt_at a0 x1_1
                  replace p9 := eq_true p9
                  replace q9 := eq_true q9
                  go_wp2_with (first | ((with_reducible refine gate_callee (f := 51) rfl ?_); refine goesL_ (some 26) rfl rfl Try.func51 (by kernel_rfl) rfl #[.int .u8 (bt a0 x1_1)] rfl (by (try simp only [List.map_toArray, List.map_cons, List.map_nil]); first | done | rfl | (simp only [List.length_drop, List.length_take]; rfl)) ?_; (with_reducible refine (spec_mapDigit.calls kj2 (bt a0 x1_1) t101 _ A10.out).mono ?_); rintro e w' ⟨rfl, ⟨nd, rfl⟩⟩; refine ⟨_, rfl, ?_⟩))
                  go_ret3
                  exact ⟨by first | rfl | (simp; done) | (simp [*]; done), by repeat (first | exact Drawn0.refl _ | apply Drawn0.step)⟩
                · rw [if_neg c11] at H
                  have c11b0 : decide (t101 < 0) = false := decide_eq_false c11
                  clear c11
                  by_cases c12 : 0 ≤ x8_1
                  · rw [if_pos c12] at H
                    have c12b0 := eq_true c12
                    have c12b1 : decide (0 ≤ x8_1) = true := decide_eq_true c12
                    clear c12
                    obtain ⟨ji13, hji13⟩ : ∃ j_ : Int, (shl .i64 (Go.bits .and .i64 t101 31) x8_1) = j_ := ⟨_, rfl⟩
                    replace H : (if t101 < 32 then (if (Go.bits .and .i64 (wrap64 (x7_1 + (ji13))) 1) = 1 then (if (wrap64 (-((wrap64 (x7_1 + (ji13))) / 2))) < 2147483648 then (if (wrap64 (-((wrap64 (x7_1 + (ji13))) / 2))) > (-2147483648) then (some (wrap64 (-((wrap64 (x7_1 + (ji13))) / 2)), wrap64 (x1_1 + 1), !((wrap64 (x7_1 + (ji13))) == 1))) else (some (wrap64 (-((wrap64 (x7_1 + (ji13))) / 2)), wrap64 (x1_1 + 1), false))) else (some (wrap64 (-((wrap64 (x7_1 + (ji13))) / 2)), wrap64 (x1_1 + 1), false))) else (if ((wrap64 (x7_1 + (ji13))) / 2) < 2147483648 then (if ((wrap64 (x7_1 + (ji13))) / 2) > (-2147483648) then (some ((wrap64 (x7_1 + (ji13))) / 2, wrap64 (x1_1 + 1), !((wrap64 (x7_1 + (ji13))) == 1))) else (some ((wrap64 (x7_1 + (ji13))) / 2, wrap64 (x1_1 + 1), false))) else (some ((wrap64 (x7_1 + (ji13))) / 2, wrap64 (x1_1 + 1), false)))) else (spec_VLQ.l0 kj2 a0 (wrap64 (x1_1 + 1)) (wrap64 (x7_1 + (ji13))) (wrap64 (x8_1 + 5)))) = some (r1, r2, r3) := by first | (rw [hji13] at H; exact H) | (simp only [hji13] at H ⊢; exact H)
                    (try rw [hji13] at A10)
                    have hji13_ : (IntKind.i64.wrap ((Go.bits .and .i64 t101 31) * 2 ^ min x8_1.toNat 64)) = ji13 := hji13
                    have hji13z : x8_1 ≤ 64 → (IntKind.i64.wrap ((Go.bits .and .i64 t101 31) * 2 ^ x8_1.toNat)) = ji13 := shl_small hji13
                    have hji13y : (wrap64 ((Go.bits .and .i64 t101 31) * 2 ^ min x8_1.toNat 64)) = ji13 := (i64_w _).symm.trans hji13_
                    have hji13x : x8_1 ≤ 64 → (wrap64 ((Go.bits .and .i64 t101 31) * 2 ^ x8_1.toNat)) = ji13 := fun h_ => (i64_w _).symm.trans (hji13z h_)
                    by_cases c14 : t101 < 32
                    · rw [if_pos c14] at H
                      have c14b0 : decide (t101 < 32) = true := decide_eq_true c14
                      clear c14
                      by_cases c15 : (Go.bits .and .i64 (wrap64 (x7_1 + (ji13))) 1) = 1
                      · rw [if_pos c15] at H
                        have c15b0 : ((Go.bits .and .i64 (wrap64 (x7_1 + (ji13))) 1) == 1) = true := beq_iff_eq.mpr c15
                        have c15b1 : ((Go.bits .and .i64 (wrap64 (x7_1 + (ji13))) 1) != 1) = false := bne_eq_false_iff_eq.mpr c15
                        clear c15
                        by_cases c16 : (wrap64 (-((wrap64 (x7_1 + (ji13))) / 2))) < 2147483648
                        · rw [if_pos c16] at H
                          have c16b0 : decide ((wrap64 (-((wrap64 (x7_1 + (ji13))) / 2))) < 2147483648) = true := decide_eq_true c16
                          clear c16
                          by_cases c17 : (wrap64 (-((wrap64 (x7_1 + (ji13))) / 2))) > (-2147483648)
                          · rw [if_pos c17] at H
                            have c17b0 : decide ((-2147483648) < (wrap64 (-((wrap64 (x7_1 + (ji13))) / 2)))) = true := decide_eq_true c17
                            clear c17
                            simp only [Option.some.injEq, Prod.mk.injEq] at H
                            obtain ⟨rfl, rfl, rfl⟩ := H
                            have p9 : 0 ≤ (x1_1 : Int) := of_decide_eq_true (by first | (with_reducible assumption) | assumption)
                            have q9 : x1_1 < (a0.size : Int) := of_decide_eq_true (by first | (with_reducible assumption) | assumption)
                            have hx9 := bt_at a0 x1_1
                            replace p9 := eq_true p9
                            replace q9 := eq_true q9
                            go_wp2_with (first | ((with_reducible refine gate_callee (f := 51) rfl ?_); refine goesL_ (some 26) rfl rfl Try.func51 (by kernel_rfl) rfl #[.int .u8 (bt a0 x1_1)] rfl (by (try simp only [List.map_toArray, List.map_cons, List.map_nil]); first | done | rfl | (simp only [List.length_drop, List.length_take]; rfl)) ?_; (with_reducible refine (spec_mapDigit.calls kj2 (bt a0 x1_1) t101 _ A10.out).mono ?_); rintro e w' ⟨rfl, ⟨nd, rfl⟩⟩; refine ⟨_, rfl, ?_⟩))
                            go_ret3
                            exact ⟨by first | rfl | (simp; done) | (simp only [← hji13] <;> (first | rfl | simp)) | (simp [*]; done), by repeat (first | exact Drawn0.refl _ | apply Drawn0.step)⟩
                          · rw [if_neg c17] at H
                            have c17b0 : decide ((-2147483648) < (wrap64 (-((wrap64 (x7_1 + (ji13))) / 2)))) = false := decide_eq_false c17
                            clear c17
                            simp only [Option.some.injEq, Prod.mk.injEq] at H
                            obtain ⟨rfl, rfl, rfl⟩ := H
                            have p9 : 0 ≤ (x1_1 : Int) := of_decide_eq_true (by first | (with_reducible assumption) | assumption)
                            have q9 : x1_1 < (a0.size : Int) := of_decide_eq_true (by first | (with_reducible assumption) | assumption)
                            have hx9 := bt_at a0 x1_1
                            replace p9 := eq_true p9
                            replace q9 := eq_true q9
                            go_wp2_with (first | ((with_reducible refine gate_callee (f := 51) rfl ?_); refine goesL_ (some 26) rfl rfl Try.func51 (by kernel_rfl) rfl #[.int .u8 (bt a0 x1_1)] rfl (by (try simp only [List.map_toArray, List.map_cons, List.map_nil]); first | done | rfl | (simp only [List.length_drop, List.length_take]; rfl)) ?_; (with_reducible refine (spec_mapDigit.calls kj2 (bt a0 x1_1) t101 _ A10.out).mono ?_); rintro e w' ⟨rfl, ⟨nd, rfl⟩⟩; refine ⟨_, rfl, ?_⟩))
                            go_ret3
                            exact ⟨by first | rfl | (simp; done) | (simp only [← hji13] <;> (first | rfl | simp)) | (simp [*]; done), by repeat (first | exact Drawn0.refl _ | apply Drawn0.step)⟩
                        · rw [if_neg c16] at H
                          have c16b0 : decide ((wrap64 (-((wrap64 (x7_1 + (ji13))) / 2))) < 2147483648) = false := decide_eq_false c16
                          clear c16
                          simp only [Option.some.injEq, Prod.mk.injEq] at H
                          obtain ⟨rfl, rfl, rfl⟩ := H
                          have p9 : 0 ≤ (x1_1 : Int) := of_decide_eq_true (by first | (with_reducible assumption) | assumption)
                          have q9 : x1_1 < (a0.size : Int) := of_decide_eq_true (by first | (with_reducible assumption) | assumption)
                          have hx9 := bt_at a0 x1_1
                          replace p9 := eq_true p9
                          replace q9 := eq_true q9
                          go_wp2_with (first | ((with_reducible refine gate_callee (f := 51) rfl ?_); refine goesL_ (some 26) rfl rfl Try.func51 (by kernel_rfl) rfl #[.int .u8 (bt a0 x1_1)] rfl (by (try simp only [List.map_toArray, List.map_cons, List.map_nil]); first | done | rfl | (simp only [List.length_drop, List.length_take]; rfl)) ?_; (with_reducible refine (spec_mapDigit.calls kj2 (bt a0 x1_1) t101 _ A10.out).mono ?_); rintro e w' ⟨rfl, ⟨nd, rfl⟩⟩; refine ⟨_, rfl, ?_⟩))
                          go_ret3
                          exact ⟨by first | rfl | (simp; done) | (simp only [← hji13] <;> (first | rfl | simp)) | (simp [*]; done), by repeat (first | exact Drawn0.refl _ | apply Drawn0.step)⟩
                      · rw [if_neg c15] at H
                        have c15b0 : ((Go.bits .and .i64 (wrap64 (x7_1 + (ji13))) 1) == 1) = false := beq_eq_false_iff_ne.mpr c15
                        have c15b1 : ((Go.bits .and .i64 (wrap64 (x7_1 + (ji13))) 1) != 1) = true := bne_iff_ne.mpr c15
                        by_cases c18 : ((wrap64 (x7_1 + (ji13))) / 2) < 2147483648
                        · rw [if_pos c18] at H
                          have c18b0 : decide (((wrap64 (x7_1 + (ji13))) / 2) < 2147483648) = true := decide_eq_true c18
                          clear c18
                          by_cases c19 : ((wrap64 (x7_1 + (ji13))) / 2) > (-2147483648)
                          · rw [if_pos c19] at H
                            have c19b0 : decide ((-2147483648) < ((wrap64 (x7_1 + (ji13))) / 2)) = true := decide_eq_true c19
                            clear c19
                            simp only [Option.some.injEq, Prod.mk.injEq] at H
                            obtain ⟨rfl, rfl, rfl⟩ := H
                            have p9 : 0 ≤ (x1_1 : Int) := of_decide_eq_true (by first | (with_reducible assumption) | assumption)
                            have q9 : x1_1 < (a0.size : Int) := of_decide_eq_true (by first | (with_reducible assumption) | assumption)
                            have hx9 := bt_at a0 x1_1
                            replace p9 := eq_true p9
                            replace q9 := eq_true q9
                            go_wp2_with (first | ((with_reducible refine gate_callee (f := 51) rfl ?_); refine goesL_ (some 26) rfl rfl Try.func51 (by kernel_rfl) rfl #[.int .u8 (bt a0 x1_1)] rfl (by (try simp only [List.map_toArray, List.map_cons, List.map_nil]); first | done | rfl | (simp only [List.length_drop, List.length_take]; rfl)) ?_; (with_reducible refine (spec_mapDigit.calls kj2 (bt a0 x1_1) t101 _ A10.out).mono ?_); rintro e w' ⟨rfl, ⟨nd, rfl⟩⟩; refine ⟨_, rfl, ?_⟩))
                            go_ret3
                            exact ⟨by first | rfl | (simp; done) | (simp only [← hji13] <;> (first | rfl | simp)) | (simp [*]; done), by repeat (first | exact Drawn0.refl _ | apply Drawn0.step)⟩
                          · rw [if_neg c19] at H
                            have c19b0 : decide ((-2147483648) < ((wrap64 (x7_1 + (ji13))) / 2)) = false := decide_eq_false c19
                            clear c19
                            simp only [Option.some.injEq, Prod.mk.injEq] at H
                            obtain ⟨rfl, rfl, rfl⟩ := H
                            have p9 : 0 ≤ (x1_1 : Int) := of_decide_eq_true (by first | (with_reducible assumption) | assumption)
                            have q9 : x1_1 < (a0.size : Int) := of_decide_eq_true (by first | (with_reducible assumption) | assumption)
                            have hx9 := bt_at a0 x1_1
                            replace p9 := eq_true p9
                            replace q9 := eq_true q9
                            go_wp2_with (first | ((with_reducible refine gate_callee (f := 51) rfl ?_); refine goesL_ (some 26) rfl rfl Try.func51 (by kernel_rfl) rfl #[.int .u8 (bt a0 x1_1)] rfl (by (try simp only [List.map_toArray, List.map_cons, List.map_nil]); first | done | rfl | (simp only [List.length_drop, List.length_take]; rfl)) ?_; (with_reducible refine (spec_mapDigit.calls kj2 (bt a0 x1_1) t101 _ A10.out).mono ?_); rintro e w' ⟨rfl, ⟨nd, rfl⟩⟩; refine ⟨_, rfl, ?_⟩))
                            go_ret3
                            exact ⟨by first | rfl | (simp; done) | (simp only [← hji13] <;> (first | rfl | simp)) | (simp [*]; done), by repeat (first | exact Drawn0.refl _ | apply Drawn0.step)⟩
                        · rw [if_neg c18] at H
                          have c18b0 : decide (((wrap64 (x7_1 + (ji13))) / 2) < 2147483648) = false := decide_eq_false c18
                          clear c18
                          simp only [Option.some.injEq, Prod.mk.injEq] at H
                          obtain ⟨rfl, rfl, rfl⟩ := H
                          have p9 : 0 ≤ (x1_1 : Int) := of_decide_eq_true (by first | (with_reducible assumption) | assumption)
                          have q9 : x1_1 < (a0.size : Int) := of_decide_eq_true (by first | (with_reducible assumption) | assumption)
                          have hx9 := bt_at a0 x1_1
                          replace p9 := eq_true p9
                          replace q9 := eq_true q9
                          go_wp2_with (first | ((with_reducible refine gate_callee (f := 51) rfl ?_); refine goesL_ (some 26) rfl rfl Try.func51 (by kernel_rfl) rfl #[.int .u8 (bt a0 x1_1)] rfl (by (try simp only [List.map_toArray, List.map_cons, List.map_nil]); first | done | rfl | (simp only [List.length_drop, List.length_take]; rfl)) ?_; (with_reducible refine (spec_mapDigit.calls kj2 (bt a0 x1_1) t101 _ A10.out).mono ?_); rintro e w' ⟨rfl, ⟨nd, rfl⟩⟩; refine ⟨_, rfl, ?_⟩))
                          go_ret3
                          exact ⟨by first | rfl | (simp; done) | (simp only [← hji13] <;> (first | rfl | simp)) | (simp [*]; done), by repeat (first | exact Drawn0.refl _ | apply Drawn0.step)⟩
                    · rw [if_neg c14] at H
                      have c14b0 : decide (t101 < 32) = false := decide_eq_false c14
                      clear c14
                      have H' := Aside0.mk H
                      clear H
                      have p9 : 0 ≤ (x1_1 : Int) := of_decide_eq_true (by first | (with_reducible assumption) | assumption)
                      have q9 : x1_1 < (a0.size : Int) := of_decide_eq_true (by first | (with_reducible assumption) | assumption)
                      have hx9 := bt_at a0 x1_1
                      replace p9 := eq_true p9
                      replace q9 := eq_true q9
                      go_wp2_with (first | ((with_reducible refine gate_callee (f := 51) rfl ?_); refine goesL_ (some 26) rfl rfl Try.func51 (by kernel_rfl) rfl #[.int .u8 (bt a0 x1_1)] rfl (by (try simp only [List.map_toArray, List.map_cons, List.map_nil]); first | done | rfl | (simp only [List.length_drop, List.length_take]; rfl)) ?_; (with_reducible refine (spec_mapDigit.calls kj2 (bt a0 x1_1) t101 _ A10.out).mono ?_); rintro e w' ⟨rfl, ⟨nd, rfl⟩⟩; refine ⟨_, rfl, ?_⟩))
                      go_roundg kj2
                      case measure => have := HK1.out; have := HJ2.out; omega
                      case rel => exact ⟨(wrap64 (x1_1 + 1)), (wrap64 (x7_1 + (ji13))), (wrap64 (x8_1 + 5)), (by first | rfl | (simp; done) | (simp [*]; done)), (by first | rfl | (simp; done) | (simp only [← hji13] <;> (first | rfl | simp)) | (simp [*]; done)), (by first | rfl | (simp; done) | (simp [*]; done)), H', ⟨by have := HK1.out; have := HJ2.out; omega⟩, by repeat (first | exact Drawn0.refl _ | apply Drawn0.step)⟩
                  · rw [if_neg c12] at H
                    exact absurd H (by simp)
              · rw [if_neg c8] at H
                exact absurd H (by simp)
            · rw [if_neg c7] at H
              exact absurd H (by simp)

/-! ### spec_Unfinished: function 28 -/
mutual
def spec_Unfinished.l0 : Nat → ByteArray → Int → Option (Bool)
  | 0, _, _ => none
  | k + 1, x0, x3 => if x3 < (x0.size : Int) then (spec_Unfinished.j1 k x0 x3 (decide (x3 < 6))) else (spec_Unfinished.j1 k x0 x3 false)
def spec_Unfinished.j1 : Nat → ByteArray → Int → Bool → Option (Bool)
  | 0, _, _, _ => none
  | k + 1, x0, x3, x12 => if x12 = true then (if 0 ≤ x3 then (if x3 < (x0.size : Int) then ((spec_mapDigit.f k (bt x0 x3)).bind fun t102 => (if t102 < 0 then (some true) else (if t102 < 32 then (some false) else (spec_Unfinished.l0 k x0 (wrap64 (x3 + 1)))))) else (none)) else (none)) else (some (decide ((x0.size : Int) < 6)))
end
def spec_Unfinished.f (k : Nat) (a0 : ByteArray) : Option (Bool) := spec_Unfinished.l0 k a0 0
theorem spec_Unfinished.mono_l : ∀ k, (∀ y0 y1, LeO (spec_Unfinished.l0 k y0 y1) (spec_Unfinished.l0 (k + 1) y0 y1)) ∧ (∀ y0 y1 y2, LeO (spec_Unfinished.j1 k y0 y1 y2) (spec_Unfinished.j1 (k + 1) y0 y1 y2))
  | 0 => ⟨fun _ _ r h => by simp [spec_Unfinished.l0] at h, fun _ _ _ r h => by simp [spec_Unfinished.j1] at h⟩
  | k + 1 => by
    obtain ⟨ih0, ih1⟩ := spec_Unfinished.mono_l k
    refine ⟨?_, ?_⟩
    · intro y0 y1
      unfold spec_Unfinished.l0
      repeat' first
      | (with_reducible exact ih0 _ _)
      | (with_reducible exact ih1 _ _ _)
      | (with_reducible exact spec_mapDigit.mono _ _)
      | (with_reducible exact LeO.refl _)
      | (with_reducible exact LeO.none _)
      | (with_reducible refine LeO.ite ?_ ?_)
      | (with_reducible refine LeO.bind ?_ (fun _ => ?_))
      | exact ih0 _ _
      | exact ih1 _ _ _
      | exact spec_mapDigit.mono _ _
      | exact LeO.none _
      | refine LeO.ite ?_ ?_
      | refine LeO.bind ?_ (fun _ => ?_)
    · intro y0 y1 y2
      unfold spec_Unfinished.j1
      repeat' first
      | (with_reducible exact ih0 _ _)
      | (with_reducible exact ih1 _ _ _)
      | (with_reducible exact spec_mapDigit.mono _ _)
      | (with_reducible exact LeO.refl _)
      | (with_reducible exact LeO.none _)
      | (with_reducible refine LeO.ite ?_ ?_)
      | (with_reducible refine LeO.bind ?_ (fun _ => ?_))
      | exact ih0 _ _
      | exact ih1 _ _ _
      | exact spec_mapDigit.mono _ _
      | exact LeO.none _
      | refine LeO.ite ?_ ?_
      | refine LeO.bind ?_ (fun _ => ?_)
theorem spec_Unfinished.mono : ∀ a0 k, LeO (spec_Unfinished.f k a0) (spec_Unfinished.f (k + 1) a0) := by
  intro a0 k
  obtain ⟨ih0, ih1⟩ := spec_Unfinished.mono_l k
  unfold spec_Unfinished.f
  repeat' first
      | (with_reducible exact ih0 _ _)
      | (with_reducible exact ih1 _ _ _)
      | (with_reducible exact spec_mapDigit.mono _ _)
      | (with_reducible exact LeO.refl _)
      | (with_reducible exact LeO.none _)
      | (with_reducible refine LeO.ite ?_ ?_)
      | (with_reducible refine LeO.bind ?_ (fun _ => ?_))
      | exact ih0 _ _
      | exact ih1 _ _ _
      | exact spec_mapDigit.mono _ _
      | exact LeO.none _
      | refine LeO.ite ?_ ?_
      | refine LeO.bind ?_ (fun _ => ?_)
set_option maxHeartbeats 8000000 in
set_option maxRecDepth 100000 in
theorem spec_Unfinished.calls (k : Nat) (a0 : ByteArray) (r : Bool) (w : World) (h : spec_Unfinished.f k a0 = some r) :
    Calls Try.prog 28 #[.string a0] w fun e w' => e = .returned (.bool r) ∧ Drawn0 w w' := by
  have H : (spec_Unfinished.l0 k a0 0) = some r := h
  clear h
  have H' := Aside0.mk H
  clear H
  go_enter Try.func28, Try.ntmps28
  go_wp2
  go_loopg [3] k (fun kq v3 w' => ∃ (x3_1 : Int), v3 = .int .i64 x3_1 ∧ Aside0 (spec_Unfinished.l0 kq a0 x3_1 = some r) ∧ Aside0 (kq ≤ k) ∧ Drawn0 w w')
  case atStart => exact ⟨(0), (by first | rfl | (simp; done) | (simp [*]; done)), H', ⟨Nat.le_refl _⟩, by repeat (first | exact Drawn0.refl _ | apply Drawn0.step)⟩
  case round =>
    clear H'
    obtain ⟨x3_1, rfl, HA, HK1, ⟨m1, rfl⟩⟩ := hrel
    cases gk with
    | zero => exact absurd HA.out (by simp [spec_Unfinished.l0])
    | succ k1 =>
      have H := HA.out
      clear HA
      simp only [spec_Unfinished.l0] at H
      have HC2 := Aside0.mk H
      clear H
      go_upto_region 2 with (fail)
      go_cut [12] (fun v12 wc => ∃ (kq : Nat) (x12_1 : Bool), v12 = .bool x12_1 ∧ Aside0 (spec_Unfinished.j1 kq a0 x3_1 x12_1 = some r) ∧ Aside0 (kq ≤ k1) ∧ Drawn0 w wc)
      case first =>
        have H := HC2.out
        clear HC2
        by_cases c3 : x3_1 < (a0.size : Int)
        · rw [if_pos c3] at H
          have c3b0 : decide (x3_1 < (a0.size : Int)) = true := decide_eq_true c3
          clear c3
          (first | rw [c3b0] | (simp only [i64_w, i32_w]; rw [c3b0]) | skip)
          have H' := Aside0.mk H
          clear H
          go_wp2
          go_meet
          case rel => exact ⟨_, (decide (x3_1 < 6)), (by first | rfl | (simp; done) | (simp [*]; done)), H', ⟨by have := HK1.out; first | omega | exact Nat.le_refl _⟩, by repeat (first | exact Drawn0.refl _ | apply Drawn0.step)⟩
        · rw [if_neg c3] at H
          have c3b0 : decide (x3_1 < (a0.size : Int)) = false := decide_eq_false c3
          clear c3
          (first | rw [c3b0] | (simp only [i64_w, i32_w]; rw [c3b0]) | skip)
          have H' := Aside0.mk H
          clear H
          go_wp2
          go_meet
          case rel => exact ⟨_, (false), (by first | rfl | (simp; done) | (simp [*]; done)), H', ⟨by have := HK1.out; first | omega | exact Nat.le_refl _⟩, by repeat (first | exact Drawn0.refl _ | apply Drawn0.step)⟩
      case rest =>
        clear HC2
        try clear c2
        try clear p2
        try clear c3
        try clear c3b0
        obtain ⟨kq, x12_1, rfl, HA, HJ1, ⟨mc1, rfl⟩⟩ := hcut
        cases kq with
        | zero => exact absurd HA.out (by simp [spec_Unfinished.j1])
        | succ kj1 =>
          have H := HA.out
          clear HA
          simp only [spec_Unfinished.j1] at H
          by_cases c4 : x12_1 = true
          · subst c4
            have H1 : (if 0 ≤ x3_1 then (if x3_1 < (a0.size : Int) then ((spec_mapDigit.f kj1 (bt a0 x3_1)).bind fun t102 => (if t102 < 0 then (some true) else (if t102 < 32 then (some false) else (spec_Unfinished.l0 kj1 a0 (wrap64 (x3_1 + 1)))))) else (none)) else (none)) = some r := by rw [if_pos rfl] at H; exact H
            clear H
            have H := H1
            clear H1
            by_cases c5 : 0 ≤ x3_1
            · rw [if_pos c5] at H
              have c5b0 : decide (0 ≤ x3_1) = true := decide_eq_true c5
              clear c5
              by_cases c6 : x3_1 < (a0.size : Int)
              · rw [if_pos c6] at H
                have c6b0 : decide (x3_1 < (a0.size : Int)) = true := decide_eq_true c6
                clear c6
                replace H := Option.bind_eq_some_iff.mp H
                obtain ⟨t102, A80, H⟩ := H
                replace H : (if t102 < 0 then (some true) else (if t102 < 32 then (some false) else (spec_Unfinished.l0 kj1 a0 (wrap64 (x3_1 + 1))))) = some r := H
                have A8 := Aside0.mk A80
                clear A80
                by_cases c9 : t102 < 0
                · rw [if_pos c9] at H
                  have c9b0 : decide (t102 < 0) = true := decide_eq_true c9
                  clear c9
                  obtain rfl := Option.some.inj H
                  have p7 : 0 ≤ (x3_1 : Int) := of_decide_eq_true (by first | (with_reducible assumption) | assumption)
                  have q7 : x3_1 < (a0.size : Int) := of_decide_eq_true (by first | (with_reducible assumption) | assumption)
                  have hx7 := bt_at a0 x3_1
                  replace p7 := eq_true p7
                  replace q7 := eq_true q7
                  go_wp2_with (first | ((with_reducible refine gate_callee (f := 51) rfl ?_); refine goesL_ (some 18) rfl rfl Try.func51 (by kernel_rfl) rfl #[.int .u8 (bt a0 x3_1)] rfl (by (try simp only [List.map_toArray, List.map_cons, List.map_nil]); first | done | rfl | (simp only [List.length_drop, List.length_take]; rfl)) ?_; (with_reducible refine (spec_mapDigit.calls kj1 (bt a0 x3_1) t102 _ A8.out).mono ?_); rintro e w' ⟨rfl, ⟨nd, rfl⟩⟩; refine ⟨_, rfl, ?_⟩))
                  go_ret
                  exact ⟨by first | rfl | (simp; done) | (simp [*]; done), by repeat (first | exact Drawn0.refl _ | apply Drawn0.step)⟩
                · rw [if_neg c9] at H
                  have c9b0 : decide (t102 < 0) = false := decide_eq_false c9
                  clear c9
                  by_cases c10 : t102 < 32
                  · rw [if_pos c10] at H
                    have c10b0 : decide (t102 < 32) = true := decide_eq_true c10
                    clear c10
                    obtain rfl := Option.some.inj H
                    have p7 : 0 ≤ (x3_1 : Int) := of_decide_eq_true (by first | (with_reducible assumption) | assumption)
                    have q7 : x3_1 < (a0.size : Int) := of_decide_eq_true (by first | (with_reducible assumption) | assumption)
                    have hx7 := bt_at a0 x3_1
                    replace p7 := eq_true p7
                    replace q7 := eq_true q7
                    go_wp2_with (first | ((with_reducible refine gate_callee (f := 51) rfl ?_); refine goesL_ (some 18) rfl rfl Try.func51 (by kernel_rfl) rfl #[.int .u8 (bt a0 x3_1)] rfl (by (try simp only [List.map_toArray, List.map_cons, List.map_nil]); first | done | rfl | (simp only [List.length_drop, List.length_take]; rfl)) ?_; (with_reducible refine (spec_mapDigit.calls kj1 (bt a0 x3_1) t102 _ A8.out).mono ?_); rintro e w' ⟨rfl, ⟨nd, rfl⟩⟩; refine ⟨_, rfl, ?_⟩))
                    go_ret
                    exact ⟨by first | rfl | (simp; done) | (simp [*]; done), by repeat (first | exact Drawn0.refl _ | apply Drawn0.step)⟩
                  · rw [if_neg c10] at H
                    have c10b0 : decide (t102 < 32) = false := decide_eq_false c10
                    clear c10
                    have H' := Aside0.mk H
                    clear H
                    have p7 : 0 ≤ (x3_1 : Int) := of_decide_eq_true (by first | (with_reducible assumption) | assumption)
                    have q7 : x3_1 < (a0.size : Int) := of_decide_eq_true (by first | (with_reducible assumption) | assumption)
                    have hx7 := bt_at a0 x3_1
                    replace p7 := eq_true p7
                    replace q7 := eq_true q7
                    go_wp2_with (first | ((with_reducible refine gate_callee (f := 51) rfl ?_); refine goesL_ (some 18) rfl rfl Try.func51 (by kernel_rfl) rfl #[.int .u8 (bt a0 x3_1)] rfl (by (try simp only [List.map_toArray, List.map_cons, List.map_nil]); first | done | rfl | (simp only [List.length_drop, List.length_take]; rfl)) ?_; (with_reducible refine (spec_mapDigit.calls kj1 (bt a0 x3_1) t102 _ A8.out).mono ?_); rintro e w' ⟨rfl, ⟨nd, rfl⟩⟩; refine ⟨_, rfl, ?_⟩))
                    go_roundg kj1
                    case measure => have := HK1.out; have := HJ1.out; omega
                    case rel => exact ⟨(wrap64 (x3_1 + 1)), (by first | rfl | (simp; done) | (simp [*]; done)), H', ⟨by have := HK1.out; have := HJ1.out; omega⟩, by repeat (first | exact Drawn0.refl _ | apply Drawn0.step)⟩
              · rw [if_neg c6] at H
                exact absurd H (by simp)
            · rw [if_neg c5] at H
              exact absurd H (by simp)
          · replace c4 := Bool.eq_false_iff.mpr c4
            subst c4
            have H1 : (some (decide ((a0.size : Int) < 6))) = some r := by rw [if_neg (show ¬ (false = true) by decide)] at H; exact H
            clear H
            have H := H1
            clear H1
            obtain rfl := Option.some.inj H
            go_wp2
            go_ret
            exact ⟨by first | rfl | (simp; done) | (simp [*]; done), by repeat (first | exact Drawn0.refl _ | apply Drawn0.step)⟩

end Go.Proofs.YtkdinhbfidckdaaR.PFnVLQUnits
