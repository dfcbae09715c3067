-- Written by printx.py of this session, over the kit's print, with contracts of this session for some functions
import Derived.Test.YtkdinhbfidckdaaRPDecodeVLQUTF16x0
namespace Go.Proofs.YtkdinhbfidckdaaR.PDecodeVLQUTF16
open Go.RowKit Go.Proofs.YtkdinhbfidckdaaRW.PrintWords Go.Proofs.YtkdinhbfidckdaaRW.PrintLast Go.Proofs.YtkdinhbfidckdaaRW.PrintMore
attribute [local go_sem] max2_int min2_int max_two min_two max_three min_three max_four min_four   -- for this text's walks alone
set_option linter.unusedVariables false
set_option linter.unusedSimpArgs false

-- function 54 (strings_IndexByte): its contract stands in YtkdinhbfidckdaaRExtIndexByte

/-! ### sourcemap_DecodeVLQUTF16: function 50 -/
def sourcemap_DecodeVLQUTF16.l0 : Nat → List Int → Int → Int → Int → Int → Option (Int × Int × Bool)
  | 0, _, _, _, _, _ => none
  | k + 1, x0, x5, x6, x7, x8 => if x6 ≥ x5 then (some (0, 0, false)) else (if 0 ≤ x6 then (if x6 < (x0.length : Int) then ((strings_IndexByte.f (⟨#[65, 66, 67, 68, 69, 70, 71, 72, 73, 74, 75, 76, 77, 78, 79, 80, 81, 82, 83, 84, 85, 86, 87, 88, 89, 90, 97, 98, 99, 100, 101, 102, 103, 104, 105, 106, 107, 108, 109, 110, 111, 112, 113, 114, 115, 116, 117, 118, 119, 120, 121, 122, 48, 49, 50, 51, 52, 53, 54, 55, 56, 57, 43, 47]⟩ : ByteArray) ((rd x0 x6) % 256)).bind fun t102 => (if (wrap32 (t102)) < 0 then (some (0, 0, false)) else (if 0 ≤ x7 then (if (Go.bits .and .i32 (wrap32 (t102)) 32) = 0 then (if (Go.bits .and .i32 (Go.bits .or .i32 x8 (shl .i32 (Go.bits .and .i32 (wrap32 (t102)) 31) x7)) 1) = 0 then (some ((Go.bits .or .i32 x8 (shl .i32 (Go.bits .and .i32 (wrap32 (t102)) 31) x7)) / 2, wrap64 (x6 + 1), true)) else (some (wrap32 (-((Go.bits .or .i32 x8 (shl .i32 (Go.bits .and .i32 (wrap32 (t102)) 31) x7)) / 2)), wrap64 (x6 + 1), true))) else (sourcemap_DecodeVLQUTF16.l0 k x0 x5 (wrap64 (x6 + 1)) (wrap64 (x7 + 5)) (Go.bits .or .i32 x8 (shl .i32 (Go.bits .and .i32 (wrap32 (t102)) 31) x7)))) else (none)))) else (none)) else (none))
def sourcemap_DecodeVLQUTF16.f (k : Nat) (l0 : List Int) : Option (Int × Int × Bool) := if (l0.length : Int) = 0 then (some (0, 0, false)) else (sourcemap_DecodeVLQUTF16.l0 k l0 (l0.length : Int) 0 0 0)
theorem sourcemap_DecodeVLQUTF16.mono_l : ∀ k, (∀ y0 y1 y2 y3 y4, LeO (sourcemap_DecodeVLQUTF16.l0 k y0 y1 y2 y3 y4) (sourcemap_DecodeVLQUTF16.l0 (k + 1) y0 y1 y2 y3 y4))
  | 0 => fun _ _ _ _ _ r h => by simp [sourcemap_DecodeVLQUTF16.l0] at h
  | k + 1 => by
    have ih0 := sourcemap_DecodeVLQUTF16.mono_l k
    · intro y0 y1 y2 y3 y4
      unfold sourcemap_DecodeVLQUTF16.l0
      repeat' first
      | (with_reducible exact ih0 _ _ _ _ _)
      | (with_reducible exact LeO.refl _)
      | (with_reducible exact LeO.none _)
      | (with_reducible refine LeO.ite ?_ ?_)
      | (with_reducible refine LeO.bind ?_ (fun _ => ?_))
      | exact ih0 _ _ _ _ _
      | exact LeO.none _
      | refine LeO.ite ?_ ?_
      | refine LeO.bind ?_ (fun _ => ?_)
theorem sourcemap_DecodeVLQUTF16.mono : ∀ a0 k, LeO (sourcemap_DecodeVLQUTF16.f k a0) (sourcemap_DecodeVLQUTF16.f (k + 1) a0) := by
  intro a0 k
  have ih0 := sourcemap_DecodeVLQUTF16.mono_l k
  unfold sourcemap_DecodeVLQUTF16.f
  repeat' first
      | (with_reducible exact ih0 _ _ _ _ _)
      | (with_reducible exact LeO.refl _)
      | (with_reducible exact LeO.none _)
      | (with_reducible refine LeO.ite ?_ ?_)
      | (with_reducible refine LeO.bind ?_ (fun _ => ?_))
      | exact ih0 _ _ _ _ _
      | exact LeO.none _
      | refine LeO.ite ?_ ?_
      | refine LeO.bind ?_ (fun _ => ?_)
set_option maxHeartbeats 8000000 in
set_option maxRecDepth 100000 in
theorem sourcemap_DecodeVLQUTF16.calls (k : Nat) (A0 : Option Addr) (c0 : Nat) (l0 : List Int) (r1 : Int) (r2 : Int) (r3 : Bool) (w : World) (hr0 : Kd.C (Kd.int .u16) w A0 l0.length l0) (hc0 : l0.length ≤ c0) (h : sourcemap_DecodeVLQUTF16.f k l0 = some (r1, r2, r3)) :
    Calls Try.prog 50 #[.slice A0 l0.length c0] w fun e w' => e = .returned (.tuple #[.int .i32 r1, .int .i64 r2, .bool r3]) ∧ Drawn0 w w' := by
  have HR0 := Aside0.mk hr0
  have HC0 := Aside0.mk hc0
  clear hr0 hc0
  have H : (if (l0.length : Int) = 0 then (some (0, 0, false)) else (sourcemap_DecodeVLQUTF16.l0 k l0 (l0.length : Int) 0 0 0)) = some (r1, r2, r3) := h
  clear h
  by_cases c2 : (l0.length : Int) = 0
  · rw [if_pos c2] at H
    have c2b0 : ((l0.length : Int) == 0) = true := beq_iff_eq.mpr c2
    have c2b1 : ((l0.length : Int) != 0) = false := bne_eq_false_iff_eq.mpr c2
    clear c2
    simp only [Option.some.injEq, Prod.mk.injEq] at H
    obtain ⟨rfl, rfl, rfl⟩ := H
    go_enter Try.func50, Try.ntmps50
    go_wp2
    go_ret3
    exact ⟨by first | rfl | (simp; done) | (simp [*]; done), by repeat (first | exact Drawn0.refl _ | apply Drawn0.step)⟩
  · rw [if_neg c2] at H
    have c2b0 : ((l0.length : Int) == 0) = false := beq_eq_false_iff_ne.mpr c2
    have c2b1 : ((l0.length : Int) != 0) = true := bne_iff_ne.mpr c2
    have c2b2 : ¬ (l0 = []) := fun h_ => c2 (by rw [h_]; rfl)
    have H' := Aside0.mk H
    clear H
    go_enter Try.func50, Try.ntmps50
    go_wp2
    go_loopg [6, 7, 8] k (fun kq v6 v7 v8 w' => ∃ (x6_1 : Int) (x7_1 : Int) (x8_1 : Int), v6 = .int .i64 x6_1 ∧ v7 = .int .i64 x7_1 ∧ v8 = .int .i32 x8_1 ∧ Aside0 (sourcemap_DecodeVLQUTF16.l0 kq l0 (l0.length : Int) x6_1 x7_1 x8_1 = some (r1, r2, r3)) ∧ Aside0 (kq ≤ k) ∧ Drawn0 w w')
    case atStart => exact ⟨(0), (0), (0), (by first | rfl | (simp; done) | (simp [*]; done)), (by first | rfl | (simp; done) | (simp [*]; done)), (by first | rfl | (simp; done) | (simp [*]; done)), H', ⟨Nat.le_refl _⟩, by repeat (first | exact Drawn0.refl _ | apply Drawn0.step)⟩
    case round =>
      clear H'
      try clear c2
      try clear c2b0
      try clear c2b1
      try clear c2b2
      try clear p2
      obtain ⟨x6_1, x7_1, x8_1, rfl, rfl, rfl, HA, HK1, ⟨m1, rfl⟩⟩ := hrel
      cases gk with
      | zero => exact absurd HA.out (by simp [sourcemap_DecodeVLQUTF16.l0])
      | succ k1 =>
        have H := HA.out
        clear HA
        simp only [sourcemap_DecodeVLQUTF16.l0] at H
        by_cases c3 : x6_1 ≥ (l0.length : Int)
        · rw [if_pos c3] at H
          have c3b0 : decide ((l0.length : Int) ≤ x6_1) = true := decide_eq_true c3
          clear c3
          simp only [Option.some.injEq, Prod.mk.injEq] at H
          obtain ⟨rfl, rfl, rfl⟩ := H
          go_wp2
          go_ret3
          exact ⟨by first | rfl | (simp; done) | (simp [*]; done), by repeat (first | exact Drawn0.refl _ | apply Drawn0.step)⟩
        · rw [if_neg c3] at H
          have c3b0 : decide ((l0.length : Int) ≤ x6_1) = false := decide_eq_false c3
          clear c3
          by_cases c4 : 0 ≤ x6_1
          · rw [if_pos c4] at H
            have c4b0 : decide (0 ≤ x6_1) = true := decide_eq_true c4
            clear c4
            by_cases c5 : x6_1 < (l0.length : Int)
            · rw [if_pos c5] at H
              have c5b0 : decide (x6_1 < (l0.length : Int)) = true := decide_eq_true c5
              clear c5
              replace H := Option.bind_eq_some_iff.mp H
              obtain ⟨t102, A60, H⟩ := H
              replace H : (if (wrap32 (t102)) < 0 then (some (0, 0, false)) else (if 0 ≤ x7_1 then (if (Go.bits .and .i32 (wrap32 (t102)) 32) = 0 then (if (Go.bits .and .i32 (Go.bits .or .i32 x8_1 (shl .i32 (Go.bits .and .i32 (wrap32 (t102)) 31) x7_1)) 1) = 0 then (some ((Go.bits .or .i32 x8_1 (shl .i32 (Go.bits .and .i32 (wrap32 (t102)) 31) x7_1)) / 2, wrap64 (x6_1 + 1), true)) else (some (wrap32 (-((Go.bits .or .i32 x8_1 (shl .i32 (Go.bits .and .i32 (wrap32 (t102)) 31) x7_1)) / 2)), wrap64 (x6_1 + 1), true))) else (sourcemap_DecodeVLQUTF16.l0 k1 l0 (l0.length : Int) (wrap64 (x6_1 + 1)) (wrap64 (x7_1 + 5)) (Go.bits .or .i32 x8_1 (shl .i32 (Go.bits .and .i32 (wrap32 (t102)) 31) x7_1)))) else (none))) = some (r1, r2, r3) := H
              have A6 := Aside0.mk A60
              clear A60
              by_cases c7 : (wrap32 (t102)) < 0
              · rw [if_pos c7] at H
                have c7b0 : decide ((wrap32 (t102)) < 0) = true := decide_eq_true c7
                clear c7
                simp only [Option.some.injEq, Prod.mk.injEq] at H
                obtain ⟨rfl, rfl, rfl⟩ := H
                have p101 : 0 ≤ (x6_1 : Int) := of_decide_eq_true (by first | (with_reducible assumption) | assumption)
                have q101 : x6_1 < (l0.length : Int) := of_decide_eq_true (by first | (with_reducible assumption) | assumption)
                obtain ⟨ad101, e101, hx101_0⟩ := Kd.at_int HR0.out x6_1 p101 q101
                cases e101
                replace p101 := eq_true p101
                replace q101 := eq_true q101
                go_wp2_with (first | ((with_reducible refine gate_callee (f := 54) rfl ?_); refine goesL_ (some 23) rfl rfl Try.func54 (by kernel_rfl) rfl #[.string (⟨#[65, 66, 67, 68, 69, 70, 71, 72, 73, 74, 75, 76, 77, 78, 79, 80, 81, 82, 83, 84, 85, 86, 87, 88, 89, 90, 97, 98, 99, 100, 101, 102, 103, 104, 105, 106, 107, 108, 109, 110, 111, 112, 113, 114, 115, 116, 117, 118, 119, 120, 121, 122, 48, 49, 50, 51, 52, 53, 54, 55, 56, 57, 43, 47]⟩ : ByteArray), .int .u8 ((rd l0 x6_1) % 256)] rfl (by (try simp only [List.map_toArray, List.map_cons, List.map_nil]); first | done | rfl | (simp only [List.length_drop, List.length_take]; rfl)) ?_; (with_reducible refine (strings_IndexByte.calls (⟨#[65, 66, 67, 68, 69, 70, 71, 72, 73, 74, 75, 76, 77, 78, 79, 80, 81, 82, 83, 84, 85, 86, 87, 88, 89, 90, 97, 98, 99, 100, 101, 102, 103, 104, 105, 106, 107, 108, 109, 110, 111, 112, 113, 114, 115, 116, 117, 118, 119, 120, 121, 122, 48, 49, 50, 51, 52, 53, 54, 55, 56, 57, 43, 47]⟩ : ByteArray) ((rd l0 x6_1) % 256) t102 _ A6.out).mono ?_); rintro e w' ⟨rfl, ⟨nd, rfl⟩⟩; refine ⟨_, rfl, ?_⟩))
                go_ret3
                exact ⟨by first | rfl | (simp; done) | (simp [*]; done), by repeat (first | exact Drawn0.refl _ | apply Drawn0.step)⟩
              · rw [if_neg c7] at H
                have c7b0 : decide ((wrap32 (t102)) < 0) = false := decide_eq_false c7
                clear c7
                by_cases c8 : 0 ≤ x7_1
                · rw [if_pos c8] at H
                  have c8b0 := eq_true c8
                  have c8b1 : decide (0 ≤ x7_1) = true := decide_eq_true c8
                  clear c8
                  obtain ⟨ji9, hji9⟩ : ∃ j_ : Int, (shl .i32 (Go.bits .and .i32 (wrap32 (t102)) 31) x7_1) = j_ := ⟨_, rfl⟩
                  replace H : (if (Go.bits .and .i32 (wrap32 (t102)) 32) = 0 then (if (Go.bits .and .i32 (Go.bits .or .i32 x8_1 (ji9)) 1) = 0 then (some ((Go.bits .or .i32 x8_1 (ji9)) / 2, wrap64 (x6_1 + 1), true)) else (some (wrap32 (-((Go.bits .or .i32 x8_1 (ji9)) / 2)), wrap64 (x6_1 + 1), true))) else (sourcemap_DecodeVLQUTF16.l0 k1 l0 (l0.length : Int) (wrap64 (x6_1 + 1)) (wrap64 (x7_1 + 5)) (Go.bits .or .i32 x8_1 (ji9)))) = some (r1, r2, r3) := by first | (rw [hji9] at H; exact H) | (simp only [hji9] at H ⊢; exact H)
                  (try rw [hji9] at A6)
                  have hji9_ : (IntKind.i32.wrap ((Go.bits .and .i32 (wrap32 (t102)) 31) * 2 ^ min x7_1.toNat 32)) = ji9 := hji9
                  have hji9z : x7_1 ≤ 32 → (IntKind.i32.wrap ((Go.bits .and .i32 (wrap32 (t102)) 31) * 2 ^ x7_1.toNat)) = ji9 := shl_small hji9
                  have hji9y : (wrap32 ((Go.bits .and .i32 (wrap32 (t102)) 31) * 2 ^ min x7_1.toNat 32)) = ji9 := (i32_w _).symm.trans hji9_
                  have hji9x : x7_1 ≤ 32 → (wrap32 ((Go.bits .and .i32 (wrap32 (t102)) 31) * 2 ^ x7_1.toNat)) = ji9 := fun h_ => (i32_w _).symm.trans (hji9z h_)
                  by_cases c10 : (Go.bits .and .i32 (wrap32 (t102)) 32) = 0
                  · rw [if_pos c10] at H
                    have c10b0 : ((Go.bits .and .i32 (wrap32 (t102)) 32) == 0) = true := beq_iff_eq.mpr c10
                    have c10b1 : ((Go.bits .and .i32 (wrap32 (t102)) 32) != 0) = false := bne_eq_false_iff_eq.mpr c10
                    clear c10
                    by_cases c11 : (Go.bits .and .i32 (Go.bits .or .i32 x8_1 (ji9)) 1) = 0
                    · rw [if_pos c11] at H
                      have c11b0 : ((Go.bits .and .i32 (Go.bits .or .i32 x8_1 (ji9)) 1) == 0) = true := beq_iff_eq.mpr c11
                      have c11b1 : ((Go.bits .and .i32 (Go.bits .or .i32 x8_1 (ji9)) 1) != 0) = false := bne_eq_false_iff_eq.mpr c11
                      clear c11
                      simp only [Option.some.injEq, Prod.mk.injEq] at H
                      obtain ⟨rfl, rfl, rfl⟩ := H
                      have p101 : 0 ≤ (x6_1 : Int) := of_decide_eq_true (by first | (with_reducible assumption) | assumption)
                      have q101 : x6_1 < (l0.length : Int) := of_decide_eq_true (by first | (with_reducible assumption) | assumption)
                      obtain ⟨ad101, e101, hx101_0⟩ := Kd.at_int HR0.out x6_1 p101 q101
                      cases e101
                      replace p101 := eq_true p101
                      replace q101 := eq_true q101
                      go_wp2_with (first | ((with_reducible refine gate_callee (f := 54) rfl ?_); refine goesL_ (some 23) rfl rfl Try.func54 (by kernel_rfl) rfl #[.string (⟨#[65, 66, 67, 68, 69, 70, 71, 72, 73, 74, 75, 76, 77, 78, 79, 80, 81, 82, 83, 84, 85, 86, 87, 88, 89, 90, 97, 98, 99, 100, 101, 102, 103, 104, 105, 106, 107, 108, 109, 110, 111, 112, 113, 114, 115, 116, 117, 118, 119, 120, 121, 122, 48, 49, 50, 51, 52, 53, 54, 55, 56, 57, 43, 47]⟩ : ByteArray), .int .u8 ((rd l0 x6_1) % 256)] rfl (by (try simp only [List.map_toArray, List.map_cons, List.map_nil]); first | done | rfl | (simp only [List.length_drop, List.length_take]; rfl)) ?_; (with_reducible refine (strings_IndexByte.calls (⟨#[65, 66, 67, 68, 69, 70, 71, 72, 73, 74, 75, 76, 77, 78, 79, 80, 81, 82, 83, 84, 85, 86, 87, 88, 89, 90, 97, 98, 99, 100, 101, 102, 103, 104, 105, 106, 107, 108, 109, 110, 111, 112, 113, 114, 115, 116, 117, 118, 119, 120, 121, 122, 48, 49, 50, 51, 52, 53, 54, 55, 56, 57, 43, 47]⟩ : ByteArray) ((rd l0 x6_1) % 256) t102 _ A6.out).mono ?_); rintro e w' ⟨rfl, ⟨nd, rfl⟩⟩; refine ⟨_, rfl, ?_⟩))
                      go_ret3
                      exact ⟨by first | rfl | (simp; done) | (simp only [← hji9] <;> (first | rfl | simp)) | (simp [*]; done), by repeat (first | exact Drawn0.refl _ | apply Drawn0.step)⟩
                    · rw [if_neg c11] at H
                      have c11b0 : ((Go.bits .and .i32 (Go.bits .or .i32 x8_1 (ji9)) 1) == 0) = false := beq_eq_false_iff_ne.mpr c11
                      have c11b1 : ((Go.bits .and .i32 (Go.bits .or .i32 x8_1 (ji9)) 1) != 0) = true := bne_iff_ne.mpr c11
                      simp only [Option.some.injEq, Prod.mk.injEq] at H
                      obtain ⟨rfl, rfl, rfl⟩ := H
                      have p101 : 0 ≤ (x6_1 : Int) := of_decide_eq_true (by first | (with_reducible assumption) | assumption)
                      have q101 : x6_1 < (l0.length : Int) := of_decide_eq_true (by first | (with_reducible assumption) | assumption)
                      obtain ⟨ad101, e101, hx101_0⟩ := Kd.at_int HR0.out x6_1 p101 q101
                      cases e101
                      replace p101 := eq_true p101
                      replace q101 := eq_true q101
                      go_wp2_with (first | ((with_reducible refine gate_callee (f := 54) rfl ?_); refine goesL_ (some 23) rfl rfl Try.func54 (by kernel_rfl) rfl #[.string (⟨#[65, 66, 67, 68, 69, 70, 71, 72, 73, 74, 75, 76, 77, 78, 79, 80, 81, 82, 83, 84, 85, 86, 87, 88, 89, 90, 97, 98, 99, 100, 101, 102, 103, 104, 105, 106, 107, 108, 109, 110, 111, 112, 113, 114, 115, 116, 117, 118, 119, 120, 121, 122, 48, 49, 50, 51, 52, 53, 54, 55, 56, 57, 43, 47]⟩ : ByteArray), .int .u8 ((rd l0 x6_1) % 256)] rfl (by (try simp only [List.map_toArray, List.map_cons, List.map_nil]); first | done | rfl | (simp only [List.length_drop, List.length_take]; rfl)) ?_; (with_reducible refine (strings_IndexByte.calls (⟨#[65, 66, 67, 68, 69, 70, 71, 72, 73, 74, 75, 76, 77, 78, 79, 80, 81, 82, 83, 84, 85, 86, 87, 88, 89, 90, 97, 98, 99, 100, 101, 102, 103, 104, 105, 106, 107, 108, 109, 110, 111, 112, 113, 114, 115, 116, 117, 118, 119, 120, 121, 122, 48, 49, 50, 51, 52, 53, 54, 55, 56, 57, 43, 47]⟩ : ByteArray) ((rd l0 x6_1) % 256) t102 _ A6.out).mono ?_); rintro e w' ⟨rfl, ⟨nd, rfl⟩⟩; refine ⟨_, rfl, ?_⟩))
                      go_ret3
                      exact ⟨by first | rfl | (simp; done) | (simp only [← hji9] <;> (first | rfl | simp)) | (simp [*]; done), by repeat (first | exact Drawn0.refl _ | apply Drawn0.step)⟩
                  · rw [if_neg c10] at H
                    have c10b0 : ((Go.bits .and .i32 (wrap32 (t102)) 32) == 0) = false := beq_eq_false_iff_ne.mpr c10
                    have c10b1 : ((Go.bits .and .i32 (wrap32 (t102)) 32) != 0) = true := bne_iff_ne.mpr c10
                    have H' := Aside0.mk H
                    clear H
                    have p101 : 0 ≤ (x6_1 : Int) := of_decide_eq_true (by first | (with_reducible assumption) | assumption)
                    have q101 : x6_1 < (l0.length : Int) := of_decide_eq_true (by first | (with_reducible assumption) | assumption)
                    obtain ⟨ad101, e101, hx101_0⟩ := Kd.at_int HR0.out x6_1 p101 q101
                    cases e101
                    replace p101 := eq_true p101
                    replace q101 := eq_true q101
                    go_wp2_with (first | ((with_reducible refine gate_callee (f := 54) rfl ?_); refine goesL_ (some 23) rfl rfl Try.func54 (by kernel_rfl) rfl #[.string (⟨#[65, 66, 67, 68, 69, 70, 71, 72, 73, 74, 75, 76, 77, 78, 79, 80, 81, 82, 83, 84, 85, 86, 87, 88, 89, 90, 97, 98, 99, 100, 101, 102, 103, 104, 105, 106, 107, 108, 109, 110, 111, 112, 113, 114, 115, 116, 117, 118, 119, 120, 121, 122, 48, 49, 50, 51, 52, 53, 54, 55, 56, 57, 43, 47]⟩ : ByteArray), .int .u8 ((rd l0 x6_1) % 256)] rfl (by (try simp only [List.map_toArray, List.map_cons, List.map_nil]); first | done | rfl | (simp only [List.length_drop, List.length_take]; rfl)) ?_; (with_reducible refine (strings_IndexByte.calls (⟨#[65, 66, 67, 68, 69, 70, 71, 72, 73, 74, 75, 76, 77, 78, 79, 80, 81, 82, 83, 84, 85, 86, 87, 88, 89, 90, 97, 98, 99, 100, 101, 102, 103, 104, 105, 106, 107, 108, 109, 110, 111, 112, 113, 114, 115, 116, 117, 118, 119, 120, 121, 122, 48, 49, 50, 51, 52, 53, 54, 55, 56, 57, 43, 47]⟩ : ByteArray) ((rd l0 x6_1) % 256) t102 _ A6.out).mono ?_); rintro e w' ⟨rfl, ⟨nd, rfl⟩⟩; refine ⟨_, rfl, ?_⟩))
                    go_roundg k1
                    case measure => have := HK1.out; omega
                    case rel => exact ⟨(wrap64 (x6_1 + 1)), (wrap64 (x7_1 + 5)), (Go.bits .or .i32 x8_1 (ji9)), (by first | rfl | (simp; done) | (simp [*]; done)), (by first | rfl | (simp; done) | (simp [*]; done)), (by first | rfl | (simp; done) | (simp only [← hji9] <;> (first | rfl | simp)) | (simp [*]; done)), H', ⟨by have := HK1.out; omega⟩, by repeat (first | exact Drawn0.refl _ | apply Drawn0.step)⟩
                · rw [if_neg c8] at H
                  exact absurd H (by simp)
            · rw [if_neg c5] at H
              exact absurd H (by simp)
          · rw [if_neg c4] at H
            exact absurd H (by simp)

end Go.Proofs.YtkdinhbfidckdaaR.PDecodeVLQUTF16
