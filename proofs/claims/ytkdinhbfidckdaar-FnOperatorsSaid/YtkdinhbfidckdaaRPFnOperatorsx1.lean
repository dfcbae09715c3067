-- PRINTED BY print.sh 35421559b90ae4d0a3588c463048766b98c2df88dd9212a6774a882060cdf62d: not written by this session
import Derived.Test.YtkdinhbfidckdaaRPFnOperatorsx0
namespace Go.Proofs.YtkdinhbfidckdaaR.PFnOperators
open Go.RowKit Go.Proofs.YtkdinhbfidckdaaRW.PrintWords Go.Proofs.YtkdinhbfidckdaaRW.PrintLast Go.Proofs.YtkdinhbfidckdaaRW.PrintMore
attribute [local go_sem] max2_int min2_int max_two min_two max_three min_three max_four min_four   -- for this text's walks alone
set_option linter.unusedVariables false
set_option linter.unusedSimpArgs false

/-! ### js_ast_OpCode_IsPrefix: function 42 -/
def js_ast_OpCode_IsPrefix.f (a0 : Int) : Option (Bool) := some (decide (a0 < 9))
set_option maxHeartbeats 8000000 in
set_option maxRecDepth 100000 in
theorem js_ast_OpCode_IsPrefix.calls (a0 : Int) (r : Bool) (w : World) (h : js_ast_OpCode_IsPrefix.f a0 = some r) :
    Calls Try.prog 42 #[.int .u8 a0] w fun e w' => e = .returned (.bool r) ∧ Drawn0 w w' := by
  have H : (some (decide (a0 < 9))) = some r := h
  clear h
  obtain rfl := Option.some.inj H
  go_enter Try.func42, Try.ntmps42
  go_wp2
  go_ret
  exact ⟨by first | rfl | (simp; done) | (simp [*]; done), by repeat (first | exact Drawn0.refl _ | apply Drawn0.step)⟩

/-! ### js_ast_OpCode_IsLeftAssociative: function 43 -/
def js_ast_OpCode_IsLeftAssociative.f (a0 : Int) : Option (Bool) := if a0 ≥ 11 then (if a0 < 36 then (some (a0 != 16)) else (some false)) else (some false)
set_option maxHeartbeats 8000000 in
set_option maxRecDepth 100000 in
theorem js_ast_OpCode_IsLeftAssociative.calls (a0 : Int) (r : Bool) (w : World) (h : js_ast_OpCode_IsLeftAssociative.f a0 = some r) :
    Calls Try.prog 43 #[.int .u8 a0] w fun e w' => e = .returned (.bool r) ∧ Drawn0 w w' := by
  have H : (if a0 ≥ 11 then (if a0 < 36 then (some (a0 != 16)) else (some false)) else (some false)) = some r := h
  clear h
  by_cases c2 : a0 ≥ 11
  · rw [if_pos c2] at H
    have c2b0 : decide (11 ≤ a0) = true := decide_eq_true c2
    clear c2
    by_cases c3 : a0 < 36
    · rw [if_pos c3] at H
      have c3b0 : decide (a0 < 36) = true := decide_eq_true c3
      clear c3
      obtain rfl := Option.some.inj H
      go_enter Try.func43, Try.ntmps43
      go_wp2
      go_ret
      exact ⟨by first | rfl | (simp; done) | (simp [*]; done), by repeat (first | exact Drawn0.refl _ | apply Drawn0.step)⟩
    · rw [if_neg c3] at H
      have c3b0 : decide (a0 < 36) = false := decide_eq_false c3
      clear c3
      obtain rfl := Option.some.inj H
      go_enter Try.func43, Try.ntmps43
      go_wp2
      go_ret
      exact ⟨by first | rfl | (simp; done) | (simp [*]; done), by repeat (first | exact Drawn0.refl _ | apply Drawn0.step)⟩
  · rw [if_neg c2] at H
    have c2b0 : decide (11 ≤ a0) = false := decide_eq_false c2
    clear c2
    obtain rfl := Option.some.inj H
    go_enter Try.func43, Try.ntmps43
    go_wp2
    go_ret
    exact ⟨by first | rfl | (simp; done) | (simp [*]; done), by repeat (first | exact Drawn0.refl _ | apply Drawn0.step)⟩

/-! ### js_ast_OpCode_IsRightAssociative: function 44 -/
def js_ast_OpCode_IsRightAssociative.f (a0 : Int) : Option (Bool) := if a0 ≥ 37 then (some true) else (some (a0 == 16))
set_option maxHeartbeats 8000000 in
set_option maxRecDepth 100000 in
theorem js_ast_OpCode_IsRightAssociative.calls (a0 : Int) (r : Bool) (w : World) (h : js_ast_OpCode_IsRightAssociative.f a0 = some r) :
    Calls Try.prog 44 #[.int .u8 a0] w fun e w' => e = .returned (.bool r) ∧ Drawn0 w w' := by
  have H : (if a0 ≥ 37 then (some true) else (some (a0 == 16))) = some r := h
  clear h
  by_cases c2 : a0 ≥ 37
  · rw [if_pos c2] at H
    have c2b0 : decide (37 ≤ a0) = true := decide_eq_true c2
    clear c2
    obtain rfl := Option.some.inj H
    go_enter Try.func44, Try.ntmps44
    go_wp2
    go_ret
    exact ⟨by first | rfl | (simp; done) | (simp [*]; done), by repeat (first | exact Drawn0.refl _ | apply Drawn0.step)⟩
  · rw [if_neg c2] at H
    have c2b0 : decide (37 ≤ a0) = false := decide_eq_false c2
    clear c2
    obtain rfl := Option.some.inj H
    go_enter Try.func44, Try.ntmps44
    go_wp2
    go_ret
    exact ⟨by first | rfl | (simp; done) | (simp [*]; done), by repeat (first | exact Drawn0.refl _ | apply Drawn0.step)⟩

/-! ### js_ast_OpCode_IsShortCircuit: function 45 -/
def js_ast_OpCode_IsShortCircuit.f (a0 : Int) : Option (Bool) := if a0 = 31 then (some true) else (if a0 = 51 then (some true) else (if a0 = 32 then (some true) else (if a0 = 52 then (some true) else (if a0 = 30 then (some true) else (if a0 = 50 then (some true) else (some false))))))
set_option maxHeartbeats 8000000 in
set_option maxRecDepth 100000 in
theorem js_ast_OpCode_IsShortCircuit.calls (a0 : Int) (r : Bool) (w : World) (h : js_ast_OpCode_IsShortCircuit.f a0 = some r) :
    Calls Try.prog 45 #[.int .u8 a0] w fun e w' => e = .returned (.bool r) ∧ Drawn0 w w' := by
  have H : (if a0 = 31 then (some true) else (if a0 = 51 then (some true) else (if a0 = 32 then (some true) else (if a0 = 52 then (some true) else (if a0 = 30 then (some true) else (if a0 = 50 then (some true) else (some false))))))) = some r := h
  clear h
  by_cases c2 : a0 = 31
  · rw [if_pos c2] at H
    have c2b0 : (a0 == 31) = true := beq_iff_eq.mpr c2
    have c2b1 : (a0 != 31) = false := bne_eq_false_iff_eq.mpr c2
    clear c2
    obtain rfl := Option.some.inj H
    go_enter Try.func45, Try.ntmps45
    go_wp2
    go_ret
    exact ⟨by first | rfl | (simp; done) | (simp [*]; done), by repeat (first | exact Drawn0.refl _ | apply Drawn0.step)⟩
  · rw [if_neg c2] at H
    have c2b0 : (a0 == 31) = false := beq_eq_false_iff_ne.mpr c2
    have c2b1 : (a0 != 31) = true := bne_iff_ne.mpr c2
    by_cases c3 : a0 = 51
    · rw [if_pos c3] at H
      have c3b0 : (a0 == 51) = true := beq_iff_eq.mpr c3
      have c3b1 : (a0 != 51) = false := bne_eq_false_iff_eq.mpr c3
      clear c3
      obtain rfl := Option.some.inj H
      go_enter Try.func45, Try.ntmps45
      go_wp2
      go_ret
      exact ⟨by first | rfl | (simp; done) | (simp [*]; done), by repeat (first | exact Drawn0.refl _ | apply Drawn0.step)⟩
    · rw [if_neg c3] at H
      have c3b0 : (a0 == 51) = false := beq_eq_false_iff_ne.mpr c3
      have c3b1 : (a0 != 51) = true := bne_iff_ne.mpr c3
      by_cases c4 : a0 = 32
      · rw [if_pos c4] at H
        have c4b0 : (a0 == 32) = true := beq_iff_eq.mpr c4
        have c4b1 : (a0 != 32) = false := bne_eq_false_iff_eq.mpr c4
        clear c4
        obtain rfl := Option.some.inj H
        go_enter Try.func45, Try.ntmps45
        go_wp2
        go_ret
        exact ⟨by first | rfl | (simp; done) | (simp [*]; done), by repeat (first | exact Drawn0.refl _ | apply Drawn0.step)⟩
      · rw [if_neg c4] at H
        have c4b0 : (a0 == 32) = false := beq_eq_false_iff_ne.mpr c4
        have c4b1 : (a0 != 32) = true := bne_iff_ne.mpr c4
        by_cases c5 : a0 = 52
        · rw [if_pos c5] at H
          have c5b0 : (a0 == 52) = true := beq_iff_eq.mpr c5
          have c5b1 : (a0 != 52) = false := bne_eq_false_iff_eq.mpr c5
          clear c5
          obtain rfl := Option.some.inj H
          go_enter Try.func45, Try.ntmps45
          go_wp2
          go_ret
          exact ⟨by first | rfl | (simp; done) | (simp [*]; done), by repeat (first | exact Drawn0.refl _ | apply Drawn0.step)⟩
        · rw [if_neg c5] at H
          have c5b0 : (a0 == 52) = false := beq_eq_false_iff_ne.mpr c5
          have c5b1 : (a0 != 52) = true := bne_iff_ne.mpr c5
          by_cases c6 : a0 = 30
          · rw [if_pos c6] at H
            have c6b0 : (a0 == 30) = true := beq_iff_eq.mpr c6
            have c6b1 : (a0 != 30) = false := bne_eq_false_iff_eq.mpr c6
            clear c6
            obtain rfl := Option.some.inj H
            go_enter Try.func45, Try.ntmps45
            go_wp2
            go_ret
            exact ⟨by first | rfl | (simp; done) | (simp [*]; done), by repeat (first | exact Drawn0.refl _ | apply Drawn0.step)⟩
          · rw [if_neg c6] at H
            have c6b0 : (a0 == 30) = false := beq_eq_false_iff_ne.mpr c6
            have c6b1 : (a0 != 30) = true := bne_iff_ne.mpr c6
            by_cases c7 : a0 = 50
            · rw [if_pos c7] at H
              have c7b0 : (a0 == 50) = true := beq_iff_eq.mpr c7
              have c7b1 : (a0 != 50) = false := bne_eq_false_iff_eq.mpr c7
              clear c7
              obtain rfl := Option.some.inj H
              go_enter Try.func45, Try.ntmps45
              go_wp2
              go_ret
              exact ⟨by first | rfl | (simp; done) | (simp [*]; done), by repeat (first | exact Drawn0.refl _ | apply Drawn0.step)⟩
            · rw [if_neg c7] at H
              have c7b0 : (a0 == 50) = false := beq_eq_false_iff_ne.mpr c7
              have c7b1 : (a0 != 50) = true := bne_iff_ne.mpr c7
              obtain rfl := Option.some.inj H
              go_enter Try.func45, Try.ntmps45
              go_wp2
              go_ret
              exact ⟨by first | rfl | (simp; done) | (simp [*]; done), by repeat (first | exact Drawn0.refl _ | apply Drawn0.step)⟩

/-! ### js_ast_OpCode_UnaryAssignTarget: function 46 -/
def js_ast_OpCode_UnaryAssignTarget.f (a0 : Int) : Option (Int) := if a0 ≥ 7 then (if a0 ≤ 10 then (some 2) else (some 0)) else (some 0)
set_option maxHeartbeats 8000000 in
set_option maxRecDepth 100000 in
theorem js_ast_OpCode_UnaryAssignTarget.calls (a0 : Int) (r : Int) (w : World) (h : js_ast_OpCode_UnaryAssignTarget.f a0 = some r) :
    Calls Try.prog 46 #[.int .u8 a0] w fun e w' => e = .returned (.int .u8 r) ∧ Drawn0 w w' := by
  have H : (if a0 ≥ 7 then (if a0 ≤ 10 then (some 2) else (some 0)) else (some 0)) = some r := h
  clear h
  by_cases c2 : a0 ≥ 7
  · rw [if_pos c2] at H
    have c2b0 : decide (7 ≤ a0) = true := decide_eq_true c2
    clear c2
    by_cases c3 : a0 ≤ 10
    · rw [if_pos c3] at H
      have c3b0 : decide (a0 ≤ 10) = true := decide_eq_true c3
      clear c3
      obtain rfl := Option.some.inj H
      go_enter Try.func46, Try.ntmps46
      go_wp2
      go_ret
      exact ⟨by first | rfl | (simp; done) | (simp [*]; done), by repeat (first | exact Drawn0.refl _ | apply Drawn0.step)⟩
    · rw [if_neg c3] at H
      have c3b0 : decide (a0 ≤ 10) = false := decide_eq_false c3
      clear c3
      obtain rfl := Option.some.inj H
      go_enter Try.func46, Try.ntmps46
      go_wp2
      go_ret
      exact ⟨by first | rfl | (simp; done) | (simp [*]; done), by repeat (first | exact Drawn0.refl _ | apply Drawn0.step)⟩
  · rw [if_neg c2] at H
    have c2b0 : decide (7 ≤ a0) = false := decide_eq_false c2
    clear c2
    obtain rfl := Option.some.inj H
    go_enter Try.func46, Try.ntmps46
    go_wp2
    go_ret
    exact ⟨by first | rfl | (simp; done) | (simp [*]; done), by repeat (first | exact Drawn0.refl _ | apply Drawn0.step)⟩

/-! ### js_ast_OpCode_BinaryAssignTarget: function 47 -/
def js_ast_OpCode_BinaryAssignTarget.f (a0 : Int) : Option (Int) := if a0 = 37 then (some 1) else (if a0 > 37 then (some 2) else (some 0))
set_option maxHeartbeats 8000000 in
set_option maxRecDepth 100000 in
theorem js_ast_OpCode_BinaryAssignTarget.calls (a0 : Int) (r : Int) (w : World) (h : js_ast_OpCode_BinaryAssignTarget.f a0 = some r) :
    Calls Try.prog 47 #[.int .u8 a0] w fun e w' => e = .returned (.int .u8 r) ∧ Drawn0 w w' := by
  have H : (if a0 = 37 then (some 1) else (if a0 > 37 then (some 2) else (some 0))) = some r := h
  clear h
  by_cases c2 : a0 = 37
  · rw [if_pos c2] at H
    have c2b0 : (a0 == 37) = true := beq_iff_eq.mpr c2
    have c2b1 : (a0 != 37) = false := bne_eq_false_iff_eq.mpr c2
    clear c2
    obtain rfl := Option.some.inj H
    go_enter Try.func47, Try.ntmps47
    go_wp2
    go_ret
    exact ⟨by first | rfl | (simp; done) | (simp [*]; done), by repeat (first | exact Drawn0.refl _ | apply Drawn0.step)⟩
  · rw [if_neg c2] at H
    have c2b0 : (a0 == 37) = false := beq_eq_false_iff_ne.mpr c2
    have c2b1 : (a0 != 37) = true := bne_iff_ne.mpr c2
    by_cases c3 : a0 > 37
    · rw [if_pos c3] at H
      have c3b0 : decide (37 < a0) = true := decide_eq_true c3
      clear c3
      obtain rfl := Option.some.inj H
      go_enter Try.func47, Try.ntmps47
      go_wp2
      go_ret
      exact ⟨by first | rfl | (simp; done) | (simp [*]; done), by repeat (first | exact Drawn0.refl _ | apply Drawn0.step)⟩
    · rw [if_neg c3] at H
      have c3b0 : decide (37 < a0) = false := decide_eq_false c3
      clear c3
      obtain rfl := Option.some.inj H
      go_enter Try.func47, Try.ntmps47
      go_wp2
      go_ret
      exact ⟨by first | rfl | (simp; done) | (simp [*]; done), by repeat (first | exact Drawn0.refl _ | apply Drawn0.step)⟩

/-! ### impl_Operator: function 25 -/
def impl_Operator.f (a0 : Int) : Option (Bool × Bool × Bool × Bool × Int × Int) := (js_ast_OpCode_IsPrefix.f ((a0) % 256)).bind fun t101 => ((js_ast_OpCode_IsLeftAssociative.f ((a0) % 256)).bind fun t102 => ((js_ast_OpCode_IsRightAssociative.f ((a0) % 256)).bind fun t103 => ((js_ast_OpCode_IsShortCircuit.f ((a0) % 256)).bind fun t104 => ((js_ast_OpCode_UnaryAssignTarget.f ((a0) % 256)).bind fun t105 => ((js_ast_OpCode_BinaryAssignTarget.f ((a0) % 256)).bind fun t106 => (some (t101, t102, t103, t104, wrap64 (t105), wrap64 (t106))))))))
set_option maxHeartbeats 8000000 in
set_option maxRecDepth 100000 in
theorem impl_Operator.calls (a0 : Int) (r1 : Bool) (r2 : Bool) (r3 : Bool) (r4 : Bool) (r5 : Int) (r6 : Int) (w : World) (h : impl_Operator.f a0 = some (r1, r2, r3, r4, r5, r6)) :
    Calls Try.prog 25 #[.int .i64 a0] w fun e w' => e = .returned (.tuple #[.bool r1, .bool r2, .bool r3, .bool r4, .int .i64 r5, .int .i64 r6]) ∧ Drawn0 w w' := by
  have H : ((js_ast_OpCode_IsPrefix.f ((a0) % 256)).bind fun t101 => ((js_ast_OpCode_IsLeftAssociative.f ((a0) % 256)).bind fun t102 => ((js_ast_OpCode_IsRightAssociative.f ((a0) % 256)).bind fun t103 => ((js_ast_OpCode_IsShortCircuit.f ((a0) % 256)).bind fun t104 => ((js_ast_OpCode_UnaryAssignTarget.f ((a0) % 256)).bind fun t105 => ((js_ast_OpCode_BinaryAssignTarget.f ((a0) % 256)).bind fun t106 => (some (t101, t102, t103, t104, wrap64 (t105), wrap64 (t106))))))))) = some (r1, r2, r3, r4, r5, r6) := h
  clear h
  replace H := Option.bind_eq_some_iff.mp H
  obtain ⟨t101, A20, H⟩ := H
  replace H : ((js_ast_OpCode_IsLeftAssociative.f ((a0) % 256)).bind fun t102 => ((js_ast_OpCode_IsRightAssociative.f ((a0) % 256)).bind fun t103 => ((js_ast_OpCode_IsShortCircuit.f ((a0) % 256)).bind fun t104 => ((js_ast_OpCode_UnaryAssignTarget.f ((a0) % 256)).bind fun t105 => ((js_ast_OpCode_BinaryAssignTarget.f ((a0) % 256)).bind fun t106 => (some (t101, t102, t103, t104, wrap64 (t105), wrap64 (t106)))))))) = some (r1, r2, r3, r4, r5, r6) := H
  have A2 := Aside0.mk A20
  clear A20
  replace H := Option.bind_eq_some_iff.mp H
  obtain ⟨t102, A30, H⟩ := H
  replace H : ((js_ast_OpCode_IsRightAssociative.f ((a0) % 256)).bind fun t103 => ((js_ast_OpCode_IsShortCircuit.f ((a0) % 256)).bind fun t104 => ((js_ast_OpCode_UnaryAssignTarget.f ((a0) % 256)).bind fun t105 => ((js_ast_OpCode_BinaryAssignTarget.f ((a0) % 256)).bind fun t106 => (some (t101, t102, t103, t104, wrap64 (t105), wrap64 (t106))))))) = some (r1, r2, r3, r4, r5, r6) := H
  have A3 := Aside0.mk A30
  clear A30
  replace H := Option.bind_eq_some_iff.mp H
  obtain ⟨t103, A40, H⟩ := H
  replace H : ((js_ast_OpCode_IsShortCircuit.f ((a0) % 256)).bind fun t104 => ((js_ast_OpCode_UnaryAssignTarget.f ((a0) % 256)).bind fun t105 => ((js_ast_OpCode_BinaryAssignTarget.f ((a0) % 256)).bind fun t106 => (some (t101, t102, t103, t104, wrap64 (t105), wrap64 (t106)))))) = some (r1, r2, r3, r4, r5, r6) := H
  have A4 := Aside0.mk A40
  clear A40
  replace H := Option.bind_eq_some_iff.mp H
  obtain ⟨t104, A50, H⟩ := H
  replace H : ((js_ast_OpCode_UnaryAssignTarget.f ((a0) % 256)).bind fun t105 => ((js_ast_OpCode_BinaryAssignTarget.f ((a0) % 256)).bind fun t106 => (some (t101, t102, t103, t104, wrap64 (t105), wrap64 (t106))))) = some (r1, r2, r3, r4, r5, r6) := H
  have A5 := Aside0.mk A50
  clear A50
  replace H := Option.bind_eq_some_iff.mp H
  obtain ⟨t105, A60, H⟩ := H
  replace H : ((js_ast_OpCode_BinaryAssignTarget.f ((a0) % 256)).bind fun t106 => (some (t101, t102, t103, t104, wrap64 (t105), wrap64 (t106)))) = some (r1, r2, r3, r4, r5, r6) := H
  have A6 := Aside0.mk A60
  clear A60
  replace H := Option.bind_eq_some_iff.mp H
  obtain ⟨t106, A70, H⟩ := H
  replace H : (some (t101, t102, t103, t104, wrap64 (t105), wrap64 (t106))) = some (r1, r2, r3, r4, r5, r6) := H
  have A7 := Aside0.mk A70
  clear A70
  simp only [Option.some.injEq, Prod.mk.injEq] at H
  obtain ⟨rfl, rfl, rfl, rfl, rfl, rfl⟩ := H
  go_enter Try.func25, Try.ntmps25
  go_wp2_with (first | ((with_reducible refine gate_callee (f := 42) rfl ?_); refine goesL_ (some 12) rfl rfl Try.func42 (by kernel_rfl) rfl #[.int .u8 ((a0) % 256)] rfl (by (try simp only [List.map_toArray, List.map_cons, List.map_nil]); first | done | rfl | (simp only [List.length_drop, List.length_take]; rfl)) ?_; (with_reducible refine (js_ast_OpCode_IsPrefix.calls ((a0) % 256) t101 _ A2.out).mono ?_); rintro e w' ⟨rfl, ⟨nd, rfl⟩⟩; refine ⟨_, rfl, ?_⟩) | ((with_reducible refine gate_callee (f := 43) rfl ?_); refine goesL_ (some 14) rfl rfl Try.func43 (by kernel_rfl) rfl #[.int .u8 ((a0) % 256)] rfl (by (try simp only [List.map_toArray, List.map_cons, List.map_nil]); first | done | rfl | (simp only [List.length_drop, List.length_take]; rfl)) ?_; (with_reducible refine (js_ast_OpCode_IsLeftAssociative.calls ((a0) % 256) t102 _ A3.out).mono ?_); rintro e w' ⟨rfl, ⟨nd, rfl⟩⟩; refine ⟨_, rfl, ?_⟩) | ((with_reducible refine gate_callee (f := 44) rfl ?_); refine goesL_ (some 16) rfl rfl Try.func44 (by kernel_rfl) rfl #[.int .u8 ((a0) % 256)] rfl (by (try simp only [List.map_toArray, List.map_cons, List.map_nil]); first | done | rfl | (simp only [List.length_drop, List.length_take]; rfl)) ?_; (with_reducible refine (js_ast_OpCode_IsRightAssociative.calls ((a0) % 256) t103 _ A4.out).mono ?_); rintro e w' ⟨rfl, ⟨nd, rfl⟩⟩; refine ⟨_, rfl, ?_⟩) | ((with_reducible refine gate_callee (f := 45) rfl ?_); refine goesL_ (some 18) rfl rfl Try.func45 (by kernel_rfl) rfl #[.int .u8 ((a0) % 256)] rfl (by (try simp only [List.map_toArray, List.map_cons, List.map_nil]); first | done | rfl | (simp only [List.length_drop, List.length_take]; rfl)) ?_; (with_reducible refine (js_ast_OpCode_IsShortCircuit.calls ((a0) % 256) t104 _ A5.out).mono ?_); rintro e w' ⟨rfl, ⟨nd, rfl⟩⟩; refine ⟨_, rfl, ?_⟩) | ((with_reducible refine gate_callee (f := 46) rfl ?_); refine goesL_ (some 20) rfl rfl Try.func46 (by kernel_rfl) rfl #[.int .u8 ((a0) % 256)] rfl (by (try simp only [List.map_toArray, List.map_cons, List.map_nil]); first | done | rfl | (simp only [List.length_drop, List.length_take]; rfl)) ?_; (with_reducible refine (js_ast_OpCode_UnaryAssignTarget.calls ((a0) % 256) t105 _ A6.out).mono ?_); rintro e w' ⟨rfl, ⟨nd, rfl⟩⟩; refine ⟨_, rfl, ?_⟩) | ((with_reducible refine gate_callee (f := 47) rfl ?_); refine goesL_ (some 23) rfl rfl Try.func47 (by kernel_rfl) rfl #[.int .u8 ((a0) % 256)] rfl (by (try simp only [List.map_toArray, List.map_cons, List.map_nil]); first | done | rfl | (simp only [List.length_drop, List.length_take]; rfl)) ?_; (with_reducible refine (js_ast_OpCode_BinaryAssignTarget.calls ((a0) % 256) t106 _ A7.out).mono ?_); rintro e w' ⟨rfl, ⟨nd, rfl⟩⟩; refine ⟨_, rfl, ?_⟩))
  refine bodyPost_ret (results_list (rs := [.tmp 2, .tmp 3, .tmp 4, .tmp 5, .tmp 6, .tmp 7]) rfl (by simp) (.tmp (.tmp (.tmp (.tmp (.tmp (.tmp .nil))))))) rfl ?_
  exact ⟨by first | rfl | (simp; done) | (simp [*]; done), by repeat (first | exact Drawn0.refl _ | apply Drawn0.step)⟩

/-! ### laws_FnOperators: function 8 -/
mutual
def laws_FnOperators.j0 : Nat → Int → Bool → Option (Bool)
  | 0, _, _ => none
  | k + 1, x0, x22 => if x22 = true then (some true) else ((impl_Operator.f x0).bind fun bt107 => (if x0 = 37 then (laws_FnOperators.j1 k x0 bt107.1 bt107.2.1 bt107.2.2.1 bt107.2.2.2.2.1 bt107.2.2.2.2.2 1) else (if x0 > 37 then (laws_FnOperators.j1 k x0 bt107.1 bt107.2.1 bt107.2.2.1 bt107.2.2.2.2.1 bt107.2.2.2.2.2 2) else (laws_FnOperators.j1 k x0 bt107.1 bt107.2.1 bt107.2.2.1 bt107.2.2.2.2.1 bt107.2.2.2.2.2 0))))
def laws_FnOperators.j1 : Nat → Int → Bool → Bool → Bool → Int → Int → Int → Option (Bool)
  | 0, _, _, _, _, _, _, _ => none
  | k + 1, x0, x3, x4, x5, x7, x8, x9 => if x0 ≥ 7 then (laws_FnOperators.j2 k x0 x3 x4 x5 x7 x8 x9 0 (decide (x0 ≤ 10))) else (laws_FnOperators.j2 k x0 x3 x4 x5 x7 x8 x9 0 false)
def laws_FnOperators.j2 : Nat → Int → Bool → Bool → Bool → Int → Int → Int → Int → Bool → Option (Bool)
  | 0, _, _, _, _, _, _, _, _, _ => none
  | k + 1, x0, x3, x4, x5, x7, x8, x9, x10, x41 => if x41 = true then (laws_FnOperators.j3 k x0 x3 x4 x5 x7 x8 x9 2) else (laws_FnOperators.j3 k x0 x3 x4 x5 x7 x8 x9 x10)
def laws_FnOperators.j3 : Nat → Int → Bool → Bool → Bool → Int → Int → Int → Int → Option (Bool)
  | 0, _, _, _, _, _, _, _, _ => none
  | k + 1, x0, x3, x4, x5, x7, x8, x9, x10 => if (x3 != (decide (x0 < 9))) = true then (laws_FnOperators.j4 k x0 x4 x5 true) else (if x7 = x10 then (laws_FnOperators.j4 k x0 x4 x5 (x8 != x9)) else (laws_FnOperators.j4 k x0 x4 x5 true))
def laws_FnOperators.j4 : Nat → Int → Bool → Bool → Bool → Option (Bool)
  | 0, _, _, _, _ => none
  | k + 1, x0, x4, x5, x55 => if x55 = true then (some false) else (if x5 = true then (if x4 = true then (some false) else (if x0 ≥ 37 then (if x0 < 11 then (some false) else ((impl_Operator.f 3).bind fun bt113 => (some bt113.1))) else (if x0 < 11 then (some false) else ((impl_Operator.f 3).bind fun bt119 => (some bt119.1))))) else (if x0 ≥ 37 then (some false) else (if x0 < 11 then (if x4 = true then (some false) else ((impl_Operator.f 3).bind fun bt125 => (some bt125.1))) else ((impl_Operator.f 3).bind fun bt131 => (some bt131.1)))))
end
def laws_FnOperators.f (k : Nat) (a0 : Int) : Option (Bool) := if a0 < 0 then (laws_FnOperators.j0 k a0 true) else (laws_FnOperators.j0 k a0 (decide (a0 ≥ 53)))
theorem laws_FnOperators.mono_l : ∀ k, (∀ y0 y1, LeO (laws_FnOperators.j0 k y0 y1) (laws_FnOperators.j0 (k + 1) y0 y1)) ∧ (∀ y0 y1 y2 y3 y4 y5 y6, LeO (laws_FnOperators.j1 k y0 y1 y2 y3 y4 y5 y6) (laws_FnOperators.j1 (k + 1) y0 y1 y2 y3 y4 y5 y6)) ∧ (∀ y0 y1 y2 y3 y4 y5 y6 y7 y8, LeO (laws_FnOperators.j2 k y0 y1 y2 y3 y4 y5 y6 y7 y8) (laws_FnOperators.j2 (k + 1) y0 y1 y2 y3 y4 y5 y6 y7 y8)) ∧ (∀ y0 y1 y2 y3 y4 y5 y6 y7, LeO (laws_FnOperators.j3 k y0 y1 y2 y3 y4 y5 y6 y7) (laws_FnOperators.j3 (k + 1) y0 y1 y2 y3 y4 y5 y6 y7)) ∧ (∀ y0 y1 y2 y3, LeO (laws_FnOperators.j4 k y0 y1 y2 y3) (laws_FnOperators.j4 (k + 1) y0 y1 y2 y3))
  | 0 => ⟨fun _ _ r h => by simp [laws_FnOperators.j0] at h, fun _ _ _ _ _ _ _ r h => by simp [laws_FnOperators.j1] at h, fun _ _ _ _ _ _ _ _ _ r h => by simp [laws_FnOperators.j2] at h, fun _ _ _ _ _ _ _ _ r h => by simp [laws_FnOperators.j3] at h, fun _ _ _ _ r h => by simp [laws_FnOperators.j4] at h⟩
  | k + 1 => by
    obtain ⟨ih0, ih1, ih2, ih3, ih4⟩ := laws_FnOperators.mono_l k
    refine ⟨?_, ?_, ?_, ?_, ?_⟩
    · intro y0 y1
      unfold laws_FnOperators.j0
      repeat' first
      | (with_reducible exact ih0 _ _)
      | (with_reducible exact ih1 _ _ _ _ _ _ _)
      | (with_reducible exact ih2 _ _ _ _ _ _ _ _ _)
      | (with_reducible exact ih3 _ _ _ _ _ _ _ _)
      | (with_reducible exact ih4 _ _ _ _)
      | (with_reducible exact LeO.refl _)
      | (with_reducible exact LeO.none _)
      | (with_reducible refine LeO.ite ?_ ?_)
      | (with_reducible refine LeO.bind ?_ (fun _ => ?_))
      | exact ih0 _ _
      | exact ih1 _ _ _ _ _ _ _
      | exact ih2 _ _ _ _ _ _ _ _ _
      | exact ih3 _ _ _ _ _ _ _ _
      | exact ih4 _ _ _ _
      | exact LeO.none _
      | refine LeO.ite ?_ ?_
      | refine LeO.bind ?_ (fun _ => ?_)
    · intro y0 y1 y2 y3 y4 y5 y6
      unfold laws_FnOperators.j1
      repeat' first
      | (with_reducible exact ih0 _ _)
      | (with_reducible exact ih1 _ _ _ _ _ _ _)
      | (with_reducible exact ih2 _ _ _ _ _ _ _ _ _)
      | (with_reducible exact ih3 _ _ _ _ _ _ _ _)
      | (with_reducible exact ih4 _ _ _ _)
      | (with_reducible exact LeO.refl _)
      | (with_reducible exact LeO.none _)
      | (with_reducible refine LeO.ite ?_ ?_)
      | (with_reducible refine LeO.bind ?_ (fun _ => ?_))
      | exact ih0 _ _
      | exact ih1 _ _ _ _ _ _ _
      | exact ih2 _ _ _ _ _ _ _ _ _
      | exact ih3 _ _ _ _ _ _ _ _
      | exact ih4 _ _ _ _
      | exact LeO.none _
      | refine LeO.ite ?_ ?_
      | refine LeO.bind ?_ (fun _ => ?_)
    · intro y0 y1 y2 y3 y4 y5 y6 y7 y8
      unfold laws_FnOperators.j2
      repeat' first
      | (with_reducible exact ih0 _ _)
      | (with_reducible exact ih1 _ _ _ _ _ _ _)
      | (with_reducible exact ih2 _ _ _ _ _ _ _ _ _)
      | (with_reducible exact ih3 _ _ _ _ _ _ _ _)
      | (with_reducible exact ih4 _ _ _ _)
      | (with_reducible exact LeO.refl _)
      | (with_reducible exact LeO.none _)
      | (with_reducible refine LeO.ite ?_ ?_)
      | (with_reducible refine LeO.bind ?_ (fun _ => ?_))
      | exact ih0 _ _
      | exact ih1 _ _ _ _ _ _ _
      | exact ih2 _ _ _ _ _ _ _ _ _
      | exact ih3 _ _ _ _ _ _ _ _
      | exact ih4 _ _ _ _
      | exact LeO.none _
      | refine LeO.ite ?_ ?_
      | refine LeO.bind ?_ (fun _ => ?_)
    · intro y0 y1 y2 y3 y4 y5 y6 y7
      unfold laws_FnOperators.j3
      repeat' first
      | (with_reducible exact ih0 _ _)
      | (with_reducible exact ih1 _ _ _ _ _ _ _)
      | (with_reducible exact ih2 _ _ _ _ _ _ _ _ _)
      | (with_reducible exact ih3 _ _ _ _ _ _ _ _)
      | (with_reducible exact ih4 _ _ _ _)
      | (with_reducible exact LeO.refl _)
      | (with_reducible exact LeO.none _)
      | (with_reducible refine LeO.ite ?_ ?_)
      | (with_reducible refine LeO.bind ?_ (fun _ => ?_))
      | exact ih0 _ _
      | exact ih1 _ _ _ _ _ _ _
      | exact ih2 _ _ _ _ _ _ _ _ _
      | exact ih3 _ _ _ _ _ _ _ _
      | exact ih4 _ _ _ _
      | exact LeO.none _
      | refine LeO.ite ?_ ?_
      | refine LeO.bind ?_ (fun _ => ?_)
    · intro y0 y1 y2 y3
      unfold laws_FnOperators.j4
      repeat' first
      | (with_reducible exact ih0 _ _)
      | (with_reducible exact ih1 _ _ _ _ _ _ _)
      | (with_reducible exact ih2 _ _ _ _ _ _ _ _ _)
      | (with_reducible exact ih3 _ _ _ _ _ _ _ _)
      | (with_reducible exact ih4 _ _ _ _)
      | (with_reducible exact LeO.refl _)
      | (with_reducible exact LeO.none _)
      | (with_reducible refine LeO.ite ?_ ?_)
      | (with_reducible refine LeO.bind ?_ (fun _ => ?_))
      | exact ih0 _ _
      | exact ih1 _ _ _ _ _ _ _
      | exact ih2 _ _ _ _ _ _ _ _ _
      | exact ih3 _ _ _ _ _ _ _ _
      | exact ih4 _ _ _ _
      | exact LeO.none _
      | refine LeO.ite ?_ ?_
      | refine LeO.bind ?_ (fun _ => ?_)
theorem laws_FnOperators.mono : ∀ a0 k, LeO (laws_FnOperators.f k a0) (laws_FnOperators.f (k + 1) a0) := by
  intro a0 k
  obtain ⟨ih0, ih1, ih2, ih3, ih4⟩ := laws_FnOperators.mono_l k
  unfold laws_FnOperators.f
  repeat' first
      | (with_reducible exact ih0 _ _)
      | (with_reducible exact ih1 _ _ _ _ _ _ _)
      | (with_reducible exact ih2 _ _ _ _ _ _ _ _ _)
      | (with_reducible exact ih3 _ _ _ _ _ _ _ _)
      | (with_reducible exact ih4 _ _ _ _)
      | (with_reducible exact LeO.refl _)
      | (with_reducible exact LeO.none _)
      | (with_reducible refine LeO.ite ?_ ?_)
      | (with_reducible refine LeO.bind ?_ (fun _ => ?_))
      | exact ih0 _ _
      | exact ih1 _ _ _ _ _ _ _
      | exact ih2 _ _ _ _ _ _ _ _ _
      | exact ih3 _ _ _ _ _ _ _ _
      | exact ih4 _ _ _ _
      | exact LeO.none _
      | refine LeO.ite ?_ ?_
      | refine LeO.bind ?_ (fun _ => ?_)
set_option maxHeartbeats 8000000 in
set_option maxRecDepth 100000 in
theorem laws_FnOperators.calls (k : Nat) (a0 : Int) (r : Bool) (w : World) (h : laws_FnOperators.f k a0 = some r) :
    Calls Try.prog 8 #[.int .i64 a0] w fun e w' => e = .returned (.bool r) ∧ Drawn0 w w' := by
  have H : (if a0 < 0 then (laws_FnOperators.j0 k a0 true) else (laws_FnOperators.j0 k a0 (decide (a0 ≥ 53)))) = some r := h
  clear h
  have HC2 := Aside0.mk H
  clear H
  go_enter Try.func8, Try.ntmps8
  go_upto_region 1 with (fail)
  go_cut [22] (fun v22 wc => ∃ (kq : Nat) (x22_1 : Bool), v22 = .bool x22_1 ∧ Aside0 (laws_FnOperators.j0 kq a0 x22_1 = some r) ∧ Aside0 (kq ≤ k) ∧ Drawn0 w wc)
  case first =>
    have H := HC2.out
    clear HC2
    by_cases c3 : a0 < 0
    · rw [if_pos c3] at H
      have c3b0 : decide (a0 < 0) = true := decide_eq_true c3
      clear c3
      (first | rw [c3b0] | (simp only [i64_w, i32_w]; rw [c3b0]) | skip)
      have H' := Aside0.mk H
      clear H
      go_wp2
      go_meet
      case rel => exact ⟨_, (true), (by first | rfl | (simp; done) | (simp [*]; done)), H', ⟨by first | omega | exact Nat.le_refl _⟩, by repeat (first | exact Drawn0.refl _ | apply Drawn0.step)⟩
    · rw [if_neg c3] at H
      have c3b0 : decide (a0 < 0) = false := decide_eq_false c3
      clear c3
      (first | rw [c3b0] | (simp only [i64_w, i32_w]; rw [c3b0]) | skip)
      have H' := Aside0.mk H
      clear H
      go_wp2
      go_meet
      case rel => exact ⟨_, (decide (a0 ≥ 53)), (by first | rfl | (simp; done) | (simp [*]; done)), H', ⟨by first | omega | exact Nat.le_refl _⟩, by repeat (first | exact Drawn0.refl _ | apply Drawn0.step)⟩
  case rest =>
    clear HC2
    try clear p2
    try clear c3
    try clear c3b0
    obtain ⟨kq, x22_1, rfl, HA, HJ1, ⟨mc1, rfl⟩⟩ := hcut
    cases kq with
    | zero => exact absurd HA.out (by simp [laws_FnOperators.j0])
    | succ kj1 =>
      have H := HA.out
      clear HA
      simp only [laws_FnOperators.j0] at H
      by_cases c4 : x22_1 = true
      · subst c4
        have H1 : (some true) = some r := by rw [if_pos rfl] at H; exact H
        clear H
        have H := H1
        clear H1
        obtain rfl := Option.some.inj H
        go_wp2
        go_ret
        exact ⟨by first | rfl | (simp; done) | (simp [*]; done), by repeat (first | exact Drawn0.refl _ | apply Drawn0.step)⟩
      · replace c4 := Bool.eq_false_iff.mpr c4
        subst c4
        have H1 : ((impl_Operator.f a0).bind fun bt107 => (if a0 = 37 then (laws_FnOperators.j1 kj1 a0 bt107.1 bt107.2.1 bt107.2.2.1 bt107.2.2.2.2.1 bt107.2.2.2.2.2 1) else (if a0 > 37 then (laws_FnOperators.j1 kj1 a0 bt107.1 bt107.2.1 bt107.2.2.1 bt107.2.2.2.2.1 bt107.2.2.2.2.2 2) else (laws_FnOperators.j1 kj1 a0 bt107.1 bt107.2.1 bt107.2.2.1 bt107.2.2.2.2.1 bt107.2.2.2.2.2 0)))) = some r := by rw [if_neg (show ¬ (false = true) by decide)] at H; exact H
        clear H
        have H := H1
        clear H1
        replace H := Option.bind_eq_some_iff.mp H
        obtain ⟨⟨t107, t108, t109, t110, t111, t112⟩, A50, H⟩ := H
        replace H : (if a0 = 37 then (laws_FnOperators.j1 kj1 a0 t107 t108 t109 t111 t112 1) else (if a0 > 37 then (laws_FnOperators.j1 kj1 a0 t107 t108 t109 t111 t112 2) else (laws_FnOperators.j1 kj1 a0 t107 t108 t109 t111 t112 0))) = some r := H
        have A5 := Aside0.mk A50
        clear A50
        have HC6 := Aside0.mk H
        clear H
        go_upto_if 33 with (first | ((with_reducible refine gate_callee (f := 25) rfl ?_); refine goesL_ (some 25) rfl rfl Try.func25 (by kernel_rfl) rfl #[.int .i64 a0] rfl (by (try simp only [List.map_toArray, List.map_cons, List.map_nil]); first | done | rfl | (simp only [List.length_drop, List.length_take]; rfl)) ?_; (with_reducible refine (impl_Operator.calls a0 t107 t108 t109 t110 t111 t112 _ A5.out).mono ?_); rintro e w' ⟨rfl, ⟨nd, rfl⟩⟩; refine ⟨_, rfl, ?_⟩))
        (try simp only [Act.put, List.setIfInBounds_toArray, List.set_cons_zero, List.set_cons_succ])
        go_cut [9] (fun v9 wc => ∃ (kq : Nat) (x9_5 : Int), v9 = .int .i64 x9_5 ∧ Aside0 (laws_FnOperators.j1 kq a0 t107 t108 t109 t111 t112 x9_5 = some r) ∧ Aside0 (kq ≤ kj1) ∧ Drawn0 w wc)
        case first =>
          have H := HC6.out
          clear HC6
          by_cases c7 : a0 = 37
          · rw [if_pos c7] at H
            have c7b0 : (a0 == 37) = true := beq_iff_eq.mpr c7
            have c7b1 : (a0 != 37) = false := bne_eq_false_iff_eq.mpr c7
            clear c7
            (first | rw [c7b0] | (simp only [i64_w, i32_w]; rw [c7b0]) | skip)
            have H' := Aside0.mk H
            clear H
            go_wp2
            go_meet
            case rel => exact ⟨_, (1), (by first | rfl | (simp; done) | (simp [*]; done)), H', ⟨by have := HJ1.out; first | omega | exact Nat.le_refl _⟩, by repeat (first | exact Drawn0.refl _ | apply Drawn0.step)⟩
          · rw [if_neg c7] at H
            have c7b0 : (a0 == 37) = false := beq_eq_false_iff_ne.mpr c7
            have c7b1 : (a0 != 37) = true := bne_iff_ne.mpr c7
            (first | rw [c7b0] | (simp only [i64_w, i32_w]; rw [c7b0]) | skip)
            by_cases c8 : a0 > 37
            · rw [if_pos c8] at H
              have c8b0 : decide (37 < a0) = true := decide_eq_true c8
              clear c8
              have H' := Aside0.mk H
              clear H
              go_wp2
              go_meet
              case rel => exact ⟨_, (2), (by first | rfl | (simp; done) | (simp [*]; done)), H', ⟨by have := HJ1.out; first | omega | exact Nat.le_refl _⟩, by repeat (first | exact Drawn0.refl _ | apply Drawn0.step)⟩
            · rw [if_neg c8] at H
              have c8b0 : decide (37 < a0) = false := decide_eq_false c8
              clear c8
              have H' := Aside0.mk H
              clear H
              go_wp2
              go_meet
              case rel => exact ⟨_, (0), (by first | rfl | (simp; done) | (simp [*]; done)), H', ⟨by have := HJ1.out; first | omega | exact Nat.le_refl _⟩, by repeat (first | exact Drawn0.refl _ | apply Drawn0.step)⟩
        case rest =>
          clear HC6
          try clear c1
          try clear c2
          try clear p2
          try clear c3
          try clear c3b0
          try clear c4
          try clear c7
          try clear c7b0
          try clear c7b1
          try clear c8
          try clear c8b0
          try clear p2
          obtain ⟨kq, x9_5, rfl, HA, HJ5, ⟨mc5, rfl⟩⟩ := hcut
          cases kq with
          | zero => exact absurd HA.out (by simp [laws_FnOperators.j1])
          | succ kj5 =>
            have H := HA.out
            clear HA
            simp only [laws_FnOperators.j1] at H
            have HC9 := Aside0.mk H
            clear H
            go_upto_region 10 with (fail)
            go_cut [41] (fun v41 wc => ∃ (kq : Nat) (x41_8 : Bool), v41 = .bool x41_8 ∧ Aside0 (laws_FnOperators.j2 kq a0 t107 t108 t109 t111 t112 x9_5 0 x41_8 = some r) ∧ Aside0 (kq ≤ kj5) ∧ Drawn0 w wc)
            case first =>
              have H := HC9.out
              clear HC9
              by_cases c10 : a0 ≥ 7
              · rw [if_pos c10] at H
                have c10b0 : decide (7 ≤ a0) = true := decide_eq_true c10
                clear c10
                (first | rw [c10b0] | (simp only [i64_w, i32_w]; rw [c10b0]) | skip)
                have H' := Aside0.mk H
                clear H
                go_wp2
                go_meet
                case rel => exact ⟨_, (decide (a0 ≤ 10)), (by first | rfl | (simp; done) | (simp [*]; done)), H', ⟨by have := HJ1.out; have := HJ5.out; first | omega | exact Nat.le_refl _⟩, by repeat (first | exact Drawn0.refl _ | apply Drawn0.step)⟩
              · rw [if_neg c10] at H
                have c10b0 : decide (7 ≤ a0) = false := decide_eq_false c10
                clear c10
                (first | rw [c10b0] | (simp only [i64_w, i32_w]; rw [c10b0]) | skip)
                have H' := Aside0.mk H
                clear H
                go_wp2
                go_meet
                case rel => exact ⟨_, (false), (by first | rfl | (simp; done) | (simp [*]; done)), H', ⟨by have := HJ1.out; have := HJ5.out; first | omega | exact Nat.le_refl _⟩, by repeat (first | exact Drawn0.refl _ | apply Drawn0.step)⟩
            case rest =>
              clear HC9
              try clear c1
              try clear c2
              try clear p2
              try clear c3
              try clear c3b0
              try clear c4
              try clear c5
              try clear c7
              try clear c7b0
              try clear c7b1
              try clear c8
              try clear c8b0
              try clear c10
              try clear c10b0
              try clear p2
              obtain ⟨kq, x41_8, rfl, HA, HJ8, ⟨mc8, rfl⟩⟩ := hcut
              cases kq with
              | zero => exact absurd HA.out (by simp [laws_FnOperators.j2])
              | succ kj8 =>
                have H := HA.out
                clear HA
                simp only [laws_FnOperators.j2] at H
                have HC11 := Aside0.mk H
                clear H
                go_upto_if 41 with (fail)
                go_cut [10] (fun v10 wc => ∃ (kq : Nat) (x10_10 : Int), v10 = .int .i64 x10_10 ∧ Aside0 (laws_FnOperators.j3 kq a0 t107 t108 t109 t111 t112 x9_5 x10_10 = some r) ∧ Aside0 (kq ≤ kj8) ∧ Drawn0 w wc)
                case first =>
                  have H := HC11.out
                  clear HC11
                  by_cases c12 : x41_8 = true
                  · subst c12
                    have H1 : (laws_FnOperators.j3 kj8 a0 t107 t108 t109 t111 t112 x9_5 2) = some r := by rw [if_pos rfl] at H; exact H
                    clear H
                    have H := H1
                    clear H1
                    have H' := Aside0.mk H
                    clear H
                    go_wp2
                    go_meet
                    case rel => exact ⟨_, (2), (by first | rfl | (simp; done) | (simp [*]; done)), H', ⟨by have := HJ1.out; have := HJ5.out; have := HJ8.out; first | omega | exact Nat.le_refl _⟩, by repeat (first | exact Drawn0.refl _ | apply Drawn0.step)⟩
                  · replace c12 := Bool.eq_false_iff.mpr c12
                    subst c12
                    have H1 : (laws_FnOperators.j3 kj8 a0 t107 t108 t109 t111 t112 x9_5 0) = some r := by rw [if_neg (show ¬ (false = true) by decide)] at H; exact H
                    clear H
                    have H := H1
                    clear H1
                    have H' := Aside0.mk H
                    clear H
                    go_wp2
                    go_meet
                    case rel => exact ⟨_, (0), (by first | rfl | (simp; done) | (simp [*]; done)), H', ⟨by have := HJ1.out; have := HJ5.out; have := HJ8.out; first | omega | exact Nat.le_refl _⟩, by repeat (first | exact Drawn0.refl _ | apply Drawn0.step)⟩
                case rest =>
                  clear HC11
                  try clear c1
                  try clear c2
                  try clear p2
                  try clear c3
                  try clear c3b0
                  try clear c4
                  try clear c5
                  try clear c7
                  try clear c7b0
                  try clear c7b1
                  try clear c8
                  try clear c8b0
                  try clear c10
                  try clear c10b0
                  try clear c12
                  try clear p2
                  obtain ⟨kq, x10_10, rfl, HA, HJ10, ⟨mc10, rfl⟩⟩ := hcut
                  cases kq with
                  | zero => exact absurd HA.out (by simp [laws_FnOperators.j3])
                  | succ kj10 =>
                    have H := HA.out
                    clear HA
                    simp only [laws_FnOperators.j3] at H
                    have HC13 := Aside0.mk H
                    clear H
                    go_upto_region 12 with (fail)
                    go_cut [55] (fun v55 wc => ∃ (kq : Nat) (x55_12 : Bool), v55 = .bool x55_12 ∧ Aside0 (laws_FnOperators.j4 kq a0 t108 t109 x55_12 = some r) ∧ Aside0 (kq ≤ kj10) ∧ Drawn0 w wc)
                    case first =>
                      have H := HC13.out
                      clear HC13
                      by_cases c14 : (t107 != (decide (a0 < 9))) = true
                      · rw [if_pos c14] at H
                        have c14b0 : (t107 != (decide (a0 < 9))) = true := c14
                        (try (have c14b1 : decide (t107 = (decide (a0 < 9))) = false := by simpa using c14))
                        (try (have c14b2 : (t107 == (decide (a0 < 9))) = false := by simpa using c14))
                        (try (have c14b3 : ¬ (t107 = (decide (a0 < 9))) := by simpa using c14))
                        clear c14
                        (first | rw [c14b0] | (simp only [i64_w, i32_w]; rw [c14b0]) | skip)
                        have H' := Aside0.mk H
                        clear H
                        go_wp2
                        go_meet
                        case rel => exact ⟨_, (true), (by first | rfl | (simp; done) | (simp [*]; done)), H', ⟨by have := HJ1.out; have := HJ5.out; have := HJ8.out; have := HJ10.out; first | omega | exact Nat.le_refl _⟩, by repeat (first | exact Drawn0.refl _ | apply Drawn0.step)⟩
                      · rw [if_neg c14] at H
                        have c14b0 : (t107 != (decide (a0 < 9))) = false := by simpa using c14
                        (try (have c14b1 : decide (t107 = (decide (a0 < 9))) = true := by simpa using c14))
                        (try (have c14b2 : (t107 == (decide (a0 < 9))) = true := by simpa using c14))
                        clear c14
                        (first | rw [c14b0] | (simp only [i64_w, i32_w]; rw [c14b0]) | skip)
                        by_cases c15 : t111 = x10_10
                        · rw [if_pos c15] at H
                          have c15b0 : (t111 == x10_10) = true := beq_iff_eq.mpr c15
                          have c15b1 : (t111 != x10_10) = false := bne_eq_false_iff_eq.mpr c15
                          clear c15
                          have H' := Aside0.mk H
                          clear H
                          go_wp2
                          go_meet
                          case rel => exact ⟨_, ((t112 != x9_5)), (by first | rfl | (simp; done) | (simp [*]; done)), H', ⟨by have := HJ1.out; have := HJ5.out; have := HJ8.out; have := HJ10.out; first | omega | exact Nat.le_refl _⟩, by repeat (first | exact Drawn0.refl _ | apply Drawn0.step)⟩
                        · rw [if_neg c15] at H
                          have c15b0 : (t111 == x10_10) = false := beq_eq_false_iff_ne.mpr c15
                          have c15b1 : (t111 != x10_10) = true := bne_iff_ne.mpr c15
                          have H' := Aside0.mk H
                          clear H
                          go_wp2
                          go_meet
                          case rel => exact ⟨_, (true), (by first | rfl | (simp; done) | (simp [*]; done)), H', ⟨by have := HJ1.out; have := HJ5.out; have := HJ8.out; have := HJ10.out; first | omega | exact Nat.le_refl _⟩, by repeat (first | exact Drawn0.refl _ | apply Drawn0.step)⟩
                    case rest =>
                      clear HC13
                      try clear c1
                      try clear c2
                      try clear p2
                      try clear c3
                      try clear c3b0
                      try clear c4
                      try clear c5
                      try clear c7
                      try clear c7b0
                      try clear c7b1
                      try clear c8
                      try clear c8b0
                      try clear c10
                      try clear c10b0
                      try clear c12
                      try clear c14
                      try clear c14b0
                      try clear c14b1
                      try clear c14b2
                      try clear c15
                      try clear c15b0
                      try clear c15b1
                      try clear p2
                      obtain ⟨kq, x55_12, rfl, HA, HJ12, ⟨mc12, rfl⟩⟩ := hcut
                      cases kq with
                      | zero => exact absurd HA.out (by simp [laws_FnOperators.j4])
                      | succ kj12 =>
                        have H := HA.out
                        clear HA
                        simp only [laws_FnOperators.j4] at H
                        by_cases c16 : x55_12 = true
                        · subst c16
                          have H1 : (some false) = some r := by rw [if_pos rfl] at H; exact H
                          clear H
                          have H := H1
                          clear H1
                          obtain rfl := Option.some.inj H
                          go_wp2
                          go_ret
                          exact ⟨by first | rfl | (simp; done) | (simp [*]; done), by repeat (first | exact Drawn0.refl _ | apply Drawn0.step)⟩
                        · replace c16 := Bool.eq_false_iff.mpr c16
                          subst c16
                          have H1 : (if t109 = true then (if t108 = true then (some false) else (if a0 ≥ 37 then (if a0 < 11 then (some false) else ((impl_Operator.f 3).bind fun bt113 => (some bt113.1))) else (if a0 < 11 then (some false) else ((impl_Operator.f 3).bind fun bt119 => (some bt119.1))))) else (if a0 ≥ 37 then (some false) else (if a0 < 11 then (if t108 = true then (some false) else ((impl_Operator.f 3).bind fun bt125 => (some bt125.1))) else ((impl_Operator.f 3).bind fun bt131 => (some bt131.1))))) = some r := by rw [if_neg (show ¬ (false = true) by decide)] at H; exact H
                          clear H
                          have H := H1
                          clear H1
                          by_cases c17 : t109 = true
                          · subst c17
                            have H1 : (if t108 = true then (some false) else (if a0 ≥ 37 then (if a0 < 11 then (some false) else ((impl_Operator.f 3).bind fun bt113 => (some bt113.1))) else (if a0 < 11 then (some false) else ((impl_Operator.f 3).bind fun bt119 => (some bt119.1))))) = some r := by rw [if_pos rfl] at H; exact H
                            clear H
                            have H := H1
                            clear H1
                            by_cases c18 : t108 = true
                            · subst c18
                              have H1 : (some false) = some r := by rw [if_pos rfl] at H; exact H
                              clear H
                              have H := H1
                              clear H1
                              obtain rfl := Option.some.inj H
                              go_wp2
                              go_ret
                              exact ⟨by first | rfl | (simp; done) | (simp [*]; done), by repeat (first | exact Drawn0.refl _ | apply Drawn0.step)⟩
                            · replace c18 := Bool.eq_false_iff.mpr c18
                              subst c18
                              have H1 : (if a0 ≥ 37 then (if a0 < 11 then (some false) else ((impl_Operator.f 3).bind fun bt113 => (some bt113.1))) else (if a0 < 11 then (some false) else ((impl_Operator.f 3).bind fun bt119 => (some bt119.1)))) = some r := by rw [if_neg (show ¬ (false = true) by decide)] at H; exact H
                              clear H
                              have H := H1
                              clear H1
                              by_cases c19 : a0 ≥ 37
                              · rw [if_pos c19] at H
                                have c19b0 : decide (37 ≤ a0) = true := decide_eq_true c19
                                clear c19
                                by_cases c20 : a0 < 11
                                · rw [if_pos c20] at H
                                  have c20b0 : decide (a0 < 11) = true := decide_eq_true c20
                                  clear c20
                                  obtain rfl := Option.some.inj H
                                  go_wp2
                                  go_ret
                                  exact ⟨by first | rfl | (simp; done) | (simp [*]; done), by repeat (first | exact Drawn0.refl _ | apply Drawn0.step)⟩
                                · rw [if_neg c20] at H
                                  have c20b0 : decide (a0 < 11) = false := decide_eq_false c20
                                  clear c20
                                  replace H := Option.bind_eq_some_iff.mp H
                                  obtain ⟨⟨t113, t114, t115, t116, t117, t118⟩, A210, H⟩ := H
                                  replace H : (some t113) = some r := H
                                  have A21 := Aside0.mk A210
                                  clear A210
                                  obtain rfl := Option.some.inj H
                                  go_wp2_with (first | ((with_reducible refine gate_callee (f := 25) rfl ?_); refine goesL_ (some 79) rfl rfl Try.func25 (by kernel_rfl) rfl #[.int .i64 3] rfl (by (try simp only [List.map_toArray, List.map_cons, List.map_nil]); first | done | rfl | (simp only [List.length_drop, List.length_take]; rfl)) ?_; (with_reducible refine (impl_Operator.calls 3 t113 t114 t115 t116 t117 t118 _ A21.out).mono ?_); rintro e w' ⟨rfl, ⟨nd, rfl⟩⟩; refine ⟨_, rfl, ?_⟩))
                                  go_ret
                                  exact ⟨by first | rfl | (simp; done) | (simp [*]; done), by repeat (first | exact Drawn0.refl _ | apply Drawn0.step)⟩
                              · rw [if_neg c19] at H
                                have c19b0 : decide (37 ≤ a0) = false := decide_eq_false c19
                                clear c19
                                by_cases c22 : a0 < 11
                                · rw [if_pos c22] at H
                                  have c22b0 : decide (a0 < 11) = true := decide_eq_true c22
                                  clear c22
                                  obtain rfl := Option.some.inj H
                                  go_wp2
                                  go_ret
                                  exact ⟨by first | rfl | (simp; done) | (simp [*]; done), by repeat (first | exact Drawn0.refl _ | apply Drawn0.step)⟩
                                · rw [if_neg c22] at H
                                  have c22b0 : decide (a0 < 11) = false := decide_eq_false c22
                                  clear c22
                                  replace H := Option.bind_eq_some_iff.mp H
                                  obtain ⟨⟨t119, t120, t121, t122, t123, t124⟩, A230, H⟩ := H
                                  replace H : (some t119) = some r := H
                                  have A23 := Aside0.mk A230
                                  clear A230
                                  obtain rfl := Option.some.inj H
                                  go_wp2_with (first | ((with_reducible refine gate_callee (f := 25) rfl ?_); refine goesL_ (some 79) rfl rfl Try.func25 (by kernel_rfl) rfl #[.int .i64 3] rfl (by (try simp only [List.map_toArray, List.map_cons, List.map_nil]); first | done | rfl | (simp only [List.length_drop, List.length_take]; rfl)) ?_; (with_reducible refine (impl_Operator.calls 3 t119 t120 t121 t122 t123 t124 _ A23.out).mono ?_); rintro e w' ⟨rfl, ⟨nd, rfl⟩⟩; refine ⟨_, rfl, ?_⟩))
                                  go_ret
                                  exact ⟨by first | rfl | (simp; done) | (simp [*]; done), by repeat (first | exact Drawn0.refl _ | apply Drawn0.step)⟩
                          · replace c17 := Bool.eq_false_iff.mpr c17
                            subst c17
                            have H1 : (if a0 ≥ 37 then (some false) else (if a0 < 11 then (if t108 = true then (some false) else ((impl_Operator.f 3).bind fun bt125 => (some bt125.1))) else ((impl_Operator.f 3).bind fun bt131 => (some bt131.1)))) = some r := by rw [if_neg (show ¬ (false = true) by decide)] at H; exact H
                            clear H
                            have H := H1
                            clear H1
                            by_cases c24 : a0 ≥ 37
                            · rw [if_pos c24] at H
                              have c24b0 : decide (37 ≤ a0) = true := decide_eq_true c24
                              clear c24
                              obtain rfl := Option.some.inj H
                              go_wp2
                              go_ret
                              exact ⟨by first | rfl | (simp; done) | (simp [*]; done), by repeat (first | exact Drawn0.refl _ | apply Drawn0.step)⟩
                            · rw [if_neg c24] at H
                              have c24b0 : decide (37 ≤ a0) = false := decide_eq_false c24
                              clear c24
                              by_cases c25 : a0 < 11
                              · rw [if_pos c25] at H
                                have c25b0 : decide (a0 < 11) = true := decide_eq_true c25
                                clear c25
                                by_cases c26 : t108 = true
                                · subst c26
                                  have H1 : (some false) = some r := by rw [if_pos rfl] at H; exact H
                                  clear H
                                  have H := H1
                                  clear H1
                                  obtain rfl := Option.some.inj H
                                  go_wp2
                                  go_ret
                                  exact ⟨by first | rfl | (simp; done) | (simp [*]; done), by repeat (first | exact Drawn0.refl _ | apply Drawn0.step)⟩
                                · replace c26 := Bool.eq_false_iff.mpr c26
                                  subst c26
                                  have H1 : ((impl_Operator.f 3).bind fun bt125 => (some bt125.1)) = some r := by rw [if_neg (show ¬ (false = true) by decide)] at H; exact H
                                  clear H
                                  have H := H1
                                  clear H1
                                  replace H := Option.bind_eq_some_iff.mp H
                                  obtain ⟨⟨t125, t126, t127, t128, t129, t130⟩, A270, H⟩ := H
                                  replace H : (some t125) = some r := H
                                  have A27 := Aside0.mk A270
                                  clear A270
                                  obtain rfl := Option.some.inj H
                                  go_wp2_with (first | ((with_reducible refine gate_callee (f := 25) rfl ?_); refine goesL_ (some 79) rfl rfl Try.func25 (by kernel_rfl) rfl #[.int .i64 3] rfl (by (try simp only [List.map_toArray, List.map_cons, List.map_nil]); first | done | rfl | (simp only [List.length_drop, List.length_take]; rfl)) ?_; (with_reducible refine (impl_Operator.calls 3 t125 t126 t127 t128 t129 t130 _ A27.out).mono ?_); rintro e w' ⟨rfl, ⟨nd, rfl⟩⟩; refine ⟨_, rfl, ?_⟩))
                                  go_ret
                                  exact ⟨by first | rfl | (simp; done) | (simp [*]; done), by repeat (first | exact Drawn0.refl _ | apply Drawn0.step)⟩
                              · rw [if_neg c25] at H
                                have c25b0 : decide (a0 < 11) = false := decide_eq_false c25
                                clear c25
                                replace H := Option.bind_eq_some_iff.mp H
                                obtain ⟨⟨t131, t132, t133, t134, t135, t136⟩, A280, H⟩ := H
                                replace H : (some t131) = some r := H
                                have A28 := Aside0.mk A280
                                clear A280
                                obtain rfl := Option.some.inj H
                                go_wp2_with (first | ((with_reducible refine gate_callee (f := 25) rfl ?_); refine goesL_ (some 79) rfl rfl Try.func25 (by kernel_rfl) rfl #[.int .i64 3] rfl (by (try simp only [List.map_toArray, List.map_cons, List.map_nil]); first | done | rfl | (simp only [List.length_drop, List.length_take]; rfl)) ?_; (with_reducible refine (impl_Operator.calls 3 t131 t132 t133 t134 t135 t136 _ A28.out).mono ?_); rintro e w' ⟨rfl, ⟨nd, rfl⟩⟩; refine ⟨_, rfl, ?_⟩))
                                go_ret
                                exact ⟨by first | rfl | (simp; done) | (simp [*]; done), by repeat (first | exact Drawn0.refl _ | apply Drawn0.step)⟩

/-- THE ONE PURE STATEMENT of laws_FnOperators: yours. -/
def laws_FnOperators.Pure : Prop := ∀ (a0 : Int), (Lit.int .i64 a0).wf = true → ∃ k, laws_FnOperators.f k a0 = some true
theorem laws_FnOperators.walk (P : laws_FnOperators.Pure) (a0 : Int) (w : World) (w0 : (Lit.int .i64 a0).wf = true) :
    Calls Try.prog 8 #[.int .i64 a0] w fun e w' => e = .returned (.bool true) ∧ Below w.heap.size w w' := by
  obtain ⟨k, h⟩ := P a0 w0
  refine (laws_FnOperators.calls k a0 true w h).mono ?_
  rintro e w' ⟨rfl, hd⟩
  exact ⟨rfl, hd.below⟩

end Go.Proofs.YtkdinhbfidckdaaR.PFnOperators
