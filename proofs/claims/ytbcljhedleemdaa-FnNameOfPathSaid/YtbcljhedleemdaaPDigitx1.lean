-- Written by printx.py of this session, over the kit's print, with contracts of this session for some functions
import Derived.Test.YtbcljhedleemdaaPDigitx0
namespace Go.Proofs.Ytbcljhedleemdaa.PDigit
open Go.RowKit Go.Proofs.YtbcljhedleemdaaW.PrintWords Go.Proofs.YtbcljhedleemdaaW.PrintLast Go.Proofs.YtbcljhedleemdaaW.PrintMore
attribute [local go_sem] max2_int min2_int max_two min_two max_three min_three max_four min_four   -- for this text's walks alone
set_option linter.unusedVariables false
set_option linter.unusedSimpArgs false

/-! ### spec_between: function 35 -/
def spec_between.f (a0 : Int) (a1 : Int) (a2 : Int) : Option (Bool) := if a0 ≤ a1 then (some (decide (a1 ≤ a2))) else (some false)
set_option maxHeartbeats 8000000 in
set_option maxRecDepth 100000 in
theorem spec_between.calls (a0 : Int) (a1 : Int) (a2 : Int) (r : Bool) (w : World) (h : spec_between.f a0 a1 a2 = some r) :
    Calls Try.prog 35 #[.int .i64 a0, .int .i64 a1, .int .i64 a2] w fun e w' => e = .returned (.bool r) ∧ Drawn0 w w' := by
  have H : (if a0 ≤ a1 then (some (decide (a1 ≤ a2))) else (some false)) = some r := h
  clear h
  by_cases c4 : a0 ≤ a1
  · rw [if_pos c4] at H
    have c4b0 : decide (a0 ≤ a1) = true := decide_eq_true c4
    clear c4
    obtain rfl := Option.some.inj H
    go_enter Try.func35, Try.ntmps35
    go_wp2
    go_ret
    exact ⟨by first | rfl | (simp; done) | (simp [*]; done), by repeat (first | exact Drawn0.refl _ | apply Drawn0.step)⟩
  · rw [if_neg c4] at H
    have c4b0 : decide (a0 ≤ a1) = false := decide_eq_false c4
    clear c4
    obtain rfl := Option.some.inj H
    go_enter Try.func35, Try.ntmps35
    go_wp2
    go_ret
    exact ⟨by first | rfl | (simp; done) | (simp [*]; done), by repeat (first | exact Drawn0.refl _ | apply Drawn0.step)⟩

/-! ### spec_Digit: function 26 -/
def spec_Digit.f (a0 : Int) : Option (Bool) := (spec_between.f 48 a0 57).bind fun t101 => (some t101)
set_option maxHeartbeats 8000000 in
set_option maxRecDepth 100000 in
theorem spec_Digit.calls (a0 : Int) (r : Bool) (w : World) (h : spec_Digit.f a0 = some r) :
    Calls Try.prog 26 #[.int .i64 a0] w fun e w' => e = .returned (.bool r) ∧ Drawn0 w w' := by
  have H : ((spec_between.f 48 a0 57).bind fun t101 => (some t101)) = some r := h
  clear h
  replace H := Option.bind_eq_some_iff.mp H
  obtain ⟨t101, A20, H⟩ := H
  replace H : (some t101) = some r := H
  have A2 := Aside0.mk A20
  clear A20
  obtain rfl := Option.some.inj H
  go_enter Try.func26, Try.ntmps26
  go_wp2_with (first | ((with_reducible refine gate_callee (f := 35) rfl ?_); refine goesL_ (some 4) rfl rfl Try.func35 (by kernel_rfl) rfl #[.int .i64 48, .int .i64 a0, .int .i64 57] rfl (by (try simp only [List.map_toArray, List.map_cons, List.map_nil]); first | done | rfl | (simp only [List.length_drop, List.length_take]; rfl)) ?_; (with_reducible refine (spec_between.calls 48 a0 57 t101 _ A2.out).mono ?_); rintro e w' ⟨rfl, ⟨nd, rfl⟩⟩; refine ⟨_, rfl, ?_⟩))
  go_ret
  exact ⟨by first | rfl | (simp; done) | (simp [*]; done), by repeat (first | exact Drawn0.refl _ | apply Drawn0.step)⟩

/-- THE ONE PURE STATEMENT of spec_Digit: yours. -/
def spec_Digit.Pure : Prop := ∀ (a0 : Int), (Lit.int .i64 a0).wf = true → spec_Digit.f a0 = some true
theorem spec_Digit.walk (P : spec_Digit.Pure) (a0 : Int) (w : World) (w0 : (Lit.int .i64 a0).wf = true) :
    Calls Try.prog 26 #[.int .i64 a0] w fun e w' => e = .returned (.bool true) ∧ Below w.heap.size w w' := by
  have h := P a0 w0
  refine (spec_Digit.calls a0 true w h).mono ?_
  rintro e w' ⟨rfl, hd⟩
  exact ⟨rfl, hd.below⟩

end Go.Proofs.Ytbcljhedleemdaa.PDigit
