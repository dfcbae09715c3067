-- Written by printx.py of this session, over the kit's print, with contracts of this session for some functions
import Derived.Test.YtccabfpojnpheaaRRDoorPwithinx0
namespace Go.Proofs.YtccabfpojnpheaaRRDoor.Pwithin
open Go.RowKit Go.Proofs.YtccabfpojnpheaaRRDoorW.PrintWords Go.Proofs.YtccabfpojnpheaaRRDoorW.PrintLast Go.Proofs.YtccabfpojnpheaaRRDoorW.PrintMore
attribute [local go_sem] max2_int min2_int max_two min_two max_three min_three max_four min_four   -- for this text's walks alone
set_option linter.unusedVariables false
set_option linter.unusedSimpArgs false

/-! ### impl_within: function 30 -/
def impl_within.f (a0 : ByteArray) (a1 : Int) (a2 : Int) : Option (Bool) := if a1 ≥ 0 then (if a1 ≤ (a0.size : Int) then (if a2 ≥ 0 then (some (decide (a2 ≤ (wrap64 ((a0.size : Int) - a1))))) else (some false)) else (some false)) else (some false)
set_option maxHeartbeats 8000000 in
set_option maxRecDepth 100000 in
theorem impl_within.calls (a0 : ByteArray) (a1 : Int) (a2 : Int) (r : Bool) (w : World) (h : impl_within.f a0 a1 a2 = some r) :
    Calls Tryd.prog 30 #[.string a0, .int .i64 a1, .int .i64 a2] w fun e w' => e = .returned (.bool r) ∧ Drawn0 w w' := by
  have H : (if a1 ≥ 0 then (if a1 ≤ (a0.size : Int) then (if a2 ≥ 0 then (some (decide (a2 ≤ (wrap64 ((a0.size : Int) - a1))))) else (some false)) else (some false)) else (some false)) = some r := h
  clear h
  by_cases c4 : a1 ≥ 0
  · rw [if_pos c4] at H
    have c4b0 : decide (0 ≤ a1) = true := decide_eq_true c4
    clear c4
    by_cases c5 : a1 ≤ (a0.size : Int)
    · rw [if_pos c5] at H
      have c5b0 : decide (a1 ≤ (a0.size : Int)) = true := decide_eq_true c5
      clear c5
      by_cases c6 : a2 ≥ 0
      · rw [if_pos c6] at H
        have c6b0 : decide (0 ≤ a2) = true := decide_eq_true c6
        clear c6
        obtain rfl := Option.some.inj H
        go_enter Tryd.func30, Tryd.ntmps30
        go_wp2
        go_ret
        exact ⟨by first | rfl | (simp; done) | (simp [*]; done), by repeat (first | exact Drawn0.refl _ | apply Drawn0.step)⟩
      · rw [if_neg c6] at H
        have c6b0 : decide (0 ≤ a2) = false := decide_eq_false c6
        clear c6
        obtain rfl := Option.some.inj H
        go_enter Tryd.func30, Tryd.ntmps30
        go_wp2
        go_ret
        exact ⟨by first | rfl | (simp; done) | (simp [*]; done), by repeat (first | exact Drawn0.refl _ | apply Drawn0.step)⟩
    · rw [if_neg c5] at H
      have c5b0 : decide (a1 ≤ (a0.size : Int)) = false := decide_eq_false c5
      clear c5
      obtain rfl := Option.some.inj H
      go_enter Tryd.func30, Tryd.ntmps30
      go_wp2
      go_ret
      exact ⟨by first | rfl | (simp; done) | (simp [*]; done), by repeat (first | exact Drawn0.refl _ | apply Drawn0.step)⟩
  · rw [if_neg c4] at H
    have c4b0 : decide (0 ≤ a1) = false := decide_eq_false c4
    clear c4
    obtain rfl := Option.some.inj H
    go_enter Tryd.func30, Tryd.ntmps30
    go_wp2
    go_ret
    exact ⟨by first | rfl | (simp; done) | (simp [*]; done), by repeat (first | exact Drawn0.refl _ | apply Drawn0.step)⟩

/-- THE ONE PURE STATEMENT of impl_within: yours. -/
def impl_within.Pure : Prop := ∀ (a0 : ByteArray) (a1 : Int) (a2 : Int), a0.size ≤ 140737488351232 → (Lit.int .i64 a1).wf = true → (Lit.int .i64 a2).wf = true → impl_within.f a0 a1 a2 = some true
theorem impl_within.walk (P : impl_within.Pure) (a0 : ByteArray) (a1 : Int) (a2 : Int) (w : World) (w0 : a0.size ≤ 140737488351232) (w1 : (Lit.int .i64 a1).wf = true) (w2 : (Lit.int .i64 a2).wf = true) :
    Calls Tryd.prog 30 #[.string a0, .int .i64 a1, .int .i64 a2] w fun e w' => e = .returned (.bool true) ∧ Below w.heap.size w w' := by
  have h := P a0 a1 a2 w0 w1 w2
  refine (impl_within.calls a0 a1 a2 true w h).mono ?_
  rintro e w' ⟨rfl, hd⟩
  exact ⟨rfl, hd.below⟩

end Go.Proofs.YtccabfpojnpheaaRRDoor.Pwithin
