/- A place comes before another one in the package just if it does in the reference: its line is smaller, or its line is the same and its column smaller. No condition. -/
import Derived.Test.YtkdinhbfidckdaaRPFnBeforex1
namespace Go.Proofs.YtkdinhbfidckdaaR.Pure
open Go.RowKit Go.Proofs.YtkdinhbfidckdaaR.PFnBefore Go.Proofs.YtkdinhbfidckdaaRW.PrintWords Go.Proofs.YtkdinhbfidckdaaRW.PrintLast

theorem comes_before (a b c d : Int) : sourcemap_LineColumnOffset_ComesBefore.f a b c d = some (decide (a < c) || (decide (a = c) && decide (b < d))) := by
  unfold sourcemap_LineColumnOffset_ComesBefore.f
  by_cases h : a < c
  · simp [h]
  · by_cases e : a = c <;> simp [h, e]

theorem before_spec (a b c d : Int) : spec_Before.f a b c d = some (decide (a < c) || (decide (a = c) && decide (b < d))) := by
  unfold spec_Before.f
  by_cases h : a < c
  · simp [h]
  · by_cases e : a = c <;> simp [h, e]

theorem FnBefore : laws_FnBefore.Pure := by
  intro a b c d _ _ _ _
  unfold laws_FnBefore.f impl_ComesBefore.f
  simp only [comes_before, before_spec, Option.bind_some]
  simp

end Go.Proofs.YtkdinhbfidckdaaR.Pure
