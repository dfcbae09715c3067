/- The operators are prefixes, associate, are short circuits and assign as their groups say; every operator. No condition. -/
import Derived.Test.YtkdinhbfidckdaaRPFnOperatorsx1
namespace Go.Proofs.YtkdinhbfidckdaaR.Pure
open Go.RowKit Go.Proofs.YtkdinhbfidckdaaR.PFnOperators Go.Proofs.YtkdinhbfidckdaaRW.PrintWords Go.Proofs.YtkdinhbfidckdaaRW.PrintLast

theorem in_range : ∀ m : Fin 53, laws_FnOperators.f 7 (m.val : Int) = some true := by decide +kernel

theorem FnOperators : laws_FnOperators.Pure := by
  intro n _
  refine ⟨7, ?_⟩
  by_cases h : n < 0
  · simp only [laws_FnOperators.f, if_pos h, laws_FnOperators.j0, if_true]
  · by_cases h2 : n ≥ 53
    · simp only [laws_FnOperators.f, if_neg h, laws_FnOperators.j0, h2, decide_true, if_true]
    · have := in_range ⟨n.toNat, by omega⟩
      have e : ((n.toNat : Nat) : Int) = n := by omega
      simpa only [e] using this

end Go.Proofs.YtkdinhbfidckdaaR.Pure
