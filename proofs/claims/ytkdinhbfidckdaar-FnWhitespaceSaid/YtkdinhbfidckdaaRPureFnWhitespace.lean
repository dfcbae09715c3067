/- The package's white space is the reference's (table 33 of ECMA-262), at every code point. No condition. -/
import Derived.Test.YtkdinhbfidckdaaRPFnWhitespacex1
namespace Go.Proofs.YtkdinhbfidckdaaR.Pure
open Go.RowKit Go.Proofs.YtkdinhbfidckdaaR.PFnWhitespace Go.Proofs.YtkdinhbfidckdaaRW.PrintWords Go.Proofs.YtkdinhbfidckdaaRW.PrintLast

def blank (n : Int) : Bool := decide (n = 9 ∨ n = 11 ∨ n = 12 ∨ n = 32 ∨ n = 160 ∨ n = 5760 ∨ (8192 ≤ n ∧ n ≤ 8202) ∨ n = 8239 ∨ n = 8287 ∨ n = 12288 ∨ n = 65279)

theorem some_ite (c : Prop) [Decidable c] (b : Bool) (h : c → b = true) (x : Option Bool) (hx : ¬ c → x = some b) : (if c then some true else x) = some b := by
  by_cases e : c
  · rw [if_pos e, h e]
  · rw [if_neg e, hx e]

theorem impl_blank (n : Int) : impl_IsWhitespace.f n = some (blank n) := by
  have : js_ast_IsWhitespace.f n = some (blank n) := by
    unfold js_ast_IsWhitespace.f
    iterate 21 (refine some_ite _ _ (fun e => by subst e; decide) _ (fun _ => ?_))
    have : blank n = false := by unfold blank; simp only [decide_eq_false_iff_not]; omega
    rw [this]
  unfold impl_IsWhitespace.f
  rw [this]; rfl

theorem spec_blank (n : Int) : spec_Blank.f n = some (blank n) := by
  unfold spec_Blank.f
  iterate 10 (refine some_ite _ _ (fun e => by subst e; decide) _ (fun _ => ?_))
  have : spec_between.f 8192 n 8202 = some (blank n) := by
    unfold spec_between.f
    by_cases h : 8192 ≤ n
    · rw [if_pos h]
      congr 1
      unfold blank
      rw [decide_eq_decide]
      omega
    · rw [if_neg h]
      have : blank n = false := by unfold blank; simp only [decide_eq_false_iff_not]; omega
      rw [this]
  rw [this]; rfl

theorem FnWhitespace : laws_FnWhitespace.Pure := by
  intro n hn
  have hb : -2147483648 ≤ n ∧ n ≤ 2147483647 := by simpa [Lit.wf, IntKind.min, IntKind.max, IntKind.bits, IntKind.signed] using hn
  refine ⟨1, ?_⟩
  have hw : wrap64 n = n := by unfold wrap64; omega
  have h0 : impl_IsWhitespace.f 12288 = some true := impl_blank _
  unfold laws_FnWhitespace.f
  rw [h0]
  simp only [Option.bind_some, laws_FnWhitespace.j0, hw, impl_blank, spec_blank]
  by_cases h : n < 0
  · simp [h]
  · by_cases h2 : n > 1114111 <;> simp [h, h2]

end Go.Proofs.YtkdinhbfidckdaaR.Pure
