/- NumOfText, NumSame and the law FnNumberBack, walked. -/
import Derived.Test.YtheichpmhfledaaDoorExtTold
set_option linter.unusedVariables false
set_option linter.unusedSimpArgs false
namespace Go.Proofs.YtheichpmhfledaaDoor
open Go Go.RowKit Go.Proofs.YtheichpmhfledaaDoorW.PrintWords Go.Proofs.YtheichpmhfledaaDoorW.PrintLast Go.Proofs.YtheichpmhfledaaDoor.PFnNumberBack
set_option maxHeartbeats 4000000 in
set_option maxRecDepth 100000 in
theorem NumSame.nan (x y : Nat) (w : World) (h1 : ∀ w, Calls Tryd.prog 17 #[.float .f64 x] w fun e w' => e = .returned (.bool true) ∧ w' = w) (h2 : ∀ w, Calls Tryd.prog 17 #[.float .f64 y] w fun e w' => e = .returned (.bool true) ∧ w' = w) :
    Calls Tryd.prog 8 #[.float .f64 x, .float .f64 y] w fun e w' => e = .returned (.bool true) ∧ w' = w := by
  have H1 := Lib.hid h1
  have H2 := Lib.hid h2
  clear h1 h2
  go_enter Tryd.func8, Tryd.ntmps8
  go_wp2_with (first | (go_at_call 17; first | ((with_reducible refine (H1.out _).mono ?_); rintro e w9 ⟨rfl, rfl⟩) | ((with_reducible refine (H2.out _).mono ?_); rintro e w9 ⟨rfl, rfl⟩)))
  go_ret
  exact ⟨rfl, rfl⟩
set_option maxHeartbeats 4000000 in
set_option maxRecDepth 100000 in
theorem NumSame.bits (x y : Nat) (b : Bool) (w : World) (h1 : ∀ w, Calls Tryd.prog 17 #[.float .f64 x] w fun e w' => e = .returned (.bool false) ∧ w' = w) (hb : ((x : Int) == (y : Int)) = b) :
    Calls Tryd.prog 8 #[.float .f64 x, .float .f64 y] w fun e w' => e = .returned (.bool b) ∧ w' = w := by
  have H1 := Lib.hid h1
  have b1 := bits_run x
  have b2 := bits_run y
  clear h1
  go_enter Tryd.func8, Tryd.ntmps8
  go_wp2_with (first | (go_at_call 17; ((with_reducible refine (H1.out _).mono ?_); rintro e w9 ⟨rfl, rfl⟩)))
  go_ret
  exact ⟨rfl, rfl⟩
theorem NumSame.calls (s : Bool) (r x : Nat) (hr : r < 9223372036854775808) (h : Good s r x) : ∃ b, (b = true ∨ (r = 0 ∧ x = 0)) ∧ ∀ w, Calls Tryd.prog 8 #[.float .f64 (wd s r), .float .f64 x] w fun e w' => e = .returned (.bool b) ∧ w' = w := by
  have n1 : ∀ w, Calls Tryd.prog 17 #[.float .f64 (wd s r)] w fun e w' => e = .returned (.bool (decide (9218868437227405312 < r))) ∧ w' = w := fun w => IsNaN.calls s r w hr
  rcases h with ⟨h1, rfl⟩ | rfl | ⟨h1, rfl⟩
  · rw [decide_eq_true h1] at n1
    exact ⟨true, Or.inl rfl, fun w => NumSame.nan _ _ w n1 fun w => IsNaN.calls false 9221120237041090561 w (by decide)⟩
  · by_cases hf : 9218868437227405312 < r
    · rw [decide_eq_true hf] at n1
      exact ⟨true, Or.inl rfl, fun w => NumSame.nan _ _ w n1 n1⟩
    · rw [decide_eq_false hf] at n1
      exact ⟨true, Or.inl rfl, fun w => NumSame.bits _ _ true w n1 (beq_self_eq_true _)⟩
  · subst h1
    exact ⟨_, Or.inr ⟨rfl, rfl⟩, fun w => NumSame.bits _ _ _ w n1 rfl⟩
set_option maxHeartbeats 4000000 in
set_option maxRecDepth 100000 in
theorem NumOf.calls (l : List UInt8) (x : Nat) (A0 : Option Addr) (c0 : Nat) (w : World) (hr0 : Kd.C (Kd.int .u16) w A0 (nums' l).length (nums' l)) (hc0 : (nums' l).length ≤ c0) (hv : Vis l) (hl : l.length ≤ 100)
    (hs : ∀ w, Calls Tryd.prog 15 #[.string (tx (wide l))] w fun e w' => e = .returned (.tuple #[.float .f64 x, .bool true]) ∧ Below w.heap.size w w') :
    Calls Tryd.prog 7 #[.slice A0 (nums' l).length c0] w fun e w' => e = .returned (.tuple #[.float .f64 x, .bool false]) ∧ Below w.heap.size w w' := by
  obtain ⟨k, hk⟩ := (narrow_tell l hv.asc (by omega)).rounds
  have HN := Lib.hid (spec_WtfNarrow.calls k A0 c0 (nums' l) _ w hr0 hc0 hk)
  have HS := Lib.hid hs
  clear hs hk hr0 hc0 hv hl
  generalize nums' l = ns at *
  generalize tx (wide l) = t at *
  go_enter Tryd.func7, Tryd.ntmps7
  go_wp2_with (first | (go_at_call 16; (with_reducible refine HN.out.mono ?_); rintro e w9 ⟨rfl, hb⟩; have HB := Lib.hid hb; clear hb) | (go_at_call 15; (with_reducible refine (HS.out _).mono ?_); rintro e w9 ⟨rfl, hb⟩; replace HB := Lib.hid (HB.out.trans (hb.mono HB.out.size)); clear hb))
  exact bodyPost_ret (results_tmp2 rfl _ _ _) rfl ⟨rfl, HB.out⟩
/-- WtfUnits and NumOfText, one behind the other. -/
theorem Units.calls (l : List UInt8) (hv : Vis l) (hl : l.length ≤ 100) (w : World) : Calls Tryd.prog 6 #[.string (tx l)] w fun e w' => ∃ A c, e = .returned (.tuple #[.slice A (nums' l).length c, .bool true]) ∧ Kd.C (Kd.int .u16) w' A (nums' l).length (nums' l) ∧ (nums' l).length ≤ c ∧ Below w.heap.size w w' := by
  obtain ⟨k, hk⟩ := (units_tell l hv.asc (by omega)).rounds
  refine (spec_WtfUnits.calls k (tx l) _ _ w hk).mono fun e w' ⟨v, he, hR, hb⟩ => ?_
  obtain ⟨A, c, rfl⟩ := Kd.R_slice hR
  exact ⟨A, c, he, (Kd.R_reads' hR).2.2, (Kd.R_reads' hR).2.1, hb⟩
theorem ord_zero (s : Bool) : (FloatKind.f64.format.order (wd s 0) 0 == some .eq) = true := by cases s <;> decide +kernel
set_option maxHeartbeats 4000000 in
set_option maxRecDepth 100000 in
theorem Law.calls (s : Bool) (r : Nat) (w : World) (hr : r < 9223372036854775808) (htab : Tab w) : Calls Tryd.prog 3 #[.float .f64 (wd s r)] w fun e w' => e = .returned (.bool true) ∧ Below w.heap.size w w' := by
  have H3 := Lib.hid (Three.calls w)
  have HT := Lib.hid (ToStr.calls s r w hr htab)
  have HR := Lib.hid hr
  clear hr htab
  generalize hx : wd s r = x at *
  have HXE := Lib.hid hx
  clear hx
  go_enter Tryd.func3, Tryd.ntmps3
  go_upto_region 3 with (first | (go_at_call 5; first | ((with_reducible refine H3.out.mono ?_); rintro e w9 ⟨rfl, rfl⟩) | ((with_reducible refine HT.out.mono ?_); rintro e w2 ⟨⟨t, b, rfl, ht⟩, hb⟩; have HB := Lib.hid hb; have HTold := Lib.hid ht; clear hb ht)))
  rcases HTold.out with ⟨rfl, htold⟩ | rfl
  · obtain ⟨y, hg, l, rfl, hv, hl, hs⟩ := told_reads s r t htold
    obtain ⟨b, hb, hsame⟩ := NumSame.calls s r y HR.out hg
    have HU := Lib.hid (Units.calls l hv hl)
    have HN := Lib.hid (NumOf.calls l y)
    have HV := Lib.hid hv
    have HL := Lib.hid hl
    have HS := Lib.hid hs
    have HE := Lib.hid hsame
    clear htold hg hv hl hs hsame HTold
    rcases hb with rfl | ⟨h0, h1⟩
    · rw [HXE.out] at HE
      go_wp2_with (first | (go_at_call 6; (with_reducible refine (HU.out _).mono ?_); rintro e w3 ⟨A, c, rfl, hC, hc, hb⟩; have HC := Lib.hid hC; have HC2 := Lib.hid hc; replace HB := Lib.hid (HB.out.trans (hb.mono HB.out.size)); clear hb hC hc) | (go_at_call 7; (with_reducible refine (HN.out _ _ _ HC.out HC2.out HV.out HL.out HS.out).mono ?_); rintro e w3 ⟨rfl, hb⟩; replace HB := Lib.hid (HB.out.trans (hb.mono HB.out.size)); clear hb) | (go_at_call 8; (with_reducible refine (HE.out _).mono ?_); rintro e w3 ⟨rfl, rfl⟩))
      go_ret
      exact ⟨rfl, HB.out⟩
    · subst h0 h1
      have o1 := ord_zero s
      have o2 : (FloatKind.f64.format.order 0 0 == some .eq) = true := ord_zero false
      rw [HXE.out] at HE o1
      go_wp2_with (first | (go_at_call 6; (with_reducible refine (HU.out _).mono ?_); rintro e w3 ⟨A, c, rfl, hC, hc, hb⟩; have HC := Lib.hid hC; have HC2 := Lib.hid hc; replace HB := Lib.hid (HB.out.trans (hb.mono HB.out.size)); clear hb hC hc) | (go_at_call 7; (with_reducible refine (HN.out _ _ _ HC.out HC2.out HV.out HL.out HS.out).mono ?_); rintro e w3 ⟨rfl, hb⟩; replace HB := Lib.hid (HB.out.trans (hb.mono HB.out.size)); clear hb) | (go_at_call 8; (with_reducible refine (HE.out _).mono ?_); rintro e w3 ⟨rfl, rfl⟩))
      all_goals
        go_ret
        exact ⟨by simp, HB.out⟩
  · clear HTold
    go_wp2
    go_ret
    exact ⟨rfl, HB.out⟩
end Go.Proofs.YtheichpmhfledaaDoor
