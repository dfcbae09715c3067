-- Written by printx.py of this session, over the kit's print, with contracts of this session for some functions
import Derived.Test.YtmgepjnaalnckaaPFnQuoteSinglex0
import Derived.Test.YtmgepjnaalnckaaPFnQuoteSinglex1
import Derived.Test.YtmgepjnaalnckaaPFnQuoteSinglex2
import Derived.Test.YtmgepjnaalnckaaExtQuote
import Derived.Test.YtmgepjnaalnckaaExtNext
import Derived.Test.YtmgepjnaalnckaaExtRune
namespace Go.Proofs.Ytmgepjnaalnckaa.PFnQuoteSingle
noncomputable section
open Go.RowKit Go.Proofs.YtmgepjnaalnckaaW.PrintWords Go.Proofs.YtmgepjnaalnckaaW.PrintLast Go.Proofs.YtmgepjnaalnckaaW.PrintMore
attribute [local go_sem] max2_int min2_int max_two min_two max_three min_three max_four min_four   -- for this text's walks alone
set_option linter.unusedVariables false
set_option linter.unusedSimpArgs false

/-! ### laws_FnQuoteSingle: function 3 -/
def laws_FnQuoteSingle.j0 : Nat → ByteArray → Bool → Bool → List Int → Bool → Option (Bool)
  | 0, _, _, _, _, _ => none
  | k + 1, x0, x1, x5, x6, x32 => if x32 = true then (some x5) else ((impl_QuoteSingle.f k x0 x1).bind fun t153 => ((spec_JsString.f k t153).bind fun bt154 => (if bt154.2 = true then (if 0 < (t153.size : Int) then (if (bt t153 0) = 39 then ((spec_WtfEqual.f k bt154.1 x6).bind fun t158 => (if t158 = true then (if x1 = true then ((spec_TextAscii.f k t153).bind fun t159 => (if t159 = true then (some x5) else (some false))) else (some x5)) else (some false))) else (some false)) else (none)) else (some false))))
def laws_FnQuoteSingle.f (k : Nat) (a0 : ByteArray) (a1 : Bool) : Option (Bool) := if (a0.size : Int) > 2147483647 then (some true) else ((impl_QuoteSingle.f k (⟨#[97]⟩ : ByteArray) true).bind fun t146 => ((spec_WtfUnits.f k a0).bind fun bt147 => (if bt147.2 = true then ((spec_WellFormed.f k a0).bind fun t151 => (if t151 = true then ((spec_TextFinds.f k a0 (⟨#[39]⟩ : ByteArray)).bind fun t152 => (laws_FnQuoteSingle.j0 k a0 a1 (t146.toList == ([39, 97, 39] : List UInt8)) bt147.1 (decide (t152 ≥ 0)))) else (laws_FnQuoteSingle.j0 k a0 a1 (t146.toList == ([39, 97, 39] : List UInt8)) bt147.1 true))) else (laws_FnQuoteSingle.j0 k a0 a1 (t146.toList == ([39, 97, 39] : List UInt8)) bt147.1 true))))
theorem laws_FnQuoteSingle.mono_l : ∀ k, (∀ y0 y1 y2 y3 y4, LeO (laws_FnQuoteSingle.j0 k y0 y1 y2 y3 y4) (laws_FnQuoteSingle.j0 (k + 1) y0 y1 y2 y3 y4))
  | 0 => fun _ _ _ _ _ r h => by simp [laws_FnQuoteSingle.j0] at h
  | k + 1 => by
    have ih0 := laws_FnQuoteSingle.mono_l k
    · intro y0 y1 y2 y3 y4
      unfold laws_FnQuoteSingle.j0
      repeat' first
      | (with_reducible exact ih0 _ _ _ _ _)
      | (with_reducible exact impl_QuoteSingle.mono _ _ _)
      | (with_reducible exact spec_JsString.mono _ _)
      | (with_reducible exact spec_TextAscii.mono _ _)
      | (with_reducible exact spec_TextFinds.mono _ _ _)
      | (with_reducible exact spec_WellFormed.mono _ _)
      | (with_reducible exact spec_WtfEqual.mono _ _ _)
      | (with_reducible exact spec_WtfUnits.mono _ _)
      | (with_reducible exact LeO.refl _)
      | (with_reducible exact LeO.none _)
      | (with_reducible refine LeO.ite ?_ ?_)
      | (with_reducible refine LeO.bind ?_ (fun _ => ?_))
      | exact ih0 _ _ _ _ _
      | exact impl_QuoteSingle.mono _ _ _
      | exact spec_JsString.mono _ _
      | exact spec_TextAscii.mono _ _
      | exact spec_TextFinds.mono _ _ _
      | exact spec_WellFormed.mono _ _
      | exact spec_WtfEqual.mono _ _ _
      | exact spec_WtfUnits.mono _ _
      | exact LeO.none _
      | refine LeO.ite ?_ ?_
      | refine LeO.bind ?_ (fun _ => ?_)
theorem laws_FnQuoteSingle.mono : ∀ a0 a1 k, LeO (laws_FnQuoteSingle.f k a0 a1) (laws_FnQuoteSingle.f (k + 1) a0 a1) := by
  intro a0 a1 k
  have ih0 := laws_FnQuoteSingle.mono_l k
  unfold laws_FnQuoteSingle.f
  repeat' first
      | (with_reducible exact ih0 _ _ _ _ _)
      | (with_reducible exact impl_QuoteSingle.mono _ _ _)
      | (with_reducible exact spec_JsString.mono _ _)
      | (with_reducible exact spec_TextAscii.mono _ _)
      | (with_reducible exact spec_TextFinds.mono _ _ _)
      | (with_reducible exact spec_WellFormed.mono _ _)
      | (with_reducible exact spec_WtfEqual.mono _ _ _)
      | (with_reducible exact spec_WtfUnits.mono _ _)
      | (with_reducible exact LeO.refl _)
      | (with_reducible exact LeO.none _)
      | (with_reducible refine LeO.ite ?_ ?_)
      | (with_reducible refine LeO.bind ?_ (fun _ => ?_))
      | exact ih0 _ _ _ _ _
      | exact impl_QuoteSingle.mono _ _ _
      | exact spec_JsString.mono _ _
      | exact spec_TextAscii.mono _ _
      | exact spec_TextFinds.mono _ _ _
      | exact spec_WellFormed.mono _ _
      | exact spec_WtfEqual.mono _ _ _
      | exact spec_WtfUnits.mono _ _
      | exact LeO.none _
      | refine LeO.ite ?_ ?_
      | refine LeO.bind ?_ (fun _ => ?_)
set_option maxHeartbeats 8000000 in
set_option maxRecDepth 100000 in
theorem laws_FnQuoteSingle.calls (k : Nat) (a0 : ByteArray) (a1 : Bool) (r : Bool) (w : World) (h : laws_FnQuoteSingle.f k a0 a1 = some r) :
    Calls Try.prog 3 #[.string a0, .bool a1] w fun e w' => e = .returned (.bool r) ∧ Below w.heap.size w w' := by
  have HB := Aside0.mk (Below.refl w.heap.size w)
  have H : (if (a0.size : Int) > 2147483647 then (some true) else ((impl_QuoteSingle.f k (⟨#[97]⟩ : ByteArray) true).bind fun t146 => ((spec_WtfUnits.f k a0).bind fun bt147 => (if bt147.2 = true then ((spec_WellFormed.f k a0).bind fun t151 => (if t151 = true then ((spec_TextFinds.f k a0 (⟨#[39]⟩ : ByteArray)).bind fun t152 => (laws_FnQuoteSingle.j0 k a0 a1 (t146.toList == ([39, 97, 39] : List UInt8)) bt147.1 (decide (t152 ≥ 0)))) else (laws_FnQuoteSingle.j0 k a0 a1 (t146.toList == ([39, 97, 39] : List UInt8)) bt147.1 true))) else (laws_FnQuoteSingle.j0 k a0 a1 (t146.toList == ([39, 97, 39] : List UInt8)) bt147.1 true))))) = some r := h
  clear h
  by_cases c3 : (a0.size : Int) > 2147483647
  · rw [if_pos c3] at H
    have c3b0 : decide (2147483647 < (a0.size : Int)) = true := decide_eq_true c3
    have c3b1 : decide (2147483647 < a0.size) = true := decide_eq_true (by omega)
    clear c3
    obtain rfl := Option.some.inj H
    go_enter Try.func3, Try.ntmps3
    go_wp2
    go_ret
    exact ⟨by first | rfl | (simp [errW_none, errW_some] <;> rfl) | (simp [*, errW_none, errW_some] <;> rfl), by repeat (first | (with_reducible first | exact HB.out | apply below_alloc | apply pw_below_drewN | apply below_drew1) | exact HB.out)⟩
  · rw [if_neg c3] at H
    have c3b0 : decide (2147483647 < (a0.size : Int)) = false := decide_eq_false c3
    have c3b1 : decide (2147483647 < a0.size) = false := decide_eq_false (by omega)
    clear c3
    replace H := Option.bind_eq_some_iff.mp H
    obtain ⟨t146, A40, H⟩ := H
    replace H : ((spec_WtfUnits.f k a0).bind fun bt147 => (if bt147.2 = true then ((spec_WellFormed.f k a0).bind fun t151 => (if t151 = true then ((spec_TextFinds.f k a0 (⟨#[39]⟩ : ByteArray)).bind fun t152 => (laws_FnQuoteSingle.j0 k a0 a1 (t146.toList == ([39, 97, 39] : List UInt8)) bt147.1 (decide (t152 ≥ 0)))) else (laws_FnQuoteSingle.j0 k a0 a1 (t146.toList == ([39, 97, 39] : List UInt8)) bt147.1 true))) else (laws_FnQuoteSingle.j0 k a0 a1 (t146.toList == ([39, 97, 39] : List UInt8)) bt147.1 true))) = some r := H
    have A4 := Aside0.mk A40
    clear A40
    replace H := Option.bind_eq_some_iff.mp H
    obtain ⟨⟨t147, t148⟩, A50, H⟩ := H
    replace H : (if t148 = true then ((spec_WellFormed.f k a0).bind fun t151 => (if t151 = true then ((spec_TextFinds.f k a0 (⟨#[39]⟩ : ByteArray)).bind fun t152 => (laws_FnQuoteSingle.j0 k a0 a1 (t146.toList == ([39, 97, 39] : List UInt8)) t147 (decide (t152 ≥ 0)))) else (laws_FnQuoteSingle.j0 k a0 a1 (t146.toList == ([39, 97, 39] : List UInt8)) t147 true))) else (laws_FnQuoteSingle.j0 k a0 a1 (t146.toList == ([39, 97, 39] : List UInt8)) t147 true)) = some r := H
    have A5 := Aside0.mk A50
    clear A50
    have HC6 := Aside0.mk H
    clear H
    go_enter Try.func3, Try.ntmps3
    go_upto_region 5 with (first | ((with_reducible refine gate_callee (f := 5) rfl ?_); refine goesL_ (some 14) rfl rfl Try.func5 (by kernel_rfl) rfl #[.string (⟨#[97]⟩ : ByteArray), .bool true] rfl (by (try simp only [List.map_toArray, List.map_cons, List.map_nil]); first | done | rfl | (simp only [List.length_drop, List.length_take]; rfl)) ?_; (with_reducible refine (impl_QuoteSingle.calls k (⟨#[97]⟩ : ByteArray) true t146 _ A4.out).mono ?_); rintro e w7 ⟨rfl, hb⟩; refine ⟨_, rfl, ?_⟩; have n0_ := Aside0.mk (below_step (by repeat (first | (with_reducible first | exact HB.out | apply below_alloc | apply pw_below_drewN | apply below_drew1) | exact HB.out)) hb); clear HB; have HB := n0_; clear n0_; (try clear hb); (try clear hb2); (try clear hk); (try clear hi)) | ((with_reducible refine gate_callee (f := 6) rfl ?_); refine goesL_ (some 18) rfl rfl Try.func6 (by kernel_rfl) rfl #[.string a0] rfl (by (try simp only [List.map_toArray, List.map_cons, List.map_nil]); first | done | rfl | (simp only [List.length_drop, List.length_take]; rfl)) ?_; (with_reducible refine (spec_WtfUnits.calls k a0 t147 t148 _ A5.out).mono ?_); rintro e w8 ⟨v149, rfl, ho0, hb⟩; refine ⟨_, rfl, ?_⟩; have n0_ := Aside0.mk (Kd.R_lower ho0 (below_size (by repeat (first | (with_reducible first | exact HB.out | apply below_alloc | apply pw_below_drewN | apply below_drew1) | exact HB.out)))); have n1_ := Aside0.mk (below_step (by repeat (first | (with_reducible first | exact HB.out | apply below_alloc | apply pw_below_drewN | apply below_drew1) | exact HB.out)) hb); clear HB; have HO150 := n0_; have HB := n1_; clear n0_ n1_; (try clear hb); (try clear hb2); (try clear hk); (try clear hi); (try clear ho0)))
    (try simp only [Act.put, List.setIfInBounds_toArray, List.set_cons_zero, List.set_cons_succ])
    go_cut [32] (fun v32 wc => ∃ (kq : Nat) (x32_5 : Bool), v32 = .bool x32_5 ∧ Aside0 (laws_FnQuoteSingle.j0 kq a0 a1 (t146.toList == ([39, 97, 39] : List UInt8)) t147 x32_5 = some r) ∧ Aside0 (kq ≤ k) ∧ Aside0 (Kd.R (Kd.int .u16) 39 wc w.heap.size (fun _ => True) v149 t147) ∧ Aside0 (Below w.heap.size w wc))
    case first =>
      have H := HC6.out
      clear HC6
      by_cases c9 : t148 = true
      · subst c9
        have H1 : ((spec_WellFormed.f k a0).bind fun t151 => (if t151 = true then ((spec_TextFinds.f k a0 (⟨#[39]⟩ : ByteArray)).bind fun t152 => (laws_FnQuoteSingle.j0 k a0 a1 (t146.toList == ([39, 97, 39] : List UInt8)) t147 (decide (t152 ≥ 0)))) else (laws_FnQuoteSingle.j0 k a0 a1 (t146.toList == ([39, 97, 39] : List UInt8)) t147 true))) = some r := by rw [if_pos rfl] at H; exact H
        clear H
        have H := H1
        clear H1
        replace H := Option.bind_eq_some_iff.mp H
        obtain ⟨t151, A100, H⟩ := H
        replace H : (if t151 = true then ((spec_TextFinds.f k a0 (⟨#[39]⟩ : ByteArray)).bind fun t152 => (laws_FnQuoteSingle.j0 k a0 a1 (t146.toList == ([39, 97, 39] : List UInt8)) t147 (decide (t152 ≥ 0)))) else (laws_FnQuoteSingle.j0 k a0 a1 (t146.toList == ([39, 97, 39] : List UInt8)) t147 true)) = some r := H
        have A10 := Aside0.mk A100
        clear A100
        by_cases c11 : t151 = true
        · subst c11
          have H1 : ((spec_TextFinds.f k a0 (⟨#[39]⟩ : ByteArray)).bind fun t152 => (laws_FnQuoteSingle.j0 k a0 a1 (t146.toList == ([39, 97, 39] : List UInt8)) t147 (decide (t152 ≥ 0)))) = some r := by rw [if_pos rfl] at H; exact H
          clear H
          have H := H1
          clear H1
          replace H := Option.bind_eq_some_iff.mp H
          obtain ⟨t152, A120, H⟩ := H
          replace H : (laws_FnQuoteSingle.j0 k a0 a1 (t146.toList == ([39, 97, 39] : List UInt8)) t147 (decide (t152 ≥ 0))) = some r := H
          have A12 := Aside0.mk A120
          clear A120
          have H' := Aside0.mk H
          clear H
          go_wp2_with (first | (go_at_call 7; (with_reducible refine (spec_WellFormed.calls k a0 true _ A10.out).mono ?_); rintro e w' ⟨rfl, ⟨nd, rfl⟩⟩) | (go_at_call 8; (with_reducible refine (spec_TextFinds.calls k a0 (⟨#[39]⟩ : ByteArray) t152 _ A12.out).mono ?_); rintro e w' ⟨rfl, ⟨nd, rfl⟩⟩))
          go_meet
          case rel => exact ⟨_, (decide (t152 ≥ 0)), (by first | rfl | (simp; done) | (simp [*]; done)), H', ⟨by first | omega | exact Nat.le_refl _⟩, ⟨by (with_reducible repeat (first | apply Kd.R_alloc | apply Kd.R_drewN | apply Kd.R_drew)); exact HO150.out⟩, ⟨by repeat (first | (with_reducible first | exact HB.out | apply below_alloc | apply pw_below_drewN | apply below_drew1) | exact HB.out)⟩⟩
        · replace c11 := Bool.eq_false_iff.mpr c11
          subst c11
          have H1 : (laws_FnQuoteSingle.j0 k a0 a1 (t146.toList == ([39, 97, 39] : List UInt8)) t147 true) = some r := by rw [if_neg (show ¬ (false = true) by decide)] at H; exact H
          clear H
          have H := H1
          clear H1
          have H' := Aside0.mk H
          clear H
          go_wp2_with (first | (go_at_call 7; (with_reducible refine (spec_WellFormed.calls k a0 false _ A10.out).mono ?_); rintro e w' ⟨rfl, ⟨nd, rfl⟩⟩))
          go_meet
          case rel => exact ⟨_, (true), (by first | rfl | (simp; done) | (simp [*]; done)), H', ⟨by first | omega | exact Nat.le_refl _⟩, ⟨by (with_reducible repeat (first | apply Kd.R_alloc | apply Kd.R_drewN | apply Kd.R_drew)); exact HO150.out⟩, ⟨by repeat (first | (with_reducible first | exact HB.out | apply below_alloc | apply pw_below_drewN | apply below_drew1) | exact HB.out)⟩⟩
      · replace c9 := Bool.eq_false_iff.mpr c9
        subst c9
        have H1 : (laws_FnQuoteSingle.j0 k a0 a1 (t146.toList == ([39, 97, 39] : List UInt8)) t147 true) = some r := by rw [if_neg (show ¬ (false = true) by decide)] at H; exact H
        clear H
        have H := H1
        clear H1
        have H' := Aside0.mk H
        clear H
        go_wp2
        go_meet
        case rel => exact ⟨_, (true), (by first | rfl | (simp; done) | (simp [*]; done)), H', ⟨by first | omega | exact Nat.le_refl _⟩, ⟨by (with_reducible repeat (first | apply Kd.R_alloc | apply Kd.R_drewN | apply Kd.R_drew)); exact HO150.out⟩, ⟨by repeat (first | (with_reducible first | exact HB.out | apply below_alloc | apply pw_below_drewN | apply below_drew1) | exact HB.out)⟩⟩
    case rest =>
      clear HC6
      try clear c1
      try clear p2
      try clear c3
      try clear c3b0
      try clear c3b1
      try clear c5
      try clear c6
      try clear c9
      try clear c11
      obtain ⟨kq, x32_5, rfl, HA, HJ5, HO_6, HB⟩ := hcut
      cases kq with
      | zero => exact absurd HA.out (by simp [laws_FnQuoteSingle.j0])
      | succ kj5 =>
        have H := HA.out
        clear HA
        simp only [laws_FnQuoteSingle.j0] at H
        by_cases c13 : x32_5 = true
        · subst c13
          have H1 : (some (t146.toList == ([39, 97, 39] : List UInt8))) = some r := by rw [if_pos rfl] at H; exact H
          clear H
          have H := H1
          clear H1
          obtain rfl := Option.some.inj H
          go_wp2
          go_ret
          exact ⟨by first | rfl | (simp [errW_none, errW_some] <;> rfl) | (simp [*, errW_none, errW_some] <;> rfl), by repeat (first | (with_reducible first | exact HB.out | apply below_alloc | apply pw_below_drewN | apply below_drew1) | exact HB.out)⟩
        · replace c13 := Bool.eq_false_iff.mpr c13
          subst c13
          have H1 : ((impl_QuoteSingle.f kj5 a0 a1).bind fun t153 => ((spec_JsString.f kj5 t153).bind fun bt154 => (if bt154.2 = true then (if 0 < (t153.size : Int) then (if (bt t153 0) = 39 then ((spec_WtfEqual.f kj5 bt154.1 t147).bind fun t158 => (if t158 = true then (if a1 = true then ((spec_TextAscii.f kj5 t153).bind fun t159 => (if t159 = true then (some (t146.toList == ([39, 97, 39] : List UInt8))) else (some false))) else (some (t146.toList == ([39, 97, 39] : List UInt8)))) else (some false))) else (some false)) else (none)) else (some false)))) = some r := by rw [if_neg (show ¬ (false = true) by decide)] at H; exact H
          clear H
          have H := H1
          clear H1
          replace H := Option.bind_eq_some_iff.mp H
          obtain ⟨t153, A140, H⟩ := H
          replace H : ((spec_JsString.f kj5 t153).bind fun bt154 => (if bt154.2 = true then (if 0 < (t153.size : Int) then (if (bt t153 0) = 39 then ((spec_WtfEqual.f kj5 bt154.1 t147).bind fun t158 => (if t158 = true then (if a1 = true then ((spec_TextAscii.f kj5 t153).bind fun t159 => (if t159 = true then (some (t146.toList == ([39, 97, 39] : List UInt8))) else (some false))) else (some (t146.toList == ([39, 97, 39] : List UInt8)))) else (some false))) else (some false)) else (none)) else (some false))) = some r := H
          have A14 := Aside0.mk A140
          clear A140
          replace H := Option.bind_eq_some_iff.mp H
          obtain ⟨⟨t154, t155⟩, A150, H⟩ := H
          replace H : (if t155 = true then (if 0 < (t153.size : Int) then (if (bt t153 0) = 39 then ((spec_WtfEqual.f kj5 t154 t147).bind fun t158 => (if t158 = true then (if a1 = true then ((spec_TextAscii.f kj5 t153).bind fun t159 => (if t159 = true then (some (t146.toList == ([39, 97, 39] : List UInt8))) else (some false))) else (some (t146.toList == ([39, 97, 39] : List UInt8)))) else (some false))) else (some false)) else (none)) else (some false)) = some r := H
          have A15 := Aside0.mk A150
          clear A150
          by_cases c16 : t155 = true
          · subst c16
            have H1 : (if 0 < (t153.size : Int) then (if (bt t153 0) = 39 then ((spec_WtfEqual.f kj5 t154 t147).bind fun t158 => (if t158 = true then (if a1 = true then ((spec_TextAscii.f kj5 t153).bind fun t159 => (if t159 = true then (some (t146.toList == ([39, 97, 39] : List UInt8))) else (some false))) else (some (t146.toList == ([39, 97, 39] : List UInt8)))) else (some false))) else (some false)) else (none)) = some r := by rw [if_pos rfl] at H; exact H
            clear H
            have H := H1
            clear H1
            by_cases c17 : 0 < (t153.size : Int)
            · rw [if_pos c17] at H
              have c17b0 : decide (0 < (t153.size : Int)) = true := decide_eq_true c17
              have c17b1 : decide (0 < t153.size) = true := decide_eq_true (by omega)
              clear c17
              by_cases c19 : (bt t153 0) = 39
              · rw [if_pos c19] at H
                have c19b0 : ((bt t153 0) == 39) = true := beq_iff_eq.mpr c19
                have c19b1 : ((bt t153 0) != 39) = false := bne_eq_false_iff_eq.mpr c19
                clear c19
                replace H := Option.bind_eq_some_iff.mp H
                obtain ⟨t158, A200, H⟩ := H
                replace H : (if t158 = true then (if a1 = true then ((spec_TextAscii.f kj5 t153).bind fun t159 => (if t159 = true then (some (t146.toList == ([39, 97, 39] : List UInt8))) else (some false))) else (some (t146.toList == ([39, 97, 39] : List UInt8)))) else (some false)) = some r := H
                have A20 := Aside0.mk A200
                clear A200
                by_cases c21 : t158 = true
                · subst c21
                  have H1 : (if a1 = true then ((spec_TextAscii.f kj5 t153).bind fun t159 => (if t159 = true then (some (t146.toList == ([39, 97, 39] : List UInt8))) else (some false))) else (some (t146.toList == ([39, 97, 39] : List UInt8)))) = some r := by rw [if_pos rfl] at H; exact H
                  clear H
                  have H := H1
                  clear H1
                  by_cases c22 : a1 = true
                  · subst c22
                    have H1 : ((spec_TextAscii.f kj5 t153).bind fun t159 => (if t159 = true then (some (t146.toList == ([39, 97, 39] : List UInt8))) else (some false))) = some r := by rw [if_pos rfl] at H; exact H
                    clear H
                    have H := H1
                    clear H1
                    replace H := Option.bind_eq_some_iff.mp H
                    obtain ⟨t159, A230, H⟩ := H
                    replace H : (if t159 = true then (some (t146.toList == ([39, 97, 39] : List UInt8))) else (some false)) = some r := H
                    have A23 := Aside0.mk A230
                    clear A230
                    by_cases c24 : t159 = true
                    · subst c24
                      have H1 : (some (t146.toList == ([39, 97, 39] : List UInt8))) = some r := by rw [if_pos rfl] at H; exact H
                      clear H
                      have H := H1
                      clear H1
                      obtain rfl := Option.some.inj H
                      go_wp2_with (first | ((with_reducible refine gate_callee (f := 5) rfl ?_); refine goesL_ (some 36) rfl rfl Try.func5 (by kernel_rfl) rfl #[.string a0, .bool true] rfl (by (try simp only [List.map_toArray, List.map_cons, List.map_nil]); first | done | rfl | (simp only [List.length_drop, List.length_take]; rfl)) ?_; (with_reducible refine (impl_QuoteSingle.calls kj5 a0 true t153 _ A14.out).mono ?_); rintro e w25 ⟨rfl, hb⟩; refine ⟨_, rfl, ?_⟩; have n0_ := Aside0.mk (Kd.R_below (by (with_reducible repeat (first | apply Kd.R_alloc | apply Kd.R_drewN | apply Kd.R_drew)); exact HO_6.out) hb); have n1_ := Aside0.mk (below_step (by repeat (first | (with_reducible first | exact HB.out | apply below_alloc | apply pw_below_drewN | apply below_drew1) | exact HB.out)) hb); clear HO_6; clear HB; have HO_6 := n0_; have HB := n1_; clear n0_ n1_; (try clear hb); (try clear hb2); (try clear hk); (try clear hi)) | ((with_reducible refine gate_callee (f := 9) rfl ?_); refine goesL_ (some 39) rfl rfl Try.func9 (by kernel_rfl) rfl #[.string t153] rfl (by (try simp only [List.map_toArray, List.map_cons, List.map_nil]); first | done | rfl | (simp only [List.length_drop, List.length_take]; rfl)) ?_; (with_reducible refine (spec_JsString.calls kj5 t153 t154 true _ A15.out).mono ?_); rintro e w26 ⟨v156, rfl, ho0, hb⟩; refine ⟨_, rfl, ?_⟩; have n0_ := Aside0.mk (Kd.R_elder' (by (with_reducible repeat (first | apply Kd.R_alloc | apply Kd.R_drewN | apply Kd.R_drew)); exact HO_6.out) (Kd.R_base ho0) hb); have n1_ := Aside0.mk (Kd.R_lower (Kd.R_new' ho0 (Kd.R_lt (by (with_reducible repeat (first | apply Kd.R_alloc | apply Kd.R_drewN | apply Kd.R_drew)); exact HO_6.out))) (below_size (by repeat (first | (with_reducible first | exact HB.out | apply below_alloc | apply pw_below_drewN | apply below_drew1) | exact HB.out)))); have n2_ := Aside0.mk (below_step (by repeat (first | (with_reducible first | exact HB.out | apply below_alloc | apply pw_below_drewN | apply below_drew1) | exact HB.out)) hb); clear HO_6; clear HB; have HO_6 := n0_; have HO157 := n1_; have HB := n2_; clear n0_ n1_ n2_; (try clear hb); (try clear hb2); (try clear hk); (try clear hi); (try clear ho0); have p18 : 0 ≤ (0 : Int) := (by omega); have q18 : 0 < t153.size := (by have : (0 : Int) < (t153.size : Int) := of_decide_eq_true (by first | (with_reducible assumption) | assumption); omega); have hx18 : ∀ h : 0 < t153.size, ((t153[0]'h).toNat : Int) = bt t153 0 := bt_at t153 0; clear p18; have qi18 : (0 < (t153.size : Int)) = True := eq_true (of_decide_eq_true (by first | (with_reducible assumption) | assumption)); replace q18 := eq_true q18; obtain ⟨Ao27, co27, eo27⟩ := Kd.R_slice HO157.out; subst eo27; obtain ⟨Ao28, co28, eo28⟩ := Kd.R_slice HO_6.out; subst eo28) | (go_at_call 10; (with_reducible refine (spec_WtfEqual.calls kj5 _ _ t154 _ _ t147 true _ ?side1 ?side2 ?side3 ?side4 A20.out).mono ?_); (case side1 => repeat (first | exact (Kd.R_reads' HO157.out).2.2 | (with_reducible refine Kd.C_alloc ?_ _) | (with_reducible refine Kd.C_drewN ?_ _) | (with_reducible refine Kd.C_drew ?_))); (case side2 => exact (Kd.R_reads' HO157.out).2.1); (case side3 => repeat (first | exact (Kd.R_reads' HO_6.out).2.2 | (with_reducible refine Kd.C_alloc ?_ _) | (with_reducible refine Kd.C_drewN ?_ _) | (with_reducible refine Kd.C_drew ?_))); (case side4 => exact (Kd.R_reads' HO_6.out).2.1); rintro e w' ⟨rfl, ⟨nd, rfl⟩⟩) | (go_at_call 11; (with_reducible refine (spec_TextAscii.calls kj5 t153 true _ A23.out).mono ?_); rintro e w' ⟨rfl, ⟨nd, rfl⟩⟩))
                      go_ret
                      exact ⟨by first | rfl | (simp [errW_none, errW_some] <;> rfl) | (simp [*, errW_none, errW_some] <;> rfl), by repeat (first | (with_reducible first | exact HB.out | apply below_alloc | apply pw_below_drewN | apply below_drew1) | exact HB.out)⟩
                    · replace c24 := Bool.eq_false_iff.mpr c24
                      subst c24
                      have H1 : (some false) = some r := by rw [if_neg (show ¬ (false = true) by decide)] at H; exact H
                      clear H
                      have H := H1
                      clear H1
                      obtain rfl := Option.some.inj H
                      go_wp2_with (first | ((with_reducible refine gate_callee (f := 5) rfl ?_); refine goesL_ (some 36) rfl rfl Try.func5 (by kernel_rfl) rfl #[.string a0, .bool true] rfl (by (try simp only [List.map_toArray, List.map_cons, List.map_nil]); first | done | rfl | (simp only [List.length_drop, List.length_take]; rfl)) ?_; (with_reducible refine (impl_QuoteSingle.calls kj5 a0 true t153 _ A14.out).mono ?_); rintro e w29 ⟨rfl, hb⟩; refine ⟨_, rfl, ?_⟩; have n0_ := Aside0.mk (Kd.R_below (by (with_reducible repeat (first | apply Kd.R_alloc | apply Kd.R_drewN | apply Kd.R_drew)); exact HO_6.out) hb); have n1_ := Aside0.mk (below_step (by repeat (first | (with_reducible first | exact HB.out | apply below_alloc | apply pw_below_drewN | apply below_drew1) | exact HB.out)) hb); clear HO_6; clear HB; have HO_6 := n0_; have HB := n1_; clear n0_ n1_; (try clear hb); (try clear hb2); (try clear hk); (try clear hi)) | ((with_reducible refine gate_callee (f := 9) rfl ?_); refine goesL_ (some 39) rfl rfl Try.func9 (by kernel_rfl) rfl #[.string t153] rfl (by (try simp only [List.map_toArray, List.map_cons, List.map_nil]); first | done | rfl | (simp only [List.length_drop, List.length_take]; rfl)) ?_; (with_reducible refine (spec_JsString.calls kj5 t153 t154 true _ A15.out).mono ?_); rintro e w30 ⟨v156, rfl, ho0, hb⟩; refine ⟨_, rfl, ?_⟩; have n0_ := Aside0.mk (Kd.R_elder' (by (with_reducible repeat (first | apply Kd.R_alloc | apply Kd.R_drewN | apply Kd.R_drew)); exact HO_6.out) (Kd.R_base ho0) hb); have n1_ := Aside0.mk (Kd.R_lower (Kd.R_new' ho0 (Kd.R_lt (by (with_reducible repeat (first | apply Kd.R_alloc | apply Kd.R_drewN | apply Kd.R_drew)); exact HO_6.out))) (below_size (by repeat (first | (with_reducible first | exact HB.out | apply below_alloc | apply pw_below_drewN | apply below_drew1) | exact HB.out)))); have n2_ := Aside0.mk (below_step (by repeat (first | (with_reducible first | exact HB.out | apply below_alloc | apply pw_below_drewN | apply below_drew1) | exact HB.out)) hb); clear HO_6; clear HB; have HO_6 := n0_; have HO157 := n1_; have HB := n2_; clear n0_ n1_ n2_; (try clear hb); (try clear hb2); (try clear hk); (try clear hi); (try clear ho0); have p18 : 0 ≤ (0 : Int) := (by omega); have q18 : 0 < t153.size := (by have : (0 : Int) < (t153.size : Int) := of_decide_eq_true (by first | (with_reducible assumption) | assumption); omega); have hx18 : ∀ h : 0 < t153.size, ((t153[0]'h).toNat : Int) = bt t153 0 := bt_at t153 0; clear p18; have qi18 : (0 < (t153.size : Int)) = True := eq_true (of_decide_eq_true (by first | (with_reducible assumption) | assumption)); replace q18 := eq_true q18; obtain ⟨Ao31, co31, eo31⟩ := Kd.R_slice HO157.out; subst eo31; obtain ⟨Ao32, co32, eo32⟩ := Kd.R_slice HO_6.out; subst eo32) | (go_at_call 10; (with_reducible refine (spec_WtfEqual.calls kj5 _ _ t154 _ _ t147 true _ ?side1 ?side2 ?side3 ?side4 A20.out).mono ?_); (case side1 => repeat (first | exact (Kd.R_reads' HO157.out).2.2 | (with_reducible refine Kd.C_alloc ?_ _) | (with_reducible refine Kd.C_drewN ?_ _) | (with_reducible refine Kd.C_drew ?_))); (case side2 => exact (Kd.R_reads' HO157.out).2.1); (case side3 => repeat (first | exact (Kd.R_reads' HO_6.out).2.2 | (with_reducible refine Kd.C_alloc ?_ _) | (with_reducible refine Kd.C_drewN ?_ _) | (with_reducible refine Kd.C_drew ?_))); (case side4 => exact (Kd.R_reads' HO_6.out).2.1); rintro e w' ⟨rfl, ⟨nd, rfl⟩⟩) | (go_at_call 11; (with_reducible refine (spec_TextAscii.calls kj5 t153 false _ A23.out).mono ?_); rintro e w' ⟨rfl, ⟨nd, rfl⟩⟩))
                      go_ret
                      exact ⟨by first | rfl | (simp [errW_none, errW_some] <;> rfl) | (simp [*, errW_none, errW_some] <;> rfl), by repeat (first | (with_reducible first | exact HB.out | apply below_alloc | apply pw_below_drewN | apply below_drew1) | exact HB.out)⟩
                  · replace c22 := Bool.eq_false_iff.mpr c22
                    subst c22
                    have H1 : (some (t146.toList == ([39, 97, 39] : List UInt8))) = some r := by rw [if_neg (show ¬ (false = true) by decide)] at H; exact H
                    clear H
                    have H := H1
                    clear H1
                    obtain rfl := Option.some.inj H
                    go_wp2_with (first | ((with_reducible refine gate_callee (f := 5) rfl ?_); refine goesL_ (some 36) rfl rfl Try.func5 (by kernel_rfl) rfl #[.string a0, .bool false] rfl (by (try simp only [List.map_toArray, List.map_cons, List.map_nil]); first | done | rfl | (simp only [List.length_drop, List.length_take]; rfl)) ?_; (with_reducible refine (impl_QuoteSingle.calls kj5 a0 false t153 _ A14.out).mono ?_); rintro e w33 ⟨rfl, hb⟩; refine ⟨_, rfl, ?_⟩; have n0_ := Aside0.mk (Kd.R_below (by (with_reducible repeat (first | apply Kd.R_alloc | apply Kd.R_drewN | apply Kd.R_drew)); exact HO_6.out) hb); have n1_ := Aside0.mk (below_step (by repeat (first | (with_reducible first | exact HB.out | apply below_alloc | apply pw_below_drewN | apply below_drew1) | exact HB.out)) hb); clear HO_6; clear HB; have HO_6 := n0_; have HB := n1_; clear n0_ n1_; (try clear hb); (try clear hb2); (try clear hk); (try clear hi)) | ((with_reducible refine gate_callee (f := 9) rfl ?_); refine goesL_ (some 39) rfl rfl Try.func9 (by kernel_rfl) rfl #[.string t153] rfl (by (try simp only [List.map_toArray, List.map_cons, List.map_nil]); first | done | rfl | (simp only [List.length_drop, List.length_take]; rfl)) ?_; (with_reducible refine (spec_JsString.calls kj5 t153 t154 true _ A15.out).mono ?_); rintro e w34 ⟨v156, rfl, ho0, hb⟩; refine ⟨_, rfl, ?_⟩; have n0_ := Aside0.mk (Kd.R_elder' (by (with_reducible repeat (first | apply Kd.R_alloc | apply Kd.R_drewN | apply Kd.R_drew)); exact HO_6.out) (Kd.R_base ho0) hb); have n1_ := Aside0.mk (Kd.R_lower (Kd.R_new' ho0 (Kd.R_lt (by (with_reducible repeat (first | apply Kd.R_alloc | apply Kd.R_drewN | apply Kd.R_drew)); exact HO_6.out))) (below_size (by repeat (first | (with_reducible first | exact HB.out | apply below_alloc | apply pw_below_drewN | apply below_drew1) | exact HB.out)))); have n2_ := Aside0.mk (below_step (by repeat (first | (with_reducible first | exact HB.out | apply below_alloc | apply pw_below_drewN | apply below_drew1) | exact HB.out)) hb); clear HO_6; clear HB; have HO_6 := n0_; have HO157 := n1_; have HB := n2_; clear n0_ n1_ n2_; (try clear hb); (try clear hb2); (try clear hk); (try clear hi); (try clear ho0); have p18 : 0 ≤ (0 : Int) := (by omega); have q18 : 0 < t153.size := (by have : (0 : Int) < (t153.size : Int) := of_decide_eq_true (by first | (with_reducible assumption) | assumption); omega); have hx18 : ∀ h : 0 < t153.size, ((t153[0]'h).toNat : Int) = bt t153 0 := bt_at t153 0; clear p18; have qi18 : (0 < (t153.size : Int)) = True := eq_true (of_decide_eq_true (by first | (with_reducible assumption) | assumption)); replace q18 := eq_true q18; obtain ⟨Ao35, co35, eo35⟩ := Kd.R_slice HO157.out; subst eo35; obtain ⟨Ao36, co36, eo36⟩ := Kd.R_slice HO_6.out; subst eo36) | (go_at_call 10; (with_reducible refine (spec_WtfEqual.calls kj5 _ _ t154 _ _ t147 true _ ?side1 ?side2 ?side3 ?side4 A20.out).mono ?_); (case side1 => repeat (first | exact (Kd.R_reads' HO157.out).2.2 | (with_reducible refine Kd.C_alloc ?_ _) | (with_reducible refine Kd.C_drewN ?_ _) | (with_reducible refine Kd.C_drew ?_))); (case side2 => exact (Kd.R_reads' HO157.out).2.1); (case side3 => repeat (first | exact (Kd.R_reads' HO_6.out).2.2 | (with_reducible refine Kd.C_alloc ?_ _) | (with_reducible refine Kd.C_drewN ?_ _) | (with_reducible refine Kd.C_drew ?_))); (case side4 => exact (Kd.R_reads' HO_6.out).2.1); rintro e w' ⟨rfl, ⟨nd, rfl⟩⟩))
                    go_ret
                    exact ⟨by first | rfl | (simp [errW_none, errW_some] <;> rfl) | (simp [*, errW_none, errW_some] <;> rfl), by repeat (first | (with_reducible first | exact HB.out | apply below_alloc | apply pw_below_drewN | apply below_drew1) | exact HB.out)⟩
                · replace c21 := Bool.eq_false_iff.mpr c21
                  subst c21
                  have H1 : (some false) = some r := by rw [if_neg (show ¬ (false = true) by decide)] at H; exact H
                  clear H
                  have H := H1
                  clear H1
                  obtain rfl := Option.some.inj H
                  go_wp2_with (first | ((with_reducible refine gate_callee (f := 5) rfl ?_); refine goesL_ (some 36) rfl rfl Try.func5 (by kernel_rfl) rfl #[.string a0, .bool a1] rfl (by (try simp only [List.map_toArray, List.map_cons, List.map_nil]); first | done | rfl | (simp only [List.length_drop, List.length_take]; rfl)) ?_; (with_reducible refine (impl_QuoteSingle.calls kj5 a0 a1 t153 _ A14.out).mono ?_); rintro e w37 ⟨rfl, hb⟩; refine ⟨_, rfl, ?_⟩; have n0_ := Aside0.mk (Kd.R_below (by (with_reducible repeat (first | apply Kd.R_alloc | apply Kd.R_drewN | apply Kd.R_drew)); exact HO_6.out) hb); have n1_ := Aside0.mk (below_step (by repeat (first | (with_reducible first | exact HB.out | apply below_alloc | apply pw_below_drewN | apply below_drew1) | exact HB.out)) hb); clear HO_6; clear HB; have HO_6 := n0_; have HB := n1_; clear n0_ n1_; (try clear hb); (try clear hb2); (try clear hk); (try clear hi)) | ((with_reducible refine gate_callee (f := 9) rfl ?_); refine goesL_ (some 39) rfl rfl Try.func9 (by kernel_rfl) rfl #[.string t153] rfl (by (try simp only [List.map_toArray, List.map_cons, List.map_nil]); first | done | rfl | (simp only [List.length_drop, List.length_take]; rfl)) ?_; (with_reducible refine (spec_JsString.calls kj5 t153 t154 true _ A15.out).mono ?_); rintro e w38 ⟨v156, rfl, ho0, hb⟩; refine ⟨_, rfl, ?_⟩; have n0_ := Aside0.mk (Kd.R_elder' (by (with_reducible repeat (first | apply Kd.R_alloc | apply Kd.R_drewN | apply Kd.R_drew)); exact HO_6.out) (Kd.R_base ho0) hb); have n1_ := Aside0.mk (Kd.R_lower (Kd.R_new' ho0 (Kd.R_lt (by (with_reducible repeat (first | apply Kd.R_alloc | apply Kd.R_drewN | apply Kd.R_drew)); exact HO_6.out))) (below_size (by repeat (first | (with_reducible first | exact HB.out | apply below_alloc | apply pw_below_drewN | apply below_drew1) | exact HB.out)))); have n2_ := Aside0.mk (below_step (by repeat (first | (with_reducible first | exact HB.out | apply below_alloc | apply pw_below_drewN | apply below_drew1) | exact HB.out)) hb); clear HO_6; clear HB; have HO_6 := n0_; have HO157 := n1_; have HB := n2_; clear n0_ n1_ n2_; (try clear hb); (try clear hb2); (try clear hk); (try clear hi); (try clear ho0); have p18 : 0 ≤ (0 : Int) := (by omega); have q18 : 0 < t153.size := (by have : (0 : Int) < (t153.size : Int) := of_decide_eq_true (by first | (with_reducible assumption) | assumption); omega); have hx18 : ∀ h : 0 < t153.size, ((t153[0]'h).toNat : Int) = bt t153 0 := bt_at t153 0; clear p18; have qi18 : (0 < (t153.size : Int)) = True := eq_true (of_decide_eq_true (by first | (with_reducible assumption) | assumption)); replace q18 := eq_true q18; obtain ⟨Ao39, co39, eo39⟩ := Kd.R_slice HO157.out; subst eo39; obtain ⟨Ao40, co40, eo40⟩ := Kd.R_slice HO_6.out; subst eo40) | (go_at_call 10; (with_reducible refine (spec_WtfEqual.calls kj5 _ _ t154 _ _ t147 false _ ?side1 ?side2 ?side3 ?side4 A20.out).mono ?_); (case side1 => repeat (first | exact (Kd.R_reads' HO157.out).2.2 | (with_reducible refine Kd.C_alloc ?_ _) | (with_reducible refine Kd.C_drewN ?_ _) | (with_reducible refine Kd.C_drew ?_))); (case side2 => exact (Kd.R_reads' HO157.out).2.1); (case side3 => repeat (first | exact (Kd.R_reads' HO_6.out).2.2 | (with_reducible refine Kd.C_alloc ?_ _) | (with_reducible refine Kd.C_drewN ?_ _) | (with_reducible refine Kd.C_drew ?_))); (case side4 => exact (Kd.R_reads' HO_6.out).2.1); rintro e w' ⟨rfl, ⟨nd, rfl⟩⟩))
                  go_ret
                  exact ⟨by first | rfl | (simp [errW_none, errW_some] <;> rfl) | (simp [*, errW_none, errW_some] <;> rfl), by repeat (first | (with_reducible first | exact HB.out | apply below_alloc | apply pw_below_drewN | apply below_drew1) | exact HB.out)⟩
              · rw [if_neg c19] at H
                have c19b0 : ((bt t153 0) == 39) = false := beq_eq_false_iff_ne.mpr c19
                have c19b1 : ((bt t153 0) != 39) = true := bne_iff_ne.mpr c19
                obtain rfl := Option.some.inj H
                go_wp2_with (first | ((with_reducible refine gate_callee (f := 5) rfl ?_); refine goesL_ (some 36) rfl rfl Try.func5 (by kernel_rfl) rfl #[.string a0, .bool a1] rfl (by (try simp only [List.map_toArray, List.map_cons, List.map_nil]); first | done | rfl | (simp only [List.length_drop, List.length_take]; rfl)) ?_; (with_reducible refine (impl_QuoteSingle.calls kj5 a0 a1 t153 _ A14.out).mono ?_); rintro e w41 ⟨rfl, hb⟩; refine ⟨_, rfl, ?_⟩; have n0_ := Aside0.mk (Kd.R_below (by (with_reducible repeat (first | apply Kd.R_alloc | apply Kd.R_drewN | apply Kd.R_drew)); exact HO_6.out) hb); have n1_ := Aside0.mk (below_step (by repeat (first | (with_reducible first | exact HB.out | apply below_alloc | apply pw_below_drewN | apply below_drew1) | exact HB.out)) hb); clear HO_6; clear HB; have HO_6 := n0_; have HB := n1_; clear n0_ n1_; (try clear hb); (try clear hb2); (try clear hk); (try clear hi)) | ((with_reducible refine gate_callee (f := 9) rfl ?_); refine goesL_ (some 39) rfl rfl Try.func9 (by kernel_rfl) rfl #[.string t153] rfl (by (try simp only [List.map_toArray, List.map_cons, List.map_nil]); first | done | rfl | (simp only [List.length_drop, List.length_take]; rfl)) ?_; (with_reducible refine (spec_JsString.calls kj5 t153 t154 true _ A15.out).mono ?_); rintro e w42 ⟨v156, rfl, ho0, hb⟩; refine ⟨_, rfl, ?_⟩; have n0_ := Aside0.mk (Kd.R_elder' (by (with_reducible repeat (first | apply Kd.R_alloc | apply Kd.R_drewN | apply Kd.R_drew)); exact HO_6.out) (Kd.R_base ho0) hb); have n1_ := Aside0.mk (Kd.R_lower (Kd.R_new' ho0 (Kd.R_lt (by (with_reducible repeat (first | apply Kd.R_alloc | apply Kd.R_drewN | apply Kd.R_drew)); exact HO_6.out))) (below_size (by repeat (first | (with_reducible first | exact HB.out | apply below_alloc | apply pw_below_drewN | apply below_drew1) | exact HB.out)))); have n2_ := Aside0.mk (below_step (by repeat (first | (with_reducible first | exact HB.out | apply below_alloc | apply pw_below_drewN | apply below_drew1) | exact HB.out)) hb); clear HO_6; clear HB; have HO_6 := n0_; have HO157 := n1_; have HB := n2_; clear n0_ n1_ n2_; (try clear hb); (try clear hb2); (try clear hk); (try clear hi); (try clear ho0); have p18 : 0 ≤ (0 : Int) := (by omega); have q18 : 0 < t153.size := (by have : (0 : Int) < (t153.size : Int) := of_decide_eq_true (by first | (with_reducible assumption) | assumption); omega); have hx18 : ∀ h : 0 < t153.size, ((t153[0]'h).toNat : Int) = bt t153 0 := bt_at t153 0; clear p18; have qi18 : (0 < (t153.size : Int)) = True := eq_true (of_decide_eq_true (by first | (with_reducible assumption) | assumption)); replace q18 := eq_true q18))
                go_ret
                exact ⟨by first | rfl | (simp [errW_none, errW_some] <;> rfl) | (simp [*, errW_none, errW_some] <;> rfl), by repeat (first | (with_reducible first | exact HB.out | apply below_alloc | apply pw_below_drewN | apply below_drew1) | exact HB.out)⟩
            · rw [if_neg c17] at H
              exact absurd H (by simp)
          · replace c16 := Bool.eq_false_iff.mpr c16
            subst c16
            have H1 : (some false) = some r := by rw [if_neg (show ¬ (false = true) by decide)] at H; exact H
            clear H
            have H := H1
            clear H1
            obtain rfl := Option.some.inj H
            go_wp2_with (first | ((with_reducible refine gate_callee (f := 5) rfl ?_); refine goesL_ (some 36) rfl rfl Try.func5 (by kernel_rfl) rfl #[.string a0, .bool a1] rfl (by (try simp only [List.map_toArray, List.map_cons, List.map_nil]); first | done | rfl | (simp only [List.length_drop, List.length_take]; rfl)) ?_; (with_reducible refine (impl_QuoteSingle.calls kj5 a0 a1 t153 _ A14.out).mono ?_); rintro e w43 ⟨rfl, hb⟩; refine ⟨_, rfl, ?_⟩; have n0_ := Aside0.mk (Kd.R_below (by (with_reducible repeat (first | apply Kd.R_alloc | apply Kd.R_drewN | apply Kd.R_drew)); exact HO_6.out) hb); have n1_ := Aside0.mk (below_step (by repeat (first | (with_reducible first | exact HB.out | apply below_alloc | apply pw_below_drewN | apply below_drew1) | exact HB.out)) hb); clear HO_6; clear HB; have HO_6 := n0_; have HB := n1_; clear n0_ n1_; (try clear hb); (try clear hb2); (try clear hk); (try clear hi)) | ((with_reducible refine gate_callee (f := 9) rfl ?_); refine goesL_ (some 39) rfl rfl Try.func9 (by kernel_rfl) rfl #[.string t153] rfl (by (try simp only [List.map_toArray, List.map_cons, List.map_nil]); first | done | rfl | (simp only [List.length_drop, List.length_take]; rfl)) ?_; (with_reducible refine (spec_JsString.calls kj5 t153 t154 false _ A15.out).mono ?_); rintro e w44 ⟨v156, rfl, ho0, hb⟩; refine ⟨_, rfl, ?_⟩; have n0_ := Aside0.mk (Kd.R_elder' (by (with_reducible repeat (first | apply Kd.R_alloc | apply Kd.R_drewN | apply Kd.R_drew)); exact HO_6.out) (Kd.R_base ho0) hb); have n1_ := Aside0.mk (Kd.R_lower (Kd.R_new' ho0 (Kd.R_lt (by (with_reducible repeat (first | apply Kd.R_alloc | apply Kd.R_drewN | apply Kd.R_drew)); exact HO_6.out))) (below_size (by repeat (first | (with_reducible first | exact HB.out | apply below_alloc | apply pw_below_drewN | apply below_drew1) | exact HB.out)))); have n2_ := Aside0.mk (below_step (by repeat (first | (with_reducible first | exact HB.out | apply below_alloc | apply pw_below_drewN | apply below_drew1) | exact HB.out)) hb); clear HO_6; clear HB; have HO_6 := n0_; have HO157 := n1_; have HB := n2_; clear n0_ n1_ n2_; (try clear hb); (try clear hb2); (try clear hk); (try clear hi); (try clear ho0)))
            go_ret
            exact ⟨by first | rfl | (simp [errW_none, errW_some] <;> rfl) | (simp [*, errW_none, errW_some] <;> rfl), by repeat (first | (with_reducible first | exact HB.out | apply below_alloc | apply pw_below_drewN | apply below_drew1) | exact HB.out)⟩

/-- THE ONE PURE STATEMENT of laws_FnQuoteSingle: yours. -/
def laws_FnQuoteSingle.Pure : Prop := ∀ (a0 : ByteArray) (a1 : Bool), a0.size ≤ 140737488351232 → ∃ k, laws_FnQuoteSingle.f k a0 a1 = some true
theorem laws_FnQuoteSingle.walk (P : laws_FnQuoteSingle.Pure) (a0 : ByteArray) (a1 : Bool) (w : World) (w0 : a0.size ≤ 140737488351232) :
    Calls Try.prog 3 #[.string a0, .bool a1] w fun e w' => e = .returned (.bool true) ∧ Below w.heap.size w w' := by
  obtain ⟨k, h⟩ := P a0 a1 w0
  refine (laws_FnQuoteSingle.calls k a0 a1 true w h).mono ?_
  rintro e w' ⟨rfl, hd⟩
  exact ⟨rfl, hd⟩

end
end Go.Proofs.Ytmgepjnaalnckaa.PFnQuoteSingle
