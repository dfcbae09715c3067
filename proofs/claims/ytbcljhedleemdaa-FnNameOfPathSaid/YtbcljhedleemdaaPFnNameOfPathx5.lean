-- Written by printx.py of this session, over the kit's print, with contracts of this session for some functions
import Derived.Test.YtbcljhedleemdaaPFnNameOfPathx0
import Derived.Test.YtbcljhedleemdaaPFnNameOfPathx3
import Derived.Test.YtbcljhedleemdaaPFnNameOfPathx4
import Derived.Test.YtbcljhedleemdaaExtEnsure
import Derived.Test.YtbcljhedleemdaaExtNext
namespace Go.Proofs.Ytbcljhedleemdaa.PFnNameOfPath
open Go.RowKit Go.Proofs.YtbcljhedleemdaaW.PrintWords Go.Proofs.YtbcljhedleemdaaW.PrintLast Go.Proofs.YtbcljhedleemdaaW.PrintMore
attribute [local go_sem] max2_int min2_int max_two min_two max_three min_three max_four min_four   -- for this text's walks alone
set_option linter.unusedVariables false
set_option linter.unusedSimpArgs false

/-! ### laws_FnNameOfPath: function 3 -/
def laws_FnNameOfPath.f (k : Nat) (a0 : ByteArray) : Option (Bool) := if (a0.size : Int) > 2147483647 then (some true) else (if (a0.size : Int) > 1000 then (some true) else ((impl_NameOfPath.f k a0).bind fun t146 => (if 2 + t146.size ≤ 9223372036854775807 then ((spec_EntityName.f k ((⟨#[97, 46]⟩ : ByteArray) ++ t146)).bind fun bt147 => (if bt147.2 = true then (if (bt147.1.length : Int) = 2 then ((impl_NameOfPath.f k (⟨#[120, 47, 114, 101, 97, 99, 116, 46, 106, 115]⟩ : ByteArray)).bind fun t151 => (some (t151.toList == ([114, 101, 97, 99, 116] : List UInt8)))) else (some false)) else (some false))) else (none))))
theorem laws_FnNameOfPath.mono : ∀ a0 k, LeO (laws_FnNameOfPath.f k a0) (laws_FnNameOfPath.f (k + 1) a0) := by
  intro a0 k
  unfold laws_FnNameOfPath.f
  repeat' first
      | (with_reducible exact impl_NameOfPath.mono _ _)
      | (with_reducible exact spec_EntityName.mono _ _)
      | (with_reducible exact LeO.refl _)
      | (with_reducible exact LeO.none _)
      | (with_reducible refine LeO.ite ?_ ?_)
      | (with_reducible refine LeO.bind ?_ (fun _ => ?_))
      | exact impl_NameOfPath.mono _ _
      | exact spec_EntityName.mono _ _
      | exact LeO.none _
      | refine LeO.ite ?_ ?_
      | refine LeO.bind ?_ (fun _ => ?_)
set_option maxHeartbeats 8000000 in
set_option maxRecDepth 100000 in
theorem laws_FnNameOfPath.calls (k : Nat) (a0 : ByteArray) (r : Bool) (w : World) (h : laws_FnNameOfPath.f k a0 = some r) :
    Calls Try.prog 3 #[.string a0] w fun e w' => e = .returned (.bool r) ∧ Below w.heap.size w w' := by
  have HB := Aside0.mk (Below.refl w.heap.size w)
  have H : (if (a0.size : Int) > 2147483647 then (some true) else (if (a0.size : Int) > 1000 then (some true) else ((impl_NameOfPath.f k a0).bind fun t146 => (if 2 + t146.size ≤ 9223372036854775807 then ((spec_EntityName.f k ((⟨#[97, 46]⟩ : ByteArray) ++ t146)).bind fun bt147 => (if bt147.2 = true then (if (bt147.1.length : Int) = 2 then ((impl_NameOfPath.f k (⟨#[120, 47, 114, 101, 97, 99, 116, 46, 106, 115]⟩ : ByteArray)).bind fun t151 => (some (t151.toList == ([114, 101, 97, 99, 116] : List UInt8)))) else (some false)) else (some false))) else (none))))) = some r := h
  clear h
  by_cases c2 : (a0.size : Int) > 2147483647
  · rw [if_pos c2] at H
    have c2b0 : decide (2147483647 < (a0.size : Int)) = true := decide_eq_true c2
    have c2b1 : decide (2147483647 < a0.size) = true := decide_eq_true (by omega)
    clear c2
    obtain rfl := Option.some.inj H
    go_enter Try.func3, Try.ntmps3
    go_wp2
    go_ret
    exact ⟨by first | rfl | (simp [errW_none, errW_some] <;> rfl) | (simp [*, errW_none, errW_some] <;> rfl), by repeat (first | (with_reducible first | exact HB.out | apply below_alloc | apply pw_below_drewN | apply below_drew1) | exact HB.out)⟩
  · rw [if_neg c2] at H
    have c2b0 : decide (2147483647 < (a0.size : Int)) = false := decide_eq_false c2
    have c2b1 : decide (2147483647 < a0.size) = false := decide_eq_false (by omega)
    clear c2
    by_cases c3 : (a0.size : Int) > 1000
    · rw [if_pos c3] at H
      have c3b0 : decide (1000 < (a0.size : Int)) = true := decide_eq_true c3
      have c3b1 : decide (1000 < a0.size) = true := decide_eq_true (by omega)
      clear c3
      obtain rfl := Option.some.inj H
      go_enter Try.func3, Try.ntmps3
      go_wp2
      go_ret
      exact ⟨by first | rfl | (simp [errW_none, errW_some] <;> rfl) | (simp [*, errW_none, errW_some] <;> rfl), by repeat (first | (with_reducible first | exact HB.out | apply below_alloc | apply pw_below_drewN | apply below_drew1) | exact HB.out)⟩
    · rw [if_neg c3] at H
      have c3b0 : decide (1000 < (a0.size : Int)) = false := decide_eq_false c3
      have c3b1 : decide (1000 < a0.size) = false := decide_eq_false (by omega)
      clear c3
      replace H := Option.bind_eq_some_iff.mp H
      obtain ⟨t146, A40, H⟩ := H
      replace H : (if 2 + t146.size ≤ 9223372036854775807 then ((spec_EntityName.f k ((⟨#[97, 46]⟩ : ByteArray) ++ t146)).bind fun bt147 => (if bt147.2 = true then (if (bt147.1.length : Int) = 2 then ((impl_NameOfPath.f k (⟨#[120, 47, 114, 101, 97, 99, 116, 46, 106, 115]⟩ : ByteArray)).bind fun t151 => (some (t151.toList == ([114, 101, 97, 99, 116] : List UInt8)))) else (some false)) else (some false))) else (none)) = some r := H
      have A4 := Aside0.mk A40
      clear A40
      by_cases c5 : 2 + t146.size ≤ 9223372036854775807
      · rw [if_pos c5] at H
        have c5b0 := eq_true c5
        have c5b1 : decide (2 + t146.size ≤ 9223372036854775807) = true := decide_eq_true c5
        try have c5b2 : (9223372036854775807 < 2 + t146.size) = False := eq_false (Nat.not_lt.2 c5)
        replace H := Option.bind_eq_some_iff.mp H
        obtain ⟨⟨t147, t148⟩, A60, H⟩ := H
        replace H : (if t148 = true then (if (t147.length : Int) = 2 then ((impl_NameOfPath.f k (⟨#[120, 47, 114, 101, 97, 99, 116, 46, 106, 115]⟩ : ByteArray)).bind fun t151 => (some (t151.toList == ([114, 101, 97, 99, 116] : List UInt8)))) else (some false)) else (some false)) = some r := H
        have A6 := Aside0.mk A60
        clear A60
        by_cases c7 : t148 = true
        · subst c7
          have H1 : (if (t147.length : Int) = 2 then ((impl_NameOfPath.f k (⟨#[120, 47, 114, 101, 97, 99, 116, 46, 106, 115]⟩ : ByteArray)).bind fun t151 => (some (t151.toList == ([114, 101, 97, 99, 116] : List UInt8)))) else (some false)) = some r := by rw [if_pos rfl] at H; exact H
          clear H
          have H := H1
          clear H1
          by_cases c8 : (t147.length : Int) = 2
          · rw [if_pos c8] at H
            have c8b0 : ((t147.length : Int) == 2) = true := beq_iff_eq.mpr c8
            have c8b1 : ((t147.length : Int) != 2) = false := bne_eq_false_iff_eq.mpr c8
            clear c8
            replace H := Option.bind_eq_some_iff.mp H
            obtain ⟨t151, A90, H⟩ := H
            replace H : (some (t151.toList == ([114, 101, 97, 99, 116] : List UInt8))) = some r := H
            have A9 := Aside0.mk A90
            clear A90
            obtain rfl := Option.some.inj H
            go_enter Try.func3, Try.ntmps3
            go_wp2_with (first | ((with_reducible refine gate_callee (f := 4) rfl ?_); refine goesL_ (some 13) rfl rfl Try.func4 (by kernel_rfl) rfl #[.string a0] rfl (by (try simp only [List.map_toArray, List.map_cons, List.map_nil]); first | done | rfl | (simp only [List.length_drop, List.length_take]; rfl)) ?_; (with_reducible refine (impl_NameOfPath.calls k a0 t146 _ A4.out).mono ?_); rintro e w10 ⟨rfl, hb⟩; refine ⟨_, rfl, ?_⟩; have n0_ := Aside0.mk (below_step (by repeat (first | (with_reducible first | exact HB.out | apply below_alloc | apply pw_below_drewN | apply below_drew1) | exact HB.out)) hb); clear HB; have HB := n0_; clear n0_; (try clear hb); (try clear hb2); (try clear hk); (try clear hi)) | ((with_reducible refine gate_callee (f := 5) rfl ?_); refine goesL_ (some 17) rfl rfl Try.func5 (by kernel_rfl) rfl #[.string ((⟨#[97, 46]⟩ : ByteArray) ++ t146)] rfl (by (try simp only [List.map_toArray, List.map_cons, List.map_nil]); first | done | rfl | (simp only [List.length_drop, List.length_take]; rfl)) ?_; (with_reducible refine (spec_EntityName.calls k ((⟨#[97, 46]⟩ : ByteArray) ++ t146) t147 true _ A6.out).mono ?_); rintro e w11 ⟨v149, rfl, ho0, hb⟩; refine ⟨_, rfl, ?_⟩; have n0_ := Aside0.mk (Kd.R_lower ho0 (below_size (by repeat (first | (with_reducible first | exact HB.out | apply below_alloc | apply pw_below_drewN | apply below_drew1) | exact HB.out)))); have n1_ := Aside0.mk (below_step (by repeat (first | (with_reducible first | exact HB.out | apply below_alloc | apply pw_below_drewN | apply below_drew1) | exact HB.out)) hb); clear HB; have HO150 := n0_; have HB := n1_; clear n0_ n1_; (try clear hb); (try clear hb2); (try clear hk); (try clear hi); (try clear ho0); obtain ⟨Ao12, co12, eo12⟩ := Kd.R_slice HO150.out; subst eo12) | (go_at_call 4; (with_reducible refine (impl_NameOfPath.calls k (⟨#[120, 47, 114, 101, 97, 99, 116, 46, 106, 115]⟩ : ByteArray) t151 _ A9.out).mono ?_); rintro e w13 ⟨rfl, hb⟩; have n0_ := Aside0.mk (Kd.R_below (by (with_reducible repeat (first | apply Kd.R_alloc | apply Kd.R_drewN | apply Kd.R_drew)); exact HO150.out) hb); have n1_ := Aside0.mk (below_step (by repeat (first | (with_reducible first | exact HB.out | apply below_alloc | apply pw_below_drewN | apply below_drew1) | exact HB.out)) hb); clear HO150; clear HB; have HO150 := n0_; have HB := n1_; clear n0_ n1_; (try clear hb); (try clear hb2); (try clear hk); (try clear hi)))
            go_ret
            exact ⟨by first | rfl | (simp [errW_none, errW_some] <;> rfl) | (simp [*, errW_none, errW_some] <;> rfl), by repeat (first | (with_reducible first | exact HB.out | apply below_alloc | apply pw_below_drewN | apply below_drew1) | exact HB.out)⟩
          · rw [if_neg c8] at H
            have c8b0 : ((t147.length : Int) == 2) = false := beq_eq_false_iff_ne.mpr c8
            have c8b1 : ((t147.length : Int) != 2) = true := bne_iff_ne.mpr c8
            obtain rfl := Option.some.inj H
            go_enter Try.func3, Try.ntmps3
            go_wp2_with (first | ((with_reducible refine gate_callee (f := 4) rfl ?_); refine goesL_ (some 13) rfl rfl Try.func4 (by kernel_rfl) rfl #[.string a0] rfl (by (try simp only [List.map_toArray, List.map_cons, List.map_nil]); first | done | rfl | (simp only [List.length_drop, List.length_take]; rfl)) ?_; (with_reducible refine (impl_NameOfPath.calls k a0 t146 _ A4.out).mono ?_); rintro e w14 ⟨rfl, hb⟩; refine ⟨_, rfl, ?_⟩; have n0_ := Aside0.mk (below_step (by repeat (first | (with_reducible first | exact HB.out | apply below_alloc | apply pw_below_drewN | apply below_drew1) | exact HB.out)) hb); clear HB; have HB := n0_; clear n0_; (try clear hb); (try clear hb2); (try clear hk); (try clear hi)) | ((with_reducible refine gate_callee (f := 5) rfl ?_); refine goesL_ (some 17) rfl rfl Try.func5 (by kernel_rfl) rfl #[.string ((⟨#[97, 46]⟩ : ByteArray) ++ t146)] rfl (by (try simp only [List.map_toArray, List.map_cons, List.map_nil]); first | done | rfl | (simp only [List.length_drop, List.length_take]; rfl)) ?_; (with_reducible refine (spec_EntityName.calls k ((⟨#[97, 46]⟩ : ByteArray) ++ t146) t147 true _ A6.out).mono ?_); rintro e w15 ⟨v149, rfl, ho0, hb⟩; refine ⟨_, rfl, ?_⟩; have n0_ := Aside0.mk (Kd.R_lower ho0 (below_size (by repeat (first | (with_reducible first | exact HB.out | apply below_alloc | apply pw_below_drewN | apply below_drew1) | exact HB.out)))); have n1_ := Aside0.mk (below_step (by repeat (first | (with_reducible first | exact HB.out | apply below_alloc | apply pw_below_drewN | apply below_drew1) | exact HB.out)) hb); clear HB; have HO150 := n0_; have HB := n1_; clear n0_ n1_; (try clear hb); (try clear hb2); (try clear hk); (try clear hi); (try clear ho0); obtain ⟨Ao16, co16, eo16⟩ := Kd.R_slice HO150.out; subst eo16))
            go_ret
            exact ⟨by first | rfl | (simp [errW_none, errW_some] <;> rfl) | (simp [*, errW_none, errW_some] <;> rfl), by repeat (first | (with_reducible first | exact HB.out | apply below_alloc | apply pw_below_drewN | apply below_drew1) | exact HB.out)⟩
        · replace c7 := Bool.eq_false_iff.mpr c7
          subst c7
          have H1 : (some false) = some r := by rw [if_neg (show ¬ (false = true) by decide)] at H; exact H
          clear H
          have H := H1
          clear H1
          obtain rfl := Option.some.inj H
          go_enter Try.func3, Try.ntmps3
          go_wp2_with (first | ((with_reducible refine gate_callee (f := 4) rfl ?_); refine goesL_ (some 13) rfl rfl Try.func4 (by kernel_rfl) rfl #[.string a0] rfl (by (try simp only [List.map_toArray, List.map_cons, List.map_nil]); first | done | rfl | (simp only [List.length_drop, List.length_take]; rfl)) ?_; (with_reducible refine (impl_NameOfPath.calls k a0 t146 _ A4.out).mono ?_); rintro e w17 ⟨rfl, hb⟩; refine ⟨_, rfl, ?_⟩; have n0_ := Aside0.mk (below_step (by repeat (first | (with_reducible first | exact HB.out | apply below_alloc | apply pw_below_drewN | apply below_drew1) | exact HB.out)) hb); clear HB; have HB := n0_; clear n0_; (try clear hb); (try clear hb2); (try clear hk); (try clear hi)) | ((with_reducible refine gate_callee (f := 5) rfl ?_); refine goesL_ (some 17) rfl rfl Try.func5 (by kernel_rfl) rfl #[.string ((⟨#[97, 46]⟩ : ByteArray) ++ t146)] rfl (by (try simp only [List.map_toArray, List.map_cons, List.map_nil]); first | done | rfl | (simp only [List.length_drop, List.length_take]; rfl)) ?_; (with_reducible refine (spec_EntityName.calls k ((⟨#[97, 46]⟩ : ByteArray) ++ t146) t147 false _ A6.out).mono ?_); rintro e w18 ⟨v149, rfl, ho0, hb⟩; refine ⟨_, rfl, ?_⟩; have n0_ := Aside0.mk (Kd.R_lower ho0 (below_size (by repeat (first | (with_reducible first | exact HB.out | apply below_alloc | apply pw_below_drewN | apply below_drew1) | exact HB.out)))); have n1_ := Aside0.mk (below_step (by repeat (first | (with_reducible first | exact HB.out | apply below_alloc | apply pw_below_drewN | apply below_drew1) | exact HB.out)) hb); clear HB; have HO150 := n0_; have HB := n1_; clear n0_ n1_; (try clear hb); (try clear hb2); (try clear hk); (try clear hi); (try clear ho0)))
          go_ret
          exact ⟨by first | rfl | (simp [errW_none, errW_some] <;> rfl) | (simp [*, errW_none, errW_some] <;> rfl), by repeat (first | (with_reducible first | exact HB.out | apply below_alloc | apply pw_below_drewN | apply below_drew1) | exact HB.out)⟩
      · rw [if_neg c5] at H
        exact absurd H (by simp)

/-- THE ONE PURE STATEMENT of laws_FnNameOfPath: yours. -/
def laws_FnNameOfPath.Pure : Prop := ∀ (a0 : ByteArray), a0.size ≤ 140737488351232 → ∃ k, laws_FnNameOfPath.f k a0 = some true
theorem laws_FnNameOfPath.walk (P : laws_FnNameOfPath.Pure) (a0 : ByteArray) (w : World) (w0 : a0.size ≤ 140737488351232) :
    Calls Try.prog 3 #[.string a0] w fun e w' => e = .returned (.bool true) ∧ Below w.heap.size w w' := by
  obtain ⟨k, h⟩ := P a0 w0
  refine (laws_FnNameOfPath.calls k a0 true w h).mono ?_
  rintro e w' ⟨rfl, hd⟩
  exact ⟨rfl, hd⟩

end Go.Proofs.Ytbcljhedleemdaa.PFnNameOfPath
