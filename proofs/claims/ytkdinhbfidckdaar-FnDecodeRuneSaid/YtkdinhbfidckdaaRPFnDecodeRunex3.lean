-- PRINTED BY print.sh 35421559b90ae4d0a3588c463048766b98c2df88dd9212a6774a882060cdf62d: not written by this session
import Derived.Test.YtkdinhbfidckdaaRPFnDecodeRunex0
import Derived.Test.YtkdinhbfidckdaaRPFnDecodeRunex1
import Derived.Test.YtkdinhbfidckdaaRPFnDecodeRunex2
namespace Go.Proofs.YtkdinhbfidckdaaR.PFnDecodeRune
open Go.RowKit Go.Proofs.YtkdinhbfidckdaaRW.PrintWords Go.Proofs.YtkdinhbfidckdaaRW.PrintLast Go.Proofs.YtkdinhbfidckdaaRW.PrintMore
attribute [local go_sem] max2_int min2_int max_two min_two max_three min_three max_four min_four   -- for this text's walks alone
set_option linter.unusedVariables false
set_option linter.unusedSimpArgs false

/-! ### laws_FnDecodeRune: function 10 -/
def laws_FnDecodeRune.j0 : Nat → ByteArray → Bool → Option (Bool)
  | 0, _, _ => none
  | k + 1, x0, x5 => (impl_DecodeRune.f k x0).bind fun bt107 => ((spec_WtfRune.f k x0).bind fun bt109 => (if bt109.2 > 0 then (if (wrap64 (bt107.1)) = bt109.1 then (if bt107.2 = bt109.2 then (some x5) else (some false)) else (some false)) else (if x0.toList = ([] : List UInt8) then (if bt107.1 = 65533 then (if bt107.2 = 0 then (some x5) else (some false)) else (some false)) else (some x5))))
def laws_FnDecodeRune.f (k : Nat) (a0 : ByteArray) : Option (Bool) := if (a0.size : Int) > 2147483647 then (some true) else ((impl_DecodeRune.f k (⟨#[237, 176, 128, 33]⟩ : ByteArray)).bind fun bt105 => (if bt105.1 = 56320 then (laws_FnDecodeRune.j0 k a0 (bt105.2 == 3)) else (laws_FnDecodeRune.j0 k a0 false)))
theorem laws_FnDecodeRune.mono_l : ∀ k, (∀ y0 y1, LeO (laws_FnDecodeRune.j0 k y0 y1) (laws_FnDecodeRune.j0 (k + 1) y0 y1))
  | 0 => fun _ _ r h => by simp [laws_FnDecodeRune.j0] at h
  | k + 1 => by
    have ih0 := laws_FnDecodeRune.mono_l k
    · intro y0 y1
      unfold laws_FnDecodeRune.j0
      repeat' first
      | (with_reducible exact ih0 _ _)
      | (with_reducible exact impl_DecodeRune.mono _ _)
      | (with_reducible exact spec_WtfRune.mono _ _)
      | (with_reducible exact LeO.refl _)
      | (with_reducible exact LeO.none _)
      | (with_reducible refine LeO.ite ?_ ?_)
      | (with_reducible refine LeO.bind ?_ (fun _ => ?_))
      | exact ih0 _ _
      | exact impl_DecodeRune.mono _ _
      | exact spec_WtfRune.mono _ _
      | exact LeO.none _
      | refine LeO.ite ?_ ?_
      | refine LeO.bind ?_ (fun _ => ?_)
theorem laws_FnDecodeRune.mono : ∀ a0 k, LeO (laws_FnDecodeRune.f k a0) (laws_FnDecodeRune.f (k + 1) a0) := by
  intro a0 k
  have ih0 := laws_FnDecodeRune.mono_l k
  unfold laws_FnDecodeRune.f
  repeat' first
      | (with_reducible exact ih0 _ _)
      | (with_reducible exact impl_DecodeRune.mono _ _)
      | (with_reducible exact spec_WtfRune.mono _ _)
      | (with_reducible exact LeO.refl _)
      | (with_reducible exact LeO.none _)
      | (with_reducible refine LeO.ite ?_ ?_)
      | (with_reducible refine LeO.bind ?_ (fun _ => ?_))
      | exact ih0 _ _
      | exact impl_DecodeRune.mono _ _
      | exact spec_WtfRune.mono _ _
      | exact LeO.none _
      | refine LeO.ite ?_ ?_
      | refine LeO.bind ?_ (fun _ => ?_)
set_option maxHeartbeats 8000000 in
set_option maxRecDepth 100000 in
theorem laws_FnDecodeRune.calls (k : Nat) (a0 : ByteArray) (r : Bool) (w : World) (h : laws_FnDecodeRune.f k a0 = some r) :
    Calls Try.prog 10 #[.string a0] w fun e w' => e = .returned (.bool r) ∧ Drawn0 w w' := by
  have H : (if (a0.size : Int) > 2147483647 then (some true) else ((impl_DecodeRune.f k (⟨#[237, 176, 128, 33]⟩ : ByteArray)).bind fun bt105 => (if bt105.1 = 56320 then (laws_FnDecodeRune.j0 k a0 (bt105.2 == 3)) else (laws_FnDecodeRune.j0 k a0 false)))) = some r := h
  clear h
  by_cases c2 : (a0.size : Int) > 2147483647
  · rw [if_pos c2] at H
    have c2b0 : decide (2147483647 < (a0.size : Int)) = true := decide_eq_true c2
    have c2b1 : decide (2147483647 < a0.size) = true := decide_eq_true (by omega)
    clear c2
    obtain rfl := Option.some.inj H
    go_enter Try.func10, Try.ntmps10
    go_wp2
    go_ret
    exact ⟨by first | rfl | (simp; done) | (simp [*]; done), by repeat (first | exact Drawn0.refl _ | apply Drawn0.step)⟩
  · rw [if_neg c2] at H
    have c2b0 : decide (2147483647 < (a0.size : Int)) = false := decide_eq_false c2
    have c2b1 : decide (2147483647 < a0.size) = false := decide_eq_false (by omega)
    clear c2
    replace H := Option.bind_eq_some_iff.mp H
    obtain ⟨⟨t105, t106⟩, A30, H⟩ := H
    replace H : (if t105 = 56320 then (laws_FnDecodeRune.j0 k a0 (t106 == 3)) else (laws_FnDecodeRune.j0 k a0 false)) = some r := H
    have A3 := Aside0.mk A30
    clear A30
    have HC4 := Aside0.mk H
    clear H
    go_enter Try.func10, Try.ntmps10
    go_upto_region 4 with (first | ((with_reducible refine gate_callee (f := 29) rfl ?_); refine goesL_ (some 14) rfl rfl Try.func29 (by kernel_rfl) rfl #[.string (⟨#[237, 176, 128, 33]⟩ : ByteArray)] rfl (by (try simp only [List.map_toArray, List.map_cons, List.map_nil]); first | done | rfl | (simp only [List.length_drop, List.length_take]; rfl)) ?_; (with_reducible refine (impl_DecodeRune.calls k (⟨#[237, 176, 128, 33]⟩ : ByteArray) t105 t106 _ A3.out).mono ?_); rintro e w' ⟨rfl, ⟨nd, rfl⟩⟩; refine ⟨_, rfl, ?_⟩))
    (try simp only [Act.put, List.setIfInBounds_toArray, List.set_cons_zero, List.set_cons_succ])
    go_cut [5] (fun v5 wc => ∃ (kq : Nat) (x5_3 : Bool), v5 = .bool x5_3 ∧ Aside0 (laws_FnDecodeRune.j0 kq a0 x5_3 = some r) ∧ Aside0 (kq ≤ k) ∧ Drawn0 w wc)
    case first =>
      have H := HC4.out
      clear HC4
      by_cases c5 : t105 = 56320
      · rw [if_pos c5] at H
        have c5b0 : (t105 == 56320) = true := beq_iff_eq.mpr c5
        have c5b1 : (t105 != 56320) = false := bne_eq_false_iff_eq.mpr c5
        clear c5
        (first | rw [c5b0] | (simp only [i64_w, i32_w]; rw [c5b0]) | skip)
        have H' := Aside0.mk H
        clear H
        go_wp2
        go_meet
        case rel => exact ⟨_, ((t106 == 3)), (by first | rfl | (simp; done) | (simp [*]; done)), H', ⟨by first | omega | exact Nat.le_refl _⟩, by repeat (first | exact Drawn0.refl _ | apply Drawn0.step)⟩
      · rw [if_neg c5] at H
        have c5b0 : (t105 == 56320) = false := beq_eq_false_iff_ne.mpr c5
        have c5b1 : (t105 != 56320) = true := bne_iff_ne.mpr c5
        (first | rw [c5b0] | (simp only [i64_w, i32_w]; rw [c5b0]) | skip)
        have H' := Aside0.mk H
        clear H
        go_wp2
        go_meet
        case rel => exact ⟨_, (false), (by first | rfl | (simp; done) | (simp [*]; done)), H', ⟨by first | omega | exact Nat.le_refl _⟩, by repeat (first | exact Drawn0.refl _ | apply Drawn0.step)⟩
    case rest =>
      clear HC4
      try clear c1
      try clear c2
      try clear c2b0
      try clear c2b1
      try clear p2
      try clear c5
      try clear c5b0
      try clear c5b1
      obtain ⟨kq, x5_3, rfl, HA, HJ3, ⟨mc3, rfl⟩⟩ := hcut
      cases kq with
      | zero => exact absurd HA.out (by simp [laws_FnDecodeRune.j0])
      | succ kj3 =>
        have H := HA.out
        clear HA
        simp only [laws_FnDecodeRune.j0] at H
        replace H := Option.bind_eq_some_iff.mp H
        obtain ⟨⟨t107, t108⟩, A60, H⟩ := H
        replace H : ((spec_WtfRune.f kj3 a0).bind fun bt109 => (if bt109.2 > 0 then (if (wrap64 (t107)) = bt109.1 then (if t108 = bt109.2 then (some x5_3) else (some false)) else (some false)) else (if a0.toList = ([] : List UInt8) then (if t107 = 65533 then (if t108 = 0 then (some x5_3) else (some false)) else (some false)) else (some x5_3)))) = some r := H
        have A6 := Aside0.mk A60
        clear A60
        replace H := Option.bind_eq_some_iff.mp H
        obtain ⟨⟨t109, t110⟩, A70, H⟩ := H
        replace H : (if t110 > 0 then (if (wrap64 (t107)) = t109 then (if t108 = t110 then (some x5_3) else (some false)) else (some false)) else (if a0.toList = ([] : List UInt8) then (if t107 = 65533 then (if t108 = 0 then (some x5_3) else (some false)) else (some false)) else (some x5_3))) = some r := H
        have A7 := Aside0.mk A70
        clear A70
        by_cases c8 : t110 > 0
        · rw [if_pos c8] at H
          have c8b0 : decide (0 < t110) = true := decide_eq_true c8
          clear c8
          by_cases c9 : (wrap64 (t107)) = t109
          · rw [if_pos c9] at H
            have c9b0 : ((wrap64 (t107)) == t109) = true := beq_iff_eq.mpr c9
            have c9b1 : ((wrap64 (t107)) != t109) = false := bne_eq_false_iff_eq.mpr c9
            clear c9
            by_cases c10 : t108 = t110
            · rw [if_pos c10] at H
              have c10b0 : (t108 == t110) = true := beq_iff_eq.mpr c10
              have c10b1 : (t108 != t110) = false := bne_eq_false_iff_eq.mpr c10
              clear c10
              obtain rfl := Option.some.inj H
              go_wp2_with (first | ((with_reducible refine gate_callee (f := 29) rfl ?_); refine goesL_ (some 25) rfl rfl Try.func29 (by kernel_rfl) rfl #[.string a0] rfl (by (try simp only [List.map_toArray, List.map_cons, List.map_nil]); first | done | rfl | (simp only [List.length_drop, List.length_take]; rfl)) ?_; (with_reducible refine (impl_DecodeRune.calls kj3 a0 t107 t108 _ A6.out).mono ?_); rintro e w' ⟨rfl, ⟨nd, rfl⟩⟩; refine ⟨_, rfl, ?_⟩) | ((with_reducible refine gate_callee (f := 30) rfl ?_); refine goesL_ (some 30) rfl rfl Try.func30 (by kernel_rfl) rfl #[.string a0] rfl (by (try simp only [List.map_toArray, List.map_cons, List.map_nil]); first | done | rfl | (simp only [List.length_drop, List.length_take]; rfl)) ?_; (with_reducible refine (spec_WtfRune.calls kj3 a0 t109 t110 _ A7.out).mono ?_); rintro e w' ⟨rfl, ⟨nd, rfl⟩⟩; refine ⟨_, rfl, ?_⟩))
              go_ret
              exact ⟨by first | rfl | (simp; done) | (simp [*]; done), by repeat (first | exact Drawn0.refl _ | apply Drawn0.step)⟩
            · rw [if_neg c10] at H
              have c10b0 : (t108 == t110) = false := beq_eq_false_iff_ne.mpr c10
              have c10b1 : (t108 != t110) = true := bne_iff_ne.mpr c10
              obtain rfl := Option.some.inj H
              go_wp2_with (first | ((with_reducible refine gate_callee (f := 29) rfl ?_); refine goesL_ (some 25) rfl rfl Try.func29 (by kernel_rfl) rfl #[.string a0] rfl (by (try simp only [List.map_toArray, List.map_cons, List.map_nil]); first | done | rfl | (simp only [List.length_drop, List.length_take]; rfl)) ?_; (with_reducible refine (impl_DecodeRune.calls kj3 a0 t107 t108 _ A6.out).mono ?_); rintro e w' ⟨rfl, ⟨nd, rfl⟩⟩; refine ⟨_, rfl, ?_⟩) | ((with_reducible refine gate_callee (f := 30) rfl ?_); refine goesL_ (some 30) rfl rfl Try.func30 (by kernel_rfl) rfl #[.string a0] rfl (by (try simp only [List.map_toArray, List.map_cons, List.map_nil]); first | done | rfl | (simp only [List.length_drop, List.length_take]; rfl)) ?_; (with_reducible refine (spec_WtfRune.calls kj3 a0 t109 t110 _ A7.out).mono ?_); rintro e w' ⟨rfl, ⟨nd, rfl⟩⟩; refine ⟨_, rfl, ?_⟩))
              go_ret
              exact ⟨by first | rfl | (simp; done) | (simp [*]; done), by repeat (first | exact Drawn0.refl _ | apply Drawn0.step)⟩
          · rw [if_neg c9] at H
            have c9b0 : ((wrap64 (t107)) == t109) = false := beq_eq_false_iff_ne.mpr c9
            have c9b1 : ((wrap64 (t107)) != t109) = true := bne_iff_ne.mpr c9
            obtain rfl := Option.some.inj H
            go_wp2_with (first | ((with_reducible refine gate_callee (f := 29) rfl ?_); refine goesL_ (some 25) rfl rfl Try.func29 (by kernel_rfl) rfl #[.string a0] rfl (by (try simp only [List.map_toArray, List.map_cons, List.map_nil]); first | done | rfl | (simp only [List.length_drop, List.length_take]; rfl)) ?_; (with_reducible refine (impl_DecodeRune.calls kj3 a0 t107 t108 _ A6.out).mono ?_); rintro e w' ⟨rfl, ⟨nd, rfl⟩⟩; refine ⟨_, rfl, ?_⟩) | ((with_reducible refine gate_callee (f := 30) rfl ?_); refine goesL_ (some 30) rfl rfl Try.func30 (by kernel_rfl) rfl #[.string a0] rfl (by (try simp only [List.map_toArray, List.map_cons, List.map_nil]); first | done | rfl | (simp only [List.length_drop, List.length_take]; rfl)) ?_; (with_reducible refine (spec_WtfRune.calls kj3 a0 t109 t110 _ A7.out).mono ?_); rintro e w' ⟨rfl, ⟨nd, rfl⟩⟩; refine ⟨_, rfl, ?_⟩))
            go_ret
            exact ⟨by first | rfl | (simp; done) | (simp [*]; done), by repeat (first | exact Drawn0.refl _ | apply Drawn0.step)⟩
        · rw [if_neg c8] at H
          have c8b0 : decide (0 < t110) = false := decide_eq_false c8
          clear c8
          by_cases c11 : a0.toList = ([] : List UInt8)
          · rw [if_pos c11] at H
            have c11b0 : (a0.toList == ([] : List UInt8)) = true := beq_iff_eq.mpr c11
            have c11b1 : (a0.toList != ([] : List UInt8)) = false := bne_eq_false_iff_eq.mpr c11
            clear c11
            by_cases c12 : t107 = 65533
            · rw [if_pos c12] at H
              have c12b0 : (t107 == 65533) = true := beq_iff_eq.mpr c12
              have c12b1 : (t107 != 65533) = false := bne_eq_false_iff_eq.mpr c12
              clear c12
              by_cases c13 : t108 = 0
              · rw [if_pos c13] at H
                have c13b0 : (t108 == 0) = true := beq_iff_eq.mpr c13
                have c13b1 : (t108 != 0) = false := bne_eq_false_iff_eq.mpr c13
                clear c13
                obtain rfl := Option.some.inj H
                go_wp2_with (first | ((with_reducible refine gate_callee (f := 29) rfl ?_); refine goesL_ (some 25) rfl rfl Try.func29 (by kernel_rfl) rfl #[.string a0] rfl (by (try simp only [List.map_toArray, List.map_cons, List.map_nil]); first | done | rfl | (simp only [List.length_drop, List.length_take]; rfl)) ?_; (with_reducible refine (impl_DecodeRune.calls kj3 a0 t107 t108 _ A6.out).mono ?_); rintro e w' ⟨rfl, ⟨nd, rfl⟩⟩; refine ⟨_, rfl, ?_⟩) | ((with_reducible refine gate_callee (f := 30) rfl ?_); refine goesL_ (some 30) rfl rfl Try.func30 (by kernel_rfl) rfl #[.string a0] rfl (by (try simp only [List.map_toArray, List.map_cons, List.map_nil]); first | done | rfl | (simp only [List.length_drop, List.length_take]; rfl)) ?_; (with_reducible refine (spec_WtfRune.calls kj3 a0 t109 t110 _ A7.out).mono ?_); rintro e w' ⟨rfl, ⟨nd, rfl⟩⟩; refine ⟨_, rfl, ?_⟩))
                go_ret
                exact ⟨by first | rfl | (simp; done) | (simp [*]; done), by repeat (first | exact Drawn0.refl _ | apply Drawn0.step)⟩
              · rw [if_neg c13] at H
                have c13b0 : (t108 == 0) = false := beq_eq_false_iff_ne.mpr c13
                have c13b1 : (t108 != 0) = true := bne_iff_ne.mpr c13
                obtain rfl := Option.some.inj H
                go_wp2_with (first | ((with_reducible refine gate_callee (f := 29) rfl ?_); refine goesL_ (some 25) rfl rfl Try.func29 (by kernel_rfl) rfl #[.string a0] rfl (by (try simp only [List.map_toArray, List.map_cons, List.map_nil]); first | done | rfl | (simp only [List.length_drop, List.length_take]; rfl)) ?_; (with_reducible refine (impl_DecodeRune.calls kj3 a0 t107 t108 _ A6.out).mono ?_); rintro e w' ⟨rfl, ⟨nd, rfl⟩⟩; refine ⟨_, rfl, ?_⟩) | ((with_reducible refine gate_callee (f := 30) rfl ?_); refine goesL_ (some 30) rfl rfl Try.func30 (by kernel_rfl) rfl #[.string a0] rfl (by (try simp only [List.map_toArray, List.map_cons, List.map_nil]); first | done | rfl | (simp only [List.length_drop, List.length_take]; rfl)) ?_; (with_reducible refine (spec_WtfRune.calls kj3 a0 t109 t110 _ A7.out).mono ?_); rintro e w' ⟨rfl, ⟨nd, rfl⟩⟩; refine ⟨_, rfl, ?_⟩))
                go_ret
                exact ⟨by first | rfl | (simp; done) | (simp [*]; done), by repeat (first | exact Drawn0.refl _ | apply Drawn0.step)⟩
            · rw [if_neg c12] at H
              have c12b0 : (t107 == 65533) = false := beq_eq_false_iff_ne.mpr c12
              have c12b1 : (t107 != 65533) = true := bne_iff_ne.mpr c12
              obtain rfl := Option.some.inj H
              go_wp2_with (first | ((with_reducible refine gate_callee (f := 29) rfl ?_); refine goesL_ (some 25) rfl rfl Try.func29 (by kernel_rfl) rfl #[.string a0] rfl (by (try simp only [List.map_toArray, List.map_cons, List.map_nil]); first | done | rfl | (simp only [List.length_drop, List.length_take]; rfl)) ?_; (with_reducible refine (impl_DecodeRune.calls kj3 a0 t107 t108 _ A6.out).mono ?_); rintro e w' ⟨rfl, ⟨nd, rfl⟩⟩; refine ⟨_, rfl, ?_⟩) | ((with_reducible refine gate_callee (f := 30) rfl ?_); refine goesL_ (some 30) rfl rfl Try.func30 (by kernel_rfl) rfl #[.string a0] rfl (by (try simp only [List.map_toArray, List.map_cons, List.map_nil]); first | done | rfl | (simp only [List.length_drop, List.length_take]; rfl)) ?_; (with_reducible refine (spec_WtfRune.calls kj3 a0 t109 t110 _ A7.out).mono ?_); rintro e w' ⟨rfl, ⟨nd, rfl⟩⟩; refine ⟨_, rfl, ?_⟩))
              go_ret
              exact ⟨by first | rfl | (simp; done) | (simp [*]; done), by repeat (first | exact Drawn0.refl _ | apply Drawn0.step)⟩
          · rw [if_neg c11] at H
            have c11b0 : (a0.toList == ([] : List UInt8)) = false := beq_eq_false_iff_ne.mpr c11
            have c11b1 : (a0.toList != ([] : List UInt8)) = true := bne_iff_ne.mpr c11
            obtain rfl := Option.some.inj H
            go_wp2_with (first | ((with_reducible refine gate_callee (f := 29) rfl ?_); refine goesL_ (some 25) rfl rfl Try.func29 (by kernel_rfl) rfl #[.string a0] rfl (by (try simp only [List.map_toArray, List.map_cons, List.map_nil]); first | done | rfl | (simp only [List.length_drop, List.length_take]; rfl)) ?_; (with_reducible refine (impl_DecodeRune.calls kj3 a0 t107 t108 _ A6.out).mono ?_); rintro e w' ⟨rfl, ⟨nd, rfl⟩⟩; refine ⟨_, rfl, ?_⟩) | ((with_reducible refine gate_callee (f := 30) rfl ?_); refine goesL_ (some 30) rfl rfl Try.func30 (by kernel_rfl) rfl #[.string a0] rfl (by (try simp only [List.map_toArray, List.map_cons, List.map_nil]); first | done | rfl | (simp only [List.length_drop, List.length_take]; rfl)) ?_; (with_reducible refine (spec_WtfRune.calls kj3 a0 t109 t110 _ A7.out).mono ?_); rintro e w' ⟨rfl, ⟨nd, rfl⟩⟩; refine ⟨_, rfl, ?_⟩))
            go_ret
            exact ⟨by first | rfl | (simp; done) | (simp [*]; done), by repeat (first | exact Drawn0.refl _ | apply Drawn0.step)⟩

/-- THE ONE PURE STATEMENT of laws_FnDecodeRune: yours. -/
def laws_FnDecodeRune.Pure : Prop := ∀ (a0 : ByteArray), a0.size ≤ 140737488351232 → ∃ k, laws_FnDecodeRune.f k a0 = some true
theorem laws_FnDecodeRune.walk (P : laws_FnDecodeRune.Pure) (a0 : ByteArray) (w : World) (w0 : a0.size ≤ 140737488351232) :
    Calls Try.prog 10 #[.string a0] w fun e w' => e = .returned (.bool true) ∧ Below w.heap.size w w' := by
  obtain ⟨k, h⟩ := P a0 w0
  refine (laws_FnDecodeRune.calls k a0 true w h).mono ?_
  rintro e w' ⟨rfl, hd⟩
  exact ⟨rfl, hd.below⟩

end Go.Proofs.YtkdinhbfidckdaaR.PFnDecodeRune
