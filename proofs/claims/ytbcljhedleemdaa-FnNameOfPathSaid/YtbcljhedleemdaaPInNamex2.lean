-- Written by printx.py of this session, over the kit's print, with contracts of this session for some functions
import Derived.Test.YtbcljhedleemdaaPInNamex0
import Derived.Test.YtbcljhedleemdaaPInNamex1
namespace Go.Proofs.Ytbcljhedleemdaa.PInName
open Go.RowKit Go.Proofs.YtbcljhedleemdaaW.PrintWords Go.Proofs.YtbcljhedleemdaaW.PrintLast Go.Proofs.YtbcljhedleemdaaW.PrintMore
attribute [local go_sem] max2_int min2_int max_two min_two max_three min_three max_four min_four   -- for this text's walks alone
set_option linter.unusedVariables false
set_option linter.unusedSimpArgs false

/-! ### spec_wide: function 44 -/
mutual
def spec_wide.j0 : Nat → Int → Bool → Option (Int)
  | 0, _, _ => none
  | k + 1, x0, x3 => if x3 = true then (some 1) else ((spec_between.f 913 x0 929).bind fun t104 => (if t104 = true then (spec_wide.j1 k x0 true) else ((spec_between.f 931 x0 1013).bind fun t105 => (if t105 = true then (spec_wide.j1 k x0 true) else ((spec_between.f 1040 x0 1103).bind fun t106 => (if t106 = true then (spec_wide.j1 k x0 true) else ((spec_between.f 1488 x0 1514).bind fun t107 => (if t107 = true then (spec_wide.j1 k x0 true) else ((spec_between.f 12353 x0 12438).bind fun t108 => (if t108 = true then (spec_wide.j1 k x0 true) else ((spec_between.f 19968 x0 40959).bind fun t109 => (if t109 = true then (spec_wide.j1 k x0 true) else ((spec_between.f 44032 x0 55203).bind fun t110 => (if t110 = true then (spec_wide.j1 k x0 true) else ((spec_between.f 66560 x0 66717).bind fun t111 => (if t111 = true then (spec_wide.j1 k x0 true) else ((spec_between.f 131072 x0 173791).bind fun t112 => (spec_wide.j1 k x0 t112))))))))))))))))))
def spec_wide.j1 : Nat → Int → Bool → Option (Int)
  | 0, _, _ => none
  | k + 1, x0, x22 => if x22 = true then (some 2) else ((spec_Blank.f x0).bind fun t113 => (if t113 = true then (some 0) else ((spec_LineEnd.f x0).bind fun t114 => (if t114 = true then (some 0) else ((spec_between.f 8208 x0 8231).bind fun t115 => (if t115 = true then (some 0) else ((spec_between.f 8240 x0 8254).bind fun t116 => (if t116 = true then (some 0) else ((spec_between.f 8592 x0 11263).bind fun t117 => (if t117 = true then (some 0) else ((spec_between.f 55296 x0 63743).bind fun t118 => (if t118 = true then (some 0) else ((spec_between.f 65520 x0 65535).bind fun t119 => (if t119 = true then (some 0) else ((spec_between.f 127744 x0 128591).bind fun t120 => (if t120 = true then (some 0) else (some 3)))))))))))))))))
end
def spec_wide.f (k : Nat) (a0 : Int) : Option (Int) := (spec_between.f 768 a0 879).bind fun t103 => (if t103 = true then (spec_wide.j0 k a0 true) else (if a0 = 8204 then (spec_wide.j0 k a0 true) else (if a0 = 8205 then (spec_wide.j0 k a0 true) else (if a0 = 8255 then (spec_wide.j0 k a0 true) else (spec_wide.j0 k a0 (a0 == 8256))))))
theorem spec_wide.mono_l : ∀ k, (∀ y0 y1, LeO (spec_wide.j0 k y0 y1) (spec_wide.j0 (k + 1) y0 y1)) ∧ (∀ y0 y1, LeO (spec_wide.j1 k y0 y1) (spec_wide.j1 (k + 1) y0 y1))
  | 0 => ⟨fun _ _ r h => by simp [spec_wide.j0] at h, fun _ _ r h => by simp [spec_wide.j1] at h⟩
  | k + 1 => by
    obtain ⟨ih0, ih1⟩ := spec_wide.mono_l k
    refine ⟨?_, ?_⟩
    · intro y0 y1
      unfold spec_wide.j0
      repeat' first
      | (with_reducible exact ih0 _ _)
      | (with_reducible exact ih1 _ _)
      | (with_reducible exact LeO.refl _)
      | (with_reducible exact LeO.none _)
      | (with_reducible refine LeO.ite ?_ ?_)
      | (with_reducible refine LeO.bind ?_ (fun _ => ?_))
      | exact ih0 _ _
      | exact ih1 _ _
      | exact LeO.none _
      | refine LeO.ite ?_ ?_
      | refine LeO.bind ?_ (fun _ => ?_)
    · intro y0 y1
      unfold spec_wide.j1
      repeat' first
      | (with_reducible exact ih0 _ _)
      | (with_reducible exact ih1 _ _)
      | (with_reducible exact LeO.refl _)
      | (with_reducible exact LeO.none _)
      | (with_reducible refine LeO.ite ?_ ?_)
      | (with_reducible refine LeO.bind ?_ (fun _ => ?_))
      | exact ih0 _ _
      | exact ih1 _ _
      | exact LeO.none _
      | refine LeO.ite ?_ ?_
      | refine LeO.bind ?_ (fun _ => ?_)
theorem spec_wide.mono : ∀ a0 k, LeO (spec_wide.f k a0) (spec_wide.f (k + 1) a0) := by
  intro a0 k
  obtain ⟨ih0, ih1⟩ := spec_wide.mono_l k
  unfold spec_wide.f
  repeat' first
      | (with_reducible exact ih0 _ _)
      | (with_reducible exact ih1 _ _)
      | (with_reducible exact LeO.refl _)
      | (with_reducible exact LeO.none _)
      | (with_reducible refine LeO.ite ?_ ?_)
      | (with_reducible refine LeO.bind ?_ (fun _ => ?_))
      | exact ih0 _ _
      | exact ih1 _ _
      | exact LeO.none _
      | refine LeO.ite ?_ ?_
      | refine LeO.bind ?_ (fun _ => ?_)
set_option maxHeartbeats 8000000 in
set_option maxRecDepth 100000 in
theorem spec_wide.calls (k : Nat) (a0 : Int) (r : Int) (w : World) (h : spec_wide.f k a0 = some r) :
    Calls Try.prog 44 #[.int .i64 a0] w fun e w' => e = .returned (.int .i64 r) ∧ Drawn0 w w' := by
  have H : ((spec_between.f 768 a0 879).bind fun t103 => (if t103 = true then (spec_wide.j0 k a0 true) else (if a0 = 8204 then (spec_wide.j0 k a0 true) else (if a0 = 8205 then (spec_wide.j0 k a0 true) else (if a0 = 8255 then (spec_wide.j0 k a0 true) else (spec_wide.j0 k a0 (a0 == 8256))))))) = some r := h
  clear h
  have HC2 := Aside0.mk H
  clear H
  go_enter Try.func44, Try.ntmps44
  go_upto_region 1 with (fail)
  go_cut [3] (fun v3 wc => ∃ (kq : Nat) (x3_1 : Bool), v3 = .bool x3_1 ∧ Aside0 (spec_wide.j0 kq a0 x3_1 = some r) ∧ Aside0 (kq ≤ k) ∧ Drawn0 w wc)
  case first =>
    have H := HC2.out
    clear HC2
    replace H := Option.bind_eq_some_iff.mp H
    obtain ⟨t103, A30, H⟩ := H
    replace H : (if t103 = true then (spec_wide.j0 k a0 true) else (if a0 = 8204 then (spec_wide.j0 k a0 true) else (if a0 = 8205 then (spec_wide.j0 k a0 true) else (if a0 = 8255 then (spec_wide.j0 k a0 true) else (spec_wide.j0 k a0 (a0 == 8256)))))) = some r := H
    have A3 := Aside0.mk A30
    clear A30
    by_cases c4 : t103 = true
    · subst c4
      have H1 : (spec_wide.j0 k a0 true) = some r := by rw [if_pos rfl] at H; exact H
      clear H
      have H := H1
      clear H1
      have H' := Aside0.mk H
      clear H
      go_wp2_with (first | ((with_reducible refine gate_callee (f := 35) rfl ?_); refine goesL_ (some 5) rfl rfl Try.func35 (by kernel_rfl) rfl #[.int .i64 768, .int .i64 a0, .int .i64 879] rfl (by (try simp only [List.map_toArray, List.map_cons, List.map_nil]); first | done | rfl | (simp only [List.length_drop, List.length_take]; rfl)) ?_; (with_reducible refine (spec_between.calls 768 a0 879 true _ A3.out).mono ?_); rintro e w' ⟨rfl, ⟨nd, rfl⟩⟩; refine ⟨_, rfl, ?_⟩))
      go_meet
      case rel => exact ⟨_, (true), (by first | rfl | (simp; done) | (simp [*]; done)), H', ⟨by first | omega | exact Nat.le_refl _⟩, by repeat (first | exact Drawn0.refl _ | apply Drawn0.step)⟩
    · replace c4 := Bool.eq_false_iff.mpr c4
      subst c4
      have H1 : (if a0 = 8204 then (spec_wide.j0 k a0 true) else (if a0 = 8205 then (spec_wide.j0 k a0 true) else (if a0 = 8255 then (spec_wide.j0 k a0 true) else (spec_wide.j0 k a0 (a0 == 8256))))) = some r := by rw [if_neg (show ¬ (false = true) by decide)] at H; exact H
      clear H
      have H := H1
      clear H1
      by_cases c5 : a0 = 8204
      · rw [if_pos c5] at H
        have c5b0 : (a0 == 8204) = true := beq_iff_eq.mpr c5
        have c5b1 : (a0 != 8204) = false := bne_eq_false_iff_eq.mpr c5
        clear c5
        (first | rw [c5b0] | (simp only [i64_w, i32_w]; rw [c5b0]) | skip)
        have H' := Aside0.mk H
        clear H
        go_wp2_with (first | ((with_reducible refine gate_callee (f := 35) rfl ?_); refine goesL_ (some 5) rfl rfl Try.func35 (by kernel_rfl) rfl #[.int .i64 768, .int .i64 a0, .int .i64 879] rfl (by (try simp only [List.map_toArray, List.map_cons, List.map_nil]); first | done | rfl | (simp only [List.length_drop, List.length_take]; rfl)) ?_; (with_reducible refine (spec_between.calls 768 a0 879 false _ A3.out).mono ?_); rintro e w' ⟨rfl, ⟨nd, rfl⟩⟩; refine ⟨_, rfl, ?_⟩))
        go_meet
        case rel => exact ⟨_, (true), (by first | rfl | (simp; done) | (simp [*]; done)), H', ⟨by first | omega | exact Nat.le_refl _⟩, by repeat (first | exact Drawn0.refl _ | apply Drawn0.step)⟩
      · rw [if_neg c5] at H
        have c5b0 : (a0 == 8204) = false := beq_eq_false_iff_ne.mpr c5
        have c5b1 : (a0 != 8204) = true := bne_iff_ne.mpr c5
        (first | rw [c5b0] | (simp only [i64_w, i32_w]; rw [c5b0]) | skip)
        by_cases c6 : a0 = 8205
        · rw [if_pos c6] at H
          have c6b0 : (a0 == 8205) = true := beq_iff_eq.mpr c6
          have c6b1 : (a0 != 8205) = false := bne_eq_false_iff_eq.mpr c6
          clear c6
          have H' := Aside0.mk H
          clear H
          go_wp2_with (first | ((with_reducible refine gate_callee (f := 35) rfl ?_); refine goesL_ (some 5) rfl rfl Try.func35 (by kernel_rfl) rfl #[.int .i64 768, .int .i64 a0, .int .i64 879] rfl (by (try simp only [List.map_toArray, List.map_cons, List.map_nil]); first | done | rfl | (simp only [List.length_drop, List.length_take]; rfl)) ?_; (with_reducible refine (spec_between.calls 768 a0 879 false _ A3.out).mono ?_); rintro e w' ⟨rfl, ⟨nd, rfl⟩⟩; refine ⟨_, rfl, ?_⟩))
          go_meet
          case rel => exact ⟨_, (true), (by first | rfl | (simp; done) | (simp [*]; done)), H', ⟨by first | omega | exact Nat.le_refl _⟩, by repeat (first | exact Drawn0.refl _ | apply Drawn0.step)⟩
        · rw [if_neg c6] at H
          have c6b0 : (a0 == 8205) = false := beq_eq_false_iff_ne.mpr c6
          have c6b1 : (a0 != 8205) = true := bne_iff_ne.mpr c6
          by_cases c7 : a0 = 8255
          · rw [if_pos c7] at H
            have c7b0 : (a0 == 8255) = true := beq_iff_eq.mpr c7
            have c7b1 : (a0 != 8255) = false := bne_eq_false_iff_eq.mpr c7
            clear c7
            have H' := Aside0.mk H
            clear H
            go_wp2_with (first | ((with_reducible refine gate_callee (f := 35) rfl ?_); refine goesL_ (some 5) rfl rfl Try.func35 (by kernel_rfl) rfl #[.int .i64 768, .int .i64 a0, .int .i64 879] rfl (by (try simp only [List.map_toArray, List.map_cons, List.map_nil]); first | done | rfl | (simp only [List.length_drop, List.length_take]; rfl)) ?_; (with_reducible refine (spec_between.calls 768 a0 879 false _ A3.out).mono ?_); rintro e w' ⟨rfl, ⟨nd, rfl⟩⟩; refine ⟨_, rfl, ?_⟩))
            go_meet
            case rel => exact ⟨_, (true), (by first | rfl | (simp; done) | (simp [*]; done)), H', ⟨by first | omega | exact Nat.le_refl _⟩, by repeat (first | exact Drawn0.refl _ | apply Drawn0.step)⟩
          · rw [if_neg c7] at H
            have c7b0 : (a0 == 8255) = false := beq_eq_false_iff_ne.mpr c7
            have c7b1 : (a0 != 8255) = true := bne_iff_ne.mpr c7
            have H' := Aside0.mk H
            clear H
            go_wp2_with (first | ((with_reducible refine gate_callee (f := 35) rfl ?_); refine goesL_ (some 5) rfl rfl Try.func35 (by kernel_rfl) rfl #[.int .i64 768, .int .i64 a0, .int .i64 879] rfl (by (try simp only [List.map_toArray, List.map_cons, List.map_nil]); first | done | rfl | (simp only [List.length_drop, List.length_take]; rfl)) ?_; (with_reducible refine (spec_between.calls 768 a0 879 false _ A3.out).mono ?_); rintro e w' ⟨rfl, ⟨nd, rfl⟩⟩; refine ⟨_, rfl, ?_⟩))
            go_meet
            case rel => exact ⟨_, ((a0 == 8256)), (by first | rfl | (simp; done) | (simp [*]; done)), H', ⟨by first | omega | exact Nat.le_refl _⟩, by repeat (first | exact Drawn0.refl _ | apply Drawn0.step)⟩
  case rest =>
    clear HC2
    try clear p2
    try clear c3
    try clear c4
    try clear c5
    try clear c5b0
    try clear c5b1
    try clear c6
    try clear c6b0
    try clear c6b1
    try clear c7
    try clear c7b0
    try clear c7b1
    obtain ⟨kq, x3_1, rfl, HA, HJ1, ⟨mc1, rfl⟩⟩ := hcut
    cases kq with
    | zero => exact absurd HA.out (by simp [spec_wide.j0])
    | succ kj1 =>
      have H := HA.out
      clear HA
      simp only [spec_wide.j0] at H
      by_cases c8 : x3_1 = true
      · subst c8
        have H1 : (some 1) = some r := by rw [if_pos rfl] at H; exact H
        clear H
        have H := H1
        clear H1
        obtain rfl := Option.some.inj H
        go_wp2
        go_ret
        exact ⟨by first | rfl | (simp; done) | (simp [*]; done), by repeat (first | exact Drawn0.refl _ | apply Drawn0.step)⟩
      · replace c8 := Bool.eq_false_iff.mpr c8
        subst c8
        have H1 : ((spec_between.f 913 a0 929).bind fun t104 => (if t104 = true then (spec_wide.j1 kj1 a0 true) else ((spec_between.f 931 a0 1013).bind fun t105 => (if t105 = true then (spec_wide.j1 kj1 a0 true) else ((spec_between.f 1040 a0 1103).bind fun t106 => (if t106 = true then (spec_wide.j1 kj1 a0 true) else ((spec_between.f 1488 a0 1514).bind fun t107 => (if t107 = true then (spec_wide.j1 kj1 a0 true) else ((spec_between.f 12353 a0 12438).bind fun t108 => (if t108 = true then (spec_wide.j1 kj1 a0 true) else ((spec_between.f 19968 a0 40959).bind fun t109 => (if t109 = true then (spec_wide.j1 kj1 a0 true) else ((spec_between.f 44032 a0 55203).bind fun t110 => (if t110 = true then (spec_wide.j1 kj1 a0 true) else ((spec_between.f 66560 a0 66717).bind fun t111 => (if t111 = true then (spec_wide.j1 kj1 a0 true) else ((spec_between.f 131072 a0 173791).bind fun t112 => (spec_wide.j1 kj1 a0 t112)))))))))))))))))) = some r := by rw [if_neg (show ¬ (false = true) by decide)] at H; exact H
        clear H
        have H := H1
        clear H1
        have HC9 := Aside0.mk H
        clear H
        go_upto_region 3 with (fail)
        go_cut [22] (fun v22 wc => ∃ (kq : Nat) (x22_8 : Bool), v22 = .bool x22_8 ∧ Aside0 (spec_wide.j1 kq a0 x22_8 = some r) ∧ Aside0 (kq ≤ kj1) ∧ Drawn0 w wc)
        case first =>
          have H := HC9.out
          clear HC9
          replace H := Option.bind_eq_some_iff.mp H
          obtain ⟨t104, A100, H⟩ := H
          replace H : (if t104 = true then (spec_wide.j1 kj1 a0 true) else ((spec_between.f 931 a0 1013).bind fun t105 => (if t105 = true then (spec_wide.j1 kj1 a0 true) else ((spec_between.f 1040 a0 1103).bind fun t106 => (if t106 = true then (spec_wide.j1 kj1 a0 true) else ((spec_between.f 1488 a0 1514).bind fun t107 => (if t107 = true then (spec_wide.j1 kj1 a0 true) else ((spec_between.f 12353 a0 12438).bind fun t108 => (if t108 = true then (spec_wide.j1 kj1 a0 true) else ((spec_between.f 19968 a0 40959).bind fun t109 => (if t109 = true then (spec_wide.j1 kj1 a0 true) else ((spec_between.f 44032 a0 55203).bind fun t110 => (if t110 = true then (spec_wide.j1 kj1 a0 true) else ((spec_between.f 66560 a0 66717).bind fun t111 => (if t111 = true then (spec_wide.j1 kj1 a0 true) else ((spec_between.f 131072 a0 173791).bind fun t112 => (spec_wide.j1 kj1 a0 t112))))))))))))))))) = some r := H
          have A10 := Aside0.mk A100
          clear A100
          by_cases c11 : t104 = true
          · subst c11
            have H1 : (spec_wide.j1 kj1 a0 true) = some r := by rw [if_pos rfl] at H; exact H
            clear H
            have H := H1
            clear H1
            have H' := Aside0.mk H
            clear H
            go_wp2_with (first | ((with_reducible refine gate_callee (f := 35) rfl ?_); refine goesL_ (some 24) rfl rfl Try.func35 (by kernel_rfl) rfl #[.int .i64 913, .int .i64 a0, .int .i64 929] rfl (by (try simp only [List.map_toArray, List.map_cons, List.map_nil]); first | done | rfl | (simp only [List.length_drop, List.length_take]; rfl)) ?_; (with_reducible refine (spec_between.calls 913 a0 929 true _ A10.out).mono ?_); rintro e w' ⟨rfl, ⟨nd, rfl⟩⟩; refine ⟨_, rfl, ?_⟩))
            go_meet
            case rel => exact ⟨_, (true), (by first | rfl | (simp; done) | (simp [*]; done)), H', ⟨by have := HJ1.out; first | omega | exact Nat.le_refl _⟩, by repeat (first | exact Drawn0.refl _ | apply Drawn0.step)⟩
          · replace c11 := Bool.eq_false_iff.mpr c11
            subst c11
            have H1 : ((spec_between.f 931 a0 1013).bind fun t105 => (if t105 = true then (spec_wide.j1 kj1 a0 true) else ((spec_between.f 1040 a0 1103).bind fun t106 => (if t106 = true then (spec_wide.j1 kj1 a0 true) else ((spec_between.f 1488 a0 1514).bind fun t107 => (if t107 = true then (spec_wide.j1 kj1 a0 true) else ((spec_between.f 12353 a0 12438).bind fun t108 => (if t108 = true then (spec_wide.j1 kj1 a0 true) else ((spec_between.f 19968 a0 40959).bind fun t109 => (if t109 = true then (spec_wide.j1 kj1 a0 true) else ((spec_between.f 44032 a0 55203).bind fun t110 => (if t110 = true then (spec_wide.j1 kj1 a0 true) else ((spec_between.f 66560 a0 66717).bind fun t111 => (if t111 = true then (spec_wide.j1 kj1 a0 true) else ((spec_between.f 131072 a0 173791).bind fun t112 => (spec_wide.j1 kj1 a0 t112)))))))))))))))) = some r := by rw [if_neg (show ¬ (false = true) by decide)] at H; exact H
            clear H
            have H := H1
            clear H1
            replace H := Option.bind_eq_some_iff.mp H
            obtain ⟨t105, A120, H⟩ := H
            replace H : (if t105 = true then (spec_wide.j1 kj1 a0 true) else ((spec_between.f 1040 a0 1103).bind fun t106 => (if t106 = true then (spec_wide.j1 kj1 a0 true) else ((spec_between.f 1488 a0 1514).bind fun t107 => (if t107 = true then (spec_wide.j1 kj1 a0 true) else ((spec_between.f 12353 a0 12438).bind fun t108 => (if t108 = true then (spec_wide.j1 kj1 a0 true) else ((spec_between.f 19968 a0 40959).bind fun t109 => (if t109 = true then (spec_wide.j1 kj1 a0 true) else ((spec_between.f 44032 a0 55203).bind fun t110 => (if t110 = true then (spec_wide.j1 kj1 a0 true) else ((spec_between.f 66560 a0 66717).bind fun t111 => (if t111 = true then (spec_wide.j1 kj1 a0 true) else ((spec_between.f 131072 a0 173791).bind fun t112 => (spec_wide.j1 kj1 a0 t112))))))))))))))) = some r := H
            have A12 := Aside0.mk A120
            clear A120
            by_cases c13 : t105 = true
            · subst c13
              have H1 : (spec_wide.j1 kj1 a0 true) = some r := by rw [if_pos rfl] at H; exact H
              clear H
              have H := H1
              clear H1
              have H' := Aside0.mk H
              clear H
              go_wp2_with (first | ((with_reducible refine gate_callee (f := 35) rfl ?_); refine goesL_ (some 24) rfl rfl Try.func35 (by kernel_rfl) rfl #[.int .i64 913, .int .i64 a0, .int .i64 929] rfl (by (try simp only [List.map_toArray, List.map_cons, List.map_nil]); first | done | rfl | (simp only [List.length_drop, List.length_take]; rfl)) ?_; (with_reducible refine (spec_between.calls 913 a0 929 false _ A10.out).mono ?_); rintro e w' ⟨rfl, ⟨nd, rfl⟩⟩; refine ⟨_, rfl, ?_⟩) | (go_at_call 35; (with_reducible refine (spec_between.calls 931 a0 1013 true _ A12.out).mono ?_); rintro e w' ⟨rfl, ⟨nd, rfl⟩⟩))
              go_meet
              case rel => exact ⟨_, (true), (by first | rfl | (simp; done) | (simp [*]; done)), H', ⟨by have := HJ1.out; first | omega | exact Nat.le_refl _⟩, by repeat (first | exact Drawn0.refl _ | apply Drawn0.step)⟩
            · replace c13 := Bool.eq_false_iff.mpr c13
              subst c13
              have H1 : ((spec_between.f 1040 a0 1103).bind fun t106 => (if t106 = true then (spec_wide.j1 kj1 a0 true) else ((spec_between.f 1488 a0 1514).bind fun t107 => (if t107 = true then (spec_wide.j1 kj1 a0 true) else ((spec_between.f 12353 a0 12438).bind fun t108 => (if t108 = true then (spec_wide.j1 kj1 a0 true) else ((spec_between.f 19968 a0 40959).bind fun t109 => (if t109 = true then (spec_wide.j1 kj1 a0 true) else ((spec_between.f 44032 a0 55203).bind fun t110 => (if t110 = true then (spec_wide.j1 kj1 a0 true) else ((spec_between.f 66560 a0 66717).bind fun t111 => (if t111 = true then (spec_wide.j1 kj1 a0 true) else ((spec_between.f 131072 a0 173791).bind fun t112 => (spec_wide.j1 kj1 a0 t112)))))))))))))) = some r := by rw [if_neg (show ¬ (false = true) by decide)] at H; exact H
              clear H
              have H := H1
              clear H1
              replace H := Option.bind_eq_some_iff.mp H
              obtain ⟨t106, A140, H⟩ := H
              replace H : (if t106 = true then (spec_wide.j1 kj1 a0 true) else ((spec_between.f 1488 a0 1514).bind fun t107 => (if t107 = true then (spec_wide.j1 kj1 a0 true) else ((spec_between.f 12353 a0 12438).bind fun t108 => (if t108 = true then (spec_wide.j1 kj1 a0 true) else ((spec_between.f 19968 a0 40959).bind fun t109 => (if t109 = true then (spec_wide.j1 kj1 a0 true) else ((spec_between.f 44032 a0 55203).bind fun t110 => (if t110 = true then (spec_wide.j1 kj1 a0 true) else ((spec_between.f 66560 a0 66717).bind fun t111 => (if t111 = true then (spec_wide.j1 kj1 a0 true) else ((spec_between.f 131072 a0 173791).bind fun t112 => (spec_wide.j1 kj1 a0 t112))))))))))))) = some r := H
              have A14 := Aside0.mk A140
              clear A140
              by_cases c15 : t106 = true
              · subst c15
                have H1 : (spec_wide.j1 kj1 a0 true) = some r := by rw [if_pos rfl] at H; exact H
                clear H
                have H := H1
                clear H1
                have H' := Aside0.mk H
                clear H
                go_wp2_with (first | ((with_reducible refine gate_callee (f := 35) rfl ?_); refine goesL_ (some 24) rfl rfl Try.func35 (by kernel_rfl) rfl #[.int .i64 913, .int .i64 a0, .int .i64 929] rfl (by (try simp only [List.map_toArray, List.map_cons, List.map_nil]); first | done | rfl | (simp only [List.length_drop, List.length_take]; rfl)) ?_; (with_reducible refine (spec_between.calls 913 a0 929 false _ A10.out).mono ?_); rintro e w' ⟨rfl, ⟨nd, rfl⟩⟩; refine ⟨_, rfl, ?_⟩) | (go_at_call 35; (with_reducible refine (spec_between.calls 931 a0 1013 false _ A12.out).mono ?_); rintro e w' ⟨rfl, ⟨nd, rfl⟩⟩) | (go_at_call 35; (with_reducible refine (spec_between.calls 1040 a0 1103 true _ A14.out).mono ?_); rintro e w' ⟨rfl, ⟨nd, rfl⟩⟩))
                go_meet
                case rel => exact ⟨_, (true), (by first | rfl | (simp; done) | (simp [*]; done)), H', ⟨by have := HJ1.out; first | omega | exact Nat.le_refl _⟩, by repeat (first | exact Drawn0.refl _ | apply Drawn0.step)⟩
              · replace c15 := Bool.eq_false_iff.mpr c15
                subst c15
                have H1 : ((spec_between.f 1488 a0 1514).bind fun t107 => (if t107 = true then (spec_wide.j1 kj1 a0 true) else ((spec_between.f 12353 a0 12438).bind fun t108 => (if t108 = true then (spec_wide.j1 kj1 a0 true) else ((spec_between.f 19968 a0 40959).bind fun t109 => (if t109 = true then (spec_wide.j1 kj1 a0 true) else ((spec_between.f 44032 a0 55203).bind fun t110 => (if t110 = true then (spec_wide.j1 kj1 a0 true) else ((spec_between.f 66560 a0 66717).bind fun t111 => (if t111 = true then (spec_wide.j1 kj1 a0 true) else ((spec_between.f 131072 a0 173791).bind fun t112 => (spec_wide.j1 kj1 a0 t112)))))))))))) = some r := by rw [if_neg (show ¬ (false = true) by decide)] at H; exact H
                clear H
                have H := H1
                clear H1
                replace H := Option.bind_eq_some_iff.mp H
                obtain ⟨t107, A160, H⟩ := H
                replace H : (if t107 = true then (spec_wide.j1 kj1 a0 true) else ((spec_between.f 12353 a0 12438).bind fun t108 => (if t108 = true then (spec_wide.j1 kj1 a0 true) else ((spec_between.f 19968 a0 40959).bind fun t109 => (if t109 = true then (spec_wide.j1 kj1 a0 true) else ((spec_between.f 44032 a0 55203).bind fun t110 => (if t110 = true then (spec_wide.j1 kj1 a0 true) else ((spec_between.f 66560 a0 66717).bind fun t111 => (if t111 = true then (spec_wide.j1 kj1 a0 true) else ((spec_between.f 131072 a0 173791).bind fun t112 => (spec_wide.j1 kj1 a0 t112))))))))))) = some r := H
                have A16 := Aside0.mk A160
                clear A160
                by_cases c17 : t107 = true
                · subst c17
                  have H1 : (spec_wide.j1 kj1 a0 true) = some r := by rw [if_pos rfl] at H; exact H
                  clear H
                  have H := H1
                  clear H1
                  have H' := Aside0.mk H
                  clear H
                  go_wp2_with (first | ((with_reducible refine gate_callee (f := 35) rfl ?_); refine goesL_ (some 24) rfl rfl Try.func35 (by kernel_rfl) rfl #[.int .i64 913, .int .i64 a0, .int .i64 929] rfl (by (try simp only [List.map_toArray, List.map_cons, List.map_nil]); first | done | rfl | (simp only [List.length_drop, List.length_take]; rfl)) ?_; (with_reducible refine (spec_between.calls 913 a0 929 false _ A10.out).mono ?_); rintro e w' ⟨rfl, ⟨nd, rfl⟩⟩; refine ⟨_, rfl, ?_⟩) | (go_at_call 35; (with_reducible refine (spec_between.calls 931 a0 1013 false _ A12.out).mono ?_); rintro e w' ⟨rfl, ⟨nd, rfl⟩⟩) | (go_at_call 35; (with_reducible refine (spec_between.calls 1040 a0 1103 false _ A14.out).mono ?_); rintro e w' ⟨rfl, ⟨nd, rfl⟩⟩) | (go_at_call 35; (with_reducible refine (spec_between.calls 1488 a0 1514 true _ A16.out).mono ?_); rintro e w' ⟨rfl, ⟨nd, rfl⟩⟩))
                  go_meet
                  case rel => exact ⟨_, (true), (by first | rfl | (simp; done) | (simp [*]; done)), H', ⟨by have := HJ1.out; first | omega | exact Nat.le_refl _⟩, by repeat (first | exact Drawn0.refl _ | apply Drawn0.step)⟩
                · replace c17 := Bool.eq_false_iff.mpr c17
                  subst c17
                  have H1 : ((spec_between.f 12353 a0 12438).bind fun t108 => (if t108 = true then (spec_wide.j1 kj1 a0 true) else ((spec_between.f 19968 a0 40959).bind fun t109 => (if t109 = true then (spec_wide.j1 kj1 a0 true) else ((spec_between.f 44032 a0 55203).bind fun t110 => (if t110 = true then (spec_wide.j1 kj1 a0 true) else ((spec_between.f 66560 a0 66717).bind fun t111 => (if t111 = true then (spec_wide.j1 kj1 a0 true) else ((spec_between.f 131072 a0 173791).bind fun t112 => (spec_wide.j1 kj1 a0 t112)))))))))) = some r := by rw [if_neg (show ¬ (false = true) by decide)] at H; exact H
                  clear H
                  have H := H1
                  clear H1
                  replace H := Option.bind_eq_some_iff.mp H
                  obtain ⟨t108, A180, H⟩ := H
                  replace H : (if t108 = true then (spec_wide.j1 kj1 a0 true) else ((spec_between.f 19968 a0 40959).bind fun t109 => (if t109 = true then (spec_wide.j1 kj1 a0 true) else ((spec_between.f 44032 a0 55203).bind fun t110 => (if t110 = true then (spec_wide.j1 kj1 a0 true) else ((spec_between.f 66560 a0 66717).bind fun t111 => (if t111 = true then (spec_wide.j1 kj1 a0 true) else ((spec_between.f 131072 a0 173791).bind fun t112 => (spec_wide.j1 kj1 a0 t112))))))))) = some r := H
                  have A18 := Aside0.mk A180
                  clear A180
                  by_cases c19 : t108 = true
                  · subst c19
                    have H1 : (spec_wide.j1 kj1 a0 true) = some r := by rw [if_pos rfl] at H; exact H
                    clear H
                    have H := H1
                    clear H1
                    have H' := Aside0.mk H
                    clear H
                    go_wp2_with (first | ((with_reducible refine gate_callee (f := 35) rfl ?_); refine goesL_ (some 24) rfl rfl Try.func35 (by kernel_rfl) rfl #[.int .i64 913, .int .i64 a0, .int .i64 929] rfl (by (try simp only [List.map_toArray, List.map_cons, List.map_nil]); first | done | rfl | (simp only [List.length_drop, List.length_take]; rfl)) ?_; (with_reducible refine (spec_between.calls 913 a0 929 false _ A10.out).mono ?_); rintro e w' ⟨rfl, ⟨nd, rfl⟩⟩; refine ⟨_, rfl, ?_⟩) | (go_at_call 35; (with_reducible refine (spec_between.calls 931 a0 1013 false _ A12.out).mono ?_); rintro e w' ⟨rfl, ⟨nd, rfl⟩⟩) | (go_at_call 35; (with_reducible refine (spec_between.calls 1040 a0 1103 false _ A14.out).mono ?_); rintro e w' ⟨rfl, ⟨nd, rfl⟩⟩) | (go_at_call 35; (with_reducible refine (spec_between.calls 1488 a0 1514 false _ A16.out).mono ?_); rintro e w' ⟨rfl, ⟨nd, rfl⟩⟩) | (go_at_call 35; (with_reducible refine (spec_between.calls 12353 a0 12438 true _ A18.out).mono ?_); rintro e w' ⟨rfl, ⟨nd, rfl⟩⟩))
                    go_meet
                    case rel => exact ⟨_, (true), (by first | rfl | (simp; done) | (simp [*]; done)), H', ⟨by have := HJ1.out; first | omega | exact Nat.le_refl _⟩, by repeat (first | exact Drawn0.refl _ | apply Drawn0.step)⟩
                  · replace c19 := Bool.eq_false_iff.mpr c19
                    subst c19
                    have H1 : ((spec_between.f 19968 a0 40959).bind fun t109 => (if t109 = true then (spec_wide.j1 kj1 a0 true) else ((spec_between.f 44032 a0 55203).bind fun t110 => (if t110 = true then (spec_wide.j1 kj1 a0 true) else ((spec_between.f 66560 a0 66717).bind fun t111 => (if t111 = true then (spec_wide.j1 kj1 a0 true) else ((spec_between.f 131072 a0 173791).bind fun t112 => (spec_wide.j1 kj1 a0 t112)))))))) = some r := by rw [if_neg (show ¬ (false = true) by decide)] at H; exact H
                    clear H
                    have H := H1
                    clear H1
                    replace H := Option.bind_eq_some_iff.mp H
                    obtain ⟨t109, A200, H⟩ := H
                    replace H : (if t109 = true then (spec_wide.j1 kj1 a0 true) else ((spec_between.f 44032 a0 55203).bind fun t110 => (if t110 = true then (spec_wide.j1 kj1 a0 true) else ((spec_between.f 66560 a0 66717).bind fun t111 => (if t111 = true then (spec_wide.j1 kj1 a0 true) else ((spec_between.f 131072 a0 173791).bind fun t112 => (spec_wide.j1 kj1 a0 t112))))))) = some r := H
                    have A20 := Aside0.mk A200
                    clear A200
                    by_cases c21 : t109 = true
                    · subst c21
                      have H1 : (spec_wide.j1 kj1 a0 true) = some r := by rw [if_pos rfl] at H; exact H
                      clear H
                      have H := H1
                      clear H1
                      have H' := Aside0.mk H
                      clear H
                      go_wp2_with (first | ((with_reducible refine gate_callee (f := 35) rfl ?_); refine goesL_ (some 24) rfl rfl Try.func35 (by kernel_rfl) rfl #[.int .i64 913, .int .i64 a0, .int .i64 929] rfl (by (try simp only [List.map_toArray, List.map_cons, List.map_nil]); first | done | rfl | (simp only [List.length_drop, List.length_take]; rfl)) ?_; (with_reducible refine (spec_between.calls 913 a0 929 false _ A10.out).mono ?_); rintro e w' ⟨rfl, ⟨nd, rfl⟩⟩; refine ⟨_, rfl, ?_⟩) | (go_at_call 35; (with_reducible refine (spec_between.calls 931 a0 1013 false _ A12.out).mono ?_); rintro e w' ⟨rfl, ⟨nd, rfl⟩⟩) | (go_at_call 35; (with_reducible refine (spec_between.calls 1040 a0 1103 false _ A14.out).mono ?_); rintro e w' ⟨rfl, ⟨nd, rfl⟩⟩) | (go_at_call 35; (with_reducible refine (spec_between.calls 1488 a0 1514 false _ A16.out).mono ?_); rintro e w' ⟨rfl, ⟨nd, rfl⟩⟩) | (go_at_call 35; (with_reducible refine (spec_between.calls 12353 a0 12438 false _ A18.out).mono ?_); rintro e w' ⟨rfl, ⟨nd, rfl⟩⟩) | (go_at_call 35; (with_reducible refine (spec_between.calls 19968 a0 40959 true _ A20.out).mono ?_); rintro e w' ⟨rfl, ⟨nd, rfl⟩⟩))
                      go_meet
                      case rel => exact ⟨_, (true), (by first | rfl | (simp; done) | (simp [*]; done)), H', ⟨by have := HJ1.out; first | omega | exact Nat.le_refl _⟩, by repeat (first | exact Drawn0.refl _ | apply Drawn0.step)⟩
                    · replace c21 := Bool.eq_false_iff.mpr c21
                      subst c21
                      have H1 : ((spec_between.f 44032 a0 55203).bind fun t110 => (if t110 = true then (spec_wide.j1 kj1 a0 true) else ((spec_between.f 66560 a0 66717).bind fun t111 => (if t111 = true then (spec_wide.j1 kj1 a0 true) else ((spec_between.f 131072 a0 173791).bind fun t112 => (spec_wide.j1 kj1 a0 t112)))))) = some r := by rw [if_neg (show ¬ (false = true) by decide)] at H; exact H
                      clear H
                      have H := H1
                      clear H1
                      replace H := Option.bind_eq_some_iff.mp H
                      obtain ⟨t110, A220, H⟩ := H
                      replace H : (if t110 = true then (spec_wide.j1 kj1 a0 true) else ((spec_between.f 66560 a0 66717).bind fun t111 => (if t111 = true then (spec_wide.j1 kj1 a0 true) else ((spec_between.f 131072 a0 173791).bind fun t112 => (spec_wide.j1 kj1 a0 t112))))) = some r := H
                      have A22 := Aside0.mk A220
                      clear A220
                      by_cases c23 : t110 = true
                      · subst c23
                        have H1 : (spec_wide.j1 kj1 a0 true) = some r := by rw [if_pos rfl] at H; exact H
                        clear H
                        have H := H1
                        clear H1
                        have H' := Aside0.mk H
                        clear H
                        go_wp2_with (first | ((with_reducible refine gate_callee (f := 35) rfl ?_); refine goesL_ (some 24) rfl rfl Try.func35 (by kernel_rfl) rfl #[.int .i64 913, .int .i64 a0, .int .i64 929] rfl (by (try simp only [List.map_toArray, List.map_cons, List.map_nil]); first | done | rfl | (simp only [List.length_drop, List.length_take]; rfl)) ?_; (with_reducible refine (spec_between.calls 913 a0 929 false _ A10.out).mono ?_); rintro e w' ⟨rfl, ⟨nd, rfl⟩⟩; refine ⟨_, rfl, ?_⟩) | (go_at_call 35; (with_reducible refine (spec_between.calls 931 a0 1013 false _ A12.out).mono ?_); rintro e w' ⟨rfl, ⟨nd, rfl⟩⟩) | (go_at_call 35; (with_reducible refine (spec_between.calls 1040 a0 1103 false _ A14.out).mono ?_); rintro e w' ⟨rfl, ⟨nd, rfl⟩⟩) | (go_at_call 35; (with_reducible refine (spec_between.calls 1488 a0 1514 false _ A16.out).mono ?_); rintro e w' ⟨rfl, ⟨nd, rfl⟩⟩) | (go_at_call 35; (with_reducible refine (spec_between.calls 12353 a0 12438 false _ A18.out).mono ?_); rintro e w' ⟨rfl, ⟨nd, rfl⟩⟩) | (go_at_call 35; (with_reducible refine (spec_between.calls 19968 a0 40959 false _ A20.out).mono ?_); rintro e w' ⟨rfl, ⟨nd, rfl⟩⟩) | (go_at_call 35; (with_reducible refine (spec_between.calls 44032 a0 55203 true _ A22.out).mono ?_); rintro e w' ⟨rfl, ⟨nd, rfl⟩⟩))
                        go_meet
                        case rel => exact ⟨_, (true), (by first | rfl | (simp; done) | (simp [*]; done)), H', ⟨by have := HJ1.out; first | omega | exact Nat.le_refl _⟩, by repeat (first | exact Drawn0.refl _ | apply Drawn0.step)⟩
                      · replace c23 := Bool.eq_false_iff.mpr c23
                        subst c23
                        have H1 : ((spec_between.f 66560 a0 66717).bind fun t111 => (if t111 = true then (spec_wide.j1 kj1 a0 true) else ((spec_between.f 131072 a0 173791).bind fun t112 => (spec_wide.j1 kj1 a0 t112)))) = some r := by rw [if_neg (show ¬ (false = true) by decide)] at H; exact H
                        clear H
                        have H := H1
                        clear H1
                        replace H := Option.bind_eq_some_iff.mp H
                        obtain ⟨t111, A240, H⟩ := H
                        replace H : (if t111 = true then (spec_wide.j1 kj1 a0 true) else ((spec_between.f 131072 a0 173791).bind fun t112 => (spec_wide.j1 kj1 a0 t112))) = some r := H
                        have A24 := Aside0.mk A240
                        clear A240
                        by_cases c25 : t111 = true
                        · subst c25
                          have H1 : (spec_wide.j1 kj1 a0 true) = some r := by rw [if_pos rfl] at H; exact H
                          clear H
                          have H := H1
                          clear H1
                          have H' := Aside0.mk H
                          clear H
                          go_wp2_with (first | ((with_reducible refine gate_callee (f := 35) rfl ?_); refine goesL_ (some 24) rfl rfl Try.func35 (by kernel_rfl) rfl #[.int .i64 913, .int .i64 a0, .int .i64 929] rfl (by (try simp only [List.map_toArray, List.map_cons, List.map_nil]); first | done | rfl | (simp only [List.length_drop, List.length_take]; rfl)) ?_; (with_reducible refine (spec_between.calls 913 a0 929 false _ A10.out).mono ?_); rintro e w' ⟨rfl, ⟨nd, rfl⟩⟩; refine ⟨_, rfl, ?_⟩) | (go_at_call 35; (with_reducible refine (spec_between.calls 931 a0 1013 false _ A12.out).mono ?_); rintro e w' ⟨rfl, ⟨nd, rfl⟩⟩) | (go_at_call 35; (with_reducible refine (spec_between.calls 1040 a0 1103 false _ A14.out).mono ?_); rintro e w' ⟨rfl, ⟨nd, rfl⟩⟩) | (go_at_call 35; (with_reducible refine (spec_between.calls 1488 a0 1514 false _ A16.out).mono ?_); rintro e w' ⟨rfl, ⟨nd, rfl⟩⟩) | (go_at_call 35; (with_reducible refine (spec_between.calls 12353 a0 12438 false _ A18.out).mono ?_); rintro e w' ⟨rfl, ⟨nd, rfl⟩⟩) | (go_at_call 35; (with_reducible refine (spec_between.calls 19968 a0 40959 false _ A20.out).mono ?_); rintro e w' ⟨rfl, ⟨nd, rfl⟩⟩) | (go_at_call 35; (with_reducible refine (spec_between.calls 44032 a0 55203 false _ A22.out).mono ?_); rintro e w' ⟨rfl, ⟨nd, rfl⟩⟩) | (go_at_call 35; (with_reducible refine (spec_between.calls 66560 a0 66717 true _ A24.out).mono ?_); rintro e w' ⟨rfl, ⟨nd, rfl⟩⟩))
                          go_meet
                          case rel => exact ⟨_, (true), (by first | rfl | (simp; done) | (simp [*]; done)), H', ⟨by have := HJ1.out; first | omega | exact Nat.le_refl _⟩, by repeat (first | exact Drawn0.refl _ | apply Drawn0.step)⟩
                        · replace c25 := Bool.eq_false_iff.mpr c25
                          subst c25
                          have H1 : ((spec_between.f 131072 a0 173791).bind fun t112 => (spec_wide.j1 kj1 a0 t112)) = some r := by rw [if_neg (show ¬ (false = true) by decide)] at H; exact H
                          clear H
                          have H := H1
                          clear H1
                          replace H := Option.bind_eq_some_iff.mp H
                          obtain ⟨t112, A260, H⟩ := H
                          replace H : (spec_wide.j1 kj1 a0 t112) = some r := H
                          have A26 := Aside0.mk A260
                          clear A260
                          have H' := Aside0.mk H
                          clear H
                          go_wp2_with (first | ((with_reducible refine gate_callee (f := 35) rfl ?_); refine goesL_ (some 24) rfl rfl Try.func35 (by kernel_rfl) rfl #[.int .i64 913, .int .i64 a0, .int .i64 929] rfl (by (try simp only [List.map_toArray, List.map_cons, List.map_nil]); first | done | rfl | (simp only [List.length_drop, List.length_take]; rfl)) ?_; (with_reducible refine (spec_between.calls 913 a0 929 false _ A10.out).mono ?_); rintro e w' ⟨rfl, ⟨nd, rfl⟩⟩; refine ⟨_, rfl, ?_⟩) | (go_at_call 35; (with_reducible refine (spec_between.calls 931 a0 1013 false _ A12.out).mono ?_); rintro e w' ⟨rfl, ⟨nd, rfl⟩⟩) | (go_at_call 35; (with_reducible refine (spec_between.calls 1040 a0 1103 false _ A14.out).mono ?_); rintro e w' ⟨rfl, ⟨nd, rfl⟩⟩) | (go_at_call 35; (with_reducible refine (spec_between.calls 1488 a0 1514 false _ A16.out).mono ?_); rintro e w' ⟨rfl, ⟨nd, rfl⟩⟩) | (go_at_call 35; (with_reducible refine (spec_between.calls 12353 a0 12438 false _ A18.out).mono ?_); rintro e w' ⟨rfl, ⟨nd, rfl⟩⟩) | (go_at_call 35; (with_reducible refine (spec_between.calls 19968 a0 40959 false _ A20.out).mono ?_); rintro e w' ⟨rfl, ⟨nd, rfl⟩⟩) | (go_at_call 35; (with_reducible refine (spec_between.calls 44032 a0 55203 false _ A22.out).mono ?_); rintro e w' ⟨rfl, ⟨nd, rfl⟩⟩) | (go_at_call 35; (with_reducible refine (spec_between.calls 66560 a0 66717 false _ A24.out).mono ?_); rintro e w' ⟨rfl, ⟨nd, rfl⟩⟩) | (go_at_call 35; (with_reducible refine (spec_between.calls 131072 a0 173791 t112 _ A26.out).mono ?_); rintro e w' ⟨rfl, ⟨nd, rfl⟩⟩))
                          go_meet
                          case rel => exact ⟨_, (t112), (by first | rfl | (simp; done) | (simp [*]; done)), H', ⟨by have := HJ1.out; first | omega | exact Nat.le_refl _⟩, by repeat (first | exact Drawn0.refl _ | apply Drawn0.step)⟩
        case rest =>
          clear HC9
          try clear c1
          try clear c2
          try clear p2
          try clear c3
          try clear c4
          try clear c5
          try clear c5b0
          try clear c5b1
          try clear c6
          try clear c6b0
          try clear c6b1
          try clear c7
          try clear c7b0
          try clear c7b1
          try clear c8
          try clear c11
          try clear c13
          try clear c15
          try clear c17
          try clear c19
          try clear c21
          try clear c23
          try clear c25
          try clear p2
          obtain ⟨kq, x22_8, rfl, HA, HJ8, ⟨mc8, rfl⟩⟩ := hcut
          cases kq with
          | zero => exact absurd HA.out (by simp [spec_wide.j1])
          | succ kj8 =>
            have H := HA.out
            clear HA
            simp only [spec_wide.j1] at H
            by_cases c27 : x22_8 = true
            · subst c27
              have H1 : (some 2) = some r := by rw [if_pos rfl] at H; exact H
              clear H
              have H := H1
              clear H1
              obtain rfl := Option.some.inj H
              go_wp2
              go_ret
              exact ⟨by first | rfl | (simp; done) | (simp [*]; done), by repeat (first | exact Drawn0.refl _ | apply Drawn0.step)⟩
            · replace c27 := Bool.eq_false_iff.mpr c27
              subst c27
              have H1 : ((spec_Blank.f a0).bind fun t113 => (if t113 = true then (some 0) else ((spec_LineEnd.f a0).bind fun t114 => (if t114 = true then (some 0) else ((spec_between.f 8208 a0 8231).bind fun t115 => (if t115 = true then (some 0) else ((spec_between.f 8240 a0 8254).bind fun t116 => (if t116 = true then (some 0) else ((spec_between.f 8592 a0 11263).bind fun t117 => (if t117 = true then (some 0) else ((spec_between.f 55296 a0 63743).bind fun t118 => (if t118 = true then (some 0) else ((spec_between.f 65520 a0 65535).bind fun t119 => (if t119 = true then (some 0) else ((spec_between.f 127744 a0 128591).bind fun t120 => (if t120 = true then (some 0) else (some 3))))))))))))))))) = some r := by rw [if_neg (show ¬ (false = true) by decide)] at H; exact H
              clear H
              have H := H1
              clear H1
              replace H := Option.bind_eq_some_iff.mp H
              obtain ⟨t113, A280, H⟩ := H
              replace H : (if t113 = true then (some 0) else ((spec_LineEnd.f a0).bind fun t114 => (if t114 = true then (some 0) else ((spec_between.f 8208 a0 8231).bind fun t115 => (if t115 = true then (some 0) else ((spec_between.f 8240 a0 8254).bind fun t116 => (if t116 = true then (some 0) else ((spec_between.f 8592 a0 11263).bind fun t117 => (if t117 = true then (some 0) else ((spec_between.f 55296 a0 63743).bind fun t118 => (if t118 = true then (some 0) else ((spec_between.f 65520 a0 65535).bind fun t119 => (if t119 = true then (some 0) else ((spec_between.f 127744 a0 128591).bind fun t120 => (if t120 = true then (some 0) else (some 3)))))))))))))))) = some r := H
              have A28 := Aside0.mk A280
              clear A280
              by_cases c29 : t113 = true
              · subst c29
                have H1 : (some 0) = some r := by rw [if_pos rfl] at H; exact H
                clear H
                have H := H1
                clear H1
                obtain rfl := Option.some.inj H
                go_wp2_with (first | ((with_reducible refine gate_callee (f := 24) rfl ?_); refine goesL_ (some 59) rfl rfl Try.func24 (by kernel_rfl) rfl #[.int .i64 a0] rfl (by (try simp only [List.map_toArray, List.map_cons, List.map_nil]); first | done | rfl | (simp only [List.length_drop, List.length_take]; rfl)) ?_; (with_reducible refine (spec_Blank.calls a0 true _ A28.out).mono ?_); rintro e w' ⟨rfl, ⟨nd, rfl⟩⟩; refine ⟨_, rfl, ?_⟩))
                go_ret
                exact ⟨by first | rfl | (simp; done) | (simp [*]; done), by repeat (first | exact Drawn0.refl _ | apply Drawn0.step)⟩
              · replace c29 := Bool.eq_false_iff.mpr c29
                subst c29
                have H1 : ((spec_LineEnd.f a0).bind fun t114 => (if t114 = true then (some 0) else ((spec_between.f 8208 a0 8231).bind fun t115 => (if t115 = true then (some 0) else ((spec_between.f 8240 a0 8254).bind fun t116 => (if t116 = true then (some 0) else ((spec_between.f 8592 a0 11263).bind fun t117 => (if t117 = true then (some 0) else ((spec_between.f 55296 a0 63743).bind fun t118 => (if t118 = true then (some 0) else ((spec_between.f 65520 a0 65535).bind fun t119 => (if t119 = true then (some 0) else ((spec_between.f 127744 a0 128591).bind fun t120 => (if t120 = true then (some 0) else (some 3))))))))))))))) = some r := by rw [if_neg (show ¬ (false = true) by decide)] at H; exact H
                clear H
                have H := H1
                clear H1
                replace H := Option.bind_eq_some_iff.mp H
                obtain ⟨t114, A300, H⟩ := H
                replace H : (if t114 = true then (some 0) else ((spec_between.f 8208 a0 8231).bind fun t115 => (if t115 = true then (some 0) else ((spec_between.f 8240 a0 8254).bind fun t116 => (if t116 = true then (some 0) else ((spec_between.f 8592 a0 11263).bind fun t117 => (if t117 = true then (some 0) else ((spec_between.f 55296 a0 63743).bind fun t118 => (if t118 = true then (some 0) else ((spec_between.f 65520 a0 65535).bind fun t119 => (if t119 = true then (some 0) else ((spec_between.f 127744 a0 128591).bind fun t120 => (if t120 = true then (some 0) else (some 3)))))))))))))) = some r := H
                have A30 := Aside0.mk A300
                clear A300
                by_cases c31 : t114 = true
                · subst c31
                  have H1 : (some 0) = some r := by rw [if_pos rfl] at H; exact H
                  clear H
                  have H := H1
                  clear H1
                  obtain rfl := Option.some.inj H
                  go_wp2_with (first | ((with_reducible refine gate_callee (f := 24) rfl ?_); refine goesL_ (some 59) rfl rfl Try.func24 (by kernel_rfl) rfl #[.int .i64 a0] rfl (by (try simp only [List.map_toArray, List.map_cons, List.map_nil]); first | done | rfl | (simp only [List.length_drop, List.length_take]; rfl)) ?_; (with_reducible refine (spec_Blank.calls a0 false _ A28.out).mono ?_); rintro e w' ⟨rfl, ⟨nd, rfl⟩⟩; refine ⟨_, rfl, ?_⟩) | (go_at_call 23; (with_reducible refine (spec_LineEnd.calls a0 true _ A30.out).mono ?_); rintro e w' ⟨rfl, ⟨nd, rfl⟩⟩))
                  go_ret
                  exact ⟨by first | rfl | (simp; done) | (simp [*]; done), by repeat (first | exact Drawn0.refl _ | apply Drawn0.step)⟩
                · replace c31 := Bool.eq_false_iff.mpr c31
                  subst c31
                  have H1 : ((spec_between.f 8208 a0 8231).bind fun t115 => (if t115 = true then (some 0) else ((spec_between.f 8240 a0 8254).bind fun t116 => (if t116 = true then (some 0) else ((spec_between.f 8592 a0 11263).bind fun t117 => (if t117 = true then (some 0) else ((spec_between.f 55296 a0 63743).bind fun t118 => (if t118 = true then (some 0) else ((spec_between.f 65520 a0 65535).bind fun t119 => (if t119 = true then (some 0) else ((spec_between.f 127744 a0 128591).bind fun t120 => (if t120 = true then (some 0) else (some 3))))))))))))) = some r := by rw [if_neg (show ¬ (false = true) by decide)] at H; exact H
                  clear H
                  have H := H1
                  clear H1
                  replace H := Option.bind_eq_some_iff.mp H
                  obtain ⟨t115, A320, H⟩ := H
                  replace H : (if t115 = true then (some 0) else ((spec_between.f 8240 a0 8254).bind fun t116 => (if t116 = true then (some 0) else ((spec_between.f 8592 a0 11263).bind fun t117 => (if t117 = true then (some 0) else ((spec_between.f 55296 a0 63743).bind fun t118 => (if t118 = true then (some 0) else ((spec_between.f 65520 a0 65535).bind fun t119 => (if t119 = true then (some 0) else ((spec_between.f 127744 a0 128591).bind fun t120 => (if t120 = true then (some 0) else (some 3)))))))))))) = some r := H
                  have A32 := Aside0.mk A320
                  clear A320
                  by_cases c33 : t115 = true
                  · subst c33
                    have H1 : (some 0) = some r := by rw [if_pos rfl] at H; exact H
                    clear H
                    have H := H1
                    clear H1
                    obtain rfl := Option.some.inj H
                    go_wp2_with (first | ((with_reducible refine gate_callee (f := 24) rfl ?_); refine goesL_ (some 59) rfl rfl Try.func24 (by kernel_rfl) rfl #[.int .i64 a0] rfl (by (try simp only [List.map_toArray, List.map_cons, List.map_nil]); first | done | rfl | (simp only [List.length_drop, List.length_take]; rfl)) ?_; (with_reducible refine (spec_Blank.calls a0 false _ A28.out).mono ?_); rintro e w' ⟨rfl, ⟨nd, rfl⟩⟩; refine ⟨_, rfl, ?_⟩) | (go_at_call 23; (with_reducible refine (spec_LineEnd.calls a0 false _ A30.out).mono ?_); rintro e w' ⟨rfl, ⟨nd, rfl⟩⟩) | (go_at_call 35; (with_reducible refine (spec_between.calls 8208 a0 8231 true _ A32.out).mono ?_); rintro e w' ⟨rfl, ⟨nd, rfl⟩⟩))
                    go_ret
                    exact ⟨by first | rfl | (simp; done) | (simp [*]; done), by repeat (first | exact Drawn0.refl _ | apply Drawn0.step)⟩
                  · replace c33 := Bool.eq_false_iff.mpr c33
                    subst c33
                    have H1 : ((spec_between.f 8240 a0 8254).bind fun t116 => (if t116 = true then (some 0) else ((spec_between.f 8592 a0 11263).bind fun t117 => (if t117 = true then (some 0) else ((spec_between.f 55296 a0 63743).bind fun t118 => (if t118 = true then (some 0) else ((spec_between.f 65520 a0 65535).bind fun t119 => (if t119 = true then (some 0) else ((spec_between.f 127744 a0 128591).bind fun t120 => (if t120 = true then (some 0) else (some 3))))))))))) = some r := by rw [if_neg (show ¬ (false = true) by decide)] at H; exact H
                    clear H
                    have H := H1
                    clear H1
                    replace H := Option.bind_eq_some_iff.mp H
                    obtain ⟨t116, A340, H⟩ := H
                    replace H : (if t116 = true then (some 0) else ((spec_between.f 8592 a0 11263).bind fun t117 => (if t117 = true then (some 0) else ((spec_between.f 55296 a0 63743).bind fun t118 => (if t118 = true then (some 0) else ((spec_between.f 65520 a0 65535).bind fun t119 => (if t119 = true then (some 0) else ((spec_between.f 127744 a0 128591).bind fun t120 => (if t120 = true then (some 0) else (some 3)))))))))) = some r := H
                    have A34 := Aside0.mk A340
                    clear A340
                    by_cases c35 : t116 = true
                    · subst c35
                      have H1 : (some 0) = some r := by rw [if_pos rfl] at H; exact H
                      clear H
                      have H := H1
                      clear H1
                      obtain rfl := Option.some.inj H
                      go_wp2_with (first | ((with_reducible refine gate_callee (f := 24) rfl ?_); refine goesL_ (some 59) rfl rfl Try.func24 (by kernel_rfl) rfl #[.int .i64 a0] rfl (by (try simp only [List.map_toArray, List.map_cons, List.map_nil]); first | done | rfl | (simp only [List.length_drop, List.length_take]; rfl)) ?_; (with_reducible refine (spec_Blank.calls a0 false _ A28.out).mono ?_); rintro e w' ⟨rfl, ⟨nd, rfl⟩⟩; refine ⟨_, rfl, ?_⟩) | (go_at_call 23; (with_reducible refine (spec_LineEnd.calls a0 false _ A30.out).mono ?_); rintro e w' ⟨rfl, ⟨nd, rfl⟩⟩) | (go_at_call 35; (with_reducible refine (spec_between.calls 8208 a0 8231 false _ A32.out).mono ?_); rintro e w' ⟨rfl, ⟨nd, rfl⟩⟩) | (go_at_call 35; (with_reducible refine (spec_between.calls 8240 a0 8254 true _ A34.out).mono ?_); rintro e w' ⟨rfl, ⟨nd, rfl⟩⟩))
                      go_ret
                      exact ⟨by first | rfl | (simp; done) | (simp [*]; done), by repeat (first | exact Drawn0.refl _ | apply Drawn0.step)⟩
                    · replace c35 := Bool.eq_false_iff.mpr c35
                      subst c35
                      have H1 : ((spec_between.f 8592 a0 11263).bind fun t117 => (if t117 = true then (some 0) else ((spec_between.f 55296 a0 63743).bind fun t118 => (if t118 = true then (some 0) else ((spec_between.f 65520 a0 65535).bind fun t119 => (if t119 = true then (some 0) else ((spec_between.f 127744 a0 128591).bind fun t120 => (if t120 = true then (some 0) else (some 3))))))))) = some r := by rw [if_neg (show ¬ (false = true) by decide)] at H; exact H
                      clear H
                      have H := H1
                      clear H1
                      replace H := Option.bind_eq_some_iff.mp H
                      obtain ⟨t117, A360, H⟩ := H
                      replace H : (if t117 = true then (some 0) else ((spec_between.f 55296 a0 63743).bind fun t118 => (if t118 = true then (some 0) else ((spec_between.f 65520 a0 65535).bind fun t119 => (if t119 = true then (some 0) else ((spec_between.f 127744 a0 128591).bind fun t120 => (if t120 = true then (some 0) else (some 3)))))))) = some r := H
                      have A36 := Aside0.mk A360
                      clear A360
                      by_cases c37 : t117 = true
                      · subst c37
                        have H1 : (some 0) = some r := by rw [if_pos rfl] at H; exact H
                        clear H
                        have H := H1
                        clear H1
                        obtain rfl := Option.some.inj H
                        go_wp2_with (first | ((with_reducible refine gate_callee (f := 24) rfl ?_); refine goesL_ (some 59) rfl rfl Try.func24 (by kernel_rfl) rfl #[.int .i64 a0] rfl (by (try simp only [List.map_toArray, List.map_cons, List.map_nil]); first | done | rfl | (simp only [List.length_drop, List.length_take]; rfl)) ?_; (with_reducible refine (spec_Blank.calls a0 false _ A28.out).mono ?_); rintro e w' ⟨rfl, ⟨nd, rfl⟩⟩; refine ⟨_, rfl, ?_⟩) | (go_at_call 23; (with_reducible refine (spec_LineEnd.calls a0 false _ A30.out).mono ?_); rintro e w' ⟨rfl, ⟨nd, rfl⟩⟩) | (go_at_call 35; (with_reducible refine (spec_between.calls 8208 a0 8231 false _ A32.out).mono ?_); rintro e w' ⟨rfl, ⟨nd, rfl⟩⟩) | (go_at_call 35; (with_reducible refine (spec_between.calls 8240 a0 8254 false _ A34.out).mono ?_); rintro e w' ⟨rfl, ⟨nd, rfl⟩⟩) | (go_at_call 35; (with_reducible refine (spec_between.calls 8592 a0 11263 true _ A36.out).mono ?_); rintro e w' ⟨rfl, ⟨nd, rfl⟩⟩))
                        go_ret
                        exact ⟨by first | rfl | (simp; done) | (simp [*]; done), by repeat (first | exact Drawn0.refl _ | apply Drawn0.step)⟩
                      · replace c37 := Bool.eq_false_iff.mpr c37
                        subst c37
                        have H1 : ((spec_between.f 55296 a0 63743).bind fun t118 => (if t118 = true then (some 0) else ((spec_between.f 65520 a0 65535).bind fun t119 => (if t119 = true then (some 0) else ((spec_between.f 127744 a0 128591).bind fun t120 => (if t120 = true then (some 0) else (some 3))))))) = some r := by rw [if_neg (show ¬ (false = true) by decide)] at H; exact H
                        clear H
                        have H := H1
                        clear H1
                        replace H := Option.bind_eq_some_iff.mp H
                        obtain ⟨t118, A380, H⟩ := H
                        replace H : (if t118 = true then (some 0) else ((spec_between.f 65520 a0 65535).bind fun t119 => (if t119 = true then (some 0) else ((spec_between.f 127744 a0 128591).bind fun t120 => (if t120 = true then (some 0) else (some 3)))))) = some r := H
                        have A38 := Aside0.mk A380
                        clear A380
                        by_cases c39 : t118 = true
                        · subst c39
                          have H1 : (some 0) = some r := by rw [if_pos rfl] at H; exact H
                          clear H
                          have H := H1
                          clear H1
                          obtain rfl := Option.some.inj H
                          go_wp2_with (first | ((with_reducible refine gate_callee (f := 24) rfl ?_); refine goesL_ (some 59) rfl rfl Try.func24 (by kernel_rfl) rfl #[.int .i64 a0] rfl (by (try simp only [List.map_toArray, List.map_cons, List.map_nil]); first | done | rfl | (simp only [List.length_drop, List.length_take]; rfl)) ?_; (with_reducible refine (spec_Blank.calls a0 false _ A28.out).mono ?_); rintro e w' ⟨rfl, ⟨nd, rfl⟩⟩; refine ⟨_, rfl, ?_⟩) | (go_at_call 23; (with_reducible refine (spec_LineEnd.calls a0 false _ A30.out).mono ?_); rintro e w' ⟨rfl, ⟨nd, rfl⟩⟩) | (go_at_call 35; (with_reducible refine (spec_between.calls 8208 a0 8231 false _ A32.out).mono ?_); rintro e w' ⟨rfl, ⟨nd, rfl⟩⟩) | (go_at_call 35; (with_reducible refine (spec_between.calls 8240 a0 8254 false _ A34.out).mono ?_); rintro e w' ⟨rfl, ⟨nd, rfl⟩⟩) | (go_at_call 35; (with_reducible refine (spec_between.calls 8592 a0 11263 false _ A36.out).mono ?_); rintro e w' ⟨rfl, ⟨nd, rfl⟩⟩) | (go_at_call 35; (with_reducible refine (spec_between.calls 55296 a0 63743 true _ A38.out).mono ?_); rintro e w' ⟨rfl, ⟨nd, rfl⟩⟩))
                          go_ret
                          exact ⟨by first | rfl | (simp; done) | (simp [*]; done), by repeat (first | exact Drawn0.refl _ | apply Drawn0.step)⟩
                        · replace c39 := Bool.eq_false_iff.mpr c39
                          subst c39
                          have H1 : ((spec_between.f 65520 a0 65535).bind fun t119 => (if t119 = true then (some 0) else ((spec_between.f 127744 a0 128591).bind fun t120 => (if t120 = true then (some 0) else (some 3))))) = some r := by rw [if_neg (show ¬ (false = true) by decide)] at H; exact H
                          clear H
                          have H := H1
                          clear H1
                          replace H := Option.bind_eq_some_iff.mp H
                          obtain ⟨t119, A400, H⟩ := H
                          replace H : (if t119 = true then (some 0) else ((spec_between.f 127744 a0 128591).bind fun t120 => (if t120 = true then (some 0) else (some 3)))) = some r := H
                          have A40 := Aside0.mk A400
                          clear A400
                          by_cases c41 : t119 = true
                          · subst c41
                            have H1 : (some 0) = some r := by rw [if_pos rfl] at H; exact H
                            clear H
                            have H := H1
                            clear H1
                            obtain rfl := Option.some.inj H
                            go_wp2_with (first | ((with_reducible refine gate_callee (f := 24) rfl ?_); refine goesL_ (some 59) rfl rfl Try.func24 (by kernel_rfl) rfl #[.int .i64 a0] rfl (by (try simp only [List.map_toArray, List.map_cons, List.map_nil]); first | done | rfl | (simp only [List.length_drop, List.length_take]; rfl)) ?_; (with_reducible refine (spec_Blank.calls a0 false _ A28.out).mono ?_); rintro e w' ⟨rfl, ⟨nd, rfl⟩⟩; refine ⟨_, rfl, ?_⟩) | (go_at_call 23; (with_reducible refine (spec_LineEnd.calls a0 false _ A30.out).mono ?_); rintro e w' ⟨rfl, ⟨nd, rfl⟩⟩) | (go_at_call 35; (with_reducible refine (spec_between.calls 8208 a0 8231 false _ A32.out).mono ?_); rintro e w' ⟨rfl, ⟨nd, rfl⟩⟩) | (go_at_call 35; (with_reducible refine (spec_between.calls 8240 a0 8254 false _ A34.out).mono ?_); rintro e w' ⟨rfl, ⟨nd, rfl⟩⟩) | (go_at_call 35; (with_reducible refine (spec_between.calls 8592 a0 11263 false _ A36.out).mono ?_); rintro e w' ⟨rfl, ⟨nd, rfl⟩⟩) | (go_at_call 35; (with_reducible refine (spec_between.calls 55296 a0 63743 false _ A38.out).mono ?_); rintro e w' ⟨rfl, ⟨nd, rfl⟩⟩) | (go_at_call 35; (with_reducible refine (spec_between.calls 65520 a0 65535 true _ A40.out).mono ?_); rintro e w' ⟨rfl, ⟨nd, rfl⟩⟩))
                            go_ret
                            exact ⟨by first | rfl | (simp; done) | (simp [*]; done), by repeat (first | exact Drawn0.refl _ | apply Drawn0.step)⟩
                          · replace c41 := Bool.eq_false_iff.mpr c41
                            subst c41
                            have H1 : ((spec_between.f 127744 a0 128591).bind fun t120 => (if t120 = true then (some 0) else (some 3))) = some r := by rw [if_neg (show ¬ (false = true) by decide)] at H; exact H
                            clear H
                            have H := H1
                            clear H1
                            replace H := Option.bind_eq_some_iff.mp H
                            obtain ⟨t120, A420, H⟩ := H
                            replace H : (if t120 = true then (some 0) else (some 3)) = some r := H
                            have A42 := Aside0.mk A420
                            clear A420
                            by_cases c43 : t120 = true
                            · subst c43
                              have H1 : (some 0) = some r := by rw [if_pos rfl] at H; exact H
                              clear H
                              have H := H1
                              clear H1
                              obtain rfl := Option.some.inj H
                              go_wp2_with (first | ((with_reducible refine gate_callee (f := 24) rfl ?_); refine goesL_ (some 59) rfl rfl Try.func24 (by kernel_rfl) rfl #[.int .i64 a0] rfl (by (try simp only [List.map_toArray, List.map_cons, List.map_nil]); first | done | rfl | (simp only [List.length_drop, List.length_take]; rfl)) ?_; (with_reducible refine (spec_Blank.calls a0 false _ A28.out).mono ?_); rintro e w' ⟨rfl, ⟨nd, rfl⟩⟩; refine ⟨_, rfl, ?_⟩) | (go_at_call 23; (with_reducible refine (spec_LineEnd.calls a0 false _ A30.out).mono ?_); rintro e w' ⟨rfl, ⟨nd, rfl⟩⟩) | (go_at_call 35; (with_reducible refine (spec_between.calls 8208 a0 8231 false _ A32.out).mono ?_); rintro e w' ⟨rfl, ⟨nd, rfl⟩⟩) | (go_at_call 35; (with_reducible refine (spec_between.calls 8240 a0 8254 false _ A34.out).mono ?_); rintro e w' ⟨rfl, ⟨nd, rfl⟩⟩) | (go_at_call 35; (with_reducible refine (spec_between.calls 8592 a0 11263 false _ A36.out).mono ?_); rintro e w' ⟨rfl, ⟨nd, rfl⟩⟩) | (go_at_call 35; (with_reducible refine (spec_between.calls 55296 a0 63743 false _ A38.out).mono ?_); rintro e w' ⟨rfl, ⟨nd, rfl⟩⟩) | (go_at_call 35; (with_reducible refine (spec_between.calls 65520 a0 65535 false _ A40.out).mono ?_); rintro e w' ⟨rfl, ⟨nd, rfl⟩⟩) | (go_at_call 35; (with_reducible refine (spec_between.calls 127744 a0 128591 true _ A42.out).mono ?_); rintro e w' ⟨rfl, ⟨nd, rfl⟩⟩))
                              go_ret
                              exact ⟨by first | rfl | (simp; done) | (simp [*]; done), by repeat (first | exact Drawn0.refl _ | apply Drawn0.step)⟩
                            · replace c43 := Bool.eq_false_iff.mpr c43
                              subst c43
                              have H1 : (some 3) = some r := by rw [if_neg (show ¬ (false = true) by decide)] at H; exact H
                              clear H
                              have H := H1
                              clear H1
                              obtain rfl := Option.some.inj H
                              go_wp2_with (first | ((with_reducible refine gate_callee (f := 24) rfl ?_); refine goesL_ (some 59) rfl rfl Try.func24 (by kernel_rfl) rfl #[.int .i64 a0] rfl (by (try simp only [List.map_toArray, List.map_cons, List.map_nil]); first | done | rfl | (simp only [List.length_drop, List.length_take]; rfl)) ?_; (with_reducible refine (spec_Blank.calls a0 false _ A28.out).mono ?_); rintro e w' ⟨rfl, ⟨nd, rfl⟩⟩; refine ⟨_, rfl, ?_⟩) | (go_at_call 23; (with_reducible refine (spec_LineEnd.calls a0 false _ A30.out).mono ?_); rintro e w' ⟨rfl, ⟨nd, rfl⟩⟩) | (go_at_call 35; (with_reducible refine (spec_between.calls 8208 a0 8231 false _ A32.out).mono ?_); rintro e w' ⟨rfl, ⟨nd, rfl⟩⟩) | (go_at_call 35; (with_reducible refine (spec_between.calls 8240 a0 8254 false _ A34.out).mono ?_); rintro e w' ⟨rfl, ⟨nd, rfl⟩⟩) | (go_at_call 35; (with_reducible refine (spec_between.calls 8592 a0 11263 false _ A36.out).mono ?_); rintro e w' ⟨rfl, ⟨nd, rfl⟩⟩) | (go_at_call 35; (with_reducible refine (spec_between.calls 55296 a0 63743 false _ A38.out).mono ?_); rintro e w' ⟨rfl, ⟨nd, rfl⟩⟩) | (go_at_call 35; (with_reducible refine (spec_between.calls 65520 a0 65535 false _ A40.out).mono ?_); rintro e w' ⟨rfl, ⟨nd, rfl⟩⟩) | (go_at_call 35; (with_reducible refine (spec_between.calls 127744 a0 128591 false _ A42.out).mono ?_); rintro e w' ⟨rfl, ⟨nd, rfl⟩⟩))
                              go_ret
                              exact ⟨by first | rfl | (simp; done) | (simp [*]; done), by repeat (first | exact Drawn0.refl _ | apply Drawn0.step)⟩

/-! ### spec_InName: function 28 -/
def spec_InName.j0 : Nat → Int → Bool → Option (Int)
  | 0, _, _ => none
  | k + 1, x0, x3 => if x3 = true then (some 2) else ((spec_Digit.f x0).bind fun t123 => (if t123 = true then (some 1) else (if x0 < 170 then (some 0) else (if x0 < 706 then ((spec_latin.f k x0).bind fun t124 => (some t124)) else ((spec_wide.f k x0).bind fun t125 => (some t125))))))
def spec_InName.f (k : Nat) (a0 : Int) : Option (Int) := (spec_between.f 97 a0 122).bind fun t121 => (if t121 = true then (spec_InName.j0 k a0 true) else ((spec_between.f 65 a0 90).bind fun t122 => (if t122 = true then (spec_InName.j0 k a0 true) else (if a0 = 36 then (spec_InName.j0 k a0 true) else (spec_InName.j0 k a0 (a0 == 95))))))
theorem spec_InName.mono_l : ∀ k, (∀ y0 y1, LeO (spec_InName.j0 k y0 y1) (spec_InName.j0 (k + 1) y0 y1))
  | 0 => fun _ _ r h => by simp [spec_InName.j0] at h
  | k + 1 => by
    have ih0 := spec_InName.mono_l k
    · intro y0 y1
      unfold spec_InName.j0
      repeat' first
      | (with_reducible exact ih0 _ _)
      | (with_reducible exact spec_latin.mono _ _)
      | (with_reducible exact spec_wide.mono _ _)
      | (with_reducible exact LeO.refl _)
      | (with_reducible exact LeO.none _)
      | (with_reducible refine LeO.ite ?_ ?_)
      | (with_reducible refine LeO.bind ?_ (fun _ => ?_))
      | exact ih0 _ _
      | exact spec_latin.mono _ _
      | exact spec_wide.mono _ _
      | exact LeO.none _
      | refine LeO.ite ?_ ?_
      | refine LeO.bind ?_ (fun _ => ?_)
theorem spec_InName.mono : ∀ a0 k, LeO (spec_InName.f k a0) (spec_InName.f (k + 1) a0) := by
  intro a0 k
  have ih0 := spec_InName.mono_l k
  unfold spec_InName.f
  repeat' first
      | (with_reducible exact ih0 _ _)
      | (with_reducible exact spec_latin.mono _ _)
      | (with_reducible exact spec_wide.mono _ _)
      | (with_reducible exact LeO.refl _)
      | (with_reducible exact LeO.none _)
      | (with_reducible refine LeO.ite ?_ ?_)
      | (with_reducible refine LeO.bind ?_ (fun _ => ?_))
      | exact ih0 _ _
      | exact spec_latin.mono _ _
      | exact spec_wide.mono _ _
      | exact LeO.none _
      | refine LeO.ite ?_ ?_
      | refine LeO.bind ?_ (fun _ => ?_)
set_option maxHeartbeats 8000000 in
set_option maxRecDepth 100000 in
theorem spec_InName.calls (k : Nat) (a0 : Int) (r : Int) (w : World) (h : spec_InName.f k a0 = some r) :
    Calls Try.prog 28 #[.int .i64 a0] w fun e w' => e = .returned (.int .i64 r) ∧ Drawn0 w w' := by
  have H : ((spec_between.f 97 a0 122).bind fun t121 => (if t121 = true then (spec_InName.j0 k a0 true) else ((spec_between.f 65 a0 90).bind fun t122 => (if t122 = true then (spec_InName.j0 k a0 true) else (if a0 = 36 then (spec_InName.j0 k a0 true) else (spec_InName.j0 k a0 (a0 == 95))))))) = some r := h
  clear h
  have HC2 := Aside0.mk H
  clear H
  go_enter Try.func28, Try.ntmps28
  go_upto_region 1 with (fail)
  go_cut [3] (fun v3 wc => ∃ (kq : Nat) (x3_1 : Bool), v3 = .bool x3_1 ∧ Aside0 (spec_InName.j0 kq a0 x3_1 = some r) ∧ Aside0 (kq ≤ k) ∧ Drawn0 w wc)
  case first =>
    have H := HC2.out
    clear HC2
    replace H := Option.bind_eq_some_iff.mp H
    obtain ⟨t121, A30, H⟩ := H
    replace H : (if t121 = true then (spec_InName.j0 k a0 true) else ((spec_between.f 65 a0 90).bind fun t122 => (if t122 = true then (spec_InName.j0 k a0 true) else (if a0 = 36 then (spec_InName.j0 k a0 true) else (spec_InName.j0 k a0 (a0 == 95)))))) = some r := H
    have A3 := Aside0.mk A30
    clear A30
    by_cases c4 : t121 = true
    · subst c4
      have H1 : (spec_InName.j0 k a0 true) = some r := by rw [if_pos rfl] at H; exact H
      clear H
      have H := H1
      clear H1
      have H' := Aside0.mk H
      clear H
      go_wp2_with (first | ((with_reducible refine gate_callee (f := 35) rfl ?_); refine goesL_ (some 5) rfl rfl Try.func35 (by kernel_rfl) rfl #[.int .i64 97, .int .i64 a0, .int .i64 122] rfl (by (try simp only [List.map_toArray, List.map_cons, List.map_nil]); first | done | rfl | (simp only [List.length_drop, List.length_take]; rfl)) ?_; (with_reducible refine (spec_between.calls 97 a0 122 true _ A3.out).mono ?_); rintro e w' ⟨rfl, ⟨nd, rfl⟩⟩; refine ⟨_, rfl, ?_⟩))
      go_meet
      case rel => exact ⟨_, (true), (by first | rfl | (simp; done) | (simp [*]; done)), H', ⟨by first | omega | exact Nat.le_refl _⟩, by repeat (first | exact Drawn0.refl _ | apply Drawn0.step)⟩
    · replace c4 := Bool.eq_false_iff.mpr c4
      subst c4
      have H1 : ((spec_between.f 65 a0 90).bind fun t122 => (if t122 = true then (spec_InName.j0 k a0 true) else (if a0 = 36 then (spec_InName.j0 k a0 true) else (spec_InName.j0 k a0 (a0 == 95))))) = some r := by rw [if_neg (show ¬ (false = true) by decide)] at H; exact H
      clear H
      have H := H1
      clear H1
      replace H := Option.bind_eq_some_iff.mp H
      obtain ⟨t122, A50, H⟩ := H
      replace H : (if t122 = true then (spec_InName.j0 k a0 true) else (if a0 = 36 then (spec_InName.j0 k a0 true) else (spec_InName.j0 k a0 (a0 == 95)))) = some r := H
      have A5 := Aside0.mk A50
      clear A50
      by_cases c6 : t122 = true
      · subst c6
        have H1 : (spec_InName.j0 k a0 true) = some r := by rw [if_pos rfl] at H; exact H
        clear H
        have H := H1
        clear H1
        have H' := Aside0.mk H
        clear H
        go_wp2_with (first | ((with_reducible refine gate_callee (f := 35) rfl ?_); refine goesL_ (some 5) rfl rfl Try.func35 (by kernel_rfl) rfl #[.int .i64 97, .int .i64 a0, .int .i64 122] rfl (by (try simp only [List.map_toArray, List.map_cons, List.map_nil]); first | done | rfl | (simp only [List.length_drop, List.length_take]; rfl)) ?_; (with_reducible refine (spec_between.calls 97 a0 122 false _ A3.out).mono ?_); rintro e w' ⟨rfl, ⟨nd, rfl⟩⟩; refine ⟨_, rfl, ?_⟩) | (go_at_call 35; (with_reducible refine (spec_between.calls 65 a0 90 true _ A5.out).mono ?_); rintro e w' ⟨rfl, ⟨nd, rfl⟩⟩))
        go_meet
        case rel => exact ⟨_, (true), (by first | rfl | (simp; done) | (simp [*]; done)), H', ⟨by first | omega | exact Nat.le_refl _⟩, by repeat (first | exact Drawn0.refl _ | apply Drawn0.step)⟩
      · replace c6 := Bool.eq_false_iff.mpr c6
        subst c6
        have H1 : (if a0 = 36 then (spec_InName.j0 k a0 true) else (spec_InName.j0 k a0 (a0 == 95))) = some r := by rw [if_neg (show ¬ (false = true) by decide)] at H; exact H
        clear H
        have H := H1
        clear H1
        by_cases c7 : a0 = 36
        · rw [if_pos c7] at H
          have c7b0 : (a0 == 36) = true := beq_iff_eq.mpr c7
          have c7b1 : (a0 != 36) = false := bne_eq_false_iff_eq.mpr c7
          clear c7
          (first | rw [c7b0] | (simp only [i64_w, i32_w]; rw [c7b0]) | skip)
          have H' := Aside0.mk H
          clear H
          go_wp2_with (first | ((with_reducible refine gate_callee (f := 35) rfl ?_); refine goesL_ (some 5) rfl rfl Try.func35 (by kernel_rfl) rfl #[.int .i64 97, .int .i64 a0, .int .i64 122] rfl (by (try simp only [List.map_toArray, List.map_cons, List.map_nil]); first | done | rfl | (simp only [List.length_drop, List.length_take]; rfl)) ?_; (with_reducible refine (spec_between.calls 97 a0 122 false _ A3.out).mono ?_); rintro e w' ⟨rfl, ⟨nd, rfl⟩⟩; refine ⟨_, rfl, ?_⟩) | (go_at_call 35; (with_reducible refine (spec_between.calls 65 a0 90 false _ A5.out).mono ?_); rintro e w' ⟨rfl, ⟨nd, rfl⟩⟩))
          go_meet
          case rel => exact ⟨_, (true), (by first | rfl | (simp; done) | (simp [*]; done)), H', ⟨by first | omega | exact Nat.le_refl _⟩, by repeat (first | exact Drawn0.refl _ | apply Drawn0.step)⟩
        · rw [if_neg c7] at H
          have c7b0 : (a0 == 36) = false := beq_eq_false_iff_ne.mpr c7
          have c7b1 : (a0 != 36) = true := bne_iff_ne.mpr c7
          (first | rw [c7b0] | (simp only [i64_w, i32_w]; rw [c7b0]) | skip)
          have H' := Aside0.mk H
          clear H
          go_wp2_with (first | ((with_reducible refine gate_callee (f := 35) rfl ?_); refine goesL_ (some 5) rfl rfl Try.func35 (by kernel_rfl) rfl #[.int .i64 97, .int .i64 a0, .int .i64 122] rfl (by (try simp only [List.map_toArray, List.map_cons, List.map_nil]); first | done | rfl | (simp only [List.length_drop, List.length_take]; rfl)) ?_; (with_reducible refine (spec_between.calls 97 a0 122 false _ A3.out).mono ?_); rintro e w' ⟨rfl, ⟨nd, rfl⟩⟩; refine ⟨_, rfl, ?_⟩) | (go_at_call 35; (with_reducible refine (spec_between.calls 65 a0 90 false _ A5.out).mono ?_); rintro e w' ⟨rfl, ⟨nd, rfl⟩⟩))
          go_meet
          case rel => exact ⟨_, ((a0 == 95)), (by first | rfl | (simp; done) | (simp [*]; done)), H', ⟨by first | omega | exact Nat.le_refl _⟩, by repeat (first | exact Drawn0.refl _ | apply Drawn0.step)⟩
  case rest =>
    clear HC2
    try clear c2
    try clear p2
    try clear c3
    try clear c4
    try clear c6
    try clear c7
    try clear c7b0
    try clear c7b1
    obtain ⟨kq, x3_1, rfl, HA, HJ1, ⟨mc1, rfl⟩⟩ := hcut
    cases kq with
    | zero => exact absurd HA.out (by simp [spec_InName.j0])
    | succ kj1 =>
      have H := HA.out
      clear HA
      simp only [spec_InName.j0] at H
      by_cases c8 : x3_1 = true
      · subst c8
        have H1 : (some 2) = some r := by rw [if_pos rfl] at H; exact H
        clear H
        have H := H1
        clear H1
        obtain rfl := Option.some.inj H
        go_wp2
        go_ret
        exact ⟨by first | rfl | (simp; done) | (simp [*]; done), by repeat (first | exact Drawn0.refl _ | apply Drawn0.step)⟩
      · replace c8 := Bool.eq_false_iff.mpr c8
        subst c8
        have H1 : ((spec_Digit.f a0).bind fun t123 => (if t123 = true then (some 1) else (if a0 < 170 then (some 0) else (if a0 < 706 then ((spec_latin.f kj1 a0).bind fun t124 => (some t124)) else ((spec_wide.f kj1 a0).bind fun t125 => (some t125)))))) = some r := by rw [if_neg (show ¬ (false = true) by decide)] at H; exact H
        clear H
        have H := H1
        clear H1
        replace H := Option.bind_eq_some_iff.mp H
        obtain ⟨t123, A90, H⟩ := H
        replace H : (if t123 = true then (some 1) else (if a0 < 170 then (some 0) else (if a0 < 706 then ((spec_latin.f kj1 a0).bind fun t124 => (some t124)) else ((spec_wide.f kj1 a0).bind fun t125 => (some t125))))) = some r := H
        have A9 := Aside0.mk A90
        clear A90
        by_cases c10 : t123 = true
        · subst c10
          have H1 : (some 1) = some r := by rw [if_pos rfl] at H; exact H
          clear H
          have H := H1
          clear H1
          obtain rfl := Option.some.inj H
          go_wp2_with (first | ((with_reducible refine gate_callee (f := 26) rfl ?_); refine goesL_ (some 20) rfl rfl Try.func26 (by kernel_rfl) rfl #[.int .i64 a0] rfl (by (try simp only [List.map_toArray, List.map_cons, List.map_nil]); first | done | rfl | (simp only [List.length_drop, List.length_take]; rfl)) ?_; (with_reducible refine (spec_Digit.calls a0 true _ A9.out).mono ?_); rintro e w' ⟨rfl, ⟨nd, rfl⟩⟩; refine ⟨_, rfl, ?_⟩))
          go_ret
          exact ⟨by first | rfl | (simp; done) | (simp [*]; done), by repeat (first | exact Drawn0.refl _ | apply Drawn0.step)⟩
        · replace c10 := Bool.eq_false_iff.mpr c10
          subst c10
          have H1 : (if a0 < 170 then (some 0) else (if a0 < 706 then ((spec_latin.f kj1 a0).bind fun t124 => (some t124)) else ((spec_wide.f kj1 a0).bind fun t125 => (some t125)))) = some r := by rw [if_neg (show ¬ (false = true) by decide)] at H; exact H
          clear H
          have H := H1
          clear H1
          by_cases c11 : a0 < 170
          · rw [if_pos c11] at H
            have c11b0 : decide (a0 < 170) = true := decide_eq_true c11
            clear c11
            obtain rfl := Option.some.inj H
            go_wp2_with (first | ((with_reducible refine gate_callee (f := 26) rfl ?_); refine goesL_ (some 20) rfl rfl Try.func26 (by kernel_rfl) rfl #[.int .i64 a0] rfl (by (try simp only [List.map_toArray, List.map_cons, List.map_nil]); first | done | rfl | (simp only [List.length_drop, List.length_take]; rfl)) ?_; (with_reducible refine (spec_Digit.calls a0 false _ A9.out).mono ?_); rintro e w' ⟨rfl, ⟨nd, rfl⟩⟩; refine ⟨_, rfl, ?_⟩))
            go_ret
            exact ⟨by first | rfl | (simp; done) | (simp [*]; done), by repeat (first | exact Drawn0.refl _ | apply Drawn0.step)⟩
          · rw [if_neg c11] at H
            have c11b0 : decide (a0 < 170) = false := decide_eq_false c11
            clear c11
            by_cases c12 : a0 < 706
            · rw [if_pos c12] at H
              have c12b0 : decide (a0 < 706) = true := decide_eq_true c12
              clear c12
              replace H := Option.bind_eq_some_iff.mp H
              obtain ⟨t124, A130, H⟩ := H
              replace H : (some t124) = some r := H
              have A13 := Aside0.mk A130
              clear A130
              obtain rfl := Option.some.inj H
              go_wp2_with (first | ((with_reducible refine gate_callee (f := 26) rfl ?_); refine goesL_ (some 20) rfl rfl Try.func26 (by kernel_rfl) rfl #[.int .i64 a0] rfl (by (try simp only [List.map_toArray, List.map_cons, List.map_nil]); first | done | rfl | (simp only [List.length_drop, List.length_take]; rfl)) ?_; (with_reducible refine (spec_Digit.calls a0 false _ A9.out).mono ?_); rintro e w' ⟨rfl, ⟨nd, rfl⟩⟩; refine ⟨_, rfl, ?_⟩) | ((with_reducible refine gate_callee (f := 43) rfl ?_); refine goesL_ (some 28) rfl rfl Try.func43 (by kernel_rfl) rfl #[.int .i64 a0] rfl (by (try simp only [List.map_toArray, List.map_cons, List.map_nil]); first | done | rfl | (simp only [List.length_drop, List.length_take]; rfl)) ?_; (with_reducible refine (spec_latin.calls kj1 a0 t124 _ A13.out).mono ?_); rintro e w' ⟨rfl, ⟨nd, rfl⟩⟩; refine ⟨_, rfl, ?_⟩))
              go_ret
              exact ⟨by first | rfl | (simp; done) | (simp [*]; done), by repeat (first | exact Drawn0.refl _ | apply Drawn0.step)⟩
            · rw [if_neg c12] at H
              have c12b0 : decide (a0 < 706) = false := decide_eq_false c12
              clear c12
              replace H := Option.bind_eq_some_iff.mp H
              obtain ⟨t125, A140, H⟩ := H
              replace H : (some t125) = some r := H
              have A14 := Aside0.mk A140
              clear A140
              obtain rfl := Option.some.inj H
              go_wp2_with (first | ((with_reducible refine gate_callee (f := 26) rfl ?_); refine goesL_ (some 20) rfl rfl Try.func26 (by kernel_rfl) rfl #[.int .i64 a0] rfl (by (try simp only [List.map_toArray, List.map_cons, List.map_nil]); first | done | rfl | (simp only [List.length_drop, List.length_take]; rfl)) ?_; (with_reducible refine (spec_Digit.calls a0 false _ A9.out).mono ?_); rintro e w' ⟨rfl, ⟨nd, rfl⟩⟩; refine ⟨_, rfl, ?_⟩) | ((with_reducible refine gate_callee (f := 44) rfl ?_); refine goesL_ (some 30) rfl rfl Try.func44 (by kernel_rfl) rfl #[.int .i64 a0] rfl (by (try simp only [List.map_toArray, List.map_cons, List.map_nil]); first | done | rfl | (simp only [List.length_drop, List.length_take]; rfl)) ?_; (with_reducible refine (spec_wide.calls kj1 a0 t125 _ A14.out).mono ?_); rintro e w' ⟨rfl, ⟨nd, rfl⟩⟩; refine ⟨_, rfl, ?_⟩))
              go_ret
              exact ⟨by first | rfl | (simp; done) | (simp [*]; done), by repeat (first | exact Drawn0.refl _ | apply Drawn0.step)⟩

end Go.Proofs.Ytbcljhedleemdaa.PInName
