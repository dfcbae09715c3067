-- Written by printx.py of this session, over the kit's print, with contracts of this session for some functions
import Derived.Test.YtheichpmhfledaaDoorPFnNumberBackx0
import Derived.Test.YtheichpmhfledaaDoorPFnNumberBackx1
namespace Go.Proofs.YtheichpmhfledaaDoor.PFnNumberBack
open Go.RowKit Go.Proofs.YtheichpmhfledaaDoorW.PrintWords Go.Proofs.YtheichpmhfledaaDoorW.PrintLast Go.Proofs.YtheichpmhfledaaDoorW.PrintMore
attribute [local go_sem] max2_int min2_int max_two min_two max_three min_three max_four min_four   -- for this text's walks alone
set_option linter.unusedVariables false
set_option linter.unusedSimpArgs false

/-! ### spec_between: function 27 -/
def spec_between.f (a0 : Int) (a1 : Int) (a2 : Int) : Option (Bool) := if a0 ≤ a1 then (some (decide (a1 ≤ a2))) else (some false)
set_option maxHeartbeats 8000000 in
set_option maxRecDepth 100000 in
theorem spec_between.calls (a0 : Int) (a1 : Int) (a2 : Int) (r : Bool) (w : World) (h : spec_between.f a0 a1 a2 = some r) :
    Calls Tryd.prog 27 #[.int .i64 a0, .int .i64 a1, .int .i64 a2] w fun e w' => e = .returned (.bool r) ∧ Drawn0 w w' := by
  have H : (if a0 ≤ a1 then (some (decide (a1 ≤ a2))) else (some false)) = some r := h
  clear h
  by_cases c4 : a0 ≤ a1
  · rw [if_pos c4] at H
    have c4b0 : decide (a0 ≤ a1) = true := decide_eq_true c4
    clear c4
    obtain rfl := Option.some.inj H
    go_enter Tryd.func27, Tryd.ntmps27
    go_wp2
    go_ret
    exact ⟨by first | rfl | (simp; done) | (simp [*]; done), by repeat (first | exact Drawn0.refl _ | apply Drawn0.step)⟩
  · rw [if_neg c4] at H
    have c4b0 : decide (a0 ≤ a1) = false := decide_eq_false c4
    clear c4
    obtain rfl := Option.some.inj H
    go_enter Tryd.func27, Tryd.ntmps27
    go_wp2
    go_ret
    exact ⟨by first | rfl | (simp; done) | (simp [*]; done), by repeat (first | exact Drawn0.refl _ | apply Drawn0.step)⟩

/-! ### spec_wtfTrail: function 13 -/
def spec_wtfTrail.f (a0 : Int) : Option (Bool) := (spec_between.f 56320 a0 57343).bind fun t103 => (some t103)
set_option maxHeartbeats 8000000 in
set_option maxRecDepth 100000 in
theorem spec_wtfTrail.calls (a0 : Int) (r : Bool) (w : World) (h : spec_wtfTrail.f a0 = some r) :
    Calls Tryd.prog 13 #[.int .i64 a0] w fun e w' => e = .returned (.bool r) ∧ Drawn0 w w' := by
  have H : ((spec_between.f 56320 a0 57343).bind fun t103 => (some t103)) = some r := h
  clear h
  replace H := Option.bind_eq_some_iff.mp H
  obtain ⟨t103, A20, H⟩ := H
  replace H : (some t103) = some r := H
  have A2 := Aside0.mk A20
  clear A20
  obtain rfl := Option.some.inj H
  go_enter Tryd.func13, Tryd.ntmps13
  go_wp2_with (first | ((with_reducible refine gate_callee (f := 27) rfl ?_); refine goesL_ (some 4) rfl rfl Tryd.func27 (by kernel_rfl) rfl #[.int .i64 56320, .int .i64 a0, .int .i64 57343] rfl (by (try simp only [List.map_toArray, List.map_cons, List.map_nil]); first | done | rfl | (simp only [List.length_drop, List.length_take]; rfl)) ?_; (with_reducible refine (spec_between.calls 56320 a0 57343 t103 _ A2.out).mono ?_); rintro e w' ⟨rfl, ⟨nd, rfl⟩⟩; refine ⟨_, rfl, ?_⟩))
  go_ret
  exact ⟨by first | rfl | (simp; done) | (simp [*]; done), by repeat (first | exact Drawn0.refl _ | apply Drawn0.step)⟩

/-! ### spec_wtfLead: function 14 -/
def spec_wtfLead.f (a0 : Int) : Option (Bool) := (spec_between.f 55296 a0 56319).bind fun t104 => (some t104)
set_option maxHeartbeats 8000000 in
set_option maxRecDepth 100000 in
theorem spec_wtfLead.calls (a0 : Int) (r : Bool) (w : World) (h : spec_wtfLead.f a0 = some r) :
    Calls Tryd.prog 14 #[.int .i64 a0] w fun e w' => e = .returned (.bool r) ∧ Drawn0 w w' := by
  have H : ((spec_between.f 55296 a0 56319).bind fun t104 => (some t104)) = some r := h
  clear h
  replace H := Option.bind_eq_some_iff.mp H
  obtain ⟨t104, A20, H⟩ := H
  replace H : (some t104) = some r := H
  have A2 := Aside0.mk A20
  clear A20
  obtain rfl := Option.some.inj H
  go_enter Tryd.func14, Tryd.ntmps14
  go_wp2_with (first | ((with_reducible refine gate_callee (f := 27) rfl ?_); refine goesL_ (some 4) rfl rfl Tryd.func27 (by kernel_rfl) rfl #[.int .i64 55296, .int .i64 a0, .int .i64 56319] rfl (by (try simp only [List.map_toArray, List.map_cons, List.map_nil]); first | done | rfl | (simp only [List.length_drop, List.length_take]; rfl)) ?_; (with_reducible refine (spec_between.calls 55296 a0 56319 t104 _ A2.out).mono ?_); rintro e w' ⟨rfl, ⟨nd, rfl⟩⟩; refine ⟨_, rfl, ?_⟩))
  go_ret
  exact ⟨by first | rfl | (simp; done) | (simp [*]; done), by repeat (first | exact Drawn0.refl _ | apply Drawn0.step)⟩

/-! ### spec_WtfUnits: function 6 -/
mutual
def spec_WtfUnits.l0 : Nat → ByteArray → List Int → Int → Option (List Int × Bool)
  | 0, _, _, _ => none
  | k + 1, x0, x4, x5 => if (x0.size : Int) > 0 then ((spec_WtfRune.f k x0).bind fun bt105 => (if bt105.2 = 0 then (spec_WtfUnits.j1 k x0 x4 bt105.1 bt105.2 true) else (if bt105.2 = 3 then ((spec_wtfTrail.f bt105.1).bind fun t107 => (if t107 = true then ((spec_wtfLead.f x5).bind fun t108 => (spec_WtfUnits.j1 k x0 x4 bt105.1 bt105.2 t108)) else (spec_WtfUnits.j1 k x0 x4 bt105.1 bt105.2 false))) else (spec_WtfUnits.j1 k x0 x4 bt105.1 bt105.2 false)))) else (some (x4, true))
def spec_WtfUnits.j1 : Nat → ByteArray → List Int → Int → Int → Bool → Option (List Int × Bool)
  | 0, _, _, _, _, _ => none
  | k + 1, x0, x4, x6, x7, x29 => if x29 = true then (some (([] : List Int), false)) else (if x6 ≥ 65536 then ((some (([IntKind.u16.wrap (wrap64 (55296 + ((wrap64 (x6 - 65536)) / 1024))), IntKind.u16.wrap (wrap64 (56320 + (Go.bits .and .i64 (wrap64 (x6 - 65536)) 1023)))] : List Int) : List Int)).bind fun y109 => (if x4.length + y109.length < 70368744177664 then (if 0 ≤ x7 then (if x7 ≤ (x0.size : Int) then (spec_WtfUnits.l0 k (x0.extract (x7 : Int).toNat x0.size) (x4 ++ y109) x6) else (none)) else (none)) else (none))) else (if x4.length < 70368744177664 then (if 0 ≤ x7 then (if x7 ≤ (x0.size : Int) then (spec_WtfUnits.l0 k (x0.extract (x7 : Int).toNat x0.size) (x4 ++ [IntKind.u16.wrap (x6)]) x6) else (none)) else (none)) else (none)))
end
def spec_WtfUnits.f (k : Nat) (a0 : ByteArray) : Option (List Int × Bool) := spec_WtfUnits.l0 k a0 ([] : List Int) 0
theorem spec_WtfUnits.mono_l : ∀ k, (∀ y0 y1 y2, LeO (spec_WtfUnits.l0 k y0 y1 y2) (spec_WtfUnits.l0 (k + 1) y0 y1 y2)) ∧ (∀ y0 y1 y2 y3 y4, LeO (spec_WtfUnits.j1 k y0 y1 y2 y3 y4) (spec_WtfUnits.j1 (k + 1) y0 y1 y2 y3 y4))
  | 0 => ⟨fun _ _ _ r h => by simp [spec_WtfUnits.l0] at h, fun _ _ _ _ _ r h => by simp [spec_WtfUnits.j1] at h⟩
  | k + 1 => by
    obtain ⟨ih0, ih1⟩ := spec_WtfUnits.mono_l k
    refine ⟨?_, ?_⟩
    · intro y0 y1 y2
      unfold spec_WtfUnits.l0
      repeat' first
      | (with_reducible exact ih0 _ _ _)
      | (with_reducible exact ih1 _ _ _ _ _)
      | (with_reducible exact spec_WtfRune.mono _ _)
      | (with_reducible exact LeO.refl _)
      | (with_reducible exact LeO.none _)
      | (with_reducible refine LeO.ite ?_ ?_)
      | (with_reducible refine LeO.bind ?_ (fun _ => ?_))
      | exact ih0 _ _ _
      | exact ih1 _ _ _ _ _
      | exact spec_WtfRune.mono _ _
      | exact LeO.none _
      | refine LeO.ite ?_ ?_
      | refine LeO.bind ?_ (fun _ => ?_)
    · intro y0 y1 y2 y3 y4
      unfold spec_WtfUnits.j1
      repeat' first
      | (with_reducible exact ih0 _ _ _)
      | (with_reducible exact ih1 _ _ _ _ _)
      | (with_reducible exact spec_WtfRune.mono _ _)
      | (with_reducible exact LeO.refl _)
      | (with_reducible exact LeO.none _)
      | (with_reducible refine LeO.ite ?_ ?_)
      | (with_reducible refine LeO.bind ?_ (fun _ => ?_))
      | exact ih0 _ _ _
      | exact ih1 _ _ _ _ _
      | exact spec_WtfRune.mono _ _
      | exact LeO.none _
      | refine LeO.ite ?_ ?_
      | refine LeO.bind ?_ (fun _ => ?_)
theorem spec_WtfUnits.mono : ∀ a0 k, LeO (spec_WtfUnits.f k a0) (spec_WtfUnits.f (k + 1) a0) := by
  intro a0 k
  obtain ⟨ih0, ih1⟩ := spec_WtfUnits.mono_l k
  unfold spec_WtfUnits.f
  repeat' first
      | (with_reducible exact ih0 _ _ _)
      | (with_reducible exact ih1 _ _ _ _ _)
      | (with_reducible exact spec_WtfRune.mono _ _)
      | (with_reducible exact LeO.refl _)
      | (with_reducible exact LeO.none _)
      | (with_reducible refine LeO.ite ?_ ?_)
      | (with_reducible refine LeO.bind ?_ (fun _ => ?_))
      | exact ih0 _ _ _
      | exact ih1 _ _ _ _ _
      | exact spec_WtfRune.mono _ _
      | exact LeO.none _
      | refine LeO.ite ?_ ?_
      | refine LeO.bind ?_ (fun _ => ?_)
set_option maxHeartbeats 8000000 in
set_option maxRecDepth 100000 in
theorem spec_WtfUnits.calls (k : Nat) (a0 : ByteArray) (r1 : List Int) (r2 : Bool) (w : World) (h : spec_WtfUnits.f k a0 = some (r1, r2)) :
    Calls Tryd.prog 6 #[.string a0] w fun e w' => ∃ v0_ : Value, e = .returned (.tuple #[v0_, .bool r2]) ∧ Kd.R (Kd.int .u16) 36 w' w.heap.size (fun _ => True) v0_ r1 ∧ Below w.heap.size w w' := by
  have HB := Aside0.mk (Below.refl w.heap.size w)
  have H : (spec_WtfUnits.l0 k a0 ([] : List Int) 0) = some (r1, r2) := h
  clear h
  have H' := Aside0.mk H
  clear H
  go_enter Tryd.func6, Tryd.ntmps6
  go_wp2
  go_loopg [0, 4, 5] k (fun kq v0 v4 v5 w' => ∃ (x0_1 : ByteArray) (x4_1 : List Int) (x5_1 : Int), v0 = .string x0_1 ∧ v5 = .int .i64 x5_1 ∧ Aside0 (spec_WtfUnits.l0 kq x0_1 x4_1 x5_1 = some (r1, r2)) ∧ Aside0 (kq ≤ k) ∧ Aside0 (Kd.R (Kd.int .u16) 36 w' w.heap.size (fun _ => True) v4 x4_1) ∧ Aside0 (Below w.heap.size w w'))
  case atStart => exact ⟨(a0), (([] : List Int)), (0), (by first | rfl | (simp; done) | (simp [*]; done)), (by first | rfl | (simp; done) | (simp [*]; done)), H', ⟨Nat.le_refl _⟩, ⟨by first | exact Kd.R_nil _ _ _ _ _ | exact Kd.N_nil _ _ _ _ _ | exact Kd.V_nil _ _ _ _ _ | exact Kd.Q_nil _ _ _ _ _ | exact Kd.S_nil _ _ _ _ _⟩, ⟨by repeat (first | (with_reducible first | exact HB.out | apply below_alloc | apply pw_below_drewN | apply below_drew1) | exact HB.out)⟩⟩
  case round =>
    clear H'
    obtain ⟨x0_1, x4_1, x5_1, rfl, rfl, HA, HK1, HO_4, HB⟩ := hrel
    cases gk with
    | zero => exact absurd HA.out (by simp [spec_WtfUnits.l0])
    | succ k1 =>
      have H := HA.out
      clear HA
      simp only [spec_WtfUnits.l0] at H
      by_cases c2 : (x0_1.size : Int) > 0
      · rw [if_pos c2] at H
        have c2b0 : decide (0 < (x0_1.size : Int)) = true := decide_eq_true c2
        have c2b1 : decide (0 < x0_1.size) = true := decide_eq_true (by omega)
        clear c2
        replace H := Option.bind_eq_some_iff.mp H
        obtain ⟨⟨t105, t106⟩, A30, H⟩ := H
        replace H : (if t106 = 0 then (spec_WtfUnits.j1 k1 x0_1 x4_1 t105 t106 true) else (if t106 = 3 then ((spec_wtfTrail.f t105).bind fun t107 => (if t107 = true then ((spec_wtfLead.f x5_1).bind fun t108 => (spec_WtfUnits.j1 k1 x0_1 x4_1 t105 t106 t108)) else (spec_WtfUnits.j1 k1 x0_1 x4_1 t105 t106 false))) else (spec_WtfUnits.j1 k1 x0_1 x4_1 t105 t106 false))) = some (r1, r2) := H
        have A3 := Aside0.mk A30
        clear A30
        have HC4 := Aside0.mk H
        clear H
        go_upto_region 5 with (first | ((with_reducible refine gate_callee (f := 12) rfl ?_); refine goesL_ (some 13) rfl rfl Tryd.func12 (by kernel_rfl) rfl #[.string x0_1] rfl (by (try simp only [List.map_toArray, List.map_cons, List.map_nil]); first | done | rfl | (simp only [List.length_drop, List.length_take]; rfl)) ?_; (with_reducible refine (spec_WtfRune.calls k1 x0_1 t105 t106 _ A3.out).mono ?_); rintro e w' ⟨rfl, ⟨nd, rfl⟩⟩; refine ⟨_, rfl, ?_⟩))
        (try simp only [Act.put, List.setIfInBounds_toArray, List.set_cons_zero, List.set_cons_succ])
        go_cut [29] (fun v29 wc => ∃ (kq : Nat) (x29_3 : Bool), v29 = .bool x29_3 ∧ Aside0 (spec_WtfUnits.j1 kq x0_1 x4_1 t105 t106 x29_3 = some (r1, r2)) ∧ Aside0 (kq ≤ k1) ∧ Aside0 (Kd.R (Kd.int .u16) 36 wc w.heap.size (fun _ => True) u4 x4_1) ∧ Aside0 (Below w.heap.size w wc))
        case first =>
          have H := HC4.out
          clear HC4
          by_cases c5 : t106 = 0
          · rw [if_pos c5] at H
            have c5b0 : (t106 == 0) = true := beq_iff_eq.mpr c5
            have c5b1 : (t106 != 0) = false := bne_eq_false_iff_eq.mpr c5
            clear c5
            (first | rw [c5b0] | (simp only [i64_w, i32_w]; rw [c5b0]) | skip)
            have H' := Aside0.mk H
            clear H
            go_wp2
            go_meet
            case rel => exact ⟨_, (true), (by first | rfl | (simp; done) | (simp [*]; done)), H', ⟨by have := HK1.out; first | omega | exact Nat.le_refl _⟩, ⟨by (with_reducible repeat (first | apply Kd.R_alloc | apply Kd.R_drewN | apply Kd.R_drew)); exact HO_4.out⟩, ⟨by repeat (first | (with_reducible first | exact HB.out | apply below_alloc | apply pw_below_drewN | apply below_drew1) | exact HB.out)⟩⟩
          · rw [if_neg c5] at H
            have c5b0 : (t106 == 0) = false := beq_eq_false_iff_ne.mpr c5
            have c5b1 : (t106 != 0) = true := bne_iff_ne.mpr c5
            (first | rw [c5b0] | (simp only [i64_w, i32_w]; rw [c5b0]) | skip)
            by_cases c6 : t106 = 3
            · rw [if_pos c6] at H
              have c6b0 : (t106 == 3) = true := beq_iff_eq.mpr c6
              have c6b1 : (t106 != 3) = false := bne_eq_false_iff_eq.mpr c6
              clear c6
              replace H := Option.bind_eq_some_iff.mp H
              obtain ⟨t107, A70, H⟩ := H
              replace H : (if t107 = true then ((spec_wtfLead.f x5_1).bind fun t108 => (spec_WtfUnits.j1 k1 x0_1 x4_1 t105 t106 t108)) else (spec_WtfUnits.j1 k1 x0_1 x4_1 t105 t106 false)) = some (r1, r2) := H
              have A7 := Aside0.mk A70
              clear A70
              by_cases c8 : t107 = true
              · subst c8
                have H1 : ((spec_wtfLead.f x5_1).bind fun t108 => (spec_WtfUnits.j1 k1 x0_1 x4_1 t105 t106 t108)) = some (r1, r2) := by rw [if_pos rfl] at H; exact H
                clear H
                have H := H1
                clear H1
                replace H := Option.bind_eq_some_iff.mp H
                obtain ⟨t108, A90, H⟩ := H
                replace H : (spec_WtfUnits.j1 k1 x0_1 x4_1 t105 t106 t108) = some (r1, r2) := H
                have A9 := Aside0.mk A90
                clear A90
                have H' := Aside0.mk H
                clear H
                go_wp2_with (first | (go_at_call 13; (with_reducible refine (spec_wtfTrail.calls t105 true _ A7.out).mono ?_); rintro e w' ⟨rfl, ⟨nd, rfl⟩⟩) | (go_at_call 14; (with_reducible refine (spec_wtfLead.calls x5_1 t108 _ A9.out).mono ?_); rintro e w' ⟨rfl, ⟨nd, rfl⟩⟩))
                go_meet
                case rel => exact ⟨_, (t108), (by first | rfl | (simp; done) | (simp [*]; done)), H', ⟨by have := HK1.out; first | omega | exact Nat.le_refl _⟩, ⟨by (with_reducible repeat (first | apply Kd.R_alloc | apply Kd.R_drewN | apply Kd.R_drew)); exact HO_4.out⟩, ⟨by repeat (first | (with_reducible first | exact HB.out | apply below_alloc | apply pw_below_drewN | apply below_drew1) | exact HB.out)⟩⟩
              · replace c8 := Bool.eq_false_iff.mpr c8
                subst c8
                have H1 : (spec_WtfUnits.j1 k1 x0_1 x4_1 t105 t106 false) = some (r1, r2) := by rw [if_neg (show ¬ (false = true) by decide)] at H; exact H
                clear H
                have H := H1
                clear H1
                have H' := Aside0.mk H
                clear H
                go_wp2_with (first | (go_at_call 13; (with_reducible refine (spec_wtfTrail.calls t105 false _ A7.out).mono ?_); rintro e w' ⟨rfl, ⟨nd, rfl⟩⟩))
                go_meet
                case rel => exact ⟨_, (false), (by first | rfl | (simp; done) | (simp [*]; done)), H', ⟨by have := HK1.out; first | omega | exact Nat.le_refl _⟩, ⟨by (with_reducible repeat (first | apply Kd.R_alloc | apply Kd.R_drewN | apply Kd.R_drew)); exact HO_4.out⟩, ⟨by repeat (first | (with_reducible first | exact HB.out | apply below_alloc | apply pw_below_drewN | apply below_drew1) | exact HB.out)⟩⟩
            · rw [if_neg c6] at H
              have c6b0 : (t106 == 3) = false := beq_eq_false_iff_ne.mpr c6
              have c6b1 : (t106 != 3) = true := bne_iff_ne.mpr c6
              have H' := Aside0.mk H
              clear H
              go_wp2
              go_meet
              case rel => exact ⟨_, (false), (by first | rfl | (simp; done) | (simp [*]; done)), H', ⟨by have := HK1.out; first | omega | exact Nat.le_refl _⟩, ⟨by (with_reducible repeat (first | apply Kd.R_alloc | apply Kd.R_drewN | apply Kd.R_drew)); exact HO_4.out⟩, ⟨by repeat (first | (with_reducible first | exact HB.out | apply below_alloc | apply pw_below_drewN | apply below_drew1) | exact HB.out)⟩⟩
        case rest =>
          clear HC4
          try clear c1
          try clear c2
          try clear c2b0
          try clear c2b1
          try clear p2
          try clear c5
          try clear c5b0
          try clear c5b1
          try clear c6
          try clear c6b0
          try clear c6b1
          try clear c8
          obtain ⟨kq, x29_3, rfl, HA, HJ3, HO_4, HB⟩ := hcut
          cases kq with
          | zero => exact absurd HA.out (by simp [spec_WtfUnits.j1])
          | succ kj3 =>
            have H := HA.out
            clear HA
            simp only [spec_WtfUnits.j1] at H
            by_cases c10 : x29_3 = true
            · subst c10
              have H1 : (some (([] : List Int), false)) = some (r1, r2) := by rw [if_pos rfl] at H; exact H
              clear H
              have H := H1
              clear H1
              simp only [Option.some.injEq, Prod.mk.injEq] at H
              obtain ⟨rfl, rfl⟩ := H
              go_wp2
              go_ret2
              exact ⟨_, by first | rfl | (simp [errW_none, errW_some] <;> rfl) | (simp [*, errW_none, errW_some] <;> rfl), by first | exact Kd.R_nil _ _ _ _ _ | exact Kd.N_nil _ _ _ _ _ | exact Kd.V_nil _ _ _ _ _ | exact Kd.Q_nil _ _ _ _ _ | exact Kd.S_nil _ _ _ _ _, by repeat (first | (with_reducible first | exact HB.out | apply below_alloc | apply pw_below_drewN | apply below_drew1) | exact HB.out)⟩
            · replace c10 := Bool.eq_false_iff.mpr c10
              subst c10
              have H1 : (if t105 ≥ 65536 then ((some (([IntKind.u16.wrap (wrap64 (55296 + ((wrap64 (t105 - 65536)) / 1024))), IntKind.u16.wrap (wrap64 (56320 + (Go.bits .and .i64 (wrap64 (t105 - 65536)) 1023)))] : List Int) : List Int)).bind fun y109 => (if x4_1.length + y109.length < 70368744177664 then (if 0 ≤ t106 then (if t106 ≤ (x0_1.size : Int) then (spec_WtfUnits.l0 kj3 (x0_1.extract (t106 : Int).toNat x0_1.size) (x4_1 ++ y109) t105) else (none)) else (none)) else (none))) else (if x4_1.length < 70368744177664 then (if 0 ≤ t106 then (if t106 ≤ (x0_1.size : Int) then (spec_WtfUnits.l0 kj3 (x0_1.extract (t106 : Int).toNat x0_1.size) (x4_1 ++ [IntKind.u16.wrap (t105)]) t105) else (none)) else (none)) else (none))) = some (r1, r2) := by rw [if_neg (show ¬ (false = true) by decide)] at H; exact H
              clear H
              have H := H1
              clear H1
              by_cases c11 : t105 ≥ 65536
              · rw [if_pos c11] at H
                have c11b0 : decide (65536 ≤ t105) = true := decide_eq_true c11
                clear c11
                obtain ⟨y109, hy109⟩ : ∃ y_ : List Int, y_ = (([IntKind.u16.wrap (wrap64 (55296 + ((wrap64 (t105 - 65536)) / 1024))), IntKind.u16.wrap (wrap64 (56320 + (Go.bits .and .i64 (wrap64 (t105 - 65536)) 1023)))] : List Int)) := ⟨_, rfl⟩
                replace H : (if x4_1.length + y109.length < 70368744177664 then (if 0 ≤ t106 then (if t106 ≤ (x0_1.size : Int) then (spec_WtfUnits.l0 kj3 (x0_1.extract (t106 : Int).toNat x0_1.size) (x4_1 ++ y109) t105) else (none)) else (none)) else (none)) = some (r1, r2) := by first | (rw [hy109]; with_reducible exact H) | (have H2_ := (Option.bind_some _ _).symm.trans H; rw [hy109]; with_reducible exact H2_) | (have H2_ := (Option.bind_some _ _).symm.trans H; with_reducible exact H2_) | with_reducible exact H | (rw [hy109]; exact H) | exact H
                have Ny109 := Aside0.mk hy109
                clear hy109
                by_cases c12 : x4_1.length + y109.length < 70368744177664
                · rw [if_pos c12] at H
                  have LMc12 := Aside0.mk c12
                  clear c12
                  obtain ⟨y112, hy112⟩ : ∃ y_ : List Int, y_ = (x4_1 ++ y109) := ⟨_, rfl⟩
                  replace H : (if 0 ≤ t106 then (if t106 ≤ (x0_1.size : Int) then (spec_WtfUnits.l0 kj3 (x0_1.extract (t106 : Int).toNat x0_1.size) y112 t105) else (none)) else (none)) = some (r1, r2) := by first | (rw [hy112]; with_reducible exact H) | (have H2_ := (Option.bind_some _ _).symm.trans H; rw [hy112]; with_reducible exact H2_) | (have H2_ := (Option.bind_some _ _).symm.trans H; with_reducible exact H2_) | with_reducible exact H | (rw [hy112]; exact H) | exact H
                  have Ny112 := Aside0.mk hy112
                  clear hy112
                  by_cases c13 : 0 ≤ t106
                  · rw [if_pos c13] at H
                    have c13b0 := eq_true c13
                    have c13b1 : decide (0 ≤ t106) = true := decide_eq_true c13
                    clear c13
                    by_cases c14 : t106 ≤ (x0_1.size : Int)
                    · rw [if_pos c14] at H
                      have c14b0 := eq_true c14
                      have c14b1 : decide (t106 ≤ (x0_1.size : Int)) = true := decide_eq_true c14
                      clear c14
                      have H' := Aside0.mk H
                      clear H
                      go_wp2_with (first | ((with_reducible refine gate_dst (N := 44) rfl ?_); refine Kd.R_lit (Kd.int .u16) _ 36 ?hg (N := 44) ?hd (xs := ([IntKind.u16.wrap (wrap64 (55296 + ((wrap64 (t105 - 65536)) / 1024))), IntKind.u16.wrap (wrap64 (56320 + (Go.bits .and .i64 (wrap64 (t105 - 65536)) 1023)))] : List Int)) (inner := [.int .u16 (IntKind.u16.wrap (wrap64 (55296 + ((wrap64 (t105 - 65536)) / 1024)))), .int .u16 (IntKind.u16.wrap (wrap64 (56320 + (Go.bits .and .i64 (wrap64 (t105 - 65536)) 1023))))]) (ok := fun _ => True) (okp := fun _ => True) ?hr ?hp (fun _ hk => hk) trivial (Below.refl _ _) (Nat.le_refl _) (by simp) ?_; (case hd => rfl); (case hg => rfl); (case hr => first | (go_simp; done) | (go_simp; rfl)); (case hp => exact (Reps.one (show Kd.M (Kd.int .u16) _ _ _ (IntKind.u16.wrap (wrap64 (55296 + ((wrap64 (t105 - 65536)) / 1024)))) [.int .u16 (IntKind.u16.wrap (wrap64 (55296 + ((wrap64 (t105 - 65536)) / 1024))))] from rfl) (Reps.one (show Kd.M (Kd.int .u16) _ _ _ (IntKind.u16.wrap (wrap64 (56320 + (Go.bits .and .i64 (wrap64 (t105 - 65536)) 1023)))) [.int .u16 (IntKind.u16.wrap (wrap64 (56320 + (Go.bits .and .i64 (wrap64 (t105 - 65536)) 1023))))] from rfl) (Reps.none _ _)))); intro v110 w15 ho16 hb hg_ hnew_; clear hg_ hnew_; (first | rw [← Ny109.out] at ho16 | (simp only [Int.reduceToNat] at ho16; rw [← Ny109.out] at ho16)); have n0_ := Aside0.mk (Kd.R_elder' (by (with_reducible repeat (first | apply Kd.R_alloc | apply Kd.R_drewN | apply Kd.R_drew)); exact HO_4.out) (Kd.R_base ho16) hb); have n1_ := Aside0.mk (Kd.R_lower (Kd.R_new' ho16 (Kd.R_lt (by (with_reducible repeat (first | apply Kd.R_alloc | apply Kd.R_drewN | apply Kd.R_drew)); exact HO_4.out))) (below_size (by repeat (first | (with_reducible first | exact HB.out | apply below_alloc | apply pw_below_drewN | apply below_drew1) | exact HB.out)))); have n2_ := Aside0.mk (below_step (by repeat (first | (with_reducible first | exact HB.out | apply below_alloc | apply pw_below_drewN | apply below_drew1) | exact HB.out)) hb); clear HO_4; clear HB; have HO_4 := n0_; have HO111 := n1_; have HB := n2_; clear n0_ n1_ n2_; clear hb ho16; obtain ⟨Ao18, co18, eo18⟩ := Kd.R_slice HO111.out; subst eo18) | ((with_reducible refine gate_builtin (b := .append) (xs := #[.tmp 33, .tmp 44]) rfl ?_); at_builtin; refine Kd.R_append_rows (Kd.int .u16) (w0 := w) w.heap.size rfl (.tmp 33) (.tmp 44) 25 36 (.int .u16 0) 2 rfl Tryd.underlying25 info36 rfl (by decide) (by omega) u4 x4_1 y109 _ _ _ (fun k_ => some k_ ≠ (.slice Ao18 y109.length co18 : Value).ownBlock) (fun _ => False) rfl rfl ?aO ?aR (fun _ _ h => h) (fun _ h => h.elim) ?aF ?aB ?aS ?aL ?_; (case aR => repeat (first | exact (Kd.R_reads' HO111.out).2.2 | (with_reducible refine Kd.C_alloc ?_ _) | (with_reducible refine Kd.C_drewN ?_ _) | (with_reducible refine Kd.C_drew ?_))); (case aB => exact (by repeat (first | (with_reducible first | exact HB.out | apply below_alloc | apply pw_below_drewN | apply below_drew1) | exact HB.out))); (case aF => exact (fun k_ hk => Kd.fresh' (Kd.R_lt (by (with_reducible repeat (first | apply Kd.R_alloc | apply Kd.R_drewN | apply Kd.R_drew)); exact HO111.out)) k_ hk)); (case aO => exact (by (with_reducible repeat (first | apply Kd.R_alloc | apply Kd.R_drewN | apply Kd.R_drew)); exact Kd.R_mono HO_4.out (fun _ hk => hk.2))); (case aS => exact (below_size (by repeat (first | (with_reducible first | exact HB.out | apply below_alloc | apply pw_below_drewN | apply below_drew1) | exact HB.out)))); (case aL => have := LMc12.out; omega); intro v113 w17 ho hb hg hat; rw [← Ny112.out] at ho; have n0_ := Aside0.mk (Kd.R_after (ok := (fun _ => True)) (by (with_reducible repeat (first | apply Kd.R_alloc | apply Kd.R_drewN | apply Kd.R_drew)); exact HO111.out) hg hat); have n1_ := Aside0.mk (hb); have n2_ := Aside0.mk (ho); clear HO111; clear HB; clear HO_4; have HO111 := n0_; have HB := n1_; have HO114 := n2_; clear n0_ n1_ n2_; clear ho hb hg hat))
                      go_roundg kj3
                      case measure => have := HK1.out; have := HJ3.out; omega
                      case rel => exact ⟨(x0_1.extract (t106 : Int).toNat x0_1.size), (y112), (t105), (by first | rfl | (simp; done) | (simp [*]; done)), (by first | rfl | (simp; done) | (simp [*]; done)), H', ⟨by have := HK1.out; have := HJ3.out; omega⟩, ⟨by (with_reducible repeat (first | apply Kd.R_alloc | apply Kd.R_drewN | apply Kd.R_drew)); exact Kd.R_mono HO114.out (fun _ hk => trivial)⟩, ⟨by repeat (first | (with_reducible first | exact HB.out | apply below_alloc | apply pw_below_drewN | apply below_drew1) | exact HB.out)⟩⟩
                    · rw [if_neg c14] at H
                      exact absurd H (by simp)
                  · rw [if_neg c13] at H
                    exact absurd H (by simp)
                · rw [if_neg c12] at H
                  exact absurd H (by simp)
              · rw [if_neg c11] at H
                have c11b0 : decide (65536 ≤ t105) = false := decide_eq_false c11
                clear c11
                by_cases c19 : x4_1.length < 70368744177664
                · rw [if_pos c19] at H
                  have LMc19 := Aside0.mk c19
                  clear c19
                  obtain ⟨y115, hy115⟩ : ∃ y_ : List Int, y_ = (x4_1 ++ [IntKind.u16.wrap (t105)]) := ⟨_, rfl⟩
                  replace H : (if 0 ≤ t106 then (if t106 ≤ (x0_1.size : Int) then (spec_WtfUnits.l0 kj3 (x0_1.extract (t106 : Int).toNat x0_1.size) y115 t105) else (none)) else (none)) = some (r1, r2) := by first | (rw [hy115]; with_reducible exact H) | (have H2_ := (Option.bind_some _ _).symm.trans H; rw [hy115]; with_reducible exact H2_) | (have H2_ := (Option.bind_some _ _).symm.trans H; with_reducible exact H2_) | with_reducible exact H | (rw [hy115]; exact H) | exact H
                  have Ny115 := Aside0.mk hy115
                  clear hy115
                  by_cases c20 : 0 ≤ t106
                  · rw [if_pos c20] at H
                    have c20b0 := eq_true c20
                    have c20b1 : decide (0 ≤ t106) = true := decide_eq_true c20
                    clear c20
                    by_cases c21 : t106 ≤ (x0_1.size : Int)
                    · rw [if_pos c21] at H
                      have c21b0 := eq_true c21
                      have c21b1 : decide (t106 ≤ (x0_1.size : Int)) = true := decide_eq_true c21
                      clear c21
                      have H' := Aside0.mk H
                      clear H
                      go_wp2_with (first | ((with_reducible refine gate_builtin (b := .append) (xs := #[.tmp 46, .tmp 49]) rfl ?_); at_builtin; refine Kd.R_append (Kd.int .u16) (w0 := w) w.heap.size rfl (.tmp 46) (.tmp 49) 25 36 (.int .u16 0) 2 rfl Tryd.underlying25 info36 rfl (by decide) (by omega) u4 x4_1 (IntKind.u16.wrap (t105)) [.int .u16 (IntKind.u16.wrap (t105))] (fun _ => True) (fun _ => False) rfl rfl ?aP (fun _ hk => hk.elim) ?aF ?aO ?aB ?aS ?aL ?_; (case aP => exact rfl); (case aB => exact (by repeat (first | (with_reducible first | exact HB.out | apply below_alloc | apply pw_below_drewN | apply below_drew1) | exact HB.out))); (case aF => exact (fun _ _ => trivial)); (case aO => exact (by (with_reducible repeat (first | apply Kd.R_alloc | apply Kd.R_drewN | apply Kd.R_drew)); exact HO_4.out)); (case aS => exact (below_size (by repeat (first | (with_reducible first | exact HB.out | apply below_alloc | apply pw_below_drewN | apply below_drew1) | exact HB.out)))); (case aL => have := LMc19.out; omega); intro v116 w22 ho hb hg hat; rw [← Ny115.out] at ho; have n0_ := Aside0.mk (hb); have n1_ := Aside0.mk (ho); clear HB; clear HO_4; have HB := n0_; have HO117 := n1_; clear n0_ n1_; clear ho hb hg hat))
                      go_roundg kj3
                      case measure => have := HK1.out; have := HJ3.out; omega
                      case rel => exact ⟨(x0_1.extract (t106 : Int).toNat x0_1.size), (y115), (t105), (by first | rfl | (simp; done) | (simp [*]; done)), (by first | rfl | (simp; done) | (simp [*]; done)), H', ⟨by have := HK1.out; have := HJ3.out; omega⟩, ⟨by (with_reducible repeat (first | apply Kd.R_alloc | apply Kd.R_drewN | apply Kd.R_drew)); exact HO117.out⟩, ⟨by repeat (first | (with_reducible first | exact HB.out | apply below_alloc | apply pw_below_drewN | apply below_drew1) | exact HB.out)⟩⟩
                    · rw [if_neg c21] at H
                      exact absurd H (by simp)
                  · rw [if_neg c20] at H
                    exact absurd H (by simp)
                · rw [if_neg c19] at H
                  exact absurd H (by simp)
      · rw [if_neg c2] at H
        have c2b0 : decide (0 < (x0_1.size : Int)) = false := decide_eq_false c2
        have c2b1 : decide (0 < x0_1.size) = false := decide_eq_false (by omega)
        clear c2
        simp only [Option.some.injEq, Prod.mk.injEq] at H
        obtain ⟨rfl, rfl⟩ := H
        go_wp2
        go_ret2
        exact ⟨_, by first | rfl | (simp [errW_none, errW_some] <;> rfl) | (simp [*, errW_none, errW_some] <;> rfl), by (with_reducible repeat (first | apply Kd.R_alloc | apply Kd.R_drewN | apply Kd.R_drew)); exact HO_4.out, by repeat (first | (with_reducible first | exact HB.out | apply below_alloc | apply pw_below_drewN | apply below_drew1) | exact HB.out)⟩

/-! ### spec_Blank: function 62 -/
def spec_Blank.f (a0 : Int) : Option (Bool) := if a0 = 9 then (some true) else (if a0 = 11 then (some true) else (if a0 = 12 then (some true) else (if a0 = 32 then (some true) else (if a0 = 160 then (some true) else (if a0 = 65279 then (some true) else (if a0 = 5760 then (some true) else (if a0 = 8239 then (some true) else (if a0 = 8287 then (some true) else (if a0 = 12288 then (some true) else ((spec_between.f 8192 a0 8202).bind fun t118 => (some t118)))))))))))
set_option maxHeartbeats 8000000 in
set_option maxRecDepth 100000 in
theorem spec_Blank.calls (a0 : Int) (r : Bool) (w : World) (h : spec_Blank.f a0 = some r) :
    Calls Tryd.prog 62 #[.int .i64 a0] w fun e w' => e = .returned (.bool r) ∧ Drawn0 w w' := by
  have H : (if a0 = 9 then (some true) else (if a0 = 11 then (some true) else (if a0 = 12 then (some true) else (if a0 = 32 then (some true) else (if a0 = 160 then (some true) else (if a0 = 65279 then (some true) else (if a0 = 5760 then (some true) else (if a0 = 8239 then (some true) else (if a0 = 8287 then (some true) else (if a0 = 12288 then (some true) else ((spec_between.f 8192 a0 8202).bind fun t118 => (some t118)))))))))))) = some r := h
  clear h
  by_cases c2 : a0 = 9
  · rw [if_pos c2] at H
    have c2b0 : (a0 == 9) = true := beq_iff_eq.mpr c2
    have c2b1 : (a0 != 9) = false := bne_eq_false_iff_eq.mpr c2
    clear c2
    obtain rfl := Option.some.inj H
    go_enter Tryd.func62, Tryd.ntmps62
    go_wp2
    go_ret
    exact ⟨by first | rfl | (simp; done) | (simp [*]; done), by repeat (first | exact Drawn0.refl _ | apply Drawn0.step)⟩
  · rw [if_neg c2] at H
    have c2b0 : (a0 == 9) = false := beq_eq_false_iff_ne.mpr c2
    have c2b1 : (a0 != 9) = true := bne_iff_ne.mpr c2
    by_cases c3 : a0 = 11
    · rw [if_pos c3] at H
      have c3b0 : (a0 == 11) = true := beq_iff_eq.mpr c3
      have c3b1 : (a0 != 11) = false := bne_eq_false_iff_eq.mpr c3
      clear c3
      obtain rfl := Option.some.inj H
      go_enter Tryd.func62, Tryd.ntmps62
      go_wp2
      go_ret
      exact ⟨by first | rfl | (simp; done) | (simp [*]; done), by repeat (first | exact Drawn0.refl _ | apply Drawn0.step)⟩
    · rw [if_neg c3] at H
      have c3b0 : (a0 == 11) = false := beq_eq_false_iff_ne.mpr c3
      have c3b1 : (a0 != 11) = true := bne_iff_ne.mpr c3
      by_cases c4 : a0 = 12
      · rw [if_pos c4] at H
        have c4b0 : (a0 == 12) = true := beq_iff_eq.mpr c4
        have c4b1 : (a0 != 12) = false := bne_eq_false_iff_eq.mpr c4
        clear c4
        obtain rfl := Option.some.inj H
        go_enter Tryd.func62, Tryd.ntmps62
        go_wp2
        go_ret
        exact ⟨by first | rfl | (simp; done) | (simp [*]; done), by repeat (first | exact Drawn0.refl _ | apply Drawn0.step)⟩
      · rw [if_neg c4] at H
        have c4b0 : (a0 == 12) = false := beq_eq_false_iff_ne.mpr c4
        have c4b1 : (a0 != 12) = true := bne_iff_ne.mpr c4
        by_cases c5 : a0 = 32
        · rw [if_pos c5] at H
          have c5b0 : (a0 == 32) = true := beq_iff_eq.mpr c5
          have c5b1 : (a0 != 32) = false := bne_eq_false_iff_eq.mpr c5
          clear c5
          obtain rfl := Option.some.inj H
          go_enter Tryd.func62, Tryd.ntmps62
          go_wp2
          go_ret
          exact ⟨by first | rfl | (simp; done) | (simp [*]; done), by repeat (first | exact Drawn0.refl _ | apply Drawn0.step)⟩
        · rw [if_neg c5] at H
          have c5b0 : (a0 == 32) = false := beq_eq_false_iff_ne.mpr c5
          have c5b1 : (a0 != 32) = true := bne_iff_ne.mpr c5
          by_cases c6 : a0 = 160
          · rw [if_pos c6] at H
            have c6b0 : (a0 == 160) = true := beq_iff_eq.mpr c6
            have c6b1 : (a0 != 160) = false := bne_eq_false_iff_eq.mpr c6
            clear c6
            obtain rfl := Option.some.inj H
            go_enter Tryd.func62, Tryd.ntmps62
            go_wp2
            go_ret
            exact ⟨by first | rfl | (simp; done) | (simp [*]; done), by repeat (first | exact Drawn0.refl _ | apply Drawn0.step)⟩
          · rw [if_neg c6] at H
            have c6b0 : (a0 == 160) = false := beq_eq_false_iff_ne.mpr c6
            have c6b1 : (a0 != 160) = true := bne_iff_ne.mpr c6
            by_cases c7 : a0 = 65279
            · rw [if_pos c7] at H
              have c7b0 : (a0 == 65279) = true := beq_iff_eq.mpr c7
              have c7b1 : (a0 != 65279) = false := bne_eq_false_iff_eq.mpr c7
              clear c7
              obtain rfl := Option.some.inj H
              go_enter Tryd.func62, Tryd.ntmps62
              go_wp2
              go_ret
              exact ⟨by first | rfl | (simp; done) | (simp [*]; done), by repeat (first | exact Drawn0.refl _ | apply Drawn0.step)⟩
            · rw [if_neg c7] at H
              have c7b0 : (a0 == 65279) = false := beq_eq_false_iff_ne.mpr c7
              have c7b1 : (a0 != 65279) = true := bne_iff_ne.mpr c7
              by_cases c8 : a0 = 5760
              · rw [if_pos c8] at H
                have c8b0 : (a0 == 5760) = true := beq_iff_eq.mpr c8
                have c8b1 : (a0 != 5760) = false := bne_eq_false_iff_eq.mpr c8
                clear c8
                obtain rfl := Option.some.inj H
                go_enter Tryd.func62, Tryd.ntmps62
                go_wp2
                go_ret
                exact ⟨by first | rfl | (simp; done) | (simp [*]; done), by repeat (first | exact Drawn0.refl _ | apply Drawn0.step)⟩
              · rw [if_neg c8] at H
                have c8b0 : (a0 == 5760) = false := beq_eq_false_iff_ne.mpr c8
                have c8b1 : (a0 != 5760) = true := bne_iff_ne.mpr c8
                by_cases c9 : a0 = 8239
                · rw [if_pos c9] at H
                  have c9b0 : (a0 == 8239) = true := beq_iff_eq.mpr c9
                  have c9b1 : (a0 != 8239) = false := bne_eq_false_iff_eq.mpr c9
                  clear c9
                  obtain rfl := Option.some.inj H
                  go_enter Tryd.func62, Tryd.ntmps62
                  go_wp2
                  go_ret
                  exact ⟨by first | rfl | (simp; done) | (simp [*]; done), by repeat (first | exact Drawn0.refl _ | apply Drawn0.step)⟩
                · rw [if_neg c9] at H
                  have c9b0 : (a0 == 8239) = false := beq_eq_false_iff_ne.mpr c9
                  have c9b1 : (a0 != 8239) = true := bne_iff_ne.mpr c9
                  by_cases c10 : a0 = 8287
                  · rw [if_pos c10] at H
                    have c10b0 : (a0 == 8287) = true := beq_iff_eq.mpr c10
                    have c10b1 : (a0 != 8287) = false := bne_eq_false_iff_eq.mpr c10
                    clear c10
                    obtain rfl := Option.some.inj H
                    go_enter Tryd.func62, Tryd.ntmps62
                    go_wp2
                    go_ret
                    exact ⟨by first | rfl | (simp; done) | (simp [*]; done), by repeat (first | exact Drawn0.refl _ | apply Drawn0.step)⟩
                  · rw [if_neg c10] at H
                    have c10b0 : (a0 == 8287) = false := beq_eq_false_iff_ne.mpr c10
                    have c10b1 : (a0 != 8287) = true := bne_iff_ne.mpr c10
                    by_cases c11 : a0 = 12288
                    · rw [if_pos c11] at H
                      have c11b0 : (a0 == 12288) = true := beq_iff_eq.mpr c11
                      have c11b1 : (a0 != 12288) = false := bne_eq_false_iff_eq.mpr c11
                      clear c11
                      obtain rfl := Option.some.inj H
                      go_enter Tryd.func62, Tryd.ntmps62
                      go_wp2
                      go_ret
                      exact ⟨by first | rfl | (simp; done) | (simp [*]; done), by repeat (first | exact Drawn0.refl _ | apply Drawn0.step)⟩
                    · rw [if_neg c11] at H
                      have c11b0 : (a0 == 12288) = false := beq_eq_false_iff_ne.mpr c11
                      have c11b1 : (a0 != 12288) = true := bne_iff_ne.mpr c11
                      replace H := Option.bind_eq_some_iff.mp H
                      obtain ⟨t118, A120, H⟩ := H
                      replace H : (some t118) = some r := H
                      have A12 := Aside0.mk A120
                      clear A120
                      obtain rfl := Option.some.inj H
                      go_enter Tryd.func62, Tryd.ntmps62
                      go_wp2_with (first | ((with_reducible refine gate_callee (f := 27) rfl ?_); refine goesL_ (some 16) rfl rfl Tryd.func27 (by kernel_rfl) rfl #[.int .i64 8192, .int .i64 a0, .int .i64 8202] rfl (by (try simp only [List.map_toArray, List.map_cons, List.map_nil]); first | done | rfl | (simp only [List.length_drop, List.length_take]; rfl)) ?_; (with_reducible refine (spec_between.calls 8192 a0 8202 t118 _ A12.out).mono ?_); rintro e w' ⟨rfl, ⟨nd, rfl⟩⟩; refine ⟨_, rfl, ?_⟩))
                      go_ret
                      exact ⟨by first | rfl | (simp; done) | (simp [*]; done), by repeat (first | exact Drawn0.refl _ | apply Drawn0.step)⟩

/-! ### spec_LineEnd: function 63 -/
def spec_LineEnd.f (a0 : Int) : Option (Bool) := if a0 = 10 then (some true) else (if a0 = 13 then (some true) else (if a0 = 8232 then (some true) else (some (a0 == 8233))))
set_option maxHeartbeats 8000000 in
set_option maxRecDepth 100000 in
theorem spec_LineEnd.calls (a0 : Int) (r : Bool) (w : World) (h : spec_LineEnd.f a0 = some r) :
    Calls Tryd.prog 63 #[.int .i64 a0] w fun e w' => e = .returned (.bool r) ∧ Drawn0 w w' := by
  have H : (if a0 = 10 then (some true) else (if a0 = 13 then (some true) else (if a0 = 8232 then (some true) else (some (a0 == 8233))))) = some r := h
  clear h
  by_cases c2 : a0 = 10
  · rw [if_pos c2] at H
    have c2b0 : (a0 == 10) = true := beq_iff_eq.mpr c2
    have c2b1 : (a0 != 10) = false := bne_eq_false_iff_eq.mpr c2
    clear c2
    obtain rfl := Option.some.inj H
    go_enter Tryd.func63, Tryd.ntmps63
    go_wp2
    go_ret
    exact ⟨by first | rfl | (simp; done) | (simp [*]; done), by repeat (first | exact Drawn0.refl _ | apply Drawn0.step)⟩
  · rw [if_neg c2] at H
    have c2b0 : (a0 == 10) = false := beq_eq_false_iff_ne.mpr c2
    have c2b1 : (a0 != 10) = true := bne_iff_ne.mpr c2
    by_cases c3 : a0 = 13
    · rw [if_pos c3] at H
      have c3b0 : (a0 == 13) = true := beq_iff_eq.mpr c3
      have c3b1 : (a0 != 13) = false := bne_eq_false_iff_eq.mpr c3
      clear c3
      obtain rfl := Option.some.inj H
      go_enter Tryd.func63, Tryd.ntmps63
      go_wp2
      go_ret
      exact ⟨by first | rfl | (simp; done) | (simp [*]; done), by repeat (first | exact Drawn0.refl _ | apply Drawn0.step)⟩
    · rw [if_neg c3] at H
      have c3b0 : (a0 == 13) = false := beq_eq_false_iff_ne.mpr c3
      have c3b1 : (a0 != 13) = true := bne_iff_ne.mpr c3
      by_cases c4 : a0 = 8232
      · rw [if_pos c4] at H
        have c4b0 : (a0 == 8232) = true := beq_iff_eq.mpr c4
        have c4b1 : (a0 != 8232) = false := bne_eq_false_iff_eq.mpr c4
        clear c4
        obtain rfl := Option.some.inj H
        go_enter Tryd.func63, Tryd.ntmps63
        go_wp2
        go_ret
        exact ⟨by first | rfl | (simp; done) | (simp [*]; done), by repeat (first | exact Drawn0.refl _ | apply Drawn0.step)⟩
      · rw [if_neg c4] at H
        have c4b0 : (a0 == 8232) = false := beq_eq_false_iff_ne.mpr c4
        have c4b1 : (a0 != 8232) = true := bne_iff_ne.mpr c4
        obtain rfl := Option.some.inj H
        go_enter Tryd.func63, Tryd.ntmps63
        go_wp2
        go_ret
        exact ⟨by first | rfl | (simp; done) | (simp [*]; done), by repeat (first | exact Drawn0.refl _ | apply Drawn0.step)⟩

/-! ### spec_isBlankUnit: function 44 -/
def spec_isBlankUnit.f (a0 : Int) : Option (Bool) := (spec_Blank.f a0).bind fun t119 => (if t119 = true then (some true) else ((spec_LineEnd.f a0).bind fun t120 => (some t120)))
set_option maxHeartbeats 8000000 in
set_option maxRecDepth 100000 in
theorem spec_isBlankUnit.calls (a0 : Int) (r : Bool) (w : World) (h : spec_isBlankUnit.f a0 = some r) :
    Calls Tryd.prog 44 #[.int .i64 a0] w fun e w' => e = .returned (.bool r) ∧ Drawn0 w w' := by
  have H : ((spec_Blank.f a0).bind fun t119 => (if t119 = true then (some true) else ((spec_LineEnd.f a0).bind fun t120 => (some t120)))) = some r := h
  clear h
  replace H := Option.bind_eq_some_iff.mp H
  obtain ⟨t119, A20, H⟩ := H
  replace H : (if t119 = true then (some true) else ((spec_LineEnd.f a0).bind fun t120 => (some t120))) = some r := H
  have A2 := Aside0.mk A20
  clear A20
  by_cases c3 : t119 = true
  · subst c3
    have H1 : (some true) = some r := by rw [if_pos rfl] at H; exact H
    clear H
    have H := H1
    clear H1
    obtain rfl := Option.some.inj H
    go_enter Tryd.func44, Tryd.ntmps44
    go_wp2_with (first | ((with_reducible refine gate_callee (f := 62) rfl ?_); refine goesL_ (some 4) rfl rfl Tryd.func62 (by kernel_rfl) rfl #[.int .i64 a0] rfl (by (try simp only [List.map_toArray, List.map_cons, List.map_nil]); first | done | rfl | (simp only [List.length_drop, List.length_take]; rfl)) ?_; (with_reducible refine (spec_Blank.calls a0 true _ A2.out).mono ?_); rintro e w' ⟨rfl, ⟨nd, rfl⟩⟩; refine ⟨_, rfl, ?_⟩))
    go_ret
    exact ⟨by first | rfl | (simp; done) | (simp [*]; done), by repeat (first | exact Drawn0.refl _ | apply Drawn0.step)⟩
  · replace c3 := Bool.eq_false_iff.mpr c3
    subst c3
    have H1 : ((spec_LineEnd.f a0).bind fun t120 => (some t120)) = some r := by rw [if_neg (show ¬ (false = true) by decide)] at H; exact H
    clear H
    have H := H1
    clear H1
    replace H := Option.bind_eq_some_iff.mp H
    obtain ⟨t120, A40, H⟩ := H
    replace H : (some t120) = some r := H
    have A4 := Aside0.mk A40
    clear A40
    obtain rfl := Option.some.inj H
    go_enter Tryd.func44, Tryd.ntmps44
    go_wp2_with (first | ((with_reducible refine gate_callee (f := 62) rfl ?_); refine goesL_ (some 4) rfl rfl Tryd.func62 (by kernel_rfl) rfl #[.int .i64 a0] rfl (by (try simp only [List.map_toArray, List.map_cons, List.map_nil]); first | done | rfl | (simp only [List.length_drop, List.length_take]; rfl)) ?_; (with_reducible refine (spec_Blank.calls a0 false _ A2.out).mono ?_); rintro e w' ⟨rfl, ⟨nd, rfl⟩⟩; refine ⟨_, rfl, ?_⟩) | (go_at_call 63; (with_reducible refine (spec_LineEnd.calls a0 t120 _ A4.out).mono ?_); rintro e w' ⟨rfl, ⟨nd, rfl⟩⟩))
    go_ret
    exact ⟨by first | rfl | (simp; done) | (simp [*]; done), by repeat (first | exact Drawn0.refl _ | apply Drawn0.step)⟩

/-! ### spec_UnitAt: function 45 -/
def spec_UnitAt.f (a0 : ByteArray) (a1 : Int) : Option (Int) := if 0 ≤ (wrap64 (2 * a1)) then (if (wrap64 (2 * a1)) < (a0.size : Int) then (if 0 ≤ (wrap64 ((wrap64 (2 * a1)) + 1)) then (if (wrap64 ((wrap64 (2 * a1)) + 1)) < (a0.size : Int) then (some (Go.bits .or .i64 (wrap64 ((wrap64 (bt a0 (wrap64 (2 * a1)))) * 256)) (wrap64 (bt a0 (wrap64 ((wrap64 (2 * a1)) + 1)))))) else (none)) else (none)) else (none)) else (none)
set_option maxHeartbeats 8000000 in
set_option maxRecDepth 100000 in
theorem spec_UnitAt.calls (a0 : ByteArray) (a1 : Int) (r : Int) (w : World) (h : spec_UnitAt.f a0 a1 = some r) :
    Calls Tryd.prog 45 #[.string a0, .int .i64 a1] w fun e w' => e = .returned (.int .i64 r) ∧ Drawn0 w w' := by
  have H : (if 0 ≤ (wrap64 (2 * a1)) then (if (wrap64 (2 * a1)) < (a0.size : Int) then (if 0 ≤ (wrap64 ((wrap64 (2 * a1)) + 1)) then (if (wrap64 ((wrap64 (2 * a1)) + 1)) < (a0.size : Int) then (some (Go.bits .or .i64 (wrap64 ((wrap64 (bt a0 (wrap64 (2 * a1)))) * 256)) (wrap64 (bt a0 (wrap64 ((wrap64 (2 * a1)) + 1)))))) else (none)) else (none)) else (none)) else (none)) = some r := h
  clear h
  obtain ⟨ji3, hji3⟩ : ∃ j_ : Int, (wrap64 (2 * a1)) = j_ := ⟨_, rfl⟩
  replace H : (if 0 ≤ (ji3) then (if (ji3) < (a0.size : Int) then (if 0 ≤ (wrap64 ((ji3) + 1)) then (if (wrap64 ((ji3) + 1)) < (a0.size : Int) then (some (Go.bits .or .i64 (wrap64 ((wrap64 (bt a0 (ji3))) * 256)) (wrap64 (bt a0 (wrap64 ((ji3) + 1)))))) else (none)) else (none)) else (none)) else (none)) = some r := by first | (rw [hji3] at H; exact H) | (simp only [hji3] at H ⊢; exact H)
  have hji3w : (IntKind.i64.wrap (2 * a1)) = ji3 := (i64_w _).trans hji3
  by_cases c4 : 0 ≤ (ji3)
  · rw [if_pos c4] at H
    have c4b0 : decide (0 ≤ (ji3)) = true := decide_eq_true c4
    clear c4
    by_cases c5 : (ji3) < (a0.size : Int)
    · rw [if_pos c5] at H
      have c5b0 : decide ((ji3) < (a0.size : Int)) = true := decide_eq_true c5
      clear c5
      obtain ⟨ji7, hji7⟩ : ∃ j_ : Int, (wrap64 ((ji3) + 1)) = j_ := ⟨_, rfl⟩
      replace H : (if 0 ≤ (ji7) then (if (ji7) < (a0.size : Int) then (some (Go.bits .or .i64 (wrap64 ((wrap64 (bt a0 (ji3))) * 256)) (wrap64 (bt a0 (ji7))))) else (none)) else (none)) = some r := by first | (rw [hji7] at H; exact H) | (simp only [hji7] at H ⊢; exact H)
      have hji7w : (IntKind.i64.wrap ((ji3) + 1)) = ji7 := (i64_w _).trans hji7
      by_cases c8 : 0 ≤ (ji7)
      · rw [if_pos c8] at H
        have c8b0 : decide (0 ≤ (ji7)) = true := decide_eq_true c8
        clear c8
        by_cases c9 : (ji7) < (a0.size : Int)
        · rw [if_pos c9] at H
          have c9b0 : decide ((ji7) < (a0.size : Int)) = true := decide_eq_true c9
          clear c9
          obtain rfl := Option.some.inj H
          have p6 : 0 ≤ ((ji3) : Int) := of_decide_eq_true (by first | (with_reducible assumption) | assumption)
          have q6 : (ji3) < (a0.size : Int) := of_decide_eq_true (by first | (with_reducible assumption) | assumption)
          have hx6 := bt_at a0 (ji3)
          replace p6 := eq_true p6
          replace q6 := eq_true q6
          have p10 : 0 ≤ ((ji7) : Int) := of_decide_eq_true (by first | (with_reducible assumption) | assumption)
          have q10 : (ji7) < (a0.size : Int) := of_decide_eq_true (by first | (with_reducible assumption) | assumption)
          have hx10 := bt_at a0 (ji7)
          replace p10 := eq_true p10
          replace q10 := eq_true q10
          go_enter Tryd.func45, Tryd.ntmps45
          go_wp2
          repeat (go_quiet (fail); try go_wp2)
          go_ret
          exact ⟨by first | rfl | (simp; done) | (simp only [← hji3, ← hji7] <;> (first | rfl | simp)) | (simp [*]; done), by repeat (first | exact Drawn0.refl _ | apply Drawn0.step)⟩
        · rw [if_neg c9] at H
          exact absurd H (by simp)
      · rw [if_neg c8] at H
        exact absurd H (by simp)
    · rw [if_neg c5] at H
      exact absurd H (by simp)
  · rw [if_neg c4] at H
    exact absurd H (by simp)

/-! ### spec_bytesOf: function 46 -/
def spec_bytesOf.l0 : Nat → List Int → List Int → Int → Option (ByteArray)
  | 0, _, _, _ => none
  | k + 1, x0, x3, x4 => if x4 < (x0.length : Int) then (if 0 ≤ x4 then (if x4 < (x3.length : Int) then (spec_bytesOf.l0 k x0 (x3.set (x4 : Int).toNat ((rd x0 x4) % 256)) (wrap64 (x4 + 1))) else (none)) else (none)) else (some (strOfNums x3))
def spec_bytesOf.f (k : Nat) (l0 : List Int) : Option (ByteArray) := if 0 ≤ (l0.length : Int) then (if ((l0.length : Int) : Int).toNat ≤ 281474976710656 then (spec_bytesOf.l0 k l0 (List.replicate ((l0.length : Int) : Int).toNat 0) 0) else (none)) else (none)
theorem spec_bytesOf.mono_l : ∀ k, (∀ y0 y1 y2, LeO (spec_bytesOf.l0 k y0 y1 y2) (spec_bytesOf.l0 (k + 1) y0 y1 y2))
  | 0 => fun _ _ _ r h => by simp [spec_bytesOf.l0] at h
  | k + 1 => by
    have ih0 := spec_bytesOf.mono_l k
    · intro y0 y1 y2
      unfold spec_bytesOf.l0
      repeat' first
      | (with_reducible exact ih0 _ _ _)
      | (with_reducible exact LeO.refl _)
      | (with_reducible exact LeO.none _)
      | (with_reducible refine LeO.ite ?_ ?_)
      | (with_reducible refine LeO.bind ?_ (fun _ => ?_))
      | exact ih0 _ _ _
      | exact LeO.none _
      | refine LeO.ite ?_ ?_
      | refine LeO.bind ?_ (fun _ => ?_)
theorem spec_bytesOf.mono : ∀ a0 k, LeO (spec_bytesOf.f k a0) (spec_bytesOf.f (k + 1) a0) := by
  intro a0 k
  have ih0 := spec_bytesOf.mono_l k
  unfold spec_bytesOf.f
  repeat' first
      | (with_reducible exact ih0 _ _ _)
      | (with_reducible exact LeO.refl _)
      | (with_reducible exact LeO.none _)
      | (with_reducible refine LeO.ite ?_ ?_)
      | (with_reducible refine LeO.bind ?_ (fun _ => ?_))
      | exact ih0 _ _ _
      | exact LeO.none _
      | refine LeO.ite ?_ ?_
      | refine LeO.bind ?_ (fun _ => ?_)
set_option maxHeartbeats 8000000 in
set_option maxRecDepth 100000 in
theorem spec_bytesOf.calls (k : Nat) (A0 : Option Addr) (c0 : Nat) (l0 : List Int) (r : ByteArray) (w : World) (hr0 : Kd.C (Kd.int .i64) w A0 l0.length l0) (hc0 : l0.length ≤ c0) (h : spec_bytesOf.f k l0 = some r) :
    Calls Tryd.prog 46 #[.slice A0 l0.length c0] w fun e w' => e = .returned (.string r) ∧ Below w.heap.size w w' := by
  have HR0 := Aside0.mk hr0
  have HC0 := Aside0.mk hc0
  clear hr0 hc0
  have HB := Aside0.mk (Below.refl w.heap.size w)
  have H : (if 0 ≤ (l0.length : Int) then (if ((l0.length : Int) : Int).toNat ≤ 281474976710656 then (spec_bytesOf.l0 k l0 (List.replicate ((l0.length : Int) : Int).toNat 0) 0) else (none)) else (none)) = some r := h
  clear h
  by_cases c2 : 0 ≤ (l0.length : Int)
  · rw [if_pos c2] at H
    have c2b0 := eq_true c2
    have c2b1 : decide (0 ≤ (l0.length : Int)) = true := decide_eq_true c2
    clear c2
    by_cases c3 : ((l0.length : Int) : Int).toNat ≤ 281474976710656
    · rw [if_pos c3] at H
      have c3b0 := eq_true c3
      have c3b1 : decide (((l0.length : Int) : Int).toNat ≤ 281474976710656) = true := decide_eq_true c3
      clear c3
      obtain ⟨y121, hy121⟩ : ∃ y_ : List Int, y_ = (List.replicate ((l0.length : Int) : Int).toNat 0) := ⟨_, rfl⟩
      replace H : (spec_bytesOf.l0 k l0 y121 0) = some r := by first | (rw [hy121]; with_reducible exact H) | (have H2_ := (Option.bind_some _ _).symm.trans H; rw [hy121]; with_reducible exact H2_) | (have H2_ := (Option.bind_some _ _).symm.trans H; with_reducible exact H2_) | with_reducible exact H | (rw [hy121]; exact H) | exact H
      have Ny121 := Aside0.mk hy121
      clear hy121
      have H' := Aside0.mk H
      clear H
      go_enter Tryd.func46, Tryd.ntmps46
      go_wp2_with (first | ((with_reducible refine gate_dst (N := 7) rfl ?_); refine Kd.R_make (Kd.int .u8) _ 5 rfl (N := 7) rfl 80 _ _ rfl (l0.length : Int) rfl rfl Tryd.underlying80 (.int .u8 0) 1 info5 rfl (by decide) (by omega) 0 (ok := fun _ => True) (okp := fun _ => True) rfl (fun _ hk => hk) trivial (of_decide_eq_true (by first | (with_reducible assumption) | assumption)) (Nat.le_trans (Nat.mul_le_mul_right _ (of_decide_eq_true (by first | (with_reducible assumption) | assumption) : (l0.length : Int).toNat ≤ 281474976710656)) (by omega)) (Below.refl _ _) (Nat.le_refl _) ?_; intro v122 w4 ho5 hb hg_ hnew_; clear hg_ hnew_; (first | rw [← Ny121.out] at ho5 | (simp only [Int.reduceToNat] at ho5; rw [← Ny121.out] at ho5)); have n0_ := Aside0.mk (Kd.R_lower ho5 (below_size (by repeat (first | (with_reducible first | exact HB.out | apply below_alloc | apply pw_below_drewN | apply below_drew1) | exact HB.out)))); have n1_ := Aside0.mk (below_step (by repeat (first | (with_reducible first | exact HB.out | apply below_alloc | apply pw_below_drewN | apply below_drew1) | exact HB.out)) hb); clear HB; have HO123 := n0_; have HB := n1_; clear n0_ n1_; clear hb ho5))
      go_loopg [4] k (fun kq v4 w' => ∃ (x3_1 : List Int) (x4_1 : Int), v4 = .int .i64 x4_1 ∧ Aside0 (spec_bytesOf.l0 kq l0 x3_1 x4_1 = some r) ∧ Aside0 (kq ≤ k) ∧ Aside0 (Kd.R (Kd.int .u8) 5 w' w.heap.size (fun _ => True) v122 x3_1) ∧ Aside0 (Below w.heap.size w w'))
      case atStart => exact ⟨(y121), (0), (by first | rfl | (simp; done) | (simp [*]; done)), H', ⟨Nat.le_refl _⟩, ⟨by (with_reducible repeat (first | apply Kd.R_alloc | apply Kd.R_drewN | apply Kd.R_drew)); exact HO123.out⟩, ⟨by repeat (first | (with_reducible first | exact HB.out | apply below_alloc | apply pw_below_drewN | apply below_drew1) | exact HB.out)⟩⟩
      case round =>
        clear H'
        try clear c2
        try clear c2b0
        try clear c2b1
        try clear p2
        try clear c3
        try clear c3b0
        try clear c3b1
        try clear c4
        obtain ⟨x3_1, x4_1, rfl, HA, HK1, HO_3, HB⟩ := hrel
        cases gk with
        | zero => exact absurd HA.out (by simp [spec_bytesOf.l0])
        | succ k1 =>
          have H := HA.out
          clear HA
          simp only [spec_bytesOf.l0] at H
          by_cases c6 : x4_1 < (l0.length : Int)
          · rw [if_pos c6] at H
            have c6b0 : decide (x4_1 < (l0.length : Int)) = true := decide_eq_true c6
            clear c6
            by_cases c7 : 0 ≤ x4_1
            · rw [if_pos c7] at H
              have c7b0 : decide (0 ≤ x4_1) = true := decide_eq_true c7
              clear c7
              by_cases c8 : x4_1 < (x3_1.length : Int)
              · rw [if_pos c8] at H
                have c8b0 : decide (x4_1 < (x3_1.length : Int)) = true := decide_eq_true c8
                clear c8
                obtain ⟨y125, hy125⟩ : ∃ y_ : List Int, y_ = (x3_1.set (x4_1 : Int).toNat ((rd l0 x4_1) % 256)) := ⟨_, rfl⟩
                replace H : (spec_bytesOf.l0 k1 l0 y125 (wrap64 (x4_1 + 1))) = some r := by first | (rw [hy125]; with_reducible exact H) | (have H2_ := (Option.bind_some _ _).symm.trans H; rw [hy125]; with_reducible exact H2_) | (have H2_ := (Option.bind_some _ _).symm.trans H; with_reducible exact H2_) | with_reducible exact H | (rw [hy125]; exact H) | exact H
                have Ny125 := Aside0.mk hy125
                clear hy125
                have H' := Aside0.mk H
                clear H
                have p124 : 0 ≤ (x4_1 : Int) := of_decide_eq_true (by first | (with_reducible assumption) | assumption)
                have q124 : x4_1 < (l0.length : Int) := of_decide_eq_true (by first | (with_reducible assumption) | assumption)
                obtain ⟨ad124, e124, hx124_0⟩ := Kd.at_int HR0.out x4_1 p124 q124
                cases e124
                replace hx124_0 := (HB.out.cell (World.block_lt_of_cell? w _ hx124_0)).trans hx124_0
                replace p124 := eq_true p124
                replace q124 := eq_true q124
                have p9 : 0 ≤ (x4_1 : Int) := of_decide_eq_true (by first | (with_reducible assumption) | assumption)
                have q9 : (x4_1 : Int) < ((x3_1.length : Int) : Int) := of_decide_eq_true (by first | (with_reducible assumption) | assumption)
                obtain ⟨go9, co9, eo9, gb9, gl9, cl9, HG9⟩ := Kd.R_form HO_3.out (by omega)
                (first | cases eo9 | (injection eo9 with ea_ en_ ec_; (first | subst ea_ | (injection ea_ with ea_; subst ea_)); subst ec_; clear en_))
                have GB9 := Aside0.mk gb9
                have GG9 := Aside0.mk HG9
                clear gb9 gl9 HG9
                obtain ⟨hx9_0, hf9_0⟩ := Kd.R_celln 0 HO_3.out (x4_1 : Int) p9 q9
                replace p9 := eq_true p9
                replace q9 := eq_true q9
                have HP10 := Kd.R_putg HO_3.out (x4_1 : Int) ((rd l0 x4_1) % 256)
                go_wp2_with (first | ((with_reducible refine gate_store (t := 5) (p := 21) rfl ?_); refine store_event (t := 5) (p := 21) (v := ?vo_w11) (w1 := (wr.setCell ⟨go9, (x4_1 : Int).toNat, none⟩ (.int .u8 ((rd l0 x4_1) % 256)))) ?hg ?ho ?hn ?hr ?_; (case ho => rfl); (case hg => rfl); (case hn => rfl); (case hr => first | (go_simp; done) | (go_simp; rfl)); intro w11 hw; have hg : wr.grownBy w11 (some go9) := (by rw [hw]; exact HP10.2); have hp_ : Kd.R (Kd.int .u8) 5 w11 w.heap.size (fun _ => True) (.slice (some ⟨go9, 0, none⟩) x3_1.length co9) y125 := (by rw [hw, Ny125.out]; exact HP10.1); clear HP10; have n0_ := Aside0.mk (hp_); have n1_ := Aside0.mk ((by rw [hw]; exact below_set (HB.out) GB9.out : Below w.heap.size w w11)); clear HO_3; clear HB; have HO_3 := n0_; have HB := n1_; clear n0_ n1_; clear hg hw hp_))
                go_roundg k1
                case measure => have := HK1.out; omega
                case rel => exact ⟨(y125), (wrap64 (x4_1 + 1)), (by first | rfl | (simp; done) | (simp [*]; done)), H', ⟨by have := HK1.out; omega⟩, ⟨by (with_reducible repeat (first | apply Kd.R_alloc | apply Kd.R_drewN | apply Kd.R_drew)); exact HO_3.out⟩, ⟨by repeat (first | (with_reducible first | exact HB.out | apply below_alloc | apply pw_below_drewN | apply below_drew1) | exact HB.out)⟩⟩
              · rw [if_neg c8] at H
                exact absurd H (by simp)
            · rw [if_neg c7] at H
              exact absurd H (by simp)
          · rw [if_neg c6] at H
            have c6b0 : decide (x4_1 < (l0.length : Int)) = false := decide_eq_false c6
            clear c6
            obtain rfl := Option.some.inj H
            have hcv12 := own_string (P := Tryd.prog) Tryd.underlying80 Tryd.underlying5 Tryd.underlying9 (Kd.own_of_R HO_3.out)
            go_wp2
            go_ret
            exact ⟨by first | rfl | (simp [errW_none, errW_some] <;> rfl) | (simp [*, errW_none, errW_some] <;> rfl), by repeat (first | (with_reducible first | exact HB.out | apply below_alloc | apply pw_below_drewN | apply below_drew1) | exact HB.out)⟩
    · rw [if_neg c3] at H
      exact absurd H (by simp)
  · rw [if_neg c2] at H
    exact absurd H (by simp)

end Go.Proofs.YtheichpmhfledaaDoor.PFnNumberBack
