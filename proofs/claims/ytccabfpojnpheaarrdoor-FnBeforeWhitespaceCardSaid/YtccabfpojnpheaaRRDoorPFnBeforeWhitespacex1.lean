-- Written by printx.py of this session, over the kit's print, with contracts of this session for some functions
import Derived.Test.YtccabfpojnpheaaRRDoorPFnBeforeWhitespacex0
namespace Go.Proofs.YtccabfpojnpheaaRRDoor.PFnBeforeWhitespace
open Go.RowKit Go.Proofs.YtccabfpojnpheaaRRDoorW.PrintWords Go.Proofs.YtccabfpojnpheaaRRDoorW.PrintLast Go.Proofs.YtccabfpojnpheaaRRDoorW.PrintMore
attribute [local go_sem] max2_int min2_int max_two min_two max_three min_three max_four min_four   -- for this text's walks alone
set_option linter.unusedVariables false
set_option linter.unusedSimpArgs false

-- function 13 (impl_BeforeWhitespace): its contract stands in YtccabfpojnpheaaRRDoorExtBack

/-! ### laws_blankByte: function 14 -/
def laws_blankByte.f (a0 : Int) : Option (Bool) := if a0 = 32 then (some true) else (if a0 = 9 then (some true) else (if a0 = 10 then (some true) else (some (a0 == 13))))
set_option maxHeartbeats 8000000 in
set_option maxRecDepth 100000 in
theorem laws_blankByte.calls (a0 : Int) (r : Bool) (w : World) (h : laws_blankByte.f a0 = some r) :
    Calls Tryd.prog 14 #[.int .u8 a0] w fun e w' => e = .returned (.bool r) ∧ Drawn0 w w' := by
  have H : (if a0 = 32 then (some true) else (if a0 = 9 then (some true) else (if a0 = 10 then (some true) else (some (a0 == 13))))) = some r := h
  clear h
  by_cases c2 : a0 = 32
  · rw [if_pos c2] at H
    have c2b0 : (a0 == 32) = true := beq_iff_eq.mpr c2
    have c2b1 : (a0 != 32) = false := bne_eq_false_iff_eq.mpr c2
    clear c2
    obtain rfl := Option.some.inj H
    go_enter Tryd.func14, Tryd.ntmps14
    go_wp2
    go_ret
    exact ⟨by first | rfl | (simp; done) | (simp [*]; done), by repeat (first | exact Drawn0.refl _ | apply Drawn0.step)⟩
  · rw [if_neg c2] at H
    have c2b0 : (a0 == 32) = false := beq_eq_false_iff_ne.mpr c2
    have c2b1 : (a0 != 32) = true := bne_iff_ne.mpr c2
    by_cases c3 : a0 = 9
    · rw [if_pos c3] at H
      have c3b0 : (a0 == 9) = true := beq_iff_eq.mpr c3
      have c3b1 : (a0 != 9) = false := bne_eq_false_iff_eq.mpr c3
      clear c3
      obtain rfl := Option.some.inj H
      go_enter Tryd.func14, Tryd.ntmps14
      go_wp2
      go_ret
      exact ⟨by first | rfl | (simp; done) | (simp [*]; done), by repeat (first | exact Drawn0.refl _ | apply Drawn0.step)⟩
    · rw [if_neg c3] at H
      have c3b0 : (a0 == 9) = false := beq_eq_false_iff_ne.mpr c3
      have c3b1 : (a0 != 9) = true := bne_iff_ne.mpr c3
      by_cases c4 : a0 = 10
      · rw [if_pos c4] at H
        have c4b0 : (a0 == 10) = true := beq_iff_eq.mpr c4
        have c4b1 : (a0 != 10) = false := bne_eq_false_iff_eq.mpr c4
        clear c4
        obtain rfl := Option.some.inj H
        go_enter Tryd.func14, Tryd.ntmps14
        go_wp2
        go_ret
        exact ⟨by first | rfl | (simp; done) | (simp [*]; done), by repeat (first | exact Drawn0.refl _ | apply Drawn0.step)⟩
      · rw [if_neg c4] at H
        have c4b0 : (a0 == 10) = false := beq_eq_false_iff_ne.mpr c4
        have c4b1 : (a0 != 10) = true := bne_iff_ne.mpr c4
        obtain rfl := Option.some.inj H
        go_enter Tryd.func14, Tryd.ntmps14
        go_wp2
        go_ret
        exact ⟨by first | rfl | (simp; done) | (simp [*]; done), by repeat (first | exact Drawn0.refl _ | apply Drawn0.step)⟩

/-! ### laws_FnBeforeWhitespace: function 4 -/
mutual
def laws_FnBeforeWhitespace.j0 : Nat → ByteArray → Int → Bool → Bool → Option (Bool)
  | 0, _, _, _, _ => none
  | k + 1, x0, x1, x5, x25 => if x25 = true then (some x5) else ((impl_BeforeWhitespace.f x0 x1).bind fun t102 => (if t102 < 0 then (laws_FnBeforeWhitespace.j1 k x0 x1 x5 t102 true) else (if t102 > x1 then (laws_FnBeforeWhitespace.j1 k x0 x1 x5 t102 true) else (if t102 > 0 then (if 0 ≤ (wrap64 (t102 - 1)) then (if (wrap64 (t102 - 1)) < (x0.size : Int) then ((laws_blankByte.f (bt x0 (wrap64 (t102 - 1)))).bind fun t103 => (laws_FnBeforeWhitespace.j1 k x0 x1 x5 t102 t103)) else (none)) else (none)) else (laws_FnBeforeWhitespace.j1 k x0 x1 x5 t102 false)))))
def laws_FnBeforeWhitespace.j1 : Nat → ByteArray → Int → Bool → Int → Bool → Option (Bool)
  | 0, _, _, _, _, _ => none
  | k + 1, x0, x1, x5, x6, x47 => if x47 = true then (some false) else (laws_FnBeforeWhitespace.l0 k x0 x1 x5 x6)
def laws_FnBeforeWhitespace.l0 : Nat → ByteArray → Int → Bool → Int → Option (Bool)
  | 0, _, _, _, _ => none
  | k + 1, x0, x1, x5, x7 => if x7 < x1 then (if 0 ≤ x7 then (if x7 < (x0.size : Int) then ((laws_blankByte.f (bt x0 x7)).bind fun t104 => (if t104 = true then (laws_FnBeforeWhitespace.l0 k x0 x1 x5 (wrap64 (x7 + 1))) else (some false))) else (none)) else (none)) else (some x5)
end
def laws_FnBeforeWhitespace.f (k : Nat) (a0 : ByteArray) (a1 : Int) : Option (Bool) := if (a0.size : Int) > 2147483647 then (some true) else ((impl_BeforeWhitespace.f (⟨#[97, 32, 32]⟩ : ByteArray) 3).bind fun t101 => (if (a0.size : Int) > 4096 then (laws_FnBeforeWhitespace.j0 k a0 a1 (t101 == 1) true) else (if a1 < 0 then (laws_FnBeforeWhitespace.j0 k a0 a1 (t101 == 1) true) else (laws_FnBeforeWhitespace.j0 k a0 a1 (t101 == 1) (decide (a1 > (a0.size : Int)))))))
theorem laws_FnBeforeWhitespace.mono_l : ∀ k, (∀ y0 y1 y2 y3, LeO (laws_FnBeforeWhitespace.j0 k y0 y1 y2 y3) (laws_FnBeforeWhitespace.j0 (k + 1) y0 y1 y2 y3)) ∧ (∀ y0 y1 y2 y3 y4, LeO (laws_FnBeforeWhitespace.j1 k y0 y1 y2 y3 y4) (laws_FnBeforeWhitespace.j1 (k + 1) y0 y1 y2 y3 y4)) ∧ (∀ y0 y1 y2 y3, LeO (laws_FnBeforeWhitespace.l0 k y0 y1 y2 y3) (laws_FnBeforeWhitespace.l0 (k + 1) y0 y1 y2 y3))
  | 0 => ⟨fun _ _ _ _ r h => by simp [laws_FnBeforeWhitespace.j0] at h, fun _ _ _ _ _ r h => by simp [laws_FnBeforeWhitespace.j1] at h, fun _ _ _ _ r h => by simp [laws_FnBeforeWhitespace.l0] at h⟩
  | k + 1 => by
    obtain ⟨ih0, ih1, ih2⟩ := laws_FnBeforeWhitespace.mono_l k
    refine ⟨?_, ?_, ?_⟩
    · intro y0 y1 y2 y3
      unfold laws_FnBeforeWhitespace.j0
      repeat' first
      | (with_reducible exact ih0 _ _ _ _)
      | (with_reducible exact ih1 _ _ _ _ _)
      | (with_reducible exact ih2 _ _ _ _)
      | (with_reducible exact LeO.refl _)
      | (with_reducible exact LeO.none _)
      | (with_reducible refine LeO.ite ?_ ?_)
      | (with_reducible refine LeO.bind ?_ (fun _ => ?_))
      | exact ih0 _ _ _ _
      | exact ih1 _ _ _ _ _
      | exact ih2 _ _ _ _
      | exact LeO.none _
      | refine LeO.ite ?_ ?_
      | refine LeO.bind ?_ (fun _ => ?_)
    · intro y0 y1 y2 y3 y4
      unfold laws_FnBeforeWhitespace.j1
      repeat' first
      | (with_reducible exact ih0 _ _ _ _)
      | (with_reducible exact ih1 _ _ _ _ _)
      | (with_reducible exact ih2 _ _ _ _)
      | (with_reducible exact LeO.refl _)
      | (with_reducible exact LeO.none _)
      | (with_reducible refine LeO.ite ?_ ?_)
      | (with_reducible refine LeO.bind ?_ (fun _ => ?_))
      | exact ih0 _ _ _ _
      | exact ih1 _ _ _ _ _
      | exact ih2 _ _ _ _
      | exact LeO.none _
      | refine LeO.ite ?_ ?_
      | refine LeO.bind ?_ (fun _ => ?_)
    · intro y0 y1 y2 y3
      unfold laws_FnBeforeWhitespace.l0
      repeat' first
      | (with_reducible exact ih0 _ _ _ _)
      | (with_reducible exact ih1 _ _ _ _ _)
      | (with_reducible exact ih2 _ _ _ _)
      | (with_reducible exact LeO.refl _)
      | (with_reducible exact LeO.none _)
      | (with_reducible refine LeO.ite ?_ ?_)
      | (with_reducible refine LeO.bind ?_ (fun _ => ?_))
      | exact ih0 _ _ _ _
      | exact ih1 _ _ _ _ _
      | exact ih2 _ _ _ _
      | exact LeO.none _
      | refine LeO.ite ?_ ?_
      | refine LeO.bind ?_ (fun _ => ?_)
theorem laws_FnBeforeWhitespace.mono : ∀ a0 a1 k, LeO (laws_FnBeforeWhitespace.f k a0 a1) (laws_FnBeforeWhitespace.f (k + 1) a0 a1) := by
  intro a0 a1 k
  obtain ⟨ih0, ih1, ih2⟩ := laws_FnBeforeWhitespace.mono_l k
  unfold laws_FnBeforeWhitespace.f
  repeat' first
      | (with_reducible exact ih0 _ _ _ _)
      | (with_reducible exact ih1 _ _ _ _ _)
      | (with_reducible exact ih2 _ _ _ _)
      | (with_reducible exact LeO.refl _)
      | (with_reducible exact LeO.none _)
      | (with_reducible refine LeO.ite ?_ ?_)
      | (with_reducible refine LeO.bind ?_ (fun _ => ?_))
      | exact ih0 _ _ _ _
      | exact ih1 _ _ _ _ _
      | exact ih2 _ _ _ _
      | exact LeO.none _
      | refine LeO.ite ?_ ?_
      | refine LeO.bind ?_ (fun _ => ?_)
set_option maxHeartbeats 8000000 in
set_option maxRecDepth 100000 in
theorem laws_FnBeforeWhitespace.calls (k : Nat) (a0 : ByteArray) (a1 : Int) (r : Bool) (w : World) (hT : GTab w) (h : laws_FnBeforeWhitespace.f k a0 a1 = some r) :
    Calls Tryd.prog 4 #[.string a0, .int .i64 a1] w fun e w' => e = .returned (.bool r) ∧ Below w.heap.size w w' := by
  have HT := Aside0.mk hT
  clear hT
  have HB := Aside0.mk (Below.refl w.heap.size w)
  have H : (if (a0.size : Int) > 2147483647 then (some true) else ((impl_BeforeWhitespace.f (⟨#[97, 32, 32]⟩ : ByteArray) 3).bind fun t101 => (if (a0.size : Int) > 4096 then (laws_FnBeforeWhitespace.j0 k a0 a1 (t101 == 1) true) else (if a1 < 0 then (laws_FnBeforeWhitespace.j0 k a0 a1 (t101 == 1) true) else (laws_FnBeforeWhitespace.j0 k a0 a1 (t101 == 1) (decide (a1 > (a0.size : Int)))))))) = some r := h
  clear h
  by_cases c3 : (a0.size : Int) > 2147483647
  · rw [if_pos c3] at H
    have c3b0 : decide (2147483647 < (a0.size : Int)) = true := decide_eq_true c3
    have c3b1 : decide (2147483647 < a0.size) = true := decide_eq_true (by omega)
    clear c3
    obtain rfl := Option.some.inj H
    go_enter Tryd.func4, Tryd.ntmps4
    go_wp2
    go_ret
    exact ⟨by first | rfl | (simp [errW_none, errW_some] <;> rfl) | (simp [*, errW_none, errW_some] <;> rfl), by repeat (first | (with_reducible first | exact HB.out | apply below_alloc | apply pw_below_drewN | apply below_drew1) | exact HB.out)⟩
  · rw [if_neg c3] at H
    have c3b0 : decide (2147483647 < (a0.size : Int)) = false := decide_eq_false c3
    have c3b1 : decide (2147483647 < a0.size) = false := decide_eq_false (by omega)
    clear c3
    replace H := Option.bind_eq_some_iff.mp H
    obtain ⟨t101, A40, H⟩ := H
    replace H : (if (a0.size : Int) > 4096 then (laws_FnBeforeWhitespace.j0 k a0 a1 (t101 == 1) true) else (if a1 < 0 then (laws_FnBeforeWhitespace.j0 k a0 a1 (t101 == 1) true) else (laws_FnBeforeWhitespace.j0 k a0 a1 (t101 == 1) (decide (a1 > (a0.size : Int)))))) = some r := H
    have A4 := Aside0.mk A40
    clear A40
    have HC5 := Aside0.mk H
    clear H
    go_enter Tryd.func4, Tryd.ntmps4
    go_upto_region 4 with (first | ((with_reducible refine gate_callee (f := 13) rfl ?_); refine goesL_ (some 11) rfl rfl Tryd.func13 (by kernel_rfl) rfl #[.string (⟨#[97, 32, 32]⟩ : ByteArray), .int .i64 3] rfl (by (try simp only [List.map_toArray, List.map_cons, List.map_nil]); first | done | rfl | (simp only [List.length_drop, List.length_take]; rfl)) ?_; (with_reducible refine (impl_BeforeWhitespace.calls (⟨#[97, 32, 32]⟩ : ByteArray) 3 t101 _ ?side1 A4.out).mono ?_); (case side1 => first | exact HT.out | exact GTab.drewN HT.out _ | exact GTab.below HT.out (by repeat (first | (with_reducible first | exact HB.out | apply below_alloc | apply pw_below_drewN | apply below_drew1) | exact HB.out))); rintro e w6 ⟨rfl, hb⟩; refine ⟨_, rfl, ?_⟩; have n0_ := Aside0.mk (below_step (by repeat (first | (with_reducible first | exact HB.out | apply below_alloc | apply pw_below_drewN | apply below_drew1) | exact HB.out)) hb); clear HB; have HB := n0_; clear n0_; (try clear hb); (try clear hb2); (try clear hk); (try clear hi)))
    (try simp only [Act.put, List.setIfInBounds_toArray, List.set_cons_zero, List.set_cons_succ])
    go_cut [25] (fun v25 wc => ∃ (kq : Nat) (x25_4 : Bool), v25 = .bool x25_4 ∧ Aside0 (laws_FnBeforeWhitespace.j0 kq a0 a1 (t101 == 1) x25_4 = some r) ∧ Aside0 (kq ≤ k) ∧ Aside0 (Below w.heap.size w wc))
    case first =>
      have H := HC5.out
      clear HC5
      by_cases c7 : (a0.size : Int) > 4096
      · rw [if_pos c7] at H
        have c7b0 : decide (4096 < (a0.size : Int)) = true := decide_eq_true c7
        have c7b1 : decide (4096 < a0.size) = true := decide_eq_true (by omega)
        clear c7
        (first | rw [c7b0] | (simp only [i64_w, i32_w]; rw [c7b0]) | skip)
        have H' := Aside0.mk H
        clear H
        go_wp2
        go_meet
        case rel => exact ⟨_, (true), (by first | rfl | (simp; done) | (simp [*]; done)), H', ⟨by first | omega | exact Nat.le_refl _⟩, ⟨by repeat (first | (with_reducible first | exact HB.out | apply below_alloc | apply pw_below_drewN | apply below_drew1) | exact HB.out)⟩⟩
      · rw [if_neg c7] at H
        have c7b0 : decide (4096 < (a0.size : Int)) = false := decide_eq_false c7
        have c7b1 : decide (4096 < a0.size) = false := decide_eq_false (by omega)
        clear c7
        (first | rw [c7b0] | (simp only [i64_w, i32_w]; rw [c7b0]) | skip)
        by_cases c8 : a1 < 0
        · rw [if_pos c8] at H
          have c8b0 : decide (a1 < 0) = true := decide_eq_true c8
          clear c8
          have H' := Aside0.mk H
          clear H
          go_wp2
          go_meet
          case rel => exact ⟨_, (true), (by first | rfl | (simp; done) | (simp [*]; done)), H', ⟨by first | omega | exact Nat.le_refl _⟩, ⟨by repeat (first | (with_reducible first | exact HB.out | apply below_alloc | apply pw_below_drewN | apply below_drew1) | exact HB.out)⟩⟩
        · rw [if_neg c8] at H
          have c8b0 : decide (a1 < 0) = false := decide_eq_false c8
          clear c8
          have H' := Aside0.mk H
          clear H
          go_wp2
          go_meet
          case rel => exact ⟨_, (decide (a1 > (a0.size : Int))), (by first | rfl | (simp; done) | (simp [*]; done)), H', ⟨by first | omega | exact Nat.le_refl _⟩, ⟨by repeat (first | (with_reducible first | exact HB.out | apply below_alloc | apply pw_below_drewN | apply below_drew1) | exact HB.out)⟩⟩
    case rest =>
      clear HC5
      try clear c1
      try clear p2
      try clear c3
      try clear c3b0
      try clear c3b1
      try clear c4
      try clear c7
      try clear c7b0
      try clear c7b1
      try clear c8
      try clear c8b0
      obtain ⟨kq, x25_4, rfl, HA, HJ4, HB⟩ := hcut
      cases kq with
      | zero => exact absurd HA.out (by simp [laws_FnBeforeWhitespace.j0])
      | succ kj4 =>
        have H := HA.out
        clear HA
        simp only [laws_FnBeforeWhitespace.j0] at H
        by_cases c9 : x25_4 = true
        · subst c9
          have H1 : (some (t101 == 1)) = some r := by rw [if_pos rfl] at H; exact H
          clear H
          have H := H1
          clear H1
          obtain rfl := Option.some.inj H
          go_wp2
          go_ret
          exact ⟨by first | rfl | (simp [errW_none, errW_some] <;> rfl) | (simp [*, errW_none, errW_some] <;> rfl), by repeat (first | (with_reducible first | exact HB.out | apply below_alloc | apply pw_below_drewN | apply below_drew1) | exact HB.out)⟩
        · replace c9 := Bool.eq_false_iff.mpr c9
          subst c9
          have H1 : ((impl_BeforeWhitespace.f a0 a1).bind fun t102 => (if t102 < 0 then (laws_FnBeforeWhitespace.j1 kj4 a0 a1 (t101 == 1) t102 true) else (if t102 > a1 then (laws_FnBeforeWhitespace.j1 kj4 a0 a1 (t101 == 1) t102 true) else (if t102 > 0 then (if 0 ≤ (wrap64 (t102 - 1)) then (if (wrap64 (t102 - 1)) < (a0.size : Int) then ((laws_blankByte.f (bt a0 (wrap64 (t102 - 1)))).bind fun t103 => (laws_FnBeforeWhitespace.j1 kj4 a0 a1 (t101 == 1) t102 t103)) else (none)) else (none)) else (laws_FnBeforeWhitespace.j1 kj4 a0 a1 (t101 == 1) t102 false))))) = some r := by rw [if_neg (show ¬ (false = true) by decide)] at H; exact H
          clear H
          have H := H1
          clear H1
          replace H := Option.bind_eq_some_iff.mp H
          obtain ⟨t102, A100, H⟩ := H
          replace H : (if t102 < 0 then (laws_FnBeforeWhitespace.j1 kj4 a0 a1 (t101 == 1) t102 true) else (if t102 > a1 then (laws_FnBeforeWhitespace.j1 kj4 a0 a1 (t101 == 1) t102 true) else (if t102 > 0 then (if 0 ≤ (wrap64 (t102 - 1)) then (if (wrap64 (t102 - 1)) < (a0.size : Int) then ((laws_blankByte.f (bt a0 (wrap64 (t102 - 1)))).bind fun t103 => (laws_FnBeforeWhitespace.j1 kj4 a0 a1 (t101 == 1) t102 t103)) else (none)) else (none)) else (laws_FnBeforeWhitespace.j1 kj4 a0 a1 (t101 == 1) t102 false)))) = some r := H
          have A10 := Aside0.mk A100
          clear A100
          have HC11 := Aside0.mk H
          clear H
          go_upto_region 7 with (first | ((with_reducible refine gate_callee (f := 13) rfl ?_); refine goesL_ (some 29) rfl rfl Tryd.func13 (by kernel_rfl) rfl #[.string a0, .int .i64 a1] rfl (by (try simp only [List.map_toArray, List.map_cons, List.map_nil]); first | done | rfl | (simp only [List.length_drop, List.length_take]; rfl)) ?_; (with_reducible refine (impl_BeforeWhitespace.calls a0 a1 t102 _ ?side1 A10.out).mono ?_); (case side1 => first | exact HT.out | exact GTab.drewN HT.out _ | exact GTab.below HT.out (by repeat (first | (with_reducible first | exact HB.out | apply below_alloc | apply pw_below_drewN | apply below_drew1) | exact HB.out))); rintro e w12 ⟨rfl, hb⟩; refine ⟨_, rfl, ?_⟩; have n0_ := Aside0.mk (below_step (by repeat (first | (with_reducible first | exact HB.out | apply below_alloc | apply pw_below_drewN | apply below_drew1) | exact HB.out)) hb); clear HB; have HB := n0_; clear n0_; (try clear hb); (try clear hb2); (try clear hk); (try clear hi)))
          (try simp only [Act.put, List.setIfInBounds_toArray, List.set_cons_zero, List.set_cons_succ])
          go_cut [47] (fun v47 wc => ∃ (kq : Nat) (x47_10 : Bool), v47 = .bool x47_10 ∧ Aside0 (laws_FnBeforeWhitespace.j1 kq a0 a1 (t101 == 1) t102 x47_10 = some r) ∧ Aside0 (kq ≤ kj4) ∧ Aside0 (Below w.heap.size w wc))
          case first =>
            have H := HC11.out
            clear HC11
            by_cases c13 : t102 < 0
            · rw [if_pos c13] at H
              have c13b0 : decide (t102 < 0) = true := decide_eq_true c13
              clear c13
              (first | rw [c13b0] | (simp only [i64_w, i32_w]; rw [c13b0]) | skip)
              have H' := Aside0.mk H
              clear H
              go_wp2
              go_meet
              case rel => exact ⟨_, (true), (by first | rfl | (simp; done) | (simp [*]; done)), H', ⟨by have := HJ4.out; first | omega | exact Nat.le_refl _⟩, ⟨by repeat (first | (with_reducible first | exact HB.out | apply below_alloc | apply pw_below_drewN | apply below_drew1) | exact HB.out)⟩⟩
            · rw [if_neg c13] at H
              have c13b0 : decide (t102 < 0) = false := decide_eq_false c13
              clear c13
              (first | rw [c13b0] | (simp only [i64_w, i32_w]; rw [c13b0]) | skip)
              by_cases c14 : t102 > a1
              · rw [if_pos c14] at H
                have c14b0 : decide (a1 < t102) = true := decide_eq_true c14
                clear c14
                have H' := Aside0.mk H
                clear H
                go_wp2
                go_meet
                case rel => exact ⟨_, (true), (by first | rfl | (simp; done) | (simp [*]; done)), H', ⟨by have := HJ4.out; first | omega | exact Nat.le_refl _⟩, ⟨by repeat (first | (with_reducible first | exact HB.out | apply below_alloc | apply pw_below_drewN | apply below_drew1) | exact HB.out)⟩⟩
              · rw [if_neg c14] at H
                have c14b0 : decide (a1 < t102) = false := decide_eq_false c14
                clear c14
                by_cases c15 : t102 > 0
                · rw [if_pos c15] at H
                  have c15b0 : decide (0 < t102) = true := decide_eq_true c15
                  clear c15
                  obtain ⟨ji16, hji16⟩ : ∃ j_ : Int, (wrap64 (t102 - 1)) = j_ := ⟨_, rfl⟩
                  replace H : (if 0 ≤ (ji16) then (if (ji16) < (a0.size : Int) then ((laws_blankByte.f (bt a0 (ji16))).bind fun t103 => (laws_FnBeforeWhitespace.j1 kj4 a0 a1 (t101 == 1) t102 t103)) else (none)) else (none)) = some r := by first | (rw [hji16] at H; exact H) | (simp only [hji16] at H ⊢; exact H)
                  have hji16w : (IntKind.i64.wrap (t102 - 1)) = ji16 := (i64_w _).trans hji16
                  by_cases c17 : 0 ≤ (ji16)
                  · rw [if_pos c17] at H
                    have c17b0 : decide (0 ≤ (ji16)) = true := decide_eq_true c17
                    clear c17
                    by_cases c18 : (ji16) < (a0.size : Int)
                    · rw [if_pos c18] at H
                      have c18b0 : decide ((ji16) < (a0.size : Int)) = true := decide_eq_true c18
                      clear c18
                      replace H := Option.bind_eq_some_iff.mp H
                      obtain ⟨t103, A200, H⟩ := H
                      replace H : (laws_FnBeforeWhitespace.j1 kj4 a0 a1 (t101 == 1) t102 t103) = some r := H
                      have A20 := Aside0.mk A200
                      clear A200
                      have H' := Aside0.mk H
                      clear H
                      have p19 : 0 ≤ ((ji16) : Int) := of_decide_eq_true (by first | (with_reducible assumption) | assumption)
                      have q19 : (ji16) < (a0.size : Int) := of_decide_eq_true (by first | (with_reducible assumption) | assumption)
                      have hx19 := bt_at a0 (ji16)
                      replace p19 := eq_true p19
                      replace q19 := eq_true q19
                      go_wp2_with (first | (go_at_call 14; (with_reducible refine (laws_blankByte.calls (bt a0 (ji16)) t103 _ A20.out).mono ?_); rintro e w' ⟨rfl, ⟨nd, rfl⟩⟩))
                      go_meet
                      case rel => exact ⟨_, (t103), (by first | rfl | (simp; done) | (simp [*]; done)), H', ⟨by have := HJ4.out; first | omega | exact Nat.le_refl _⟩, ⟨by repeat (first | (with_reducible first | exact HB.out | apply below_alloc | apply pw_below_drewN | apply below_drew1) | exact HB.out)⟩⟩
                    · rw [if_neg c18] at H
                      exact absurd H (by simp)
                  · rw [if_neg c17] at H
                    exact absurd H (by simp)
                · rw [if_neg c15] at H
                  have c15b0 : decide (0 < t102) = false := decide_eq_false c15
                  clear c15
                  have H' := Aside0.mk H
                  clear H
                  go_wp2
                  go_meet
                  case rel => exact ⟨_, (false), (by first | rfl | (simp; done) | (simp [*]; done)), H', ⟨by have := HJ4.out; first | omega | exact Nat.le_refl _⟩, ⟨by repeat (first | (with_reducible first | exact HB.out | apply below_alloc | apply pw_below_drewN | apply below_drew1) | exact HB.out)⟩⟩
          case rest =>
            clear HC11
            try clear c1
            try clear p1
            try clear q1
            try clear hx1
            try clear p2
            try clear c3
            try clear c3b0
            try clear c3b1
            try clear c4
            try clear p6
            try clear c7
            try clear c7b0
            try clear c7b1
            try clear c8
            try clear c8b0
            try clear c9
            try clear c13
            try clear c13b0
            try clear c14
            try clear c14b0
            try clear c15
            try clear c15b0
            try clear c17
            try clear c17b0
            try clear c18
            try clear c18b0
            try clear p19
            try clear q19
            try clear hx19
            try clear p19
            try clear p2
            try clear q19
            obtain ⟨kq, x47_10, rfl, HA, HJ10, HB⟩ := hcut
            cases kq with
            | zero => exact absurd HA.out (by simp [laws_FnBeforeWhitespace.j1])
            | succ kj10 =>
              have H := HA.out
              clear HA
              simp only [laws_FnBeforeWhitespace.j1] at H
              by_cases c21 : x47_10 = true
              · subst c21
                have H1 : (some false) = some r := by rw [if_pos rfl] at H; exact H
                clear H
                have H := H1
                clear H1
                obtain rfl := Option.some.inj H
                go_wp2
                go_ret
                exact ⟨by first | rfl | (simp [errW_none, errW_some] <;> rfl) | (simp [*, errW_none, errW_some] <;> rfl), by repeat (first | (with_reducible first | exact HB.out | apply below_alloc | apply pw_below_drewN | apply below_drew1) | exact HB.out)⟩
              · replace c21 := Bool.eq_false_iff.mpr c21
                subst c21
                have H1 : (laws_FnBeforeWhitespace.l0 kj10 a0 a1 (t101 == 1) t102) = some r := by rw [if_neg (show ¬ (false = true) by decide)] at H; exact H
                clear H
                have H := H1
                clear H1
                have H' := Aside0.mk H
                clear H
                go_wp2
                go_loopg [7] kj10 (fun kq v7 w' => ∃ (x7_3 : Int), v7 = .int .i64 x7_3 ∧ Aside0 (laws_FnBeforeWhitespace.l0 kq a0 a1 (t101 == 1) x7_3 = some r) ∧ Aside0 (kq ≤ kj10) ∧ Aside0 (Below w.heap.size w w'))
                case atStart => exact ⟨(t102), (by first | rfl | (simp; done) | (simp [*]; done)), H', ⟨Nat.le_refl _⟩, ⟨by repeat (first | (with_reducible first | exact HB.out | apply below_alloc | apply pw_below_drewN | apply below_drew1) | exact HB.out)⟩⟩
                case round =>
                  clear H'
                  try clear c1
                  try clear p1
                  try clear q1
                  try clear hx1
                  try clear c2
                  try clear p2
                  try clear c3
                  try clear c3b0
                  try clear c3b1
                  try clear c4
                  try clear p6
                  try clear c7
                  try clear c7b0
                  try clear c7b1
                  try clear c8
                  try clear c8b0
                  try clear c9
                  try clear c13
                  try clear c13b0
                  try clear c14
                  try clear c14b0
                  try clear c15
                  try clear c15b0
                  try clear c17
                  try clear c17b0
                  try clear c18
                  try clear c18b0
                  try clear p19
                  try clear q19
                  try clear hx19
                  try clear c21
                  try clear p1
                  try clear p19
                  try clear p2
                  try clear p6
                  try clear q1
                  try clear q19
                  obtain ⟨x7_3, rfl, HA, HK3, HB⟩ := hrel
                  cases gk with
                  | zero => exact absurd HA.out (by simp [laws_FnBeforeWhitespace.l0])
                  | succ k3 =>
                    have H := HA.out
                    clear HA
                    simp only [laws_FnBeforeWhitespace.l0] at H
                    by_cases c22 : x7_3 < a1
                    · rw [if_pos c22] at H
                      have c22b0 : decide (x7_3 < a1) = true := decide_eq_true c22
                      clear c22
                      by_cases c23 : 0 ≤ x7_3
                      · rw [if_pos c23] at H
                        have c23b0 : decide (0 ≤ x7_3) = true := decide_eq_true c23
                        clear c23
                        by_cases c24 : x7_3 < (a0.size : Int)
                        · rw [if_pos c24] at H
                          have c24b0 : decide (x7_3 < (a0.size : Int)) = true := decide_eq_true c24
                          clear c24
                          replace H := Option.bind_eq_some_iff.mp H
                          obtain ⟨t104, A260, H⟩ := H
                          replace H : (if t104 = true then (laws_FnBeforeWhitespace.l0 k3 a0 a1 (t101 == 1) (wrap64 (x7_3 + 1))) else (some false)) = some r := H
                          have A26 := Aside0.mk A260
                          clear A260
                          by_cases c27 : t104 = true
                          · subst c27
                            have H1 : (laws_FnBeforeWhitespace.l0 k3 a0 a1 (t101 == 1) (wrap64 (x7_3 + 1))) = some r := by rw [if_pos rfl] at H; exact H
                            clear H
                            have H := H1
                            clear H1
                            have H' := Aside0.mk H
                            clear H
                            have p25 : 0 ≤ (x7_3 : Int) := of_decide_eq_true (by first | (with_reducible assumption) | assumption)
                            have q25 : x7_3 < (a0.size : Int) := of_decide_eq_true (by first | (with_reducible assumption) | assumption)
                            have hx25 := bt_at a0 x7_3
                            replace p25 := eq_true p25
                            replace q25 := eq_true q25
                            go_wp2_with (first | ((with_reducible refine gate_callee (f := 14) rfl ?_); refine goesL_ (some 57) rfl rfl Tryd.func14 (by kernel_rfl) rfl #[.int .u8 (bt a0 x7_3)] rfl (by (try simp only [List.map_toArray, List.map_cons, List.map_nil]); first | done | rfl | (simp only [List.length_drop, List.length_take]; rfl)) ?_; (with_reducible refine (laws_blankByte.calls (bt a0 x7_3) true _ A26.out).mono ?_); rintro e w' ⟨rfl, ⟨nd, rfl⟩⟩; refine ⟨_, rfl, ?_⟩))
                            go_roundg k3
                            case measure => have := HJ4.out; have := HJ10.out; have := HK3.out; omega
                            case rel => exact ⟨(wrap64 (x7_3 + 1)), (by first | rfl | (simp; done) | (simp [*]; done)), H', ⟨by have := HJ4.out; have := HJ10.out; have := HK3.out; omega⟩, ⟨by repeat (first | (with_reducible first | exact HB.out | apply below_alloc | apply pw_below_drewN | apply below_drew1) | exact HB.out)⟩⟩
                          · replace c27 := Bool.eq_false_iff.mpr c27
                            subst c27
                            have H1 : (some false) = some r := by rw [if_neg (show ¬ (false = true) by decide)] at H; exact H
                            clear H
                            have H := H1
                            clear H1
                            obtain rfl := Option.some.inj H
                            have p25 : 0 ≤ (x7_3 : Int) := of_decide_eq_true (by first | (with_reducible assumption) | assumption)
                            have q25 : x7_3 < (a0.size : Int) := of_decide_eq_true (by first | (with_reducible assumption) | assumption)
                            have hx25 := bt_at a0 x7_3
                            replace p25 := eq_true p25
                            replace q25 := eq_true q25
                            go_wp2_with (first | ((with_reducible refine gate_callee (f := 14) rfl ?_); refine goesL_ (some 57) rfl rfl Tryd.func14 (by kernel_rfl) rfl #[.int .u8 (bt a0 x7_3)] rfl (by (try simp only [List.map_toArray, List.map_cons, List.map_nil]); first | done | rfl | (simp only [List.length_drop, List.length_take]; rfl)) ?_; (with_reducible refine (laws_blankByte.calls (bt a0 x7_3) false _ A26.out).mono ?_); rintro e w' ⟨rfl, ⟨nd, rfl⟩⟩; refine ⟨_, rfl, ?_⟩))
                            go_ret
                            exact ⟨by first | rfl | (simp [errW_none, errW_some] <;> rfl) | (simp [*, errW_none, errW_some] <;> rfl), by repeat (first | (with_reducible first | exact HB.out | apply below_alloc | apply pw_below_drewN | apply below_drew1) | exact HB.out)⟩
                        · rw [if_neg c24] at H
                          exact absurd H (by simp)
                      · rw [if_neg c23] at H
                        exact absurd H (by simp)
                    · rw [if_neg c22] at H
                      have c22b0 : decide (x7_3 < a1) = false := decide_eq_false c22
                      clear c22
                      obtain rfl := Option.some.inj H
                      go_wp2
                      go_ret
                      exact ⟨by first | rfl | (simp [errW_none, errW_some] <;> rfl) | (simp [*, errW_none, errW_some] <;> rfl), by repeat (first | (with_reducible first | exact HB.out | apply below_alloc | apply pw_below_drewN | apply below_drew1) | exact HB.out)⟩

/-- THE ONE PURE STATEMENT of laws_FnBeforeWhitespace: yours. -/
def laws_FnBeforeWhitespace.Pure : Prop := ∀ (a0 : ByteArray) (a1 : Int), a0.size ≤ 140737488351232 → (Lit.int .i64 a1).wf = true → ∃ k, laws_FnBeforeWhitespace.f k a0 a1 = some true
theorem laws_FnBeforeWhitespace.walk (P : laws_FnBeforeWhitespace.Pure) (a0 : ByteArray) (a1 : Int) (w : World) (w0 : a0.size ≤ 140737488351232) (w1 : (Lit.int .i64 a1).wf = true) (hT : GTab w) :
    Calls Tryd.prog 4 #[.string a0, .int .i64 a1] w fun e w' => e = .returned (.bool true) ∧ Below w.heap.size w w' := by
  obtain ⟨k, h⟩ := P a0 a1 w0 w1
  refine (laws_FnBeforeWhitespace.calls k a0 a1 true w hT h).mono ?_
  rintro e w' ⟨rfl, hd⟩
  exact ⟨rfl, hd⟩

end Go.Proofs.YtccabfpojnpheaaRRDoor.PFnBeforeWhitespace
