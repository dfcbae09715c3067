-- Written by printx.py of this session, over the kit's print, with contracts of this session for some functions
import Derived.Test.YtheichpmhfledaaDoorPNumberTextx0
namespace Go.Proofs.YtheichpmhfledaaDoor.PNumberText
open Go.RowKit Go.Proofs.YtheichpmhfledaaDoorW.PrintWords Go.Proofs.YtheichpmhfledaaDoorW.PrintLast Go.Proofs.YtheichpmhfledaaDoorW.PrintMore
attribute [local go_sem] max2_int min2_int max_two min_two max_three min_three max_four min_four   -- for this text's walks alone
set_option linter.unusedVariables false
set_option linter.unusedSimpArgs false

-- NOT PRINTED: function 17 (math_IsNaN)

-- NOT PRINTED: function 33 (math_Float64frombits)

/-! ### spec_natTrim: function 68 -/
def spec_natTrim.l0 : Nat → List Int → Int → Option (List Int)
  | 0, _, _ => none
  | k + 1, x0, x3 => if x3 > 0 then (if 0 ≤ (wrap64 (x3 - 1)) then (if (wrap64 (x3 - 1)) < (x0.length : Int) then (if (rd x0 (wrap64 (x3 - 1))) = 0 then (spec_natTrim.l0 k x0 (wrap64 (x3 - 1))) else (if 0 ≤ x3 then (if x3 ≤ (x0.length : Int) then (some (x0.take (x3 : Int).toNat)) else (none)) else (none))) else (none)) else (none)) else (if 0 ≤ x3 then (if x3 ≤ (x0.length : Int) then (some (x0.take (x3 : Int).toNat)) else (none)) else (none))
def spec_natTrim.f (k : Nat) (l0 : List Int) : Option (List Int) := spec_natTrim.l0 k l0 (l0.length : Int)
theorem spec_natTrim.mono_l : ∀ k, (∀ y0 y1, LeO (spec_natTrim.l0 k y0 y1) (spec_natTrim.l0 (k + 1) y0 y1))
  | 0 => fun _ _ r h => by simp [spec_natTrim.l0] at h
  | k + 1 => by
    have ih0 := spec_natTrim.mono_l k
    · intro y0 y1
      unfold spec_natTrim.l0
      repeat' first
      | (with_reducible exact ih0 _ _)
      | (with_reducible exact LeO.refl _)
      | (with_reducible exact LeO.none _)
      | (with_reducible refine LeO.ite ?_ ?_)
      | (with_reducible refine LeO.bind ?_ (fun _ => ?_))
      | exact ih0 _ _
      | exact LeO.none _
      | refine LeO.ite ?_ ?_
      | refine LeO.bind ?_ (fun _ => ?_)
theorem spec_natTrim.mono : ∀ a0 k, LeO (spec_natTrim.f k a0) (spec_natTrim.f (k + 1) a0) := by
  intro a0 k
  have ih0 := spec_natTrim.mono_l k
  unfold spec_natTrim.f
  repeat' first
      | (with_reducible exact ih0 _ _)
      | (with_reducible exact LeO.refl _)
      | (with_reducible exact LeO.none _)
      | (with_reducible refine LeO.ite ?_ ?_)
      | (with_reducible refine LeO.bind ?_ (fun _ => ?_))
      | exact ih0 _ _
      | exact LeO.none _
      | refine LeO.ite ?_ ?_
      | refine LeO.bind ?_ (fun _ => ?_)
set_option maxHeartbeats 8000000 in
set_option maxRecDepth 100000 in
theorem spec_natTrim.calls (k : Nat) (P0_ : Nat → Prop) (u9000_ : Value) (l0 : List Int) (r : List Int) (w0 w : World) (hB : Below w0.heap.size w0 w) (ho0 : Kd.R (Kd.int .u64) 40 w w0.heap.size P0_ u9000_ l0) (h : spec_natTrim.f k l0 = some r) :
    Calls Tryd.prog 68 #[u9000_] w fun e w' => ∃ v0_ : Value, e = .returned (v0_) ∧ Kd.R (Kd.int .u64) 40 w' w0.heap.size (fun k_ => (P0_ k_ ∨ w.heap.size ≤ k_)) v0_ r ∧ Below w0.heap.size w0 w' ∧ Kept w w' (fun k_ => P0_ k_) := by
  have HO0 := Aside0.mk (show Kd.R (Kd.int .u64) 40 w w0.heap.size (fun k_ => (P0_ k_ ∨ w.heap.size ≤ k_)) u9000_ l0 from Kd.R_mono ho0 (fun k_ hk => (.inl hk)))
  have HK := Aside0.mk (Kept.refl w (fun k_ => P0_ k_))
  have HW0 := Aside0.mk hB.size
  have HB := Aside0.mk hB
  clear hB
  have H : (spec_natTrim.l0 k l0 (l0.length : Int)) = some r := h
  clear h
  have H' := Aside0.mk H
  clear H
  obtain ⟨Ao2, co2, eo2⟩ := Kd.R_slice HO0.out
  subst eo2
  go_enter Tryd.func68, Tryd.ntmps68
  go_wp2
  go_loopg [3] k (fun kq v3 w' => ∃ (x3_1 : Int), v3 = .int .i64 x3_1 ∧ Aside0 (spec_natTrim.l0 kq l0 x3_1 = some r) ∧ Aside0 (kq ≤ k) ∧ Aside0 (Kd.R (Kd.int .u64) 40 w' w0.heap.size (fun k_ => (P0_ k_ ∨ w.heap.size ≤ k_)) (.slice Ao2 l0.length co2) l0) ∧ Aside0 (Kept w w' (fun k_ => P0_ k_)) ∧ Aside0 (Below w0.heap.size w0 w'))
  case atStart => exact ⟨((l0.length : Int)), (by first | rfl | (simp; done) | (simp [*]; done)), H', ⟨Nat.le_refl _⟩, ⟨by (with_reducible repeat (first | apply Kd.R_alloc | apply Kd.R_drewN | apply Kd.R_drew)); exact HO0.out⟩, ⟨by repeat (first | (with_reducible first | exact HK.out | apply Kept.alloc | apply Kept.drewN | apply Kept.drew) | exact HK.out)⟩, ⟨by repeat (first | (with_reducible first | exact HB.out | apply below_alloc | apply pw_below_drewN | apply below_drew1) | exact HB.out)⟩⟩
  case round =>
    clear H'
    try clear p2
    obtain ⟨x3_1, rfl, HA, HK1, HO_0, HK, HB⟩ := hrel
    cases gk with
    | zero => exact absurd HA.out (by simp [spec_natTrim.l0])
    | succ k1 =>
      have H := HA.out
      clear HA
      simp only [spec_natTrim.l0] at H
      by_cases c3 : x3_1 > 0
      · rw [if_pos c3] at H
        have c3b0 : decide (0 < x3_1) = true := decide_eq_true c3
        clear c3
        obtain ⟨ji4, hji4⟩ : ∃ j_ : Int, (wrap64 (x3_1 - 1)) = j_ := ⟨_, rfl⟩
        replace H : (if 0 ≤ (ji4) then (if (ji4) < (l0.length : Int) then (if (rd l0 (ji4)) = 0 then (spec_natTrim.l0 k1 l0 ji4) else (if 0 ≤ x3_1 then (if x3_1 ≤ (l0.length : Int) then (some (l0.take (x3_1 : Int).toNat)) else (none)) else (none))) else (none)) else (none)) = some r := by first | (rw [hji4] at H; exact H) | (simp only [hji4] at H ⊢; exact H)
        have hji4w : (IntKind.i64.wrap (x3_1 - 1)) = ji4 := (i64_w _).trans hji4
        by_cases c5 : 0 ≤ (ji4)
        · rw [if_pos c5] at H
          have c5b0 : decide (0 ≤ (ji4)) = true := decide_eq_true c5
          clear c5
          by_cases c6 : (ji4) < (l0.length : Int)
          · rw [if_pos c6] at H
            have c6b0 : decide ((ji4) < (l0.length : Int)) = true := decide_eq_true c6
            clear c6
            by_cases c7 : (rd l0 (ji4)) = 0
            · rw [if_pos c7] at H
              have c7b0 : ((rd l0 (ji4)) == 0) = true := beq_iff_eq.mpr c7
              have c7b1 : ((rd l0 (ji4)) != 0) = false := bne_eq_false_iff_eq.mpr c7
              clear c7
              have H' := Aside0.mk H
              clear H
              have p101 : 0 ≤ ((ji4) : Int) := of_decide_eq_true (by first | (with_reducible assumption) | assumption)
              have q101 : (ji4) < (l0.length : Int) := of_decide_eq_true (by first | (with_reducible assumption) | assumption)
              obtain ⟨ad101, e101, hx101_0⟩ := Kd.at_int (Kd.R_reads' HO_0.out).2.2 (ji4) p101 q101
              cases e101
              replace p101 := eq_true p101
              replace q101 := eq_true q101
              go_wp2
              go_roundg k1
              case measure => have := HK1.out; omega
              case rel => exact ⟨(ji4), (by first | rfl | (simp; done) | (simp only [← hji4] <;> (first | rfl | simp)) | (simp [*]; done)), H', ⟨by have := HK1.out; omega⟩, ⟨by (with_reducible repeat (first | apply Kd.R_alloc | apply Kd.R_drewN | apply Kd.R_drew)); exact HO_0.out⟩, ⟨by repeat (first | (with_reducible first | exact HK.out | apply Kept.alloc | apply Kept.drewN | apply Kept.drew) | exact HK.out)⟩, ⟨by repeat (first | (with_reducible first | exact HB.out | apply below_alloc | apply pw_below_drewN | apply below_drew1) | exact HB.out)⟩⟩
            · rw [if_neg c7] at H
              have c7b0 : ((rd l0 (ji4)) == 0) = false := beq_eq_false_iff_ne.mpr c7
              have c7b1 : ((rd l0 (ji4)) != 0) = true := bne_iff_ne.mpr c7
              by_cases c8 : 0 ≤ x3_1
              · rw [if_pos c8] at H
                have c8b0 := eq_true c8
                have c8b1 : decide (0 ≤ x3_1) = true := decide_eq_true c8
                clear c8
                by_cases c9 : x3_1 ≤ (l0.length : Int)
                · rw [if_pos c9] at H
                  have c9b0 := eq_true c9
                  have c9b1 : decide (x3_1 ≤ (l0.length : Int)) = true := decide_eq_true c9
                  clear c9
                  obtain ⟨y102, hy102⟩ : ∃ y_ : List Int, y_ = (l0.take (x3_1 : Int).toNat) := ⟨_, rfl⟩
                  replace H : (some y102) = some r := by first | (rw [hy102]; with_reducible exact H) | (have H2_ := (Option.bind_some _ _).symm.trans H; rw [hy102]; with_reducible exact H2_) | (have H2_ := (Option.bind_some _ _).symm.trans H; with_reducible exact H2_) | with_reducible exact H | (rw [hy102]; exact H) | exact H
                  have Ny102 := Aside0.mk hy102
                  clear hy102
                  obtain rfl := Option.some.inj H
                  have p101 : 0 ≤ ((ji4) : Int) := of_decide_eq_true (by first | (with_reducible assumption) | assumption)
                  have q101 : (ji4) < (l0.length : Int) := of_decide_eq_true (by first | (with_reducible assumption) | assumption)
                  obtain ⟨ad101, e101, hx101_0⟩ := Kd.at_int (Kd.R_reads' HO_0.out).2.2 (ji4) p101 q101
                  cases e101
                  replace p101 := eq_true p101
                  replace q101 := eq_true q101
                  have q10 : (x3_1 : Int) ≤ ((l0.length : Int) : Int) := of_decide_eq_true (by first | (with_reducible assumption) | assumption)
                  obtain ⟨i010, hi010, _, hsz10, _⟩ := info_parts info40
                  have hcut10 := cut_to (P := Tryd.prog) 55 40 .i64 Tryd.underlying55 hi010 (some ad101) l0.length co2 x3_1 (of_decide_eq_true (by first | (with_reducible assumption) | assumption)) q10 (Kd.R_reads' HO_0.out).2.1
                  have hr10 := Kd.R_take (m := (x3_1 : Int).toNat) HO_0.out (by omega)
                  have hy10 : y102.length = (x3_1 : Int).toNat := (by rw [Ny102.out, List.length_take]; omega)
                  rw [← Ny102.out] at hr10
                  rw [← hy10] at hr10 hcut10
                  clear hy10 hi010 hsz10 HO_0
                  have HO104 := Aside0.mk hr10
                  clear hr10
                  replace q10 := eq_true q10
                  go_wp2
                  go_ret
                  exact ⟨_, by first | rfl | (simp [errW_none, errW_some] <;> rfl) | (simp only [← hji4]; first | rfl | (simp [errW_none, errW_some] <;> rfl)) | (simp [*, errW_none, errW_some] <;> rfl), by (with_reducible repeat (first | apply Kd.R_alloc | apply Kd.R_drewN | apply Kd.R_drew)); exact HO104.out, by repeat (first | (with_reducible first | exact HB.out | apply below_alloc | apply pw_below_drewN | apply below_drew1) | exact HB.out), by repeat (first | (with_reducible first | exact HK.out | apply Kept.alloc | apply Kept.drewN | apply Kept.drew) | exact HK.out)⟩
                · rw [if_neg c9] at H
                  exact absurd H (by simp)
              · rw [if_neg c8] at H
                exact absurd H (by simp)
          · rw [if_neg c6] at H
            exact absurd H (by simp)
        · rw [if_neg c5] at H
          exact absurd H (by simp)
      · rw [if_neg c3] at H
        have c3b0 : decide (0 < x3_1) = false := decide_eq_false c3
        clear c3
        by_cases c11 : 0 ≤ x3_1
        · rw [if_pos c11] at H
          have c11b0 := eq_true c11
          have c11b1 : decide (0 ≤ x3_1) = true := decide_eq_true c11
          clear c11
          by_cases c12 : x3_1 ≤ (l0.length : Int)
          · rw [if_pos c12] at H
            have c12b0 := eq_true c12
            have c12b1 : decide (x3_1 ≤ (l0.length : Int)) = true := decide_eq_true c12
            clear c12
            obtain ⟨y105, hy105⟩ : ∃ y_ : List Int, y_ = (l0.take (x3_1 : Int).toNat) := ⟨_, rfl⟩
            replace H : (some y105) = some r := by first | (rw [hy105]; with_reducible exact H) | (have H2_ := (Option.bind_some _ _).symm.trans H; rw [hy105]; with_reducible exact H2_) | (have H2_ := (Option.bind_some _ _).symm.trans H; with_reducible exact H2_) | with_reducible exact H | (rw [hy105]; exact H) | exact H
            have Ny105 := Aside0.mk hy105
            clear hy105
            obtain rfl := Option.some.inj H
            have q13 : (x3_1 : Int) ≤ ((l0.length : Int) : Int) := of_decide_eq_true (by first | (with_reducible assumption) | assumption)
            obtain ⟨i013, hi013, _, hsz13, _⟩ := info_parts info40
            have hcut13 := cut_to (P := Tryd.prog) 55 40 .i64 Tryd.underlying55 hi013 Ao2 l0.length co2 x3_1 (of_decide_eq_true (by first | (with_reducible assumption) | assumption)) q13 (Kd.R_reads' HO_0.out).2.1
            have hr13 := Kd.R_take (m := (x3_1 : Int).toNat) HO_0.out (by omega)
            have hy13 : y105.length = (x3_1 : Int).toNat := (by rw [Ny105.out, List.length_take]; omega)
            rw [← Ny105.out] at hr13
            rw [← hy13] at hr13 hcut13
            clear hy13 hi013 hsz13 HO_0
            have HO107 := Aside0.mk hr13
            clear hr13
            replace q13 := eq_true q13
            go_wp2
            go_ret
            exact ⟨_, by first | rfl | (simp [errW_none, errW_some] <;> rfl) | (simp [*, errW_none, errW_some] <;> rfl), by (with_reducible repeat (first | apply Kd.R_alloc | apply Kd.R_drewN | apply Kd.R_drew)); exact HO107.out, by repeat (first | (with_reducible first | exact HB.out | apply below_alloc | apply pw_below_drewN | apply below_drew1) | exact HB.out), by repeat (first | (with_reducible first | exact HK.out | apply Kept.alloc | apply Kept.drewN | apply Kept.drew) | exact HK.out)⟩
          · rw [if_neg c12] at H
            exact absurd H (by simp)
        · rw [if_neg c11] at H
          exact absurd H (by simp)

/-! ### spec_natTimes: function 50 -/
def spec_natTimes.l0 : Nat → List Int → Int → Int → List Int → Int → Option (List Int)
  | 0, _, _, _, _, _ => none
  | k + 1, x0, x1, x2, x7, x8 => if x8 < (x0.length : Int) then (if 0 ≤ x8 then (if x7.length < 17592186044416 then (spec_natTimes.l0 k x0 x1 ((IntKind.u64.wrap (x2 + (IntKind.u64.wrap ((rd x0 x8) * x1)))) / 4294967296) (x7 ++ [Go.bits .and .u64 (IntKind.u64.wrap (x2 + (IntKind.u64.wrap ((rd x0 x8) * x1)))) 4294967295]) (wrap64 (x8 + 1))) else (none)) else (none)) else (if x7.length < 17592186044416 then ((spec_natTrim.f k (x7 ++ [x2])).bind fun t115 => (some t115)) else (none))
def spec_natTimes.f (k : Nat) (l0 : List Int) (a1 : Int) (a2 : Int) : Option (List Int) := spec_natTimes.l0 k l0 a1 a2 ([] : List Int) 0
theorem spec_natTimes.mono_l : ∀ k, (∀ y0 y1 y2 y3 y4, LeO (spec_natTimes.l0 k y0 y1 y2 y3 y4) (spec_natTimes.l0 (k + 1) y0 y1 y2 y3 y4))
  | 0 => fun _ _ _ _ _ r h => by simp [spec_natTimes.l0] at h
  | k + 1 => by
    have ih0 := spec_natTimes.mono_l k
    · intro y0 y1 y2 y3 y4
      unfold spec_natTimes.l0
      repeat' first
      | (with_reducible exact ih0 _ _ _ _ _)
      | (with_reducible exact spec_natTrim.mono _ _)
      | (with_reducible exact LeO.refl _)
      | (with_reducible exact LeO.none _)
      | (with_reducible refine LeO.ite ?_ ?_)
      | (with_reducible refine LeO.bind ?_ (fun _ => ?_))
      | exact ih0 _ _ _ _ _
      | exact spec_natTrim.mono _ _
      | exact LeO.none _
      | refine LeO.ite ?_ ?_
      | refine LeO.bind ?_ (fun _ => ?_)
theorem spec_natTimes.mono : ∀ a0 a1 a2 k, LeO (spec_natTimes.f k a0 a1 a2) (spec_natTimes.f (k + 1) a0 a1 a2) := by
  intro a0 a1 a2 k
  have ih0 := spec_natTimes.mono_l k
  unfold spec_natTimes.f
  repeat' first
      | (with_reducible exact ih0 _ _ _ _ _)
      | (with_reducible exact spec_natTrim.mono _ _)
      | (with_reducible exact LeO.refl _)
      | (with_reducible exact LeO.none _)
      | (with_reducible refine LeO.ite ?_ ?_)
      | (with_reducible refine LeO.bind ?_ (fun _ => ?_))
      | exact ih0 _ _ _ _ _
      | exact spec_natTrim.mono _ _
      | exact LeO.none _
      | refine LeO.ite ?_ ?_
      | refine LeO.bind ?_ (fun _ => ?_)
set_option maxHeartbeats 8000000 in
set_option maxRecDepth 100000 in
theorem spec_natTimes.calls (k : Nat) (A0 : Option Addr) (c0 : Nat) (l0 : List Int) (a1 : Int) (a2 : Int) (r : List Int) (w : World) (hr0 : Kd.C (Kd.int .u64) w A0 l0.length l0) (hc0 : l0.length ≤ c0) (h : spec_natTimes.f k l0 a1 a2 = some r) :
    Calls Tryd.prog 50 #[.slice A0 l0.length c0, .int .u64 a1, .int .u64 a2] w fun e w' => ∃ v0_ : Value, e = .returned (v0_) ∧ Kd.R (Kd.int .u64) 40 w' w.heap.size (fun _ => True) v0_ r ∧ Below w.heap.size w w' := by
  have HR0 := Aside0.mk hr0
  have HC0 := Aside0.mk hc0
  clear hr0 hc0
  have HB := Aside0.mk (Below.refl w.heap.size w)
  have H : (spec_natTimes.l0 k l0 a1 a2 ([] : List Int) 0) = some r := h
  clear h
  have H' := Aside0.mk H
  clear H
  go_enter Tryd.func50, Tryd.ntmps50
  go_wp2
  go_loopg [2, 7, 8] k (fun kq v2 v7 v8 w' => ∃ (x2_1 : Int) (x7_1 : List Int) (x8_1 : Int), v2 = .int .u64 x2_1 ∧ v8 = .int .i64 x8_1 ∧ Aside0 (spec_natTimes.l0 kq l0 a1 x2_1 x7_1 x8_1 = some r) ∧ Aside0 (kq ≤ k) ∧ Aside0 (Kd.R (Kd.int .u64) 40 w' w.heap.size (fun _ => True) v7 x7_1) ∧ Aside0 (Below w.heap.size w w'))
  case atStart => exact ⟨(a2), (([] : List Int)), (0), (by first | rfl | (simp; done) | (simp [*]; done)), (by first | rfl | (simp; done) | (simp [*]; done)), H', ⟨Nat.le_refl _⟩, ⟨by first | exact Kd.R_nil _ _ _ _ _ | exact Kd.N_nil _ _ _ _ _ | exact Kd.V_nil _ _ _ _ _ | exact Kd.Q_nil _ _ _ _ _ | exact Kd.S_nil _ _ _ _ _⟩, ⟨by repeat (first | (with_reducible first | exact HB.out | apply below_alloc | apply pw_below_drewN | apply below_drew1) | exact HB.out)⟩⟩
  case round =>
    clear H'
    try clear p2
    obtain ⟨x2_1, x7_1, x8_1, rfl, rfl, HA, HK1, HO_7, HB⟩ := hrel
    cases gk with
    | zero => exact absurd HA.out (by simp [spec_natTimes.l0])
    | succ k1 =>
      have H := HA.out
      clear HA
      simp only [spec_natTimes.l0] at H
      by_cases c4 : x8_1 < (l0.length : Int)
      · rw [if_pos c4] at H
        have c4b0 : decide (x8_1 < (l0.length : Int)) = true := decide_eq_true c4
        clear c4
        by_cases c5 : 0 ≤ x8_1
        · rw [if_pos c5] at H
          have c5b0 : decide (0 ≤ x8_1) = true := decide_eq_true c5
          clear c5
          by_cases c6 : x7_1.length < 17592186044416
          · rw [if_pos c6] at H
            have LMc6 := Aside0.mk c6
            clear c6
            obtain ⟨y109, hy109⟩ : ∃ y_ : List Int, y_ = (x7_1 ++ [Go.bits .and .u64 (IntKind.u64.wrap (x2_1 + (IntKind.u64.wrap ((rd l0 x8_1) * a1)))) 4294967295]) := ⟨_, rfl⟩
            replace H : (spec_natTimes.l0 k1 l0 a1 ((IntKind.u64.wrap (x2_1 + (IntKind.u64.wrap ((rd l0 x8_1) * a1)))) / 4294967296) y109 (wrap64 (x8_1 + 1))) = some r := by first | (rw [hy109]; with_reducible exact H) | (have H2_ := (Option.bind_some _ _).symm.trans H; rw [hy109]; with_reducible exact H2_) | (have H2_ := (Option.bind_some _ _).symm.trans H; with_reducible exact H2_) | with_reducible exact H | (rw [hy109]; exact H) | exact H
            have Ny109 := Aside0.mk hy109
            clear hy109
            have H' := Aside0.mk H
            clear H
            have p108 : 0 ≤ (x8_1 : Int) := of_decide_eq_true (by first | (with_reducible assumption) | assumption)
            have q108 : x8_1 < (l0.length : Int) := of_decide_eq_true (by first | (with_reducible assumption) | assumption)
            obtain ⟨ad108, e108, hx108_0⟩ := Kd.at_int HR0.out x8_1 p108 q108
            cases e108
            replace hx108_0 := (HB.out.cell (World.block_lt_of_cell? w _ hx108_0)).trans hx108_0
            replace p108 := eq_true p108
            replace q108 := eq_true q108
            go_wp2_with (first | ((with_reducible refine gate_builtin (b := .append) (xs := #[.tmp 23, .tmp 26]) rfl ?_); at_builtin; refine Kd.R_append (Kd.int .u64) (w0 := w) w.heap.size rfl (.tmp 23) (.tmp 26) 55 40 (.int .u64 0) 8 rfl Tryd.underlying55 info40 rfl (by decide) (by omega) u7 x7_1 (Go.bits .and .u64 (IntKind.u64.wrap (x2_1 + (IntKind.u64.wrap ((rd l0 x8_1) * a1)))) 4294967295) [.int .u64 (Go.bits .and .u64 (IntKind.u64.wrap (x2_1 + (IntKind.u64.wrap ((rd l0 x8_1) * a1)))) 4294967295)] (fun _ => True) (fun _ => False) rfl rfl ?aP (fun _ hk => hk.elim) ?aF ?aO ?aB ?aS ?aL ?_; (case aP => exact rfl); (case aB => exact (by repeat (first | (with_reducible first | exact HB.out | apply below_alloc | apply pw_below_drewN | apply below_drew1) | exact HB.out))); (case aF => exact (fun _ _ => trivial)); (case aO => exact (by (with_reducible repeat (first | apply Kd.R_alloc | apply Kd.R_drewN | apply Kd.R_drew)); exact HO_7.out)); (case aS => exact (below_size (by repeat (first | (with_reducible first | exact HB.out | apply below_alloc | apply pw_below_drewN | apply below_drew1) | exact HB.out)))); (case aL => have := LMc6.out; omega); intro v110 w7 ho hb hg hat; rw [← Ny109.out] at ho; have n0_ := Aside0.mk (hb); have n1_ := Aside0.mk (ho); clear HB; clear HO_7; have HB := n0_; have HO111 := n1_; clear n0_ n1_; clear ho hb hg hat))
            go_roundg k1
            case measure => have := HK1.out; omega
            case rel => exact ⟨((IntKind.u64.wrap (x2_1 + (IntKind.u64.wrap ((rd l0 x8_1) * a1)))) / 4294967296), (y109), (wrap64 (x8_1 + 1)), (by first | rfl | (simp; done) | (simp [*]; done)), (by first | rfl | (simp; done) | (simp [*]; done)), H', ⟨by have := HK1.out; omega⟩, ⟨by (with_reducible repeat (first | apply Kd.R_alloc | apply Kd.R_drewN | apply Kd.R_drew)); exact HO111.out⟩, ⟨by repeat (first | (with_reducible first | exact HB.out | apply below_alloc | apply pw_below_drewN | apply below_drew1) | exact HB.out)⟩⟩
          · rw [if_neg c6] at H
            exact absurd H (by simp)
        · rw [if_neg c5] at H
          exact absurd H (by simp)
      · rw [if_neg c4] at H
        have c4b0 : decide (x8_1 < (l0.length : Int)) = false := decide_eq_false c4
        clear c4
        by_cases c8 : x7_1.length < 17592186044416
        · rw [if_pos c8] at H
          have LMc8 := Aside0.mk c8
          clear c8
          obtain ⟨y112, hy112⟩ : ∃ y_ : List Int, y_ = (x7_1 ++ [x2_1]) := ⟨_, rfl⟩
          replace H : ((spec_natTrim.f k1 y112).bind fun t115 => (some t115)) = some r := by first | (rw [hy112]; with_reducible exact H) | (have H2_ := (Option.bind_some _ _).symm.trans H; rw [hy112]; with_reducible exact H2_) | (have H2_ := (Option.bind_some _ _).symm.trans H; with_reducible exact H2_) | with_reducible exact H | (rw [hy112]; exact H) | exact H
          have Ny112 := Aside0.mk hy112
          clear hy112
          replace H := Option.bind_eq_some_iff.mp H
          obtain ⟨t115, A90, H⟩ := H
          replace H : (some t115) = some r := H
          have A9 := Aside0.mk A90
          clear A90
          obtain rfl := Option.some.inj H
          go_wp2_with (first | ((with_reducible refine gate_builtin (b := .append) (xs := #[.tmp 30, .tmp 32]) rfl ?_); at_builtin; refine Kd.R_append (Kd.int .u64) (w0 := w) w.heap.size rfl (.tmp 30) (.tmp 32) 55 40 (.int .u64 0) 8 rfl Tryd.underlying55 info40 rfl (by decide) (by omega) u7 x7_1 x2_1 [.int .u64 x2_1] (fun _ => True) (fun _ => False) rfl rfl ?aP (fun _ hk => hk.elim) ?aF ?aO ?aB ?aS ?aL ?_; (case aP => exact rfl); (case aB => exact (by repeat (first | (with_reducible first | exact HB.out | apply below_alloc | apply pw_below_drewN | apply below_drew1) | exact HB.out))); (case aF => exact (fun _ _ => trivial)); (case aO => exact (by (with_reducible repeat (first | apply Kd.R_alloc | apply Kd.R_drewN | apply Kd.R_drew)); exact HO_7.out)); (case aS => exact (below_size (by repeat (first | (with_reducible first | exact HB.out | apply below_alloc | apply pw_below_drewN | apply below_drew1) | exact HB.out)))); (case aL => have := LMc8.out; omega); intro v113 w10 ho hb hg hat; rw [← Ny112.out] at ho; have n0_ := Aside0.mk (hb); have n1_ := Aside0.mk (ho); clear HB; clear HO_7; have HB := n0_; have HO114 := n1_; clear n0_ n1_; clear ho hb hg hat; obtain ⟨Ao11, co11, eo11⟩ := Kd.R_slice HO114.out; subst eo11) | ((with_reducible refine gate_callee (f := 68) rfl ?_); refine goesL_ (some 34) rfl rfl Tryd.func68 (by kernel_rfl) rfl #[.slice Ao11 y112.length co11] rfl (by (try simp only [List.map_toArray, List.map_cons, List.map_nil]); first | done | rfl | (simp only [List.length_drop, List.length_take]; rfl)) ?_; (with_reducible refine (spec_natTrim.calls k1 (fun k_ => some k_ = (.slice Ao11 y112.length co11 : Value).ownBlock) (.slice Ao11 y112.length co11) y112 t115 w _ ?side1 ?side2 A9.out).mono ?_); (case side1 => repeat (first | (with_reducible first | exact HB.out | apply below_alloc | apply pw_below_drewN | apply below_drew1) | exact HB.out)); (case side2 => exact Kd.R_tight rfl HO114.out); rintro e w12 ⟨v116, rfl, ho0, hb, hkp⟩; refine ⟨_, rfl, ?_⟩; have n0_ := Aside0.mk (Kd.R_mono (ok' := fun k_ => True) ho0 (fun k_ hk_ => trivial)); have n1_ := Aside0.mk (hb); clear HB; clear HO114; have HO117 := n0_; have HB := n1_; clear n0_ n1_; (try clear hb); (try clear hkp); (try clear ho0)))
          go_ret
          exact ⟨_, by first | rfl | (simp [errW_none, errW_some] <;> rfl) | (simp [*, errW_none, errW_some] <;> rfl), by (with_reducible repeat (first | apply Kd.R_alloc | apply Kd.R_drewN | apply Kd.R_drew)); exact HO117.out, by repeat (first | (with_reducible first | exact HB.out | apply below_alloc | apply pw_below_drewN | apply below_drew1) | exact HB.out)⟩
        · rw [if_neg c8] at H
          exact absurd H (by simp)

/-! ### spec_natPower: function 53 -/
def spec_natPower.l0 : Nat → List Int → Int → Int → Int → Option (List Int)
  | 0, _, _, _, _ => none
  | k + 1, x0, x1, x2, x7 => if x7 < x2 then ((spec_natTimes.f k x0 (IntKind.u64.wrap (x1)) 0).bind fun t118 => (spec_natPower.l0 k t118 x1 x2 (wrap64 (x7 + 1)))) else (some x0)
def spec_natPower.f (k : Nat) (l0 : List Int) (a1 : Int) (a2 : Int) : Option (List Int) := spec_natPower.l0 k l0 a1 a2 0
theorem spec_natPower.mono_l : ∀ k, (∀ y0 y1 y2 y3, LeO (spec_natPower.l0 k y0 y1 y2 y3) (spec_natPower.l0 (k + 1) y0 y1 y2 y3))
  | 0 => fun _ _ _ _ r h => by simp [spec_natPower.l0] at h
  | k + 1 => by
    have ih0 := spec_natPower.mono_l k
    · intro y0 y1 y2 y3
      unfold spec_natPower.l0
      repeat' first
      | (with_reducible exact ih0 _ _ _ _)
      | (with_reducible exact spec_natTimes.mono _ _ _ _)
      | (with_reducible exact LeO.refl _)
      | (with_reducible exact LeO.none _)
      | (with_reducible refine LeO.ite ?_ ?_)
      | (with_reducible refine LeO.bind ?_ (fun _ => ?_))
      | exact ih0 _ _ _ _
      | exact spec_natTimes.mono _ _ _ _
      | exact LeO.none _
      | refine LeO.ite ?_ ?_
      | refine LeO.bind ?_ (fun _ => ?_)
theorem spec_natPower.mono : ∀ a0 a1 a2 k, LeO (spec_natPower.f k a0 a1 a2) (spec_natPower.f (k + 1) a0 a1 a2) := by
  intro a0 a1 a2 k
  have ih0 := spec_natPower.mono_l k
  unfold spec_natPower.f
  repeat' first
      | (with_reducible exact ih0 _ _ _ _)
      | (with_reducible exact spec_natTimes.mono _ _ _ _)
      | (with_reducible exact LeO.refl _)
      | (with_reducible exact LeO.none _)
      | (with_reducible refine LeO.ite ?_ ?_)
      | (with_reducible refine LeO.bind ?_ (fun _ => ?_))
      | exact ih0 _ _ _ _
      | exact spec_natTimes.mono _ _ _ _
      | exact LeO.none _
      | refine LeO.ite ?_ ?_
      | refine LeO.bind ?_ (fun _ => ?_)
set_option maxHeartbeats 8000000 in
set_option maxRecDepth 100000 in
theorem spec_natPower.calls (k : Nat) (P0_ : Nat → Prop) (A0 : Option Addr) (c0 : Nat) (l0 : List Int) (a1 : Int) (a2 : Int) (r : List Int) (w : World) (hs0 : Kd.V (Kd.int .u64) 40 w w.heap.size (fun k_ => P0_ k_) (.slice A0 l0.length c0) l0) (h : spec_natPower.f k l0 a1 a2 = some r) :
    Calls Tryd.prog 53 #[.slice A0 l0.length c0, .int .i64 a1, .int .i64 a2] w fun e w' => ∃ v0_ : Value, e = .returned (v0_) ∧ Kd.V (Kd.int .u64) 40 w' w.heap.size (fun k_ => (P0_ k_ ∨ w.heap.size ≤ k_)) v0_ r ∧ Below w.heap.size w w' := by
  have HO0 := Aside0.mk (show Kd.V (Kd.int .u64) 40 w w.heap.size (fun k_ => (P0_ k_ ∨ w.heap.size ≤ k_)) (.slice A0 l0.length c0) l0 from Kd.V_mono hs0 (fun k_ hk => .inl hk))
  have HB := Aside0.mk (Below.refl w.heap.size w)
  have H : (spec_natPower.l0 k l0 a1 a2 0) = some r := h
  clear h
  have H' := Aside0.mk H
  clear H
  go_enter Tryd.func53, Tryd.ntmps53
  go_wp2
  go_loopg [0, 7] k (fun kq v0 v7 w' => ∃ (x0_1 : List Int) (x7_1 : Int), v7 = .int .i64 x7_1 ∧ Aside0 (spec_natPower.l0 kq x0_1 a1 a2 x7_1 = some r) ∧ Aside0 (kq ≤ k) ∧ Aside0 (Kd.V (Kd.int .u64) 40 w' w.heap.size (fun k_ => (P0_ k_ ∨ w.heap.size ≤ k_)) v0 x0_1) ∧ Aside0 (Below w.heap.size w w'))
  case atStart => exact ⟨(l0), (0), (by first | rfl | (simp; done) | (simp [*]; done)), H', ⟨Nat.le_refl _⟩, ⟨by (with_reducible repeat (first | apply Kd.V_alloc | apply Kd.V_drewN | apply Kd.V_drew)); exact HO0.out⟩, ⟨by repeat (first | (with_reducible first | exact HB.out | apply below_alloc | apply pw_below_drewN | apply below_drew1) | exact HB.out)⟩⟩
  case round =>
    clear H'
    try clear p2
    obtain ⟨x0_1, x7_1, rfl, HA, HK1, HO_0, HB⟩ := hrel
    cases gk with
    | zero => exact absurd HA.out (by simp [spec_natPower.l0])
    | succ k1 =>
      have H := HA.out
      clear HA
      simp only [spec_natPower.l0] at H
      by_cases c4 : x7_1 < a2
      · rw [if_pos c4] at H
        have c4b0 : decide (x7_1 < a2) = true := decide_eq_true c4
        clear c4
        replace H := Option.bind_eq_some_iff.mp H
        obtain ⟨t118, A50, H⟩ := H
        replace H : (spec_natPower.l0 k1 t118 a1 a2 (wrap64 (x7_1 + 1))) = some r := H
        have A5 := Aside0.mk A50
        clear A50
        have H' := Aside0.mk H
        clear H
        obtain ⟨Ao6, co6, eo6⟩ := Kd.V_slice HO_0.out
        subst eo6
        go_wp2_with (first | ((with_reducible refine gate_callee (f := 50) rfl ?_); refine goesL_ (some 16) rfl rfl Tryd.func50 (by kernel_rfl) rfl #[.slice Ao6 x0_1.length co6, .int .u64 (IntKind.u64.wrap (a1)), .int .u64 0] rfl (by (try simp only [List.map_toArray, List.map_cons, List.map_nil]); first | done | rfl | (simp only [List.length_drop, List.length_take]; rfl)) ?_; (with_reducible refine (spec_natTimes.calls k1 _ _ x0_1 (IntKind.u64.wrap (a1)) 0 t118 _ ?side1 ?side2 A5.out).mono ?_); (case side1 => repeat (first | exact (Kd.V_reads' HO_0.out).2.2 | (with_reducible refine Kd.C_alloc ?_ _) | (with_reducible refine Kd.C_drewN ?_ _) | (with_reducible refine Kd.C_drew ?_))); (case side2 => exact (Kd.V_reads' HO_0.out).2.1); rintro e w7 ⟨v119, rfl, ho0, hb⟩; refine ⟨_, rfl, ?_⟩; have n0_ := Aside0.mk (Kd.V_elder' (by (with_reducible repeat (first | apply Kd.V_alloc | apply Kd.V_drewN | apply Kd.V_drew)); exact HO_0.out) (Kd.R_base ho0) hb); have n1_ := Aside0.mk (Kd.R_lower (Kd.R_newM (M := fun k_ => (w.heap.size ≤ k_)) ho0 (below_size (by repeat (first | (with_reducible first | exact HB.out | apply below_alloc | apply pw_below_drewN | apply below_drew1) | exact HB.out))) (fun k_ h_ => h_)) (below_size (by repeat (first | (with_reducible first | exact HB.out | apply below_alloc | apply pw_below_drewN | apply below_drew1) | exact HB.out)))); have n2_ := Aside0.mk (below_step (by repeat (first | (with_reducible first | exact HB.out | apply below_alloc | apply pw_below_drewN | apply below_drew1) | exact HB.out)) hb); clear HO_0; clear HB; have HO_0 := n0_; have HO120 := n1_; have HB := n2_; clear n0_ n1_ n2_; (try clear hb); (try clear hb2); (try clear hk); (try clear hi); (try clear ho0)))
        go_roundg k1
        case measure => have := HK1.out; omega
        case rel => exact ⟨(t118), (wrap64 (x7_1 + 1)), (by first | rfl | (simp; done) | (simp [*]; done)), H', ⟨by have := HK1.out; omega⟩, ⟨Kd.V_mono (Kd.R_V (by (with_reducible repeat (first | apply Kd.R_alloc | apply Kd.R_drewN | apply Kd.R_drew)); exact Kd.R_mono HO120.out (fun _ hk => hk.1))) (fun k_ hk => by first | exact ⟨(.inr (hk.1)), hk.2⟩ | exact (.inr (hk)))⟩, ⟨by repeat (first | (with_reducible first | exact HB.out | apply below_alloc | apply pw_below_drewN | apply below_drew1) | exact HB.out)⟩⟩
      · rw [if_neg c4] at H
        have c4b0 : decide (x7_1 < a2) = false := decide_eq_false c4
        clear c4
        obtain rfl := Option.some.inj H
        go_wp2
        go_ret
        exact ⟨_, by first | rfl | (simp [errW_none, errW_some] <;> rfl) | (simp [*, errW_none, errW_some] <;> rfl), by (with_reducible repeat (first | apply Kd.V_alloc | apply Kd.V_drewN | apply Kd.V_drew)); exact HO_0.out, by repeat (first | (with_reducible first | exact HB.out | apply below_alloc | apply pw_below_drewN | apply below_drew1) | exact HB.out)⟩

/-! ### spec_natShift: function 65 -/
def spec_natShift.l0 : Nat → List Int → Int → List Int → Int → Int → Option (List Int)
  | 0, _, _, _, _, _ => none
  | k + 1, x0, x1, x5, x6, x7 => if x7 < (x0.length : Int) then (if 0 ≤ x7 then (if 0 ≤ (Int.tmod x1 32) then (if x5.length < 17592186044416 then (spec_natShift.l0 k x0 x1 (x5 ++ [Go.bits .and .u64 (Go.bits .or .u64 (shl .u64 (rd x0 x7) (Int.tmod x1 32)) x6) 4294967295]) ((Go.bits .or .u64 (shl .u64 (rd x0 x7) (Int.tmod x1 32)) x6) / 4294967296) (wrap64 (x7 + 1))) else (none)) else (none)) else (none)) else (if x5.length < 17592186044416 then ((spec_natTrim.f k (x5 ++ [x6])).bind fun t131 => (some t131)) else (none))
def spec_natShift.f (k : Nat) (l0 : List Int) (a1 : Int) : Option (List Int) := if 0 ≤ (wrap64 (Int.tdiv a1 32)) then (if (wrap64 (Int.tdiv a1 32) : Int).toNat ≤ 35184372088832 then (spec_natShift.l0 k l0 a1 (List.replicate (wrap64 (Int.tdiv a1 32) : Int).toNat 0) 0 0) else (none)) else (none)
theorem spec_natShift.mono_l : ∀ k, (∀ y0 y1 y2 y3 y4, LeO (spec_natShift.l0 k y0 y1 y2 y3 y4) (spec_natShift.l0 (k + 1) y0 y1 y2 y3 y4))
  | 0 => fun _ _ _ _ _ r h => by simp [spec_natShift.l0] at h
  | k + 1 => by
    have ih0 := spec_natShift.mono_l k
    · intro y0 y1 y2 y3 y4
      unfold spec_natShift.l0
      repeat' first
      | (with_reducible exact ih0 _ _ _ _ _)
      | (with_reducible exact spec_natTrim.mono _ _)
      | (with_reducible exact LeO.refl _)
      | (with_reducible exact LeO.none _)
      | (with_reducible refine LeO.ite ?_ ?_)
      | (with_reducible refine LeO.bind ?_ (fun _ => ?_))
      | exact ih0 _ _ _ _ _
      | exact spec_natTrim.mono _ _
      | exact LeO.none _
      | refine LeO.ite ?_ ?_
      | refine LeO.bind ?_ (fun _ => ?_)
theorem spec_natShift.mono : ∀ a0 a1 k, LeO (spec_natShift.f k a0 a1) (spec_natShift.f (k + 1) a0 a1) := by
  intro a0 a1 k
  have ih0 := spec_natShift.mono_l k
  unfold spec_natShift.f
  repeat' first
      | (with_reducible exact ih0 _ _ _ _ _)
      | (with_reducible exact spec_natTrim.mono _ _)
      | (with_reducible exact LeO.refl _)
      | (with_reducible exact LeO.none _)
      | (with_reducible refine LeO.ite ?_ ?_)
      | (with_reducible refine LeO.bind ?_ (fun _ => ?_))
      | exact ih0 _ _ _ _ _
      | exact spec_natTrim.mono _ _
      | exact LeO.none _
      | refine LeO.ite ?_ ?_
      | refine LeO.bind ?_ (fun _ => ?_)
set_option maxHeartbeats 8000000 in
set_option maxRecDepth 100000 in
theorem spec_natShift.calls (k : Nat) (A0 : Option Addr) (c0 : Nat) (l0 : List Int) (a1 : Int) (r : List Int) (w : World) (hr0 : Kd.C (Kd.int .u64) w A0 l0.length l0) (hc0 : l0.length ≤ c0) (h : spec_natShift.f k l0 a1 = some r) :
    Calls Tryd.prog 65 #[.slice A0 l0.length c0, .int .i64 a1] w fun e w' => ∃ v0_ : Value, e = .returned (v0_) ∧ Kd.R (Kd.int .u64) 40 w' w.heap.size (fun _ => True) v0_ r ∧ Below w.heap.size w w' := by
  have HR0 := Aside0.mk hr0
  have HC0 := Aside0.mk hc0
  clear hr0 hc0
  have HB := Aside0.mk (Below.refl w.heap.size w)
  have H : (if 0 ≤ (wrap64 (Int.tdiv a1 32)) then (if (wrap64 (Int.tdiv a1 32) : Int).toNat ≤ 35184372088832 then (spec_natShift.l0 k l0 a1 (List.replicate (wrap64 (Int.tdiv a1 32) : Int).toNat 0) 0 0) else (none)) else (none)) = some r := h
  clear h
  obtain ⟨ji3, hji3⟩ : ∃ j_ : Int, (wrap64 (Int.tdiv a1 32)) = j_ := ⟨_, rfl⟩
  replace H : (if 0 ≤ (ji3) then (if (ji3 : Int).toNat ≤ 35184372088832 then (spec_natShift.l0 k l0 a1 (List.replicate (ji3 : Int).toNat 0) 0 0) else (none)) else (none)) = some r := by first | (rw [hji3] at H; exact H) | (simp only [hji3] at H ⊢; exact H)
  have hji3w : (IntKind.i64.wrap (Int.tdiv a1 32)) = ji3 := (i64_w _).trans hji3
  by_cases c4 : 0 ≤ (ji3)
  · rw [if_pos c4] at H
    have c4b0 := eq_true c4
    have c4b1 : decide (0 ≤ (ji3)) = true := decide_eq_true c4
    clear c4
    by_cases c5 : (ji3 : Int).toNat ≤ 35184372088832
    · rw [if_pos c5] at H
      have c5b0 := eq_true c5
      have c5b1 : decide ((ji3 : Int).toNat ≤ 35184372088832) = true := decide_eq_true c5
      clear c5
      obtain ⟨y121, hy121⟩ : ∃ y_ : List Int, y_ = (List.replicate (ji3 : Int).toNat 0) := ⟨_, rfl⟩
      replace H : (spec_natShift.l0 k l0 a1 y121 0 0) = some r := by first | (rw [hy121]; with_reducible exact H) | (have H2_ := (Option.bind_some _ _).symm.trans H; rw [hy121]; with_reducible exact H2_) | (have H2_ := (Option.bind_some _ _).symm.trans H; with_reducible exact H2_) | with_reducible exact H | (rw [hy121]; exact H) | exact H
      have Ny121 := Aside0.mk hy121
      clear hy121
      have H' := Aside0.mk H
      clear H
      go_enter Tryd.func65, Tryd.ntmps65
      go_wp2_with (first | ((with_reducible refine gate_dst (N := 11) rfl ?_); refine Kd.R_make (Kd.int .u64) _ 40 rfl (N := 11) rfl 55 _ _ rfl ji3 rfl rfl Tryd.underlying55 (.int .u64 0) 8 info40 rfl (by decide) (by omega) 0 (ok := fun _ => True) (okp := fun _ => True) rfl (fun _ hk => hk) trivial (of_decide_eq_true (by first | (with_reducible assumption) | assumption)) (Nat.le_trans (Nat.mul_le_mul_right _ (of_decide_eq_true (by first | (with_reducible assumption) | assumption) : ji3.toNat ≤ 35184372088832)) (by omega)) (Below.refl _ _) (Nat.le_refl _) ?_; intro v122 w6 ho7 hb hg_ hnew_; clear hg_ hnew_; (first | rw [← Ny121.out] at ho7 | (simp only [Int.reduceToNat] at ho7; rw [← Ny121.out] at ho7)); have n0_ := Aside0.mk (Kd.R_lower ho7 (below_size (by repeat (first | (with_reducible first | exact HB.out | apply below_alloc | apply pw_below_drewN | apply below_drew1) | exact HB.out)))); have n1_ := Aside0.mk (below_step (by repeat (first | (with_reducible first | exact HB.out | apply below_alloc | apply pw_below_drewN | apply below_drew1) | exact HB.out)) hb); clear HB; have HO123 := n0_; have HB := n1_; clear n0_ n1_; clear hb ho7))
      go_loopg [5, 6, 7] k (fun kq v5 v6 v7 w' => ∃ (x5_1 : List Int) (x6_1 : Int) (x7_1 : Int), v6 = .int .u64 x6_1 ∧ v7 = .int .i64 x7_1 ∧ Aside0 (spec_natShift.l0 kq l0 a1 x5_1 x6_1 x7_1 = some r) ∧ Aside0 (kq ≤ k) ∧ Aside0 (Kd.R (Kd.int .u64) 40 w' w.heap.size (fun _ => True) v5 x5_1) ∧ Aside0 (Below w.heap.size w w'))
      case atStart => exact ⟨(y121), (0), (0), (by first | rfl | (simp; done) | (simp [*]; done)), (by first | rfl | (simp; done) | (simp [*]; done)), H', ⟨Nat.le_refl _⟩, ⟨by (with_reducible repeat (first | apply Kd.R_alloc | apply Kd.R_drewN | apply Kd.R_drew)); exact HO123.out⟩, ⟨by repeat (first | (with_reducible first | exact HB.out | apply below_alloc | apply pw_below_drewN | apply below_drew1) | exact HB.out)⟩⟩
      case round =>
        clear H'
        try clear p2
        try clear c4
        try clear c4b0
        try clear c4b1
        try clear c5
        try clear c5b0
        try clear c5b1
        try clear c6
        try clear p6
        obtain ⟨x5_1, x6_1, x7_1, rfl, rfl, HA, HK1, HO_5, HB⟩ := hrel
        cases gk with
        | zero => exact absurd HA.out (by simp [spec_natShift.l0])
        | succ k1 =>
          have H := HA.out
          clear HA
          simp only [spec_natShift.l0] at H
          by_cases c8 : x7_1 < (l0.length : Int)
          · rw [if_pos c8] at H
            have c8b0 : decide (x7_1 < (l0.length : Int)) = true := decide_eq_true c8
            clear c8
            by_cases c9 : 0 ≤ x7_1
            · rw [if_pos c9] at H
              have c9b0 : decide (0 ≤ x7_1) = true := decide_eq_true c9
              clear c9
              obtain ⟨ji10, hji10⟩ : ∃ j_ : Int, (Int.tmod a1 32) = j_ := ⟨_, rfl⟩
              replace H : (if 0 ≤ (ji10) then (if x5_1.length < 17592186044416 then (spec_natShift.l0 k1 l0 a1 (x5_1 ++ [Go.bits .and .u64 (Go.bits .or .u64 (shl .u64 (rd l0 x7_1) (ji10)) x6_1) 4294967295]) ((Go.bits .or .u64 (shl .u64 (rd l0 x7_1) (ji10)) x6_1) / 4294967296) (wrap64 (x7_1 + 1))) else (none)) else (none)) = some r := by first | (rw [hji10] at H; exact H) | (simp only [hji10] at H ⊢; exact H)
              by_cases c11 : 0 ≤ (ji10)
              · rw [if_pos c11] at H
                have c11b0 := eq_true c11
                have c11b1 : decide (0 ≤ (ji10)) = true := decide_eq_true c11
                clear c11
                obtain ⟨ji12, hji12⟩ : ∃ j_ : Int, (shl .u64 (rd l0 x7_1) (ji10)) = j_ := ⟨_, rfl⟩
                replace H : (if x5_1.length < 17592186044416 then (spec_natShift.l0 k1 l0 a1 (x5_1 ++ [Go.bits .and .u64 (Go.bits .or .u64 (ji12) x6_1) 4294967295]) ((Go.bits .or .u64 (ji12) x6_1) / 4294967296) (wrap64 (x7_1 + 1))) else (none)) = some r := by first | (rw [hji12] at H; exact H) | (simp only [hji12] at H ⊢; exact H)
                have hji12_ : (IntKind.u64.wrap ((rd l0 x7_1) * 2 ^ min (ji10).toNat 64)) = ji12 := hji12
                have hji12z : (ji10) ≤ 64 → (IntKind.u64.wrap ((rd l0 x7_1) * 2 ^ (ji10).toNat)) = ji12 := shl_small hji12
                by_cases c13 : x5_1.length < 17592186044416
                · rw [if_pos c13] at H
                  have LMc13 := Aside0.mk c13
                  clear c13
                  obtain ⟨y125, hy125⟩ : ∃ y_ : List Int, y_ = (x5_1 ++ [Go.bits .and .u64 (Go.bits .or .u64 (ji12) x6_1) 4294967295]) := ⟨_, rfl⟩
                  replace H : (spec_natShift.l0 k1 l0 a1 y125 ((Go.bits .or .u64 (ji12) x6_1) / 4294967296) (wrap64 (x7_1 + 1))) = some r := by first | (rw [hy125]; with_reducible exact H) | (have H2_ := (Option.bind_some _ _).symm.trans H; rw [hy125]; with_reducible exact H2_) | (have H2_ := (Option.bind_some _ _).symm.trans H; with_reducible exact H2_) | with_reducible exact H | (rw [hy125]; exact H) | exact H
                  have Ny125 := Aside0.mk hy125
                  clear hy125
                  have H' := Aside0.mk H
                  clear H
                  have p124 : 0 ≤ (x7_1 : Int) := of_decide_eq_true (by first | (with_reducible assumption) | assumption)
                  have q124 : x7_1 < (l0.length : Int) := of_decide_eq_true (by first | (with_reducible assumption) | assumption)
                  obtain ⟨ad124, e124, hx124_0⟩ := Kd.at_int HR0.out x7_1 p124 q124
                  cases e124
                  replace hx124_0 := (HB.out.cell (World.block_lt_of_cell? w _ hx124_0)).trans hx124_0
                  replace p124 := eq_true p124
                  replace q124 := eq_true q124
                  go_wp2_with (first | ((with_reducible refine gate_builtin (b := .append) (xs := #[.tmp 27, .tmp 30]) rfl ?_); at_builtin; refine Kd.R_append (Kd.int .u64) (w0 := w) w.heap.size rfl (.tmp 27) (.tmp 30) 55 40 (.int .u64 0) 8 rfl Tryd.underlying55 info40 rfl (by decide) (by omega) u5 x5_1 (Go.bits .and .u64 (Go.bits .or .u64 (ji12) x6_1) 4294967295) [.int .u64 (Go.bits .and .u64 (Go.bits .or .u64 (ji12) x6_1) 4294967295)] (fun _ => True) (fun _ => False) rfl rfl ?aP (fun _ hk => hk.elim) ?aF ?aO ?aB ?aS ?aL ?_; (case aP => exact rfl); (case aB => exact (by repeat (first | (with_reducible first | exact HB.out | apply below_alloc | apply pw_below_drewN | apply below_drew1) | exact HB.out))); (case aF => exact (fun _ _ => trivial)); (case aO => exact (by (with_reducible repeat (first | apply Kd.R_alloc | apply Kd.R_drewN | apply Kd.R_drew)); exact HO_5.out)); (case aS => exact (below_size (by repeat (first | (with_reducible first | exact HB.out | apply below_alloc | apply pw_below_drewN | apply below_drew1) | exact HB.out)))); (case aL => have := LMc13.out; omega); intro v126 w14 ho hb hg hat; rw [← Ny125.out] at ho; have n0_ := Aside0.mk (hb); have n1_ := Aside0.mk (ho); clear HB; clear HO_5; have HB := n0_; have HO127 := n1_; clear n0_ n1_; clear ho hb hg hat))
                  go_roundg k1
                  case measure => have := HK1.out; omega
                  case rel => exact ⟨(y125), ((Go.bits .or .u64 (ji12) x6_1) / 4294967296), (wrap64 (x7_1 + 1)), (by first | rfl | (simp; done) | (simp only [← hji12] <;> (first | rfl | simp)) | (simp [*]; done)), (by first | rfl | (simp; done) | (simp [*]; done)), H', ⟨by have := HK1.out; omega⟩, ⟨by (with_reducible repeat (first | apply Kd.R_alloc | apply Kd.R_drewN | apply Kd.R_drew)); exact HO127.out⟩, ⟨by repeat (first | (with_reducible first | exact HB.out | apply below_alloc | apply pw_below_drewN | apply below_drew1) | exact HB.out)⟩⟩
                · rw [if_neg c13] at H
                  exact absurd H (by simp)
              · rw [if_neg c11] at H
                exact absurd H (by simp)
            · rw [if_neg c9] at H
              exact absurd H (by simp)
          · rw [if_neg c8] at H
            have c8b0 : decide (x7_1 < (l0.length : Int)) = false := decide_eq_false c8
            clear c8
            by_cases c15 : x5_1.length < 17592186044416
            · rw [if_pos c15] at H
              have LMc15 := Aside0.mk c15
              clear c15
              obtain ⟨y128, hy128⟩ : ∃ y_ : List Int, y_ = (x5_1 ++ [x6_1]) := ⟨_, rfl⟩
              replace H : ((spec_natTrim.f k1 y128).bind fun t131 => (some t131)) = some r := by first | (rw [hy128]; with_reducible exact H) | (have H2_ := (Option.bind_some _ _).symm.trans H; rw [hy128]; with_reducible exact H2_) | (have H2_ := (Option.bind_some _ _).symm.trans H; with_reducible exact H2_) | with_reducible exact H | (rw [hy128]; exact H) | exact H
              have Ny128 := Aside0.mk hy128
              clear hy128
              replace H := Option.bind_eq_some_iff.mp H
              obtain ⟨t131, A160, H⟩ := H
              replace H : (some t131) = some r := H
              have A16 := Aside0.mk A160
              clear A160
              obtain rfl := Option.some.inj H
              go_wp2_with (first | ((with_reducible refine gate_builtin (b := .append) (xs := #[.tmp 34, .tmp 36]) rfl ?_); at_builtin; refine Kd.R_append (Kd.int .u64) (w0 := w) w.heap.size rfl (.tmp 34) (.tmp 36) 55 40 (.int .u64 0) 8 rfl Tryd.underlying55 info40 rfl (by decide) (by omega) u5 x5_1 x6_1 [.int .u64 x6_1] (fun _ => True) (fun _ => False) rfl rfl ?aP (fun _ hk => hk.elim) ?aF ?aO ?aB ?aS ?aL ?_; (case aP => exact rfl); (case aB => exact (by repeat (first | (with_reducible first | exact HB.out | apply below_alloc | apply pw_below_drewN | apply below_drew1) | exact HB.out))); (case aF => exact (fun _ _ => trivial)); (case aO => exact (by (with_reducible repeat (first | apply Kd.R_alloc | apply Kd.R_drewN | apply Kd.R_drew)); exact HO_5.out)); (case aS => exact (below_size (by repeat (first | (with_reducible first | exact HB.out | apply below_alloc | apply pw_below_drewN | apply below_drew1) | exact HB.out)))); (case aL => have := LMc15.out; omega); intro v129 w17 ho hb hg hat; rw [← Ny128.out] at ho; have n0_ := Aside0.mk (hb); have n1_ := Aside0.mk (ho); clear HB; clear HO_5; have HB := n0_; have HO130 := n1_; clear n0_ n1_; clear ho hb hg hat; obtain ⟨Ao18, co18, eo18⟩ := Kd.R_slice HO130.out; subst eo18) | ((with_reducible refine gate_callee (f := 68) rfl ?_); refine goesL_ (some 38) rfl rfl Tryd.func68 (by kernel_rfl) rfl #[.slice Ao18 y128.length co18] rfl (by (try simp only [List.map_toArray, List.map_cons, List.map_nil]); first | done | rfl | (simp only [List.length_drop, List.length_take]; rfl)) ?_; (with_reducible refine (spec_natTrim.calls k1 (fun k_ => some k_ = (.slice Ao18 y128.length co18 : Value).ownBlock) (.slice Ao18 y128.length co18) y128 t131 w _ ?side1 ?side2 A16.out).mono ?_); (case side1 => repeat (first | (with_reducible first | exact HB.out | apply below_alloc | apply pw_below_drewN | apply below_drew1) | exact HB.out)); (case side2 => exact Kd.R_tight rfl HO130.out); rintro e w19 ⟨v132, rfl, ho0, hb, hkp⟩; refine ⟨_, rfl, ?_⟩; have n0_ := Aside0.mk (Kd.R_mono (ok' := fun k_ => True) ho0 (fun k_ hk_ => trivial)); have n1_ := Aside0.mk (hb); clear HB; clear HO130; have HO133 := n0_; have HB := n1_; clear n0_ n1_; (try clear hb); (try clear hkp); (try clear ho0)))
              go_ret
              exact ⟨_, by first | rfl | (simp [errW_none, errW_some] <;> rfl) | (simp only [← hji3]; first | rfl | (simp [errW_none, errW_some] <;> rfl)) | (simp [*, errW_none, errW_some] <;> rfl), by (with_reducible repeat (first | apply Kd.R_alloc | apply Kd.R_drewN | apply Kd.R_drew)); exact HO133.out, by repeat (first | (with_reducible first | exact HB.out | apply below_alloc | apply pw_below_drewN | apply below_drew1) | exact HB.out)⟩
            · rw [if_neg c15] at H
              exact absurd H (by simp)
    · rw [if_neg c5] at H
      exact absurd H (by simp)
  · rw [if_neg c4] at H
    exact absurd H (by simp)

/-! ### spec_natBits: function 64 -/
def spec_natBits.l0 : Nat → List Int → Int → Int → Option (Int)
  | 0, _, _, _ => none
  | k + 1, x0, x3, x4 => if x4 > 0 then (spec_natBits.l0 k x0 (wrap64 (x3 + 1)) (x4 / 2)) else (some (wrap64 ((wrap64 (32 * (wrap64 ((x0.length : Int) - 1)))) + x3)))
def spec_natBits.f (k : Nat) (l0 : List Int) : Option (Int) := if (l0.length : Int) = 0 then (some 0) else (if 0 ≤ (wrap64 ((l0.length : Int) - 1)) then (if (wrap64 ((l0.length : Int) - 1)) < (l0.length : Int) then (spec_natBits.l0 k l0 0 (rd l0 (wrap64 ((l0.length : Int) - 1)))) else (none)) else (none))
theorem spec_natBits.mono_l : ∀ k, (∀ y0 y1 y2, LeO (spec_natBits.l0 k y0 y1 y2) (spec_natBits.l0 (k + 1) y0 y1 y2))
  | 0 => fun _ _ _ r h => by simp [spec_natBits.l0] at h
  | k + 1 => by
    have ih0 := spec_natBits.mono_l k
    · intro y0 y1 y2
      unfold spec_natBits.l0
      repeat' first
      | (with_reducible exact ih0 _ _ _)
      | (with_reducible exact LeO.refl _)
      | (with_reducible exact LeO.none _)
      | (with_reducible refine LeO.ite ?_ ?_)
      | (with_reducible refine LeO.bind ?_ (fun _ => ?_))
      | exact ih0 _ _ _
      | exact LeO.none _
      | refine LeO.ite ?_ ?_
      | refine LeO.bind ?_ (fun _ => ?_)
theorem spec_natBits.mono : ∀ a0 k, LeO (spec_natBits.f k a0) (spec_natBits.f (k + 1) a0) := by
  intro a0 k
  have ih0 := spec_natBits.mono_l k
  unfold spec_natBits.f
  repeat' first
      | (with_reducible exact ih0 _ _ _)
      | (with_reducible exact LeO.refl _)
      | (with_reducible exact LeO.none _)
      | (with_reducible refine LeO.ite ?_ ?_)
      | (with_reducible refine LeO.bind ?_ (fun _ => ?_))
      | exact ih0 _ _ _
      | exact LeO.none _
      | refine LeO.ite ?_ ?_
      | refine LeO.bind ?_ (fun _ => ?_)
set_option maxHeartbeats 8000000 in
set_option maxRecDepth 100000 in
theorem spec_natBits.calls (k : Nat) (A0 : Option Addr) (c0 : Nat) (l0 : List Int) (r : Int) (w : World) (hr0 : Kd.C (Kd.int .u64) w A0 l0.length l0) (hc0 : l0.length ≤ c0) (h : spec_natBits.f k l0 = some r) :
    Calls Tryd.prog 64 #[.slice A0 l0.length c0] w fun e w' => e = .returned (.int .i64 r) ∧ Drawn0 w w' := by
  have HR0 := Aside0.mk hr0
  have HC0 := Aside0.mk hc0
  clear hr0 hc0
  have H : (if (l0.length : Int) = 0 then (some 0) else (if 0 ≤ (wrap64 ((l0.length : Int) - 1)) then (if (wrap64 ((l0.length : Int) - 1)) < (l0.length : Int) then (spec_natBits.l0 k l0 0 (rd l0 (wrap64 ((l0.length : Int) - 1)))) else (none)) else (none))) = some r := h
  clear h
  by_cases c2 : (l0.length : Int) = 0
  · rw [if_pos c2] at H
    have c2b0 : ((l0.length : Int) == 0) = true := beq_iff_eq.mpr c2
    have c2b1 : ((l0.length : Int) != 0) = false := bne_eq_false_iff_eq.mpr c2
    clear c2
    obtain rfl := Option.some.inj H
    go_enter Tryd.func64, Tryd.ntmps64
    go_wp2
    go_ret
    exact ⟨by first | rfl | (simp; done) | (simp [*]; done), by repeat (first | exact Drawn0.refl _ | apply Drawn0.step)⟩
  · rw [if_neg c2] at H
    have c2b0 : ((l0.length : Int) == 0) = false := beq_eq_false_iff_ne.mpr c2
    have c2b1 : ((l0.length : Int) != 0) = true := bne_iff_ne.mpr c2
    have c2b2 : ¬ (l0 = []) := fun h_ => c2 (by rw [h_]; rfl)
    obtain ⟨ji3, hji3⟩ : ∃ j_ : Int, (wrap64 ((l0.length : Int) - 1)) = j_ := ⟨_, rfl⟩
    replace H : (if 0 ≤ (ji3) then (if (ji3) < (l0.length : Int) then (spec_natBits.l0 k l0 0 (rd l0 (ji3))) else (none)) else (none)) = some r := by first | (rw [hji3] at H; exact H) | (simp only [hji3] at H ⊢; exact H)
    have hji3w : (IntKind.i64.wrap ((l0.length : Int) - 1)) = ji3 := (i64_w _).trans hji3
    by_cases c4 : 0 ≤ (ji3)
    · rw [if_pos c4] at H
      have c4b0 : decide (0 ≤ (ji3)) = true := decide_eq_true c4
      clear c4
      by_cases c5 : (ji3) < (l0.length : Int)
      · rw [if_pos c5] at H
        have c5b0 : decide ((ji3) < (l0.length : Int)) = true := decide_eq_true c5
        clear c5
        have H' := Aside0.mk H
        clear H
        have p134 : 0 ≤ ((ji3) : Int) := of_decide_eq_true (by first | (with_reducible assumption) | assumption)
        have q134 : (ji3) < (l0.length : Int) := of_decide_eq_true (by first | (with_reducible assumption) | assumption)
        obtain ⟨ad134, e134, hx134_0⟩ := Kd.at_int HR0.out (ji3) p134 q134
        cases e134
        replace p134 := eq_true p134
        replace q134 := eq_true q134
        go_enter Tryd.func64, Tryd.ntmps64
        go_wp2
        go_loopg [3, 4] k (fun kq v3 v4 w' => ∃ (x3_1 : Int) (x4_1 : Int), v3 = .int .i64 x3_1 ∧ v4 = .int .u64 x4_1 ∧ Aside0 (spec_natBits.l0 kq l0 x3_1 x4_1 = some r) ∧ Aside0 (kq ≤ k) ∧ Drawn0 w w')
        case atStart => exact ⟨(0), (rd l0 (ji3)), (by first | rfl | (simp; done) | (simp [*]; done)), (by first | rfl | (simp; done) | (simp only [← hji3] <;> (first | rfl | simp)) | (simp [*]; done)), H', ⟨Nat.le_refl _⟩, by repeat (first | exact Drawn0.refl _ | apply Drawn0.step)⟩
        case round =>
          clear H'
          try clear p1
          try clear q1
          try clear hx1
          try clear c2
          try clear c2b0
          try clear c2b1
          try clear c2b2
          try clear p2
          try clear c4
          try clear c4b0
          try clear c5
          try clear c5b0
          try clear hx134_0
          try clear p134
          try clear q134
          obtain ⟨x3_1, x4_1, rfl, rfl, HA, HK1, ⟨m1, rfl⟩⟩ := hrel
          cases gk with
          | zero => exact absurd HA.out (by simp [spec_natBits.l0])
          | succ k1 =>
            have H := HA.out
            clear HA
            simp only [spec_natBits.l0] at H
            by_cases c6 : x4_1 > 0
            · rw [if_pos c6] at H
              have c6b0 : decide (0 < x4_1) = true := decide_eq_true c6
              clear c6
              have H' := Aside0.mk H
              clear H
              go_wp2
              go_roundg k1
              case measure => have := HK1.out; omega
              case rel => exact ⟨(wrap64 (x3_1 + 1)), (x4_1 / 2), (by first | rfl | (simp; done) | (simp [*]; done)), (by first | rfl | (simp; done) | (simp [*]; done)), H', ⟨by have := HK1.out; omega⟩, by repeat (first | exact Drawn0.refl _ | apply Drawn0.step)⟩
            · rw [if_neg c6] at H
              have c6b0 : decide (0 < x4_1) = false := decide_eq_false c6
              clear c6
              obtain rfl := Option.some.inj H
              go_wp2
              go_ret
              exact ⟨by first | rfl | (simp; done) | (simp only [← hji3] <;> (first | rfl | simp)) | (simp [*]; done), by repeat (first | exact Drawn0.refl _ | apply Drawn0.step)⟩
      · rw [if_neg c5] at H
        exact absurd H (by simp)
    · rw [if_neg c4] at H
      exact absurd H (by simp)

/-! ### spec_natCmp: function 67 -/
def spec_natCmp.l0 : Nat → List Int → List Int → Int → Option (Int)
  | 0, _, _, _ => none
  | k + 1, x0, x1, x5 => if x5 ≥ 0 then (if 0 ≤ x5 then (if x5 < (x0.length : Int) then (if x5 < (x1.length : Int) then (if (rd x0 x5) = (rd x1 x5) then (spec_natCmp.l0 k x0 x1 (wrap64 (x5 - 1))) else (if (rd x0 x5) < (rd x1 x5) then (some (-1)) else (some 1))) else (none)) else (none)) else (none)) else (some 0)
def spec_natCmp.f (k : Nat) (l0 : List Int) (l1 : List Int) : Option (Int) := if (l0.length : Int) = (l1.length : Int) then (spec_natCmp.l0 k l0 l1 (wrap64 ((l0.length : Int) - 1))) else (if (l0.length : Int) < (l1.length : Int) then (some (-1)) else (some 1))
theorem spec_natCmp.mono_l : ∀ k, (∀ y0 y1 y2, LeO (spec_natCmp.l0 k y0 y1 y2) (spec_natCmp.l0 (k + 1) y0 y1 y2))
  | 0 => fun _ _ _ r h => by simp [spec_natCmp.l0] at h
  | k + 1 => by
    have ih0 := spec_natCmp.mono_l k
    · intro y0 y1 y2
      unfold spec_natCmp.l0
      repeat' first
      | (with_reducible exact ih0 _ _ _)
      | (with_reducible exact LeO.refl _)
      | (with_reducible exact LeO.none _)
      | (with_reducible refine LeO.ite ?_ ?_)
      | (with_reducible refine LeO.bind ?_ (fun _ => ?_))
      | exact ih0 _ _ _
      | exact LeO.none _
      | refine LeO.ite ?_ ?_
      | refine LeO.bind ?_ (fun _ => ?_)
theorem spec_natCmp.mono : ∀ a0 a1 k, LeO (spec_natCmp.f k a0 a1) (spec_natCmp.f (k + 1) a0 a1) := by
  intro a0 a1 k
  have ih0 := spec_natCmp.mono_l k
  unfold spec_natCmp.f
  repeat' first
      | (with_reducible exact ih0 _ _ _)
      | (with_reducible exact LeO.refl _)
      | (with_reducible exact LeO.none _)
      | (with_reducible refine LeO.ite ?_ ?_)
      | (with_reducible refine LeO.bind ?_ (fun _ => ?_))
      | exact ih0 _ _ _
      | exact LeO.none _
      | refine LeO.ite ?_ ?_
      | refine LeO.bind ?_ (fun _ => ?_)
set_option maxHeartbeats 8000000 in
set_option maxRecDepth 100000 in
theorem spec_natCmp.calls (k : Nat) (A0 : Option Addr) (c0 : Nat) (l0 : List Int) (A1 : Option Addr) (c1 : Nat) (l1 : List Int) (r : Int) (w : World) (hr0 : Kd.C (Kd.int .u64) w A0 l0.length l0) (hc0 : l0.length ≤ c0) (hr1 : Kd.C (Kd.int .u64) w A1 l1.length l1) (hc1 : l1.length ≤ c1) (h : spec_natCmp.f k l0 l1 = some r) :
    Calls Tryd.prog 67 #[.slice A0 l0.length c0, .slice A1 l1.length c1] w fun e w' => e = .returned (.int .i64 r) ∧ Drawn0 w w' := by
  have HR0 := Aside0.mk hr0
  have HC0 := Aside0.mk hc0
  clear hr0 hc0
  have HR1 := Aside0.mk hr1
  have HC1 := Aside0.mk hc1
  clear hr1 hc1
  have H : (if (l0.length : Int) = (l1.length : Int) then (spec_natCmp.l0 k l0 l1 (wrap64 ((l0.length : Int) - 1))) else (if (l0.length : Int) < (l1.length : Int) then (some (-1)) else (some 1))) = some r := h
  clear h
  by_cases c3 : (l0.length : Int) = (l1.length : Int)
  · rw [if_pos c3] at H
    have c3b0 : ((l0.length : Int) == (l1.length : Int)) = true := beq_iff_eq.mpr c3
    have c3b1 : ((l0.length : Int) != (l1.length : Int)) = false := bne_eq_false_iff_eq.mpr c3
    have c3b2 : (l0.length == l1.length) = true := by first | simpa using c3 | (simp at c3 ⊢; omega)
    clear c3
    have H' := Aside0.mk H
    clear H
    go_enter Tryd.func67, Tryd.ntmps67
    go_wp2
    repeat (go_quiet (fail); try go_wp2)
    go_loopg [5] k (fun kq v5 w' => ∃ (x5_1 : Int), v5 = .int .i64 x5_1 ∧ Aside0 (spec_natCmp.l0 kq l0 l1 x5_1 = some r) ∧ Aside0 (kq ≤ k) ∧ Drawn0 w w')
    case atStart => exact ⟨(wrap64 ((l0.length : Int) - 1)), (by first | rfl | (simp; done) | (simp [*]; done)), H', ⟨Nat.le_refl _⟩, by repeat (first | exact Drawn0.refl _ | apply Drawn0.step)⟩
    case round =>
      clear H'
      try clear c1
      try clear p2
      try clear c3
      try clear c3b0
      try clear c3b1
      try clear c3b2
      obtain ⟨x5_1, rfl, HA, HK1, ⟨m1, rfl⟩⟩ := hrel
      cases gk with
      | zero => exact absurd HA.out (by simp [spec_natCmp.l0])
      | succ k1 =>
        have H := HA.out
        clear HA
        simp only [spec_natCmp.l0] at H
        by_cases c4 : x5_1 ≥ 0
        · rw [if_pos c4] at H
          have c4b0 : decide (0 ≤ x5_1) = true := decide_eq_true c4
          clear c4
          by_cases c5 : 0 ≤ x5_1
          · rw [if_pos c5] at H
            have c5b0 : decide (0 ≤ x5_1) = true := decide_eq_true c5
            clear c5
            by_cases c6 : x5_1 < (l0.length : Int)
            · rw [if_pos c6] at H
              have c6b0 : decide (x5_1 < (l0.length : Int)) = true := decide_eq_true c6
              clear c6
              by_cases c7 : x5_1 < (l1.length : Int)
              · rw [if_pos c7] at H
                have c7b0 : decide (x5_1 < (l1.length : Int)) = true := decide_eq_true c7
                clear c7
                by_cases c8 : (rd l0 x5_1) = (rd l1 x5_1)
                · rw [if_pos c8] at H
                  have c8b0 : ((rd l0 x5_1) == (rd l1 x5_1)) = true := beq_iff_eq.mpr c8
                  have c8b1 : ((rd l0 x5_1) != (rd l1 x5_1)) = false := bne_eq_false_iff_eq.mpr c8
                  clear c8
                  have H' := Aside0.mk H
                  clear H
                  have p135 : 0 ≤ (x5_1 : Int) := of_decide_eq_true (by first | (with_reducible assumption) | assumption)
                  have q135 : x5_1 < (l0.length : Int) := of_decide_eq_true (by first | (with_reducible assumption) | assumption)
                  obtain ⟨ad135, e135, hx135_0⟩ := Kd.at_int HR0.out x5_1 p135 q135
                  cases e135
                  replace p135 := eq_true p135
                  replace q135 := eq_true q135
                  have p136 : 0 ≤ (x5_1 : Int) := of_decide_eq_true (by first | (with_reducible assumption) | assumption)
                  have q136 : x5_1 < (l1.length : Int) := of_decide_eq_true (by first | (with_reducible assumption) | assumption)
                  obtain ⟨ad136, e136, hx136_0⟩ := Kd.at_int HR1.out x5_1 p136 q136
                  cases e136
                  replace p136 := eq_true p136
                  replace q136 := eq_true q136
                  go_wp2
                  repeat (go_quiet (fail); try go_wp2)
                  go_roundg k1
                  case measure => have := HK1.out; omega
                  case rel => exact ⟨(wrap64 (x5_1 - 1)), (by first | rfl | (simp; done) | (simp [*]; done)), H', ⟨by have := HK1.out; omega⟩, by repeat (first | exact Drawn0.refl _ | apply Drawn0.step)⟩
                · rw [if_neg c8] at H
                  have c8b0 : ((rd l0 x5_1) == (rd l1 x5_1)) = false := beq_eq_false_iff_ne.mpr c8
                  have c8b1 : ((rd l0 x5_1) != (rd l1 x5_1)) = true := bne_iff_ne.mpr c8
                  by_cases c9 : (rd l0 x5_1) < (rd l1 x5_1)
                  · rw [if_pos c9] at H
                    have c9b0 : decide ((rd l0 x5_1) < (rd l1 x5_1)) = true := decide_eq_true c9
                    clear c9
                    obtain rfl := Option.some.inj H
                    have p135 : 0 ≤ (x5_1 : Int) := of_decide_eq_true (by first | (with_reducible assumption) | assumption)
                    have q135 : x5_1 < (l0.length : Int) := of_decide_eq_true (by first | (with_reducible assumption) | assumption)
                    obtain ⟨ad135, e135, hx135_0⟩ := Kd.at_int HR0.out x5_1 p135 q135
                    cases e135
                    replace p135 := eq_true p135
                    replace q135 := eq_true q135
                    have p136 : 0 ≤ (x5_1 : Int) := of_decide_eq_true (by first | (with_reducible assumption) | assumption)
                    have q136 : x5_1 < (l1.length : Int) := of_decide_eq_true (by first | (with_reducible assumption) | assumption)
                    obtain ⟨ad136, e136, hx136_0⟩ := Kd.at_int HR1.out x5_1 p136 q136
                    cases e136
                    replace p136 := eq_true p136
                    replace q136 := eq_true q136
                    have p137 : 0 ≤ (x5_1 : Int) := of_decide_eq_true (by first | (with_reducible assumption) | assumption)
                    have q137 : x5_1 < (l0.length : Int) := of_decide_eq_true (by first | (with_reducible assumption) | assumption)
                    obtain ⟨ad137, e137, hx137_0⟩ := Kd.at_int HR0.out x5_1 p137 q137
                    obtain rfl : ad135 = ad137 := (by injection e137)
                    replace p137 := eq_true p137
                    replace q137 := eq_true q137
                    have p138 : 0 ≤ (x5_1 : Int) := of_decide_eq_true (by first | (with_reducible assumption) | assumption)
                    have q138 : x5_1 < (l1.length : Int) := of_decide_eq_true (by first | (with_reducible assumption) | assumption)
                    obtain ⟨ad138, e138, hx138_0⟩ := Kd.at_int HR1.out x5_1 p138 q138
                    obtain rfl : ad136 = ad138 := (by injection e138)
                    replace p138 := eq_true p138
                    replace q138 := eq_true q138
                    go_wp2
                    repeat (go_quiet (fail); try go_wp2)
                    go_ret
                    exact ⟨by first | rfl | (simp; done) | (simp [*]; done), by repeat (first | exact Drawn0.refl _ | apply Drawn0.step)⟩
                  · rw [if_neg c9] at H
                    have c9b0 : decide ((rd l0 x5_1) < (rd l1 x5_1)) = false := decide_eq_false c9
                    clear c9
                    obtain rfl := Option.some.inj H
                    have p135 : 0 ≤ (x5_1 : Int) := of_decide_eq_true (by first | (with_reducible assumption) | assumption)
                    have q135 : x5_1 < (l0.length : Int) := of_decide_eq_true (by first | (with_reducible assumption) | assumption)
                    obtain ⟨ad135, e135, hx135_0⟩ := Kd.at_int HR0.out x5_1 p135 q135
                    cases e135
                    replace p135 := eq_true p135
                    replace q135 := eq_true q135
                    have p136 : 0 ≤ (x5_1 : Int) := of_decide_eq_true (by first | (with_reducible assumption) | assumption)
                    have q136 : x5_1 < (l1.length : Int) := of_decide_eq_true (by first | (with_reducible assumption) | assumption)
                    obtain ⟨ad136, e136, hx136_0⟩ := Kd.at_int HR1.out x5_1 p136 q136
                    cases e136
                    replace p136 := eq_true p136
                    replace q136 := eq_true q136
                    have p137 : 0 ≤ (x5_1 : Int) := of_decide_eq_true (by first | (with_reducible assumption) | assumption)
                    have q137 : x5_1 < (l0.length : Int) := of_decide_eq_true (by first | (with_reducible assumption) | assumption)
                    obtain ⟨ad137, e137, hx137_0⟩ := Kd.at_int HR0.out x5_1 p137 q137
                    obtain rfl : ad135 = ad137 := (by injection e137)
                    replace p137 := eq_true p137
                    replace q137 := eq_true q137
                    have p138 : 0 ≤ (x5_1 : Int) := of_decide_eq_true (by first | (with_reducible assumption) | assumption)
                    have q138 : x5_1 < (l1.length : Int) := of_decide_eq_true (by first | (with_reducible assumption) | assumption)
                    obtain ⟨ad138, e138, hx138_0⟩ := Kd.at_int HR1.out x5_1 p138 q138
                    obtain rfl : ad136 = ad138 := (by injection e138)
                    replace p138 := eq_true p138
                    replace q138 := eq_true q138
                    go_wp2
                    repeat (go_quiet (fail); try go_wp2)
                    go_ret
                    exact ⟨by first | rfl | (simp; done) | (simp [*]; done), by repeat (first | exact Drawn0.refl _ | apply Drawn0.step)⟩
              · rw [if_neg c7] at H
                exact absurd H (by simp)
            · rw [if_neg c6] at H
              exact absurd H (by simp)
          · rw [if_neg c5] at H
            exact absurd H (by simp)
        · rw [if_neg c4] at H
          have c4b0 : decide (0 ≤ x5_1) = false := decide_eq_false c4
          clear c4
          obtain rfl := Option.some.inj H
          go_wp2
          repeat (go_quiet (fail); try go_wp2)
          go_ret
          exact ⟨by first | rfl | (simp; done) | (simp [*]; done), by repeat (first | exact Drawn0.refl _ | apply Drawn0.step)⟩
  · rw [if_neg c3] at H
    have c3b0 : ((l0.length : Int) == (l1.length : Int)) = false := beq_eq_false_iff_ne.mpr c3
    have c3b1 : ((l0.length : Int) != (l1.length : Int)) = true := bne_iff_ne.mpr c3
    have c3b2 : (l0.length == l1.length) = false := by first | simpa using c3 | (simp at c3 ⊢; omega)
    by_cases c10 : (l0.length : Int) < (l1.length : Int)
    · rw [if_pos c10] at H
      have c10b0 : decide ((l0.length : Int) < (l1.length : Int)) = true := decide_eq_true c10
      have c10b1 : decide (l0.length < l1.length) = true := decide_eq_true (Int.ofNat_lt.mp c10)
      clear c10
      obtain rfl := Option.some.inj H
      go_enter Tryd.func67, Tryd.ntmps67
      go_wp2
      repeat (go_quiet (fail); try go_wp2)
      go_ret
      exact ⟨by first | rfl | (simp; done) | (simp [*]; done), by repeat (first | exact Drawn0.refl _ | apply Drawn0.step)⟩
    · rw [if_neg c10] at H
      have c10b0 : decide ((l0.length : Int) < (l1.length : Int)) = false := decide_eq_false c10
      have c10b1 : decide (l0.length < l1.length) = false := decide_eq_false (fun h => c10 (Int.ofNat_lt.mpr h))
      clear c10
      obtain rfl := Option.some.inj H
      go_enter Tryd.func67, Tryd.ntmps67
      go_wp2
      repeat (go_quiet (fail); try go_wp2)
      go_ret
      exact ⟨by first | rfl | (simp; done) | (simp [*]; done), by repeat (first | exact Drawn0.refl _ | apply Drawn0.step)⟩

end Go.Proofs.YtheichpmhfledaaDoor.PNumberText
