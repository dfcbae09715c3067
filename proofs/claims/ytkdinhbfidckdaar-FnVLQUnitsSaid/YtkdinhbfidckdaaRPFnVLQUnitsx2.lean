-- Written by printx.py of this session, over the kit's print, with contracts of this session for some functions
import Derived.Test.YtkdinhbfidckdaaRPFnVLQUnitsx0
import Derived.Test.YtkdinhbfidckdaaRPFnVLQUnitsx1
namespace Go.Proofs.YtkdinhbfidckdaaR.PFnVLQUnits
open Go.RowKit Go.Proofs.YtkdinhbfidckdaaRW.PrintWords Go.Proofs.YtkdinhbfidckdaaRW.PrintLast Go.Proofs.YtkdinhbfidckdaaRW.PrintMore
attribute [local go_sem] max2_int min2_int max_two min_two max_three min_three max_four min_four   -- for this text's walks alone
set_option linter.unusedVariables false
set_option linter.unusedSimpArgs false

/-! ### laws_FnVLQUnits: function 9 -/
mutual
def laws_FnVLQUnits.l0 : Nat → List Int → ByteArray → Bool → Int → Option (Bool)
  | 0, _, _, _, _ => none
  | k + 1, x0, x3, x4, x5 => if x5 < (x0.length : Int) then (laws_FnVLQUnits.j1 k x0 x3 x5 (!x4)) else (laws_FnVLQUnits.j1 k x0 x3 x5 false)
def laws_FnVLQUnits.j1 : Nat → List Int → ByteArray → Int → Bool → Option (Bool)
  | 0, _, _, _, _ => none
  | k + 1, x0, x3, x5, x28 => if x28 = true then (if 0 ≤ x5 then (if x5 < (x0.length : Int) then (if (rd x0 x5) > 255 then (some true) else (if ((rd x0 x5) ≥ 128) then (laws_FnVLQUnits.l0 k x0 x3 (decide ((rd x0 x5) ≥ 128)) (wrap64 (x5 + 1))) else ((some (([(rd x0 x5) % 256] : List Int) : List Int)).bind fun y106 => (if x3.size + (strOfNums y106).size ≤ 9223372036854775807 then (laws_FnVLQUnits.l0 k x0 (x3 ++ (strOfNums y106)) (decide ((rd x0 x5) ≥ 128)) (wrap64 (x5 + 1))) else (none))))) else (none)) else (none)) else ((impl_DecodeVLQ16.f k x0).bind fun bt109 => ((spec_VLQ.f k x3 0).bind fun bt112 => (if bt112.2.2 = true then (if bt112.1 ≥ 1073741824 then (laws_FnVLQUnits.j2 k x3 bt109.1 bt109.2.1 bt109.2.2 bt112.1 bt112.2.1 bt112.2.2 true) else (laws_FnVLQUnits.j2 k x3 bt109.1 bt109.2.1 bt109.2.2 bt112.1 bt112.2.1 bt112.2.2 (decide (bt112.1 ≤ (-1073741824))))) else (laws_FnVLQUnits.j2 k x3 bt109.1 bt109.2.1 bt109.2.2 bt112.1 bt112.2.1 bt112.2.2 false))))
def laws_FnVLQUnits.j2 : Nat → ByteArray → Int → Int → Bool → Int → Int → Bool → Bool → Option (Bool)
  | 0, _, _, _, _, _, _, _, _ => none
  | k + 1, x3, x6, x7, x8, x9, x10, x11, x64 => if x64 = true then (some true) else (if x11 = true then (if x8 = true then (if (wrap64 (x6)) = x9 then (some (x7 == x10)) else (some false)) else (some false)) else ((spec_Unfinished.f k x3).bind fun t115 => (if t115 = true then ((impl_DecodeVLQ16.f k (([67] : List Int))).bind fun bt119 => (if x8 = true then (some false) else (some bt119.2.2))) else (some true))))
end
def laws_FnVLQUnits.f (k : Nat) (l0 : List Int) : Option (Bool) := if (l0.length : Int) > 2147483647 then (some true) else (if (l0.length : Int) > 65536 then (some true) else (laws_FnVLQUnits.l0 k l0 (⟨#[]⟩ : ByteArray) false 0))
theorem laws_FnVLQUnits.mono_l : ∀ k, (∀ y0 y1 y2 y3, LeO (laws_FnVLQUnits.l0 k y0 y1 y2 y3) (laws_FnVLQUnits.l0 (k + 1) y0 y1 y2 y3)) ∧ (∀ y0 y1 y2 y3, LeO (laws_FnVLQUnits.j1 k y0 y1 y2 y3) (laws_FnVLQUnits.j1 (k + 1) y0 y1 y2 y3)) ∧ (∀ y0 y1 y2 y3 y4 y5 y6 y7, LeO (laws_FnVLQUnits.j2 k y0 y1 y2 y3 y4 y5 y6 y7) (laws_FnVLQUnits.j2 (k + 1) y0 y1 y2 y3 y4 y5 y6 y7))
  | 0 => ⟨fun _ _ _ _ r h => by simp [laws_FnVLQUnits.l0] at h, fun _ _ _ _ r h => by simp [laws_FnVLQUnits.j1] at h, fun _ _ _ _ _ _ _ _ r h => by simp [laws_FnVLQUnits.j2] at h⟩
  | k + 1 => by
    obtain ⟨ih0, ih1, ih2⟩ := laws_FnVLQUnits.mono_l k
    refine ⟨?_, ?_, ?_⟩
    · intro y0 y1 y2 y3
      unfold laws_FnVLQUnits.l0
      repeat' first
      | (with_reducible exact ih0 _ _ _ _)
      | (with_reducible exact ih1 _ _ _ _)
      | (with_reducible exact ih2 _ _ _ _ _ _ _ _)
      | (with_reducible exact impl_DecodeVLQ16.mono _ _)
      | (with_reducible exact spec_Unfinished.mono _ _)
      | (with_reducible exact spec_VLQ.mono _ _ _)
      | (with_reducible exact LeO.refl _)
      | (with_reducible exact LeO.none _)
      | (with_reducible refine LeO.ite ?_ ?_)
      | (with_reducible refine LeO.bind ?_ (fun _ => ?_))
      | exact ih0 _ _ _ _
      | exact ih1 _ _ _ _
      | exact ih2 _ _ _ _ _ _ _ _
      | exact impl_DecodeVLQ16.mono _ _
      | exact spec_Unfinished.mono _ _
      | exact spec_VLQ.mono _ _ _
      | exact LeO.none _
      | refine LeO.ite ?_ ?_
      | refine LeO.bind ?_ (fun _ => ?_)
    · intro y0 y1 y2 y3
      unfold laws_FnVLQUnits.j1
      repeat' first
      | (with_reducible exact ih0 _ _ _ _)
      | (with_reducible exact ih1 _ _ _ _)
      | (with_reducible exact ih2 _ _ _ _ _ _ _ _)
      | (with_reducible exact impl_DecodeVLQ16.mono _ _)
      | (with_reducible exact spec_Unfinished.mono _ _)
      | (with_reducible exact spec_VLQ.mono _ _ _)
      | (with_reducible exact LeO.refl _)
      | (with_reducible exact LeO.none _)
      | (with_reducible refine LeO.ite ?_ ?_)
      | (with_reducible refine LeO.bind ?_ (fun _ => ?_))
      | exact ih0 _ _ _ _
      | exact ih1 _ _ _ _
      | exact ih2 _ _ _ _ _ _ _ _
      | exact impl_DecodeVLQ16.mono _ _
      | exact spec_Unfinished.mono _ _
      | exact spec_VLQ.mono _ _ _
      | exact LeO.none _
      | refine LeO.ite ?_ ?_
      | refine LeO.bind ?_ (fun _ => ?_)
    · intro y0 y1 y2 y3 y4 y5 y6 y7
      unfold laws_FnVLQUnits.j2
      repeat' first
      | (with_reducible exact ih0 _ _ _ _)
      | (with_reducible exact ih1 _ _ _ _)
      | (with_reducible exact ih2 _ _ _ _ _ _ _ _)
      | (with_reducible exact impl_DecodeVLQ16.mono _ _)
      | (with_reducible exact spec_Unfinished.mono _ _)
      | (with_reducible exact spec_VLQ.mono _ _ _)
      | (with_reducible exact LeO.refl _)
      | (with_reducible exact LeO.none _)
      | (with_reducible refine LeO.ite ?_ ?_)
      | (with_reducible refine LeO.bind ?_ (fun _ => ?_))
      | exact ih0 _ _ _ _
      | exact ih1 _ _ _ _
      | exact ih2 _ _ _ _ _ _ _ _
      | exact impl_DecodeVLQ16.mono _ _
      | exact spec_Unfinished.mono _ _
      | exact spec_VLQ.mono _ _ _
      | exact LeO.none _
      | refine LeO.ite ?_ ?_
      | refine LeO.bind ?_ (fun _ => ?_)
theorem laws_FnVLQUnits.mono : ∀ a0 k, LeO (laws_FnVLQUnits.f k a0) (laws_FnVLQUnits.f (k + 1) a0) := by
  intro a0 k
  obtain ⟨ih0, ih1, ih2⟩ := laws_FnVLQUnits.mono_l k
  unfold laws_FnVLQUnits.f
  repeat' first
      | (with_reducible exact ih0 _ _ _ _)
      | (with_reducible exact ih1 _ _ _ _)
      | (with_reducible exact ih2 _ _ _ _ _ _ _ _)
      | (with_reducible exact impl_DecodeVLQ16.mono _ _)
      | (with_reducible exact spec_Unfinished.mono _ _)
      | (with_reducible exact spec_VLQ.mono _ _ _)
      | (with_reducible exact LeO.refl _)
      | (with_reducible exact LeO.none _)
      | (with_reducible refine LeO.ite ?_ ?_)
      | (with_reducible refine LeO.bind ?_ (fun _ => ?_))
      | exact ih0 _ _ _ _
      | exact ih1 _ _ _ _
      | exact ih2 _ _ _ _ _ _ _ _
      | exact impl_DecodeVLQ16.mono _ _
      | exact spec_Unfinished.mono _ _
      | exact spec_VLQ.mono _ _ _
      | exact LeO.none _
      | refine LeO.ite ?_ ?_
      | refine LeO.bind ?_ (fun _ => ?_)
set_option maxHeartbeats 8000000 in
set_option maxRecDepth 100000 in
theorem laws_FnVLQUnits.calls (k : Nat) (A0 : Option Addr) (c0 : Nat) (l0 : List Int) (r : Bool) (w : World) (hr0 : Kd.C (Kd.int .u16) w A0 l0.length l0) (hc0 : l0.length ≤ c0) (h : laws_FnVLQUnits.f k l0 = some r) :
    Calls Try.prog 9 #[.slice A0 l0.length c0] w fun e w' => e = .returned (.bool r) ∧ Below w.heap.size w w' := by
  have HR0 := Aside0.mk hr0
  have HC0 := Aside0.mk hc0
  clear hr0 hc0
  have HB := Aside0.mk (Below.refl w.heap.size w)
  have H : (if (l0.length : Int) > 2147483647 then (some true) else (if (l0.length : Int) > 65536 then (some true) else (laws_FnVLQUnits.l0 k l0 (⟨#[]⟩ : ByteArray) false 0))) = some r := h
  clear h
  by_cases c2 : (l0.length : Int) > 2147483647
  · rw [if_pos c2] at H
    have c2b0 : decide (2147483647 < (l0.length : Int)) = true := decide_eq_true c2
    have c2b1 : decide (2147483647 < l0.length) = true := decide_eq_true (by omega)
    clear c2
    obtain rfl := Option.some.inj H
    go_enter Try.func9, Try.ntmps9
    go_wp2
    go_ret
    exact ⟨by first | rfl | (simp [errW_none, errW_some] <;> rfl) | (simp [*, errW_none, errW_some] <;> rfl), by repeat (first | (with_reducible first | exact HB.out | apply below_alloc | apply pw_below_drewN | apply below_drew1) | exact HB.out)⟩
  · rw [if_neg c2] at H
    have c2b0 : decide (2147483647 < (l0.length : Int)) = false := decide_eq_false c2
    have c2b1 : decide (2147483647 < l0.length) = false := decide_eq_false (by omega)
    clear c2
    by_cases c3 : (l0.length : Int) > 65536
    · rw [if_pos c3] at H
      have c3b0 : decide (65536 < (l0.length : Int)) = true := decide_eq_true c3
      have c3b1 : decide (65536 < l0.length) = true := decide_eq_true (by omega)
      clear c3
      obtain rfl := Option.some.inj H
      go_enter Try.func9, Try.ntmps9
      go_wp2
      go_ret
      exact ⟨by first | rfl | (simp [errW_none, errW_some] <;> rfl) | (simp [*, errW_none, errW_some] <;> rfl), by repeat (first | (with_reducible first | exact HB.out | apply below_alloc | apply pw_below_drewN | apply below_drew1) | exact HB.out)⟩
    · rw [if_neg c3] at H
      have c3b0 : decide (65536 < (l0.length : Int)) = false := decide_eq_false c3
      have c3b1 : decide (65536 < l0.length) = false := decide_eq_false (by omega)
      clear c3
      have H' := Aside0.mk H
      clear H
      go_enter Try.func9, Try.ntmps9
      go_wp2
      go_loopg [3, 4, 5] k (fun kq v3 v4 v5 w' => ∃ (x3_1 : ByteArray) (x4_1 : Bool) (x5_1 : Int), v3 = .string x3_1 ∧ v4 = .bool x4_1 ∧ v5 = .int .i64 x5_1 ∧ Aside0 (laws_FnVLQUnits.l0 kq l0 x3_1 x4_1 x5_1 = some r) ∧ Aside0 (kq ≤ k) ∧ Aside0 (Below w.heap.size w w'))
      case atStart => exact ⟨((⟨#[]⟩ : ByteArray)), (false), (0), (by first | rfl | (simp; done) | (simp [*]; done)), (by first | rfl | (simp; done) | (simp [*]; done)), (by first | rfl | (simp; done) | (simp [*]; done)), H', ⟨Nat.le_refl _⟩, ⟨by repeat (first | (with_reducible first | exact HB.out | apply below_alloc | apply pw_below_drewN | apply below_drew1) | exact HB.out)⟩⟩
      case round =>
        clear H'
        try clear c2
        try clear c2b0
        try clear c2b1
        try clear p2
        try clear c3
        try clear c3b0
        try clear c3b1
        obtain ⟨x3_1, x4_1, x5_1, rfl, rfl, rfl, HA, HK1, HB⟩ := hrel
        cases gk with
        | zero => exact absurd HA.out (by simp [laws_FnVLQUnits.l0])
        | succ k1 =>
          have H := HA.out
          clear HA
          simp only [laws_FnVLQUnits.l0] at H
          have HC4 := Aside0.mk H
          clear H
          go_upto_region 7 with (fail)
          go_cut [28] (fun v28 wc => ∃ (kq : Nat) (x28_3 : Bool), v28 = .bool x28_3 ∧ Aside0 (laws_FnVLQUnits.j1 kq l0 x3_1 x5_1 x28_3 = some r) ∧ Aside0 (kq ≤ k1) ∧ Aside0 (Below w.heap.size w wc))
          case first =>
            have H := HC4.out
            clear HC4
            by_cases c5 : x5_1 < (l0.length : Int)
            · rw [if_pos c5] at H
              have c5b0 : decide (x5_1 < (l0.length : Int)) = true := decide_eq_true c5
              clear c5
              (first | rw [c5b0] | (simp only [i64_w, i32_w]; rw [c5b0]) | skip)
              have H' := Aside0.mk H
              clear H
              go_wp2
              go_meet
              case rel => exact ⟨_, (!x4_1), (by first | rfl | (simp; done) | (simp [*]; done)), H', ⟨by have := HK1.out; first | omega | exact Nat.le_refl _⟩, ⟨by repeat (first | (with_reducible first | exact HB.out | apply below_alloc | apply pw_below_drewN | apply below_drew1) | exact HB.out)⟩⟩
            · rw [if_neg c5] at H
              have c5b0 : decide (x5_1 < (l0.length : Int)) = false := decide_eq_false c5
              clear c5
              (first | rw [c5b0] | (simp only [i64_w, i32_w]; rw [c5b0]) | skip)
              have H' := Aside0.mk H
              clear H
              go_wp2
              go_meet
              case rel => exact ⟨_, (false), (by first | rfl | (simp; done) | (simp [*]; done)), H', ⟨by have := HK1.out; first | omega | exact Nat.le_refl _⟩, ⟨by repeat (first | (with_reducible first | exact HB.out | apply below_alloc | apply pw_below_drewN | apply below_drew1) | exact HB.out)⟩⟩
          case rest =>
            clear HC4
            try clear c2
            try clear c2b0
            try clear c2b1
            try clear p2
            try clear c3
            try clear c3b0
            try clear c3b1
            try clear c5
            try clear c5b0
            try clear p2
            obtain ⟨kq, x28_3, rfl, HA, HJ3, HB⟩ := hcut
            cases kq with
            | zero => exact absurd HA.out (by simp [laws_FnVLQUnits.j1])
            | succ kj3 =>
              have H := HA.out
              clear HA
              simp only [laws_FnVLQUnits.j1] at H
              by_cases c6 : x28_3 = true
              · subst c6
                have H1 : (if 0 ≤ x5_1 then (if x5_1 < (l0.length : Int) then (if (rd l0 x5_1) > 255 then (some true) else (if ((rd l0 x5_1) ≥ 128) then (laws_FnVLQUnits.l0 kj3 l0 x3_1 (decide ((rd l0 x5_1) ≥ 128)) (wrap64 (x5_1 + 1))) else ((some (([(rd l0 x5_1) % 256] : List Int) : List Int)).bind fun y106 => (if x3_1.size + (strOfNums y106).size ≤ 9223372036854775807 then (laws_FnVLQUnits.l0 kj3 l0 (x3_1 ++ (strOfNums y106)) (decide ((rd l0 x5_1) ≥ 128)) (wrap64 (x5_1 + 1))) else (none))))) else (none)) else (none)) = some r := by rw [if_pos rfl] at H; exact H
                clear H
                have H := H1
                clear H1
                by_cases c7 : 0 ≤ x5_1
                · rw [if_pos c7] at H
                  have c7b0 : decide (0 ≤ x5_1) = true := decide_eq_true c7
                  clear c7
                  by_cases c8 : x5_1 < (l0.length : Int)
                  · rw [if_pos c8] at H
                    have c8b0 : decide (x5_1 < (l0.length : Int)) = true := decide_eq_true c8
                    clear c8
                    by_cases c9 : (rd l0 x5_1) > 255
                    · rw [if_pos c9] at H
                      have c9b0 : decide (255 < (rd l0 x5_1)) = true := decide_eq_true c9
                      clear c9
                      obtain rfl := Option.some.inj H
                      have p103 : 0 ≤ (x5_1 : Int) := of_decide_eq_true (by first | (with_reducible assumption) | assumption)
                      have q103 : x5_1 < (l0.length : Int) := of_decide_eq_true (by first | (with_reducible assumption) | assumption)
                      obtain ⟨ad103, e103, hx103_0⟩ := Kd.at_int HR0.out x5_1 p103 q103
                      cases e103
                      replace hx103_0 := (HB.out.cell (World.block_lt_of_cell? w _ hx103_0)).trans hx103_0
                      replace p103 := eq_true p103
                      replace q103 := eq_true q103
                      go_wp2
                      go_ret
                      exact ⟨by first | rfl | (simp [errW_none, errW_some] <;> rfl) | (simp [*, errW_none, errW_some] <;> rfl), by repeat (first | (with_reducible first | exact HB.out | apply below_alloc | apply pw_below_drewN | apply below_drew1) | exact HB.out)⟩
                    · rw [if_neg c9] at H
                      have c9b0 : decide (255 < (rd l0 x5_1)) = false := decide_eq_false c9
                      clear c9
                      by_cases c10 : ((rd l0 x5_1) ≥ 128)
                      · rw [if_pos c10] at H
                        have c10b0 : decide (128 ≤ (rd l0 x5_1)) = true := decide_eq_true c10
                        clear c10
                        have H' := Aside0.mk H
                        clear H
                        have p103 : 0 ≤ (x5_1 : Int) := of_decide_eq_true (by first | (with_reducible assumption) | assumption)
                        have q103 : x5_1 < (l0.length : Int) := of_decide_eq_true (by first | (with_reducible assumption) | assumption)
                        obtain ⟨ad103, e103, hx103_0⟩ := Kd.at_int HR0.out x5_1 p103 q103
                        cases e103
                        replace hx103_0 := (HB.out.cell (World.block_lt_of_cell? w _ hx103_0)).trans hx103_0
                        replace p103 := eq_true p103
                        replace q103 := eq_true q103
                        have p104 : 0 ≤ (x5_1 : Int) := of_decide_eq_true (by first | (with_reducible assumption) | assumption)
                        have q104 : x5_1 < (l0.length : Int) := of_decide_eq_true (by first | (with_reducible assumption) | assumption)
                        obtain ⟨ad104, e104, hx104_0⟩ := Kd.at_int HR0.out x5_1 p104 q104
                        obtain rfl : ad103 = ad104 := (by injection e104)
                        replace hx104_0 := (HB.out.cell (World.block_lt_of_cell? w _ hx104_0)).trans hx104_0
                        replace p104 := eq_true p104
                        replace q104 := eq_true q104
                        go_wp2
                        go_roundg kj3
                        case measure => have := HK1.out; have := HJ3.out; omega
                        case rel => exact ⟨(x3_1), (decide ((rd l0 x5_1) ≥ 128)), (wrap64 (x5_1 + 1)), (by first | rfl | (simp; done) | (simp [*]; done)), (by first | rfl | (simp; done) | (simp [*]; done)), (by first | rfl | (simp; done) | (simp [*]; done)), H', ⟨by have := HK1.out; have := HJ3.out; omega⟩, ⟨by repeat (first | (with_reducible first | exact HB.out | apply below_alloc | apply pw_below_drewN | apply below_drew1) | exact HB.out)⟩⟩
                      · rw [if_neg c10] at H
                        have c10b0 : decide (128 ≤ (rd l0 x5_1)) = false := decide_eq_false c10
                        clear c10
                        obtain ⟨y106, hy106⟩ : ∃ y_ : List Int, y_ = (([(rd l0 x5_1) % 256] : List Int)) := ⟨_, rfl⟩
                        replace H : (if x3_1.size + (strOfNums y106).size ≤ 9223372036854775807 then (laws_FnVLQUnits.l0 kj3 l0 (x3_1 ++ (strOfNums y106)) (decide ((rd l0 x5_1) ≥ 128)) (wrap64 (x5_1 + 1))) else (none)) = some r := by first | (rw [hy106]; with_reducible exact H) | (have H2_ := (Option.bind_some _ _).symm.trans H; rw [hy106]; with_reducible exact H2_) | (have H2_ := (Option.bind_some _ _).symm.trans H; with_reducible exact H2_) | with_reducible exact H | (rw [hy106]; exact H) | exact H
                        have Ny106 := Aside0.mk hy106
                        clear hy106
                        by_cases c11 : x3_1.size + (strOfNums y106).size ≤ 9223372036854775807
                        · rw [if_pos c11] at H
                          have c11b0 := eq_true c11
                          have c11b1 : decide (x3_1.size + (strOfNums y106).size ≤ 9223372036854775807) = true := decide_eq_true c11
                          try have c11b2 : (9223372036854775807 < x3_1.size + (strOfNums y106).size) = False := eq_false (Nat.not_lt.2 c11)
                          have H' := Aside0.mk H
                          clear H
                          have p103 : 0 ≤ (x5_1 : Int) := of_decide_eq_true (by first | (with_reducible assumption) | assumption)
                          have q103 : x5_1 < (l0.length : Int) := of_decide_eq_true (by first | (with_reducible assumption) | assumption)
                          obtain ⟨ad103, e103, hx103_0⟩ := Kd.at_int HR0.out x5_1 p103 q103
                          cases e103
                          replace hx103_0 := (HB.out.cell (World.block_lt_of_cell? w _ hx103_0)).trans hx103_0
                          replace p103 := eq_true p103
                          replace q103 := eq_true q103
                          have p104 : 0 ≤ (x5_1 : Int) := of_decide_eq_true (by first | (with_reducible assumption) | assumption)
                          have q104 : x5_1 < (l0.length : Int) := of_decide_eq_true (by first | (with_reducible assumption) | assumption)
                          obtain ⟨ad104, e104, hx104_0⟩ := Kd.at_int HR0.out x5_1 p104 q104
                          obtain rfl : ad103 = ad104 := (by injection e104)
                          replace hx104_0 := (HB.out.cell (World.block_lt_of_cell? w _ hx104_0)).trans hx104_0
                          replace p104 := eq_true p104
                          replace q104 := eq_true q104
                          have p105 : 0 ≤ (x5_1 : Int) := of_decide_eq_true (by first | (with_reducible assumption) | assumption)
                          have q105 : x5_1 < (l0.length : Int) := of_decide_eq_true (by first | (with_reducible assumption) | assumption)
                          obtain ⟨ad105, e105, hx105_0⟩ := Kd.at_int HR0.out x5_1 p105 q105
                          obtain rfl : ad103 = ad105 := (by injection e105)
                          replace hx105_0 := (HB.out.cell (World.block_lt_of_cell? w _ hx105_0)).trans hx105_0
                          replace p105 := eq_true p105
                          replace q105 := eq_true q105
                          go_wp2_with (first | ((with_reducible refine gate_dst (N := 49) rfl ?_); refine Kd.R_lit (Kd.int .u8) _ 5 ?hg (N := 49) ?hd (xs := ([(rd l0 x5_1) % 256] : List Int)) (inner := [.int .u8 ((rd l0 x5_1) % 256)]) (ok := fun _ => True) (okp := fun _ => True) ?hr ?hp (fun _ hk => hk) trivial (Below.refl _ _) (Nat.le_refl _) (by simp) ?_; (case hd => rfl); (case hg => rfl); (case hr => first | (go_simp; done) | (go_simp; rfl)); (case hp => exact (Reps.one (show Kd.M (Kd.int .u8) _ _ _ ((rd l0 x5_1) % 256) [.int .u8 ((rd l0 x5_1) % 256)] from rfl) (Reps.none _ _))); intro v107 w12 ho13 hb hg_ hnew_; clear hg_ hnew_; (first | rw [← Ny106.out] at ho13 | (simp only [Int.reduceToNat] at ho13; rw [← Ny106.out] at ho13)); have n0_ := Aside0.mk (Kd.R_lower ho13 (below_size (by repeat (first | (with_reducible first | exact HB.out | apply below_alloc | apply pw_below_drewN | apply below_drew1) | exact HB.out)))); have n1_ := Aside0.mk (below_step (by repeat (first | (with_reducible first | exact HB.out | apply below_alloc | apply pw_below_drewN | apply below_drew1) | exact HB.out)) hb); clear HB; have HO108 := n0_; have HB := n1_; clear n0_ n1_; clear hb ho13; have hcv14 := own_string (P := Try.prog) Try.underlying47 Try.underlying5 Try.underlying9 (Kd.own_of_R HO108.out)))
                          go_roundg kj3
                          case measure => have := HK1.out; have := HJ3.out; omega
                          case rel => exact ⟨(x3_1 ++ (strOfNums y106)), (decide ((rd l0 x5_1) ≥ 128)), (wrap64 (x5_1 + 1)), (by first | rfl | (simp; done) | (simp [*]; done)), (by first | rfl | (simp; done) | (simp [*]; done)), (by first | rfl | (simp; done) | (simp [*]; done)), H', ⟨by have := HK1.out; have := HJ3.out; omega⟩, ⟨by repeat (first | (with_reducible first | exact HB.out | apply below_alloc | apply pw_below_drewN | apply below_drew1) | exact HB.out)⟩⟩
                        · rw [if_neg c11] at H
                          exact absurd H (by simp)
                  · rw [if_neg c8] at H
                    exact absurd H (by simp)
                · rw [if_neg c7] at H
                  exact absurd H (by simp)
              · replace c6 := Bool.eq_false_iff.mpr c6
                subst c6
                have H1 : ((impl_DecodeVLQ16.f kj3 l0).bind fun bt109 => ((spec_VLQ.f kj3 x3_1 0).bind fun bt112 => (if bt112.2.2 = true then (if bt112.1 ≥ 1073741824 then (laws_FnVLQUnits.j2 kj3 x3_1 bt109.1 bt109.2.1 bt109.2.2 bt112.1 bt112.2.1 bt112.2.2 true) else (laws_FnVLQUnits.j2 kj3 x3_1 bt109.1 bt109.2.1 bt109.2.2 bt112.1 bt112.2.1 bt112.2.2 (decide (bt112.1 ≤ (-1073741824))))) else (laws_FnVLQUnits.j2 kj3 x3_1 bt109.1 bt109.2.1 bt109.2.2 bt112.1 bt112.2.1 bt112.2.2 false)))) = some r := by rw [if_neg (show ¬ (false = true) by decide)] at H; exact H
                clear H
                have H := H1
                clear H1
                replace H := Option.bind_eq_some_iff.mp H
                obtain ⟨⟨t109, t110, t111⟩, A150, H⟩ := H
                replace H : ((spec_VLQ.f kj3 x3_1 0).bind fun bt112 => (if bt112.2.2 = true then (if bt112.1 ≥ 1073741824 then (laws_FnVLQUnits.j2 kj3 x3_1 t109 t110 t111 bt112.1 bt112.2.1 bt112.2.2 true) else (laws_FnVLQUnits.j2 kj3 x3_1 t109 t110 t111 bt112.1 bt112.2.1 bt112.2.2 (decide (bt112.1 ≤ (-1073741824))))) else (laws_FnVLQUnits.j2 kj3 x3_1 t109 t110 t111 bt112.1 bt112.2.1 bt112.2.2 false))) = some r := H
                have A15 := Aside0.mk A150
                clear A150
                replace H := Option.bind_eq_some_iff.mp H
                obtain ⟨⟨t112, t113, t114⟩, A160, H⟩ := H
                replace H : (if t114 = true then (if t112 ≥ 1073741824 then (laws_FnVLQUnits.j2 kj3 x3_1 t109 t110 t111 t112 t113 t114 true) else (laws_FnVLQUnits.j2 kj3 x3_1 t109 t110 t111 t112 t113 t114 (decide (t112 ≤ (-1073741824))))) else (laws_FnVLQUnits.j2 kj3 x3_1 t109 t110 t111 t112 t113 t114 false)) = some r := H
                have A16 := Aside0.mk A160
                clear A160
                have HC17 := Aside0.mk H
                clear H
                go_upto_region 16 with (first | ((with_reducible refine gate_callee (f := 26) rfl ?_); refine goesL_ (some 54) rfl rfl Try.func26 (by kernel_rfl) rfl #[.slice A0 l0.length c0] rfl (by (try simp only [List.map_toArray, List.map_cons, List.map_nil]); first | done | rfl | (simp only [List.length_drop, List.length_take]; rfl)) ?_; (with_reducible refine (impl_DecodeVLQ16.calls kj3 _ _ l0 t109 t110 t111 _ ?side1 ?side2 A15.out).mono ?_); (case side1 => repeat (first | exact (Kd.C_below HR0.out HB.out) | (with_reducible refine Kd.C_alloc ?_ _) | (with_reducible refine Kd.C_drewN ?_ _) | (with_reducible refine Kd.C_drew ?_))); (case side2 => exact HC0.out); rintro e w18 ⟨rfl, hb⟩; refine ⟨_, rfl, ?_⟩; have n0_ := Aside0.mk (below_step (by repeat (first | (with_reducible first | exact HB.out | apply below_alloc | apply pw_below_drewN | apply below_drew1) | exact HB.out)) hb); clear HB; have HB := n0_; clear n0_; (try clear hb); (try clear hb2); (try clear hk); (try clear hi)) | ((with_reducible refine gate_callee (f := 27) rfl ?_); refine goesL_ (some 60) rfl rfl Try.func27 (by kernel_rfl) rfl #[.string x3_1, .int .i64 0] rfl (by (try simp only [List.map_toArray, List.map_cons, List.map_nil]); first | done | rfl | (simp only [List.length_drop, List.length_take]; rfl)) ?_; (with_reducible refine (spec_VLQ.calls kj3 x3_1 0 t112 t113 t114 _ A16.out).mono ?_); rintro e w' ⟨rfl, ⟨nd, rfl⟩⟩; refine ⟨_, rfl, ?_⟩))
                (try simp only [Act.put, List.setIfInBounds_toArray, List.set_cons_zero, List.set_cons_succ])
                go_cut [64] (fun v64 wc => ∃ (kq : Nat) (x64_16 : Bool), v64 = .bool x64_16 ∧ Aside0 (laws_FnVLQUnits.j2 kq x3_1 t109 t110 t111 t112 t113 t114 x64_16 = some r) ∧ Aside0 (kq ≤ kj3) ∧ Aside0 (Below w.heap.size w wc))
                case first =>
                  have H := HC17.out
                  clear HC17
                  by_cases c19 : t114 = true
                  · subst c19
                    have H1 : (if t112 ≥ 1073741824 then (laws_FnVLQUnits.j2 kj3 x3_1 t109 t110 t111 t112 t113 true true) else (laws_FnVLQUnits.j2 kj3 x3_1 t109 t110 t111 t112 t113 true (decide (t112 ≤ (-1073741824))))) = some r := by rw [if_pos rfl] at H; exact H
                    clear H
                    have H := H1
                    clear H1
                    by_cases c20 : t112 ≥ 1073741824
                    · rw [if_pos c20] at H
                      have c20b0 : decide (1073741824 ≤ t112) = true := decide_eq_true c20
                      clear c20
                      (first | rw [c20b0] | (simp only [i64_w, i32_w]; rw [c20b0]) | skip)
                      have H' := Aside0.mk H
                      clear H
                      go_wp2
                      go_meet
                      case rel => exact ⟨_, (true), (by first | rfl | (simp; done) | (simp [*]; done)), H', ⟨by have := HK1.out; have := HJ3.out; first | omega | exact Nat.le_refl _⟩, ⟨by repeat (first | (with_reducible first | exact HB.out | apply below_alloc | apply pw_below_drewN | apply below_drew1) | exact HB.out)⟩⟩
                    · rw [if_neg c20] at H
                      have c20b0 : decide (1073741824 ≤ t112) = false := decide_eq_false c20
                      clear c20
                      (first | rw [c20b0] | (simp only [i64_w, i32_w]; rw [c20b0]) | skip)
                      have H' := Aside0.mk H
                      clear H
                      go_wp2
                      go_meet
                      case rel => exact ⟨_, (decide (t112 ≤ (-1073741824))), (by first | rfl | (simp; done) | (simp [*]; done)), H', ⟨by have := HK1.out; have := HJ3.out; first | omega | exact Nat.le_refl _⟩, ⟨by repeat (first | (with_reducible first | exact HB.out | apply below_alloc | apply pw_below_drewN | apply below_drew1) | exact HB.out)⟩⟩
                  · replace c19 := Bool.eq_false_iff.mpr c19
                    subst c19
                    have H1 : (laws_FnVLQUnits.j2 kj3 x3_1 t109 t110 t111 t112 t113 false false) = some r := by rw [if_neg (show ¬ (false = true) by decide)] at H; exact H
                    clear H
                    have H := H1
                    clear H1
                    have H' := Aside0.mk H
                    clear H
                    go_wp2
                    go_meet
                    case rel => exact ⟨_, (false), (by first | rfl | (simp; done) | (simp [*]; done)), H', ⟨by have := HK1.out; have := HJ3.out; first | omega | exact Nat.le_refl _⟩, ⟨by repeat (first | (with_reducible first | exact HB.out | apply below_alloc | apply pw_below_drewN | apply below_drew1) | exact HB.out)⟩⟩
                case rest =>
                  clear HC17
                  try clear c1
                  try clear p1
                  try clear q1
                  try clear hx1
                  try clear hcv1
                  try clear c2
                  try clear c2b0
                  try clear c2b1
                  try clear p2
                  try clear c3
                  try clear c3b0
                  try clear c3b1
                  try clear c5
                  try clear c5b0
                  try clear c6
                  try clear p6
                  try clear c7
                  try clear c7b0
                  try clear c8
                  try clear c8b0
                  try clear c9
                  try clear c9b0
                  try clear c10
                  try clear c10b0
                  try clear p10
                  try clear q10
                  try clear hx10
                  try clear c11
                  try clear c11b0
                  try clear c11b1
                  try clear c11b2
                  try clear hcv14
                  try clear c19
                  try clear c20
                  try clear c20b0
                  try clear hx103_0
                  try clear hx104_0
                  try clear hx105_0
                  try clear p103
                  try clear p104
                  try clear p105
                  try clear p2
                  try clear q103
                  try clear q104
                  try clear q105
                  obtain ⟨kq, x64_16, rfl, HA, HJ16, HB⟩ := hcut
                  cases kq with
                  | zero => exact absurd HA.out (by simp [laws_FnVLQUnits.j2])
                  | succ kj16 =>
                    have H := HA.out
                    clear HA
                    simp only [laws_FnVLQUnits.j2] at H
                    by_cases c21 : x64_16 = true
                    · subst c21
                      have H1 : (some true) = some r := by rw [if_pos rfl] at H; exact H
                      clear H
                      have H := H1
                      clear H1
                      obtain rfl := Option.some.inj H
                      go_wp2
                      go_ret
                      exact ⟨by first | rfl | (simp [errW_none, errW_some] <;> rfl) | (simp [*, errW_none, errW_some] <;> rfl), by repeat (first | (with_reducible first | exact HB.out | apply below_alloc | apply pw_below_drewN | apply below_drew1) | exact HB.out)⟩
                    · replace c21 := Bool.eq_false_iff.mpr c21
                      subst c21
                      have H1 : (if t114 = true then (if t111 = true then (if (wrap64 (t109)) = t112 then (some (t110 == t113)) else (some false)) else (some false)) else ((spec_Unfinished.f kj16 x3_1).bind fun t115 => (if t115 = true then ((impl_DecodeVLQ16.f kj16 (([67] : List Int))).bind fun bt119 => (if t111 = true then (some false) else (some bt119.2.2))) else (some true)))) = some r := by rw [if_neg (show ¬ (false = true) by decide)] at H; exact H
                      clear H
                      have H := H1
                      clear H1
                      by_cases c22 : t114 = true
                      · subst c22
                        have H1 : (if t111 = true then (if (wrap64 (t109)) = t112 then (some (t110 == t113)) else (some false)) else (some false)) = some r := by rw [if_pos rfl] at H; exact H
                        clear H
                        have H := H1
                        clear H1
                        by_cases c23 : t111 = true
                        · subst c23
                          have H1 : (if (wrap64 (t109)) = t112 then (some (t110 == t113)) else (some false)) = some r := by rw [if_pos rfl] at H; exact H
                          clear H
                          have H := H1
                          clear H1
                          by_cases c24 : (wrap64 (t109)) = t112
                          · rw [if_pos c24] at H
                            have c24b0 : ((wrap64 (t109)) == t112) = true := beq_iff_eq.mpr c24
                            have c24b1 : ((wrap64 (t109)) != t112) = false := bne_eq_false_iff_eq.mpr c24
                            clear c24
                            obtain rfl := Option.some.inj H
                            go_wp2
                            go_ret
                            exact ⟨by first | rfl | (simp [errW_none, errW_some] <;> rfl) | (simp [*, errW_none, errW_some] <;> rfl), by repeat (first | (with_reducible first | exact HB.out | apply below_alloc | apply pw_below_drewN | apply below_drew1) | exact HB.out)⟩
                          · rw [if_neg c24] at H
                            have c24b0 : ((wrap64 (t109)) == t112) = false := beq_eq_false_iff_ne.mpr c24
                            have c24b1 : ((wrap64 (t109)) != t112) = true := bne_iff_ne.mpr c24
                            obtain rfl := Option.some.inj H
                            go_wp2
                            go_ret
                            exact ⟨by first | rfl | (simp [errW_none, errW_some] <;> rfl) | (simp [*, errW_none, errW_some] <;> rfl), by repeat (first | (with_reducible first | exact HB.out | apply below_alloc | apply pw_below_drewN | apply below_drew1) | exact HB.out)⟩
                        · replace c23 := Bool.eq_false_iff.mpr c23
                          subst c23
                          have H1 : (some false) = some r := by rw [if_neg (show ¬ (false = true) by decide)] at H; exact H
                          clear H
                          have H := H1
                          clear H1
                          obtain rfl := Option.some.inj H
                          go_wp2
                          go_ret
                          exact ⟨by first | rfl | (simp [errW_none, errW_some] <;> rfl) | (simp [*, errW_none, errW_some] <;> rfl), by repeat (first | (with_reducible first | exact HB.out | apply below_alloc | apply pw_below_drewN | apply below_drew1) | exact HB.out)⟩
                      · replace c22 := Bool.eq_false_iff.mpr c22
                        subst c22
                        have H1 : ((spec_Unfinished.f kj16 x3_1).bind fun t115 => (if t115 = true then ((impl_DecodeVLQ16.f kj16 (([67] : List Int))).bind fun bt119 => (if t111 = true then (some false) else (some bt119.2.2))) else (some true))) = some r := by rw [if_neg (show ¬ (false = true) by decide)] at H; exact H
                        clear H
                        have H := H1
                        clear H1
                        replace H := Option.bind_eq_some_iff.mp H
                        obtain ⟨t115, A250, H⟩ := H
                        replace H : (if t115 = true then ((impl_DecodeVLQ16.f kj16 (([67] : List Int))).bind fun bt119 => (if t111 = true then (some false) else (some bt119.2.2))) else (some true)) = some r := H
                        have A25 := Aside0.mk A250
                        clear A250
                        by_cases c26 : t115 = true
                        · subst c26
                          have H1 : ((impl_DecodeVLQ16.f kj16 (([67] : List Int))).bind fun bt119 => (if t111 = true then (some false) else (some bt119.2.2))) = some r := by rw [if_pos rfl] at H; exact H
                          clear H
                          have H := H1
                          clear H1
                          obtain ⟨y116, hy116⟩ : ∃ y_ : List Int, y_ = (([67] : List Int)) := ⟨_, rfl⟩
                          replace H : ((impl_DecodeVLQ16.f kj16 y116).bind fun bt119 => (if t111 = true then (some false) else (some bt119.2.2))) = some r := by first | (rw [hy116]; with_reducible exact H) | (have H2_ := (Option.bind_some _ _).symm.trans H; rw [hy116]; with_reducible exact H2_) | (have H2_ := (Option.bind_some _ _).symm.trans H; with_reducible exact H2_) | with_reducible exact H | (rw [hy116]; exact H) | exact H
                          have Ny116 := Aside0.mk hy116
                          clear hy116
                          replace H := Option.bind_eq_some_iff.mp H
                          obtain ⟨⟨t119, t120, t121⟩, A270, H⟩ := H
                          replace H : (if t111 = true then (some false) else (some t121)) = some r := H
                          have A27 := Aside0.mk A270
                          clear A270
                          by_cases c28 : t111 = true
                          · subst c28
                            have H1 : (some false) = some r := by rw [if_pos rfl] at H; exact H
                            clear H
                            have H := H1
                            clear H1
                            obtain rfl := Option.some.inj H
                            go_wp2_with (first | ((with_reducible refine gate_callee (f := 28) rfl ?_); refine goesL_ (some 90) rfl rfl Try.func28 (by kernel_rfl) rfl #[.string x3_1] rfl (by (try simp only [List.map_toArray, List.map_cons, List.map_nil]); first | done | rfl | (simp only [List.length_drop, List.length_take]; rfl)) ?_; (with_reducible refine (spec_Unfinished.calls kj16 x3_1 true _ A25.out).mono ?_); rintro e w' ⟨rfl, ⟨nd, rfl⟩⟩; refine ⟨_, rfl, ?_⟩) | ((with_reducible refine gate_dst (N := 92) rfl ?_); refine Kd.R_lit (Kd.int .u16) _ 46 ?hg (N := 92) ?hd (xs := ([67] : List Int)) (inner := [.int .u16 67]) (ok := fun _ => True) (okp := fun _ => True) ?hr ?hp (fun _ hk => hk) trivial (Below.refl _ _) (Nat.le_refl _) (by simp) ?_; (case hd => rfl); (case hg => rfl); (case hr => first | (go_simp; done) | (go_simp; rfl)); (case hp => exact (Reps.one (show Kd.M (Kd.int .u16) _ _ _ 67 [.int .u16 67] from rfl) (Reps.none _ _))); intro v117 w29 ho30 hb hg_ hnew_; clear hg_ hnew_; (first | rw [← Ny116.out] at ho30 | (simp only [Int.reduceToNat] at ho30; rw [← Ny116.out] at ho30)); have n0_ := Aside0.mk (Kd.R_lower ho30 (below_size (by repeat (first | (with_reducible first | exact HB.out | apply below_alloc | apply pw_below_drewN | apply below_drew1) | exact HB.out)))); have n1_ := Aside0.mk (below_step (by repeat (first | (with_reducible first | exact HB.out | apply below_alloc | apply pw_below_drewN | apply below_drew1) | exact HB.out)) hb); clear HB; have HO118 := n0_; have HB := n1_; clear n0_ n1_; clear hb ho30; obtain ⟨Ao31, co31, eo31⟩ := Kd.R_slice HO118.out; subst eo31) | ((with_reducible refine gate_callee (f := 26) rfl ?_); refine goesL_ (some 93) rfl rfl Try.func26 (by kernel_rfl) rfl #[.slice Ao31 y116.length co31] rfl (by (try simp only [List.map_toArray, List.map_cons, List.map_nil]); first | done | rfl | (simp only [List.length_drop, List.length_take]; rfl)) ?_; (with_reducible refine (impl_DecodeVLQ16.calls kj16 _ _ y116 t119 t120 t121 _ ?side1 ?side2 A27.out).mono ?_); (case side1 => repeat (first | exact (Kd.R_reads' HO118.out).2.2 | (with_reducible refine Kd.C_alloc ?_ _) | (with_reducible refine Kd.C_drewN ?_ _) | (with_reducible refine Kd.C_drew ?_))); (case side2 => exact (Kd.R_reads' HO118.out).2.1); rintro e w32 ⟨rfl, hb⟩; refine ⟨_, rfl, ?_⟩; have n0_ := Aside0.mk (Kd.R_below (by (with_reducible repeat (first | apply Kd.R_alloc | apply Kd.R_drewN | apply Kd.R_drew)); exact HO118.out) hb); have n1_ := Aside0.mk (below_step (by repeat (first | (with_reducible first | exact HB.out | apply below_alloc | apply pw_below_drewN | apply below_drew1) | exact HB.out)) hb); clear HO118; clear HB; have HO118 := n0_; have HB := n1_; clear n0_ n1_; (try clear hb); (try clear hb2); (try clear hk); (try clear hi)))
                            go_ret
                            exact ⟨by first | rfl | (simp [errW_none, errW_some] <;> rfl) | (simp [*, errW_none, errW_some] <;> rfl), by repeat (first | (with_reducible first | exact HB.out | apply below_alloc | apply pw_below_drewN | apply below_drew1) | exact HB.out)⟩
                          · replace c28 := Bool.eq_false_iff.mpr c28
                            subst c28
                            have H1 : (some t121) = some r := by rw [if_neg (show ¬ (false = true) by decide)] at H; exact H
                            clear H
                            have H := H1
                            clear H1
                            obtain rfl := Option.some.inj H
                            go_wp2_with (first | ((with_reducible refine gate_callee (f := 28) rfl ?_); refine goesL_ (some 90) rfl rfl Try.func28 (by kernel_rfl) rfl #[.string x3_1] rfl (by (try simp only [List.map_toArray, List.map_cons, List.map_nil]); first | done | rfl | (simp only [List.length_drop, List.length_take]; rfl)) ?_; (with_reducible refine (spec_Unfinished.calls kj16 x3_1 true _ A25.out).mono ?_); rintro e w' ⟨rfl, ⟨nd, rfl⟩⟩; refine ⟨_, rfl, ?_⟩) | ((with_reducible refine gate_dst (N := 92) rfl ?_); refine Kd.R_lit (Kd.int .u16) _ 46 ?hg (N := 92) ?hd (xs := ([67] : List Int)) (inner := [.int .u16 67]) (ok := fun _ => True) (okp := fun _ => True) ?hr ?hp (fun _ hk => hk) trivial (Below.refl _ _) (Nat.le_refl _) (by simp) ?_; (case hd => rfl); (case hg => rfl); (case hr => first | (go_simp; done) | (go_simp; rfl)); (case hp => exact (Reps.one (show Kd.M (Kd.int .u16) _ _ _ 67 [.int .u16 67] from rfl) (Reps.none _ _))); intro v117 w33 ho34 hb hg_ hnew_; clear hg_ hnew_; (first | rw [← Ny116.out] at ho34 | (simp only [Int.reduceToNat] at ho34; rw [← Ny116.out] at ho34)); have n0_ := Aside0.mk (Kd.R_lower ho34 (below_size (by repeat (first | (with_reducible first | exact HB.out | apply below_alloc | apply pw_below_drewN | apply below_drew1) | exact HB.out)))); have n1_ := Aside0.mk (below_step (by repeat (first | (with_reducible first | exact HB.out | apply below_alloc | apply pw_below_drewN | apply below_drew1) | exact HB.out)) hb); clear HB; have HO118 := n0_; have HB := n1_; clear n0_ n1_; clear hb ho34; obtain ⟨Ao35, co35, eo35⟩ := Kd.R_slice HO118.out; subst eo35) | ((with_reducible refine gate_callee (f := 26) rfl ?_); refine goesL_ (some 93) rfl rfl Try.func26 (by kernel_rfl) rfl #[.slice Ao35 y116.length co35] rfl (by (try simp only [List.map_toArray, List.map_cons, List.map_nil]); first | done | rfl | (simp only [List.length_drop, List.length_take]; rfl)) ?_; (with_reducible refine (impl_DecodeVLQ16.calls kj16 _ _ y116 t119 t120 t121 _ ?side1 ?side2 A27.out).mono ?_); (case side1 => repeat (first | exact (Kd.R_reads' HO118.out).2.2 | (with_reducible refine Kd.C_alloc ?_ _) | (with_reducible refine Kd.C_drewN ?_ _) | (with_reducible refine Kd.C_drew ?_))); (case side2 => exact (Kd.R_reads' HO118.out).2.1); rintro e w36 ⟨rfl, hb⟩; refine ⟨_, rfl, ?_⟩; have n0_ := Aside0.mk (Kd.R_below (by (with_reducible repeat (first | apply Kd.R_alloc | apply Kd.R_drewN | apply Kd.R_drew)); exact HO118.out) hb); have n1_ := Aside0.mk (below_step (by repeat (first | (with_reducible first | exact HB.out | apply below_alloc | apply pw_below_drewN | apply below_drew1) | exact HB.out)) hb); clear HO118; clear HB; have HO118 := n0_; have HB := n1_; clear n0_ n1_; (try clear hb); (try clear hb2); (try clear hk); (try clear hi)))
                            go_ret
                            exact ⟨by first | rfl | (simp [errW_none, errW_some] <;> rfl) | (simp [*, errW_none, errW_some] <;> rfl), by repeat (first | (with_reducible first | exact HB.out | apply below_alloc | apply pw_below_drewN | apply below_drew1) | exact HB.out)⟩
                        · replace c26 := Bool.eq_false_iff.mpr c26
                          subst c26
                          have H1 : (some true) = some r := by rw [if_neg (show ¬ (false = true) by decide)] at H; exact H
                          clear H
                          have H := H1
                          clear H1
                          obtain rfl := Option.some.inj H
                          go_wp2_with (first | ((with_reducible refine gate_callee (f := 28) rfl ?_); refine goesL_ (some 90) rfl rfl Try.func28 (by kernel_rfl) rfl #[.string x3_1] rfl (by (try simp only [List.map_toArray, List.map_cons, List.map_nil]); first | done | rfl | (simp only [List.length_drop, List.length_take]; rfl)) ?_; (with_reducible refine (spec_Unfinished.calls kj16 x3_1 false _ A25.out).mono ?_); rintro e w' ⟨rfl, ⟨nd, rfl⟩⟩; refine ⟨_, rfl, ?_⟩))
                          go_ret
                          exact ⟨by first | rfl | (simp [errW_none, errW_some] <;> rfl) | (simp [*, errW_none, errW_some] <;> rfl), by repeat (first | (with_reducible first | exact HB.out | apply below_alloc | apply pw_below_drewN | apply below_drew1) | exact HB.out)⟩

/-- THE ONE PURE STATEMENT of laws_FnVLQUnits: yours. -/
def laws_FnVLQUnits.Pure : Prop := ∀ (l0 : List Int), l0.length ≤ maxLen → l0.length * 2 ≤ 140737488351232 → (∀ x ∈ l0, (Lit.int .u16 x).wf = true) → ∃ k, laws_FnVLQUnits.f k l0 = some true
theorem laws_FnVLQUnits.walk (P : laws_FnVLQUnits.Pure) (a0 : Option Addr) (len0 cap0 : Nat) (z0 : List Int) (w : World) (w0 : (a0 = none ∧ len0 = 0 ∧ cap0 = 0 ∧ z0 = []) ∨ ∃ x, a0 = some x ∧ len0 ≤ cap0 ∧ cap0 ≤ maxLen ∧ z0.length = cap0 ∧ (∀ i, i < z0.length → w.cell? (x.add i) = some (.int .u16 (z0.getD i 0))) ∧ ∀ n ∈ z0, (Lit.int .u16 n).wf = true) (y0 : len0 * 2 ≤ 140737488351232) :
    Calls Try.prog 9 #[.slice a0 len0 cap0] w fun e w' => e = .returned (.bool true) ∧ Below w.heap.size w w' := by
  obtain ⟨l0, rfl, hr0, hm0, hw0, hc0⟩ := ReadsInt.ofRowC w0
  obtain ⟨k, h⟩ := P l0 hm0 y0 hw0
  refine (laws_FnVLQUnits.calls k _ _ l0 true w (Kd.C_of_reads (d := (0 : Int)) (h1 := fun _ => rfl) hr0) hc0 h).mono ?_
  rintro e w' ⟨rfl, hd⟩
  exact ⟨rfl, hd⟩

end Go.Proofs.YtkdinhbfidckdaaR.PFnVLQUnits
