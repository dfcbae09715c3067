-- Written by printx.py of this session, over the kit's print, with contracts of this session for some functions
import Derived.Test.YtheichpmhfledaaDoorPNumberTextx0
import Derived.Test.YtheichpmhfledaaDoorPNumberTextx1
import Derived.Test.YtheichpmhfledaaDoorExtRoundF
namespace Go.Proofs.YtheichpmhfledaaDoor.PNumberText
open Go.RowKit Go.Proofs.YtheichpmhfledaaDoorW.PrintWords Go.Proofs.YtheichpmhfledaaDoorW.PrintLast Go.Proofs.YtheichpmhfledaaDoorW.PrintMore
attribute [local go_sem] max2_int min2_int max_two min_two max_three min_three max_four min_four   -- for this text's walks alone
set_option linter.unusedVariables false
set_option linter.unusedSimpArgs false

/-! ### spec_natSub: function 78 -/
def spec_natSub.l0 : Nat → List Int → List Int → List Int → Int → Int → Option (List Int)
  | 0, _, _, _, _, _ => none
  | k + 1, x0, x1, x5, x6, x7 => if x7 < (x0.length : Int) then (if x7 < (x1.length : Int) then (if 0 ≤ x7 then (if (rd x0 x7) < (IntKind.u64.wrap (x6 + (rd x1 x7))) then (if x5.length < 17592186044416 then (spec_natSub.l0 k x0 x1 (x5 ++ [IntKind.u64.wrap ((IntKind.u64.wrap ((rd x0 x7) + 4294967296)) - (IntKind.u64.wrap (x6 + (rd x1 x7))))]) 1 (wrap64 (x7 + 1))) else (none)) else (if x5.length < 17592186044416 then (spec_natSub.l0 k x0 x1 (x5 ++ [IntKind.u64.wrap ((rd x0 x7) - (IntKind.u64.wrap (x6 + (rd x1 x7))))]) 0 (wrap64 (x7 + 1))) else (none))) else (none)) else (if 0 ≤ x7 then (if (rd x0 x7) < x6 then (if x5.length < 17592186044416 then (spec_natSub.l0 k x0 x1 (x5 ++ [IntKind.u64.wrap ((IntKind.u64.wrap ((rd x0 x7) + 4294967296)) - x6)]) 1 (wrap64 (x7 + 1))) else (none)) else (if x5.length < 17592186044416 then (spec_natSub.l0 k x0 x1 (x5 ++ [IntKind.u64.wrap ((rd x0 x7) - x6)]) 0 (wrap64 (x7 + 1))) else (none))) else (none))) else ((spec_natTrim.f k x5).bind fun t139 => (some t139))
def spec_natSub.f (k : Nat) (l0 : List Int) (l1 : List Int) : Option (List Int) := spec_natSub.l0 k l0 l1 ([] : List Int) 0 0
theorem spec_natSub.mono_l : ∀ k, (∀ y0 y1 y2 y3 y4, LeO (spec_natSub.l0 k y0 y1 y2 y3 y4) (spec_natSub.l0 (k + 1) y0 y1 y2 y3 y4))
  | 0 => fun _ _ _ _ _ r h => by simp [spec_natSub.l0] at h
  | k + 1 => by
    have ih0 := spec_natSub.mono_l k
    · intro y0 y1 y2 y3 y4
      unfold spec_natSub.l0
      repeat' first
      | (with_reducible exact ih0 _ _ _ _ _)
      | (with_reducible exact spec_natTrim.mono _ _)
      | (with_reducible exact LeO.refl _)
      | (with_reducible exact LeO.none _)
      | (with_reducible refine LeO.ite ?_ ?_)
      | (with_reducible refine LeO.bind ?_ (fun _ => ?_))
      | exact ih0 _ _ _ _ _
      | exact spec_natTrim.mono _ _
      | exact LeO.none _
      | refine LeO.ite ?_ ?_
      | refine LeO.bind ?_ (fun _ => ?_)
theorem spec_natSub.mono : ∀ a0 a1 k, LeO (spec_natSub.f k a0 a1) (spec_natSub.f (k + 1) a0 a1) := by
  intro a0 a1 k
  have ih0 := spec_natSub.mono_l k
  unfold spec_natSub.f
  repeat' first
      | (with_reducible exact ih0 _ _ _ _ _)
      | (with_reducible exact spec_natTrim.mono _ _)
      | (with_reducible exact LeO.refl _)
      | (with_reducible exact LeO.none _)
      | (with_reducible refine LeO.ite ?_ ?_)
      | (with_reducible refine LeO.bind ?_ (fun _ => ?_))
      | exact ih0 _ _ _ _ _
      | exact spec_natTrim.mono _ _
      | exact LeO.none _
      | refine LeO.ite ?_ ?_
      | refine LeO.bind ?_ (fun _ => ?_)
set_option maxHeartbeats 8000000 in
set_option maxRecDepth 100000 in
theorem spec_natSub.calls (k : Nat) (A0 : Option Addr) (c0 : Nat) (l0 : List Int) (A1 : Option Addr) (c1 : Nat) (l1 : List Int) (r : List Int) (w : World) (hr0 : Kd.C (Kd.int .u64) w A0 l0.length l0) (hc0 : l0.length ≤ c0) (hr1 : Kd.C (Kd.int .u64) w A1 l1.length l1) (hc1 : l1.length ≤ c1) (h : spec_natSub.f k l0 l1 = some r) :
    Calls Tryd.prog 78 #[.slice A0 l0.length c0, .slice A1 l1.length c1] w fun e w' => ∃ v0_ : Value, e = .returned (v0_) ∧ Kd.R (Kd.int .u64) 40 w' w.heap.size (fun _ => True) v0_ r ∧ Below w.heap.size w w' := by
  have HR0 := Aside0.mk hr0
  have HC0 := Aside0.mk hc0
  clear hr0 hc0
  have HR1 := Aside0.mk hr1
  have HC1 := Aside0.mk hc1
  clear hr1 hc1
  have HB := Aside0.mk (Below.refl w.heap.size w)
  have H : (spec_natSub.l0 k l0 l1 ([] : List Int) 0 0) = some r := h
  clear h
  have H' := Aside0.mk H
  clear H
  go_enter Tryd.func78, Tryd.ntmps78
  go_wp2
  go_loopg [5, 6, 7] k (fun kq v5 v6 v7 w' => ∃ (x5_1 : List Int) (x6_1 : Int) (x7_1 : Int), v6 = .int .u64 x6_1 ∧ v7 = .int .i64 x7_1 ∧ Aside0 (spec_natSub.l0 kq l0 l1 x5_1 x6_1 x7_1 = some r) ∧ Aside0 (kq ≤ k) ∧ Aside0 (Kd.R (Kd.int .u64) 40 w' w.heap.size (fun _ => True) v5 x5_1) ∧ Aside0 (Below w.heap.size w w'))
  case atStart => exact ⟨(([] : List Int)), (0), (0), (by first | rfl | (simp; done) | (simp [*]; done)), (by first | rfl | (simp; done) | (simp [*]; done)), H', ⟨Nat.le_refl _⟩, ⟨by first | exact Kd.R_nil _ _ _ _ _ | exact Kd.N_nil _ _ _ _ _ | exact Kd.V_nil _ _ _ _ _ | exact Kd.Q_nil _ _ _ _ _ | exact Kd.S_nil _ _ _ _ _⟩, ⟨by repeat (first | (with_reducible first | exact HB.out | apply below_alloc | apply pw_below_drewN | apply below_drew1) | exact HB.out)⟩⟩
  case round =>
    clear H'
    try clear c1
    try clear p2
    obtain ⟨x5_1, x6_1, x7_1, rfl, rfl, HA, HK1, HO_5, HB⟩ := hrel
    cases gk with
    | zero => exact absurd HA.out (by simp [spec_natSub.l0])
    | succ k1 =>
      have H := HA.out
      clear HA
      simp only [spec_natSub.l0] at H
      by_cases c3 : x7_1 < (l0.length : Int)
      · rw [if_pos c3] at H
        have c3b0 : decide (x7_1 < (l0.length : Int)) = true := decide_eq_true c3
        clear c3
        by_cases c4 : x7_1 < (l1.length : Int)
        · rw [if_pos c4] at H
          have c4b0 : decide (x7_1 < (l1.length : Int)) = true := decide_eq_true c4
          clear c4
          by_cases c5 : 0 ≤ x7_1
          · rw [if_pos c5] at H
            have c5b0 : decide (0 ≤ x7_1) = true := decide_eq_true c5
            clear c5
            by_cases c6 : (rd l0 x7_1) < (IntKind.u64.wrap (x6_1 + (rd l1 x7_1)))
            · rw [if_pos c6] at H
              have c6b0 : decide ((rd l0 x7_1) < (IntKind.u64.wrap (x6_1 + (rd l1 x7_1)))) = true := decide_eq_true c6
              clear c6
              by_cases c7 : x5_1.length < 17592186044416
              · rw [if_pos c7] at H
                have LMc7 := Aside0.mk c7
                clear c7
                obtain ⟨y144, hy144⟩ : ∃ y_ : List Int, y_ = (x5_1 ++ [IntKind.u64.wrap ((IntKind.u64.wrap ((rd l0 x7_1) + 4294967296)) - (IntKind.u64.wrap (x6_1 + (rd l1 x7_1))))]) := ⟨_, rfl⟩
                replace H : (spec_natSub.l0 k1 l0 l1 y144 1 (wrap64 (x7_1 + 1))) = some r := by first | (rw [hy144]; with_reducible exact H) | (have H2_ := (Option.bind_some _ _).symm.trans H; rw [hy144]; with_reducible exact H2_) | (have H2_ := (Option.bind_some _ _).symm.trans H; with_reducible exact H2_) | with_reducible exact H | (rw [hy144]; exact H) | exact H
                have Ny144 := Aside0.mk hy144
                clear hy144
                have H' := Aside0.mk H
                clear H
                have p142 : 0 ≤ (x7_1 : Int) := of_decide_eq_true (by first | (with_reducible assumption) | assumption)
                have q142 : x7_1 < (l1.length : Int) := of_decide_eq_true (by first | (with_reducible assumption) | assumption)
                obtain ⟨ad142, e142, hx142_0⟩ := Kd.at_int HR1.out x7_1 p142 q142
                cases e142
                replace hx142_0 := (HB.out.cell (World.block_lt_of_cell? w _ hx142_0)).trans hx142_0
                replace p142 := eq_true p142
                replace q142 := eq_true q142
                have p143 : 0 ≤ (x7_1 : Int) := of_decide_eq_true (by first | (with_reducible assumption) | assumption)
                have q143 : x7_1 < (l0.length : Int) := of_decide_eq_true (by first | (with_reducible assumption) | assumption)
                obtain ⟨ad143, e143, hx143_0⟩ := Kd.at_int HR0.out x7_1 p143 q143
                cases e143
                replace hx143_0 := (HB.out.cell (World.block_lt_of_cell? w _ hx143_0)).trans hx143_0
                replace p143 := eq_true p143
                replace q143 := eq_true q143
                go_wp2_with (first | ((with_reducible refine gate_builtin (b := .append) (xs := #[.tmp 36, .tmp 40]) rfl ?_); at_builtin; refine Kd.R_append (Kd.int .u64) (w0 := w) w.heap.size rfl (.tmp 36) (.tmp 40) 55 40 (.int .u64 0) 8 rfl Tryd.underlying55 info40 rfl (by decide) (by omega) u5 x5_1 (IntKind.u64.wrap ((IntKind.u64.wrap ((rd l0 x7_1) + 4294967296)) - (IntKind.u64.wrap (x6_1 + (rd l1 x7_1))))) [.int .u64 (IntKind.u64.wrap ((IntKind.u64.wrap ((rd l0 x7_1) + 4294967296)) - (IntKind.u64.wrap (x6_1 + (rd l1 x7_1)))))] (fun _ => True) (fun _ => False) rfl rfl ?aP (fun _ hk => hk.elim) ?aF ?aO ?aB ?aS ?aL ?_; (case aP => exact rfl); (case aB => exact (by repeat (first | (with_reducible first | exact HB.out | apply below_alloc | apply pw_below_drewN | apply below_drew1) | exact HB.out))); (case aF => exact (fun _ _ => trivial)); (case aO => exact (by (with_reducible repeat (first | apply Kd.R_alloc | apply Kd.R_drewN | apply Kd.R_drew)); exact HO_5.out)); (case aS => exact (below_size (by repeat (first | (with_reducible first | exact HB.out | apply below_alloc | apply pw_below_drewN | apply below_drew1) | exact HB.out)))); (case aL => have := LMc7.out; omega); intro v145 w8 ho hb hg hat; rw [← Ny144.out] at ho; have n0_ := Aside0.mk (hb); have n1_ := Aside0.mk (ho); clear HB; clear HO_5; have HB := n0_; have HO146 := n1_; clear n0_ n1_; clear ho hb hg hat))
                go_roundg k1
                case measure => have := HK1.out; omega
                case rel => exact ⟨(y144), (1), (wrap64 (x7_1 + 1)), (by first | rfl | (simp; done) | (simp [*]; done)), (by first | rfl | (simp; done) | (simp [*]; done)), H', ⟨by have := HK1.out; omega⟩, ⟨by (with_reducible repeat (first | apply Kd.R_alloc | apply Kd.R_drewN | apply Kd.R_drew)); exact HO146.out⟩, ⟨by repeat (first | (with_reducible first | exact HB.out | apply below_alloc | apply pw_below_drewN | apply below_drew1) | exact HB.out)⟩⟩
              · rw [if_neg c7] at H
                exact absurd H (by simp)
            · rw [if_neg c6] at H
              have c6b0 : decide ((rd l0 x7_1) < (IntKind.u64.wrap (x6_1 + (rd l1 x7_1)))) = false := decide_eq_false c6
              clear c6
              by_cases c9 : x5_1.length < 17592186044416
              · rw [if_pos c9] at H
                have LMc9 := Aside0.mk c9
                clear c9
                obtain ⟨y147, hy147⟩ : ∃ y_ : List Int, y_ = (x5_1 ++ [IntKind.u64.wrap ((rd l0 x7_1) - (IntKind.u64.wrap (x6_1 + (rd l1 x7_1))))]) := ⟨_, rfl⟩
                replace H : (spec_natSub.l0 k1 l0 l1 y147 0 (wrap64 (x7_1 + 1))) = some r := by first | (rw [hy147]; with_reducible exact H) | (have H2_ := (Option.bind_some _ _).symm.trans H; rw [hy147]; with_reducible exact H2_) | (have H2_ := (Option.bind_some _ _).symm.trans H; with_reducible exact H2_) | with_reducible exact H | (rw [hy147]; exact H) | exact H
                have Ny147 := Aside0.mk hy147
                clear hy147
                have H' := Aside0.mk H
                clear H
                have p142 : 0 ≤ (x7_1 : Int) := of_decide_eq_true (by first | (with_reducible assumption) | assumption)
                have q142 : x7_1 < (l1.length : Int) := of_decide_eq_true (by first | (with_reducible assumption) | assumption)
                obtain ⟨ad142, e142, hx142_0⟩ := Kd.at_int HR1.out x7_1 p142 q142
                cases e142
                replace hx142_0 := (HB.out.cell (World.block_lt_of_cell? w _ hx142_0)).trans hx142_0
                replace p142 := eq_true p142
                replace q142 := eq_true q142
                have p143 : 0 ≤ (x7_1 : Int) := of_decide_eq_true (by first | (with_reducible assumption) | assumption)
                have q143 : x7_1 < (l0.length : Int) := of_decide_eq_true (by first | (with_reducible assumption) | assumption)
                obtain ⟨ad143, e143, hx143_0⟩ := Kd.at_int HR0.out x7_1 p143 q143
                cases e143
                replace hx143_0 := (HB.out.cell (World.block_lt_of_cell? w _ hx143_0)).trans hx143_0
                replace p143 := eq_true p143
                replace q143 := eq_true q143
                go_wp2_with (first | ((with_reducible refine gate_builtin (b := .append) (xs := #[.tmp 36, .tmp 40]) rfl ?_); at_builtin; refine Kd.R_append (Kd.int .u64) (w0 := w) w.heap.size rfl (.tmp 36) (.tmp 40) 55 40 (.int .u64 0) 8 rfl Tryd.underlying55 info40 rfl (by decide) (by omega) u5 x5_1 (IntKind.u64.wrap ((rd l0 x7_1) - (IntKind.u64.wrap (x6_1 + (rd l1 x7_1))))) [.int .u64 (IntKind.u64.wrap ((rd l0 x7_1) - (IntKind.u64.wrap (x6_1 + (rd l1 x7_1)))))] (fun _ => True) (fun _ => False) rfl rfl ?aP (fun _ hk => hk.elim) ?aF ?aO ?aB ?aS ?aL ?_; (case aP => exact rfl); (case aB => exact (by repeat (first | (with_reducible first | exact HB.out | apply below_alloc | apply pw_below_drewN | apply below_drew1) | exact HB.out))); (case aF => exact (fun _ _ => trivial)); (case aO => exact (by (with_reducible repeat (first | apply Kd.R_alloc | apply Kd.R_drewN | apply Kd.R_drew)); exact HO_5.out)); (case aS => exact (below_size (by repeat (first | (with_reducible first | exact HB.out | apply below_alloc | apply pw_below_drewN | apply below_drew1) | exact HB.out)))); (case aL => have := LMc9.out; omega); intro v148 w10 ho hb hg hat; rw [← Ny147.out] at ho; have n0_ := Aside0.mk (hb); have n1_ := Aside0.mk (ho); clear HB; clear HO_5; have HB := n0_; have HO149 := n1_; clear n0_ n1_; clear ho hb hg hat))
                go_roundg k1
                case measure => have := HK1.out; omega
                case rel => exact ⟨(y147), (0), (wrap64 (x7_1 + 1)), (by first | rfl | (simp; done) | (simp [*]; done)), (by first | rfl | (simp; done) | (simp [*]; done)), H', ⟨by have := HK1.out; omega⟩, ⟨by (with_reducible repeat (first | apply Kd.R_alloc | apply Kd.R_drewN | apply Kd.R_drew)); exact HO149.out⟩, ⟨by repeat (first | (with_reducible first | exact HB.out | apply below_alloc | apply pw_below_drewN | apply below_drew1) | exact HB.out)⟩⟩
              · rw [if_neg c9] at H
                exact absurd H (by simp)
          · rw [if_neg c5] at H
            exact absurd H (by simp)
        · rw [if_neg c4] at H
          have c4b0 : decide (x7_1 < (l1.length : Int)) = false := decide_eq_false c4
          clear c4
          by_cases c11 : 0 ≤ x7_1
          · rw [if_pos c11] at H
            have c11b0 : decide (0 ≤ x7_1) = true := decide_eq_true c11
            clear c11
            by_cases c12 : (rd l0 x7_1) < x6_1
            · rw [if_pos c12] at H
              have c12b0 : decide ((rd l0 x7_1) < x6_1) = true := decide_eq_true c12
              clear c12
              by_cases c13 : x5_1.length < 17592186044416
              · rw [if_pos c13] at H
                have LMc13 := Aside0.mk c13
                clear c13
                obtain ⟨y151, hy151⟩ : ∃ y_ : List Int, y_ = (x5_1 ++ [IntKind.u64.wrap ((IntKind.u64.wrap ((rd l0 x7_1) + 4294967296)) - x6_1)]) := ⟨_, rfl⟩
                replace H : (spec_natSub.l0 k1 l0 l1 y151 1 (wrap64 (x7_1 + 1))) = some r := by first | (rw [hy151]; with_reducible exact H) | (have H2_ := (Option.bind_some _ _).symm.trans H; rw [hy151]; with_reducible exact H2_) | (have H2_ := (Option.bind_some _ _).symm.trans H; with_reducible exact H2_) | with_reducible exact H | (rw [hy151]; exact H) | exact H
                have Ny151 := Aside0.mk hy151
                clear hy151
                have H' := Aside0.mk H
                clear H
                have p150 : 0 ≤ (x7_1 : Int) := of_decide_eq_true (by first | (with_reducible assumption) | assumption)
                have q150 : x7_1 < (l0.length : Int) := of_decide_eq_true (by first | (with_reducible assumption) | assumption)
                obtain ⟨ad150, e150, hx150_0⟩ := Kd.at_int HR0.out x7_1 p150 q150
                cases e150
                replace hx150_0 := (HB.out.cell (World.block_lt_of_cell? w _ hx150_0)).trans hx150_0
                replace p150 := eq_true p150
                replace q150 := eq_true q150
                go_wp2_with (first | ((with_reducible refine gate_builtin (b := .append) (xs := #[.tmp 36, .tmp 40]) rfl ?_); at_builtin; refine Kd.R_append (Kd.int .u64) (w0 := w) w.heap.size rfl (.tmp 36) (.tmp 40) 55 40 (.int .u64 0) 8 rfl Tryd.underlying55 info40 rfl (by decide) (by omega) u5 x5_1 (IntKind.u64.wrap ((IntKind.u64.wrap ((rd l0 x7_1) + 4294967296)) - x6_1)) [.int .u64 (IntKind.u64.wrap ((IntKind.u64.wrap ((rd l0 x7_1) + 4294967296)) - x6_1))] (fun _ => True) (fun _ => False) rfl rfl ?aP (fun _ hk => hk.elim) ?aF ?aO ?aB ?aS ?aL ?_; (case aP => exact rfl); (case aB => exact (by repeat (first | (with_reducible first | exact HB.out | apply below_alloc | apply pw_below_drewN | apply below_drew1) | exact HB.out))); (case aF => exact (fun _ _ => trivial)); (case aO => exact (by (with_reducible repeat (first | apply Kd.R_alloc | apply Kd.R_drewN | apply Kd.R_drew)); exact HO_5.out)); (case aS => exact (below_size (by repeat (first | (with_reducible first | exact HB.out | apply below_alloc | apply pw_below_drewN | apply below_drew1) | exact HB.out)))); (case aL => have := LMc13.out; omega); intro v152 w14 ho hb hg hat; rw [← Ny151.out] at ho; have n0_ := Aside0.mk (hb); have n1_ := Aside0.mk (ho); clear HB; clear HO_5; have HB := n0_; have HO153 := n1_; clear n0_ n1_; clear ho hb hg hat))
                go_roundg k1
                case measure => have := HK1.out; omega
                case rel => exact ⟨(y151), (1), (wrap64 (x7_1 + 1)), (by first | rfl | (simp; done) | (simp [*]; done)), (by first | rfl | (simp; done) | (simp [*]; done)), H', ⟨by have := HK1.out; omega⟩, ⟨by (with_reducible repeat (first | apply Kd.R_alloc | apply Kd.R_drewN | apply Kd.R_drew)); exact HO153.out⟩, ⟨by repeat (first | (with_reducible first | exact HB.out | apply below_alloc | apply pw_below_drewN | apply below_drew1) | exact HB.out)⟩⟩
              · rw [if_neg c13] at H
                exact absurd H (by simp)
            · rw [if_neg c12] at H
              have c12b0 : decide ((rd l0 x7_1) < x6_1) = false := decide_eq_false c12
              clear c12
              by_cases c15 : x5_1.length < 17592186044416
              · rw [if_pos c15] at H
                have LMc15 := Aside0.mk c15
                clear c15
                obtain ⟨y154, hy154⟩ : ∃ y_ : List Int, y_ = (x5_1 ++ [IntKind.u64.wrap ((rd l0 x7_1) - x6_1)]) := ⟨_, rfl⟩
                replace H : (spec_natSub.l0 k1 l0 l1 y154 0 (wrap64 (x7_1 + 1))) = some r := by first | (rw [hy154]; with_reducible exact H) | (have H2_ := (Option.bind_some _ _).symm.trans H; rw [hy154]; with_reducible exact H2_) | (have H2_ := (Option.bind_some _ _).symm.trans H; with_reducible exact H2_) | with_reducible exact H | (rw [hy154]; exact H) | exact H
                have Ny154 := Aside0.mk hy154
                clear hy154
                have H' := Aside0.mk H
                clear H
                have p150 : 0 ≤ (x7_1 : Int) := of_decide_eq_true (by first | (with_reducible assumption) | assumption)
                have q150 : x7_1 < (l0.length : Int) := of_decide_eq_true (by first | (with_reducible assumption) | assumption)
                obtain ⟨ad150, e150, hx150_0⟩ := Kd.at_int HR0.out x7_1 p150 q150
                cases e150
                replace hx150_0 := (HB.out.cell (World.block_lt_of_cell? w _ hx150_0)).trans hx150_0
                replace p150 := eq_true p150
                replace q150 := eq_true q150
                go_wp2_with (first | ((with_reducible refine gate_builtin (b := .append) (xs := #[.tmp 36, .tmp 40]) rfl ?_); at_builtin; refine Kd.R_append (Kd.int .u64) (w0 := w) w.heap.size rfl (.tmp 36) (.tmp 40) 55 40 (.int .u64 0) 8 rfl Tryd.underlying55 info40 rfl (by decide) (by omega) u5 x5_1 (IntKind.u64.wrap ((rd l0 x7_1) - x6_1)) [.int .u64 (IntKind.u64.wrap ((rd l0 x7_1) - x6_1))] (fun _ => True) (fun _ => False) rfl rfl ?aP (fun _ hk => hk.elim) ?aF ?aO ?aB ?aS ?aL ?_; (case aP => exact rfl); (case aB => exact (by repeat (first | (with_reducible first | exact HB.out | apply below_alloc | apply pw_below_drewN | apply below_drew1) | exact HB.out))); (case aF => exact (fun _ _ => trivial)); (case aO => exact (by (with_reducible repeat (first | apply Kd.R_alloc | apply Kd.R_drewN | apply Kd.R_drew)); exact HO_5.out)); (case aS => exact (below_size (by repeat (first | (with_reducible first | exact HB.out | apply below_alloc | apply pw_below_drewN | apply below_drew1) | exact HB.out)))); (case aL => have := LMc15.out; omega); intro v155 w16 ho hb hg hat; rw [← Ny154.out] at ho; have n0_ := Aside0.mk (hb); have n1_ := Aside0.mk (ho); clear HB; clear HO_5; have HB := n0_; have HO156 := n1_; clear n0_ n1_; clear ho hb hg hat))
                go_roundg k1
                case measure => have := HK1.out; omega
                case rel => exact ⟨(y154), (0), (wrap64 (x7_1 + 1)), (by first | rfl | (simp; done) | (simp [*]; done)), (by first | rfl | (simp; done) | (simp [*]; done)), H', ⟨by have := HK1.out; omega⟩, ⟨by (with_reducible repeat (first | apply Kd.R_alloc | apply Kd.R_drewN | apply Kd.R_drew)); exact HO156.out⟩, ⟨by repeat (first | (with_reducible first | exact HB.out | apply below_alloc | apply pw_below_drewN | apply below_drew1) | exact HB.out)⟩⟩
              · rw [if_neg c15] at H
                exact absurd H (by simp)
          · rw [if_neg c11] at H
            exact absurd H (by simp)
      · rw [if_neg c3] at H
        have c3b0 : decide (x7_1 < (l0.length : Int)) = false := decide_eq_false c3
        clear c3
        replace H := Option.bind_eq_some_iff.mp H
        obtain ⟨t139, A170, H⟩ := H
        replace H : (some t139) = some r := H
        have A17 := Aside0.mk A170
        clear A170
        obtain rfl := Option.some.inj H
        obtain ⟨Ao18, co18, eo18⟩ := Kd.R_slice HO_5.out
        subst eo18
        go_wp2_with (first | ((with_reducible refine gate_callee (f := 68) rfl ?_); refine goesL_ (some 43) rfl rfl Tryd.func68 (by kernel_rfl) rfl #[.slice Ao18 x5_1.length co18] rfl (by (try simp only [List.map_toArray, List.map_cons, List.map_nil]); first | done | rfl | (simp only [List.length_drop, List.length_take]; rfl)) ?_; (with_reducible refine (spec_natTrim.calls k1 (fun k_ => some k_ = (.slice Ao18 x5_1.length co18 : Value).ownBlock) (.slice Ao18 x5_1.length co18) x5_1 t139 w _ ?side1 ?side2 A17.out).mono ?_); (case side1 => repeat (first | (with_reducible first | exact HB.out | apply below_alloc | apply pw_below_drewN | apply below_drew1) | exact HB.out)); (case side2 => exact Kd.R_tight rfl HO_5.out); rintro e w19 ⟨v140, rfl, ho0, hb, hkp⟩; refine ⟨_, rfl, ?_⟩; have n0_ := Aside0.mk (Kd.R_mono (ok' := fun k_ => True) ho0 (fun k_ hk_ => trivial)); have n1_ := Aside0.mk (hb); clear HB; clear HO_5; have HO141 := n0_; have HB := n1_; clear n0_ n1_; (try clear hb); (try clear hkp); (try clear ho0)))
        go_ret
        exact ⟨_, by first | rfl | (simp [errW_none, errW_some] <;> rfl) | (simp [*, errW_none, errW_some] <;> rfl), by (with_reducible repeat (first | apply Kd.R_alloc | apply Kd.R_drewN | apply Kd.R_drew)); exact HO141.out, by repeat (first | (with_reducible first | exact HB.out | apply below_alloc | apply pw_below_drewN | apply below_drew1) | exact HB.out)⟩

/-! ### spec_natDiv: function 66 -/
def spec_natDiv.l0 : Nat → List Int → List Int → Int → Int → Option (Int × List Int)
  | 0, _, _, _, _ => none
  | k + 1, x0, x1, x6, x7 => if x7 ≥ 0 then ((spec_natShift.f k x1 x7).bind fun t159 => ((spec_natCmp.f k x0 t159).bind fun t162 => (if t162 ≥ 0 then ((spec_natSub.f k x0 t159).bind fun t163 => (spec_natDiv.l0 k t163 x1 (IntKind.u64.wrap ((IntKind.u64.wrap (x6 * 2)) + 1)) (wrap64 (x7 - 1)))) else (spec_natDiv.l0 k x0 x1 (IntKind.u64.wrap (x6 * 2)) (wrap64 (x7 - 1)))))) else (some (x6, x0))
def spec_natDiv.f (k : Nat) (l0 : List Int) (l1 : List Int) : Option (Int × List Int) := (spec_natBits.f k l0).bind fun t157 => ((spec_natBits.f k l1).bind fun t158 => (spec_natDiv.l0 k l0 l1 0 (wrap64 (t157 - t158))))
theorem spec_natDiv.mono_l : ∀ k, (∀ y0 y1 y2 y3, LeO (spec_natDiv.l0 k y0 y1 y2 y3) (spec_natDiv.l0 (k + 1) y0 y1 y2 y3))
  | 0 => fun _ _ _ _ r h => by simp [spec_natDiv.l0] at h
  | k + 1 => by
    have ih0 := spec_natDiv.mono_l k
    · intro y0 y1 y2 y3
      unfold spec_natDiv.l0
      repeat' first
      | (with_reducible exact ih0 _ _ _ _)
      | (with_reducible exact spec_natBits.mono _ _)
      | (with_reducible exact spec_natCmp.mono _ _ _)
      | (with_reducible exact spec_natShift.mono _ _ _)
      | (with_reducible exact spec_natSub.mono _ _ _)
      | (with_reducible exact LeO.refl _)
      | (with_reducible exact LeO.none _)
      | (with_reducible refine LeO.ite ?_ ?_)
      | (with_reducible refine LeO.bind ?_ (fun _ => ?_))
      | exact ih0 _ _ _ _
      | exact spec_natBits.mono _ _
      | exact spec_natCmp.mono _ _ _
      | exact spec_natShift.mono _ _ _
      | exact spec_natSub.mono _ _ _
      | exact LeO.none _
      | refine LeO.ite ?_ ?_
      | refine LeO.bind ?_ (fun _ => ?_)
theorem spec_natDiv.mono : ∀ a0 a1 k, LeO (spec_natDiv.f k a0 a1) (spec_natDiv.f (k + 1) a0 a1) := by
  intro a0 a1 k
  have ih0 := spec_natDiv.mono_l k
  unfold spec_natDiv.f
  repeat' first
      | (with_reducible exact ih0 _ _ _ _)
      | (with_reducible exact spec_natBits.mono _ _)
      | (with_reducible exact spec_natCmp.mono _ _ _)
      | (with_reducible exact spec_natShift.mono _ _ _)
      | (with_reducible exact spec_natSub.mono _ _ _)
      | (with_reducible exact LeO.refl _)
      | (with_reducible exact LeO.none _)
      | (with_reducible refine LeO.ite ?_ ?_)
      | (with_reducible refine LeO.bind ?_ (fun _ => ?_))
      | exact ih0 _ _ _ _
      | exact spec_natBits.mono _ _
      | exact spec_natCmp.mono _ _ _
      | exact spec_natShift.mono _ _ _
      | exact spec_natSub.mono _ _ _
      | exact LeO.none _
      | refine LeO.ite ?_ ?_
      | refine LeO.bind ?_ (fun _ => ?_)
set_option maxHeartbeats 8000000 in
set_option maxRecDepth 100000 in
theorem spec_natDiv.calls (k : Nat) (P0_ : Nat → Prop) (A0 : Option Addr) (c0 : Nat) (l0 : List Int) (A1 : Option Addr) (c1 : Nat) (l1 : List Int) (r1 : Int) (r2 : List Int) (w : World) (hs0 : Kd.V (Kd.int .u64) 40 w w.heap.size (fun k_ => P0_ k_) (.slice A0 l0.length c0) l0) (hr1 : Kd.C (Kd.int .u64) w A1 l1.length l1) (hc1 : l1.length ≤ c1) (h : spec_natDiv.f k l0 l1 = some (r1, r2)) :
    Calls Tryd.prog 66 #[.slice A0 l0.length c0, .slice A1 l1.length c1] w fun e w' => ∃ v1_ : Value, e = .returned (.tuple #[.int .u64 r1, v1_]) ∧ Kd.V (Kd.int .u64) 40 w' w.heap.size (fun k_ => (P0_ k_ ∨ w.heap.size ≤ k_)) v1_ r2 ∧ Below w.heap.size w w' := by
  have HO0 := Aside0.mk (show Kd.V (Kd.int .u64) 40 w w.heap.size (fun k_ => (P0_ k_ ∨ w.heap.size ≤ k_)) (.slice A0 l0.length c0) l0 from Kd.V_mono hs0 (fun k_ hk => .inl hk))
  have HR1 := Aside0.mk hr1
  have HC1 := Aside0.mk hc1
  clear hr1 hc1
  have HB := Aside0.mk (Below.refl w.heap.size w)
  have H : ((spec_natBits.f k l0).bind fun t157 => ((spec_natBits.f k l1).bind fun t158 => (spec_natDiv.l0 k l0 l1 0 (wrap64 (t157 - t158))))) = some (r1, r2) := h
  clear h
  replace H := Option.bind_eq_some_iff.mp H
  obtain ⟨t157, A30, H⟩ := H
  replace H : ((spec_natBits.f k l1).bind fun t158 => (spec_natDiv.l0 k l0 l1 0 (wrap64 (t157 - t158)))) = some (r1, r2) := H
  have A3 := Aside0.mk A30
  clear A30
  replace H := Option.bind_eq_some_iff.mp H
  obtain ⟨t158, A40, H⟩ := H
  replace H : (spec_natDiv.l0 k l0 l1 0 (wrap64 (t157 - t158))) = some (r1, r2) := H
  have A4 := Aside0.mk A40
  clear A40
  have H' := Aside0.mk H
  clear H
  go_enter Tryd.func66, Tryd.ntmps66
  go_wp2_with (first | ((with_reducible refine gate_callee (f := 64) rfl ?_); refine goesL_ (some 10) rfl rfl Tryd.func64 (by kernel_rfl) rfl #[.slice A0 l0.length c0] rfl (by (try simp only [List.map_toArray, List.map_cons, List.map_nil]); first | done | rfl | (simp only [List.length_drop, List.length_take]; rfl)) ?_; (with_reducible refine (spec_natBits.calls k _ _ l0 t157 _ ?side1 ?side2 A3.out).mono ?_); (case side1 => repeat (first | exact (Kd.V_reads' HO0.out).2.2 | (with_reducible refine Kd.C_alloc ?_ _) | (with_reducible refine Kd.C_drewN ?_ _) | (with_reducible refine Kd.C_drew ?_))); (case side2 => exact (Kd.V_reads' HO0.out).2.1); rintro e w' ⟨rfl, ⟨nd, rfl⟩⟩; refine ⟨_, rfl, ?_⟩) | ((with_reducible refine gate_callee (f := 64) rfl ?_); refine goesL_ (some 12) rfl rfl Tryd.func64 (by kernel_rfl) rfl #[.slice A1 l1.length c1] rfl (by (try simp only [List.map_toArray, List.map_cons, List.map_nil]); first | done | rfl | (simp only [List.length_drop, List.length_take]; rfl)) ?_; (with_reducible refine (spec_natBits.calls k _ _ l1 t158 _ ?side1 ?side2 A4.out).mono ?_); (case side1 => repeat (first | exact HR1.out | (with_reducible refine Kd.C_alloc ?_ _) | (with_reducible refine Kd.C_drewN ?_ _) | (with_reducible refine Kd.C_drew ?_))); (case side2 => exact HC1.out); rintro e w' ⟨rfl, ⟨nd, rfl⟩⟩; refine ⟨_, rfl, ?_⟩))
  go_loopg [0, 6, 7] k (fun kq v0 v6 v7 w' => ∃ (x0_1 : List Int) (x6_1 : Int) (x7_1 : Int), v6 = .int .u64 x6_1 ∧ v7 = .int .i64 x7_1 ∧ Aside0 (spec_natDiv.l0 kq x0_1 l1 x6_1 x7_1 = some (r1, r2)) ∧ Aside0 (kq ≤ k) ∧ Aside0 (Kd.V (Kd.int .u64) 40 w' w.heap.size (fun k_ => (P0_ k_ ∨ w.heap.size ≤ k_)) v0 x0_1) ∧ Aside0 (Below w.heap.size w w'))
  case atStart => exact ⟨(l0), (0), (wrap64 (t157 - t158)), (by first | rfl | (simp; done) | (simp [*]; done)), (by first | rfl | (simp; done) | (simp [*]; done)), H', ⟨Nat.le_refl _⟩, ⟨by (with_reducible repeat (first | apply Kd.V_alloc | apply Kd.V_drewN | apply Kd.V_drew)); exact HO0.out⟩, ⟨by repeat (first | (with_reducible first | exact HB.out | apply below_alloc | apply pw_below_drewN | apply below_drew1) | exact HB.out)⟩⟩
  case round =>
    clear H'
    try clear c1
    try clear p2
    obtain ⟨x0_1, x6_1, x7_1, rfl, rfl, HA, HK1, HO_0, HB⟩ := hrel
    cases gk with
    | zero => exact absurd HA.out (by simp [spec_natDiv.l0])
    | succ k1 =>
      have H := HA.out
      clear HA
      simp only [spec_natDiv.l0] at H
      by_cases c5 : x7_1 ≥ 0
      · rw [if_pos c5] at H
        have c5b0 : decide (0 ≤ x7_1) = true := decide_eq_true c5
        clear c5
        replace H := Option.bind_eq_some_iff.mp H
        obtain ⟨t159, A60, H⟩ := H
        replace H : ((spec_natCmp.f k1 x0_1 t159).bind fun t162 => (if t162 ≥ 0 then ((spec_natSub.f k1 x0_1 t159).bind fun t163 => (spec_natDiv.l0 k1 t163 l1 (IntKind.u64.wrap ((IntKind.u64.wrap (x6_1 * 2)) + 1)) (wrap64 (x7_1 - 1)))) else (spec_natDiv.l0 k1 x0_1 l1 (IntKind.u64.wrap (x6_1 * 2)) (wrap64 (x7_1 - 1))))) = some (r1, r2) := H
        have A6 := Aside0.mk A60
        clear A60
        replace H := Option.bind_eq_some_iff.mp H
        obtain ⟨t162, A70, H⟩ := H
        replace H : (if t162 ≥ 0 then ((spec_natSub.f k1 x0_1 t159).bind fun t163 => (spec_natDiv.l0 k1 t163 l1 (IntKind.u64.wrap ((IntKind.u64.wrap (x6_1 * 2)) + 1)) (wrap64 (x7_1 - 1)))) else (spec_natDiv.l0 k1 x0_1 l1 (IntKind.u64.wrap (x6_1 * 2)) (wrap64 (x7_1 - 1)))) = some (r1, r2) := H
        have A7 := Aside0.mk A70
        clear A70
        by_cases c8 : t162 ≥ 0
        · rw [if_pos c8] at H
          have c8b0 : decide (0 ≤ t162) = true := decide_eq_true c8
          clear c8
          replace H := Option.bind_eq_some_iff.mp H
          obtain ⟨t163, A90, H⟩ := H
          replace H : (spec_natDiv.l0 k1 t163 l1 (IntKind.u64.wrap ((IntKind.u64.wrap (x6_1 * 2)) + 1)) (wrap64 (x7_1 - 1))) = some (r1, r2) := H
          have A9 := Aside0.mk A90
          clear A90
          have H' := Aside0.mk H
          clear H
          go_wp2_with (first | ((with_reducible refine gate_callee (f := 65) rfl ?_); refine goesL_ (some 22) rfl rfl Tryd.func65 (by kernel_rfl) rfl #[.slice A1 l1.length c1, .int .i64 x7_1] rfl (by (try simp only [List.map_toArray, List.map_cons, List.map_nil]); first | done | rfl | (simp only [List.length_drop, List.length_take]; rfl)) ?_; (with_reducible refine (spec_natShift.calls k1 _ _ l1 x7_1 t159 _ ?side1 ?side2 A6.out).mono ?_); (case side1 => repeat (first | exact (Kd.C_below HR1.out HB.out) | (with_reducible refine Kd.C_alloc ?_ _) | (with_reducible refine Kd.C_drewN ?_ _) | (with_reducible refine Kd.C_drew ?_))); (case side2 => exact HC1.out); rintro e w10 ⟨v160, rfl, ho0, hb⟩; refine ⟨_, rfl, ?_⟩; have n0_ := Aside0.mk (Kd.V_elder' (by (with_reducible repeat (first | apply Kd.V_alloc | apply Kd.V_drewN | apply Kd.V_drew)); exact HO_0.out) (Kd.R_base ho0) hb); have n1_ := Aside0.mk (Kd.R_lower (Kd.R_newM (M := fun k_ => (w.heap.size ≤ k_)) ho0 (below_size (by repeat (first | (with_reducible first | exact HB.out | apply below_alloc | apply pw_below_drewN | apply below_drew1) | exact HB.out))) (fun k_ h_ => h_)) (below_size (by repeat (first | (with_reducible first | exact HB.out | apply below_alloc | apply pw_below_drewN | apply below_drew1) | exact HB.out)))); have n2_ := Aside0.mk (below_step (by repeat (first | (with_reducible first | exact HB.out | apply below_alloc | apply pw_below_drewN | apply below_drew1) | exact HB.out)) hb); clear HO_0; clear HB; have HO_0 := n0_; have HO161 := n1_; have HB := n2_; clear n0_ n1_ n2_; (try clear hb); (try clear hb2); (try clear hk); (try clear hi); (try clear ho0); obtain ⟨Ao11, co11, eo11⟩ := Kd.V_slice HO_0.out; subst eo11; obtain ⟨Ao12, co12, eo12⟩ := Kd.R_slice HO161.out; subst eo12) | ((with_reducible refine gate_callee (f := 67) rfl ?_); refine goesL_ (some 25) rfl rfl Tryd.func67 (by kernel_rfl) rfl #[.slice Ao11 x0_1.length co11, .slice Ao12 t159.length co12] rfl (by (try simp only [List.map_toArray, List.map_cons, List.map_nil]); first | done | rfl | (simp only [List.length_drop, List.length_take]; rfl)) ?_; (with_reducible refine (spec_natCmp.calls k1 _ _ x0_1 _ _ t159 t162 _ ?side1 ?side2 ?side3 ?side4 A7.out).mono ?_); (case side1 => repeat (first | exact (Kd.V_reads' HO_0.out).2.2 | (with_reducible refine Kd.C_alloc ?_ _) | (with_reducible refine Kd.C_drewN ?_ _) | (with_reducible refine Kd.C_drew ?_))); (case side2 => exact (Kd.V_reads' HO_0.out).2.1); (case side3 => repeat (first | exact (Kd.R_reads' HO161.out).2.2 | (with_reducible refine Kd.C_alloc ?_ _) | (with_reducible refine Kd.C_drewN ?_ _) | (with_reducible refine Kd.C_drew ?_))); (case side4 => exact (Kd.R_reads' HO161.out).2.1); rintro e w' ⟨rfl, ⟨nd, rfl⟩⟩; refine ⟨_, rfl, ?_⟩) | ((with_reducible refine gate_callee (f := 78) rfl ?_); refine goesL_ (some 29) rfl rfl Tryd.func78 (by kernel_rfl) rfl #[.slice Ao11 x0_1.length co11, .slice Ao12 t159.length co12] rfl (by (try simp only [List.map_toArray, List.map_cons, List.map_nil]); first | done | rfl | (simp only [List.length_drop, List.length_take]; rfl)) ?_; (with_reducible refine (spec_natSub.calls k1 _ _ x0_1 _ _ t159 t163 _ ?side1 ?side2 ?side3 ?side4 A9.out).mono ?_); (case side1 => repeat (first | exact (Kd.V_reads' HO_0.out).2.2 | (with_reducible refine Kd.C_alloc ?_ _) | (with_reducible refine Kd.C_drewN ?_ _) | (with_reducible refine Kd.C_drew ?_))); (case side2 => exact (Kd.V_reads' HO_0.out).2.1); (case side3 => repeat (first | exact (Kd.R_reads' HO161.out).2.2 | (with_reducible refine Kd.C_alloc ?_ _) | (with_reducible refine Kd.C_drewN ?_ _) | (with_reducible refine Kd.C_drew ?_))); (case side4 => exact (Kd.R_reads' HO161.out).2.1); rintro e w13 ⟨v164, rfl, ho0, hb⟩; refine ⟨_, rfl, ?_⟩; have n0_ := Aside0.mk (Kd.V_elder' (by (with_reducible repeat (first | apply Kd.V_alloc | apply Kd.V_drewN | apply Kd.V_drew)); exact HO_0.out) (Kd.R_base ho0) hb); have n1_ := Aside0.mk (Kd.R_elder' (by (with_reducible repeat (first | apply Kd.R_alloc | apply Kd.R_drewN | apply Kd.R_drew)); exact HO161.out) (Kd.R_base ho0) hb); have n2_ := Aside0.mk (Kd.R_lower (Kd.R_new' (Kd.R_newM (M := fun k_ => (w.heap.size ≤ k_)) ho0 (below_size (by repeat (first | (with_reducible first | exact HB.out | apply below_alloc | apply pw_below_drewN | apply below_drew1) | exact HB.out))) (fun k_ h_ => h_)) (Kd.R_lt (by (with_reducible repeat (first | apply Kd.R_alloc | apply Kd.R_drewN | apply Kd.R_drew)); exact HO161.out))) (below_size (by repeat (first | (with_reducible first | exact HB.out | apply below_alloc | apply pw_below_drewN | apply below_drew1) | exact HB.out)))); have n3_ := Aside0.mk (below_step (by repeat (first | (with_reducible first | exact HB.out | apply below_alloc | apply pw_below_drewN | apply below_drew1) | exact HB.out)) hb); clear HO_0; clear HO161; clear HB; have HO_0 := n0_; have HO161 := n1_; have HO165 := n2_; have HB := n3_; clear n0_ n1_ n2_ n3_; (try clear hb); (try clear hb2); (try clear hk); (try clear hi); (try clear ho0)))
          go_roundg k1
          case measure => have := HK1.out; omega
          case rel => exact ⟨(t163), (IntKind.u64.wrap ((IntKind.u64.wrap (x6_1 * 2)) + 1)), (wrap64 (x7_1 - 1)), (by first | rfl | (simp; done) | (simp [*]; done)), (by first | rfl | (simp; done) | (simp [*]; done)), H', ⟨by have := HK1.out; omega⟩, ⟨Kd.V_mono (Kd.R_V (by (with_reducible repeat (first | apply Kd.R_alloc | apply Kd.R_drewN | apply Kd.R_drew)); exact Kd.R_mono HO165.out (fun _ hk => hk.1.1))) (fun k_ hk => by first | exact ⟨(.inr (hk.1)), hk.2⟩ | exact (.inr (hk)))⟩, ⟨by repeat (first | (with_reducible first | exact HB.out | apply below_alloc | apply pw_below_drewN | apply below_drew1) | exact HB.out)⟩⟩
        · rw [if_neg c8] at H
          have c8b0 : decide (0 ≤ t162) = false := decide_eq_false c8
          clear c8
          have H' := Aside0.mk H
          clear H
          go_wp2_with (first | ((with_reducible refine gate_callee (f := 65) rfl ?_); refine goesL_ (some 22) rfl rfl Tryd.func65 (by kernel_rfl) rfl #[.slice A1 l1.length c1, .int .i64 x7_1] rfl (by (try simp only [List.map_toArray, List.map_cons, List.map_nil]); first | done | rfl | (simp only [List.length_drop, List.length_take]; rfl)) ?_; (with_reducible refine (spec_natShift.calls k1 _ _ l1 x7_1 t159 _ ?side1 ?side2 A6.out).mono ?_); (case side1 => repeat (first | exact (Kd.C_below HR1.out HB.out) | (with_reducible refine Kd.C_alloc ?_ _) | (with_reducible refine Kd.C_drewN ?_ _) | (with_reducible refine Kd.C_drew ?_))); (case side2 => exact HC1.out); rintro e w14 ⟨v160, rfl, ho0, hb⟩; refine ⟨_, rfl, ?_⟩; have n0_ := Aside0.mk (Kd.V_elder' (by (with_reducible repeat (first | apply Kd.V_alloc | apply Kd.V_drewN | apply Kd.V_drew)); exact HO_0.out) (Kd.R_base ho0) hb); have n1_ := Aside0.mk (Kd.R_lower (Kd.R_newM (M := fun k_ => (w.heap.size ≤ k_)) ho0 (below_size (by repeat (first | (with_reducible first | exact HB.out | apply below_alloc | apply pw_below_drewN | apply below_drew1) | exact HB.out))) (fun k_ h_ => h_)) (below_size (by repeat (first | (with_reducible first | exact HB.out | apply below_alloc | apply pw_below_drewN | apply below_drew1) | exact HB.out)))); have n2_ := Aside0.mk (below_step (by repeat (first | (with_reducible first | exact HB.out | apply below_alloc | apply pw_below_drewN | apply below_drew1) | exact HB.out)) hb); clear HO_0; clear HB; have HO_0 := n0_; have HO161 := n1_; have HB := n2_; clear n0_ n1_ n2_; (try clear hb); (try clear hb2); (try clear hk); (try clear hi); (try clear ho0); obtain ⟨Ao15, co15, eo15⟩ := Kd.V_slice HO_0.out; subst eo15; obtain ⟨Ao16, co16, eo16⟩ := Kd.R_slice HO161.out; subst eo16) | ((with_reducible refine gate_callee (f := 67) rfl ?_); refine goesL_ (some 25) rfl rfl Tryd.func67 (by kernel_rfl) rfl #[.slice Ao15 x0_1.length co15, .slice Ao16 t159.length co16] rfl (by (try simp only [List.map_toArray, List.map_cons, List.map_nil]); first | done | rfl | (simp only [List.length_drop, List.length_take]; rfl)) ?_; (with_reducible refine (spec_natCmp.calls k1 _ _ x0_1 _ _ t159 t162 _ ?side1 ?side2 ?side3 ?side4 A7.out).mono ?_); (case side1 => repeat (first | exact (Kd.V_reads' HO_0.out).2.2 | (with_reducible refine Kd.C_alloc ?_ _) | (with_reducible refine Kd.C_drewN ?_ _) | (with_reducible refine Kd.C_drew ?_))); (case side2 => exact (Kd.V_reads' HO_0.out).2.1); (case side3 => repeat (first | exact (Kd.R_reads' HO161.out).2.2 | (with_reducible refine Kd.C_alloc ?_ _) | (with_reducible refine Kd.C_drewN ?_ _) | (with_reducible refine Kd.C_drew ?_))); (case side4 => exact (Kd.R_reads' HO161.out).2.1); rintro e w' ⟨rfl, ⟨nd, rfl⟩⟩; refine ⟨_, rfl, ?_⟩))
          go_roundg k1
          case measure => have := HK1.out; omega
          case rel => exact ⟨(x0_1), (IntKind.u64.wrap (x6_1 * 2)), (wrap64 (x7_1 - 1)), (by first | rfl | (simp; done) | (simp [*]; done)), (by first | rfl | (simp; done) | (simp [*]; done)), H', ⟨by have := HK1.out; omega⟩, ⟨by (with_reducible repeat (first | apply Kd.V_alloc | apply Kd.V_drewN | apply Kd.V_drew)); exact Kd.V_mono HO_0.out (fun _ hk => hk.1)⟩, ⟨by repeat (first | (with_reducible first | exact HB.out | apply below_alloc | apply pw_below_drewN | apply below_drew1) | exact HB.out)⟩⟩
      · rw [if_neg c5] at H
        have c5b0 : decide (0 ≤ x7_1) = false := decide_eq_false c5
        clear c5
        simp only [Option.some.injEq, Prod.mk.injEq] at H
        obtain ⟨rfl, rfl⟩ := H
        go_wp2
        go_ret2
        exact ⟨_, by first | rfl | (simp [errW_none, errW_some] <;> rfl) | (simp [*, errW_none, errW_some] <;> rfl), by (with_reducible repeat (first | apply Kd.V_alloc | apply Kd.V_drewN | apply Kd.V_drew)); exact HO_0.out, by repeat (first | (with_reducible first | exact HB.out | apply below_alloc | apply pw_below_drewN | apply below_drew1) | exact HB.out)⟩

/-! ### spec_natSmall: function 49 -/
def spec_natSmall.f (k : Nat) (a0 : Int) : Option (List Int) := (spec_natTrim.f k (([IntKind.u64.wrap (a0)] : List Int))).bind fun t169 => (some t169)
theorem spec_natSmall.mono : ∀ a0 k, LeO (spec_natSmall.f k a0) (spec_natSmall.f (k + 1) a0) := by
  intro a0 k
  unfold spec_natSmall.f
  repeat' first
      | (with_reducible exact spec_natTrim.mono _ _)
      | (with_reducible exact LeO.refl _)
      | (with_reducible exact LeO.none _)
      | (with_reducible refine LeO.ite ?_ ?_)
      | (with_reducible refine LeO.bind ?_ (fun _ => ?_))
      | exact spec_natTrim.mono _ _
      | exact LeO.none _
      | refine LeO.ite ?_ ?_
      | refine LeO.bind ?_ (fun _ => ?_)
set_option maxHeartbeats 8000000 in
set_option maxRecDepth 100000 in
theorem spec_natSmall.calls (k : Nat) (a0 : Int) (r : List Int) (w : World) (h : spec_natSmall.f k a0 = some r) :
    Calls Tryd.prog 49 #[.int .i64 a0] w fun e w' => ∃ v0_ : Value, e = .returned (v0_) ∧ Kd.R (Kd.int .u64) 40 w' w.heap.size (fun _ => True) v0_ r ∧ Below w.heap.size w w' := by
  have HB := Aside0.mk (Below.refl w.heap.size w)
  have H : ((spec_natTrim.f k (([IntKind.u64.wrap (a0)] : List Int))).bind fun t169 => (some t169)) = some r := h
  clear h
  obtain ⟨y166, hy166⟩ : ∃ y_ : List Int, y_ = (([IntKind.u64.wrap (a0)] : List Int)) := ⟨_, rfl⟩
  replace H : ((spec_natTrim.f k y166).bind fun t169 => (some t169)) = some r := by first | (rw [hy166]; with_reducible exact H) | (have H2_ := (Option.bind_some _ _).symm.trans H; rw [hy166]; with_reducible exact H2_) | (have H2_ := (Option.bind_some _ _).symm.trans H; with_reducible exact H2_) | with_reducible exact H | (rw [hy166]; exact H) | exact H
  have Ny166 := Aside0.mk hy166
  clear hy166
  replace H := Option.bind_eq_some_iff.mp H
  obtain ⟨t169, A20, H⟩ := H
  replace H : (some t169) = some r := H
  have A2 := Aside0.mk A20
  clear A20
  obtain rfl := Option.some.inj H
  go_enter Tryd.func49, Tryd.ntmps49
  go_wp2_with (first | ((with_reducible refine gate_dst (N := 5) rfl ?_); refine Kd.R_lit (Kd.int .u64) _ 40 ?hg (N := 5) ?hd (xs := ([IntKind.u64.wrap (a0)] : List Int)) (inner := [.int .u64 (IntKind.u64.wrap (a0))]) (ok := fun _ => True) (okp := fun _ => True) ?hr ?hp (fun _ hk => hk) trivial (Below.refl _ _) (Nat.le_refl _) (by simp) ?_; (case hd => rfl); (case hg => rfl); (case hr => first | (go_simp; done) | (go_simp; rfl)); (case hp => exact (Reps.one (show Kd.M (Kd.int .u64) _ _ _ (IntKind.u64.wrap (a0)) [.int .u64 (IntKind.u64.wrap (a0))] from rfl) (Reps.none _ _))); intro v167 w3 ho4 hb hg_ hnew_; clear hg_ hnew_; (first | rw [← Ny166.out] at ho4 | (simp only [Int.reduceToNat] at ho4; rw [← Ny166.out] at ho4)); have n0_ := Aside0.mk (Kd.R_lower ho4 (below_size (by repeat (first | (with_reducible first | exact HB.out | apply below_alloc | apply pw_below_drewN | apply below_drew1) | exact HB.out)))); have n1_ := Aside0.mk (below_step (by repeat (first | (with_reducible first | exact HB.out | apply below_alloc | apply pw_below_drewN | apply below_drew1) | exact HB.out)) hb); clear HB; have HO168 := n0_; have HB := n1_; clear n0_ n1_; clear hb ho4; obtain ⟨Ao5, co5, eo5⟩ := Kd.R_slice HO168.out; subst eo5) | ((with_reducible refine gate_callee (f := 68) rfl ?_); refine goesL_ (some 6) rfl rfl Tryd.func68 (by kernel_rfl) rfl #[.slice Ao5 y166.length co5] rfl (by (try simp only [List.map_toArray, List.map_cons, List.map_nil]); first | done | rfl | (simp only [List.length_drop, List.length_take]; rfl)) ?_; (with_reducible refine (spec_natTrim.calls k (fun k_ => some k_ = (.slice Ao5 y166.length co5 : Value).ownBlock) (.slice Ao5 y166.length co5) y166 t169 w _ ?side1 ?side2 A2.out).mono ?_); (case side1 => repeat (first | (with_reducible first | exact HB.out | apply below_alloc | apply pw_below_drewN | apply below_drew1) | exact HB.out)); (case side2 => exact Kd.R_tight rfl HO168.out); rintro e w6 ⟨v170, rfl, ho0, hb, hkp⟩; refine ⟨_, rfl, ?_⟩; have n0_ := Aside0.mk (Kd.R_mono (ok' := fun k_ => True) ho0 (fun k_ hk_ => trivial)); have n1_ := Aside0.mk (hb); clear HB; clear HO168; have HO171 := n0_; have HB := n1_; clear n0_ n1_; (try clear hb); (try clear hkp); (try clear ho0)))
  go_ret
  exact ⟨_, by first | rfl | (simp [errW_none, errW_some] <;> rfl) | (simp [*, errW_none, errW_some] <;> rfl), by (with_reducible repeat (first | apply Kd.R_alloc | apply Kd.R_drewN | apply Kd.R_drew)); exact HO171.out, by repeat (first | (with_reducible first | exact HB.out | apply below_alloc | apply pw_below_drewN | apply below_drew1) | exact HB.out)⟩

/-! ### spec_exactOf: function 69 -/
def spec_exactOf.j0 : Nat → Int → Int → Option (List Int × List Int)
  | 0, _, _ => none
  | k + 1, x4, x5 => (spec_natTrim.f k (([Go.bits .and .u64 x5 4294967295, x5 / 4294967296] : List Int))).bind fun t175 => (if x4 ≥ 1075 then ((spec_natShift.f k t175 (wrap64 (x4 - 1075))).bind fun t178 => ((spec_natSmall.f k 1).bind fun t181 => (some (t178, t181)))) else ((spec_natSmall.f k 1).bind fun t184 => ((spec_natShift.f k t184 (wrap64 (1075 - x4))).bind fun t187 => (some (t175, t187)))))
def spec_exactOf.f (k : Nat) (a0 : Int) : Option (List Int × List Int) := if (wrap64 (Go.bits .and .u64 (a0 / 4503599627370496) 2047)) = 0 then (spec_exactOf.j0 k 1 (Go.bits .and .u64 a0 4503599627370495)) else (spec_exactOf.j0 k (wrap64 (Go.bits .and .u64 (a0 / 4503599627370496) 2047)) (Go.bits .or .u64 (Go.bits .and .u64 a0 4503599627370495) 4503599627370496))
theorem spec_exactOf.mono_l : ∀ k, (∀ y0 y1, LeO (spec_exactOf.j0 k y0 y1) (spec_exactOf.j0 (k + 1) y0 y1))
  | 0 => fun _ _ r h => by simp [spec_exactOf.j0] at h
  | k + 1 => by
    have ih0 := spec_exactOf.mono_l k
    · intro y0 y1
      unfold spec_exactOf.j0
      repeat' first
      | (with_reducible exact ih0 _ _)
      | (with_reducible exact spec_natShift.mono _ _ _)
      | (with_reducible exact spec_natSmall.mono _ _)
      | (with_reducible exact spec_natTrim.mono _ _)
      | (with_reducible exact LeO.refl _)
      | (with_reducible exact LeO.none _)
      | (with_reducible refine LeO.ite ?_ ?_)
      | (with_reducible refine LeO.bind ?_ (fun _ => ?_))
      | exact ih0 _ _
      | exact spec_natShift.mono _ _ _
      | exact spec_natSmall.mono _ _
      | exact spec_natTrim.mono _ _
      | exact LeO.none _
      | refine LeO.ite ?_ ?_
      | refine LeO.bind ?_ (fun _ => ?_)
theorem spec_exactOf.mono : ∀ a0 k, LeO (spec_exactOf.f k a0) (spec_exactOf.f (k + 1) a0) := by
  intro a0 k
  have ih0 := spec_exactOf.mono_l k
  unfold spec_exactOf.f
  repeat' first
      | (with_reducible exact ih0 _ _)
      | (with_reducible exact spec_natShift.mono _ _ _)
      | (with_reducible exact spec_natSmall.mono _ _)
      | (with_reducible exact spec_natTrim.mono _ _)
      | (with_reducible exact LeO.refl _)
      | (with_reducible exact LeO.none _)
      | (with_reducible refine LeO.ite ?_ ?_)
      | (with_reducible refine LeO.bind ?_ (fun _ => ?_))
      | exact ih0 _ _
      | exact spec_natShift.mono _ _ _
      | exact spec_natSmall.mono _ _
      | exact spec_natTrim.mono _ _
      | exact LeO.none _
      | refine LeO.ite ?_ ?_
      | refine LeO.bind ?_ (fun _ => ?_)
set_option maxHeartbeats 8000000 in
set_option maxRecDepth 100000 in
theorem spec_exactOf.calls (k : Nat) (a0 : Int) (r1 : List Int) (r2 : List Int) (w : World) (h : spec_exactOf.f k a0 = some (r1, r2)) :
    Calls Tryd.prog 69 #[.int .u64 a0] w fun e w' => ∃ v0_ v1_ : Value, e = .returned (.tuple #[v0_, v1_]) ∧ Kd.R (Kd.int .u64) 40 w' w.heap.size (fun k_ => some k_ ≠ (v1_ : Value).ownBlock) v0_ r1 ∧ Kd.R (Kd.int .u64) 40 w' w.heap.size (fun k_ => some k_ ≠ (v0_ : Value).ownBlock) v1_ r2 ∧ Below w.heap.size w w' := by
  have HB := Aside0.mk (Below.refl w.heap.size w)
  have H : (if (wrap64 (Go.bits .and .u64 (a0 / 4503599627370496) 2047)) = 0 then (spec_exactOf.j0 k 1 (Go.bits .and .u64 a0 4503599627370495)) else (spec_exactOf.j0 k (wrap64 (Go.bits .and .u64 (a0 / 4503599627370496) 2047)) (Go.bits .or .u64 (Go.bits .and .u64 a0 4503599627370495) 4503599627370496))) = some (r1, r2) := h
  clear h
  have HC2 := Aside0.mk H
  clear H
  go_enter Tryd.func69, Tryd.ntmps69
  go_upto_if 14 with (fail)
  go_cut [4, 5] (fun v4 v5 wc => ∃ (kq : Nat) (x4_1 : Int) (x5_1 : Int), v4 = .int .i64 x4_1 ∧ v5 = .int .u64 x5_1 ∧ Aside0 (spec_exactOf.j0 kq x4_1 x5_1 = some (r1, r2)) ∧ Aside0 (kq ≤ k) ∧ Aside0 (Below w.heap.size w wc))
  case first =>
    have H := HC2.out
    clear HC2
    by_cases c3 : (wrap64 (Go.bits .and .u64 (a0 / 4503599627370496) 2047)) = 0
    · rw [if_pos c3] at H
      have c3b0 : ((wrap64 (Go.bits .and .u64 (a0 / 4503599627370496) 2047)) == 0) = true := beq_iff_eq.mpr c3
      have c3b1 : ((wrap64 (Go.bits .and .u64 (a0 / 4503599627370496) 2047)) != 0) = false := bne_eq_false_iff_eq.mpr c3
      clear c3
      (first | rw [c3b0] | (simp only [i64_w, i32_w]; rw [c3b0]) | skip)
      have H' := Aside0.mk H
      clear H
      go_wp2
      go_meet
      case rel => exact ⟨_, (1), (Go.bits .and .u64 a0 4503599627370495), (by first | rfl | (simp; done) | (simp [*]; done)), (by first | rfl | (simp; done) | (simp [*]; done)), H', ⟨by first | omega | exact Nat.le_refl _⟩, ⟨by repeat (first | (with_reducible first | exact HB.out | apply below_alloc | apply pw_below_drewN | apply below_drew1) | exact HB.out)⟩⟩
    · rw [if_neg c3] at H
      have c3b0 : ((wrap64 (Go.bits .and .u64 (a0 / 4503599627370496) 2047)) == 0) = false := beq_eq_false_iff_ne.mpr c3
      have c3b1 : ((wrap64 (Go.bits .and .u64 (a0 / 4503599627370496) 2047)) != 0) = true := bne_iff_ne.mpr c3
      (first | rw [c3b0] | (simp only [i64_w, i32_w]; rw [c3b0]) | skip)
      have H' := Aside0.mk H
      clear H
      go_wp2
      go_meet
      case rel => exact ⟨_, (wrap64 (Go.bits .and .u64 (a0 / 4503599627370496) 2047)), (Go.bits .or .u64 (Go.bits .and .u64 a0 4503599627370495) 4503599627370496), (by first | rfl | (simp; done) | (simp [*]; done)), (by first | rfl | (simp; done) | (simp [*]; done)), H', ⟨by first | omega | exact Nat.le_refl _⟩, ⟨by repeat (first | (with_reducible first | exact HB.out | apply below_alloc | apply pw_below_drewN | apply below_drew1) | exact HB.out)⟩⟩
  case rest =>
    clear HC2
    try clear p2
    try clear c3
    try clear c3b0
    try clear c3b1
    obtain ⟨kq, x4_1, x5_1, rfl, rfl, HA, HJ1, HB⟩ := hcut
    cases kq with
    | zero => exact absurd HA.out (by simp [spec_exactOf.j0])
    | succ kj1 =>
      have H := HA.out
      clear HA
      simp only [spec_exactOf.j0] at H
      obtain ⟨y172, hy172⟩ : ∃ y_ : List Int, y_ = (([Go.bits .and .u64 x5_1 4294967295, x5_1 / 4294967296] : List Int)) := ⟨_, rfl⟩
      replace H : ((spec_natTrim.f kj1 y172).bind fun t175 => (if x4_1 ≥ 1075 then ((spec_natShift.f kj1 t175 (wrap64 (x4_1 - 1075))).bind fun t178 => ((spec_natSmall.f kj1 1).bind fun t181 => (some (t178, t181)))) else ((spec_natSmall.f kj1 1).bind fun t184 => ((spec_natShift.f kj1 t184 (wrap64 (1075 - x4_1))).bind fun t187 => (some (t175, t187)))))) = some (r1, r2) := by first | (rw [hy172]; with_reducible exact H) | (have H2_ := (Option.bind_some _ _).symm.trans H; rw [hy172]; with_reducible exact H2_) | (have H2_ := (Option.bind_some _ _).symm.trans H; with_reducible exact H2_) | with_reducible exact H | (rw [hy172]; exact H) | exact H
      have Ny172 := Aside0.mk hy172
      clear hy172
      replace H := Option.bind_eq_some_iff.mp H
      obtain ⟨t175, A40, H⟩ := H
      replace H : (if x4_1 ≥ 1075 then ((spec_natShift.f kj1 t175 (wrap64 (x4_1 - 1075))).bind fun t178 => ((spec_natSmall.f kj1 1).bind fun t181 => (some (t178, t181)))) else ((spec_natSmall.f kj1 1).bind fun t184 => ((spec_natShift.f kj1 t184 (wrap64 (1075 - x4_1))).bind fun t187 => (some (t175, t187))))) = some (r1, r2) := H
      have A4 := Aside0.mk A40
      clear A40
      by_cases c5 : x4_1 ≥ 1075
      · rw [if_pos c5] at H
        have c5b0 : decide (1075 ≤ x4_1) = true := decide_eq_true c5
        clear c5
        replace H := Option.bind_eq_some_iff.mp H
        obtain ⟨t178, A60, H⟩ := H
        replace H : ((spec_natSmall.f kj1 1).bind fun t181 => (some (t178, t181))) = some (r1, r2) := H
        have A6 := Aside0.mk A60
        clear A60
        replace H := Option.bind_eq_some_iff.mp H
        obtain ⟨t181, A70, H⟩ := H
        replace H : (some (t178, t181)) = some (r1, r2) := H
        have A7 := Aside0.mk A70
        clear A70
        simp only [Option.some.injEq, Prod.mk.injEq] at H
        obtain ⟨rfl, rfl⟩ := H
        go_wp2_with (first | ((with_reducible refine gate_dst (N := 21) rfl ?_); refine Kd.R_lit (Kd.int .u64) _ 40 ?hg (N := 21) ?hd (xs := ([Go.bits .and .u64 x5_1 4294967295, x5_1 / 4294967296] : List Int)) (inner := [.int .u64 (Go.bits .and .u64 x5_1 4294967295), .int .u64 (x5_1 / 4294967296)]) (ok := fun _ => True) (okp := fun _ => True) ?hr ?hp (fun _ hk => hk) trivial (Below.refl _ _) (Nat.le_refl _) (by simp) ?_; (case hd => rfl); (case hg => rfl); (case hr => first | (go_simp; done) | (go_simp; rfl)); (case hp => exact (Reps.one (show Kd.M (Kd.int .u64) _ _ _ (Go.bits .and .u64 x5_1 4294967295) [.int .u64 (Go.bits .and .u64 x5_1 4294967295)] from rfl) (Reps.one (show Kd.M (Kd.int .u64) _ _ _ (x5_1 / 4294967296) [.int .u64 (x5_1 / 4294967296)] from rfl) (Reps.none _ _)))); intro v173 w8 ho9 hb hg_ hnew_; clear hg_ hnew_; (first | rw [← Ny172.out] at ho9 | (simp only [Int.reduceToNat] at ho9; rw [← Ny172.out] at ho9)); have n0_ := Aside0.mk (Kd.R_lower ho9 (below_size (by repeat (first | (with_reducible first | exact HB.out | apply below_alloc | apply pw_below_drewN | apply below_drew1) | exact HB.out)))); have n1_ := Aside0.mk (below_step (by repeat (first | (with_reducible first | exact HB.out | apply below_alloc | apply pw_below_drewN | apply below_drew1) | exact HB.out)) hb); clear HB; have HO174 := n0_; have HB := n1_; clear n0_ n1_; clear hb ho9; obtain ⟨Ao10, co10, eo10⟩ := Kd.R_slice HO174.out; subst eo10) | ((with_reducible refine gate_callee (f := 68) rfl ?_); refine goesL_ (some 22) rfl rfl Tryd.func68 (by kernel_rfl) rfl #[.slice Ao10 y172.length co10] rfl (by (try simp only [List.map_toArray, List.map_cons, List.map_nil]); first | done | rfl | (simp only [List.length_drop, List.length_take]; rfl)) ?_; (with_reducible refine (spec_natTrim.calls kj1 (fun k_ => some k_ = (.slice Ao10 y172.length co10 : Value).ownBlock) (.slice Ao10 y172.length co10) y172 t175 w _ ?side1 ?side2 A4.out).mono ?_); (case side1 => repeat (first | (with_reducible first | exact HB.out | apply below_alloc | apply pw_below_drewN | apply below_drew1) | exact HB.out)); (case side2 => exact Kd.R_tight rfl HO174.out); rintro e w11 ⟨v176, rfl, ho0, hb, hkp⟩; refine ⟨_, rfl, ?_⟩; have n0_ := Aside0.mk (Kd.R_mono (ok' := fun k_ => True) ho0 (fun k_ hk_ => trivial)); have n1_ := Aside0.mk (hb); clear HB; clear HO174; have HO177 := n0_; have HB := n1_; clear n0_ n1_; (try clear hb); (try clear hkp); (try clear ho0); obtain ⟨Ao12, co12, eo12⟩ := Kd.R_slice HO177.out; subst eo12) | ((with_reducible refine gate_callee (f := 65) rfl ?_); refine goesL_ (some 28) rfl rfl Tryd.func65 (by kernel_rfl) rfl #[.slice Ao12 t175.length co12, .int .i64 (wrap64 (x4_1 - 1075))] rfl (by (try simp only [List.map_toArray, List.map_cons, List.map_nil]); first | done | rfl | (simp only [List.length_drop, List.length_take]; rfl)) ?_; (with_reducible refine (spec_natShift.calls kj1 _ _ t175 (wrap64 (x4_1 - 1075)) t178 _ ?side1 ?side2 A6.out).mono ?_); (case side1 => repeat (first | exact (Kd.R_reads' HO177.out).2.2 | (with_reducible refine Kd.C_alloc ?_ _) | (with_reducible refine Kd.C_drewN ?_ _) | (with_reducible refine Kd.C_drew ?_))); (case side2 => exact (Kd.R_reads' HO177.out).2.1); rintro e w13 ⟨v179, rfl, ho0, hb⟩; refine ⟨_, rfl, ?_⟩; have n0_ := Aside0.mk (Kd.R_elder' (by (with_reducible repeat (first | apply Kd.R_alloc | apply Kd.R_drewN | apply Kd.R_drew)); exact HO177.out) (Kd.R_base ho0) hb); have n1_ := Aside0.mk (Kd.R_lower (Kd.R_new' ho0 (Kd.R_lt (by (with_reducible repeat (first | apply Kd.R_alloc | apply Kd.R_drewN | apply Kd.R_drew)); exact HO177.out))) (below_size (by repeat (first | (with_reducible first | exact HB.out | apply below_alloc | apply pw_below_drewN | apply below_drew1) | exact HB.out)))); have n2_ := Aside0.mk (below_step (by repeat (first | (with_reducible first | exact HB.out | apply below_alloc | apply pw_below_drewN | apply below_drew1) | exact HB.out)) hb); clear HO177; clear HB; have HO177 := n0_; have HO180 := n1_; have HB := n2_; clear n0_ n1_ n2_; (try clear hb); (try clear hb2); (try clear hk); (try clear hi); (try clear ho0)) | ((with_reducible refine gate_callee (f := 49) rfl ?_); refine goesL_ (some 29) rfl rfl Tryd.func49 (by kernel_rfl) rfl #[.int .i64 1] rfl (by (try simp only [List.map_toArray, List.map_cons, List.map_nil]); first | done | rfl | (simp only [List.length_drop, List.length_take]; rfl)) ?_; (with_reducible refine (spec_natSmall.calls kj1 1 t181 _ A7.out).mono ?_); rintro e w14 ⟨v182, rfl, ho0, hb⟩; refine ⟨_, rfl, ?_⟩; have n0_ := Aside0.mk (Kd.R_elder' (by (with_reducible repeat (first | apply Kd.R_alloc | apply Kd.R_drewN | apply Kd.R_drew)); exact HO177.out) (Kd.R_base ho0) hb); have n1_ := Aside0.mk (Kd.R_elder' (by (with_reducible repeat (first | apply Kd.R_alloc | apply Kd.R_drewN | apply Kd.R_drew)); exact HO180.out) (Kd.R_base ho0) hb); have n2_ := Aside0.mk (Kd.R_lower (Kd.R_new' (Kd.R_new' ho0 (Kd.R_lt (by (with_reducible repeat (first | apply Kd.R_alloc | apply Kd.R_drewN | apply Kd.R_drew)); exact HO177.out))) (Kd.R_lt (by (with_reducible repeat (first | apply Kd.R_alloc | apply Kd.R_drewN | apply Kd.R_drew)); exact HO180.out))) (below_size (by repeat (first | (with_reducible first | exact HB.out | apply below_alloc | apply pw_below_drewN | apply below_drew1) | exact HB.out)))); have n3_ := Aside0.mk (below_step (by repeat (first | (with_reducible first | exact HB.out | apply below_alloc | apply pw_below_drewN | apply below_drew1) | exact HB.out)) hb); clear HO177; clear HO180; clear HB; have HO177 := n0_; have HO180 := n1_; have HO183 := n2_; have HB := n3_; clear n0_ n1_ n2_ n3_; (try clear hb); (try clear hb2); (try clear hk); (try clear hi); (try clear ho0)))
        go_ret2
        exact ⟨_, _, by first | rfl | (simp [errW_none, errW_some] <;> rfl) | (simp [*, errW_none, errW_some] <;> rfl), by (with_reducible repeat (first | apply Kd.R_alloc | apply Kd.R_drewN | apply Kd.R_drew)); exact Kd.R_mono HO180.out (fun _ hk => hk.2), by (with_reducible repeat (first | apply Kd.R_alloc | apply Kd.R_drewN | apply Kd.R_drew)); exact Kd.R_mono HO183.out (fun _ hk => hk.2), by repeat (first | (with_reducible first | exact HB.out | apply below_alloc | apply pw_below_drewN | apply below_drew1) | exact HB.out)⟩
      · rw [if_neg c5] at H
        have c5b0 : decide (1075 ≤ x4_1) = false := decide_eq_false c5
        clear c5
        replace H := Option.bind_eq_some_iff.mp H
        obtain ⟨t184, A150, H⟩ := H
        replace H : ((spec_natShift.f kj1 t184 (wrap64 (1075 - x4_1))).bind fun t187 => (some (t175, t187))) = some (r1, r2) := H
        have A15 := Aside0.mk A150
        clear A150
        replace H := Option.bind_eq_some_iff.mp H
        obtain ⟨t187, A160, H⟩ := H
        replace H : (some (t175, t187)) = some (r1, r2) := H
        have A16 := Aside0.mk A160
        clear A160
        simp only [Option.some.injEq, Prod.mk.injEq] at H
        obtain ⟨rfl, rfl⟩ := H
        go_wp2_with (first | ((with_reducible refine gate_dst (N := 21) rfl ?_); refine Kd.R_lit (Kd.int .u64) _ 40 ?hg (N := 21) ?hd (xs := ([Go.bits .and .u64 x5_1 4294967295, x5_1 / 4294967296] : List Int)) (inner := [.int .u64 (Go.bits .and .u64 x5_1 4294967295), .int .u64 (x5_1 / 4294967296)]) (ok := fun _ => True) (okp := fun _ => True) ?hr ?hp (fun _ hk => hk) trivial (Below.refl _ _) (Nat.le_refl _) (by simp) ?_; (case hd => rfl); (case hg => rfl); (case hr => first | (go_simp; done) | (go_simp; rfl)); (case hp => exact (Reps.one (show Kd.M (Kd.int .u64) _ _ _ (Go.bits .and .u64 x5_1 4294967295) [.int .u64 (Go.bits .and .u64 x5_1 4294967295)] from rfl) (Reps.one (show Kd.M (Kd.int .u64) _ _ _ (x5_1 / 4294967296) [.int .u64 (x5_1 / 4294967296)] from rfl) (Reps.none _ _)))); intro v173 w17 ho18 hb hg_ hnew_; clear hg_ hnew_; (first | rw [← Ny172.out] at ho18 | (simp only [Int.reduceToNat] at ho18; rw [← Ny172.out] at ho18)); have n0_ := Aside0.mk (Kd.R_lower ho18 (below_size (by repeat (first | (with_reducible first | exact HB.out | apply below_alloc | apply pw_below_drewN | apply below_drew1) | exact HB.out)))); have n1_ := Aside0.mk (below_step (by repeat (first | (with_reducible first | exact HB.out | apply below_alloc | apply pw_below_drewN | apply below_drew1) | exact HB.out)) hb); clear HB; have HO174 := n0_; have HB := n1_; clear n0_ n1_; clear hb ho18; obtain ⟨Ao19, co19, eo19⟩ := Kd.R_slice HO174.out; subst eo19) | ((with_reducible refine gate_callee (f := 68) rfl ?_); refine goesL_ (some 22) rfl rfl Tryd.func68 (by kernel_rfl) rfl #[.slice Ao19 y172.length co19] rfl (by (try simp only [List.map_toArray, List.map_cons, List.map_nil]); first | done | rfl | (simp only [List.length_drop, List.length_take]; rfl)) ?_; (with_reducible refine (spec_natTrim.calls kj1 (fun k_ => some k_ = (.slice Ao19 y172.length co19 : Value).ownBlock) (.slice Ao19 y172.length co19) y172 t175 w _ ?side1 ?side2 A4.out).mono ?_); (case side1 => repeat (first | (with_reducible first | exact HB.out | apply below_alloc | apply pw_below_drewN | apply below_drew1) | exact HB.out)); (case side2 => exact Kd.R_tight rfl HO174.out); rintro e w20 ⟨v176, rfl, ho0, hb, hkp⟩; refine ⟨_, rfl, ?_⟩; have n0_ := Aside0.mk (Kd.R_mono (ok' := fun k_ => True) ho0 (fun k_ hk_ => trivial)); have n1_ := Aside0.mk (hb); clear HB; clear HO174; have HO177 := n0_; have HB := n1_; clear n0_ n1_; (try clear hb); (try clear hkp); (try clear ho0)) | ((with_reducible refine gate_callee (f := 49) rfl ?_); refine goesL_ (some 31) rfl rfl Tryd.func49 (by kernel_rfl) rfl #[.int .i64 1] rfl (by (try simp only [List.map_toArray, List.map_cons, List.map_nil]); first | done | rfl | (simp only [List.length_drop, List.length_take]; rfl)) ?_; (with_reducible refine (spec_natSmall.calls kj1 1 t184 _ A15.out).mono ?_); rintro e w21 ⟨v185, rfl, ho0, hb⟩; refine ⟨_, rfl, ?_⟩; have n0_ := Aside0.mk (Kd.R_elder' (by (with_reducible repeat (first | apply Kd.R_alloc | apply Kd.R_drewN | apply Kd.R_drew)); exact HO177.out) (Kd.R_base ho0) hb); have n1_ := Aside0.mk (Kd.R_lower (Kd.R_new' ho0 (Kd.R_lt (by (with_reducible repeat (first | apply Kd.R_alloc | apply Kd.R_drewN | apply Kd.R_drew)); exact HO177.out))) (below_size (by repeat (first | (with_reducible first | exact HB.out | apply below_alloc | apply pw_below_drewN | apply below_drew1) | exact HB.out)))); have n2_ := Aside0.mk (below_step (by repeat (first | (with_reducible first | exact HB.out | apply below_alloc | apply pw_below_drewN | apply below_drew1) | exact HB.out)) hb); clear HO177; clear HB; have HO177 := n0_; have HO186 := n1_; have HB := n2_; clear n0_ n1_ n2_; (try clear hb); (try clear hb2); (try clear hk); (try clear hi); (try clear ho0); obtain ⟨Ao22, co22, eo22⟩ := Kd.R_slice HO186.out; subst eo22) | ((with_reducible refine gate_callee (f := 65) rfl ?_); refine goesL_ (some 34) rfl rfl Tryd.func65 (by kernel_rfl) rfl #[.slice Ao22 t184.length co22, .int .i64 (wrap64 (1075 - x4_1))] rfl (by (try simp only [List.map_toArray, List.map_cons, List.map_nil]); first | done | rfl | (simp only [List.length_drop, List.length_take]; rfl)) ?_; (with_reducible refine (spec_natShift.calls kj1 _ _ t184 (wrap64 (1075 - x4_1)) t187 _ ?side1 ?side2 A16.out).mono ?_); (case side1 => repeat (first | exact (Kd.R_reads' HO186.out).2.2 | (with_reducible refine Kd.C_alloc ?_ _) | (with_reducible refine Kd.C_drewN ?_ _) | (with_reducible refine Kd.C_drew ?_))); (case side2 => exact (Kd.R_reads' HO186.out).2.1); rintro e w23 ⟨v188, rfl, ho0, hb⟩; refine ⟨_, rfl, ?_⟩; have n0_ := Aside0.mk (Kd.R_elder' (by (with_reducible repeat (first | apply Kd.R_alloc | apply Kd.R_drewN | apply Kd.R_drew)); exact HO177.out) (Kd.R_base ho0) hb); have n1_ := Aside0.mk (Kd.R_elder' (by (with_reducible repeat (first | apply Kd.R_alloc | apply Kd.R_drewN | apply Kd.R_drew)); exact HO186.out) (Kd.R_base ho0) hb); have n2_ := Aside0.mk (Kd.R_lower (Kd.R_new' (Kd.R_new' ho0 (Kd.R_lt (by (with_reducible repeat (first | apply Kd.R_alloc | apply Kd.R_drewN | apply Kd.R_drew)); exact HO177.out))) (Kd.R_lt (by (with_reducible repeat (first | apply Kd.R_alloc | apply Kd.R_drewN | apply Kd.R_drew)); exact HO186.out))) (below_size (by repeat (first | (with_reducible first | exact HB.out | apply below_alloc | apply pw_below_drewN | apply below_drew1) | exact HB.out)))); have n3_ := Aside0.mk (below_step (by repeat (first | (with_reducible first | exact HB.out | apply below_alloc | apply pw_below_drewN | apply below_drew1) | exact HB.out)) hb); clear HO177; clear HO186; clear HB; have HO177 := n0_; have HO186 := n1_; have HO189 := n2_; have HB := n3_; clear n0_ n1_ n2_ n3_; (try clear hb); (try clear hb2); (try clear hk); (try clear hi); (try clear ho0)))
        go_ret2
        exact ⟨_, _, by first | rfl | (simp [errW_none, errW_some] <;> rfl) | (simp [*, errW_none, errW_some] <;> rfl), by (with_reducible repeat (first | apply Kd.R_alloc | apply Kd.R_drewN | apply Kd.R_drew)); exact Kd.R_mono HO177.out (fun _ hk => hk.2), by (with_reducible repeat (first | apply Kd.R_alloc | apply Kd.R_drewN | apply Kd.R_drew)); exact Kd.R_mono HO189.out (fun _ hk => hk.1.2), by repeat (first | (with_reducible first | exact HB.out | apply below_alloc | apply pw_below_drewN | apply below_drew1) | exact HB.out)⟩

-- function 48 (spec_Round): its contract stands in YtheichpmhfledaaDoorExtRoundF

/-! ### spec_backTo: function 70 -/
def spec_backTo.f (k : Nat) (a0 : Int) (a1 : Int) : Option (Int) := (spec_natTrim.f k (([Go.bits .and .u64 a0 4294967295, a0 / 4294967296] : List Int))).bind fun t193 => ((spec_natSmall.f k 1).bind fun t196 => (if a1 ≥ 0 then ((spec_natPower.f k t193 10 a1).bind fun t199 => ((spec_Round.f t199 t196).bind fun t202 => (some t202))) else ((spec_natPower.f k t196 10 (wrap64 (-a1))).bind fun t203 => ((spec_Round.f t193 t203).bind fun t206 => (some t206)))))
theorem spec_backTo.mono : ∀ a0 a1 k, LeO (spec_backTo.f k a0 a1) (spec_backTo.f (k + 1) a0 a1) := by
  intro a0 a1 k
  unfold spec_backTo.f
  repeat' first
      | (with_reducible exact spec_natPower.mono _ _ _ _)
      | (with_reducible exact spec_natSmall.mono _ _)
      | (with_reducible exact spec_natTrim.mono _ _)
      | (with_reducible exact LeO.refl _)
      | (with_reducible exact LeO.none _)
      | (with_reducible refine LeO.ite ?_ ?_)
      | (with_reducible refine LeO.bind ?_ (fun _ => ?_))
      | exact spec_natPower.mono _ _ _ _
      | exact spec_natSmall.mono _ _
      | exact spec_natTrim.mono _ _
      | exact LeO.none _
      | refine LeO.ite ?_ ?_
      | refine LeO.bind ?_ (fun _ => ?_)
set_option maxHeartbeats 8000000 in
set_option maxRecDepth 100000 in
theorem spec_backTo.calls (k : Nat) (a0 : Int) (a1 : Int) (r : Int) (w : World) (h : spec_backTo.f k a0 a1 = some r) :
    Calls Tryd.prog 70 #[.int .u64 a0, .int .i64 a1] w fun e w' => e = .returned (.int .u64 r) ∧ Below w.heap.size w w' := by
  have HB := Aside0.mk (Below.refl w.heap.size w)
  have H : ((spec_natTrim.f k (([Go.bits .and .u64 a0 4294967295, a0 / 4294967296] : List Int))).bind fun t193 => ((spec_natSmall.f k 1).bind fun t196 => (if a1 ≥ 0 then ((spec_natPower.f k t193 10 a1).bind fun t199 => ((spec_Round.f t199 t196).bind fun t202 => (some t202))) else ((spec_natPower.f k t196 10 (wrap64 (-a1))).bind fun t203 => ((spec_Round.f t193 t203).bind fun t206 => (some t206)))))) = some r := h
  clear h
  obtain ⟨y190, hy190⟩ : ∃ y_ : List Int, y_ = (([Go.bits .and .u64 a0 4294967295, a0 / 4294967296] : List Int)) := ⟨_, rfl⟩
  replace H : ((spec_natTrim.f k y190).bind fun t193 => ((spec_natSmall.f k 1).bind fun t196 => (if a1 ≥ 0 then ((spec_natPower.f k t193 10 a1).bind fun t199 => ((spec_Round.f t199 t196).bind fun t202 => (some t202))) else ((spec_natPower.f k t196 10 (wrap64 (-a1))).bind fun t203 => ((spec_Round.f t193 t203).bind fun t206 => (some t206)))))) = some r := by first | (rw [hy190]; with_reducible exact H) | (have H2_ := (Option.bind_some _ _).symm.trans H; rw [hy190]; with_reducible exact H2_) | (have H2_ := (Option.bind_some _ _).symm.trans H; with_reducible exact H2_) | with_reducible exact H | (rw [hy190]; exact H) | exact H
  have Ny190 := Aside0.mk hy190
  clear hy190
  replace H := Option.bind_eq_some_iff.mp H
  obtain ⟨t193, A30, H⟩ := H
  replace H : ((spec_natSmall.f k 1).bind fun t196 => (if a1 ≥ 0 then ((spec_natPower.f k t193 10 a1).bind fun t199 => ((spec_Round.f t199 t196).bind fun t202 => (some t202))) else ((spec_natPower.f k t196 10 (wrap64 (-a1))).bind fun t203 => ((spec_Round.f t193 t203).bind fun t206 => (some t206))))) = some r := H
  have A3 := Aside0.mk A30
  clear A30
  replace H := Option.bind_eq_some_iff.mp H
  obtain ⟨t196, A40, H⟩ := H
  replace H : (if a1 ≥ 0 then ((spec_natPower.f k t193 10 a1).bind fun t199 => ((spec_Round.f t199 t196).bind fun t202 => (some t202))) else ((spec_natPower.f k t196 10 (wrap64 (-a1))).bind fun t203 => ((spec_Round.f t193 t203).bind fun t206 => (some t206)))) = some r := H
  have A4 := Aside0.mk A40
  clear A40
  by_cases c5 : a1 ≥ 0
  · rw [if_pos c5] at H
    have c5b0 : decide (0 ≤ a1) = true := decide_eq_true c5
    clear c5
    replace H := Option.bind_eq_some_iff.mp H
    obtain ⟨t199, A60, H⟩ := H
    replace H : ((spec_Round.f t199 t196).bind fun t202 => (some t202)) = some r := H
    have A6 := Aside0.mk A60
    clear A60
    replace H := Option.bind_eq_some_iff.mp H
    obtain ⟨t202, A70, H⟩ := H
    replace H : (some t202) = some r := H
    have A7 := Aside0.mk A70
    clear A70
    obtain rfl := Option.some.inj H
    go_enter Tryd.func70, Tryd.ntmps70
    go_wp2_with (first | ((with_reducible refine gate_dst (N := 11) rfl ?_); refine Kd.R_lit (Kd.int .u64) _ 40 ?hg (N := 11) ?hd (xs := ([Go.bits .and .u64 a0 4294967295, a0 / 4294967296] : List Int)) (inner := [.int .u64 (Go.bits .and .u64 a0 4294967295), .int .u64 (a0 / 4294967296)]) (ok := fun _ => True) (okp := fun _ => True) ?hr ?hp (fun _ hk => hk) trivial (Below.refl _ _) (Nat.le_refl _) (by simp) ?_; (case hd => rfl); (case hg => rfl); (case hr => first | (go_simp; done) | (go_simp; rfl)); (case hp => exact (Reps.one (show Kd.M (Kd.int .u64) _ _ _ (Go.bits .and .u64 a0 4294967295) [.int .u64 (Go.bits .and .u64 a0 4294967295)] from rfl) (Reps.one (show Kd.M (Kd.int .u64) _ _ _ (a0 / 4294967296) [.int .u64 (a0 / 4294967296)] from rfl) (Reps.none _ _)))); intro v191 w8 ho9 hb hg_ hnew_; clear hg_ hnew_; (first | rw [← Ny190.out] at ho9 | (simp only [Int.reduceToNat] at ho9; rw [← Ny190.out] at ho9)); have n0_ := Aside0.mk (Kd.R_lower ho9 (below_size (by repeat (first | (with_reducible first | exact HB.out | apply below_alloc | apply pw_below_drewN | apply below_drew1) | exact HB.out)))); have n1_ := Aside0.mk (below_step (by repeat (first | (with_reducible first | exact HB.out | apply below_alloc | apply pw_below_drewN | apply below_drew1) | exact HB.out)) hb); clear HB; have HO192 := n0_; have HB := n1_; clear n0_ n1_; clear hb ho9; obtain ⟨Ao10, co10, eo10⟩ := Kd.R_slice HO192.out; subst eo10) | ((with_reducible refine gate_callee (f := 68) rfl ?_); refine goesL_ (some 12) rfl rfl Tryd.func68 (by kernel_rfl) rfl #[.slice Ao10 y190.length co10] rfl (by (try simp only [List.map_toArray, List.map_cons, List.map_nil]); first | done | rfl | (simp only [List.length_drop, List.length_take]; rfl)) ?_; (with_reducible refine (spec_natTrim.calls k (fun k_ => some k_ = (.slice Ao10 y190.length co10 : Value).ownBlock) (.slice Ao10 y190.length co10) y190 t193 w _ ?side1 ?side2 A3.out).mono ?_); (case side1 => repeat (first | (with_reducible first | exact HB.out | apply below_alloc | apply pw_below_drewN | apply below_drew1) | exact HB.out)); (case side2 => exact Kd.R_tight rfl HO192.out); rintro e w11 ⟨v194, rfl, ho0, hb, hkp⟩; refine ⟨_, rfl, ?_⟩; have n0_ := Aside0.mk (Kd.R_mono (ok' := fun k_ => True) ho0 (fun k_ hk_ => trivial)); have n1_ := Aside0.mk (hb); clear HB; clear HO192; have HO195 := n0_; have HB := n1_; clear n0_ n1_; (try clear hb); (try clear hkp); (try clear ho0)) | ((with_reducible refine gate_callee (f := 49) rfl ?_); refine goesL_ (some 13) rfl rfl Tryd.func49 (by kernel_rfl) rfl #[.int .i64 1] rfl (by (try simp only [List.map_toArray, List.map_cons, List.map_nil]); first | done | rfl | (simp only [List.length_drop, List.length_take]; rfl)) ?_; (with_reducible refine (spec_natSmall.calls k 1 t196 _ A4.out).mono ?_); rintro e w12 ⟨v197, rfl, ho0, hb⟩; refine ⟨_, rfl, ?_⟩; have n0_ := Aside0.mk (Kd.R_elder' (by (with_reducible repeat (first | apply Kd.R_alloc | apply Kd.R_drewN | apply Kd.R_drew)); exact HO195.out) (Kd.R_base ho0) hb); have n1_ := Aside0.mk (Kd.R_lower (Kd.R_new' ho0 (Kd.R_lt (by (with_reducible repeat (first | apply Kd.R_alloc | apply Kd.R_drewN | apply Kd.R_drew)); exact HO195.out))) (below_size (by repeat (first | (with_reducible first | exact HB.out | apply below_alloc | apply pw_below_drewN | apply below_drew1) | exact HB.out)))); have n2_ := Aside0.mk (below_step (by repeat (first | (with_reducible first | exact HB.out | apply below_alloc | apply pw_below_drewN | apply below_drew1) | exact HB.out)) hb); clear HO195; clear HB; have HO195 := n0_; have HO198 := n1_; have HB := n2_; clear n0_ n1_ n2_; (try clear hb); (try clear hb2); (try clear hk); (try clear hi); (try clear ho0); obtain ⟨Ao13, co13, eo13⟩ := Kd.R_slice HO195.out; subst eo13) | ((with_reducible refine gate_callee (f := 53) rfl ?_); refine goesL_ (some 18) rfl rfl Tryd.func53 (by kernel_rfl) rfl #[.slice Ao13 t193.length co13, .int .i64 10, .int .i64 a1] rfl (by (try simp only [List.map_toArray, List.map_cons, List.map_nil]); first | done | rfl | (simp only [List.length_drop, List.length_take]; rfl)) ?_; (with_reducible refine (spec_natPower.calls k (fun k_ => some k_ = (.slice Ao13 t193.length co13 : Value).ownBlock) _ _ t193 10 a1 t199 _ ?side1 A6.out).mono ?_); (case side1 => exact Kd.R_V (Kd.R_tight rfl (HO195.out))); rintro e w14 ⟨v200, rfl, ho0, hb⟩; refine ⟨_, rfl, ?_⟩; have n0_ := Aside0.mk (Kd.R_below (by (with_reducible repeat (first | apply Kd.R_alloc | apply Kd.R_drewN | apply Kd.R_drew)); exact HO195.out) hb); have n1_ := Aside0.mk (Kd.R_below (by (with_reducible repeat (first | apply Kd.R_alloc | apply Kd.R_drewN | apply Kd.R_drew)); exact HO198.out) hb); have n2_ := Aside0.mk (Kd.V_lower (Kd.V_mono (ok' := fun k_ => some k_ ≠ (v197 : Value).ownBlock) ho0 (fun k_ hk_ => Or.elim hk_ (fun hs_ => ((HO195.out).1 k_ hs_.symm).2) (fun hn_ => (Kd.fresh' (Kd.R_lt (by (with_reducible repeat (first | apply Kd.R_alloc | apply Kd.R_drewN | apply Kd.R_drew)); exact HO198.out)) k_ hn_)))) (below_size (by repeat (first | (with_reducible first | exact HB.out | apply below_alloc | apply pw_below_drewN | apply below_drew1) | exact HB.out)))); have n3_ := Aside0.mk (below_step (by repeat (first | (with_reducible first | exact HB.out | apply below_alloc | apply pw_below_drewN | apply below_drew1) | exact HB.out)) hb); clear HO195; clear HO198; clear HB; have HO195 := n0_; have HO198 := n1_; have HO201 := n2_; have HB := n3_; clear n0_ n1_ n2_ n3_; (try clear hb); (try clear hb2); (try clear hk); (try clear hi); (try clear ho0); obtain ⟨Ao15, co15, eo15⟩ := Kd.V_slice HO201.out; subst eo15; obtain ⟨Ao16, co16, eo16⟩ := Kd.R_slice HO198.out; subst eo16) | ((with_reducible refine gate_callee (f := 48) rfl ?_); refine goesL_ (some 20) rfl rfl Tryd.func48 (by kernel_rfl) rfl #[.slice Ao15 t199.length co15, .slice Ao16 t196.length co16] rfl (by (try simp only [List.map_toArray, List.map_cons, List.map_nil]); first | done | rfl | (simp only [List.length_drop, List.length_take]; rfl)) ?_; (with_reducible refine (spec_Round.calls _ _ t199 _ _ t196 t202 _ ?side1 ?side2 ?side3 ?side4 A7.out).mono ?_); (case side1 => repeat (first | exact (Kd.V_reads' HO201.out).2.2 | (with_reducible refine Kd.C_alloc ?_ _) | (with_reducible refine Kd.C_drewN ?_ _) | (with_reducible refine Kd.C_drew ?_))); (case side2 => exact (Kd.V_reads' HO201.out).2.1); (case side3 => repeat (first | exact (Kd.R_reads' HO198.out).2.2 | (with_reducible refine Kd.C_alloc ?_ _) | (with_reducible refine Kd.C_drewN ?_ _) | (with_reducible refine Kd.C_drew ?_))); (case side4 => exact (Kd.R_reads' HO198.out).2.1); rintro e w17 ⟨rfl, hb⟩; refine ⟨_, rfl, ?_⟩; have n0_ := Aside0.mk (Kd.R_below (by (with_reducible repeat (first | apply Kd.R_alloc | apply Kd.R_drewN | apply Kd.R_drew)); exact HO195.out) hb); have n1_ := Aside0.mk (Kd.R_below (by (with_reducible repeat (first | apply Kd.R_alloc | apply Kd.R_drewN | apply Kd.R_drew)); exact HO198.out) hb); have n2_ := Aside0.mk (Kd.V_below (by (with_reducible repeat (first | apply Kd.V_alloc | apply Kd.V_drewN | apply Kd.V_drew)); exact HO201.out) hb); have n3_ := Aside0.mk (below_step (by repeat (first | (with_reducible first | exact HB.out | apply below_alloc | apply pw_below_drewN | apply below_drew1) | exact HB.out)) hb); clear HO195; clear HO198; clear HO201; clear HB; have HO195 := n0_; have HO198 := n1_; have HO201 := n2_; have HB := n3_; clear n0_ n1_ n2_ n3_; (try clear hb); (try clear hb2); (try clear hk); (try clear hi)))
    go_ret
    exact ⟨by first | rfl | (simp [errW_none, errW_some] <;> rfl) | (simp [*, errW_none, errW_some] <;> rfl), by repeat (first | (with_reducible first | exact HB.out | apply below_alloc | apply pw_below_drewN | apply below_drew1) | exact HB.out)⟩
  · rw [if_neg c5] at H
    have c5b0 : decide (0 ≤ a1) = false := decide_eq_false c5
    clear c5
    replace H := Option.bind_eq_some_iff.mp H
    obtain ⟨t203, A180, H⟩ := H
    replace H : ((spec_Round.f t193 t203).bind fun t206 => (some t206)) = some r := H
    have A18 := Aside0.mk A180
    clear A180
    replace H := Option.bind_eq_some_iff.mp H
    obtain ⟨t206, A190, H⟩ := H
    replace H : (some t206) = some r := H
    have A19 := Aside0.mk A190
    clear A190
    obtain rfl := Option.some.inj H
    go_enter Tryd.func70, Tryd.ntmps70
    go_wp2_with (first | ((with_reducible refine gate_dst (N := 11) rfl ?_); refine Kd.R_lit (Kd.int .u64) _ 40 ?hg (N := 11) ?hd (xs := ([Go.bits .and .u64 a0 4294967295, a0 / 4294967296] : List Int)) (inner := [.int .u64 (Go.bits .and .u64 a0 4294967295), .int .u64 (a0 / 4294967296)]) (ok := fun _ => True) (okp := fun _ => True) ?hr ?hp (fun _ hk => hk) trivial (Below.refl _ _) (Nat.le_refl _) (by simp) ?_; (case hd => rfl); (case hg => rfl); (case hr => first | (go_simp; done) | (go_simp; rfl)); (case hp => exact (Reps.one (show Kd.M (Kd.int .u64) _ _ _ (Go.bits .and .u64 a0 4294967295) [.int .u64 (Go.bits .and .u64 a0 4294967295)] from rfl) (Reps.one (show Kd.M (Kd.int .u64) _ _ _ (a0 / 4294967296) [.int .u64 (a0 / 4294967296)] from rfl) (Reps.none _ _)))); intro v191 w20 ho21 hb hg_ hnew_; clear hg_ hnew_; (first | rw [← Ny190.out] at ho21 | (simp only [Int.reduceToNat] at ho21; rw [← Ny190.out] at ho21)); have n0_ := Aside0.mk (Kd.R_lower ho21 (below_size (by repeat (first | (with_reducible first | exact HB.out | apply below_alloc | apply pw_below_drewN | apply below_drew1) | exact HB.out)))); have n1_ := Aside0.mk (below_step (by repeat (first | (with_reducible first | exact HB.out | apply below_alloc | apply pw_below_drewN | apply below_drew1) | exact HB.out)) hb); clear HB; have HO192 := n0_; have HB := n1_; clear n0_ n1_; clear hb ho21; obtain ⟨Ao22, co22, eo22⟩ := Kd.R_slice HO192.out; subst eo22) | ((with_reducible refine gate_callee (f := 68) rfl ?_); refine goesL_ (some 12) rfl rfl Tryd.func68 (by kernel_rfl) rfl #[.slice Ao22 y190.length co22] rfl (by (try simp only [List.map_toArray, List.map_cons, List.map_nil]); first | done | rfl | (simp only [List.length_drop, List.length_take]; rfl)) ?_; (with_reducible refine (spec_natTrim.calls k (fun k_ => some k_ = (.slice Ao22 y190.length co22 : Value).ownBlock) (.slice Ao22 y190.length co22) y190 t193 w _ ?side1 ?side2 A3.out).mono ?_); (case side1 => repeat (first | (with_reducible first | exact HB.out | apply below_alloc | apply pw_below_drewN | apply below_drew1) | exact HB.out)); (case side2 => exact Kd.R_tight rfl HO192.out); rintro e w23 ⟨v194, rfl, ho0, hb, hkp⟩; refine ⟨_, rfl, ?_⟩; have n0_ := Aside0.mk (Kd.R_mono (ok' := fun k_ => True) ho0 (fun k_ hk_ => trivial)); have n1_ := Aside0.mk (hb); clear HB; clear HO192; have HO195 := n0_; have HB := n1_; clear n0_ n1_; (try clear hb); (try clear hkp); (try clear ho0)) | ((with_reducible refine gate_callee (f := 49) rfl ?_); refine goesL_ (some 13) rfl rfl Tryd.func49 (by kernel_rfl) rfl #[.int .i64 1] rfl (by (try simp only [List.map_toArray, List.map_cons, List.map_nil]); first | done | rfl | (simp only [List.length_drop, List.length_take]; rfl)) ?_; (with_reducible refine (spec_natSmall.calls k 1 t196 _ A4.out).mono ?_); rintro e w24 ⟨v197, rfl, ho0, hb⟩; refine ⟨_, rfl, ?_⟩; have n0_ := Aside0.mk (Kd.R_elder' (by (with_reducible repeat (first | apply Kd.R_alloc | apply Kd.R_drewN | apply Kd.R_drew)); exact HO195.out) (Kd.R_base ho0) hb); have n1_ := Aside0.mk (Kd.R_lower (Kd.R_new' ho0 (Kd.R_lt (by (with_reducible repeat (first | apply Kd.R_alloc | apply Kd.R_drewN | apply Kd.R_drew)); exact HO195.out))) (below_size (by repeat (first | (with_reducible first | exact HB.out | apply below_alloc | apply pw_below_drewN | apply below_drew1) | exact HB.out)))); have n2_ := Aside0.mk (below_step (by repeat (first | (with_reducible first | exact HB.out | apply below_alloc | apply pw_below_drewN | apply below_drew1) | exact HB.out)) hb); clear HO195; clear HB; have HO195 := n0_; have HO198 := n1_; have HB := n2_; clear n0_ n1_ n2_; (try clear hb); (try clear hb2); (try clear hk); (try clear hi); (try clear ho0); obtain ⟨Ao25, co25, eo25⟩ := Kd.R_slice HO198.out; subst eo25) | ((with_reducible refine gate_callee (f := 53) rfl ?_); refine goesL_ (some 25) rfl rfl Tryd.func53 (by kernel_rfl) rfl #[.slice Ao25 t196.length co25, .int .i64 10, .int .i64 (wrap64 (-a1))] rfl (by (try simp only [List.map_toArray, List.map_cons, List.map_nil]); first | done | rfl | (simp only [List.length_drop, List.length_take]; rfl)) ?_; (with_reducible refine (spec_natPower.calls k (fun k_ => some k_ = (.slice Ao25 t196.length co25 : Value).ownBlock) _ _ t196 10 (wrap64 (-a1)) t203 _ ?side1 A18.out).mono ?_); (case side1 => exact Kd.R_V (Kd.R_tight rfl (HO198.out))); rintro e w26 ⟨v204, rfl, ho0, hb⟩; refine ⟨_, rfl, ?_⟩; have n0_ := Aside0.mk (Kd.R_below (by (with_reducible repeat (first | apply Kd.R_alloc | apply Kd.R_drewN | apply Kd.R_drew)); exact HO195.out) hb); have n1_ := Aside0.mk (Kd.R_below (by (with_reducible repeat (first | apply Kd.R_alloc | apply Kd.R_drewN | apply Kd.R_drew)); exact HO198.out) hb); have n2_ := Aside0.mk (Kd.V_lower (Kd.V_mono (ok' := fun k_ => some k_ ≠ (v194 : Value).ownBlock) ho0 (fun k_ hk_ => Or.elim hk_ (fun hs_ => ((HO198.out).1 k_ hs_.symm).2) (fun hn_ => (Kd.fresh' (Kd.R_lt (by (with_reducible repeat (first | apply Kd.R_alloc | apply Kd.R_drewN | apply Kd.R_drew)); exact HO195.out)) k_ hn_)))) (below_size (by repeat (first | (with_reducible first | exact HB.out | apply below_alloc | apply pw_below_drewN | apply below_drew1) | exact HB.out)))); have n3_ := Aside0.mk (below_step (by repeat (first | (with_reducible first | exact HB.out | apply below_alloc | apply pw_below_drewN | apply below_drew1) | exact HB.out)) hb); clear HO195; clear HO198; clear HB; have HO195 := n0_; have HO198 := n1_; have HO205 := n2_; have HB := n3_; clear n0_ n1_ n2_ n3_; (try clear hb); (try clear hb2); (try clear hk); (try clear hi); (try clear ho0); obtain ⟨Ao27, co27, eo27⟩ := Kd.R_slice HO195.out; subst eo27; obtain ⟨Ao28, co28, eo28⟩ := Kd.V_slice HO205.out; subst eo28) | ((with_reducible refine gate_callee (f := 48) rfl ?_); refine goesL_ (some 26) rfl rfl Tryd.func48 (by kernel_rfl) rfl #[.slice Ao27 t193.length co27, .slice Ao28 t203.length co28] rfl (by (try simp only [List.map_toArray, List.map_cons, List.map_nil]); first | done | rfl | (simp only [List.length_drop, List.length_take]; rfl)) ?_; (with_reducible refine (spec_Round.calls _ _ t193 _ _ t203 t206 _ ?side1 ?side2 ?side3 ?side4 A19.out).mono ?_); (case side1 => repeat (first | exact (Kd.R_reads' HO195.out).2.2 | (with_reducible refine Kd.C_alloc ?_ _) | (with_reducible refine Kd.C_drewN ?_ _) | (with_reducible refine Kd.C_drew ?_))); (case side2 => exact (Kd.R_reads' HO195.out).2.1); (case side3 => repeat (first | exact (Kd.V_reads' HO205.out).2.2 | (with_reducible refine Kd.C_alloc ?_ _) | (with_reducible refine Kd.C_drewN ?_ _) | (with_reducible refine Kd.C_drew ?_))); (case side4 => exact (Kd.V_reads' HO205.out).2.1); rintro e w29 ⟨rfl, hb⟩; refine ⟨_, rfl, ?_⟩; have n0_ := Aside0.mk (Kd.R_below (by (with_reducible repeat (first | apply Kd.R_alloc | apply Kd.R_drewN | apply Kd.R_drew)); exact HO195.out) hb); have n1_ := Aside0.mk (Kd.R_below (by (with_reducible repeat (first | apply Kd.R_alloc | apply Kd.R_drewN | apply Kd.R_drew)); exact HO198.out) hb); have n2_ := Aside0.mk (Kd.V_below (by (with_reducible repeat (first | apply Kd.V_alloc | apply Kd.V_drewN | apply Kd.V_drew)); exact HO205.out) hb); have n3_ := Aside0.mk (below_step (by repeat (first | (with_reducible first | exact HB.out | apply below_alloc | apply pw_below_drewN | apply below_drew1) | exact HB.out)) hb); clear HO195; clear HO198; clear HO205; clear HB; have HO195 := n0_; have HO198 := n1_; have HO205 := n2_; have HB := n3_; clear n0_ n1_ n2_ n3_; (try clear hb); (try clear hb2); (try clear hk); (try clear hi)))
    go_ret
    exact ⟨by first | rfl | (simp [errW_none, errW_some] <;> rfl) | (simp [*, errW_none, errW_some] <;> rfl), by repeat (first | (with_reducible first | exact HB.out | apply below_alloc | apply pw_below_drewN | apply below_drew1) | exact HB.out)⟩

/-! ### spec_bytesOf: function 46 -/
def spec_bytesOf.l0 : Nat → List Int → List Int → Int → Option (ByteArray)
  | 0, _, _, _ => none
  | k + 1, x0, x3, x4 => if x4 < (x0.length : Int) then (if 0 ≤ x4 then (if x4 < (x3.length : Int) then (spec_bytesOf.l0 k x0 (x3.set (x4 : Int).toNat ((rd x0 x4) % 256)) (wrap64 (x4 + 1))) else (none)) else (none)) else (some (strOfNums x3))
def spec_bytesOf.f (k : Nat) (l0 : List Int) : Option (ByteArray) := if 0 ≤ (l0.length : Int) then (if ((l0.length : Int) : Int).toNat ≤ 281474976710656 then (spec_bytesOf.l0 k l0 (List.replicate ((l0.length : Int) : Int).toNat 0) 0) else (none)) else (none)
theorem spec_bytesOf.mono_l : ∀ k, (∀ y0 y1 y2, LeO (spec_bytesOf.l0 k y0 y1 y2) (spec_bytesOf.l0 (k + 1) y0 y1 y2))
  | 0 => fun _ _ _ r h => by simp [spec_bytesOf.l0] at h
  | k + 1 => by
    have ih0 := spec_bytesOf.mono_l k
    · intro y0 y1 y2
      unfold spec_bytesOf.l0
      repeat' first
      | (with_reducible exact ih0 _ _ _)
      | (with_reducible exact LeO.refl _)
      | (with_reducible exact LeO.none _)
      | (with_reducible refine LeO.ite ?_ ?_)
      | (with_reducible refine LeO.bind ?_ (fun _ => ?_))
      | exact ih0 _ _ _
      | exact LeO.none _
      | refine LeO.ite ?_ ?_
      | refine LeO.bind ?_ (fun _ => ?_)
theorem spec_bytesOf.mono : ∀ a0 k, LeO (spec_bytesOf.f k a0) (spec_bytesOf.f (k + 1) a0) := by
  intro a0 k
  have ih0 := spec_bytesOf.mono_l k
  unfold spec_bytesOf.f
  repeat' first
      | (with_reducible exact ih0 _ _ _)
      | (with_reducible exact LeO.refl _)
      | (with_reducible exact LeO.none _)
      | (with_reducible refine LeO.ite ?_ ?_)
      | (with_reducible refine LeO.bind ?_ (fun _ => ?_))
      | exact ih0 _ _ _
      | exact LeO.none _
      | refine LeO.ite ?_ ?_
      | refine LeO.bind ?_ (fun _ => ?_)
set_option maxHeartbeats 8000000 in
set_option maxRecDepth 100000 in
theorem spec_bytesOf.calls (k : Nat) (A0 : Option Addr) (c0 : Nat) (l0 : List Int) (r : ByteArray) (w : World) (hr0 : Kd.C (Kd.int .i64) w A0 l0.length l0) (hc0 : l0.length ≤ c0) (h : spec_bytesOf.f k l0 = some r) :
    Calls Tryd.prog 46 #[.slice A0 l0.length c0] w fun e w' => e = .returned (.string r) ∧ Below w.heap.size w w' := by
  have HR0 := Aside0.mk hr0
  have HC0 := Aside0.mk hc0
  clear hr0 hc0
  have HB := Aside0.mk (Below.refl w.heap.size w)
  have H : (if 0 ≤ (l0.length : Int) then (if ((l0.length : Int) : Int).toNat ≤ 281474976710656 then (spec_bytesOf.l0 k l0 (List.replicate ((l0.length : Int) : Int).toNat 0) 0) else (none)) else (none)) = some r := h
  clear h
  by_cases c2 : 0 ≤ (l0.length : Int)
  · rw [if_pos c2] at H
    have c2b0 := eq_true c2
    have c2b1 : decide (0 ≤ (l0.length : Int)) = true := decide_eq_true c2
    clear c2
    by_cases c3 : ((l0.length : Int) : Int).toNat ≤ 281474976710656
    · rw [if_pos c3] at H
      have c3b0 := eq_true c3
      have c3b1 : decide (((l0.length : Int) : Int).toNat ≤ 281474976710656) = true := decide_eq_true c3
      clear c3
      obtain ⟨y207, hy207⟩ : ∃ y_ : List Int, y_ = (List.replicate ((l0.length : Int) : Int).toNat 0) := ⟨_, rfl⟩
      replace H : (spec_bytesOf.l0 k l0 y207 0) = some r := by first | (rw [hy207]; with_reducible exact H) | (have H2_ := (Option.bind_some _ _).symm.trans H; rw [hy207]; with_reducible exact H2_) | (have H2_ := (Option.bind_some _ _).symm.trans H; with_reducible exact H2_) | with_reducible exact H | (rw [hy207]; exact H) | exact H
      have Ny207 := Aside0.mk hy207
      clear hy207
      have H' := Aside0.mk H
      clear H
      go_enter Tryd.func46, Tryd.ntmps46
      go_wp2_with (first | ((with_reducible refine gate_dst (N := 7) rfl ?_); refine Kd.R_make (Kd.int .u8) _ 5 rfl (N := 7) rfl 80 _ _ rfl (l0.length : Int) rfl rfl Tryd.underlying80 (.int .u8 0) 1 info5 rfl (by decide) (by omega) 0 (ok := fun _ => True) (okp := fun _ => True) rfl (fun _ hk => hk) trivial (of_decide_eq_true (by first | (with_reducible assumption) | assumption)) (Nat.le_trans (Nat.mul_le_mul_right _ (of_decide_eq_true (by first | (with_reducible assumption) | assumption) : (l0.length : Int).toNat ≤ 281474976710656)) (by omega)) (Below.refl _ _) (Nat.le_refl _) ?_; intro v208 w4 ho5 hb hg_ hnew_; clear hg_ hnew_; (first | rw [← Ny207.out] at ho5 | (simp only [Int.reduceToNat] at ho5; rw [← Ny207.out] at ho5)); have n0_ := Aside0.mk (Kd.R_lower ho5 (below_size (by repeat (first | (with_reducible first | exact HB.out | apply below_alloc | apply pw_below_drewN | apply below_drew1) | exact HB.out)))); have n1_ := Aside0.mk (below_step (by repeat (first | (with_reducible first | exact HB.out | apply below_alloc | apply pw_below_drewN | apply below_drew1) | exact HB.out)) hb); clear HB; have HO209 := n0_; have HB := n1_; clear n0_ n1_; clear hb ho5))
      go_loopg [4] k (fun kq v4 w' => ∃ (x3_1 : List Int) (x4_1 : Int), v4 = .int .i64 x4_1 ∧ Aside0 (spec_bytesOf.l0 kq l0 x3_1 x4_1 = some r) ∧ Aside0 (kq ≤ k) ∧ Aside0 (Kd.R (Kd.int .u8) 5 w' w.heap.size (fun _ => True) v208 x3_1) ∧ Aside0 (Below w.heap.size w w'))
      case atStart => exact ⟨(y207), (0), (by first | rfl | (simp; done) | (simp [*]; done)), H', ⟨Nat.le_refl _⟩, ⟨by (with_reducible repeat (first | apply Kd.R_alloc | apply Kd.R_drewN | apply Kd.R_drew)); exact HO209.out⟩, ⟨by repeat (first | (with_reducible first | exact HB.out | apply below_alloc | apply pw_below_drewN | apply below_drew1) | exact HB.out)⟩⟩
      case round =>
        clear H'
        try clear c2
        try clear c2b0
        try clear c2b1
        try clear p2
        try clear c3
        try clear c3b0
        try clear c3b1
        try clear c4
        obtain ⟨x3_1, x4_1, rfl, HA, HK1, HO_3, HB⟩ := hrel
        cases gk with
        | zero => exact absurd HA.out (by simp [spec_bytesOf.l0])
        | succ k1 =>
          have H := HA.out
          clear HA
          simp only [spec_bytesOf.l0] at H
          by_cases c6 : x4_1 < (l0.length : Int)
          · rw [if_pos c6] at H
            have c6b0 : decide (x4_1 < (l0.length : Int)) = true := decide_eq_true c6
            clear c6
            by_cases c7 : 0 ≤ x4_1
            · rw [if_pos c7] at H
              have c7b0 : decide (0 ≤ x4_1) = true := decide_eq_true c7
              clear c7
              by_cases c8 : x4_1 < (x3_1.length : Int)
              · rw [if_pos c8] at H
                have c8b0 : decide (x4_1 < (x3_1.length : Int)) = true := decide_eq_true c8
                clear c8
                obtain ⟨y211, hy211⟩ : ∃ y_ : List Int, y_ = (x3_1.set (x4_1 : Int).toNat ((rd l0 x4_1) % 256)) := ⟨_, rfl⟩
                replace H : (spec_bytesOf.l0 k1 l0 y211 (wrap64 (x4_1 + 1))) = some r := by first | (rw [hy211]; with_reducible exact H) | (have H2_ := (Option.bind_some _ _).symm.trans H; rw [hy211]; with_reducible exact H2_) | (have H2_ := (Option.bind_some _ _).symm.trans H; with_reducible exact H2_) | with_reducible exact H | (rw [hy211]; exact H) | exact H
                have Ny211 := Aside0.mk hy211
                clear hy211
                have H' := Aside0.mk H
                clear H
                have p210 : 0 ≤ (x4_1 : Int) := of_decide_eq_true (by first | (with_reducible assumption) | assumption)
                have q210 : x4_1 < (l0.length : Int) := of_decide_eq_true (by first | (with_reducible assumption) | assumption)
                obtain ⟨ad210, e210, hx210_0⟩ := Kd.at_int HR0.out x4_1 p210 q210
                cases e210
                replace hx210_0 := (HB.out.cell (World.block_lt_of_cell? w _ hx210_0)).trans hx210_0
                replace p210 := eq_true p210
                replace q210 := eq_true q210
                have p9 : 0 ≤ (x4_1 : Int) := of_decide_eq_true (by first | (with_reducible assumption) | assumption)
                have q9 : (x4_1 : Int) < ((x3_1.length : Int) : Int) := of_decide_eq_true (by first | (with_reducible assumption) | assumption)
                obtain ⟨go9, co9, eo9, gb9, gl9, cl9, HG9⟩ := Kd.R_form HO_3.out (by omega)
                (first | cases eo9 | (injection eo9 with ea_ en_ ec_; (first | subst ea_ | (injection ea_ with ea_; subst ea_)); subst ec_; clear en_))
                have GB9 := Aside0.mk gb9
                have GG9 := Aside0.mk HG9
                clear gb9 gl9 HG9
                obtain ⟨hx9_0, hf9_0⟩ := Kd.R_celln 0 HO_3.out (x4_1 : Int) p9 q9
                replace p9 := eq_true p9
                replace q9 := eq_true q9
                have HP10 := Kd.R_putg HO_3.out (x4_1 : Int) ((rd l0 x4_1) % 256)
                go_wp2_with (first | ((with_reducible refine gate_store (t := 5) (p := 21) rfl ?_); refine store_event (t := 5) (p := 21) (v := ?vo_w11) (w1 := (wr.setCell ⟨go9, (x4_1 : Int).toNat, none⟩ (.int .u8 ((rd l0 x4_1) % 256)))) ?hg ?ho ?hn ?hr ?_; (case ho => rfl); (case hg => rfl); (case hn => rfl); (case hr => first | (go_simp; done) | (go_simp; rfl)); intro w11 hw; have hg : wr.grownBy w11 (some go9) := (by rw [hw]; exact HP10.2); have hp_ : Kd.R (Kd.int .u8) 5 w11 w.heap.size (fun _ => True) (.slice (some ⟨go9, 0, none⟩) x3_1.length co9) y211 := (by rw [hw, Ny211.out]; exact HP10.1); clear HP10; have n0_ := Aside0.mk (hp_); have n1_ := Aside0.mk ((by rw [hw]; exact below_set (HB.out) GB9.out : Below w.heap.size w w11)); clear HO_3; clear HB; have HO_3 := n0_; have HB := n1_; clear n0_ n1_; clear hg hw hp_))
                go_roundg k1
                case measure => have := HK1.out; omega
                case rel => exact ⟨(y211), (wrap64 (x4_1 + 1)), (by first | rfl | (simp; done) | (simp [*]; done)), H', ⟨by have := HK1.out; omega⟩, ⟨by (with_reducible repeat (first | apply Kd.R_alloc | apply Kd.R_drewN | apply Kd.R_drew)); exact HO_3.out⟩, ⟨by repeat (first | (with_reducible first | exact HB.out | apply below_alloc | apply pw_below_drewN | apply below_drew1) | exact HB.out)⟩⟩
              · rw [if_neg c8] at H
                exact absurd H (by simp)
            · rw [if_neg c7] at H
              exact absurd H (by simp)
          · rw [if_neg c6] at H
            have c6b0 : decide (x4_1 < (l0.length : Int)) = false := decide_eq_false c6
            clear c6
            obtain rfl := Option.some.inj H
            have hcv12 := own_string (P := Tryd.prog) Tryd.underlying80 Tryd.underlying5 Tryd.underlying9 (Kd.own_of_R HO_3.out)
            go_wp2
            go_ret
            exact ⟨by first | rfl | (simp [errW_none, errW_some] <;> rfl) | (simp [*, errW_none, errW_some] <;> rfl), by repeat (first | (with_reducible first | exact HB.out | apply below_alloc | apply pw_below_drewN | apply below_drew1) | exact HB.out)⟩
    · rw [if_neg c3] at H
      exact absurd H (by simp)
  · rw [if_neg c2] at H
    exact absurd H (by simp)

end Go.Proofs.YtheichpmhfledaaDoor.PNumberText
