-- Written by printx.py of this session, over the kit's print, with contracts of this session for some functions
import Derived.Test.YtkdinhbfidckdaaRPFnGlobx0
import Derived.Test.YtkdinhbfidckdaaRPFnGlobx2
namespace Go.Proofs.YtkdinhbfidckdaaR.PFnGlob
open Go.RowKit Go.Proofs.YtkdinhbfidckdaaRW.PrintWords Go.Proofs.YtkdinhbfidckdaaRW.PrintLast Go.Proofs.YtkdinhbfidckdaaRW.PrintMore
attribute [local go_sem] max2_int min2_int max_two min_two max_three min_three max_four min_four   -- for this text's walks alone
set_option linter.unusedVariables false
set_option linter.unusedSimpArgs false

/-! ### impl_Glob: function 23 -/
def impl_Glob.l0 : Nat → List (S43) → List (S71) → Int → Int → Option ((List (S43)))
  | 0, _, _, _, _ => none
  | k + 1, x3, x7, x8, x9 => if x9 < x8 then (if 0 ≤ x9 then (if x9 < (x7.length : Int) then (if x3.length < 5864062014805 then (impl_Glob.l0 k (x3 ++ [(⟨(rd_T71 x7 x9).f0, wrap64 ((rd_T71 x7 x9).f1)⟩ : S43)]) x7 x8 (wrap64 (x9 + 1))) else (none)) else (none)) else (none)) else (some x3)
def impl_Glob.f (k : Nat) (a0 : ByteArray) : Option ((List (S43))) := (helpers_ParseGlobPattern.f k a0).bind fun t162 => (impl_Glob.l0 k ([] : List (S43)) t162 (t162.length : Int) 0)
theorem impl_Glob.mono_l : ∀ k, (∀ y0 y1 y2 y3, LeO (impl_Glob.l0 k y0 y1 y2 y3) (impl_Glob.l0 (k + 1) y0 y1 y2 y3))
  | 0 => fun _ _ _ _ r h => by simp [impl_Glob.l0] at h
  | k + 1 => by
    have ih0 := impl_Glob.mono_l k
    · intro y0 y1 y2 y3
      unfold impl_Glob.l0
      repeat' first
      | (with_reducible exact ih0 _ _ _ _)
      | (with_reducible exact helpers_ParseGlobPattern.mono _ _)
      | (with_reducible exact LeO.refl _)
      | (with_reducible exact LeO.none _)
      | (with_reducible refine LeO.ite ?_ ?_)
      | (with_reducible refine LeO.bind ?_ (fun _ => ?_))
      | exact ih0 _ _ _ _
      | exact helpers_ParseGlobPattern.mono _ _
      | exact LeO.none _
      | refine LeO.ite ?_ ?_
      | refine LeO.bind ?_ (fun _ => ?_)
theorem impl_Glob.mono : ∀ a0 k, LeO (impl_Glob.f k a0) (impl_Glob.f (k + 1) a0) := by
  intro a0 k
  have ih0 := impl_Glob.mono_l k
  unfold impl_Glob.f
  repeat' first
      | (with_reducible exact ih0 _ _ _ _)
      | (with_reducible exact helpers_ParseGlobPattern.mono _ _)
      | (with_reducible exact LeO.refl _)
      | (with_reducible exact LeO.none _)
      | (with_reducible refine LeO.ite ?_ ?_)
      | (with_reducible refine LeO.bind ?_ (fun _ => ?_))
      | exact ih0 _ _ _ _
      | exact helpers_ParseGlobPattern.mono _ _
      | exact LeO.none _
      | refine LeO.ite ?_ ?_
      | refine LeO.bind ?_ (fun _ => ?_)
set_option maxHeartbeats 8000000 in
set_option maxRecDepth 100000 in
theorem impl_Glob.calls (k : Nat) (a0 : ByteArray) (r : List (S43)) (w : World) (h : impl_Glob.f k a0 = some r) :
    Calls Try.prog 23 #[.string a0] w fun e w' => ∃ v0_ : Value, e = .returned (v0_) ∧ Kd.R k43 43 w' w.heap.size (fun _ => True) v0_ r ∧ Below w.heap.size w w' := by
  have hu71 := Try.underlying71
  have hu43 := Try.underlying43
  have HB := Aside0.mk (Below.refl w.heap.size w)
  have H : ((helpers_ParseGlobPattern.f k a0).bind fun t162 => (impl_Glob.l0 k ([] : List (S43)) t162 (t162.length : Int) 0)) = some r := h
  clear h
  replace H := Option.bind_eq_some_iff.mp H
  obtain ⟨t162, A20, H⟩ := H
  replace H : (impl_Glob.l0 k ([] : List (S43)) t162 (t162.length : Int) 0) = some r := H
  have A2 := Aside0.mk A20
  clear A20
  have H' := Aside0.mk H
  clear H
  go_enter Try.func23, Try.ntmps23
  go_wp2_with (first | ((with_reducible refine gate_callee (f := 40) rfl ?_); refine goesL_ (some 7) rfl rfl Try.func40 (by kernel_rfl) rfl #[.string a0] rfl (by (try simp only [List.map_toArray, List.map_cons, List.map_nil]); first | done | rfl | (simp only [List.length_drop, List.length_take]; rfl)) ?_; (with_reducible refine (helpers_ParseGlobPattern.calls k a0 t162 _ A2.out).mono ?_); rintro e w3 ⟨v163, rfl, ho0, hb⟩; refine ⟨_, rfl, ?_⟩; have n0_ := Aside0.mk (Kd.R_lower ho0 (below_size (by repeat (first | (with_reducible first | exact HB.out | apply below_alloc | apply pw_below_drewN | apply below_drew1) | exact HB.out)))); have n1_ := Aside0.mk (below_step (by repeat (first | (with_reducible first | exact HB.out | apply below_alloc | apply pw_below_drewN | apply below_drew1) | exact HB.out)) hb); clear HB; have HO164 := n0_; have HB := n1_; clear n0_ n1_; (try clear hb); (try clear hb2); (try clear hk); (try clear hi); (try clear ho0); obtain ⟨Ao4, co4, eo4⟩ := Kd.R_slice HO164.out; subst eo4))
  go_loopg [3, 9] k (fun kq v3 v9 w' => ∃ (x3_1 : List (S43)) (x9_1 : Int), v9 = .int .i64 x9_1 ∧ Aside0 (impl_Glob.l0 kq x3_1 t162 (t162.length : Int) x9_1 = some r) ∧ Aside0 (kq ≤ k) ∧ Aside0 (Kd.R k43 43 w' w.heap.size (fun _ => True) v3 x3_1) ∧ Aside0 (Kd.R k71 71 w' w.heap.size (fun _ => True) (.slice Ao4 t162.length co4) t162) ∧ Aside0 (Below w.heap.size w w'))
  case atStart => exact ⟨(([] : List (S43))), (0), (by first | rfl | (simp; done) | (simp [*]; done)), H', ⟨Nat.le_refl _⟩, ⟨by first | exact Kd.R_nil _ _ _ _ _ | exact Kd.N_nil _ _ _ _ _ | exact Kd.V_nil _ _ _ _ _ | exact Kd.Q_nil _ _ _ _ _ | exact Kd.S_nil _ _ _ _ _⟩, ⟨by (with_reducible repeat (first | apply Kd.R_alloc | apply Kd.R_drewN | apply Kd.R_drew)); exact HO164.out⟩, ⟨by repeat (first | (with_reducible first | exact HB.out | apply below_alloc | apply pw_below_drewN | apply below_drew1) | exact HB.out)⟩⟩
  case round =>
    clear H'
    try clear c2
    try clear p2
    try clear c4
    obtain ⟨x3_1, x9_1, rfl, HA, HK1, HO_3, HO_7, HB⟩ := hrel
    cases gk with
    | zero => exact absurd HA.out (by simp [impl_Glob.l0])
    | succ k1 =>
      have H := HA.out
      clear HA
      simp only [impl_Glob.l0] at H
      by_cases c5 : x9_1 < (t162.length : Int)
      · rw [if_pos c5] at H
        have c5b0 : decide (x9_1 < (t162.length : Int)) = true := decide_eq_true c5
        clear c5
        by_cases c6 : 0 ≤ x9_1
        · rw [if_pos c6] at H
          have c6b0 : decide (0 ≤ x9_1) = true := decide_eq_true c6
          clear c6
          by_cases c7 : x9_1 < (t162.length : Int)
          · rw [if_pos c7] at H
            have c7b0 : decide (x9_1 < (t162.length : Int)) = true := decide_eq_true c7
            clear c7
            by_cases c8 : x3_1.length < 5864062014805
            · rw [if_pos c8] at H
              have LMc8 := Aside0.mk c8
              clear c8
              obtain ⟨y167, hy167⟩ : ∃ y_ : List (S43), y_ = (x3_1 ++ [(⟨(rd_T71 t162 x9_1).f0, wrap64 ((rd_T71 t162 x9_1).f1)⟩ : S43)]) := ⟨_, rfl⟩
              replace H : (impl_Glob.l0 k1 y167 t162 (t162.length : Int) (wrap64 (x9_1 + 1))) = some r := by first | (rw [hy167]; with_reducible exact H) | (have H2_ := (Option.bind_some _ _).symm.trans H; rw [hy167]; with_reducible exact H2_) | (have H2_ := (Option.bind_some _ _).symm.trans H; with_reducible exact H2_) | with_reducible exact H | (rw [hy167]; exact H) | exact H
              have Ny167 := Aside0.mk hy167
              clear hy167
              have H' := Aside0.mk H
              clear H
              have p165 : 0 ≤ (x9_1 : Int) := of_decide_eq_true (by first | (with_reducible assumption) | assumption)
              have q165 : x9_1 < (t162.length : Int) := of_decide_eq_true (by first | (with_reducible assumption) | assumption)
              obtain ⟨ad165, e165, hx165_0, hx165_1⟩ := at_T71 (Kd.R_reads' HO_7.out).2.2 x9_1 p165 q165
              cases e165
              replace p165 := eq_true p165
              replace q165 := eq_true q165
              go_wp2_with (first | ((with_reducible refine gate_dst (N := 5) rfl ?_); refine box_event ?hg (N := 5) ?hd (cs := #[.string (⟨#[]⟩ : ByteArray), .int .u8 0]) (t := 71) ?hr ?_; (case hd => rfl); (case hg => rfl); (case hr => first | (go_simp; done) | (go_simp; rfl)); intro gb166 hg w9 hbox hb; have n0_ := Aside0.mk (Kd.R_below (by (with_reducible repeat (first | apply Kd.R_alloc | apply Kd.R_drewN | apply Kd.R_drew)); exact HO_3.out) hb); have n1_ := Aside0.mk (Kd.R_below (Kd.R_elderB (by (with_reducible repeat (first | apply Kd.R_alloc | apply Kd.R_drewN | apply Kd.R_drew)); exact HO_7.out) gb166 (Nat.le_of_eq hg.symm)) hb); have n2_ := Aside0.mk (below_step (by repeat (first | (with_reducible first | exact HB.out | apply below_alloc | apply pw_below_drewN | apply below_drew1) | exact HB.out)) hb); have n3_ := Aside0.mk (hbox); have n4_ := Aside0.mk ((by rw [hg]; exact (below_size (by repeat (first | (with_reducible first | exact HB.out | apply below_alloc | apply pw_below_drewN | apply below_drew1) | exact HB.out))) : w.heap.size ≤ gb166)); have n5_ := Aside0.mk ((by rw [hg]; exact (below_size (by repeat (first | (with_reducible first | exact HB.out | apply below_alloc | apply pw_below_drewN | apply below_drew1) | exact HB.out))) : w.heap.size ≤ gb166)); clear HO_3; clear HO_7; clear HB; have HO_3 := n0_; have HO_7 := n1_; have HB := n2_; have BK166 := n3_; have GW166 := n4_; have GE166 := n5_; clear n0_ n1_ n2_ n3_ n4_ n5_; clear hb hbox hg; have hcz10_0 : w9.cell? ⟨gb166, 0, none⟩ = some (.string (⟨#[]⟩ : ByteArray)) := (blk_cell BK166.out 0).trans rfl; have hcz10_1 : w9.cell? ⟨gb166, 1, none⟩ = some (.int .u8 0) := (blk_cell BK166.out 1).trans rfl; have hfz10_0 := blk_frozen BK166.out 0; have hfz10_1 := blk_frozen BK166.out 1) | ((with_reducible refine gate_builtin (b := .append) (xs := #[.tmp 13, .tmp 20]) rfl ?_); at_builtin; refine Kd.R_append k43 (w0 := w) w.heap.size rfl (.tmp 13) (.tmp 20) 39 43 (.agg #[(.string ⟨#[]⟩), (.int .i64 0)]) 24 rfl Try.underlying39 info43 rfl (by decide) (by omega) u3 x3_1 (⟨(rd_T71 t162 x9_1).f0, wrap64 ((rd_T71 t162 x9_1).f1)⟩ : S43) [.string ((rd_T71 t162 x9_1).f0), .int .i64 (wrap64 ((rd_T71 t162 x9_1).f1))] (fun _ => True) (fun _ => False) rfl (by first | (go_simp; done) | (go_simp; rfl)) ?aP (fun _ hk => hk.elim) ?aF ?aO ?aB ?aS ?aL ?_; (case aP => exact k43_mkM _ _ _ (⟨(rd_T71 t162 x9_1).f0, wrap64 ((rd_T71 t162 x9_1).f1)⟩ : S43)); (case aB => exact (by repeat (first | (with_reducible first | exact HB.out | apply below_alloc | apply pw_below_drewN | apply below_drew1 | refine below_set ?_ GE166.out) | exact HB.out))); (case aF => exact (fun _ _ => trivial)); (case aO => exact (by (with_reducible repeat (first | apply Kd.R_alloc | apply Kd.R_drewN | apply Kd.R_drew)); exact Kd.R_mono (Kd.R_far (p := ⟨gb166, 1, none⟩) (Kd.R_far (p := ⟨gb166, 0, none⟩) (Kd.R_types HO_3.out BK166.out (by decide)) (fun _ hk => hk.2) (.string ((rd_T71 t162 x9_1).f0))) (fun _ hk => hk.2) (.int .u8 ((rd_T71 t162 x9_1).f1))) (fun _ hk => trivial))); (case aS => exact (below_size (by repeat (first | (with_reducible first | exact HB.out | apply below_alloc | apply pw_below_drewN | apply below_drew1 | refine below_set ?_ GE166.out) | exact HB.out)))); (case aL => have := LMc8.out; omega); intro v168 w11 ho hb hg hat; rw [← Ny167.out] at ho; have n0_ := Aside0.mk (Kd.R_over' (by (with_reducible repeat (first | apply Kd.R_alloc | apply Kd.R_drewN | apply Kd.R_drew)); exact (Kd.R_mono (Kd.R_far (p := ⟨gb166, 1, none⟩) (Kd.R_far (p := ⟨gb166, 0, none⟩) (Kd.R_mono HO_7.out (fun k_ hk => (⟨hk, hk.2⟩ : _ ∧ k_ ≠ gb166))) (fun _ hk => hk.2) (.string ((rd_T71 t162 x9_1).f0))) (fun _ hk => hk.2) (.int .u8 ((rd_T71 t162 x9_1).f1))) (fun _ h_ => h_.1))) (Kd.R_typed (by (with_reducible repeat (first | apply Kd.R_alloc | apply Kd.R_drewN | apply Kd.R_drew)); exact (Kd.R_mono (Kd.R_far (p := ⟨gb166, 1, none⟩) (Kd.R_far (p := ⟨gb166, 0, none⟩) (Kd.R_types HO_3.out BK166.out (by decide)) (fun _ hk => hk.2) (.string ((rd_T71 t162 x9_1).f0))) (fun _ hk => hk.2) (.int .u8 ((rd_T71 t162 x9_1).f1))) (fun _ h_ => h_.1)))) (by decide) hg); have n1_ := Aside0.mk (blk_grown (g := gb166) (o := .cells #[.string ((rd_T71 t162 x9_1).f0), .int .u8 ((rd_T71 t162 x9_1).f1)] 71 (0, 0)) (by (with_reducible repeat (first | refine blk_drewN ?_ _ | refine blk_drew ?_ | refine blk_alloc ?_ _)); refine blk_put (cs := #[.string ((rd_T71 t162 x9_1).f0), .int .u8 0]) ?_ 1 _ rfl; (with_reducible repeat (first | refine blk_drewN ?_ _ | refine blk_drew ?_ | refine blk_alloc ?_ _)); refine blk_put (cs := #[.string (⟨#[]⟩ : ByteArray), .int .u8 0]) ?_ 0 _ rfl; (with_reducible repeat (first | refine blk_drewN ?_ _ | refine blk_drew ?_ | refine blk_alloc ?_ _)); exact BK166.out) hg (Kd.R_ne HO_3.out BK166.out (by decide))); have n2_ := Aside0.mk (hb); have n3_ := Aside0.mk (ho); clear HO_7; clear BK166; clear HB; clear HO_3; have HO_7 := n0_; have BK166 := n1_; have HB := n2_; have HO169 := n3_; clear n0_ n1_ n2_ n3_; clear ho hb hg hat))
              go_roundg k1
              case measure => have := HK1.out; omega
              case rel => exact ⟨(y167), (wrap64 (x9_1 + 1)), (by first | rfl | (simp; done) | (simp [*]; done)), H', ⟨by have := HK1.out; omega⟩, ⟨by (with_reducible repeat (first | apply Kd.R_alloc | apply Kd.R_drewN | apply Kd.R_drew)); exact HO169.out⟩, ⟨by (with_reducible repeat (first | apply Kd.R_alloc | apply Kd.R_drewN | apply Kd.R_drew)); exact Kd.R_mono HO_7.out (fun _ hk => trivial)⟩, ⟨by repeat (first | (with_reducible first | exact HB.out | apply below_alloc | apply pw_below_drewN | apply below_drew1 | refine below_set ?_ GE166.out) | exact HB.out)⟩⟩
            · rw [if_neg c8] at H
              exact absurd H (by simp)
          · rw [if_neg c7] at H
            exact absurd H (by simp)
        · rw [if_neg c6] at H
          exact absurd H (by simp)
      · rw [if_neg c5] at H
        have c5b0 : decide (x9_1 < (t162.length : Int)) = false := decide_eq_false c5
        clear c5
        obtain rfl := Option.some.inj H
        go_wp2
        go_ret
        exact ⟨_, by first | rfl | (simp [errW_none, errW_some] <;> rfl) | (simp [*, errW_none, errW_some] <;> rfl), by (with_reducible repeat (first | apply Kd.R_alloc | apply Kd.R_drewN | apply Kd.R_drew)); exact HO_3.out, by repeat (first | (with_reducible first | exact HB.out | apply below_alloc | apply pw_below_drewN | apply below_drew1) | exact HB.out)⟩

/-! ### spec_textLower: function 41 -/
def spec_textLower.f (a0 : Int) : Option (Int) := if a0 ≥ 65 then (if a0 ≤ 90 then (some ((a0 + 32) % 256)) else (some a0)) else (some a0)
set_option maxHeartbeats 8000000 in
set_option maxRecDepth 100000 in
theorem spec_textLower.calls (a0 : Int) (r : Int) (w : World) (h : spec_textLower.f a0 = some r) :
    Calls Try.prog 41 #[.int .u8 a0] w fun e w' => e = .returned (.int .u8 r) ∧ Drawn0 w w' := by
  have H : (if a0 ≥ 65 then (if a0 ≤ 90 then (some ((a0 + 32) % 256)) else (some a0)) else (some a0)) = some r := h
  clear h
  by_cases c2 : a0 ≥ 65
  · rw [if_pos c2] at H
    have c2b0 : decide (65 ≤ a0) = true := decide_eq_true c2
    clear c2
    by_cases c3 : a0 ≤ 90
    · rw [if_pos c3] at H
      have c3b0 : decide (a0 ≤ 90) = true := decide_eq_true c3
      clear c3
      obtain rfl := Option.some.inj H
      go_enter Try.func41, Try.ntmps41
      go_wp2
      go_ret
      exact ⟨by first | rfl | (simp; done) | (simp [*]; done), by repeat (first | exact Drawn0.refl _ | apply Drawn0.step)⟩
    · rw [if_neg c3] at H
      have c3b0 : decide (a0 ≤ 90) = false := decide_eq_false c3
      clear c3
      obtain rfl := Option.some.inj H
      go_enter Try.func41, Try.ntmps41
      go_wp2
      go_ret
      exact ⟨by first | rfl | (simp; done) | (simp [*]; done), by repeat (first | exact Drawn0.refl _ | apply Drawn0.step)⟩
  · rw [if_neg c2] at H
    have c2b0 : decide (65 ≤ a0) = false := decide_eq_false c2
    clear c2
    obtain rfl := Option.some.inj H
    go_enter Try.func41, Try.ntmps41
    go_wp2
    go_ret
    exact ⟨by first | rfl | (simp; done) | (simp [*]; done), by repeat (first | exact Drawn0.refl _ | apply Drawn0.step)⟩

/-! ### spec_TextFinds: function 24 -/
mutual
def spec_TextFinds.l0 : Nat → ByteArray → ByteArray → Int → Option (Int)
  | 0, _, _, _ => none
  | k + 1, x0, x1, x5 => if (wrap64 (x5 + (x1.size : Int))) ≤ (x0.size : Int) then (spec_TextFinds.l1 k x0 x1 x5 true 0) else (some (-1))
def spec_TextFinds.l1 : Nat → ByteArray → ByteArray → Int → Bool → Int → Option (Int)
  | 0, _, _, _, _, _ => none
  | k + 1, x0, x1, x5, x6, x7 => if x7 < (x1.size : Int) then (spec_TextFinds.j2 k x0 x1 x5 x6 x7 x6) else (spec_TextFinds.j2 k x0 x1 x5 x6 x7 false)
def spec_TextFinds.j2 : Nat → ByteArray → ByteArray → Int → Bool → Int → Bool → Option (Int)
  | 0, _, _, _, _, _, _ => none
  | k + 1, x0, x1, x5, x6, x7, x23 => if x23 = true then (if 0 ≤ (wrap64 (x5 + x7)) then (if (wrap64 (x5 + x7)) < (x0.size : Int) then ((spec_textLower.f (bt x0 (wrap64 (x5 + x7)))).bind fun t170 => (if 0 ≤ x7 then (if x7 < (x1.size : Int) then ((spec_textLower.f (bt x1 x7)).bind fun t171 => (spec_TextFinds.l1 k x0 x1 x5 (t170 == t171) (wrap64 (x7 + 1)))) else (none)) else (none))) else (none)) else (none)) else (if x6 = true then (some x5) else (spec_TextFinds.l0 k x0 x1 (wrap64 (x5 + 1))))
end
def spec_TextFinds.f (k : Nat) (a0 : ByteArray) (a1 : ByteArray) : Option (Int) := spec_TextFinds.l0 k a0 a1 0
theorem spec_TextFinds.mono_l : ∀ k, (∀ y0 y1 y2, LeO (spec_TextFinds.l0 k y0 y1 y2) (spec_TextFinds.l0 (k + 1) y0 y1 y2)) ∧ (∀ y0 y1 y2 y3 y4, LeO (spec_TextFinds.l1 k y0 y1 y2 y3 y4) (spec_TextFinds.l1 (k + 1) y0 y1 y2 y3 y4)) ∧ (∀ y0 y1 y2 y3 y4 y5, LeO (spec_TextFinds.j2 k y0 y1 y2 y3 y4 y5) (spec_TextFinds.j2 (k + 1) y0 y1 y2 y3 y4 y5))
  | 0 => ⟨fun _ _ _ r h => by simp [spec_TextFinds.l0] at h, fun _ _ _ _ _ r h => by simp [spec_TextFinds.l1] at h, fun _ _ _ _ _ _ r h => by simp [spec_TextFinds.j2] at h⟩
  | k + 1 => by
    obtain ⟨ih0, ih1, ih2⟩ := spec_TextFinds.mono_l k
    refine ⟨?_, ?_, ?_⟩
    · intro y0 y1 y2
      unfold spec_TextFinds.l0
      repeat' first
      | (with_reducible exact ih0 _ _ _)
      | (with_reducible exact ih1 _ _ _ _ _)
      | (with_reducible exact ih2 _ _ _ _ _ _)
      | (with_reducible exact LeO.refl _)
      | (with_reducible exact LeO.none _)
      | (with_reducible refine LeO.ite ?_ ?_)
      | (with_reducible refine LeO.bind ?_ (fun _ => ?_))
      | exact ih0 _ _ _
      | exact ih1 _ _ _ _ _
      | exact ih2 _ _ _ _ _ _
      | exact LeO.none _
      | refine LeO.ite ?_ ?_
      | refine LeO.bind ?_ (fun _ => ?_)
    · intro y0 y1 y2 y3 y4
      unfold spec_TextFinds.l1
      repeat' first
      | (with_reducible exact ih0 _ _ _)
      | (with_reducible exact ih1 _ _ _ _ _)
      | (with_reducible exact ih2 _ _ _ _ _ _)
      | (with_reducible exact LeO.refl _)
      | (with_reducible exact LeO.none _)
      | (with_reducible refine LeO.ite ?_ ?_)
      | (with_reducible refine LeO.bind ?_ (fun _ => ?_))
      | exact ih0 _ _ _
      | exact ih1 _ _ _ _ _
      | exact ih2 _ _ _ _ _ _
      | exact LeO.none _
      | refine LeO.ite ?_ ?_
      | refine LeO.bind ?_ (fun _ => ?_)
    · intro y0 y1 y2 y3 y4 y5
      unfold spec_TextFinds.j2
      repeat' first
      | (with_reducible exact ih0 _ _ _)
      | (with_reducible exact ih1 _ _ _ _ _)
      | (with_reducible exact ih2 _ _ _ _ _ _)
      | (with_reducible exact LeO.refl _)
      | (with_reducible exact LeO.none _)
      | (with_reducible refine LeO.ite ?_ ?_)
      | (with_reducible refine LeO.bind ?_ (fun _ => ?_))
      | exact ih0 _ _ _
      | exact ih1 _ _ _ _ _
      | exact ih2 _ _ _ _ _ _
      | exact LeO.none _
      | refine LeO.ite ?_ ?_
      | refine LeO.bind ?_ (fun _ => ?_)
theorem spec_TextFinds.mono : ∀ a0 a1 k, LeO (spec_TextFinds.f k a0 a1) (spec_TextFinds.f (k + 1) a0 a1) := by
  intro a0 a1 k
  obtain ⟨ih0, ih1, ih2⟩ := spec_TextFinds.mono_l k
  unfold spec_TextFinds.f
  repeat' first
      | (with_reducible exact ih0 _ _ _)
      | (with_reducible exact ih1 _ _ _ _ _)
      | (with_reducible exact ih2 _ _ _ _ _ _)
      | (with_reducible exact LeO.refl _)
      | (with_reducible exact LeO.none _)
      | (with_reducible refine LeO.ite ?_ ?_)
      | (with_reducible refine LeO.bind ?_ (fun _ => ?_))
      | exact ih0 _ _ _
      | exact ih1 _ _ _ _ _
      | exact ih2 _ _ _ _ _ _
      | exact LeO.none _
      | refine LeO.ite ?_ ?_
      | refine LeO.bind ?_ (fun _ => ?_)
set_option maxHeartbeats 8000000 in
set_option maxRecDepth 100000 in
theorem spec_TextFinds.calls (k : Nat) (a0 : ByteArray) (a1 : ByteArray) (r : Int) (w : World) (h : spec_TextFinds.f k a0 a1 = some r) :
    Calls Try.prog 24 #[.string a0, .string a1] w fun e w' => e = .returned (.int .i64 r) ∧ Drawn0 w w' := by
  have H : (spec_TextFinds.l0 k a0 a1 0) = some r := h
  clear h
  have H' := Aside0.mk H
  clear H
  go_enter Try.func24, Try.ntmps24
  go_wp2
  repeat (go_quiet (fail); try go_wp2)
  go_loopg [5] k (fun kq v5 w' => ∃ (x5_1 : Int), v5 = .int .i64 x5_1 ∧ Aside0 (spec_TextFinds.l0 kq a0 a1 x5_1 = some r) ∧ Aside0 (kq ≤ k) ∧ Drawn0 w w')
  case atStart => exact ⟨(0), (by first | rfl | (simp; done) | (simp [*]; done)), H', ⟨Nat.le_refl _⟩, by repeat (first | exact Drawn0.refl _ | apply Drawn0.step)⟩
  case round =>
    clear H'
    try clear c2
    try clear p2
    obtain ⟨x5_1, rfl, HA, HK1, ⟨m1, rfl⟩⟩ := hrel
    cases gk with
    | zero => exact absurd HA.out (by simp [spec_TextFinds.l0])
    | succ k1 =>
      have H := HA.out
      clear HA
      simp only [spec_TextFinds.l0] at H
      by_cases c3 : (wrap64 (x5_1 + (a1.size : Int))) ≤ (a0.size : Int)
      · rw [if_pos c3] at H
        have c3b0 : decide ((wrap64 (x5_1 + (a1.size : Int))) ≤ (a0.size : Int)) = true := decide_eq_true c3
        clear c3
        have H' := Aside0.mk H
        clear H
        go_wp2
        repeat (go_quiet (fail); try go_wp2)
        go_loopg [6, 7] k1 (fun kq v6 v7 w' => ∃ (x6_2 : Bool) (x7_2 : Int), v6 = .bool x6_2 ∧ v7 = .int .i64 x7_2 ∧ Aside0 (spec_TextFinds.l1 kq a0 a1 x5_1 x6_2 x7_2 = some r) ∧ Aside0 (kq ≤ k1) ∧ Drawn0 w w')
        case atStart => exact ⟨(true), (0), (by first | rfl | (simp; done) | (simp [*]; done)), (by first | rfl | (simp; done) | (simp [*]; done)), H', ⟨Nat.le_refl _⟩, by repeat (first | exact Drawn0.refl _ | apply Drawn0.step)⟩
        case round =>
          clear H'
          try clear c2
          try clear p2
          try clear c3
          try clear c3b0
          try clear p2
          obtain ⟨x6_2, x7_2, rfl, rfl, HA, HK2, ⟨m2, rfl⟩⟩ := hrel
          cases gk with
          | zero => exact absurd HA.out (by simp [spec_TextFinds.l1])
          | succ k2 =>
            have H := HA.out
            clear HA
            simp only [spec_TextFinds.l1] at H
            have HC4 := Aside0.mk H
            clear H
            go_upto_region 6 with (fail)
            repeat (go_quiet (fail); go_upto_region 6 with (fail))
            go_cut [23] (fun v23 wc => ∃ (kq : Nat) (x23_3 : Bool), v23 = .bool x23_3 ∧ Aside0 (spec_TextFinds.j2 kq a0 a1 x5_1 x6_2 x7_2 x23_3 = some r) ∧ Aside0 (kq ≤ k2) ∧ Drawn0 w wc)
            case first =>
              have H := HC4.out
              clear HC4
              by_cases c5 : x7_2 < (a1.size : Int)
              · rw [if_pos c5] at H
                have c5b0 : decide (x7_2 < (a1.size : Int)) = true := decide_eq_true c5
                clear c5
                (first | rw [c5b0] | (simp only [i64_w, i32_w]; rw [c5b0]) | skip)
                have H' := Aside0.mk H
                clear H
                go_wp2
                repeat (go_quiet (fail); try go_wp2)
                go_meet
                case rel => exact ⟨_, (x6_2), (by first | rfl | (simp; done) | (simp [*]; done)), H', ⟨by have := HK1.out; have := HK2.out; first | omega | exact Nat.le_refl _⟩, by repeat (first | exact Drawn0.refl _ | apply Drawn0.step)⟩
              · rw [if_neg c5] at H
                have c5b0 : decide (x7_2 < (a1.size : Int)) = false := decide_eq_false c5
                clear c5
                (first | rw [c5b0] | (simp only [i64_w, i32_w]; rw [c5b0]) | skip)
                have H' := Aside0.mk H
                clear H
                go_wp2
                repeat (go_quiet (fail); try go_wp2)
                go_meet
                case rel => exact ⟨_, (false), (by first | rfl | (simp; done) | (simp [*]; done)), H', ⟨by have := HK1.out; have := HK2.out; first | omega | exact Nat.le_refl _⟩, by repeat (first | exact Drawn0.refl _ | apply Drawn0.step)⟩
            case rest =>
              clear HC4
              try clear c2
              try clear p2
              try clear c3
              try clear c3b0
              try clear c5
              try clear c5b0
              try clear p2
              obtain ⟨kq, x23_3, rfl, HA, HJ3, ⟨mc3, rfl⟩⟩ := hcut
              cases kq with
              | zero => exact absurd HA.out (by simp [spec_TextFinds.j2])
              | succ kj3 =>
                have H := HA.out
                clear HA
                simp only [spec_TextFinds.j2] at H
                by_cases c6 : x23_3 = true
                · subst c6
                  have H1 : (if 0 ≤ (wrap64 (x5_1 + x7_2)) then (if (wrap64 (x5_1 + x7_2)) < (a0.size : Int) then ((spec_textLower.f (bt a0 (wrap64 (x5_1 + x7_2)))).bind fun t170 => (if 0 ≤ x7_2 then (if x7_2 < (a1.size : Int) then ((spec_textLower.f (bt a1 x7_2)).bind fun t171 => (spec_TextFinds.l1 kj3 a0 a1 x5_1 (t170 == t171) (wrap64 (x7_2 + 1)))) else (none)) else (none))) else (none)) else (none)) = some r := by rw [if_pos rfl] at H; exact H
                  clear H
                  have H := H1
                  clear H1
                  obtain ⟨ji7, hji7⟩ : ∃ j_ : Int, (wrap64 (x5_1 + x7_2)) = j_ := ⟨_, rfl⟩
                  replace H : (if 0 ≤ (ji7) then (if (ji7) < (a0.size : Int) then ((spec_textLower.f (bt a0 (ji7))).bind fun t170 => (if 0 ≤ x7_2 then (if x7_2 < (a1.size : Int) then ((spec_textLower.f (bt a1 x7_2)).bind fun t171 => (spec_TextFinds.l1 kj3 a0 a1 x5_1 (t170 == t171) (wrap64 (x7_2 + 1)))) else (none)) else (none))) else (none)) else (none)) = some r := by first | (rw [hji7] at H; exact H) | (simp only [hji7] at H ⊢; exact H)
                  have hji7w : (IntKind.i64.wrap (x5_1 + x7_2)) = ji7 := (i64_w _).trans hji7
                  by_cases c8 : 0 ≤ (ji7)
                  · rw [if_pos c8] at H
                    have c8b0 : decide (0 ≤ (ji7)) = true := decide_eq_true c8
                    clear c8
                    by_cases c9 : (ji7) < (a0.size : Int)
                    · rw [if_pos c9] at H
                      have c9b0 : decide ((ji7) < (a0.size : Int)) = true := decide_eq_true c9
                      clear c9
                      replace H := Option.bind_eq_some_iff.mp H
                      obtain ⟨t170, A110, H⟩ := H
                      replace H : (if 0 ≤ x7_2 then (if x7_2 < (a1.size : Int) then ((spec_textLower.f (bt a1 x7_2)).bind fun t171 => (spec_TextFinds.l1 kj3 a0 a1 x5_1 (t170 == t171) (wrap64 (x7_2 + 1)))) else (none)) else (none)) = some r := H
                      have A11 := Aside0.mk A110
                      clear A110
                      by_cases c12 : 0 ≤ x7_2
                      · rw [if_pos c12] at H
                        have c12b0 : decide (0 ≤ x7_2) = true := decide_eq_true c12
                        clear c12
                        by_cases c13 : x7_2 < (a1.size : Int)
                        · rw [if_pos c13] at H
                          have c13b0 : decide (x7_2 < (a1.size : Int)) = true := decide_eq_true c13
                          clear c13
                          replace H := Option.bind_eq_some_iff.mp H
                          obtain ⟨t171, A150, H⟩ := H
                          replace H : (spec_TextFinds.l1 kj3 a0 a1 x5_1 (t170 == t171) (wrap64 (x7_2 + 1))) = some r := H
                          have A15 := Aside0.mk A150
                          clear A150
                          have H' := Aside0.mk H
                          clear H
                          have p10 : 0 ≤ ((ji7) : Int) := of_decide_eq_true (by first | (with_reducible assumption) | assumption)
                          have q10 : (ji7) < (a0.size : Int) := of_decide_eq_true (by first | (with_reducible assumption) | assumption)
                          have hx10 := bt_at a0 (ji7)
                          replace p10 := eq_true p10
                          replace q10 := eq_true q10
                          go_wp2_with (first | (go_at_call 41; (with_reducible refine (spec_textLower.calls (bt a0 (ji7)) t170 _ A11.out).mono ?_); rintro e w' ⟨rfl, ⟨nd, rfl⟩⟩; (try first | exact ⟨rfl, _, World.drewN_drewN _ _ _⟩ | exact ⟨rfl, _, Eq.trans (World.drewN_drewN _ _ _) (congrArg (World.drewN _) (Nat.add_assoc _ _ _))⟩); have p14 : 0 ≤ (x7_2 : Int) := of_decide_eq_true (by first | (with_reducible assumption) | assumption); have q14 : x7_2 < (a1.size : Int) := of_decide_eq_true (by first | (with_reducible assumption) | assumption); have hx14 := bt_at a1 x7_2; replace p14 := eq_true p14; replace q14 := eq_true q14) | (go_at_call 41; (with_reducible refine (spec_textLower.calls (bt a1 x7_2) t171 _ A15.out).mono ?_); rintro e w' ⟨rfl, ⟨nd, rfl⟩⟩; (try first | exact ⟨rfl, _, World.drewN_drewN _ _ _⟩ | exact ⟨rfl, _, Eq.trans (World.drewN_drewN _ _ _) (congrArg (World.drewN _) (Nat.add_assoc _ _ _))⟩)))
                          repeat (go_quiet (first | (go_at_call 41; (with_reducible refine (spec_textLower.calls (bt a0 (ji7)) t170 _ A11.out).mono ?_); rintro e w' ⟨rfl, ⟨nd, rfl⟩⟩; (try first | exact ⟨rfl, _, World.drewN_drewN _ _ _⟩ | exact ⟨rfl, _, Eq.trans (World.drewN_drewN _ _ _) (congrArg (World.drewN _) (Nat.add_assoc _ _ _))⟩); have p14 : 0 ≤ (x7_2 : Int) := of_decide_eq_true (by first | (with_reducible assumption) | assumption); have q14 : x7_2 < (a1.size : Int) := of_decide_eq_true (by first | (with_reducible assumption) | assumption); have hx14 := bt_at a1 x7_2; replace p14 := eq_true p14; replace q14 := eq_true q14) | (go_at_call 41; (with_reducible refine (spec_textLower.calls (bt a1 x7_2) t171 _ A15.out).mono ?_); rintro e w' ⟨rfl, ⟨nd, rfl⟩⟩; (try first | exact ⟨rfl, _, World.drewN_drewN _ _ _⟩ | exact ⟨rfl, _, Eq.trans (World.drewN_drewN _ _ _) (congrArg (World.drewN _) (Nat.add_assoc _ _ _))⟩))); try go_wp2_with (first | (go_at_call 41; (with_reducible refine (spec_textLower.calls (bt a0 (ji7)) t170 _ A11.out).mono ?_); rintro e w' ⟨rfl, ⟨nd, rfl⟩⟩; (try first | exact ⟨rfl, _, World.drewN_drewN _ _ _⟩ | exact ⟨rfl, _, Eq.trans (World.drewN_drewN _ _ _) (congrArg (World.drewN _) (Nat.add_assoc _ _ _))⟩); have p14 : 0 ≤ (x7_2 : Int) := of_decide_eq_true (by first | (with_reducible assumption) | assumption); have q14 : x7_2 < (a1.size : Int) := of_decide_eq_true (by first | (with_reducible assumption) | assumption); have hx14 := bt_at a1 x7_2; replace p14 := eq_true p14; replace q14 := eq_true q14) | (go_at_call 41; (with_reducible refine (spec_textLower.calls (bt a1 x7_2) t171 _ A15.out).mono ?_); rintro e w' ⟨rfl, ⟨nd, rfl⟩⟩; (try first | exact ⟨rfl, _, World.drewN_drewN _ _ _⟩ | exact ⟨rfl, _, Eq.trans (World.drewN_drewN _ _ _) (congrArg (World.drewN _) (Nat.add_assoc _ _ _))⟩))))
                          go_roundg kj3
                          case measure => have := HK1.out; have := HK2.out; have := HJ3.out; omega
                          case rel => exact ⟨((t170 == t171)), (wrap64 (x7_2 + 1)), (by first | rfl | (simp; done) | (simp [*]; done)), (by first | rfl | (simp; done) | (simp [*]; done)), H', ⟨by have := HK1.out; have := HK2.out; have := HJ3.out; omega⟩, by repeat (first | exact Drawn0.refl _ | apply Drawn0.step)⟩
                        · rw [if_neg c13] at H
                          exact absurd H (by simp)
                      · rw [if_neg c12] at H
                        exact absurd H (by simp)
                    · rw [if_neg c9] at H
                      exact absurd H (by simp)
                  · rw [if_neg c8] at H
                    exact absurd H (by simp)
                · replace c6 := Bool.eq_false_iff.mpr c6
                  subst c6
                  have H1 : (if x6_2 = true then (some x5_1) else (spec_TextFinds.l0 kj3 a0 a1 (wrap64 (x5_1 + 1)))) = some r := by rw [if_neg (show ¬ (false = true) by decide)] at H; exact H
                  clear H
                  have H := H1
                  clear H1
                  by_cases c16 : x6_2 = true
                  · subst c16
                    have H1 : (some x5_1) = some r := by rw [if_pos rfl] at H; exact H
                    clear H
                    have H := H1
                    clear H1
                    obtain rfl := Option.some.inj H
                    go_wp2
                    repeat (go_quiet (fail); try go_wp2)
                    go_ret
                    exact ⟨by first | rfl | (simp; done) | (simp [*]; done), by repeat (first | exact Drawn0.refl _ | apply Drawn0.step)⟩
                  · replace c16 := Bool.eq_false_iff.mpr c16
                    subst c16
                    have H1 : (spec_TextFinds.l0 kj3 a0 a1 (wrap64 (x5_1 + 1))) = some r := by rw [if_neg (show ¬ (false = true) by decide)] at H; exact H
                    clear H
                    have H := H1
                    clear H1
                    have H' := Aside0.mk H
                    clear H
                    go_wp2
                    repeat (go_quiet (fail); try go_wp2)
                    go_roundg kj3
                    case measure => have := HK1.out; have := HK2.out; have := HJ3.out; omega
                    case rel => exact ⟨(wrap64 (x5_1 + 1)), (by first | rfl | (simp; done) | (simp [*]; done)), H', ⟨by have := HK1.out; have := HK2.out; have := HJ3.out; omega⟩, by repeat (first | exact Drawn0.refl _ | apply Drawn0.step)⟩
      · rw [if_neg c3] at H
        have c3b0 : decide ((wrap64 (x5_1 + (a1.size : Int))) ≤ (a0.size : Int)) = false := decide_eq_false c3
        clear c3
        obtain rfl := Option.some.inj H
        go_wp2
        repeat (go_quiet (fail); try go_wp2)
        go_ret
        exact ⟨by first | rfl | (simp; done) | (simp [*]; done), by repeat (first | exact Drawn0.refl _ | apply Drawn0.step)⟩

/-! ### laws_FnGlob: function 7 -/
def laws_FnGlob.f (k : Nat) (a0 : ByteArray) : Option (Bool) := if (a0.size : Int) > 2147483647 then (some true) else ((impl_Glob.f k a0).bind fun t172 => ((spec_TextFinds.f k a0 (⟨#[42]⟩ : ByteArray)).bind fun t175 => ((impl_Glob.f k (⟨#[97, 42]⟩ : ByteArray)).bind fun t176 => (if (t172.length : Int) ≥ 1 then (if t175 ≥ 0 then (if (t172.length : Int) > 1 then (if (t176.length : Int) = 2 then (if 0 < (t176.length : Int) then (some (((rd_T43 t176 0).f0).toList == ([97] : List UInt8))) else (none)) else (some false)) else (some false)) else (if (t172.length : Int) = 1 then (if (t176.length : Int) = 2 then (if 0 < (t176.length : Int) then (some (((rd_T43 t176 0).f0).toList == ([97] : List UInt8))) else (none)) else (some false)) else (some false))) else (some false)))))
theorem laws_FnGlob.mono : ∀ a0 k, LeO (laws_FnGlob.f k a0) (laws_FnGlob.f (k + 1) a0) := by
  intro a0 k
  unfold laws_FnGlob.f
  repeat' first
      | (with_reducible exact impl_Glob.mono _ _)
      | (with_reducible exact spec_TextFinds.mono _ _ _)
      | (with_reducible exact LeO.refl _)
      | (with_reducible exact LeO.none _)
      | (with_reducible refine LeO.ite ?_ ?_)
      | (with_reducible refine LeO.bind ?_ (fun _ => ?_))
      | exact impl_Glob.mono _ _
      | exact spec_TextFinds.mono _ _ _
      | exact LeO.none _
      | refine LeO.ite ?_ ?_
      | refine LeO.bind ?_ (fun _ => ?_)
set_option maxHeartbeats 8000000 in
set_option maxRecDepth 100000 in
theorem laws_FnGlob.calls (k : Nat) (a0 : ByteArray) (r : Bool) (w : World) (h : laws_FnGlob.f k a0 = some r) :
    Calls Try.prog 7 #[.string a0] w fun e w' => e = .returned (.bool r) ∧ Below w.heap.size w w' := by
  have HB := Aside0.mk (Below.refl w.heap.size w)
  have H : (if (a0.size : Int) > 2147483647 then (some true) else ((impl_Glob.f k a0).bind fun t172 => ((spec_TextFinds.f k a0 (⟨#[42]⟩ : ByteArray)).bind fun t175 => ((impl_Glob.f k (⟨#[97, 42]⟩ : ByteArray)).bind fun t176 => (if (t172.length : Int) ≥ 1 then (if t175 ≥ 0 then (if (t172.length : Int) > 1 then (if (t176.length : Int) = 2 then (if 0 < (t176.length : Int) then (some (((rd_T43 t176 0).f0).toList == ([97] : List UInt8))) else (none)) else (some false)) else (some false)) else (if (t172.length : Int) = 1 then (if (t176.length : Int) = 2 then (if 0 < (t176.length : Int) then (some (((rd_T43 t176 0).f0).toList == ([97] : List UInt8))) else (none)) else (some false)) else (some false))) else (some false)))))) = some r := h
  clear h
  by_cases c2 : (a0.size : Int) > 2147483647
  · rw [if_pos c2] at H
    have c2b0 : decide (2147483647 < (a0.size : Int)) = true := decide_eq_true c2
    have c2b1 : decide (2147483647 < a0.size) = true := decide_eq_true (by omega)
    clear c2
    obtain rfl := Option.some.inj H
    go_enter Try.func7, Try.ntmps7
    go_wp2
    go_ret
    exact ⟨by first | rfl | (simp [errW_none, errW_some] <;> rfl) | (simp [*, errW_none, errW_some] <;> rfl), by repeat (first | (with_reducible first | exact HB.out | apply below_alloc | apply pw_below_drewN | apply below_drew1) | exact HB.out)⟩
  · rw [if_neg c2] at H
    have c2b0 : decide (2147483647 < (a0.size : Int)) = false := decide_eq_false c2
    have c2b1 : decide (2147483647 < a0.size) = false := decide_eq_false (by omega)
    clear c2
    replace H := Option.bind_eq_some_iff.mp H
    obtain ⟨t172, A30, H⟩ := H
    replace H : ((spec_TextFinds.f k a0 (⟨#[42]⟩ : ByteArray)).bind fun t175 => ((impl_Glob.f k (⟨#[97, 42]⟩ : ByteArray)).bind fun t176 => (if (t172.length : Int) ≥ 1 then (if t175 ≥ 0 then (if (t172.length : Int) > 1 then (if (t176.length : Int) = 2 then (if 0 < (t176.length : Int) then (some (((rd_T43 t176 0).f0).toList == ([97] : List UInt8))) else (none)) else (some false)) else (some false)) else (if (t172.length : Int) = 1 then (if (t176.length : Int) = 2 then (if 0 < (t176.length : Int) then (some (((rd_T43 t176 0).f0).toList == ([97] : List UInt8))) else (none)) else (some false)) else (some false))) else (some false)))) = some r := H
    have A3 := Aside0.mk A30
    clear A30
    replace H := Option.bind_eq_some_iff.mp H
    obtain ⟨t175, A40, H⟩ := H
    replace H : ((impl_Glob.f k (⟨#[97, 42]⟩ : ByteArray)).bind fun t176 => (if (t172.length : Int) ≥ 1 then (if t175 ≥ 0 then (if (t172.length : Int) > 1 then (if (t176.length : Int) = 2 then (if 0 < (t176.length : Int) then (some (((rd_T43 t176 0).f0).toList == ([97] : List UInt8))) else (none)) else (some false)) else (some false)) else (if (t172.length : Int) = 1 then (if (t176.length : Int) = 2 then (if 0 < (t176.length : Int) then (some (((rd_T43 t176 0).f0).toList == ([97] : List UInt8))) else (none)) else (some false)) else (some false))) else (some false))) = some r := H
    have A4 := Aside0.mk A40
    clear A40
    replace H := Option.bind_eq_some_iff.mp H
    obtain ⟨t176, A50, H⟩ := H
    replace H : (if (t172.length : Int) ≥ 1 then (if t175 ≥ 0 then (if (t172.length : Int) > 1 then (if (t176.length : Int) = 2 then (if 0 < (t176.length : Int) then (some (((rd_T43 t176 0).f0).toList == ([97] : List UInt8))) else (none)) else (some false)) else (some false)) else (if (t172.length : Int) = 1 then (if (t176.length : Int) = 2 then (if 0 < (t176.length : Int) then (some (((rd_T43 t176 0).f0).toList == ([97] : List UInt8))) else (none)) else (some false)) else (some false))) else (some false)) = some r := H
    have A5 := Aside0.mk A50
    clear A50
    by_cases c6 : (t172.length : Int) ≥ 1
    · rw [if_pos c6] at H
      have c6b0 : decide (1 ≤ (t172.length : Int)) = true := decide_eq_true c6
      have c6b1 : decide (1 ≤ t172.length) = true := decide_eq_true (by omega)
      clear c6
      by_cases c7 : t175 ≥ 0
      · rw [if_pos c7] at H
        have c7b0 : decide (0 ≤ t175) = true := decide_eq_true c7
        clear c7
        by_cases c8 : (t172.length : Int) > 1
        · rw [if_pos c8] at H
          have c8b0 : decide (1 < (t172.length : Int)) = true := decide_eq_true c8
          have c8b1 : decide (1 < t172.length) = true := decide_eq_true (by omega)
          clear c8
          by_cases c9 : (t176.length : Int) = 2
          · rw [if_pos c9] at H
            have c9b0 : ((t176.length : Int) == 2) = true := beq_iff_eq.mpr c9
            have c9b1 : ((t176.length : Int) != 2) = false := bne_eq_false_iff_eq.mpr c9
            clear c9
            by_cases c10 : 0 < (t176.length : Int)
            · rw [if_pos c10] at H
              have c10b0 : decide (0 < (t176.length : Int)) = true := decide_eq_true c10
              have c10b1 : decide (0 < t176.length) = true := decide_eq_true (by omega)
              clear c10
              obtain rfl := Option.some.inj H
              go_enter Try.func7, Try.ntmps7
              go_wp2_with (first | ((with_reducible refine gate_callee (f := 23) rfl ?_); refine goesL_ (some 10) rfl rfl Try.func23 (by kernel_rfl) rfl #[.string a0] rfl (by (try simp only [List.map_toArray, List.map_cons, List.map_nil]); first | done | rfl | (simp only [List.length_drop, List.length_take]; rfl)) ?_; (with_reducible refine (impl_Glob.calls k a0 t172 _ A3.out).mono ?_); rintro e w11 ⟨v173, rfl, ho0, hb⟩; refine ⟨_, rfl, ?_⟩; have n0_ := Aside0.mk (Kd.R_lower ho0 (below_size (by repeat (first | (with_reducible first | exact HB.out | apply below_alloc | apply pw_below_drewN | apply below_drew1) | exact HB.out)))); have n1_ := Aside0.mk (below_step (by repeat (first | (with_reducible first | exact HB.out | apply below_alloc | apply pw_below_drewN | apply below_drew1) | exact HB.out)) hb); clear HB; have HO174 := n0_; have HB := n1_; clear n0_ n1_; (try clear hb); (try clear hb2); (try clear hk); (try clear hi); (try clear ho0)) | ((with_reducible refine gate_callee (f := 24) rfl ?_); refine goesL_ (some 12) rfl rfl Try.func24 (by kernel_rfl) rfl #[.string a0, .string (⟨#[42]⟩ : ByteArray)] rfl (by (try simp only [List.map_toArray, List.map_cons, List.map_nil]); first | done | rfl | (simp only [List.length_drop, List.length_take]; rfl)) ?_; (with_reducible refine (spec_TextFinds.calls k a0 (⟨#[42]⟩ : ByteArray) t175 _ A4.out).mono ?_); rintro e w' ⟨rfl, ⟨nd, rfl⟩⟩; refine ⟨_, rfl, ?_⟩) | ((with_reducible refine gate_callee (f := 23) rfl ?_); refine goesL_ (some 14) rfl rfl Try.func23 (by kernel_rfl) rfl #[.string (⟨#[97, 42]⟩ : ByteArray)] rfl (by (try simp only [List.map_toArray, List.map_cons, List.map_nil]); first | done | rfl | (simp only [List.length_drop, List.length_take]; rfl)) ?_; (with_reducible refine (impl_Glob.calls k (⟨#[97, 42]⟩ : ByteArray) t176 _ A5.out).mono ?_); rintro e w12 ⟨v177, rfl, ho0, hb⟩; refine ⟨_, rfl, ?_⟩; have n0_ := Aside0.mk (Kd.R_elder' (by (with_reducible repeat (first | apply Kd.R_alloc | apply Kd.R_drewN | apply Kd.R_drew)); exact HO174.out) (Kd.R_base ho0) hb); have n1_ := Aside0.mk (Kd.R_lower (Kd.R_new' ho0 (Kd.R_lt (by (with_reducible repeat (first | apply Kd.R_alloc | apply Kd.R_drewN | apply Kd.R_drew)); exact HO174.out))) (below_size (by repeat (first | (with_reducible first | exact HB.out | apply below_alloc | apply pw_below_drewN | apply below_drew1) | exact HB.out)))); have n2_ := Aside0.mk (below_step (by repeat (first | (with_reducible first | exact HB.out | apply below_alloc | apply pw_below_drewN | apply below_drew1) | exact HB.out)) hb); clear HO174; clear HB; have HO174 := n0_; have HO178 := n1_; have HB := n2_; clear n0_ n1_ n2_; (try clear hb); (try clear hb2); (try clear hk); (try clear hi); (try clear ho0); obtain ⟨Ao13, co13, eo13⟩ := Kd.R_slice HO174.out; subst eo13; obtain ⟨Ao14, co14, eo14⟩ := Kd.R_slice HO178.out; subst eo14; have p179 : 0 ≤ (0 : Int) := (by omega); have q179 : 0 < (t176.length : Int) := of_decide_eq_true (by first | (with_reducible assumption) | assumption); obtain ⟨ad179, e179, hx179_0, hx179_1⟩ := at_T43 (Kd.R_reads' HO178.out).2.2 0 p179 q179; cases e179; have qi179 : (0 < t176.length) = True := eq_true (by omega); (try rw [show ((0 : Int)).toNat = 0 from rfl] at hx179_0); (try rw [show 0 * 2 = 0 from rfl] at hx179_0); (try rw [Addr.add_zero'] at hx179_0); (try rw [show ((0 : Int)).toNat = 0 from rfl] at hx179_1); (try rw [show 0 * 2 = 0 from rfl] at hx179_1); (try rw [Addr.add_zero'] at hx179_1); replace p179 := eq_true p179; replace q179 := eq_true q179))
              go_ret
              exact ⟨by first | rfl | (simp [errW_none, errW_some] <;> rfl) | (simp [*, errW_none, errW_some] <;> rfl), by repeat (first | (with_reducible first | exact HB.out | apply below_alloc | apply pw_below_drewN | apply below_drew1) | exact HB.out)⟩
            · rw [if_neg c10] at H
              exact absurd H (by simp)
          · rw [if_neg c9] at H
            have c9b0 : ((t176.length : Int) == 2) = false := beq_eq_false_iff_ne.mpr c9
            have c9b1 : ((t176.length : Int) != 2) = true := bne_iff_ne.mpr c9
            obtain rfl := Option.some.inj H
            go_enter Try.func7, Try.ntmps7
            go_wp2_with (first | ((with_reducible refine gate_callee (f := 23) rfl ?_); refine goesL_ (some 10) rfl rfl Try.func23 (by kernel_rfl) rfl #[.string a0] rfl (by (try simp only [List.map_toArray, List.map_cons, List.map_nil]); first | done | rfl | (simp only [List.length_drop, List.length_take]; rfl)) ?_; (with_reducible refine (impl_Glob.calls k a0 t172 _ A3.out).mono ?_); rintro e w15 ⟨v173, rfl, ho0, hb⟩; refine ⟨_, rfl, ?_⟩; have n0_ := Aside0.mk (Kd.R_lower ho0 (below_size (by repeat (first | (with_reducible first | exact HB.out | apply below_alloc | apply pw_below_drewN | apply below_drew1) | exact HB.out)))); have n1_ := Aside0.mk (below_step (by repeat (first | (with_reducible first | exact HB.out | apply below_alloc | apply pw_below_drewN | apply below_drew1) | exact HB.out)) hb); clear HB; have HO174 := n0_; have HB := n1_; clear n0_ n1_; (try clear hb); (try clear hb2); (try clear hk); (try clear hi); (try clear ho0)) | ((with_reducible refine gate_callee (f := 24) rfl ?_); refine goesL_ (some 12) rfl rfl Try.func24 (by kernel_rfl) rfl #[.string a0, .string (⟨#[42]⟩ : ByteArray)] rfl (by (try simp only [List.map_toArray, List.map_cons, List.map_nil]); first | done | rfl | (simp only [List.length_drop, List.length_take]; rfl)) ?_; (with_reducible refine (spec_TextFinds.calls k a0 (⟨#[42]⟩ : ByteArray) t175 _ A4.out).mono ?_); rintro e w' ⟨rfl, ⟨nd, rfl⟩⟩; refine ⟨_, rfl, ?_⟩) | ((with_reducible refine gate_callee (f := 23) rfl ?_); refine goesL_ (some 14) rfl rfl Try.func23 (by kernel_rfl) rfl #[.string (⟨#[97, 42]⟩ : ByteArray)] rfl (by (try simp only [List.map_toArray, List.map_cons, List.map_nil]); first | done | rfl | (simp only [List.length_drop, List.length_take]; rfl)) ?_; (with_reducible refine (impl_Glob.calls k (⟨#[97, 42]⟩ : ByteArray) t176 _ A5.out).mono ?_); rintro e w16 ⟨v177, rfl, ho0, hb⟩; refine ⟨_, rfl, ?_⟩; have n0_ := Aside0.mk (Kd.R_elder' (by (with_reducible repeat (first | apply Kd.R_alloc | apply Kd.R_drewN | apply Kd.R_drew)); exact HO174.out) (Kd.R_base ho0) hb); have n1_ := Aside0.mk (Kd.R_lower (Kd.R_new' ho0 (Kd.R_lt (by (with_reducible repeat (first | apply Kd.R_alloc | apply Kd.R_drewN | apply Kd.R_drew)); exact HO174.out))) (below_size (by repeat (first | (with_reducible first | exact HB.out | apply below_alloc | apply pw_below_drewN | apply below_drew1) | exact HB.out)))); have n2_ := Aside0.mk (below_step (by repeat (first | (with_reducible first | exact HB.out | apply below_alloc | apply pw_below_drewN | apply below_drew1) | exact HB.out)) hb); clear HO174; clear HB; have HO174 := n0_; have HO178 := n1_; have HB := n2_; clear n0_ n1_ n2_; (try clear hb); (try clear hb2); (try clear hk); (try clear hi); (try clear ho0); obtain ⟨Ao17, co17, eo17⟩ := Kd.R_slice HO174.out; subst eo17; obtain ⟨Ao18, co18, eo18⟩ := Kd.R_slice HO178.out; subst eo18))
            go_ret
            exact ⟨by first | rfl | (simp [errW_none, errW_some] <;> rfl) | (simp [*, errW_none, errW_some] <;> rfl), by repeat (first | (with_reducible first | exact HB.out | apply below_alloc | apply pw_below_drewN | apply below_drew1) | exact HB.out)⟩
        · rw [if_neg c8] at H
          have c8b0 : decide (1 < (t172.length : Int)) = false := decide_eq_false c8
          have c8b1 : decide (1 < t172.length) = false := decide_eq_false (by omega)
          clear c8
          obtain rfl := Option.some.inj H
          go_enter Try.func7, Try.ntmps7
          go_wp2_with (first | ((with_reducible refine gate_callee (f := 23) rfl ?_); refine goesL_ (some 10) rfl rfl Try.func23 (by kernel_rfl) rfl #[.string a0] rfl (by (try simp only [List.map_toArray, List.map_cons, List.map_nil]); first | done | rfl | (simp only [List.length_drop, List.length_take]; rfl)) ?_; (with_reducible refine (impl_Glob.calls k a0 t172 _ A3.out).mono ?_); rintro e w19 ⟨v173, rfl, ho0, hb⟩; refine ⟨_, rfl, ?_⟩; have n0_ := Aside0.mk (Kd.R_lower ho0 (below_size (by repeat (first | (with_reducible first | exact HB.out | apply below_alloc | apply pw_below_drewN | apply below_drew1) | exact HB.out)))); have n1_ := Aside0.mk (below_step (by repeat (first | (with_reducible first | exact HB.out | apply below_alloc | apply pw_below_drewN | apply below_drew1) | exact HB.out)) hb); clear HB; have HO174 := n0_; have HB := n1_; clear n0_ n1_; (try clear hb); (try clear hb2); (try clear hk); (try clear hi); (try clear ho0)) | ((with_reducible refine gate_callee (f := 24) rfl ?_); refine goesL_ (some 12) rfl rfl Try.func24 (by kernel_rfl) rfl #[.string a0, .string (⟨#[42]⟩ : ByteArray)] rfl (by (try simp only [List.map_toArray, List.map_cons, List.map_nil]); first | done | rfl | (simp only [List.length_drop, List.length_take]; rfl)) ?_; (with_reducible refine (spec_TextFinds.calls k a0 (⟨#[42]⟩ : ByteArray) t175 _ A4.out).mono ?_); rintro e w' ⟨rfl, ⟨nd, rfl⟩⟩; refine ⟨_, rfl, ?_⟩) | ((with_reducible refine gate_callee (f := 23) rfl ?_); refine goesL_ (some 14) rfl rfl Try.func23 (by kernel_rfl) rfl #[.string (⟨#[97, 42]⟩ : ByteArray)] rfl (by (try simp only [List.map_toArray, List.map_cons, List.map_nil]); first | done | rfl | (simp only [List.length_drop, List.length_take]; rfl)) ?_; (with_reducible refine (impl_Glob.calls k (⟨#[97, 42]⟩ : ByteArray) t176 _ A5.out).mono ?_); rintro e w20 ⟨v177, rfl, ho0, hb⟩; refine ⟨_, rfl, ?_⟩; have n0_ := Aside0.mk (Kd.R_elder' (by (with_reducible repeat (first | apply Kd.R_alloc | apply Kd.R_drewN | apply Kd.R_drew)); exact HO174.out) (Kd.R_base ho0) hb); have n1_ := Aside0.mk (Kd.R_lower (Kd.R_new' ho0 (Kd.R_lt (by (with_reducible repeat (first | apply Kd.R_alloc | apply Kd.R_drewN | apply Kd.R_drew)); exact HO174.out))) (below_size (by repeat (first | (with_reducible first | exact HB.out | apply below_alloc | apply pw_below_drewN | apply below_drew1) | exact HB.out)))); have n2_ := Aside0.mk (below_step (by repeat (first | (with_reducible first | exact HB.out | apply below_alloc | apply pw_below_drewN | apply below_drew1) | exact HB.out)) hb); clear HO174; clear HB; have HO174 := n0_; have HO178 := n1_; have HB := n2_; clear n0_ n1_ n2_; (try clear hb); (try clear hb2); (try clear hk); (try clear hi); (try clear ho0); obtain ⟨Ao21, co21, eo21⟩ := Kd.R_slice HO174.out; subst eo21))
          go_ret
          exact ⟨by first | rfl | (simp [errW_none, errW_some] <;> rfl) | (simp [*, errW_none, errW_some] <;> rfl), by repeat (first | (with_reducible first | exact HB.out | apply below_alloc | apply pw_below_drewN | apply below_drew1) | exact HB.out)⟩
      · rw [if_neg c7] at H
        have c7b0 : decide (0 ≤ t175) = false := decide_eq_false c7
        clear c7
        by_cases c22 : (t172.length : Int) = 1
        · rw [if_pos c22] at H
          have c22b0 : ((t172.length : Int) == 1) = true := beq_iff_eq.mpr c22
          have c22b1 : ((t172.length : Int) != 1) = false := bne_eq_false_iff_eq.mpr c22
          clear c22
          by_cases c23 : (t176.length : Int) = 2
          · rw [if_pos c23] at H
            have c23b0 : ((t176.length : Int) == 2) = true := beq_iff_eq.mpr c23
            have c23b1 : ((t176.length : Int) != 2) = false := bne_eq_false_iff_eq.mpr c23
            clear c23
            by_cases c24 : 0 < (t176.length : Int)
            · rw [if_pos c24] at H
              have c24b0 : decide (0 < (t176.length : Int)) = true := decide_eq_true c24
              have c24b1 : decide (0 < t176.length) = true := decide_eq_true (by omega)
              clear c24
              obtain rfl := Option.some.inj H
              go_enter Try.func7, Try.ntmps7
              go_wp2_with (first | ((with_reducible refine gate_callee (f := 23) rfl ?_); refine goesL_ (some 10) rfl rfl Try.func23 (by kernel_rfl) rfl #[.string a0] rfl (by (try simp only [List.map_toArray, List.map_cons, List.map_nil]); first | done | rfl | (simp only [List.length_drop, List.length_take]; rfl)) ?_; (with_reducible refine (impl_Glob.calls k a0 t172 _ A3.out).mono ?_); rintro e w25 ⟨v173, rfl, ho0, hb⟩; refine ⟨_, rfl, ?_⟩; have n0_ := Aside0.mk (Kd.R_lower ho0 (below_size (by repeat (first | (with_reducible first | exact HB.out | apply below_alloc | apply pw_below_drewN | apply below_drew1) | exact HB.out)))); have n1_ := Aside0.mk (below_step (by repeat (first | (with_reducible first | exact HB.out | apply below_alloc | apply pw_below_drewN | apply below_drew1) | exact HB.out)) hb); clear HB; have HO174 := n0_; have HB := n1_; clear n0_ n1_; (try clear hb); (try clear hb2); (try clear hk); (try clear hi); (try clear ho0)) | ((with_reducible refine gate_callee (f := 24) rfl ?_); refine goesL_ (some 12) rfl rfl Try.func24 (by kernel_rfl) rfl #[.string a0, .string (⟨#[42]⟩ : ByteArray)] rfl (by (try simp only [List.map_toArray, List.map_cons, List.map_nil]); first | done | rfl | (simp only [List.length_drop, List.length_take]; rfl)) ?_; (with_reducible refine (spec_TextFinds.calls k a0 (⟨#[42]⟩ : ByteArray) t175 _ A4.out).mono ?_); rintro e w' ⟨rfl, ⟨nd, rfl⟩⟩; refine ⟨_, rfl, ?_⟩) | ((with_reducible refine gate_callee (f := 23) rfl ?_); refine goesL_ (some 14) rfl rfl Try.func23 (by kernel_rfl) rfl #[.string (⟨#[97, 42]⟩ : ByteArray)] rfl (by (try simp only [List.map_toArray, List.map_cons, List.map_nil]); first | done | rfl | (simp only [List.length_drop, List.length_take]; rfl)) ?_; (with_reducible refine (impl_Glob.calls k (⟨#[97, 42]⟩ : ByteArray) t176 _ A5.out).mono ?_); rintro e w26 ⟨v177, rfl, ho0, hb⟩; refine ⟨_, rfl, ?_⟩; have n0_ := Aside0.mk (Kd.R_elder' (by (with_reducible repeat (first | apply Kd.R_alloc | apply Kd.R_drewN | apply Kd.R_drew)); exact HO174.out) (Kd.R_base ho0) hb); have n1_ := Aside0.mk (Kd.R_lower (Kd.R_new' ho0 (Kd.R_lt (by (with_reducible repeat (first | apply Kd.R_alloc | apply Kd.R_drewN | apply Kd.R_drew)); exact HO174.out))) (below_size (by repeat (first | (with_reducible first | exact HB.out | apply below_alloc | apply pw_below_drewN | apply below_drew1) | exact HB.out)))); have n2_ := Aside0.mk (below_step (by repeat (first | (with_reducible first | exact HB.out | apply below_alloc | apply pw_below_drewN | apply below_drew1) | exact HB.out)) hb); clear HO174; clear HB; have HO174 := n0_; have HO178 := n1_; have HB := n2_; clear n0_ n1_ n2_; (try clear hb); (try clear hb2); (try clear hk); (try clear hi); (try clear ho0); obtain ⟨Ao27, co27, eo27⟩ := Kd.R_slice HO174.out; subst eo27; obtain ⟨Ao28, co28, eo28⟩ := Kd.R_slice HO178.out; subst eo28; have p180 : 0 ≤ (0 : Int) := (by omega); have q180 : 0 < (t176.length : Int) := of_decide_eq_true (by first | (with_reducible assumption) | assumption); obtain ⟨ad180, e180, hx180_0, hx180_1⟩ := at_T43 (Kd.R_reads' HO178.out).2.2 0 p180 q180; cases e180; have qi180 : (0 < t176.length) = True := eq_true (by omega); (try rw [show ((0 : Int)).toNat = 0 from rfl] at hx180_0); (try rw [show 0 * 2 = 0 from rfl] at hx180_0); (try rw [Addr.add_zero'] at hx180_0); (try rw [show ((0 : Int)).toNat = 0 from rfl] at hx180_1); (try rw [show 0 * 2 = 0 from rfl] at hx180_1); (try rw [Addr.add_zero'] at hx180_1); replace p180 := eq_true p180; replace q180 := eq_true q180))
              go_ret
              exact ⟨by first | rfl | (simp [errW_none, errW_some] <;> rfl) | (simp [*, errW_none, errW_some] <;> rfl), by repeat (first | (with_reducible first | exact HB.out | apply below_alloc | apply pw_below_drewN | apply below_drew1) | exact HB.out)⟩
            · rw [if_neg c24] at H
              exact absurd H (by simp)
          · rw [if_neg c23] at H
            have c23b0 : ((t176.length : Int) == 2) = false := beq_eq_false_iff_ne.mpr c23
            have c23b1 : ((t176.length : Int) != 2) = true := bne_iff_ne.mpr c23
            obtain rfl := Option.some.inj H
            go_enter Try.func7, Try.ntmps7
            go_wp2_with (first | ((with_reducible refine gate_callee (f := 23) rfl ?_); refine goesL_ (some 10) rfl rfl Try.func23 (by kernel_rfl) rfl #[.string a0] rfl (by (try simp only [List.map_toArray, List.map_cons, List.map_nil]); first | done | rfl | (simp only [List.length_drop, List.length_take]; rfl)) ?_; (with_reducible refine (impl_Glob.calls k a0 t172 _ A3.out).mono ?_); rintro e w29 ⟨v173, rfl, ho0, hb⟩; refine ⟨_, rfl, ?_⟩; have n0_ := Aside0.mk (Kd.R_lower ho0 (below_size (by repeat (first | (with_reducible first | exact HB.out | apply below_alloc | apply pw_below_drewN | apply below_drew1) | exact HB.out)))); have n1_ := Aside0.mk (below_step (by repeat (first | (with_reducible first | exact HB.out | apply below_alloc | apply pw_below_drewN | apply below_drew1) | exact HB.out)) hb); clear HB; have HO174 := n0_; have HB := n1_; clear n0_ n1_; (try clear hb); (try clear hb2); (try clear hk); (try clear hi); (try clear ho0)) | ((with_reducible refine gate_callee (f := 24) rfl ?_); refine goesL_ (some 12) rfl rfl Try.func24 (by kernel_rfl) rfl #[.string a0, .string (⟨#[42]⟩ : ByteArray)] rfl (by (try simp only [List.map_toArray, List.map_cons, List.map_nil]); first | done | rfl | (simp only [List.length_drop, List.length_take]; rfl)) ?_; (with_reducible refine (spec_TextFinds.calls k a0 (⟨#[42]⟩ : ByteArray) t175 _ A4.out).mono ?_); rintro e w' ⟨rfl, ⟨nd, rfl⟩⟩; refine ⟨_, rfl, ?_⟩) | ((with_reducible refine gate_callee (f := 23) rfl ?_); refine goesL_ (some 14) rfl rfl Try.func23 (by kernel_rfl) rfl #[.string (⟨#[97, 42]⟩ : ByteArray)] rfl (by (try simp only [List.map_toArray, List.map_cons, List.map_nil]); first | done | rfl | (simp only [List.length_drop, List.length_take]; rfl)) ?_; (with_reducible refine (impl_Glob.calls k (⟨#[97, 42]⟩ : ByteArray) t176 _ A5.out).mono ?_); rintro e w30 ⟨v177, rfl, ho0, hb⟩; refine ⟨_, rfl, ?_⟩; have n0_ := Aside0.mk (Kd.R_elder' (by (with_reducible repeat (first | apply Kd.R_alloc | apply Kd.R_drewN | apply Kd.R_drew)); exact HO174.out) (Kd.R_base ho0) hb); have n1_ := Aside0.mk (Kd.R_lower (Kd.R_new' ho0 (Kd.R_lt (by (with_reducible repeat (first | apply Kd.R_alloc | apply Kd.R_drewN | apply Kd.R_drew)); exact HO174.out))) (below_size (by repeat (first | (with_reducible first | exact HB.out | apply below_alloc | apply pw_below_drewN | apply below_drew1) | exact HB.out)))); have n2_ := Aside0.mk (below_step (by repeat (first | (with_reducible first | exact HB.out | apply below_alloc | apply pw_below_drewN | apply below_drew1) | exact HB.out)) hb); clear HO174; clear HB; have HO174 := n0_; have HO178 := n1_; have HB := n2_; clear n0_ n1_ n2_; (try clear hb); (try clear hb2); (try clear hk); (try clear hi); (try clear ho0); obtain ⟨Ao31, co31, eo31⟩ := Kd.R_slice HO174.out; subst eo31; obtain ⟨Ao32, co32, eo32⟩ := Kd.R_slice HO178.out; subst eo32))
            go_ret
            exact ⟨by first | rfl | (simp [errW_none, errW_some] <;> rfl) | (simp [*, errW_none, errW_some] <;> rfl), by repeat (first | (with_reducible first | exact HB.out | apply below_alloc | apply pw_below_drewN | apply below_drew1) | exact HB.out)⟩
        · rw [if_neg c22] at H
          have c22b0 : ((t172.length : Int) == 1) = false := beq_eq_false_iff_ne.mpr c22
          have c22b1 : ((t172.length : Int) != 1) = true := bne_iff_ne.mpr c22
          obtain rfl := Option.some.inj H
          go_enter Try.func7, Try.ntmps7
          go_wp2_with (first | ((with_reducible refine gate_callee (f := 23) rfl ?_); refine goesL_ (some 10) rfl rfl Try.func23 (by kernel_rfl) rfl #[.string a0] rfl (by (try simp only [List.map_toArray, List.map_cons, List.map_nil]); first | done | rfl | (simp only [List.length_drop, List.length_take]; rfl)) ?_; (with_reducible refine (impl_Glob.calls k a0 t172 _ A3.out).mono ?_); rintro e w33 ⟨v173, rfl, ho0, hb⟩; refine ⟨_, rfl, ?_⟩; have n0_ := Aside0.mk (Kd.R_lower ho0 (below_size (by repeat (first | (with_reducible first | exact HB.out | apply below_alloc | apply pw_below_drewN | apply below_drew1) | exact HB.out)))); have n1_ := Aside0.mk (below_step (by repeat (first | (with_reducible first | exact HB.out | apply below_alloc | apply pw_below_drewN | apply below_drew1) | exact HB.out)) hb); clear HB; have HO174 := n0_; have HB := n1_; clear n0_ n1_; (try clear hb); (try clear hb2); (try clear hk); (try clear hi); (try clear ho0)) | ((with_reducible refine gate_callee (f := 24) rfl ?_); refine goesL_ (some 12) rfl rfl Try.func24 (by kernel_rfl) rfl #[.string a0, .string (⟨#[42]⟩ : ByteArray)] rfl (by (try simp only [List.map_toArray, List.map_cons, List.map_nil]); first | done | rfl | (simp only [List.length_drop, List.length_take]; rfl)) ?_; (with_reducible refine (spec_TextFinds.calls k a0 (⟨#[42]⟩ : ByteArray) t175 _ A4.out).mono ?_); rintro e w' ⟨rfl, ⟨nd, rfl⟩⟩; refine ⟨_, rfl, ?_⟩) | ((with_reducible refine gate_callee (f := 23) rfl ?_); refine goesL_ (some 14) rfl rfl Try.func23 (by kernel_rfl) rfl #[.string (⟨#[97, 42]⟩ : ByteArray)] rfl (by (try simp only [List.map_toArray, List.map_cons, List.map_nil]); first | done | rfl | (simp only [List.length_drop, List.length_take]; rfl)) ?_; (with_reducible refine (impl_Glob.calls k (⟨#[97, 42]⟩ : ByteArray) t176 _ A5.out).mono ?_); rintro e w34 ⟨v177, rfl, ho0, hb⟩; refine ⟨_, rfl, ?_⟩; have n0_ := Aside0.mk (Kd.R_elder' (by (with_reducible repeat (first | apply Kd.R_alloc | apply Kd.R_drewN | apply Kd.R_drew)); exact HO174.out) (Kd.R_base ho0) hb); have n1_ := Aside0.mk (Kd.R_lower (Kd.R_new' ho0 (Kd.R_lt (by (with_reducible repeat (first | apply Kd.R_alloc | apply Kd.R_drewN | apply Kd.R_drew)); exact HO174.out))) (below_size (by repeat (first | (with_reducible first | exact HB.out | apply below_alloc | apply pw_below_drewN | apply below_drew1) | exact HB.out)))); have n2_ := Aside0.mk (below_step (by repeat (first | (with_reducible first | exact HB.out | apply below_alloc | apply pw_below_drewN | apply below_drew1) | exact HB.out)) hb); clear HO174; clear HB; have HO174 := n0_; have HO178 := n1_; have HB := n2_; clear n0_ n1_ n2_; (try clear hb); (try clear hb2); (try clear hk); (try clear hi); (try clear ho0); obtain ⟨Ao35, co35, eo35⟩ := Kd.R_slice HO174.out; subst eo35))
          go_ret
          exact ⟨by first | rfl | (simp [errW_none, errW_some] <;> rfl) | (simp [*, errW_none, errW_some] <;> rfl), by repeat (first | (with_reducible first | exact HB.out | apply below_alloc | apply pw_below_drewN | apply below_drew1) | exact HB.out)⟩
    · rw [if_neg c6] at H
      have c6b0 : decide (1 ≤ (t172.length : Int)) = false := decide_eq_false c6
      have c6b1 : decide (1 ≤ t172.length) = false := decide_eq_false (by omega)
      clear c6
      obtain rfl := Option.some.inj H
      go_enter Try.func7, Try.ntmps7
      go_wp2_with (first | ((with_reducible refine gate_callee (f := 23) rfl ?_); refine goesL_ (some 10) rfl rfl Try.func23 (by kernel_rfl) rfl #[.string a0] rfl (by (try simp only [List.map_toArray, List.map_cons, List.map_nil]); first | done | rfl | (simp only [List.length_drop, List.length_take]; rfl)) ?_; (with_reducible refine (impl_Glob.calls k a0 t172 _ A3.out).mono ?_); rintro e w36 ⟨v173, rfl, ho0, hb⟩; refine ⟨_, rfl, ?_⟩; have n0_ := Aside0.mk (Kd.R_lower ho0 (below_size (by repeat (first | (with_reducible first | exact HB.out | apply below_alloc | apply pw_below_drewN | apply below_drew1) | exact HB.out)))); have n1_ := Aside0.mk (below_step (by repeat (first | (with_reducible first | exact HB.out | apply below_alloc | apply pw_below_drewN | apply below_drew1) | exact HB.out)) hb); clear HB; have HO174 := n0_; have HB := n1_; clear n0_ n1_; (try clear hb); (try clear hb2); (try clear hk); (try clear hi); (try clear ho0)) | ((with_reducible refine gate_callee (f := 24) rfl ?_); refine goesL_ (some 12) rfl rfl Try.func24 (by kernel_rfl) rfl #[.string a0, .string (⟨#[42]⟩ : ByteArray)] rfl (by (try simp only [List.map_toArray, List.map_cons, List.map_nil]); first | done | rfl | (simp only [List.length_drop, List.length_take]; rfl)) ?_; (with_reducible refine (spec_TextFinds.calls k a0 (⟨#[42]⟩ : ByteArray) t175 _ A4.out).mono ?_); rintro e w' ⟨rfl, ⟨nd, rfl⟩⟩; refine ⟨_, rfl, ?_⟩) | ((with_reducible refine gate_callee (f := 23) rfl ?_); refine goesL_ (some 14) rfl rfl Try.func23 (by kernel_rfl) rfl #[.string (⟨#[97, 42]⟩ : ByteArray)] rfl (by (try simp only [List.map_toArray, List.map_cons, List.map_nil]); first | done | rfl | (simp only [List.length_drop, List.length_take]; rfl)) ?_; (with_reducible refine (impl_Glob.calls k (⟨#[97, 42]⟩ : ByteArray) t176 _ A5.out).mono ?_); rintro e w37 ⟨v177, rfl, ho0, hb⟩; refine ⟨_, rfl, ?_⟩; have n0_ := Aside0.mk (Kd.R_elder' (by (with_reducible repeat (first | apply Kd.R_alloc | apply Kd.R_drewN | apply Kd.R_drew)); exact HO174.out) (Kd.R_base ho0) hb); have n1_ := Aside0.mk (Kd.R_lower (Kd.R_new' ho0 (Kd.R_lt (by (with_reducible repeat (first | apply Kd.R_alloc | apply Kd.R_drewN | apply Kd.R_drew)); exact HO174.out))) (below_size (by repeat (first | (with_reducible first | exact HB.out | apply below_alloc | apply pw_below_drewN | apply below_drew1) | exact HB.out)))); have n2_ := Aside0.mk (below_step (by repeat (first | (with_reducible first | exact HB.out | apply below_alloc | apply pw_below_drewN | apply below_drew1) | exact HB.out)) hb); clear HO174; clear HB; have HO174 := n0_; have HO178 := n1_; have HB := n2_; clear n0_ n1_ n2_; (try clear hb); (try clear hb2); (try clear hk); (try clear hi); (try clear ho0); obtain ⟨Ao38, co38, eo38⟩ := Kd.R_slice HO174.out; subst eo38))
      go_ret
      exact ⟨by first | rfl | (simp [errW_none, errW_some] <;> rfl) | (simp [*, errW_none, errW_some] <;> rfl), by repeat (first | (with_reducible first | exact HB.out | apply below_alloc | apply pw_below_drewN | apply below_drew1) | exact HB.out)⟩

/-- THE ONE PURE STATEMENT of laws_FnGlob: yours. -/
def laws_FnGlob.Pure : Prop := ∀ (a0 : ByteArray), a0.size ≤ 140737488351232 → ∃ k, laws_FnGlob.f k a0 = some true
theorem laws_FnGlob.walk (P : laws_FnGlob.Pure) (a0 : ByteArray) (w : World) (w0 : a0.size ≤ 140737488351232) :
    Calls Try.prog 7 #[.string a0] w fun e w' => e = .returned (.bool true) ∧ Below w.heap.size w w' := by
  obtain ⟨k, h⟩ := P a0 w0
  refine (laws_FnGlob.calls k a0 true w h).mono ?_
  rintro e w' ⟨rfl, hd⟩
  exact ⟨rfl, hd⟩

end Go.Proofs.YtkdinhbfidckdaaR.PFnGlob
