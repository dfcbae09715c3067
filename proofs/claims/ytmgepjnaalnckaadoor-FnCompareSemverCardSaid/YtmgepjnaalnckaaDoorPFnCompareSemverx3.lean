-- Written by printx.py of this session, over the kit's print, with contracts of this session for some functions
import Derived.Test.YtmgepjnaalnckaaDoorPFnCompareSemverx0
import Derived.Test.YtmgepjnaalnckaaDoorPFnCompareSemverx2
import Derived.Test.YtmgepjnaalnckaaDoorExtSplit
namespace Go.Proofs.YtmgepjnaalnckaaDoor.PFnCompareSemver
open Go.RowKit Go.Proofs.YtmgepjnaalnckaaDoorW.PrintWords Go.Proofs.YtmgepjnaalnckaaDoorW.PrintLast Go.Proofs.YtmgepjnaalnckaaDoorW.PrintMore
attribute [local go_sem] max2_int min2_int max_two min_two max_three min_three max_four min_four   -- for this text's walks alone
set_option linter.unusedVariables false
set_option linter.unusedSimpArgs false

/-! ### impl_CompareSemver: function 16 -/
def impl_CompareSemver.f (k : Nat) (l0 : List Int) (l1 : List Int) (a2 : ByteArray) (a3 : ByteArray) : Option (Int) := (some (([] : List Int) : List Int)).bind fun y119 => (if y119.length + l0.length < 17592186044416 then ((some (([] : List Int) : List Int)).bind fun y125 => (if y125.length + l1.length < 17592186044416 then ((compat_CompareSemver.f k (y119 ++ l0) a2 (y125 ++ l1) a3).bind fun t131 => (some t131)) else (none))) else (none))
theorem impl_CompareSemver.mono : ∀ a0 a1 a2 a3 k, LeO (impl_CompareSemver.f k a0 a1 a2 a3) (impl_CompareSemver.f (k + 1) a0 a1 a2 a3) := by
  intro a0 a1 a2 a3 k
  unfold impl_CompareSemver.f
  repeat' first
      | (with_reducible exact compat_CompareSemver.mono _ _ _ _ _)
      | (with_reducible exact LeO.refl _)
      | (with_reducible exact LeO.none _)
      | (with_reducible refine LeO.ite ?_ ?_)
      | (with_reducible refine LeO.bind ?_ (fun _ => ?_))
      | exact compat_CompareSemver.mono _ _ _ _ _
      | exact LeO.none _
      | refine LeO.ite ?_ ?_
      | refine LeO.bind ?_ (fun _ => ?_)
set_option maxHeartbeats 8000000 in
set_option maxRecDepth 100000 in
theorem impl_CompareSemver.calls (k : Nat) (A0 : Option Addr) (c0 : Nat) (l0 : List Int) (A1 : Option Addr) (c1 : Nat) (l1 : List Int) (a2 : ByteArray) (a3 : ByteArray) (r : Int) (w : World) (hr0 : Kd.C (Kd.int .i64) w A0 l0.length l0) (hc0 : l0.length ≤ c0) (hr1 : Kd.C (Kd.int .i64) w A1 l1.length l1) (hc1 : l1.length ≤ c1) (h : impl_CompareSemver.f k l0 l1 a2 a3 = some r) :
    Calls Tryd.prog 16 #[.slice A0 l0.length c0, .slice A1 l1.length c1, .string a2, .string a3] w fun e w' => e = .returned (.int .i64 r) ∧ Below w.heap.size w w' := by
  have hu81 := Tryd.underlying81
  have HR0 := Aside0.mk hr0
  have HC0 := Aside0.mk hc0
  clear hr0 hc0
  have HR1 := Aside0.mk hr1
  have HC1 := Aside0.mk hc1
  clear hr1 hc1
  have HB := Aside0.mk (Below.refl w.heap.size w)
  have H : ((some (([] : List Int) : List Int)).bind fun y119 => (if y119.length + l0.length < 17592186044416 then ((some (([] : List Int) : List Int)).bind fun y125 => (if y125.length + l1.length < 17592186044416 then ((compat_CompareSemver.f k (y119 ++ l0) a2 (y125 ++ l1) a3).bind fun t131 => (some t131)) else (none))) else (none))) = some r := h
  clear h
  obtain ⟨y119, hy119⟩ : ∃ y_ : List Int, y_ = (([] : List Int)) := ⟨_, rfl⟩
  replace H : (if y119.length + l0.length < 17592186044416 then ((some (([] : List Int) : List Int)).bind fun y125 => (if y125.length + l1.length < 17592186044416 then ((compat_CompareSemver.f k (y119 ++ l0) a2 (y125 ++ l1) a3).bind fun t131 => (some t131)) else (none))) else (none)) = some r := by first | (rw [hy119]; with_reducible exact H) | (have H2_ := (Option.bind_some _ _).symm.trans H; rw [hy119]; with_reducible exact H2_) | (have H2_ := (Option.bind_some _ _).symm.trans H; with_reducible exact H2_) | with_reducible exact H | (rw [hy119]; exact H) | exact H
  have Ny119 := Aside0.mk hy119
  clear hy119
  by_cases c5 : y119.length + l0.length < 17592186044416
  · rw [if_pos c5] at H
    have LMc5 := Aside0.mk c5
    clear c5
    obtain ⟨y122, hy122⟩ : ∃ y_ : List Int, y_ = (y119 ++ l0) := ⟨_, rfl⟩
    replace H : ((some (([] : List Int) : List Int)).bind fun y125 => (if y125.length + l1.length < 17592186044416 then ((compat_CompareSemver.f k y122 a2 (y125 ++ l1) a3).bind fun t131 => (some t131)) else (none))) = some r := by first | (rw [hy122]; with_reducible exact H) | (have H2_ := (Option.bind_some _ _).symm.trans H; rw [hy122]; with_reducible exact H2_) | (have H2_ := (Option.bind_some _ _).symm.trans H; with_reducible exact H2_) | with_reducible exact H | (rw [hy122]; exact H) | exact H
    have Ny122 := Aside0.mk hy122
    clear hy122
    obtain ⟨y125, hy125⟩ : ∃ y_ : List Int, y_ = (([] : List Int)) := ⟨_, rfl⟩
    replace H : (if y125.length + l1.length < 17592186044416 then ((compat_CompareSemver.f k y122 a2 (y125 ++ l1) a3).bind fun t131 => (some t131)) else (none)) = some r := by first | (rw [hy125]; with_reducible exact H) | (have H2_ := (Option.bind_some _ _).symm.trans H; rw [hy125]; with_reducible exact H2_) | (have H2_ := (Option.bind_some _ _).symm.trans H; with_reducible exact H2_) | with_reducible exact H | (rw [hy125]; exact H) | exact H
    have Ny125 := Aside0.mk hy125
    clear hy125
    by_cases c6 : y125.length + l1.length < 17592186044416
    · rw [if_pos c6] at H
      have LMc6 := Aside0.mk c6
      clear c6
      obtain ⟨y128, hy128⟩ : ∃ y_ : List Int, y_ = (y125 ++ l1) := ⟨_, rfl⟩
      replace H : ((compat_CompareSemver.f k y122 a2 y128 a3).bind fun t131 => (some t131)) = some r := by first | (rw [hy128]; with_reducible exact H) | (have H2_ := (Option.bind_some _ _).symm.trans H; rw [hy128]; with_reducible exact H2_) | (have H2_ := (Option.bind_some _ _).symm.trans H; with_reducible exact H2_) | with_reducible exact H | (rw [hy128]; exact H) | exact H
      have Ny128 := Aside0.mk hy128
      clear hy128
      replace H := Option.bind_eq_some_iff.mp H
      obtain ⟨t131, A70, H⟩ := H
      replace H : (some t131) = some r := H
      have A7 := Aside0.mk A70
      clear A70
      obtain rfl := Option.some.inj H
      go_enter Tryd.func16, Tryd.ntmps16
      go_wp2_with (first | ((with_reducible refine gate_dst (N := 9) rfl ?_); refine Kd.R_lit (Kd.int .i64) _ 3 ?hg (N := 9) ?hd (xs := ([] : List Int)) (inner := []) (ok := fun _ => True) (okp := fun _ => True) ?hr ?hp (fun _ hk => hk) trivial (Below.refl _ _) (Nat.le_refl _) (by simp) ?_; (case hd => rfl); (case hg => rfl); (case hr => first | (go_simp; done) | (go_simp; rfl)); (case hp => exact (Reps.none _ _)); intro v120 w8 ho9 hb hg_ hnew_; clear hg_ hnew_; (first | rw [← Ny119.out] at ho9 | (simp only [Int.reduceToNat] at ho9; rw [← Ny119.out] at ho9)); have n0_ := Aside0.mk (Kd.R_lower ho9 (below_size (by repeat (first | (with_reducible first | exact HB.out | apply below_alloc | apply pw_below_drewN | apply below_drew1) | exact HB.out)))); have n1_ := Aside0.mk (below_step (by repeat (first | (with_reducible first | exact HB.out | apply below_alloc | apply pw_below_drewN | apply below_drew1) | exact HB.out)) hb); clear HB; have HO121 := n0_; have HB := n1_; clear n0_ n1_; clear hb ho9) | ((with_reducible refine gate_builtin (b := .append) (xs := #[.tmp 9, .tmp 10]) rfl ?_); at_builtin; refine Kd.R_append_rows (Kd.int .i64) (w0 := w) w.heap.size rfl (.tmp 9) (.tmp 10) 40 3 (.int .i64 0) 8 rfl Tryd.underlying40 info3 rfl (by decide) (by omega) v120 y119 l0 _ _ _ (fun _ => True) (fun _ => False) rfl rfl ?aO ?aR (fun _ _ h => h) (fun _ h => h.elim) ?aF ?aB ?aS ?aL ?_; (case aR => repeat (first | exact (Kd.C_below HR0.out HB.out) | (with_reducible refine Kd.C_alloc ?_ _) | (with_reducible refine Kd.C_drewN ?_ _) | (with_reducible refine Kd.C_drew ?_))); (case aB => exact (by repeat (first | (with_reducible first | exact HB.out | apply below_alloc | apply pw_below_drewN | apply below_drew1) | exact HB.out))); (case aF => exact (fun _ _ => trivial)); (case aO => exact (by (with_reducible repeat (first | apply Kd.R_alloc | apply Kd.R_drewN | apply Kd.R_drew)); exact HO121.out)); (case aS => exact (below_size (by repeat (first | (with_reducible first | exact HB.out | apply below_alloc | apply pw_below_drewN | apply below_drew1) | exact HB.out)))); (case aL => have := LMc5.out; omega); intro v123 w10 ho hb hg hat; rw [← Ny122.out] at ho; have n0_ := Aside0.mk (hb); have n1_ := Aside0.mk (ho); clear HB; clear HO121; have HB := n0_; have HO124 := n1_; clear n0_ n1_; clear ho hb hg hat; obtain ⟨Ao11, co11, eo11⟩ := Kd.R_slice HO124.out; subst eo11) | ((with_reducible refine gate_dst (N := 14) rfl ?_); refine Kd.R_lit (Kd.int .i64) _ 3 ?hg (N := 14) ?hd (xs := ([] : List Int)) (inner := []) (ok := fun _ => True) (okp := fun _ => True) ?hr ?hp (fun _ hk => hk) trivial (Below.refl _ _) (Nat.le_refl _) (by simp) ?_; (case hd => rfl); (case hg => rfl); (case hr => first | (go_simp; done) | (go_simp; rfl)); (case hp => exact (Reps.none _ _)); intro v126 w12 ho13 hb hg_ hnew_; clear hg_ hnew_; (first | rw [← Ny125.out] at ho13 | (simp only [Int.reduceToNat] at ho13; rw [← Ny125.out] at ho13)); have n0_ := Aside0.mk (Kd.R_elder' (by (with_reducible repeat (first | apply Kd.R_alloc | apply Kd.R_drewN | apply Kd.R_drew)); exact HO124.out) (Kd.R_base ho13) hb); have n1_ := Aside0.mk (Kd.R_lower (Kd.R_new' ho13 (Kd.R_lt (by (with_reducible repeat (first | apply Kd.R_alloc | apply Kd.R_drewN | apply Kd.R_drew)); exact HO124.out))) (below_size (by repeat (first | (with_reducible first | exact HB.out | apply below_alloc | apply pw_below_drewN | apply below_drew1) | exact HB.out)))); have n2_ := Aside0.mk (below_step (by repeat (first | (with_reducible first | exact HB.out | apply below_alloc | apply pw_below_drewN | apply below_drew1) | exact HB.out)) hb); clear HO124; clear HB; have HO124 := n0_; have HO127 := n1_; have HB := n2_; clear n0_ n1_ n2_; clear hb ho13) | ((with_reducible refine gate_builtin (b := .append) (xs := #[.tmp 14, .tmp 15]) rfl ?_); at_builtin; refine Kd.R_append_rows (Kd.int .i64) (w0 := w) w.heap.size rfl (.tmp 14) (.tmp 15) 40 3 (.int .i64 0) 8 rfl Tryd.underlying40 info3 rfl (by decide) (by omega) v126 y125 l1 _ _ _ (fun k_ => some k_ ≠ (.slice Ao11 y122.length co11 : Value).ownBlock) (fun _ => False) rfl rfl ?aO ?aR (fun _ _ h => h) (fun _ h => h.elim) ?aF ?aB ?aS ?aL ?_; (case aR => repeat (first | exact (Kd.C_below HR1.out HB.out) | (with_reducible refine Kd.C_alloc ?_ _) | (with_reducible refine Kd.C_drewN ?_ _) | (with_reducible refine Kd.C_drew ?_))); (case aB => exact (by repeat (first | (with_reducible first | exact HB.out | apply below_alloc | apply pw_below_drewN | apply below_drew1) | exact HB.out))); (case aF => exact (fun k_ hk => Kd.fresh' (Kd.R_lt (by (with_reducible repeat (first | apply Kd.R_alloc | apply Kd.R_drewN | apply Kd.R_drew)); exact HO124.out)) k_ hk)); (case aO => exact (by (with_reducible repeat (first | apply Kd.R_alloc | apply Kd.R_drewN | apply Kd.R_drew)); exact Kd.R_mono HO127.out (fun _ hk => hk.2))); (case aS => exact (below_size (by repeat (first | (with_reducible first | exact HB.out | apply below_alloc | apply pw_below_drewN | apply below_drew1) | exact HB.out)))); (case aL => have := LMc6.out; omega); intro v129 w14 ho hb hg hat; rw [← Ny128.out] at ho; have n0_ := Aside0.mk (Kd.R_after (ok := (fun _ => True)) (by (with_reducible repeat (first | apply Kd.R_alloc | apply Kd.R_drewN | apply Kd.R_drew)); exact HO124.out) hg hat); have n1_ := Aside0.mk (hb); have n2_ := Aside0.mk (ho); clear HO124; clear HB; clear HO127; have HO124 := n0_; have HB := n1_; have HO130 := n2_; clear n0_ n1_ n2_; clear ho hb hg hat; obtain ⟨Ao15, co15, eo15⟩ := Kd.R_slice HO130.out; subst eo15) | ((with_reducible refine gate_callee (f := 31) rfl ?_); refine goesL_ (some 19) rfl rfl Tryd.func31 (by kernel_rfl) rfl #[.agg #[.slice Ao11 y122.length co11, .string a2], .agg #[.slice Ao15 y128.length co15, .string a3]] rfl (by (try simp only [List.map_toArray, List.map_cons, List.map_nil]); first | done | rfl | (simp only [List.length_drop, List.length_take]; rfl)) ?_; (with_reducible refine (compat_CompareSemver.calls k _ _ y122 a2 _ _ y128 a3 t131 _ ?side1 ?side2 ?side3 ?side4 A7.out).mono ?_); (case side1 => repeat (first | exact (Kd.R_reads' HO124.out).2.2 | (with_reducible refine Kd.C_alloc ?_ _) | (with_reducible refine Kd.C_drewN ?_ _) | (with_reducible refine Kd.C_drew ?_))); (case side2 => exact (Kd.R_reads' HO124.out).2.1); (case side3 => repeat (first | exact (Kd.R_reads' HO130.out).2.2 | (with_reducible refine Kd.C_alloc ?_ _) | (with_reducible refine Kd.C_drewN ?_ _) | (with_reducible refine Kd.C_drew ?_))); (case side4 => exact (Kd.R_reads' HO130.out).2.1); rintro e w16 ⟨rfl, hb⟩; refine ⟨_, rfl, ?_⟩; have n0_ := Aside0.mk (Kd.R_below (by (with_reducible repeat (first | apply Kd.R_alloc | apply Kd.R_drewN | apply Kd.R_drew)); exact HO124.out) hb); have n1_ := Aside0.mk (Kd.R_below (by (with_reducible repeat (first | apply Kd.R_alloc | apply Kd.R_drewN | apply Kd.R_drew)); exact HO130.out) hb); have n2_ := Aside0.mk (below_step (by repeat (first | (with_reducible first | exact HB.out | apply below_alloc | apply pw_below_drewN | apply below_drew1) | exact HB.out)) hb); clear HO124; clear HO130; clear HB; have HO124 := n0_; have HO130 := n1_; have HB := n2_; clear n0_ n1_ n2_; (try clear hb); (try clear hb2); (try clear hk); (try clear hi)))
      go_ret
      exact ⟨by first | rfl | (simp [errW_none, errW_some] <;> rfl) | (simp [*, errW_none, errW_some] <;> rfl), by repeat (first | (with_reducible first | exact HB.out | apply below_alloc | apply pw_below_drewN | apply below_drew1) | exact HB.out)⟩
    · rw [if_neg c6] at H
      exact absurd H (by simp)
  · rw [if_neg c5] at H
    exact absurd H (by simp)

/-! ### laws_part: function 17 -/
def laws_part.f (l0 : List Int) (a1 : Int) : Option (Int) := if a1 < (l0.length : Int) then (if 0 ≤ a1 then (some (rd l0 a1)) else (none)) else (some 0)
set_option maxHeartbeats 8000000 in
set_option maxRecDepth 100000 in
theorem laws_part.calls (A0 : Option Addr) (c0 : Nat) (l0 : List Int) (a1 : Int) (r : Int) (w : World) (hr0 : Kd.C (Kd.int .i64) w A0 l0.length l0) (hc0 : l0.length ≤ c0) (h : laws_part.f l0 a1 = some r) :
    Calls Tryd.prog 17 #[.slice A0 l0.length c0, .int .i64 a1] w fun e w' => e = .returned (.int .i64 r) ∧ Drawn0 w w' := by
  have HR0 := Aside0.mk hr0
  have HC0 := Aside0.mk hc0
  clear hr0 hc0
  have H : (if a1 < (l0.length : Int) then (if 0 ≤ a1 then (some (rd l0 a1)) else (none)) else (some 0)) = some r := h
  clear h
  by_cases c3 : a1 < (l0.length : Int)
  · rw [if_pos c3] at H
    have c3b0 : decide (a1 < (l0.length : Int)) = true := decide_eq_true c3
    clear c3
    by_cases c4 : 0 ≤ a1
    · rw [if_pos c4] at H
      have c4b0 : decide (0 ≤ a1) = true := decide_eq_true c4
      clear c4
      obtain rfl := Option.some.inj H
      have p132 : 0 ≤ (a1 : Int) := of_decide_eq_true (by first | (with_reducible assumption) | assumption)
      have q132 : a1 < (l0.length : Int) := of_decide_eq_true (by first | (with_reducible assumption) | assumption)
      obtain ⟨ad132, e132, hx132_0⟩ := Kd.at_int HR0.out a1 p132 q132
      cases e132
      replace p132 := eq_true p132
      replace q132 := eq_true q132
      go_enter Tryd.func17, Tryd.ntmps17
      go_wp2
      go_ret
      exact ⟨by first | rfl | (simp; done) | (simp [*]; done), by repeat (first | exact Drawn0.refl _ | apply Drawn0.step)⟩
    · rw [if_neg c4] at H
      exact absurd H (by simp)
  · rw [if_neg c3] at H
    have c3b0 : decide (a1 < (l0.length : Int)) = false := decide_eq_false c3
    clear c3
    obtain rfl := Option.some.inj H
    go_enter Tryd.func17, Tryd.ntmps17
    go_wp2
    go_ret
    exact ⟨by first | rfl | (simp; done) | (simp [*]; done), by repeat (first | exact Drawn0.refl _ | apply Drawn0.step)⟩

/-! ### laws_sign: function 18 -/
def laws_sign.f (a0 : Int) : Option (Int) := some (mn (mx a0 (-1)) 1)
set_option maxHeartbeats 8000000 in
set_option maxRecDepth 100000 in
theorem laws_sign.calls (a0 : Int) (r : Int) (w : World) (h : laws_sign.f a0 = some r) :
    Calls Tryd.prog 18 #[.int .i64 a0] w fun e w' => e = .returned (.int .i64 r) ∧ Below w.heap.size w w' := by
  have HB := Aside0.mk (Below.refl w.heap.size w)
  have H : (some (mn (mx a0 (-1)) 1)) = some r := h
  clear h
  obtain ⟨ji2, hji2⟩ : ∃ j_ : Int, (mx a0 (-1)) = j_ := ⟨_, rfl⟩
  replace H : (some (mn (ji2) 1)) = some r := by first | (rw [hji2] at H; exact H) | (simp only [hji2] at H ⊢; exact H)
  have hji2_ : (if a0 < (-1) then (-1) else a0) = ji2 := hji2
  obtain ⟨ji3, hji3⟩ : ∃ j_ : Int, (mn (ji2) 1) = j_ := ⟨_, rfl⟩
  replace H : (some ji3) = some r := by first | (rw [hji3] at H; exact H) | (simp only [hji3] at H ⊢; exact H)
  have hji3_ : (if 1 < (ji2) then 1 else (ji2)) = ji3 := hji3
  obtain rfl := Option.some.inj H
  go_enter Tryd.func18, Tryd.ntmps18
  go_wp2
  go_ret
  exact ⟨by first | rfl | (simp [errW_none, errW_some] <;> rfl) | (simp only [← hji2, ← hji3]; first | rfl | (simp [errW_none, errW_some] <;> rfl)) | (simp [*, errW_none, errW_some] <;> rfl), by repeat (first | (with_reducible first | exact HB.out | apply below_alloc | apply pw_below_drewN | apply below_drew1) | exact HB.out)⟩

-- NOT PRINTED: function 5 (laws_FnCompareSemver)

end Go.Proofs.YtmgepjnaalnckaaDoor.PFnCompareSemver
