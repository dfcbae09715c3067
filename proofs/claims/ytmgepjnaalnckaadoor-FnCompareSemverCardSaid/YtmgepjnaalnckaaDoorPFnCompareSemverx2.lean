-- Written by printx.py of this session, over the kit's print, with contracts of this session for some functions
import Derived.Test.YtmgepjnaalnckaaDoorPFnCompareSemverx0
import Derived.Test.YtmgepjnaalnckaaDoorPFnCompareSemverx1
import Derived.Test.YtmgepjnaalnckaaDoorExtSplit
namespace Go.Proofs.YtmgepjnaalnckaaDoor.PFnCompareSemver
open Go.RowKit Go.Proofs.YtmgepjnaalnckaaDoorW.PrintWords Go.Proofs.YtmgepjnaalnckaaDoorW.PrintLast Go.Proofs.YtmgepjnaalnckaaDoorW.PrintMore
attribute [local go_sem] max2_int min2_int max_two min_two max_three min_three max_four min_four   -- for this text's walks alone
set_option linter.unusedVariables false
set_option linter.unusedSimpArgs false

/-! ### compat_CompareSemver: function 31 -/
mutual
def compat_CompareSemver.j0 : Nat → Int → Int → Int → List Int → ByteArray → List Int → ByteArray → Option (Int)
  | 0, _, _, _, _, _, _, _ => none
  | k + 1, x5, x6, x7, x106000, x106001, x107000, x107001 => compat_CompareSemver.l0 k x5 x6 x7 0 x106000 x106001 x107000 x107001
def compat_CompareSemver.l0 : Nat → Int → Int → Int → Int → List Int → ByteArray → List Int → ByteArray → Option (Int)
  | 0, _, _, _, _, _, _, _, _ => none
  | k + 1, x5, x6, x7, x8, x106000, x106001, x107000, x107001 => if x8 < x7 then (if x8 < x5 then (if 0 ≤ x8 then (if x8 < (x106000.length : Int) then (compat_CompareSemver.j2 k x5 x6 x7 x8 (rd x106000 x8) 0 x106000 x106001 x107000 x107001) else (none)) else (none)) else (compat_CompareSemver.j2 k x5 x6 x7 x8 0 0 x106000 x106001 x107000 x107001)) else (if ((x106001.toList != ([] : List UInt8)) != (x107001.toList != ([] : List UInt8))) = true then (some (wrap64 ((x107001.size : Int) - (x106001.size : Int)))) else ((strings_TrimPrefix.f x106001 (⟨#[45]⟩ : ByteArray)).bind fun t109 => ((strings_TrimPrefix.f x107001 (⟨#[45]⟩ : ByteArray)).bind fun t110 => (compat_CompareSemver.l1 k t109 t110))))
def compat_CompareSemver.j2 : Nat → Int → Int → Int → Int → Int → Int → List Int → ByteArray → List Int → ByteArray → Option (Int)
  | 0, _, _, _, _, _, _, _, _, _, _ => none
  | k + 1, x5, x6, x7, x8, x9, x10, x106000, x106001, x107000, x107001 => if x8 < x6 then (if 0 ≤ x8 then (if x8 < (x107000.length : Int) then (if x9 = (rd x107000 x8) then (compat_CompareSemver.l0 k x5 x6 x7 (wrap64 (x8 + 1)) x106000 x106001 x107000 x107001) else (some (wrap64 (x9 - (rd x107000 x8))))) else (none)) else (none)) else (if x9 = x10 then (compat_CompareSemver.l0 k x5 x6 x7 (wrap64 (x8 + 1)) x106000 x106001 x107000 x107001) else (some (wrap64 (x9 - x10))))
def compat_CompareSemver.l1 : Nat → ByteArray → ByteArray → Option (Int)
  | 0, _, _ => none
  | k + 1, x11, x12 => if x11.toList = ([] : List UInt8) then (compat_CompareSemver.j4 k x11 x12 false) else (compat_CompareSemver.j4 k x11 x12 (x12.toList != ([] : List UInt8)))
def compat_CompareSemver.j4 : Nat → ByteArray → ByteArray → Bool → Option (Int)
  | 0, _, _, _ => none
  | k + 1, x11, x12, x82 => if x82 = true then ((compat_splitOffNextPreReleasePart.f x11).bind fun bt111 => ((compat_splitOffNextPreReleasePart.f x12).bind fun bt113 => (if bt111.1.toList = bt113.1.toList then (compat_CompareSemver.l1 k bt111.2 bt113.2) else ((compat_preReleasePartToNumber.f bt111.1).bind fun bt115 => ((compat_preReleasePartToNumber.f bt113.1).bind fun bt117 => (if bt115.2 = true then (compat_CompareSemver.j5 k bt111.1 bt113.1 bt115.1 bt115.2 bt117.1 bt117.2 false) else (compat_CompareSemver.j5 k bt111.1 bt113.1 bt115.1 bt115.2 bt117.1 bt117.2 (!bt117.2)))))))) else (some (wrap64 ((x11.size : Int) - (x12.size : Int))))
def compat_CompareSemver.j5 : Nat → ByteArray → ByteArray → Int → Bool → Int → Bool → Bool → Option (Int)
  | 0, _, _, _, _, _, _, _ => none
  | k + 1, x13, x14, x15, x16, x17, x18, x111 => if x111 = true then (if (Op.bytesLess x13.toList x14.toList) = true then (some (-1)) else (some 1)) else (if x16 = true then (compat_CompareSemver.j6 k x13 x14 x15 x16 x17 x18) else (compat_CompareSemver.j6 k x13 x14 x15 x16 x17 false))
def compat_CompareSemver.j6 : Nat → ByteArray → ByteArray → Int → Bool → Int → Bool → Option (Int)
  | 0, _, _, _, _, _, _ => none
  | k + 1, x13, x14, x15, x16, x17, x118 => if x118 = true then (if x15 = x17 then (some (wrap64 ((x13.size : Int) - (x14.size : Int)))) else (some (wrap64 (x15 - x17)))) else (if x16 = true then (some (-1)) else (some 1))
end
theorem two_tests (x y : List UInt8) : ((!x.isEmpty) == (!y.isEmpty)) = !((x != ([] : List UInt8)) != (y != ([] : List UInt8))) := by
  cases x <;> cases y <;> rfl
def compat_CompareSemver.f (k : Nat) (l0_0 : List Int) (a0_1 : ByteArray) (l1_0 : List Int) (a1_1 : ByteArray) : Option (Int) := if (l1_0.length : Int) > (l0_0.length : Int) then (compat_CompareSemver.j0 k (l0_0.length : Int) (l1_0.length : Int) (l1_0.length : Int) l0_0 a0_1 l1_0 a1_1) else (compat_CompareSemver.j0 k (l0_0.length : Int) (l1_0.length : Int) (l0_0.length : Int) l0_0 a0_1 l1_0 a1_1)
theorem compat_CompareSemver.mono_l : ∀ k, (∀ y0 y1 y2 y3 y4 y5 y6, LeO (compat_CompareSemver.j0 k y0 y1 y2 y3 y4 y5 y6) (compat_CompareSemver.j0 (k + 1) y0 y1 y2 y3 y4 y5 y6)) ∧ (∀ y0 y1 y2 y3 y4 y5 y6 y7, LeO (compat_CompareSemver.l0 k y0 y1 y2 y3 y4 y5 y6 y7) (compat_CompareSemver.l0 (k + 1) y0 y1 y2 y3 y4 y5 y6 y7)) ∧ (∀ y0 y1 y2 y3 y4 y5 y6 y7 y8 y9, LeO (compat_CompareSemver.j2 k y0 y1 y2 y3 y4 y5 y6 y7 y8 y9) (compat_CompareSemver.j2 (k + 1) y0 y1 y2 y3 y4 y5 y6 y7 y8 y9)) ∧ (∀ y0 y1, LeO (compat_CompareSemver.l1 k y0 y1) (compat_CompareSemver.l1 (k + 1) y0 y1)) ∧ (∀ y0 y1 y2, LeO (compat_CompareSemver.j4 k y0 y1 y2) (compat_CompareSemver.j4 (k + 1) y0 y1 y2)) ∧ (∀ y0 y1 y2 y3 y4 y5 y6, LeO (compat_CompareSemver.j5 k y0 y1 y2 y3 y4 y5 y6) (compat_CompareSemver.j5 (k + 1) y0 y1 y2 y3 y4 y5 y6)) ∧ (∀ y0 y1 y2 y3 y4 y5, LeO (compat_CompareSemver.j6 k y0 y1 y2 y3 y4 y5) (compat_CompareSemver.j6 (k + 1) y0 y1 y2 y3 y4 y5))
  | 0 => ⟨fun _ _ _ _ _ _ _ r h => by simp [compat_CompareSemver.j0] at h, fun _ _ _ _ _ _ _ _ r h => by simp [compat_CompareSemver.l0] at h, fun _ _ _ _ _ _ _ _ _ _ r h => by simp [compat_CompareSemver.j2] at h, fun _ _ r h => by simp [compat_CompareSemver.l1] at h, fun _ _ _ r h => by simp [compat_CompareSemver.j4] at h, fun _ _ _ _ _ _ _ r h => by simp [compat_CompareSemver.j5] at h, fun _ _ _ _ _ _ r h => by simp [compat_CompareSemver.j6] at h⟩
  | k + 1 => by
    obtain ⟨ih0, ih1, ih2, ih3, ih4, ih5, ih6⟩ := compat_CompareSemver.mono_l k
    refine ⟨?_, ?_, ?_, ?_, ?_, ?_, ?_⟩
    · intro y0 y1 y2 y3 y4 y5 y6
      unfold compat_CompareSemver.j0
      repeat' first
      | (with_reducible exact ih0 _ _ _ _ _ _ _)
      | (with_reducible exact ih1 _ _ _ _ _ _ _ _)
      | (with_reducible exact ih2 _ _ _ _ _ _ _ _ _ _)
      | (with_reducible exact ih3 _ _)
      | (with_reducible exact ih4 _ _ _)
      | (with_reducible exact ih5 _ _ _ _ _ _ _)
      | (with_reducible exact ih6 _ _ _ _ _ _)
      | (with_reducible exact LeO.refl _)
      | (with_reducible exact LeO.none _)
      | (with_reducible refine LeO.ite ?_ ?_)
      | (with_reducible refine LeO.bind ?_ (fun _ => ?_))
      | exact ih0 _ _ _ _ _ _ _
      | exact ih1 _ _ _ _ _ _ _ _
      | exact ih2 _ _ _ _ _ _ _ _ _ _
      | exact ih3 _ _
      | exact ih4 _ _ _
      | exact ih5 _ _ _ _ _ _ _
      | exact ih6 _ _ _ _ _ _
      | exact LeO.none _
      | refine LeO.ite ?_ ?_
      | refine LeO.bind ?_ (fun _ => ?_)
    · intro y0 y1 y2 y3 y4 y5 y6 y7
      unfold compat_CompareSemver.l0
      repeat' first
      | (with_reducible exact ih0 _ _ _ _ _ _ _)
      | (with_reducible exact ih1 _ _ _ _ _ _ _ _)
      | (with_reducible exact ih2 _ _ _ _ _ _ _ _ _ _)
      | (with_reducible exact ih3 _ _)
      | (with_reducible exact ih4 _ _ _)
      | (with_reducible exact ih5 _ _ _ _ _ _ _)
      | (with_reducible exact ih6 _ _ _ _ _ _)
      | (with_reducible exact LeO.refl _)
      | (with_reducible exact LeO.none _)
      | (with_reducible refine LeO.ite ?_ ?_)
      | (with_reducible refine LeO.bind ?_ (fun _ => ?_))
      | exact ih0 _ _ _ _ _ _ _
      | exact ih1 _ _ _ _ _ _ _ _
      | exact ih2 _ _ _ _ _ _ _ _ _ _
      | exact ih3 _ _
      | exact ih4 _ _ _
      | exact ih5 _ _ _ _ _ _ _
      | exact ih6 _ _ _ _ _ _
      | exact LeO.none _
      | refine LeO.ite ?_ ?_
      | refine LeO.bind ?_ (fun _ => ?_)
    · intro y0 y1 y2 y3 y4 y5 y6 y7 y8 y9
      unfold compat_CompareSemver.j2
      repeat' first
      | (with_reducible exact ih0 _ _ _ _ _ _ _)
      | (with_reducible exact ih1 _ _ _ _ _ _ _ _)
      | (with_reducible exact ih2 _ _ _ _ _ _ _ _ _ _)
      | (with_reducible exact ih3 _ _)
      | (with_reducible exact ih4 _ _ _)
      | (with_reducible exact ih5 _ _ _ _ _ _ _)
      | (with_reducible exact ih6 _ _ _ _ _ _)
      | (with_reducible exact LeO.refl _)
      | (with_reducible exact LeO.none _)
      | (with_reducible refine LeO.ite ?_ ?_)
      | (with_reducible refine LeO.bind ?_ (fun _ => ?_))
      | exact ih0 _ _ _ _ _ _ _
      | exact ih1 _ _ _ _ _ _ _ _
      | exact ih2 _ _ _ _ _ _ _ _ _ _
      | exact ih3 _ _
      | exact ih4 _ _ _
      | exact ih5 _ _ _ _ _ _ _
      | exact ih6 _ _ _ _ _ _
      | exact LeO.none _
      | refine LeO.ite ?_ ?_
      | refine LeO.bind ?_ (fun _ => ?_)
    · intro y0 y1
      unfold compat_CompareSemver.l1
      repeat' first
      | (with_reducible exact ih0 _ _ _ _ _ _ _)
      | (with_reducible exact ih1 _ _ _ _ _ _ _ _)
      | (with_reducible exact ih2 _ _ _ _ _ _ _ _ _ _)
      | (with_reducible exact ih3 _ _)
      | (with_reducible exact ih4 _ _ _)
      | (with_reducible exact ih5 _ _ _ _ _ _ _)
      | (with_reducible exact ih6 _ _ _ _ _ _)
      | (with_reducible exact LeO.refl _)
      | (with_reducible exact LeO.none _)
      | (with_reducible refine LeO.ite ?_ ?_)
      | (with_reducible refine LeO.bind ?_ (fun _ => ?_))
      | exact ih0 _ _ _ _ _ _ _
      | exact ih1 _ _ _ _ _ _ _ _
      | exact ih2 _ _ _ _ _ _ _ _ _ _
      | exact ih3 _ _
      | exact ih4 _ _ _
      | exact ih5 _ _ _ _ _ _ _
      | exact ih6 _ _ _ _ _ _
      | exact LeO.none _
      | refine LeO.ite ?_ ?_
      | refine LeO.bind ?_ (fun _ => ?_)
    · intro y0 y1 y2
      unfold compat_CompareSemver.j4
      repeat' first
      | (with_reducible exact ih0 _ _ _ _ _ _ _)
      | (with_reducible exact ih1 _ _ _ _ _ _ _ _)
      | (with_reducible exact ih2 _ _ _ _ _ _ _ _ _ _)
      | (with_reducible exact ih3 _ _)
      | (with_reducible exact ih4 _ _ _)
      | (with_reducible exact ih5 _ _ _ _ _ _ _)
      | (with_reducible exact ih6 _ _ _ _ _ _)
      | (with_reducible exact LeO.refl _)
      | (with_reducible exact LeO.none _)
      | (with_reducible refine LeO.ite ?_ ?_)
      | (with_reducible refine LeO.bind ?_ (fun _ => ?_))
      | exact ih0 _ _ _ _ _ _ _
      | exact ih1 _ _ _ _ _ _ _ _
      | exact ih2 _ _ _ _ _ _ _ _ _ _
      | exact ih3 _ _
      | exact ih4 _ _ _
      | exact ih5 _ _ _ _ _ _ _
      | exact ih6 _ _ _ _ _ _
      | exact LeO.none _
      | refine LeO.ite ?_ ?_
      | refine LeO.bind ?_ (fun _ => ?_)
    · intro y0 y1 y2 y3 y4 y5 y6
      unfold compat_CompareSemver.j5
      repeat' first
      | (with_reducible exact ih0 _ _ _ _ _ _ _)
      | (with_reducible exact ih1 _ _ _ _ _ _ _ _)
      | (with_reducible exact ih2 _ _ _ _ _ _ _ _ _ _)
      | (with_reducible exact ih3 _ _)
      | (with_reducible exact ih4 _ _ _)
      | (with_reducible exact ih5 _ _ _ _ _ _ _)
      | (with_reducible exact ih6 _ _ _ _ _ _)
      | (with_reducible exact LeO.refl _)
      | (with_reducible exact LeO.none _)
      | (with_reducible refine LeO.ite ?_ ?_)
      | (with_reducible refine LeO.bind ?_ (fun _ => ?_))
      | exact ih0 _ _ _ _ _ _ _
      | exact ih1 _ _ _ _ _ _ _ _
      | exact ih2 _ _ _ _ _ _ _ _ _ _
      | exact ih3 _ _
      | exact ih4 _ _ _
      | exact ih5 _ _ _ _ _ _ _
      | exact ih6 _ _ _ _ _ _
      | exact LeO.none _
      | refine LeO.ite ?_ ?_
      | refine LeO.bind ?_ (fun _ => ?_)
    · intro y0 y1 y2 y3 y4 y5
      unfold compat_CompareSemver.j6
      repeat' first
      | (with_reducible exact ih0 _ _ _ _ _ _ _)
      | (with_reducible exact ih1 _ _ _ _ _ _ _ _)
      | (with_reducible exact ih2 _ _ _ _ _ _ _ _ _ _)
      | (with_reducible exact ih3 _ _)
      | (with_reducible exact ih4 _ _ _)
      | (with_reducible exact ih5 _ _ _ _ _ _ _)
      | (with_reducible exact ih6 _ _ _ _ _ _)
      | (with_reducible exact LeO.refl _)
      | (with_reducible exact LeO.none _)
      | (with_reducible refine LeO.ite ?_ ?_)
      | (with_reducible refine LeO.bind ?_ (fun _ => ?_))
      | exact ih0 _ _ _ _ _ _ _
      | exact ih1 _ _ _ _ _ _ _ _
      | exact ih2 _ _ _ _ _ _ _ _ _ _
      | exact ih3 _ _
      | exact ih4 _ _ _
      | exact ih5 _ _ _ _ _ _ _
      | exact ih6 _ _ _ _ _ _
      | exact LeO.none _
      | refine LeO.ite ?_ ?_
      | refine LeO.bind ?_ (fun _ => ?_)
theorem compat_CompareSemver.mono : ∀ a0 a1 a2 a3 k, LeO (compat_CompareSemver.f k a0 a1 a2 a3) (compat_CompareSemver.f (k + 1) a0 a1 a2 a3) := by
  intro a0 a1 a2 a3 k
  obtain ⟨ih0, ih1, ih2, ih3, ih4, ih5, ih6⟩ := compat_CompareSemver.mono_l k
  unfold compat_CompareSemver.f
  repeat' first
      | (with_reducible exact ih0 _ _ _ _ _ _ _)
      | (with_reducible exact ih1 _ _ _ _ _ _ _ _)
      | (with_reducible exact ih2 _ _ _ _ _ _ _ _ _ _)
      | (with_reducible exact ih3 _ _)
      | (with_reducible exact ih4 _ _ _)
      | (with_reducible exact ih5 _ _ _ _ _ _ _)
      | (with_reducible exact ih6 _ _ _ _ _ _)
      | (with_reducible exact LeO.refl _)
      | (with_reducible exact LeO.none _)
      | (with_reducible refine LeO.ite ?_ ?_)
      | (with_reducible refine LeO.bind ?_ (fun _ => ?_))
      | exact ih0 _ _ _ _ _ _ _
      | exact ih1 _ _ _ _ _ _ _ _
      | exact ih2 _ _ _ _ _ _ _ _ _ _
      | exact ih3 _ _
      | exact ih4 _ _ _
      | exact ih5 _ _ _ _ _ _ _
      | exact ih6 _ _ _ _ _ _
      | exact LeO.none _
      | refine LeO.ite ?_ ?_
      | refine LeO.bind ?_ (fun _ => ?_)
set_option maxHeartbeats 8000000 in
set_option maxRecDepth 100000 in
theorem compat_CompareSemver.calls (k : Nat) (A0_0 : Option Addr) (c0_0 : Nat) (l0_0 : List Int) (a0_1 : ByteArray) (A1_0 : Option Addr) (c1_0 : Nat) (l1_0 : List Int) (a1_1 : ByteArray) (r : Int) (w : World) (hr0_0 : Kd.C (Kd.int .i64) w A0_0 l0_0.length l0_0) (hc0_0 : l0_0.length ≤ c0_0) (hr1_0 : Kd.C (Kd.int .i64) w A1_0 l1_0.length l1_0) (hc1_0 : l1_0.length ≤ c1_0) (h : compat_CompareSemver.f k l0_0 a0_1 l1_0 a1_1 = some r) :
    Calls Tryd.prog 31 #[.agg #[.slice A0_0 l0_0.length c0_0, .string a0_1], .agg #[.slice A1_0 l1_0.length c1_0, .string a1_1]] w fun e w' => e = .returned (.int .i64 r) ∧ Below w.heap.size w w' := by
  have hu81 := Tryd.underlying81
  have HR0_0 := Aside0.mk hr0_0
  have HC0_0 := Aside0.mk hc0_0
  clear hr0_0 hc0_0
  have HR1_0 := Aside0.mk hr1_0
  have HC1_0 := Aside0.mk hc1_0
  clear hr1_0 hc1_0
  have HB := Aside0.mk (Below.refl w.heap.size w)
  have H : (if (l1_0.length : Int) > (l0_0.length : Int) then (compat_CompareSemver.j0 k (l0_0.length : Int) (l1_0.length : Int) (l1_0.length : Int) l0_0 a0_1 l1_0 a1_1) else (compat_CompareSemver.j0 k (l0_0.length : Int) (l1_0.length : Int) (l0_0.length : Int) l0_0 a0_1 l1_0 a1_1)) = some r := h
  clear h
  have HC3 := Aside0.mk H
  clear H
  go_enter Tryd.func31, Tryd.ntmps31
  go_upto_if 28 with (first | ((with_reducible refine gate_dst (N := 2) rfl ?_); refine box_event ?hg (N := 2) ?hd (cs := #[.slice A0_0 l0_0.length c0_0, .string a0_1]) (t := 81) ?hr ?_; (case hd => rfl); (case hg => rfl); (case hr => first | (go_simp; done) | (go_simp; rfl)); intro gb105 hg w4 hbox hb; have n0_ := Aside0.mk (below_step (by repeat (first | (with_reducible first | exact HB.out | apply below_alloc | apply pw_below_drewN | apply below_drew1) | exact HB.out)) hb); have n1_ := Aside0.mk (hbox); have n2_ := Aside0.mk ((by rw [hg]; exact (below_size (by repeat (first | (with_reducible first | exact HB.out | apply below_alloc | apply pw_below_drewN | apply below_drew1) | exact HB.out))) : w.heap.size ≤ gb105)); have n3_ := Aside0.mk ((by rw [hg]; exact (below_size (by repeat (first | (with_reducible first | exact HB.out | apply below_alloc | apply pw_below_drewN | apply below_drew1) | exact HB.out))) : w.heap.size ≤ gb105)); clear HB; have HB := n0_; have BK105 := n1_; have GW105 := n2_; have GE105 := n3_; clear n0_ n1_ n2_ n3_; clear hb hbox hg) | ((with_reducible refine gate_dst (N := 3) rfl ?_); refine box_event ?hg (N := 3) ?hd (cs := #[.slice A1_0 l1_0.length c1_0, .string a1_1]) (t := 81) ?hr ?_; (case hd => rfl); (case hg => rfl); (case hr => first | (go_simp; done) | (go_simp; rfl)); intro gb106 hg w5 hbox hb; have n0_ := Aside0.mk (blk_below (g := gb105) (o := .cells #[.slice A0_0 l0_0.length c0_0, .string a0_1] 81 (0, 0)) (by (with_reducible repeat (first | refine blk_drewN ?_ _ | refine blk_drew ?_ | refine blk_alloc ?_ _)); exact BK105.out) hb); have n1_ := Aside0.mk (below_step (by repeat (first | (with_reducible first | exact HB.out | apply below_alloc | apply pw_below_drewN | apply below_drew1 | refine below_set ?_ GE105.out) | exact HB.out)) hb); have n2_ := Aside0.mk (hbox); have n3_ := Aside0.mk ((by rw [hg]; exact (below_size (by repeat (first | (with_reducible first | exact HB.out | apply below_alloc | apply pw_below_drewN | apply below_drew1 | refine below_set ?_ GE105.out) | exact HB.out))) : w.heap.size ≤ gb106)); have n4_ := Aside0.mk ((by rw [hg]; exact (below_size (by repeat (first | (with_reducible first | exact HB.out | apply below_alloc | apply pw_below_drewN | apply below_drew1 | refine below_set ?_ GE105.out) | exact HB.out))) : w.heap.size ≤ gb106)); have n5_ := Aside0.mk ((by rw [hg]; exact Nat.ne_of_lt (blk_lt (g := gb105) (o := .cells #[.slice A0_0 l0_0.length c0_0, .string a0_1] 81 (0, 0)) (by (with_reducible repeat (first | refine blk_drewN ?_ _ | refine blk_drew ?_ | refine blk_alloc ?_ _)); exact BK105.out)) : gb105 ≠ gb106)); have n6_ := Aside0.mk ((by rw [hg]; exact Nat.ne_of_gt (blk_lt (g := gb105) (o := .cells #[.slice A0_0 l0_0.length c0_0, .string a0_1] 81 (0, 0)) (by (with_reducible repeat (first | refine blk_drewN ?_ _ | refine blk_drew ?_ | refine blk_alloc ?_ _)); exact BK105.out)) : gb106 ≠ gb105)); clear BK105; clear HB; have BK105 := n0_; have HB := n1_; have BK106 := n2_; have GW106 := n3_; have GE106 := n4_; have NB105_106 := n5_; have NB106_105 := n6_; clear n0_ n1_ n2_ n3_ n4_ n5_ n6_; clear hb hbox hg; have hnb6 := NB105_106.out; have hnc6 := NB106_105.out; have hcz7_0 : w5.cell? ⟨gb105, 0, none⟩ = some (.slice A0_0 l0_0.length c0_0) := (blk_cell BK105.out 0).trans rfl; have hcz7_1 : w5.cell? ⟨gb105, 1, none⟩ = some (.string a0_1) := (blk_cell BK105.out 1).trans rfl; have hfz7_0 := blk_frozen BK105.out 0; have hfz7_1 := blk_frozen BK105.out 1; have hcz8_0 : w5.cell? ⟨gb106, 0, none⟩ = some (.slice A1_0 l1_0.length c1_0) := (blk_cell BK106.out 0).trans rfl; have hcz8_1 : w5.cell? ⟨gb106, 1, none⟩ = some (.string a1_1) := (blk_cell BK106.out 1).trans rfl; have hfz8_0 := blk_frozen BK106.out 0; have hfz8_1 := blk_frozen BK106.out 1))
  (try simp only [Act.put, List.setIfInBounds_toArray, List.set_cons_zero, List.set_cons_succ])
  go_cut [7] (fun v7 wc => ∃ (kq : Nat) (x7_2 : Int), v7 = .int .i64 x7_2 ∧ Aside0 (compat_CompareSemver.j0 kq (l0_0.length : Int) (l1_0.length : Int) x7_2 l0_0 a0_1 l1_0 a1_1 = some r) ∧ Aside0 (kq ≤ k) ∧ Aside0 (wc.heap[gb105]? = some (.cells #[(.slice A0_0 l0_0.length c0_0), .string a0_1] 81 (0, 0))) ∧ Aside0 (wc.heap[gb106]? = some (.cells #[(.slice A1_0 l1_0.length c1_0), .string a1_1] 81 (0, 0))) ∧ Aside0 (Below w.heap.size w wc))
  case first =>
    have H := HC3.out
    clear HC3
    by_cases c9 : (l1_0.length : Int) > (l0_0.length : Int)
    · rw [if_pos c9] at H
      have c9b0 : decide ((l0_0.length : Int) < (l1_0.length : Int)) = true := decide_eq_true c9
      have c9b1 : decide (l0_0.length < l1_0.length) = true := decide_eq_true (Int.ofNat_lt.mp c9)
      have c9m : l0_0.length < l1_0.length := Int.ofNat_lt.mp c9
      clear c9
      (first | rw [c9b0] | (simp only [i64_w, i32_w]; rw [c9b0]) | skip)
      have H' := Aside0.mk H
      clear H
      go_wp2
      all_goals first
        | (exfalso; omega)
        | (go_meet
           case rel => exact ⟨_, ((l1_0.length : Int)), (by first | rfl | (simp; done) | (simp [*]; done)), H', ⟨by first | omega | exact Nat.le_refl _⟩, ⟨by (with_reducible repeat (first | refine blk_drewN ?_ _ | refine blk_drew ?_ | refine blk_alloc ?_ _)); exact BK105.out⟩, ⟨by (with_reducible repeat (first | refine blk_drewN ?_ _ | refine blk_drew ?_ | refine blk_alloc ?_ _)); exact BK106.out⟩, ⟨by repeat (first | (with_reducible first | exact HB.out | apply below_alloc | apply pw_below_drewN | apply below_drew1 | refine below_set ?_ GE105.out | refine below_set ?_ GE106.out) | exact HB.out)⟩⟩)
    · rw [if_neg c9] at H
      have c9b0 : decide ((l0_0.length : Int) < (l1_0.length : Int)) = false := decide_eq_false c9
      have c9b1 : decide (l0_0.length < l1_0.length) = false := decide_eq_false (fun h => c9 (Int.ofNat_lt.mpr h))
      have c9m : ¬ l0_0.length < l1_0.length := fun h => c9 (Int.ofNat_lt.mpr h)
      clear c9
      (first | rw [c9b0] | (simp only [i64_w, i32_w]; rw [c9b0]) | skip)
      have H' := Aside0.mk H
      clear H
      go_wp2
      all_goals first
        | (exfalso; omega)
        | (go_meet
           case rel => exact ⟨_, ((l0_0.length : Int)), (by first | rfl | (simp; done) | (simp [*]; done)), H', ⟨by first | omega | exact Nat.le_refl _⟩, ⟨by (with_reducible repeat (first | refine blk_drewN ?_ _ | refine blk_drew ?_ | refine blk_alloc ?_ _)); exact BK105.out⟩, ⟨by (with_reducible repeat (first | refine blk_drewN ?_ _ | refine blk_drew ?_ | refine blk_alloc ?_ _)); exact BK106.out⟩, ⟨by repeat (first | (with_reducible first | exact HB.out | apply below_alloc | apply pw_below_drewN | apply below_drew1 | refine below_set ?_ GE105.out | refine below_set ?_ GE106.out) | exact HB.out)⟩⟩)
  case rest =>
    clear HC3
    try clear c1
    try clear p2
    try clear c3
    try clear c6
    try clear c9
    try clear c9b0
    try clear c9b1
    try clear hcz7_0
    try clear hcz7_1
    try clear hcz8_0
    try clear hcz8_1
    try clear hfz7_0
    try clear hfz7_1
    try clear hfz8_0
    try clear hfz8_1
    obtain ⟨kq, x7_2, rfl, HA, HJ2, BK105, BK106, HB⟩ := hcut
    cases kq with
    | zero => exact absurd HA.out (by simp [compat_CompareSemver.j0])
    | succ kj2 =>
      have H := HA.out
      clear HA
      simp only [compat_CompareSemver.j0] at H
      have H' := Aside0.mk H
      clear H
      go_wp2
      go_loopg [8] kj2 (fun kq v8 w' => ∃ (x8_2 : Int), v8 = .int .i64 x8_2 ∧ Aside0 (compat_CompareSemver.l0 kq (l0_0.length : Int) (l1_0.length : Int) x7_2 x8_2 l0_0 a0_1 l1_0 a1_1 = some r) ∧ Aside0 (kq ≤ kj2) ∧ Aside0 (w'.heap[gb105]? = some (.cells #[(.slice A0_0 l0_0.length c0_0), .string a0_1] 81 (0, 0))) ∧ Aside0 (w'.heap[gb106]? = some (.cells #[(.slice A1_0 l1_0.length c1_0), .string a1_1] 81 (0, 0))) ∧ Aside0 (Below w.heap.size w w'))
      case atStart => exact ⟨(0), (by first | rfl | (simp; done) | (simp [*]; done)), H', ⟨Nat.le_refl _⟩, ⟨by (with_reducible repeat (first | refine blk_drewN ?_ _ | refine blk_drew ?_ | refine blk_alloc ?_ _)); exact BK105.out⟩, ⟨by (with_reducible repeat (first | refine blk_drewN ?_ _ | refine blk_drew ?_ | refine blk_alloc ?_ _)); exact BK106.out⟩, ⟨by repeat (first | (with_reducible first | exact HB.out | apply below_alloc | apply pw_below_drewN | apply below_drew1 | refine below_set ?_ GE105.out | refine below_set ?_ GE106.out) | exact HB.out)⟩⟩
      case round =>
        clear H'
        try clear c1
        try clear p2
        try clear c3
        try clear c6
        try clear c9
        try clear c9b0
        try clear c9b1
        try clear hcz7_0
        try clear hcz7_1
        try clear hcz8_0
        try clear hcz8_1
        try clear hfz7_0
        try clear hfz7_1
        try clear hfz8_0
        try clear hfz8_1
        try clear p2
        obtain ⟨x8_2, rfl, HA, HK2, BK105, BK106, HB⟩ := hrel
        cases gk with
        | zero => exact absurd HA.out (by simp [compat_CompareSemver.l0])
        | succ k2 =>
          have H := HA.out
          clear HA
          simp only [compat_CompareSemver.l0] at H
          by_cases c10 : x8_2 < x7_2
          · rw [if_pos c10] at H
            have c10b0 : decide (x8_2 < x7_2) = true := decide_eq_true c10
            clear c10
            have HC11 := Aside0.mk H
            clear H
            go_upto_if 37 with (fail)
            go_cut [9] (fun v9 wc => ∃ (kq : Nat) (x9_10 : Int), v9 = .int .i64 x9_10 ∧ Aside0 (compat_CompareSemver.j2 kq (l0_0.length : Int) (l1_0.length : Int) x7_2 x8_2 x9_10 0 l0_0 a0_1 l1_0 a1_1 = some r) ∧ Aside0 (kq ≤ k2) ∧ Aside0 (wc.heap[gb105]? = some (.cells #[(.slice A0_0 l0_0.length c0_0), .string a0_1] 81 (0, 0))) ∧ Aside0 (wc.heap[gb106]? = some (.cells #[(.slice A1_0 l1_0.length c1_0), .string a1_1] 81 (0, 0))) ∧ Aside0 (Below w.heap.size w wc))
            case first =>
              have H := HC11.out
              clear HC11
              by_cases c12 : x8_2 < (l0_0.length : Int)
              · rw [if_pos c12] at H
                have c12b0 : decide (x8_2 < (l0_0.length : Int)) = true := decide_eq_true c12
                clear c12
                (first | rw [c12b0] | (simp only [i64_w, i32_w]; rw [c12b0]) | skip)
                by_cases c13 : 0 ≤ x8_2
                · rw [if_pos c13] at H
                  have c13b0 : decide (0 ≤ x8_2) = true := decide_eq_true c13
                  clear c13
                  by_cases c14 : x8_2 < (l0_0.length : Int)
                  · rw [if_pos c14] at H
                    have c14b0 : decide (x8_2 < (l0_0.length : Int)) = true := decide_eq_true c14
                    clear c14
                    have H' := Aside0.mk H
                    clear H
                    have hnb15 := NB105_106.out
                    have hnc15 := NB106_105.out
                    have hcz16_0 : wr.cell? ⟨gb105, 0, none⟩ = some (.slice A0_0 l0_0.length c0_0) := (blk_cell BK105.out 0).trans rfl
                    have hcz16_1 : wr.cell? ⟨gb105, 1, none⟩ = some (.string a0_1) := (blk_cell BK105.out 1).trans rfl
                    have hfz16_0 := blk_frozen BK105.out 0
                    have hfz16_1 := blk_frozen BK105.out 1
                    have p107 : 0 ≤ (x8_2 : Int) := of_decide_eq_true (by first | (with_reducible assumption) | assumption)
                    have q107 : x8_2 < (l0_0.length : Int) := of_decide_eq_true (by first | (with_reducible assumption) | assumption)
                    obtain ⟨ad107, e107, hx107_0⟩ := Kd.at_int HR0_0.out x8_2 p107 q107
                    cases e107
                    replace hx107_0 := (HB.out.cell (World.block_lt_of_cell? w _ hx107_0)).trans hx107_0
                    replace p107 := eq_true p107
                    replace q107 := eq_true q107
                    go_wp2
                    go_meet
                    case rel => exact ⟨_, (rd l0_0 x8_2), (by first | rfl | (simp; done) | (simp [*]; done)), H', ⟨by have := HJ2.out; have := HK2.out; first | omega | exact Nat.le_refl _⟩, ⟨by (with_reducible repeat (first | refine blk_drewN ?_ _ | refine blk_drew ?_ | refine blk_alloc ?_ _)); exact BK105.out⟩, ⟨by (with_reducible repeat (first | refine blk_drewN ?_ _ | refine blk_drew ?_ | refine blk_alloc ?_ _)); exact BK106.out⟩, ⟨by repeat (first | (with_reducible first | exact HB.out | apply below_alloc | apply pw_below_drewN | apply below_drew1 | refine below_set ?_ GE105.out | refine below_set ?_ GE106.out) | exact HB.out)⟩⟩
                  · rw [if_neg c14] at H
                    exact absurd H (by simp)
                · rw [if_neg c13] at H
                  exact absurd H (by simp)
              · rw [if_neg c12] at H
                have c12b0 : decide (x8_2 < (l0_0.length : Int)) = false := decide_eq_false c12
                clear c12
                (first | rw [c12b0] | (simp only [i64_w, i32_w]; rw [c12b0]) | skip)
                have H' := Aside0.mk H
                clear H
                go_wp2
                go_meet
                case rel => exact ⟨_, (0), (by first | rfl | (simp; done) | (simp [*]; done)), H', ⟨by have := HJ2.out; have := HK2.out; first | omega | exact Nat.le_refl _⟩, ⟨by (with_reducible repeat (first | refine blk_drewN ?_ _ | refine blk_drew ?_ | refine blk_alloc ?_ _)); exact BK105.out⟩, ⟨by (with_reducible repeat (first | refine blk_drewN ?_ _ | refine blk_drew ?_ | refine blk_alloc ?_ _)); exact BK106.out⟩, ⟨by repeat (first | (with_reducible first | exact HB.out | apply below_alloc | apply pw_below_drewN | apply below_drew1 | refine below_set ?_ GE105.out | refine below_set ?_ GE106.out) | exact HB.out)⟩⟩
            case rest =>
              clear HC11
              try clear c1
              try clear p1
              try clear q1
              try clear hx1
              try clear p2
              try clear c3
              try clear c6
              try clear c9
              try clear c9b0
              try clear c9b1
              try clear c10
              try clear c10b0
              try clear p10
              try clear q10
              try clear hx10
              try clear c12
              try clear c12b0
              try clear c13
              try clear c13b0
              try clear c14
              try clear c14b0
              try clear c15
              try clear hcz16_0
              try clear hcz16_1
              try clear hcz7_0
              try clear hcz7_1
              try clear hcz8_0
              try clear hcz8_1
              try clear hfz16_0
              try clear hfz16_1
              try clear hfz7_0
              try clear hfz7_1
              try clear hfz8_0
              try clear hfz8_1
              try clear hx107_0
              try clear p107
              try clear p2
              try clear q107
              obtain ⟨kq, x9_10, rfl, HA, HJ10, BK105, BK106, HB⟩ := hcut
              cases kq with
              | zero => exact absurd HA.out (by simp [compat_CompareSemver.j2])
              | succ kj10 =>
                have H := HA.out
                clear HA
                simp only [compat_CompareSemver.j2] at H
                by_cases c17 : x8_2 < (l1_0.length : Int)
                · rw [if_pos c17] at H
                  have c17b0 : decide (x8_2 < (l1_0.length : Int)) = true := decide_eq_true c17
                  clear c17
                  by_cases c18 : 0 ≤ x8_2
                  · rw [if_pos c18] at H
                    have c18b0 : decide (0 ≤ x8_2) = true := decide_eq_true c18
                    clear c18
                    by_cases c19 : x8_2 < (l1_0.length : Int)
                    · rw [if_pos c19] at H
                      have c19b0 : decide (x8_2 < (l1_0.length : Int)) = true := decide_eq_true c19
                      clear c19
                      by_cases c20 : x9_10 = (rd l1_0 x8_2)
                      · rw [if_pos c20] at H
                        have c20b0 : (x9_10 == (rd l1_0 x8_2)) = true := beq_iff_eq.mpr c20
                        have c20b1 : (x9_10 != (rd l1_0 x8_2)) = false := bne_eq_false_iff_eq.mpr c20
                        clear c20
                        have H' := Aside0.mk H
                        clear H
                        have hnb21 := NB106_105.out
                        have hnc21 := NB105_106.out
                        have hcz22_0 : wc.cell? ⟨gb106, 0, none⟩ = some (.slice A1_0 l1_0.length c1_0) := (blk_cell BK106.out 0).trans rfl
                        have hcz22_1 : wc.cell? ⟨gb106, 1, none⟩ = some (.string a1_1) := (blk_cell BK106.out 1).trans rfl
                        have hfz22_0 := blk_frozen BK106.out 0
                        have hfz22_1 := blk_frozen BK106.out 1
                        have p108 : 0 ≤ (x8_2 : Int) := of_decide_eq_true (by first | (with_reducible assumption) | assumption)
                        have q108 : x8_2 < (l1_0.length : Int) := of_decide_eq_true (by first | (with_reducible assumption) | assumption)
                        obtain ⟨ad108, e108, hx108_0⟩ := Kd.at_int HR1_0.out x8_2 p108 q108
                        cases e108
                        replace hx108_0 := (HB.out.cell (World.block_lt_of_cell? w _ hx108_0)).trans hx108_0
                        replace p108 := eq_true p108
                        replace q108 := eq_true q108
                        go_wp2
                        go_roundg kj10
                        case measure => have := HJ2.out; have := HK2.out; have := HJ10.out; omega
                        case rel => exact ⟨(wrap64 (x8_2 + 1)), (by first | rfl | (simp; done) | (simp [*]; done)), H', ⟨by have := HJ2.out; have := HK2.out; have := HJ10.out; omega⟩, ⟨by (with_reducible repeat (first | refine blk_drewN ?_ _ | refine blk_drew ?_ | refine blk_alloc ?_ _)); exact BK105.out⟩, ⟨by (with_reducible repeat (first | refine blk_drewN ?_ _ | refine blk_drew ?_ | refine blk_alloc ?_ _)); exact BK106.out⟩, ⟨by repeat (first | (with_reducible first | exact HB.out | apply below_alloc | apply pw_below_drewN | apply below_drew1 | refine below_set ?_ GE105.out | refine below_set ?_ GE106.out) | exact HB.out)⟩⟩
                      · rw [if_neg c20] at H
                        have c20b0 : (x9_10 == (rd l1_0 x8_2)) = false := beq_eq_false_iff_ne.mpr c20
                        have c20b1 : (x9_10 != (rd l1_0 x8_2)) = true := bne_iff_ne.mpr c20
                        obtain rfl := Option.some.inj H
                        have hnb23 := NB106_105.out
                        have hnc23 := NB105_106.out
                        have hcz24_0 : wc.cell? ⟨gb106, 0, none⟩ = some (.slice A1_0 l1_0.length c1_0) := (blk_cell BK106.out 0).trans rfl
                        have hcz24_1 : wc.cell? ⟨gb106, 1, none⟩ = some (.string a1_1) := (blk_cell BK106.out 1).trans rfl
                        have hfz24_0 := blk_frozen BK106.out 0
                        have hfz24_1 := blk_frozen BK106.out 1
                        have p108 : 0 ≤ (x8_2 : Int) := of_decide_eq_true (by first | (with_reducible assumption) | assumption)
                        have q108 : x8_2 < (l1_0.length : Int) := of_decide_eq_true (by first | (with_reducible assumption) | assumption)
                        obtain ⟨ad108, e108, hx108_0⟩ := Kd.at_int HR1_0.out x8_2 p108 q108
                        cases e108
                        replace hx108_0 := (HB.out.cell (World.block_lt_of_cell? w _ hx108_0)).trans hx108_0
                        replace p108 := eq_true p108
                        replace q108 := eq_true q108
                        go_wp2
                        go_ret
                        exact ⟨by first | rfl | (simp [errW_none, errW_some] <;> rfl) | (simp [*, errW_none, errW_some] <;> rfl), by repeat (first | (with_reducible first | exact HB.out | apply below_alloc | apply pw_below_drewN | apply below_drew1 | refine below_set ?_ GE105.out | refine below_set ?_ GE106.out) | exact HB.out)⟩
                    · rw [if_neg c19] at H
                      exact absurd H (by simp)
                  · rw [if_neg c18] at H
                    exact absurd H (by simp)
                · rw [if_neg c17] at H
                  have c17b0 : decide (x8_2 < (l1_0.length : Int)) = false := decide_eq_false c17
                  clear c17
                  by_cases c25 : x9_10 = 0
                  · rw [if_pos c25] at H
                    have c25b0 : (x9_10 == 0) = true := beq_iff_eq.mpr c25
                    have c25b1 : (x9_10 != 0) = false := bne_eq_false_iff_eq.mpr c25
                    clear c25
                    have H' := Aside0.mk H
                    clear H
                    go_wp2
                    go_roundg kj10
                    case measure => have := HJ2.out; have := HK2.out; have := HJ10.out; omega
                    case rel => exact ⟨(wrap64 (x8_2 + 1)), (by first | rfl | (simp; done) | (simp [*]; done)), H', ⟨by have := HJ2.out; have := HK2.out; have := HJ10.out; omega⟩, ⟨by (with_reducible repeat (first | refine blk_drewN ?_ _ | refine blk_drew ?_ | refine blk_alloc ?_ _)); exact BK105.out⟩, ⟨by (with_reducible repeat (first | refine blk_drewN ?_ _ | refine blk_drew ?_ | refine blk_alloc ?_ _)); exact BK106.out⟩, ⟨by repeat (first | (with_reducible first | exact HB.out | apply below_alloc | apply pw_below_drewN | apply below_drew1 | refine below_set ?_ GE105.out | refine below_set ?_ GE106.out) | exact HB.out)⟩⟩
                  · rw [if_neg c25] at H
                    have c25b0 : (x9_10 == 0) = false := beq_eq_false_iff_ne.mpr c25
                    have c25b1 : (x9_10 != 0) = true := bne_iff_ne.mpr c25
                    obtain rfl := Option.some.inj H
                    go_wp2
                    go_ret
                    exact ⟨by first | rfl | (simp [errW_none, errW_some] <;> rfl) | (simp [*, errW_none, errW_some] <;> rfl), by repeat (first | (with_reducible first | exact HB.out | apply below_alloc | apply pw_below_drewN | apply below_drew1 | refine below_set ?_ GE105.out | refine below_set ?_ GE106.out) | exact HB.out)⟩
          · rw [if_neg c10] at H
            have c10b0 : decide (x8_2 < x7_2) = false := decide_eq_false c10
            clear c10
            by_cases c26 : ((a0_1.toList != ([] : List UInt8)) != (a1_1.toList != ([] : List UInt8))) = true
            · rw [if_pos c26] at H
              have c26b0 : ((a0_1.toList != ([] : List UInt8)) != (a1_1.toList != ([] : List UInt8))) = true := c26
              (try (have c26b1 : decide ((a0_1.toList != ([] : List UInt8)) = (a1_1.toList != ([] : List UInt8))) = false := by simpa using c26))
              (try (have c26b2 : ((a0_1.toList != ([] : List UInt8)) == (a1_1.toList != ([] : List UInt8))) = false := by simpa using c26))
              (try (have c26b3 : ¬ ((a0_1.toList != ([] : List UInt8)) = (a1_1.toList != ([] : List UInt8))) := by simpa using c26))
              have c26n : ((!a0_1.toList.isEmpty) == (!a1_1.toList.isEmpty)) = false := by
                rw [two_tests, c26]; rfl
              clear c26
              obtain rfl := Option.some.inj H
              have hnb27 := NB105_106.out
              have hnc27 := NB106_105.out
              have hcz28_0 : wr.cell? ⟨gb105, 0, none⟩ = some (.slice A0_0 l0_0.length c0_0) := (blk_cell BK105.out 0).trans rfl
              have hcz28_1 : wr.cell? ⟨gb105, 1, none⟩ = some (.string a0_1) := (blk_cell BK105.out 1).trans rfl
              have hfz28_0 := blk_frozen BK105.out 0
              have hfz28_1 := blk_frozen BK105.out 1
              have hcz29_0 : wr.cell? ⟨gb106, 0, none⟩ = some (.slice A1_0 l1_0.length c1_0) := (blk_cell BK106.out 0).trans rfl
              have hcz29_1 : wr.cell? ⟨gb106, 1, none⟩ = some (.string a1_1) := (blk_cell BK106.out 1).trans rfl
              have hfz29_0 := blk_frozen BK106.out 0
              have hfz29_1 := blk_frozen BK106.out 1
              go_wp2
              go_ret
              exact ⟨by first | rfl | (simp [errW_none, errW_some] <;> rfl) | (simp [*, errW_none, errW_some] <;> rfl), by repeat (first | (with_reducible first | exact HB.out | apply below_alloc | apply pw_below_drewN | apply below_drew1 | refine below_set ?_ GE105.out | refine below_set ?_ GE106.out) | exact HB.out)⟩
            · rw [if_neg c26] at H
              have c26b0 : ((a0_1.toList != ([] : List UInt8)) != (a1_1.toList != ([] : List UInt8))) = false := by simpa using c26
              (try (have c26b1 : decide ((a0_1.toList != ([] : List UInt8)) = (a1_1.toList != ([] : List UInt8))) = true := by simpa using c26))
              (try (have c26b2 : ((a0_1.toList != ([] : List UInt8)) == (a1_1.toList != ([] : List UInt8))) = true := by simpa using c26))
              have c26n : ((!a0_1.toList.isEmpty) == (!a1_1.toList.isEmpty)) = true := by
                rw [two_tests, c26b0]; rfl
              clear c26
              replace H := Option.bind_eq_some_iff.mp H
              obtain ⟨t109, A300, H⟩ := H
              replace H : ((strings_TrimPrefix.f a1_1 (⟨#[45]⟩ : ByteArray)).bind fun t110 => (compat_CompareSemver.l1 k2 t109 t110)) = some r := H
              have A30 := Aside0.mk A300
              clear A300
              replace H := Option.bind_eq_some_iff.mp H
              obtain ⟨t110, A310, H⟩ := H
              replace H : (compat_CompareSemver.l1 k2 t109 t110) = some r := H
              have A31 := Aside0.mk A310
              clear A310
              have H' := Aside0.mk H
              clear H
              have hnb32 := NB105_106.out
              have hnc32 := NB106_105.out
              have hcz33_0 : wr.cell? ⟨gb105, 0, none⟩ = some (.slice A0_0 l0_0.length c0_0) := (blk_cell BK105.out 0).trans rfl
              have hcz33_1 : wr.cell? ⟨gb105, 1, none⟩ = some (.string a0_1) := (blk_cell BK105.out 1).trans rfl
              have hfz33_0 := blk_frozen BK105.out 0
              have hfz33_1 := blk_frozen BK105.out 1
              have hcz34_0 : wr.cell? ⟨gb106, 0, none⟩ = some (.slice A1_0 l1_0.length c1_0) := (blk_cell BK106.out 0).trans rfl
              have hcz34_1 : wr.cell? ⟨gb106, 1, none⟩ = some (.string a1_1) := (blk_cell BK106.out 1).trans rfl
              have hfz34_0 := blk_frozen BK106.out 0
              have hfz34_1 := blk_frozen BK106.out 1
              go_wp2_with (first | ((with_reducible refine gate_callee (f := 39) rfl ?_); refine goesL_ (some 73) rfl rfl Tryd.func39 (by kernel_rfl) rfl #[.string a0_1, .string (⟨#[45]⟩ : ByteArray)] rfl (by (try simp only [List.map_toArray, List.map_cons, List.map_nil]); first | done | rfl | (simp only [List.length_drop, List.length_take]; rfl)) ?_; (with_reducible refine (strings_TrimPrefix.calls a0_1 (⟨#[45]⟩ : ByteArray) t109 _ A30.out).mono ?_); rintro e w' ⟨rfl, ⟨nd, rfl⟩⟩; refine ⟨_, rfl, ?_⟩) | ((with_reducible refine gate_callee (f := 39) rfl ?_); refine goesL_ (some 76) rfl rfl Tryd.func39 (by kernel_rfl) rfl #[.string a1_1, .string (⟨#[45]⟩ : ByteArray)] rfl (by (try simp only [List.map_toArray, List.map_cons, List.map_nil]); first | done | rfl | (simp only [List.length_drop, List.length_take]; rfl)) ?_; (with_reducible refine (strings_TrimPrefix.calls a1_1 (⟨#[45]⟩ : ByteArray) t110 _ A31.out).mono ?_); rintro e w' ⟨rfl, ⟨nd, rfl⟩⟩; refine ⟨_, rfl, ?_⟩))
              go_loopg [11, 12] k2 (fun kq v11 v12 w' => ∃ (x11_3 : ByteArray) (x12_3 : ByteArray), v11 = .string x11_3 ∧ v12 = .string x12_3 ∧ Aside0 (compat_CompareSemver.l1 kq x11_3 x12_3 = some r) ∧ Aside0 (kq ≤ k2) ∧ Aside0 (w'.heap[gb105]? = some (.cells #[(.slice A0_0 l0_0.length c0_0), .string a0_1] 81 (0, 0))) ∧ Aside0 (w'.heap[gb106]? = some (.cells #[(.slice A1_0 l1_0.length c1_0), .string a1_1] 81 (0, 0))) ∧ Aside0 (Below w.heap.size w w'))
              case atStart => exact ⟨(t109), (t110), (by first | rfl | (simp; done) | (simp [*]; done)), (by first | rfl | (simp; done) | (simp [*]; done)), H', ⟨Nat.le_refl _⟩, ⟨by (with_reducible repeat (first | refine blk_drewN ?_ _ | refine blk_drew ?_ | refine blk_alloc ?_ _)); exact BK105.out⟩, ⟨by (with_reducible repeat (first | refine blk_drewN ?_ _ | refine blk_drew ?_ | refine blk_alloc ?_ _)); exact BK106.out⟩, ⟨by repeat (first | (with_reducible first | exact HB.out | apply below_alloc | apply pw_below_drewN | apply below_drew1 | refine below_set ?_ GE105.out | refine below_set ?_ GE106.out) | exact HB.out)⟩⟩
              case round =>
                clear H'
                try clear c1
                try clear p1
                try clear q1
                try clear hx1
                try clear c2
                try clear p2
                try clear c3
                try clear c6
                try clear p6
                try clear c9
                try clear c9b0
                try clear c9b1
                try clear c10
                try clear c10b0
                try clear p10
                try clear q10
                try clear hx10
                try clear c12
                try clear c12b0
                try clear c13
                try clear c13b0
                try clear c14
                try clear c14b0
                try clear c15
                try clear c17
                try clear c17b0
                try clear c18
                try clear c18b0
                try clear c19
                try clear c19b0
                try clear c20
                try clear c20b0
                try clear c20b1
                try clear c21
                try clear c23
                try clear c25
                try clear c25b0
                try clear c25b1
                try clear c26
                try clear c26b0
                try clear c26b1
                try clear c26b2
                try clear c27
                try clear c31
                try clear c32
                try clear hcz16_0
                try clear hcz16_1
                try clear hcz22_0
                try clear hcz22_1
                try clear hcz24_0
                try clear hcz24_1
                try clear hcz28_0
                try clear hcz28_1
                try clear hcz29_0
                try clear hcz29_1
                try clear hcz33_0
                try clear hcz33_1
                try clear hcz34_0
                try clear hcz34_1
                try clear hcz7_0
                try clear hcz7_1
                try clear hcz8_0
                try clear hcz8_1
                try clear hfz16_0
                try clear hfz16_1
                try clear hfz22_0
                try clear hfz22_1
                try clear hfz24_0
                try clear hfz24_1
                try clear hfz28_0
                try clear hfz28_1
                try clear hfz29_0
                try clear hfz29_1
                try clear hfz33_0
                try clear hfz33_1
                try clear hfz34_0
                try clear hfz34_1
                try clear hfz7_0
                try clear hfz7_1
                try clear hfz8_0
                try clear hfz8_1
                try clear hx107_0
                try clear hx108_0
                try clear p1
                try clear p10
                try clear p107
                try clear p108
                try clear p2
                try clear q1
                try clear q10
                try clear q107
                try clear q108
                obtain ⟨x11_3, x12_3, rfl, rfl, HA, HK3, BK105, BK106, HB⟩ := hrel
                cases gk with
                | zero => exact absurd HA.out (by simp [compat_CompareSemver.l1])
                | succ k3 =>
                  have H := HA.out
                  clear HA
                  simp only [compat_CompareSemver.l1] at H
                  have HC35 := Aside0.mk H
                  clear H
                  go_upto_region 21 with (fail)
                  go_cut [82] (fun v82 wc => ∃ (kq : Nat) (x82_34 : Bool), v82 = .bool x82_34 ∧ Aside0 (compat_CompareSemver.j4 kq x11_3 x12_3 x82_34 = some r) ∧ Aside0 (kq ≤ k3) ∧ Aside0 (wc.heap[gb105]? = some (.cells #[(.slice A0_0 l0_0.length c0_0), .string a0_1] 81 (0, 0))) ∧ Aside0 (wc.heap[gb106]? = some (.cells #[(.slice A1_0 l1_0.length c1_0), .string a1_1] 81 (0, 0))) ∧ Aside0 (Below w.heap.size w wc))
                  case first =>
                    have H := HC35.out
                    clear HC35
                    by_cases c36 : x11_3.toList = ([] : List UInt8)
                    · rw [if_pos c36] at H
                      have c36b0 : (x11_3.toList == ([] : List UInt8)) = true := beq_iff_eq.mpr c36
                      have c36b1 : (x11_3.toList != ([] : List UInt8)) = false := bne_eq_false_iff_eq.mpr c36
                      clear c36
                      (first | rw [c36b0] | (simp only [i64_w, i32_w]; rw [c36b0]) | skip)
                      have H' := Aside0.mk H
                      clear H
                      go_wp2
                      go_meet
                      case rel => exact ⟨_, (false), (by first | rfl | (simp; done) | (simp [*]; done)), H', ⟨by have := HJ2.out; have := HK2.out; have := HK3.out; first | omega | exact Nat.le_refl _⟩, ⟨by (with_reducible repeat (first | refine blk_drewN ?_ _ | refine blk_drew ?_ | refine blk_alloc ?_ _)); exact BK105.out⟩, ⟨by (with_reducible repeat (first | refine blk_drewN ?_ _ | refine blk_drew ?_ | refine blk_alloc ?_ _)); exact BK106.out⟩, ⟨by repeat (first | (with_reducible first | exact HB.out | apply below_alloc | apply pw_below_drewN | apply below_drew1 | refine below_set ?_ GE105.out | refine below_set ?_ GE106.out) | exact HB.out)⟩⟩
                    · rw [if_neg c36] at H
                      have c36b0 : (x11_3.toList == ([] : List UInt8)) = false := beq_eq_false_iff_ne.mpr c36
                      have c36b1 : (x11_3.toList != ([] : List UInt8)) = true := bne_iff_ne.mpr c36
                      (first | rw [c36b0] | (simp only [i64_w, i32_w]; rw [c36b0]) | skip)
                      have H' := Aside0.mk H
                      clear H
                      go_wp2
                      go_meet
                      case rel => exact ⟨_, ((x12_3.toList != ([] : List UInt8))), (by first | rfl | (simp only [Value.bool.injEq]; cases x12_3.toList <;> rfl) | (simp; cases x12_3.toList <;> rfl) | (simp; done) | (simp [*]; done)), H', ⟨by have := HJ2.out; have := HK2.out; have := HK3.out; first | omega | exact Nat.le_refl _⟩, ⟨by (with_reducible repeat (first | refine blk_drewN ?_ _ | refine blk_drew ?_ | refine blk_alloc ?_ _)); exact BK105.out⟩, ⟨by (with_reducible repeat (first | refine blk_drewN ?_ _ | refine blk_drew ?_ | refine blk_alloc ?_ _)); exact BK106.out⟩, ⟨by repeat (first | (with_reducible first | exact HB.out | apply below_alloc | apply pw_below_drewN | apply below_drew1 | refine below_set ?_ GE105.out | refine below_set ?_ GE106.out) | exact HB.out)⟩⟩
                  case rest =>
                    clear HC35
                    try clear c1
                    try clear p1
                    try clear q1
                    try clear hx1
                    try clear c2
                    try clear p2
                    try clear c3
                    try clear c6
                    try clear p6
                    try clear c9
                    try clear c9b0
                    try clear c9b1
                    try clear c10
                    try clear c10b0
                    try clear p10
                    try clear q10
                    try clear hx10
                    try clear c12
                    try clear c12b0
                    try clear c13
                    try clear c13b0
                    try clear c14
                    try clear c14b0
                    try clear c15
                    try clear c17
                    try clear c17b0
                    try clear c18
                    try clear c18b0
                    try clear c19
                    try clear c19b0
                    try clear c20
                    try clear c20b0
                    try clear c20b1
                    try clear c21
                    try clear c23
                    try clear c25
                    try clear c25b0
                    try clear c25b1
                    try clear c26
                    try clear c26b0
                    try clear c26b1
                    try clear c26b2
                    try clear c27
                    try clear c31
                    try clear c32
                    try clear c36
                    try clear c36b0
                    try clear c36b1
                    try clear hcz16_0
                    try clear hcz16_1
                    try clear hcz22_0
                    try clear hcz22_1
                    try clear hcz24_0
                    try clear hcz24_1
                    try clear hcz28_0
                    try clear hcz28_1
                    try clear hcz29_0
                    try clear hcz29_1
                    try clear hcz33_0
                    try clear hcz33_1
                    try clear hcz34_0
                    try clear hcz34_1
                    try clear hcz7_0
                    try clear hcz7_1
                    try clear hcz8_0
                    try clear hcz8_1
                    try clear hfz16_0
                    try clear hfz16_1
                    try clear hfz22_0
                    try clear hfz22_1
                    try clear hfz24_0
                    try clear hfz24_1
                    try clear hfz28_0
                    try clear hfz28_1
                    try clear hfz29_0
                    try clear hfz29_1
                    try clear hfz33_0
                    try clear hfz33_1
                    try clear hfz34_0
                    try clear hfz34_1
                    try clear hfz7_0
                    try clear hfz7_1
                    try clear hfz8_0
                    try clear hfz8_1
                    try clear hx107_0
                    try clear hx108_0
                    try clear p1
                    try clear p10
                    try clear p107
                    try clear p108
                    try clear p2
                    try clear p6
                    try clear q1
                    try clear q10
                    try clear q107
                    try clear q108
                    obtain ⟨kq, x82_34, rfl, HA, HJ34, BK105, BK106, HB⟩ := hcut
                    cases kq with
                    | zero => exact absurd HA.out (by simp [compat_CompareSemver.j4])
                    | succ kj34 =>
                      have H := HA.out
                      clear HA
                      simp only [compat_CompareSemver.j4] at H
                      by_cases c37 : x82_34 = true
                      · subst c37
                        have H1 : ((compat_splitOffNextPreReleasePart.f x11_3).bind fun bt111 => ((compat_splitOffNextPreReleasePart.f x12_3).bind fun bt113 => (if bt111.1.toList = bt113.1.toList then (compat_CompareSemver.l1 kj34 bt111.2 bt113.2) else ((compat_preReleasePartToNumber.f bt111.1).bind fun bt115 => ((compat_preReleasePartToNumber.f bt113.1).bind fun bt117 => (if bt115.2 = true then (compat_CompareSemver.j5 kj34 bt111.1 bt113.1 bt115.1 bt115.2 bt117.1 bt117.2 false) else (compat_CompareSemver.j5 kj34 bt111.1 bt113.1 bt115.1 bt115.2 bt117.1 bt117.2 (!bt117.2)))))))) = some r := by rw [if_pos rfl] at H; exact H
                        clear H
                        have H := H1
                        clear H1
                        replace H := Option.bind_eq_some_iff.mp H
                        obtain ⟨⟨t111, t112⟩, A380, H⟩ := H
                        replace H : ((compat_splitOffNextPreReleasePart.f x12_3).bind fun bt113 => (if t111.toList = bt113.1.toList then (compat_CompareSemver.l1 kj34 t112 bt113.2) else ((compat_preReleasePartToNumber.f t111).bind fun bt115 => ((compat_preReleasePartToNumber.f bt113.1).bind fun bt117 => (if bt115.2 = true then (compat_CompareSemver.j5 kj34 t111 bt113.1 bt115.1 bt115.2 bt117.1 bt117.2 false) else (compat_CompareSemver.j5 kj34 t111 bt113.1 bt115.1 bt115.2 bt117.1 bt117.2 (!bt117.2))))))) = some r := H
                        have A38 := Aside0.mk A380
                        clear A380
                        replace H := Option.bind_eq_some_iff.mp H
                        obtain ⟨⟨t113, t114⟩, A390, H⟩ := H
                        replace H : (if t111.toList = t113.toList then (compat_CompareSemver.l1 kj34 t112 t114) else ((compat_preReleasePartToNumber.f t111).bind fun bt115 => ((compat_preReleasePartToNumber.f t113).bind fun bt117 => (if bt115.2 = true then (compat_CompareSemver.j5 kj34 t111 t113 bt115.1 bt115.2 bt117.1 bt117.2 false) else (compat_CompareSemver.j5 kj34 t111 t113 bt115.1 bt115.2 bt117.1 bt117.2 (!bt117.2)))))) = some r := H
                        have A39 := Aside0.mk A390
                        clear A390
                        by_cases c40 : t111.toList = t113.toList
                        · rw [if_pos c40] at H
                          have c40b0 : (t111.toList == t113.toList) = true := beq_iff_eq.mpr c40
                          have c40b1 : (t111.toList != t113.toList) = false := bne_eq_false_iff_eq.mpr c40
                          clear c40
                          have H' := Aside0.mk H
                          clear H
                          go_wp2_with (first | ((with_reducible refine gate_callee (f := 40) rfl ?_); refine goesL_ (some 85) rfl rfl Tryd.func40 (by kernel_rfl) rfl #[.string x11_3] rfl (by (try simp only [List.map_toArray, List.map_cons, List.map_nil]); first | done | rfl | (simp only [List.length_drop, List.length_take]; rfl)) ?_; (with_reducible refine (compat_splitOffNextPreReleasePart.calls x11_3 t111 t112 _ A38.out).mono ?_); rintro e w' ⟨rfl, ⟨nd, rfl⟩⟩; refine ⟨_, rfl, ?_⟩) | ((with_reducible refine gate_callee (f := 40) rfl ?_); refine goesL_ (some 90) rfl rfl Tryd.func40 (by kernel_rfl) rfl #[.string x12_3] rfl (by (try simp only [List.map_toArray, List.map_cons, List.map_nil]); first | done | rfl | (simp only [List.length_drop, List.length_take]; rfl)) ?_; (with_reducible refine (compat_splitOffNextPreReleasePart.calls x12_3 t113 t114 _ A39.out).mono ?_); rintro e w' ⟨rfl, ⟨nd, rfl⟩⟩; refine ⟨_, rfl, ?_⟩))
                          go_roundg kj34
                          case measure => have := HJ2.out; have := HK2.out; have := HK3.out; have := HJ34.out; omega
                          case rel => exact ⟨(t112), (t114), (by first | rfl | (simp; done) | (simp [*]; done)), (by first | rfl | (simp; done) | (simp [*]; done)), H', ⟨by have := HJ2.out; have := HK2.out; have := HK3.out; have := HJ34.out; omega⟩, ⟨by (with_reducible repeat (first | refine blk_drewN ?_ _ | refine blk_drew ?_ | refine blk_alloc ?_ _)); exact BK105.out⟩, ⟨by (with_reducible repeat (first | refine blk_drewN ?_ _ | refine blk_drew ?_ | refine blk_alloc ?_ _)); exact BK106.out⟩, ⟨by repeat (first | (with_reducible first | exact HB.out | apply below_alloc | apply pw_below_drewN | apply below_drew1 | refine below_set ?_ GE105.out | refine below_set ?_ GE106.out) | exact HB.out)⟩⟩
                        · rw [if_neg c40] at H
                          have c40b0 : (t111.toList == t113.toList) = false := beq_eq_false_iff_ne.mpr c40
                          have c40b1 : (t111.toList != t113.toList) = true := bne_iff_ne.mpr c40
                          replace H := Option.bind_eq_some_iff.mp H
                          obtain ⟨⟨t115, t116⟩, A410, H⟩ := H
                          replace H : ((compat_preReleasePartToNumber.f t113).bind fun bt117 => (if t116 = true then (compat_CompareSemver.j5 kj34 t111 t113 t115 t116 bt117.1 bt117.2 false) else (compat_CompareSemver.j5 kj34 t111 t113 t115 t116 bt117.1 bt117.2 (!bt117.2)))) = some r := H
                          have A41 := Aside0.mk A410
                          clear A410
                          replace H := Option.bind_eq_some_iff.mp H
                          obtain ⟨⟨t117, t118⟩, A420, H⟩ := H
                          replace H : (if t116 = true then (compat_CompareSemver.j5 kj34 t111 t113 t115 t116 t117 t118 false) else (compat_CompareSemver.j5 kj34 t111 t113 t115 t116 t117 t118 (!t118))) = some r := H
                          have A42 := Aside0.mk A420
                          clear A420
                          have HC43 := Aside0.mk H
                          clear H
                          go_upto_region 28 with (first | ((with_reducible refine gate_callee (f := 40) rfl ?_); refine goesL_ (some 85) rfl rfl Tryd.func40 (by kernel_rfl) rfl #[.string x11_3] rfl (by (try simp only [List.map_toArray, List.map_cons, List.map_nil]); first | done | rfl | (simp only [List.length_drop, List.length_take]; rfl)) ?_; (with_reducible refine (compat_splitOffNextPreReleasePart.calls x11_3 t111 t112 _ A38.out).mono ?_); rintro e w' ⟨rfl, ⟨nd, rfl⟩⟩; refine ⟨_, rfl, ?_⟩) | ((with_reducible refine gate_callee (f := 40) rfl ?_); refine goesL_ (some 90) rfl rfl Tryd.func40 (by kernel_rfl) rfl #[.string x12_3] rfl (by (try simp only [List.map_toArray, List.map_cons, List.map_nil]); first | done | rfl | (simp only [List.length_drop, List.length_take]; rfl)) ?_; (with_reducible refine (compat_splitOffNextPreReleasePart.calls x12_3 t113 t114 _ A39.out).mono ?_); rintro e w' ⟨rfl, ⟨nd, rfl⟩⟩; refine ⟨_, rfl, ?_⟩) | ((with_reducible refine gate_callee (f := 41) rfl ?_); refine goesL_ (some 98) rfl rfl Tryd.func41 (by kernel_rfl) rfl #[.string t111] rfl (by (try simp only [List.map_toArray, List.map_cons, List.map_nil]); first | done | rfl | (simp only [List.length_drop, List.length_take]; rfl)) ?_; (with_reducible refine (compat_preReleasePartToNumber.calls t111 t115 t116 _ A41.out).mono ?_); rintro e w' ⟨rfl, ⟨nd, rfl⟩⟩; refine ⟨_, rfl, ?_⟩) | ((with_reducible refine gate_callee (f := 41) rfl ?_); refine goesL_ (some 103) rfl rfl Tryd.func41 (by kernel_rfl) rfl #[.string t113] rfl (by (try simp only [List.map_toArray, List.map_cons, List.map_nil]); first | done | rfl | (simp only [List.length_drop, List.length_take]; rfl)) ?_; (with_reducible refine (compat_preReleasePartToNumber.calls t113 t117 t118 _ A42.out).mono ?_); rintro e w' ⟨rfl, ⟨nd, rfl⟩⟩; refine ⟨_, rfl, ?_⟩))
                          (try simp only [Act.put, List.setIfInBounds_toArray, List.set_cons_zero, List.set_cons_succ])
                          go_cut [111] (fun v111 wc => ∃ (kq : Nat) (x111_42 : Bool), v111 = .bool x111_42 ∧ Aside0 (compat_CompareSemver.j5 kq t111 t113 t115 t116 t117 t118 x111_42 = some r) ∧ Aside0 (kq ≤ kj34) ∧ Aside0 (wc.heap[gb105]? = some (.cells #[(.slice A0_0 l0_0.length c0_0), .string a0_1] 81 (0, 0))) ∧ Aside0 (wc.heap[gb106]? = some (.cells #[(.slice A1_0 l1_0.length c1_0), .string a1_1] 81 (0, 0))) ∧ Aside0 (Below w.heap.size w wc))
                          case first =>
                            have H := HC43.out
                            clear HC43
                            by_cases c44 : t116 = true
                            · subst c44
                              have H1 : (compat_CompareSemver.j5 kj34 t111 t113 t115 true t117 t118 false) = some r := by rw [if_pos rfl] at H; exact H
                              clear H
                              have H := H1
                              clear H1
                              have H' := Aside0.mk H
                              clear H
                              go_wp2
                              go_meet
                              case rel => exact ⟨_, (false), (by first | rfl | (simp; done) | (simp [*]; done)), H', ⟨by have := HJ2.out; have := HK2.out; have := HK3.out; have := HJ34.out; first | omega | exact Nat.le_refl _⟩, ⟨by (with_reducible repeat (first | refine blk_drewN ?_ _ | refine blk_drew ?_ | refine blk_alloc ?_ _)); exact BK105.out⟩, ⟨by (with_reducible repeat (first | refine blk_drewN ?_ _ | refine blk_drew ?_ | refine blk_alloc ?_ _)); exact BK106.out⟩, ⟨by repeat (first | (with_reducible first | exact HB.out | apply below_alloc | apply pw_below_drewN | apply below_drew1 | refine below_set ?_ GE105.out | refine below_set ?_ GE106.out) | exact HB.out)⟩⟩
                            · replace c44 := Bool.eq_false_iff.mpr c44
                              subst c44
                              have H1 : (compat_CompareSemver.j5 kj34 t111 t113 t115 false t117 t118 (!t118)) = some r := by rw [if_neg (show ¬ (false = true) by decide)] at H; exact H
                              clear H
                              have H := H1
                              clear H1
                              have H' := Aside0.mk H
                              clear H
                              go_wp2
                              go_meet
                              case rel => exact ⟨_, (!t118), (by first | rfl | (simp; done) | (simp [*]; done)), H', ⟨by have := HJ2.out; have := HK2.out; have := HK3.out; have := HJ34.out; first | omega | exact Nat.le_refl _⟩, ⟨by (with_reducible repeat (first | refine blk_drewN ?_ _ | refine blk_drew ?_ | refine blk_alloc ?_ _)); exact BK105.out⟩, ⟨by (with_reducible repeat (first | refine blk_drewN ?_ _ | refine blk_drew ?_ | refine blk_alloc ?_ _)); exact BK106.out⟩, ⟨by repeat (first | (with_reducible first | exact HB.out | apply below_alloc | apply pw_below_drewN | apply below_drew1 | refine below_set ?_ GE105.out | refine below_set ?_ GE106.out) | exact HB.out)⟩⟩
                          case rest =>
                            clear HC43
                            try clear c1
                            try clear p1
                            try clear q1
                            try clear hx1
                            try clear c2
                            try clear p2
                            try clear c3
                            try clear c4
                            try clear c6
                            try clear p6
                            try clear c9
                            try clear c9b0
                            try clear c9b1
                            try clear c10
                            try clear c10b0
                            try clear p10
                            try clear q10
                            try clear hx10
                            try clear c12
                            try clear c12b0
                            try clear c13
                            try clear c13b0
                            try clear c14
                            try clear c14b0
                            try clear c15
                            try clear c17
                            try clear c17b0
                            try clear c18
                            try clear c18b0
                            try clear c19
                            try clear c19b0
                            try clear c20
                            try clear c20b0
                            try clear c20b1
                            try clear c21
                            try clear c23
                            try clear c25
                            try clear c25b0
                            try clear c25b1
                            try clear c26
                            try clear c26b0
                            try clear c26b1
                            try clear c26b2
                            try clear c27
                            try clear c31
                            try clear c32
                            try clear c36
                            try clear c36b0
                            try clear c36b1
                            try clear c37
                            try clear c39
                            try clear c40
                            try clear c40b0
                            try clear c40b1
                            try clear c41
                            try clear c44
                            try clear hcz16_0
                            try clear hcz16_1
                            try clear hcz22_0
                            try clear hcz22_1
                            try clear hcz24_0
                            try clear hcz24_1
                            try clear hcz28_0
                            try clear hcz28_1
                            try clear hcz29_0
                            try clear hcz29_1
                            try clear hcz33_0
                            try clear hcz33_1
                            try clear hcz34_0
                            try clear hcz34_1
                            try clear hcz7_0
                            try clear hcz7_1
                            try clear hcz8_0
                            try clear hcz8_1
                            try clear hfz16_0
                            try clear hfz16_1
                            try clear hfz22_0
                            try clear hfz22_1
                            try clear hfz24_0
                            try clear hfz24_1
                            try clear hfz28_0
                            try clear hfz28_1
                            try clear hfz29_0
                            try clear hfz29_1
                            try clear hfz33_0
                            try clear hfz33_1
                            try clear hfz34_0
                            try clear hfz34_1
                            try clear hfz7_0
                            try clear hfz7_1
                            try clear hfz8_0
                            try clear hfz8_1
                            try clear hx107_0
                            try clear hx108_0
                            try clear p1
                            try clear p10
                            try clear p107
                            try clear p108
                            try clear p2
                            try clear p6
                            try clear q1
                            try clear q10
                            try clear q107
                            try clear q108
                            obtain ⟨kq, x111_42, rfl, HA, HJ42, BK105, BK106, HB⟩ := hcut
                            cases kq with
                            | zero => exact absurd HA.out (by simp [compat_CompareSemver.j5])
                            | succ kj42 =>
                              have H := HA.out
                              clear HA
                              simp only [compat_CompareSemver.j5] at H
                              by_cases c45 : x111_42 = true
                              · subst c45
                                have H1 : (if (Op.bytesLess t111.toList t113.toList) = true then (some (-1)) else (some 1)) = some r := by rw [if_pos rfl] at H; exact H
                                clear H
                                have H := H1
                                clear H1
                                by_cases c46 : (Op.bytesLess t111.toList t113.toList) = true
                                · rw [if_pos c46] at H
                                  have c46b0 : (Op.bytesLess t111.toList t113.toList) = true := c46
                                  clear c46
                                  obtain rfl := Option.some.inj H
                                  go_wp2
                                  go_ret
                                  exact ⟨by first | rfl | (simp [errW_none, errW_some] <;> rfl) | (simp [*, errW_none, errW_some] <;> rfl), by repeat (first | (with_reducible first | exact HB.out | apply below_alloc | apply pw_below_drewN | apply below_drew1 | refine below_set ?_ GE105.out | refine below_set ?_ GE106.out) | exact HB.out)⟩
                                · rw [if_neg c46] at H
                                  have c46b0 : (Op.bytesLess t111.toList t113.toList) = false := by simpa using c46
                                  clear c46
                                  obtain rfl := Option.some.inj H
                                  go_wp2
                                  go_ret
                                  exact ⟨by first | rfl | (simp [errW_none, errW_some] <;> rfl) | (simp [*, errW_none, errW_some] <;> rfl), by repeat (first | (with_reducible first | exact HB.out | apply below_alloc | apply pw_below_drewN | apply below_drew1 | refine below_set ?_ GE105.out | refine below_set ?_ GE106.out) | exact HB.out)⟩
                              · replace c45 := Bool.eq_false_iff.mpr c45
                                subst c45
                                have H1 : (if t116 = true then (compat_CompareSemver.j6 kj42 t111 t113 t115 t116 t117 t118) else (compat_CompareSemver.j6 kj42 t111 t113 t115 t116 t117 false)) = some r := by rw [if_neg (show ¬ (false = true) by decide)] at H; exact H
                                clear H
                                have H := H1
                                clear H1
                                have HC47 := Aside0.mk H
                                clear H
                                go_upto_region 32 with (fail)
                                go_cut [118] (fun v118 wc => ∃ (kq : Nat) (x118_46 : Bool), v118 = .bool x118_46 ∧ Aside0 (compat_CompareSemver.j6 kq t111 t113 t115 t116 t117 x118_46 = some r) ∧ Aside0 (kq ≤ kj42) ∧ Aside0 (wc.heap[gb105]? = some (.cells #[(.slice A0_0 l0_0.length c0_0), .string a0_1] 81 (0, 0))) ∧ Aside0 (wc.heap[gb106]? = some (.cells #[(.slice A1_0 l1_0.length c1_0), .string a1_1] 81 (0, 0))) ∧ Aside0 (Below w.heap.size w wc))
                                case first =>
                                  have H := HC47.out
                                  clear HC47
                                  by_cases c48 : t116 = true
                                  · subst c48
                                    have H1 : (compat_CompareSemver.j6 kj42 t111 t113 t115 true t117 t118) = some r := by rw [if_pos rfl] at H; exact H
                                    clear H
                                    have H := H1
                                    clear H1
                                    have H' := Aside0.mk H
                                    clear H
                                    go_wp2
                                    go_meet
                                    case rel => exact ⟨_, (t118), (by first | rfl | (simp; done) | (simp [*]; done)), H', ⟨by have := HJ2.out; have := HK2.out; have := HK3.out; have := HJ34.out; have := HJ42.out; first | omega | exact Nat.le_refl _⟩, ⟨by (with_reducible repeat (first | refine blk_drewN ?_ _ | refine blk_drew ?_ | refine blk_alloc ?_ _)); exact BK105.out⟩, ⟨by (with_reducible repeat (first | refine blk_drewN ?_ _ | refine blk_drew ?_ | refine blk_alloc ?_ _)); exact BK106.out⟩, ⟨by repeat (first | (with_reducible first | exact HB.out | apply below_alloc | apply pw_below_drewN | apply below_drew1 | refine below_set ?_ GE105.out | refine below_set ?_ GE106.out) | exact HB.out)⟩⟩
                                  · replace c48 := Bool.eq_false_iff.mpr c48
                                    subst c48
                                    have H1 : (compat_CompareSemver.j6 kj42 t111 t113 t115 false t117 false) = some r := by rw [if_neg (show ¬ (false = true) by decide)] at H; exact H
                                    clear H
                                    have H := H1
                                    clear H1
                                    have H' := Aside0.mk H
                                    clear H
                                    go_wp2
                                    go_meet
                                    case rel => exact ⟨_, (false), (by first | rfl | (simp; done) | (simp [*]; done)), H', ⟨by have := HJ2.out; have := HK2.out; have := HK3.out; have := HJ34.out; have := HJ42.out; first | omega | exact Nat.le_refl _⟩, ⟨by (with_reducible repeat (first | refine blk_drewN ?_ _ | refine blk_drew ?_ | refine blk_alloc ?_ _)); exact BK105.out⟩, ⟨by (with_reducible repeat (first | refine blk_drewN ?_ _ | refine blk_drew ?_ | refine blk_alloc ?_ _)); exact BK106.out⟩, ⟨by repeat (first | (with_reducible first | exact HB.out | apply below_alloc | apply pw_below_drewN | apply below_drew1 | refine below_set ?_ GE105.out | refine below_set ?_ GE106.out) | exact HB.out)⟩⟩
                                case rest =>
                                  clear HC47
                                  try clear c1
                                  try clear p1
                                  try clear q1
                                  try clear hx1
                                  try clear c2
                                  try clear p2
                                  try clear c3
                                  try clear c4
                                  try clear c6
                                  try clear p6
                                  try clear c9
                                  try clear c9b0
                                  try clear c9b1
                                  try clear c10
                                  try clear c10b0
                                  try clear p10
                                  try clear q10
                                  try clear hx10
                                  try clear c12
                                  try clear c12b0
                                  try clear c13
                                  try clear c13b0
                                  try clear c14
                                  try clear c14b0
                                  try clear c15
                                  try clear c17
                                  try clear c17b0
                                  try clear c18
                                  try clear c18b0
                                  try clear c19
                                  try clear c19b0
                                  try clear c20
                                  try clear c20b0
                                  try clear c20b1
                                  try clear c21
                                  try clear c23
                                  try clear c25
                                  try clear c25b0
                                  try clear c25b1
                                  try clear c26
                                  try clear c26b0
                                  try clear c26b1
                                  try clear c26b2
                                  try clear c27
                                  try clear c31
                                  try clear c32
                                  try clear c36
                                  try clear c36b0
                                  try clear c36b1
                                  try clear c37
                                  try clear c39
                                  try clear c40
                                  try clear c40b0
                                  try clear c40b1
                                  try clear c41
                                  try clear c44
                                  try clear c45
                                  try clear c46
                                  try clear c46b0
                                  try clear c48
                                  try clear hcz16_0
                                  try clear hcz16_1
                                  try clear hcz22_0
                                  try clear hcz22_1
                                  try clear hcz24_0
                                  try clear hcz24_1
                                  try clear hcz28_0
                                  try clear hcz28_1
                                  try clear hcz29_0
                                  try clear hcz29_1
                                  try clear hcz33_0
                                  try clear hcz33_1
                                  try clear hcz34_0
                                  try clear hcz34_1
                                  try clear hcz7_0
                                  try clear hcz7_1
                                  try clear hcz8_0
                                  try clear hcz8_1
                                  try clear hfz16_0
                                  try clear hfz16_1
                                  try clear hfz22_0
                                  try clear hfz22_1
                                  try clear hfz24_0
                                  try clear hfz24_1
                                  try clear hfz28_0
                                  try clear hfz28_1
                                  try clear hfz29_0
                                  try clear hfz29_1
                                  try clear hfz33_0
                                  try clear hfz33_1
                                  try clear hfz34_0
                                  try clear hfz34_1
                                  try clear hfz7_0
                                  try clear hfz7_1
                                  try clear hfz8_0
                                  try clear hfz8_1
                                  try clear hx107_0
                                  try clear hx108_0
                                  try clear p1
                                  try clear p10
                                  try clear p107
                                  try clear p108
                                  try clear p2
                                  try clear p6
                                  try clear q1
                                  try clear q10
                                  try clear q107
                                  try clear q108
                                  obtain ⟨kq, x118_46, rfl, HA, HJ46, BK105, BK106, HB⟩ := hcut
                                  cases kq with
                                  | zero => exact absurd HA.out (by simp [compat_CompareSemver.j6])
                                  | succ kj46 =>
                                    have H := HA.out
                                    clear HA
                                    simp only [compat_CompareSemver.j6] at H
                                    by_cases c49 : x118_46 = true
                                    · subst c49
                                      have H1 : (if t115 = t117 then (some (wrap64 ((t111.size : Int) - (t113.size : Int)))) else (some (wrap64 (t115 - t117)))) = some r := by rw [if_pos rfl] at H; exact H
                                      clear H
                                      have H := H1
                                      clear H1
                                      by_cases c50 : t115 = t117
                                      · rw [if_pos c50] at H
                                        have c50b0 : (t115 == t117) = true := beq_iff_eq.mpr c50
                                        have c50b1 : (t115 != t117) = false := bne_eq_false_iff_eq.mpr c50
                                        clear c50
                                        obtain rfl := Option.some.inj H
                                        go_wp2
                                        go_ret
                                        exact ⟨by first | rfl | (simp [errW_none, errW_some] <;> rfl) | (simp [*, errW_none, errW_some] <;> rfl), by repeat (first | (with_reducible first | exact HB.out | apply below_alloc | apply pw_below_drewN | apply below_drew1 | refine below_set ?_ GE105.out | refine below_set ?_ GE106.out) | exact HB.out)⟩
                                      · rw [if_neg c50] at H
                                        have c50b0 : (t115 == t117) = false := beq_eq_false_iff_ne.mpr c50
                                        have c50b1 : (t115 != t117) = true := bne_iff_ne.mpr c50
                                        obtain rfl := Option.some.inj H
                                        go_wp2
                                        go_ret
                                        exact ⟨by first | rfl | (simp [errW_none, errW_some] <;> rfl) | (simp [*, errW_none, errW_some] <;> rfl), by repeat (first | (with_reducible first | exact HB.out | apply below_alloc | apply pw_below_drewN | apply below_drew1 | refine below_set ?_ GE105.out | refine below_set ?_ GE106.out) | exact HB.out)⟩
                                    · replace c49 := Bool.eq_false_iff.mpr c49
                                      subst c49
                                      have H1 : (if t116 = true then (some (-1)) else (some 1)) = some r := by rw [if_neg (show ¬ (false = true) by decide)] at H; exact H
                                      clear H
                                      have H := H1
                                      clear H1
                                      by_cases c51 : t116 = true
                                      · subst c51
                                        have H1 : (some (-1)) = some r := by rw [if_pos rfl] at H; exact H
                                        clear H
                                        have H := H1
                                        clear H1
                                        obtain rfl := Option.some.inj H
                                        go_wp2
                                        go_ret
                                        exact ⟨by first | rfl | (simp [errW_none, errW_some] <;> rfl) | (simp [*, errW_none, errW_some] <;> rfl), by repeat (first | (with_reducible first | exact HB.out | apply below_alloc | apply pw_below_drewN | apply below_drew1 | refine below_set ?_ GE105.out | refine below_set ?_ GE106.out) | exact HB.out)⟩
                                      · replace c51 := Bool.eq_false_iff.mpr c51
                                        subst c51
                                        have H1 : (some 1) = some r := by rw [if_neg (show ¬ (false = true) by decide)] at H; exact H
                                        clear H
                                        have H := H1
                                        clear H1
                                        obtain rfl := Option.some.inj H
                                        go_wp2
                                        go_ret
                                        exact ⟨by first | rfl | (simp [errW_none, errW_some] <;> rfl) | (simp [*, errW_none, errW_some] <;> rfl), by repeat (first | (with_reducible first | exact HB.out | apply below_alloc | apply pw_below_drewN | apply below_drew1 | refine below_set ?_ GE105.out | refine below_set ?_ GE106.out) | exact HB.out)⟩
                      · replace c37 := Bool.eq_false_iff.mpr c37
                        subst c37
                        have H1 : (some (wrap64 ((x11_3.size : Int) - (x12_3.size : Int)))) = some r := by rw [if_neg (show ¬ (false = true) by decide)] at H; exact H
                        clear H
                        have H := H1
                        clear H1
                        obtain rfl := Option.some.inj H
                        go_wp2
                        go_ret
                        exact ⟨by first | rfl | (simp [errW_none, errW_some] <;> rfl) | (simp [*, errW_none, errW_some] <;> rfl), by repeat (first | (with_reducible first | exact HB.out | apply below_alloc | apply pw_below_drewN | apply below_drew1 | refine below_set ?_ GE105.out | refine below_set ?_ GE106.out) | exact HB.out)⟩

end Go.Proofs.YtmgepjnaalnckaaDoor.PFnCompareSemver
