-- Written by printx.py of this session, over the kit's print, with contracts of this session for some functions; cut down by cutways.py: of some ways nothing is told
import Derived.Test.YtmgepjnaalnckaaPJsStringx0
import Derived.Test.YtmgepjnaalnckaaPJsStringx1
import Derived.Test.YtmgepjnaalnckaaPJsStringx2
import Derived.Test.YtmgepjnaalnckaaPJsStringx3
import Derived.Test.YtmgepjnaalnckaaExtRest
namespace Go.Proofs.Ytmgepjnaalnckaa.PJsString
open Go.RowKit Go.Proofs.YtmgepjnaalnckaaW.PrintWords Go.Proofs.YtmgepjnaalnckaaW.PrintLast Go.Proofs.YtmgepjnaalnckaaW.PrintMore
attribute [local go_sem] max2_int min2_int max_two min_two max_three min_three max_four min_four   -- for this text's walks alone
set_option linter.unusedVariables false
set_option linter.unusedSimpArgs false

/-! ### spec_scan_pass: function 27 -/
mutual
def spec_scan_pass.j0 : Nat → Bool → ByteArray → Int → Bool → Bool → Int → Option (ByteArray × Int × Bool × Bool × Int)
  | 0, _, _, _, _, _, _ => none
  | k + 1, x13, x1000, x1001, x1002, x1003, x1004 => if x13 = true then (none) else (spec_scan_pass.j1 k x1000 x1001 x1002 x1003 x1004)
def spec_scan_pass.j1 : Nat → ByteArray → Int → Bool → Bool → Int → Option (ByteArray × Int × Bool × Bool × Int)
  | 0, _, _, _, _, _ => none
  | k + 1, x1000, x1001, x1002, x1003, x1004 => spec_scan_pass.l0 k (x1001 == 0) x1000 x1001 x1002 x1003 x1004
def spec_scan_pass.l0 : Nat → Bool → ByteArray → Int → Bool → Bool → Int → Option (ByteArray × Int × Bool × Bool × Int)
  | 0, _, _, _, _, _, _ => none
  | k + 1, x2, x1000, x1001, x1002, x1003, x1004 => if x1001 < (x1000.size : Int) then (spec_scan_pass.j3 k x2 (x1004 == 0) x1000 x1001 x1002 x1003 x1004) else (spec_scan_pass.j3 k x2 false x1000 x1001 x1002 x1003 x1004)
def spec_scan_pass.j3 : Nat → Bool → Bool → ByteArray → Int → Bool → Bool → Int → Option (ByteArray × Int × Bool × Bool × Int)
  | 0, _, _, _, _, _, _, _ => none
  | k + 1, x2, x37, x1000, x1001, x1002, x1003, x1004 => if x37 = true then ((spec_scan_rune.f k x1000 x1001 x1002 x1003 x1004).bind fun bt115 => (if bt115.2.1 = 0 then (none) else ((spec_LineEnd.f bt115.1).bind fun t127 => (if t127 = true then (none) else ((spec_Blank.f bt115.1).bind fun t128 => (if t128 = true then (none) else ((spec_scan_is.f bt115.2.2.1 bt115.2.2.2.1 bt115.2.2.2.2.1 bt115.2.2.2.2.2.1 bt115.2.2.2.2.2.2 (⟨#[47, 47]⟩ : ByteArray)).bind fun bt129 => (if bt129.1 = true then (none) else ((spec_scan_is.f bt129.2.1 bt129.2.2.1 bt129.2.2.2.1 bt129.2.2.2.2.1 bt129.2.2.2.2.2 (⟨#[47, 42]⟩ : ByteArray)).bind fun bt140 => (if bt140.1 = true then (none) else (if bt140.2.2.2.1 = true then (none) else (spec_scan_pass.j4 k x2 false bt140.2.1 bt140.2.2.1 bt140.2.2.2.1 bt140.2.2.2.2.1 bt140.2.2.2.2.2)))))))))))) else (some (x1000, x1001, x1002, x1003, x1004))
def spec_scan_pass.j4 : Nat → Bool → Bool → ByteArray → Int → Bool → Bool → Int → Option (ByteArray × Int × Bool × Bool × Int)
  | 0, _, _, _, _, _, _, _ => none
  | k + 1, x2, x83, x1000, x1001, x1002, x1003, x1004 => if x83 = true then (none) else (if x1002 = true then (none) else (spec_scan_pass.j5 k x2 false x1000 x1001 x1002 x1003 x1004))
def spec_scan_pass.j5 : Nat → Bool → Bool → ByteArray → Int → Bool → Bool → Int → Option (ByteArray × Int × Bool × Bool × Int)
  | 0, _, _, _, _, _, _, _ => none
  | k + 1, x2, x94, x1000, x1001, x1002, x1003, x1004 => if x94 = true then (none) else (if x1002 = true then (none) else (some (x1000, x1001, x1002, x1003, x1004)))
end
def spec_scan_pass.f (k : Nat) (s0_0 : ByteArray) (s0_1 : Int) (s0_2 : Bool) (s0_3 : Bool) (s0_4 : Int) : Option (ByteArray × Int × Bool × Bool × Int) := if s0_1 = 0 then ((spec_scan_is.f s0_0 s0_1 s0_2 s0_3 s0_4 (⟨#[35, 33]⟩ : ByteArray)).bind fun bt104 => (spec_scan_pass.j0 k bt104.1 bt104.2.1 bt104.2.2.1 bt104.2.2.2.1 bt104.2.2.2.2.1 bt104.2.2.2.2.2)) else (spec_scan_pass.j0 k false s0_0 s0_1 s0_2 s0_3 s0_4)
theorem spec_scan_pass.mono_l : ∀ k, (∀ y0 y1 y2 y3 y4 y5, LeO (spec_scan_pass.j0 k y0 y1 y2 y3 y4 y5) (spec_scan_pass.j0 (k + 1) y0 y1 y2 y3 y4 y5)) ∧ (∀ y0 y1 y2 y3 y4, LeO (spec_scan_pass.j1 k y0 y1 y2 y3 y4) (spec_scan_pass.j1 (k + 1) y0 y1 y2 y3 y4)) ∧ (∀ y0 y1 y2 y3 y4 y5, LeO (spec_scan_pass.l0 k y0 y1 y2 y3 y4 y5) (spec_scan_pass.l0 (k + 1) y0 y1 y2 y3 y4 y5)) ∧ (∀ y0 y1 y2 y3 y4 y5 y6, LeO (spec_scan_pass.j3 k y0 y1 y2 y3 y4 y5 y6) (spec_scan_pass.j3 (k + 1) y0 y1 y2 y3 y4 y5 y6)) ∧ (∀ y0 y1 y2 y3 y4 y5 y6, LeO (spec_scan_pass.j4 k y0 y1 y2 y3 y4 y5 y6) (spec_scan_pass.j4 (k + 1) y0 y1 y2 y3 y4 y5 y6)) ∧ (∀ y0 y1 y2 y3 y4 y5 y6, LeO (spec_scan_pass.j5 k y0 y1 y2 y3 y4 y5 y6) (spec_scan_pass.j5 (k + 1) y0 y1 y2 y3 y4 y5 y6))
  | 0 => ⟨fun _ _ _ _ _ _ r h => by simp [spec_scan_pass.j0] at h, fun _ _ _ _ _ r h => by simp [spec_scan_pass.j1] at h, fun _ _ _ _ _ _ r h => by simp [spec_scan_pass.l0] at h, fun _ _ _ _ _ _ _ r h => by simp [spec_scan_pass.j3] at h, fun _ _ _ _ _ _ _ r h => by simp [spec_scan_pass.j4] at h, fun _ _ _ _ _ _ _ r h => by simp [spec_scan_pass.j5] at h⟩
  | k + 1 => by
    obtain ⟨ih0, ih1, ih2, ih3, ih4, ih5⟩ := spec_scan_pass.mono_l k
    refine ⟨?_, ?_, ?_, ?_, ?_, ?_⟩
    · intro y0 y1 y2 y3 y4 y5
      unfold spec_scan_pass.j0
      repeat' first
      | (with_reducible exact ih0 _ _ _ _ _ _)
      | (with_reducible exact ih1 _ _ _ _ _)
      | (with_reducible exact ih2 _ _ _ _ _ _)
      | (with_reducible exact ih3 _ _ _ _ _ _ _)
      | (with_reducible exact ih4 _ _ _ _ _ _ _)
      | (with_reducible exact ih5 _ _ _ _ _ _ _)
      | (with_reducible exact spec_scan_rune.mono _ _ _ _ _ _)
      | (with_reducible exact LeO.refl _)
      | (with_reducible exact LeO.none _)
      | (with_reducible refine LeO.ite ?_ ?_)
      | (with_reducible refine LeO.bind ?_ (fun _ => ?_))
      | exact ih0 _ _ _ _ _ _
      | exact ih1 _ _ _ _ _
      | exact ih2 _ _ _ _ _ _
      | exact ih3 _ _ _ _ _ _ _
      | exact ih4 _ _ _ _ _ _ _
      | exact ih5 _ _ _ _ _ _ _
      | exact spec_scan_rune.mono _ _ _ _ _ _
      | exact LeO.none _
      | refine LeO.ite ?_ ?_
      | refine LeO.bind ?_ (fun _ => ?_)
    · intro y0 y1 y2 y3 y4
      unfold spec_scan_pass.j1
      repeat' first
      | (with_reducible exact ih0 _ _ _ _ _ _)
      | (with_reducible exact ih1 _ _ _ _ _)
      | (with_reducible exact ih2 _ _ _ _ _ _)
      | (with_reducible exact ih3 _ _ _ _ _ _ _)
      | (with_reducible exact ih4 _ _ _ _ _ _ _)
      | (with_reducible exact ih5 _ _ _ _ _ _ _)
      | (with_reducible exact spec_scan_rune.mono _ _ _ _ _ _)
      | (with_reducible exact LeO.refl _)
      | (with_reducible exact LeO.none _)
      | (with_reducible refine LeO.ite ?_ ?_)
      | (with_reducible refine LeO.bind ?_ (fun _ => ?_))
      | exact ih0 _ _ _ _ _ _
      | exact ih1 _ _ _ _ _
      | exact ih2 _ _ _ _ _ _
      | exact ih3 _ _ _ _ _ _ _
      | exact ih4 _ _ _ _ _ _ _
      | exact ih5 _ _ _ _ _ _ _
      | exact spec_scan_rune.mono _ _ _ _ _ _
      | exact LeO.none _
      | refine LeO.ite ?_ ?_
      | refine LeO.bind ?_ (fun _ => ?_)
    · intro y0 y1 y2 y3 y4 y5
      unfold spec_scan_pass.l0
      repeat' first
      | (with_reducible exact ih0 _ _ _ _ _ _)
      | (with_reducible exact ih1 _ _ _ _ _)
      | (with_reducible exact ih2 _ _ _ _ _ _)
      | (with_reducible exact ih3 _ _ _ _ _ _ _)
      | (with_reducible exact ih4 _ _ _ _ _ _ _)
      | (with_reducible exact ih5 _ _ _ _ _ _ _)
      | (with_reducible exact spec_scan_rune.mono _ _ _ _ _ _)
      | (with_reducible exact LeO.refl _)
      | (with_reducible exact LeO.none _)
      | (with_reducible refine LeO.ite ?_ ?_)
      | (with_reducible refine LeO.bind ?_ (fun _ => ?_))
      | exact ih0 _ _ _ _ _ _
      | exact ih1 _ _ _ _ _
      | exact ih2 _ _ _ _ _ _
      | exact ih3 _ _ _ _ _ _ _
      | exact ih4 _ _ _ _ _ _ _
      | exact ih5 _ _ _ _ _ _ _
      | exact spec_scan_rune.mono _ _ _ _ _ _
      | exact LeO.none _
      | refine LeO.ite ?_ ?_
      | refine LeO.bind ?_ (fun _ => ?_)
    · intro y0 y1 y2 y3 y4 y5 y6
      unfold spec_scan_pass.j3
      repeat' first
      | (with_reducible exact ih0 _ _ _ _ _ _)
      | (with_reducible exact ih1 _ _ _ _ _)
      | (with_reducible exact ih2 _ _ _ _ _ _)
      | (with_reducible exact ih3 _ _ _ _ _ _ _)
      | (with_reducible exact ih4 _ _ _ _ _ _ _)
      | (with_reducible exact ih5 _ _ _ _ _ _ _)
      | (with_reducible exact spec_scan_rune.mono _ _ _ _ _ _)
      | (with_reducible exact LeO.refl _)
      | (with_reducible exact LeO.none _)
      | (with_reducible refine LeO.ite ?_ ?_)
      | (with_reducible refine LeO.bind ?_ (fun _ => ?_))
      | exact ih0 _ _ _ _ _ _
      | exact ih1 _ _ _ _ _
      | exact ih2 _ _ _ _ _ _
      | exact ih3 _ _ _ _ _ _ _
      | exact ih4 _ _ _ _ _ _ _
      | exact ih5 _ _ _ _ _ _ _
      | exact spec_scan_rune.mono _ _ _ _ _ _
      | exact LeO.none _
      | refine LeO.ite ?_ ?_
      | refine LeO.bind ?_ (fun _ => ?_)
    · intro y0 y1 y2 y3 y4 y5 y6
      unfold spec_scan_pass.j4
      repeat' first
      | (with_reducible exact ih0 _ _ _ _ _ _)
      | (with_reducible exact ih1 _ _ _ _ _)
      | (with_reducible exact ih2 _ _ _ _ _ _)
      | (with_reducible exact ih3 _ _ _ _ _ _ _)
      | (with_reducible exact ih4 _ _ _ _ _ _ _)
      | (with_reducible exact ih5 _ _ _ _ _ _ _)
      | (with_reducible exact spec_scan_rune.mono _ _ _ _ _ _)
      | (with_reducible exact LeO.refl _)
      | (with_reducible exact LeO.none _)
      | (with_reducible refine LeO.ite ?_ ?_)
      | (with_reducible refine LeO.bind ?_ (fun _ => ?_))
      | exact ih0 _ _ _ _ _ _
      | exact ih1 _ _ _ _ _
      | exact ih2 _ _ _ _ _ _
      | exact ih3 _ _ _ _ _ _ _
      | exact ih4 _ _ _ _ _ _ _
      | exact ih5 _ _ _ _ _ _ _
      | exact spec_scan_rune.mono _ _ _ _ _ _
      | exact LeO.none _
      | refine LeO.ite ?_ ?_
      | refine LeO.bind ?_ (fun _ => ?_)
    · intro y0 y1 y2 y3 y4 y5 y6
      unfold spec_scan_pass.j5
      repeat' first
      | (with_reducible exact ih0 _ _ _ _ _ _)
      | (with_reducible exact ih1 _ _ _ _ _)
      | (with_reducible exact ih2 _ _ _ _ _ _)
      | (with_reducible exact ih3 _ _ _ _ _ _ _)
      | (with_reducible exact ih4 _ _ _ _ _ _ _)
      | (with_reducible exact ih5 _ _ _ _ _ _ _)
      | (with_reducible exact spec_scan_rune.mono _ _ _ _ _ _)
      | (with_reducible exact LeO.refl _)
      | (with_reducible exact LeO.none _)
      | (with_reducible refine LeO.ite ?_ ?_)
      | (with_reducible refine LeO.bind ?_ (fun _ => ?_))
      | exact ih0 _ _ _ _ _ _
      | exact ih1 _ _ _ _ _
      | exact ih2 _ _ _ _ _ _
      | exact ih3 _ _ _ _ _ _ _
      | exact ih4 _ _ _ _ _ _ _
      | exact ih5 _ _ _ _ _ _ _
      | exact spec_scan_rune.mono _ _ _ _ _ _
      | exact LeO.none _
      | refine LeO.ite ?_ ?_
      | refine LeO.bind ?_ (fun _ => ?_)
theorem spec_scan_pass.mono : ∀ a0 a1 a2 a3 a4 k, LeO (spec_scan_pass.f k a0 a1 a2 a3 a4) (spec_scan_pass.f (k + 1) a0 a1 a2 a3 a4) := by
  intro a0 a1 a2 a3 a4 k
  obtain ⟨ih0, ih1, ih2, ih3, ih4, ih5⟩ := spec_scan_pass.mono_l k
  unfold spec_scan_pass.f
  repeat' first
      | (with_reducible exact ih0 _ _ _ _ _ _)
      | (with_reducible exact ih1 _ _ _ _ _)
      | (with_reducible exact ih2 _ _ _ _ _ _)
      | (with_reducible exact ih3 _ _ _ _ _ _ _)
      | (with_reducible exact ih4 _ _ _ _ _ _ _)
      | (with_reducible exact ih5 _ _ _ _ _ _ _)
      | (with_reducible exact spec_scan_rune.mono _ _ _ _ _ _)
      | (with_reducible exact LeO.refl _)
      | (with_reducible exact LeO.none _)
      | (with_reducible refine LeO.ite ?_ ?_)
      | (with_reducible refine LeO.bind ?_ (fun _ => ?_))
      | exact ih0 _ _ _ _ _ _
      | exact ih1 _ _ _ _ _
      | exact ih2 _ _ _ _ _ _
      | exact ih3 _ _ _ _ _ _ _
      | exact ih4 _ _ _ _ _ _ _
      | exact ih5 _ _ _ _ _ _ _
      | exact spec_scan_rune.mono _ _ _ _ _ _
      | exact LeO.none _
      | refine LeO.ite ?_ ?_
      | refine LeO.bind ?_ (fun _ => ?_)
set_option maxHeartbeats 8000000 in
set_option maxRecDepth 100000 in
theorem spec_scan_pass.calls (k : Nat) (g : Nat) (s0_0 : ByteArray) (s0_1 : Int) (s0_2 : Bool) (s0_3 : Bool) (s0_4 : Int) (r1 : ByteArray) (r2 : Int) (r3 : Bool) (r4 : Bool) (r5 : Int) (w0 w : World) (hI : IsS61 w0 w g s0_0 s0_1 s0_2 s0_3 s0_4) (hB : Below w0.heap.size w0 w) (h : spec_scan_pass.f k s0_0 s0_1 s0_2 s0_3 s0_4 = some (r1, r2, r3, r4, r5)) :
    Calls Try.prog 27 #[.pointer (some ⟨g, 0, none⟩)] w fun e w' => e = .returned (.tuple #[]) ∧ IsS61 w0 w' g r1 r2 r3 r4 r5 ∧ Below w0.heap.size w0 w' ∧ KeepBut w w' g none := by
  have HI0 := Aside0.mk hI
  have HK := Aside0.mk (KeepBut.refl w g none)
  have HL := Aside0.mk hB.size
  clear hI
  have HW0 := Aside0.mk hB.size
  have HB := Aside0.mk hB
  clear hB
  have H : (if s0_1 = 0 then ((spec_scan_is.f s0_0 s0_1 s0_2 s0_3 s0_4 (⟨#[35, 33]⟩ : ByteArray)).bind fun bt104 => (spec_scan_pass.j0 k bt104.1 bt104.2.1 bt104.2.2.1 bt104.2.2.2.1 bt104.2.2.2.2.1 bt104.2.2.2.2.2)) else (spec_scan_pass.j0 k false s0_0 s0_1 s0_2 s0_3 s0_4)) = some (r1, r2, r3, r4, r5) := h
  clear h
  have HC2 := Aside0.mk H
  clear H
  go_enter Try.func27, Try.ntmps27
  go_upto_region 0 with (fail)
  repeat (go_quiet (fail); go_upto_region 0 with (fail))
  go_cut [13] (fun v13 wc => ∃ (kq : Nat) (x13_1 : Bool) (x1000_1 : ByteArray) (x1001_1 : Int) (x1002_1 : Bool) (x1003_1 : Bool) (x1004_1 : Int), v13 = .bool x13_1 ∧ Aside0 (spec_scan_pass.j0 kq x13_1 x1000_1 x1001_1 x1002_1 x1003_1 x1004_1 = some (r1, r2, r3, r4, r5)) ∧ Aside0 (kq ≤ k) ∧ Aside0 (IsS61 w0 wc g x1000_1 x1001_1 x1002_1 x1003_1 x1004_1) ∧ Aside0 (KeepBut w wc g none) ∧ Aside0 (Below w0.heap.size w0 wc))
  case first =>
    have H := HC2.out
    clear HC2
    by_cases c3 : s0_1 = 0
    · rw [if_pos c3] at H
      have c3b0 : (s0_1 == 0) = true := beq_iff_eq.mpr c3
      have c3b1 : (s0_1 != 0) = false := bne_eq_false_iff_eq.mpr c3
      clear c3
      (first | rw [c3b0] | (simp only [i64_w, i32_w]; rw [c3b0]) | skip)
      replace H := Option.bind_eq_some_iff.mp H
      obtain ⟨⟨t104, t105, t106, t107, t108, t109⟩, A40, H⟩ := H
      replace H : (spec_scan_pass.j0 k t104 t105 t106 t107 t108 t109) = some (r1, r2, r3, r4, r5) := H
      have A4 := Aside0.mk A40
      clear A40
      have H' := Aside0.mk H
      clear H
      obtain ⟨HGz5, hgz5⟩ := HI0.out
      have hcz5_0 := cellS61_0 HGz5
      have hcz5_1 := cellS61_1 HGz5
      have hcz5_2 := cellS61_2 HGz5
      have hcz5_3 := cellS61_3 HGz5
      have hcz5_4 := cellS61_4 HGz5
      have hfz5_0 := blk_frozen HGz5 0
      have hfz5_1 := blk_frozen HGz5 1
      have hfz5_2 := blk_frozen HGz5 2
      have hfz5_3 := blk_frozen HGz5 3
      have hfz5_4 := blk_frozen HGz5 4
      clear HGz5 hgz5
      go_wp2_with (first | (go_at_call 38; (with_reducible refine (spec_scan_is.calls g s0_0 s0_1 s0_2 s0_3 s0_4 (⟨#[35, 33]⟩ : ByteArray) t104 t105 t106 t107 t108 t109 w0 _ ?side1 ?side2 A4.out).mono ?_); (case side1 => repeat (first | (with_reducible first | exact HI0.out | apply IsS61.alloc | apply IsS61.drewN | apply IsS61.drew | apply IsS61.set_0 | apply IsS61.set_1 | apply IsS61.set_2 | apply IsS61.set_3 | apply IsS61.set_4) | exact HI0.out)); (case side2 => repeat (first | (with_reducible first | exact HB.out | apply below_alloc | apply pw_below_drewN | apply below_drew1 | refine below_set ?_ (IsS61.ge HI0.out)) | exact HB.out)); rintro e w6 ⟨rfl, hi, hb, hk⟩; have n0_ := Aside0.mk (KeepBut.trans (by repeat (first | (with_reducible first | exact HK.out | apply KeepBut.set_ | apply keep_drewN | apply keep_drew | apply keep_alloc) | exact HK.out)) hk (.inl rfl)); have n1_ := Aside0.mk (hb); have n2_ := Aside0.mk (hi); clear HK; clear HB; clear HI0; have HK := n0_; have HB := n1_; have HI0 := n2_; clear n0_ n1_ n2_; (try clear hb); (try clear hb2); (try clear hk); (try clear hi)))
      repeat (go_quiet (first | (go_at_call 38; (with_reducible refine (spec_scan_is.calls g s0_0 s0_1 s0_2 s0_3 s0_4 (⟨#[35, 33]⟩ : ByteArray) t104 t105 t106 t107 t108 t109 w0 _ ?side1 ?side2 A4.out).mono ?_); (case side1 => repeat (first | (with_reducible first | exact HI0.out | apply IsS61.alloc | apply IsS61.drewN | apply IsS61.drew | apply IsS61.set_0 | apply IsS61.set_1 | apply IsS61.set_2 | apply IsS61.set_3 | apply IsS61.set_4) | exact HI0.out)); (case side2 => repeat (first | (with_reducible first | exact HB.out | apply below_alloc | apply pw_below_drewN | apply below_drew1 | refine below_set ?_ (IsS61.ge HI0.out)) | exact HB.out)); rintro e w6 ⟨rfl, hi, hb, hk⟩; have n0_ := Aside0.mk (KeepBut.trans (by repeat (first | (with_reducible first | exact HK.out | apply KeepBut.set_ | apply keep_drewN | apply keep_drew | apply keep_alloc) | exact HK.out)) hk (.inl rfl)); have n1_ := Aside0.mk (hb); have n2_ := Aside0.mk (hi); clear HK; clear HB; clear HI0; have HK := n0_; have HB := n1_; have HI0 := n2_; clear n0_ n1_ n2_; (try clear hb); (try clear hb2); (try clear hk); (try clear hi))); try go_wp2_with (first | (go_at_call 38; (with_reducible refine (spec_scan_is.calls g s0_0 s0_1 s0_2 s0_3 s0_4 (⟨#[35, 33]⟩ : ByteArray) t104 t105 t106 t107 t108 t109 w0 _ ?side1 ?side2 A4.out).mono ?_); (case side1 => repeat (first | (with_reducible first | exact HI0.out | apply IsS61.alloc | apply IsS61.drewN | apply IsS61.drew | apply IsS61.set_0 | apply IsS61.set_1 | apply IsS61.set_2 | apply IsS61.set_3 | apply IsS61.set_4) | exact HI0.out)); (case side2 => repeat (first | (with_reducible first | exact HB.out | apply below_alloc | apply pw_below_drewN | apply below_drew1 | refine below_set ?_ (IsS61.ge HI0.out)) | exact HB.out)); rintro e w6 ⟨rfl, hi, hb, hk⟩; have n0_ := Aside0.mk (KeepBut.trans (by repeat (first | (with_reducible first | exact HK.out | apply KeepBut.set_ | apply keep_drewN | apply keep_drew | apply keep_alloc) | exact HK.out)) hk (.inl rfl)); have n1_ := Aside0.mk (hb); have n2_ := Aside0.mk (hi); clear HK; clear HB; clear HI0; have HK := n0_; have HB := n1_; have HI0 := n2_; clear n0_ n1_ n2_; (try clear hb); (try clear hb2); (try clear hk); (try clear hi))))
      go_meet
      case rel => exact ⟨_, (t104), (t105), (t106), (t107), (t108), (t109), (by first | rfl | (simp; done) | (simp [*]; done)), H', ⟨by first | omega | exact Nat.le_refl _⟩, ⟨by repeat (first | (with_reducible first | exact HI0.out | apply IsS61.alloc | apply IsS61.drewN | apply IsS61.drew | apply IsS61.set_0 | apply IsS61.set_1 | apply IsS61.set_2 | apply IsS61.set_3 | apply IsS61.set_4) | exact HI0.out)⟩, ⟨by repeat (first | (with_reducible first | exact HK.out | apply KeepBut.set_ | apply keep_drewN | apply keep_drew | apply keep_alloc) | exact HK.out)⟩, ⟨by repeat (first | (with_reducible first | exact HB.out | apply below_alloc | apply pw_below_drewN | apply below_drew1 | refine below_set ?_ (IsS61.ge HI0.out)) | exact HB.out)⟩⟩
    · rw [if_neg c3] at H
      have c3b0 : (s0_1 == 0) = false := beq_eq_false_iff_ne.mpr c3
      have c3b1 : (s0_1 != 0) = true := bne_iff_ne.mpr c3
      (first | rw [c3b0] | (simp only [i64_w, i32_w]; rw [c3b0]) | skip)
      have H' := Aside0.mk H
      clear H
      obtain ⟨HGz7, hgz7⟩ := HI0.out
      have hcz7_0 := cellS61_0 HGz7
      have hcz7_1 := cellS61_1 HGz7
      have hcz7_2 := cellS61_2 HGz7
      have hcz7_3 := cellS61_3 HGz7
      have hcz7_4 := cellS61_4 HGz7
      have hfz7_0 := blk_frozen HGz7 0
      have hfz7_1 := blk_frozen HGz7 1
      have hfz7_2 := blk_frozen HGz7 2
      have hfz7_3 := blk_frozen HGz7 3
      have hfz7_4 := blk_frozen HGz7 4
      clear HGz7 hgz7
      go_wp2
      repeat (go_quiet (fail); try go_wp2)
      go_meet
      case rel => exact ⟨_, (false), (s0_0), (s0_1), (s0_2), (s0_3), (s0_4), (by first | rfl | (simp; done) | (simp [*]; done)), H', ⟨by first | omega | exact Nat.le_refl _⟩, ⟨by repeat (first | (with_reducible first | exact HI0.out | apply IsS61.alloc | apply IsS61.drewN | apply IsS61.drew | apply IsS61.set_0 | apply IsS61.set_1 | apply IsS61.set_2 | apply IsS61.set_3 | apply IsS61.set_4) | exact HI0.out)⟩, ⟨by repeat (first | (with_reducible first | exact HK.out | apply KeepBut.set_ | apply keep_drewN | apply keep_drew | apply keep_alloc) | exact HK.out)⟩, ⟨by repeat (first | (with_reducible first | exact HB.out | apply below_alloc | apply pw_below_drewN | apply below_drew1 | refine below_set ?_ (IsS61.ge HI0.out)) | exact HB.out)⟩⟩
  case rest =>
    clear HC2
    try clear c2
    try clear p2
    try clear c3
    try clear c3b0
    try clear c3b1
    try clear hcz5_0
    try clear hcz5_1
    try clear hcz5_2
    try clear hcz5_3
    try clear hcz5_4
    try clear hcz7_0
    try clear hcz7_1
    try clear hcz7_2
    try clear hcz7_3
    try clear hcz7_4
    try clear hfz5_0
    try clear hfz5_1
    try clear hfz5_2
    try clear hfz5_3
    try clear hfz5_4
    try clear hfz7_0
    try clear hfz7_1
    try clear hfz7_2
    try clear hfz7_3
    try clear hfz7_4
    obtain ⟨kq, x13_1, x1000_1, x1001_1, x1002_1, x1003_1, x1004_1, rfl, HA, HJ1, HI0, HK, HB⟩ := hcut
    cases kq with
    | zero => exact absurd HA.out (by simp [spec_scan_pass.j0])
    | succ kj1 =>
      have H := HA.out
      clear HA
      simp only [spec_scan_pass.j0] at H
      have HC8 := Aside0.mk H
      clear H
      go_upto_if 13 with (fail)
      repeat (go_quiet (fail); go_upto_if 13 with (fail))
      go_cut [] (fun wc => ∃ (kq : Nat) (x1000_7 : ByteArray) (x1001_7 : Int) (x1002_7 : Bool) (x1003_7 : Bool) (x1004_7 : Int), Aside0 (spec_scan_pass.j1 kq x1000_7 x1001_7 x1002_7 x1003_7 x1004_7 = some (r1, r2, r3, r4, r5)) ∧ Aside0 (kq ≤ kj1) ∧ Aside0 (IsS61 w0 wc g x1000_7 x1001_7 x1002_7 x1003_7 x1004_7) ∧ Aside0 (KeepBut w wc g none) ∧ Aside0 (Below w0.heap.size w0 wc))
      case first =>
        have H := HC8.out
        clear HC8
        by_cases c9 : x13_1 = true
        · exact absurd ((if_pos c9).symm.trans H) (by simp)
        · replace c9 := Bool.eq_false_iff.mpr c9
          subst c9
          have H1 : (spec_scan_pass.j1 kj1 x1000_1 x1001_1 x1002_1 x1003_1 x1004_1) = some (r1, r2, r3, r4, r5) := by rw [if_neg (show ¬ (false = true) by decide)] at H; exact H
          clear H
          have H := H1
          clear H1
          have H' := Aside0.mk H
          clear H
          go_wp2
          repeat (go_quiet (fail); try go_wp2)
          go_meet
          case rel => exact ⟨_, (x1000_1), (x1001_1), (x1002_1), (x1003_1), (x1004_1), H', ⟨by have := HJ1.out; first | omega | exact Nat.le_refl _⟩, ⟨by repeat (first | (with_reducible first | exact HI0.out | apply IsS61.alloc | apply IsS61.drewN | apply IsS61.drew | apply IsS61.set_0 | apply IsS61.set_1 | apply IsS61.set_2 | apply IsS61.set_3 | apply IsS61.set_4) | exact HI0.out)⟩, ⟨by repeat (first | (with_reducible first | exact HK.out | apply KeepBut.set_ | apply keep_drewN | apply keep_drew | apply keep_alloc) | exact HK.out)⟩, ⟨by repeat (first | (with_reducible first | exact HB.out | apply below_alloc | apply pw_below_drewN | apply below_drew1 | refine below_set ?_ (IsS61.ge HI0.out)) | exact HB.out)⟩⟩
      case rest =>
        clear HC8
        try clear c2
        try clear p2
        try clear c3
        try clear c3b0
        try clear c3b1
        try clear c9
        try clear hcz5_0
        try clear hcz5_1
        try clear hcz5_2
        try clear hcz5_3
        try clear hcz5_4
        try clear hcz7_0
        try clear hcz7_1
        try clear hcz7_2
        try clear hcz7_3
        try clear hcz7_4
        try clear hfz5_0
        try clear hfz5_1
        try clear hfz5_2
        try clear hfz5_3
        try clear hfz5_4
        try clear hfz7_0
        try clear hfz7_1
        try clear hfz7_2
        try clear hfz7_3
        try clear hfz7_4
        try clear p2
        obtain ⟨kq, x1000_7, x1001_7, x1002_7, x1003_7, x1004_7, HA, HJ7, HI0, HK, HB⟩ := hcut
        cases kq with
        | zero => exact absurd HA.out (by simp [spec_scan_pass.j1])
        | succ kj7 =>
          have H := HA.out
          clear HA
          simp only [spec_scan_pass.j1] at H
          have H' := Aside0.mk H
          clear H
          obtain ⟨HGz12, hgz12⟩ := HI0.out
          have hcz12_0 := cellS61_0 HGz12
          have hcz12_1 := cellS61_1 HGz12
          have hcz12_2 := cellS61_2 HGz12
          have hcz12_3 := cellS61_3 HGz12
          have hcz12_4 := cellS61_4 HGz12
          have hfz12_0 := blk_frozen HGz12 0
          have hfz12_1 := blk_frozen HGz12 1
          have hfz12_2 := blk_frozen HGz12 2
          have hfz12_3 := blk_frozen HGz12 3
          have hfz12_4 := blk_frozen HGz12 4
          clear HGz12 hgz12
          go_wp2
          repeat (go_quiet (fail); try go_wp2)
          go_loopg [] kj7 (fun kq w' => ∃ (x1000_3 : ByteArray) (x1001_3 : Int) (x1002_3 : Bool) (x1003_3 : Bool) (x1004_3 : Int), Aside0 (spec_scan_pass.l0 kq (x1001_7 == 0) x1000_3 x1001_3 x1002_3 x1003_3 x1004_3 = some (r1, r2, r3, r4, r5)) ∧ Aside0 (kq ≤ kj7) ∧ Aside0 (IsS61 w0 w' g x1000_3 x1001_3 x1002_3 x1003_3 x1004_3) ∧ Aside0 (KeepBut w w' g none) ∧ Aside0 (Below w0.heap.size w0 w'))
          case atStart => exact ⟨(x1000_7), (x1001_7), (x1002_7), (x1003_7), (x1004_7), H', ⟨Nat.le_refl _⟩, ⟨by repeat (first | (with_reducible first | exact HI0.out | apply IsS61.alloc | apply IsS61.drewN | apply IsS61.drew | apply IsS61.set_0 | apply IsS61.set_1 | apply IsS61.set_2 | apply IsS61.set_3 | apply IsS61.set_4) | exact HI0.out)⟩, ⟨by repeat (first | (with_reducible first | exact HK.out | apply KeepBut.set_ | apply keep_drewN | apply keep_drew | apply keep_alloc) | exact HK.out)⟩, ⟨by repeat (first | (with_reducible first | exact HB.out | apply below_alloc | apply pw_below_drewN | apply below_drew1 | refine below_set ?_ (IsS61.ge HI0.out)) | exact HB.out)⟩⟩
          case round =>
            clear H'
            try clear c2
            try clear p2
            try clear c3
            try clear c3b0
            try clear c3b1
            try clear c9
            try clear hcz12_0
            try clear hcz12_1
            try clear hcz12_2
            try clear hcz12_3
            try clear hcz12_4
            try clear hcz5_0
            try clear hcz5_1
            try clear hcz5_2
            try clear hcz5_3
            try clear hcz5_4
            try clear hcz7_0
            try clear hcz7_1
            try clear hcz7_2
            try clear hcz7_3
            try clear hcz7_4
            try clear hfz12_0
            try clear hfz12_1
            try clear hfz12_2
            try clear hfz12_3
            try clear hfz12_4
            try clear hfz5_0
            try clear hfz5_1
            try clear hfz5_2
            try clear hfz5_3
            try clear hfz5_4
            try clear hfz7_0
            try clear hfz7_1
            try clear hfz7_2
            try clear hfz7_3
            try clear hfz7_4
            try clear p2
            obtain ⟨x1000_3, x1001_3, x1002_3, x1003_3, x1004_3, HA, HK3, HI0, HK, HB⟩ := hrel
            cases gk with
            | zero => exact absurd HA.out (by simp [spec_scan_pass.l0])
            | succ k3 =>
              have H := HA.out
              clear HA
              simp only [spec_scan_pass.l0] at H
              have HC13 := Aside0.mk H
              clear H
              go_upto_region 3 with (fail)
              repeat (go_quiet (fail); go_upto_region 3 with (fail))
              go_cut [37] (fun v37 wc => ∃ (kq : Nat) (x37_12 : Bool), v37 = .bool x37_12 ∧ Aside0 (spec_scan_pass.j3 kq (x1001_7 == 0) x37_12 x1000_3 x1001_3 x1002_3 x1003_3 x1004_3 = some (r1, r2, r3, r4, r5)) ∧ Aside0 (kq ≤ k3) ∧ Aside0 (IsS61 w0 wc g x1000_3 x1001_3 x1002_3 x1003_3 x1004_3) ∧ Aside0 (KeepBut w wc g none) ∧ Aside0 (Below w0.heap.size w0 wc))
              case first =>
                have H := HC13.out
                clear HC13
                by_cases c14 : x1001_3 < (x1000_3.size : Int)
                · rw [if_pos c14] at H
                  have c14b0 : decide (x1001_3 < (x1000_3.size : Int)) = true := decide_eq_true c14
                  clear c14
                  (first | rw [c14b0] | (simp only [i64_w, i32_w]; rw [c14b0]) | skip)
                  have H' := Aside0.mk H
                  clear H
                  obtain ⟨HGz15, hgz15⟩ := HI0.out
                  have hcz15_0 := cellS61_0 HGz15
                  have hcz15_1 := cellS61_1 HGz15
                  have hcz15_2 := cellS61_2 HGz15
                  have hcz15_3 := cellS61_3 HGz15
                  have hcz15_4 := cellS61_4 HGz15
                  have hfz15_0 := blk_frozen HGz15 0
                  have hfz15_1 := blk_frozen HGz15 1
                  have hfz15_2 := blk_frozen HGz15 2
                  have hfz15_3 := blk_frozen HGz15 3
                  have hfz15_4 := blk_frozen HGz15 4
                  clear HGz15 hgz15
                  go_wp2
                  repeat (go_quiet (fail); try go_wp2)
                  go_meet
                  case rel => exact ⟨_, ((x1004_3 == 0)), (by first | rfl | (simp; done) | (simp [*]; done)), H', ⟨by have := HJ1.out; have := HJ7.out; have := HK3.out; first | omega | exact Nat.le_refl _⟩, ⟨by repeat (first | (with_reducible first | exact HI0.out | apply IsS61.alloc | apply IsS61.drewN | apply IsS61.drew | apply IsS61.set_0 | apply IsS61.set_1 | apply IsS61.set_2 | apply IsS61.set_3 | apply IsS61.set_4) | exact HI0.out)⟩, ⟨by repeat (first | (with_reducible first | exact HK.out | apply KeepBut.set_ | apply keep_drewN | apply keep_drew | apply keep_alloc) | exact HK.out)⟩, ⟨by repeat (first | (with_reducible first | exact HB.out | apply below_alloc | apply pw_below_drewN | apply below_drew1 | refine below_set ?_ (IsS61.ge HI0.out)) | exact HB.out)⟩⟩
                · rw [if_neg c14] at H
                  have c14b0 : decide (x1001_3 < (x1000_3.size : Int)) = false := decide_eq_false c14
                  clear c14
                  (first | rw [c14b0] | (simp only [i64_w, i32_w]; rw [c14b0]) | skip)
                  have H' := Aside0.mk H
                  clear H
                  obtain ⟨HGz16, hgz16⟩ := HI0.out
                  have hcz16_0 := cellS61_0 HGz16
                  have hcz16_1 := cellS61_1 HGz16
                  have hcz16_2 := cellS61_2 HGz16
                  have hcz16_3 := cellS61_3 HGz16
                  have hcz16_4 := cellS61_4 HGz16
                  have hfz16_0 := blk_frozen HGz16 0
                  have hfz16_1 := blk_frozen HGz16 1
                  have hfz16_2 := blk_frozen HGz16 2
                  have hfz16_3 := blk_frozen HGz16 3
                  have hfz16_4 := blk_frozen HGz16 4
                  clear HGz16 hgz16
                  go_wp2
                  repeat (go_quiet (fail); try go_wp2)
                  go_meet
                  case rel => exact ⟨_, (false), (by first | rfl | (simp; done) | (simp [*]; done)), H', ⟨by have := HJ1.out; have := HJ7.out; have := HK3.out; first | omega | exact Nat.le_refl _⟩, ⟨by repeat (first | (with_reducible first | exact HI0.out | apply IsS61.alloc | apply IsS61.drewN | apply IsS61.drew | apply IsS61.set_0 | apply IsS61.set_1 | apply IsS61.set_2 | apply IsS61.set_3 | apply IsS61.set_4) | exact HI0.out)⟩, ⟨by repeat (first | (with_reducible first | exact HK.out | apply KeepBut.set_ | apply keep_drewN | apply keep_drew | apply keep_alloc) | exact HK.out)⟩, ⟨by repeat (first | (with_reducible first | exact HB.out | apply below_alloc | apply pw_below_drewN | apply below_drew1 | refine below_set ?_ (IsS61.ge HI0.out)) | exact HB.out)⟩⟩
              case rest =>
                clear HC13
                try clear c1
                try clear c2
                try clear p2
                try clear c3
                try clear c3b0
                try clear c3b1
                try clear c9
                try clear c14
                try clear c14b0
                try clear hcz12_0
                try clear hcz12_1
                try clear hcz12_2
                try clear hcz12_3
                try clear hcz12_4
                try clear hcz15_0
                try clear hcz15_1
                try clear hcz15_2
                try clear hcz15_3
                try clear hcz15_4
                try clear hcz16_0
                try clear hcz16_1
                try clear hcz16_2
                try clear hcz16_3
                try clear hcz16_4
                try clear hcz5_0
                try clear hcz5_1
                try clear hcz5_2
                try clear hcz5_3
                try clear hcz5_4
                try clear hcz7_0
                try clear hcz7_1
                try clear hcz7_2
                try clear hcz7_3
                try clear hcz7_4
                try clear hfz12_0
                try clear hfz12_1
                try clear hfz12_2
                try clear hfz12_3
                try clear hfz12_4
                try clear hfz15_0
                try clear hfz15_1
                try clear hfz15_2
                try clear hfz15_3
                try clear hfz15_4
                try clear hfz16_0
                try clear hfz16_1
                try clear hfz16_2
                try clear hfz16_3
                try clear hfz16_4
                try clear hfz5_0
                try clear hfz5_1
                try clear hfz5_2
                try clear hfz5_3
                try clear hfz5_4
                try clear hfz7_0
                try clear hfz7_1
                try clear hfz7_2
                try clear hfz7_3
                try clear hfz7_4
                try clear p2
                obtain ⟨kq, x37_12, rfl, HA, HJ12, HI0, HK, HB⟩ := hcut
                cases kq with
                | zero => exact absurd HA.out (by simp [spec_scan_pass.j3])
                | succ kj12 =>
                  have H := HA.out
                  clear HA
                  simp only [spec_scan_pass.j3] at H
                  by_cases c17 : x37_12 = true
                  · subst c17
                    have H1 : ((spec_scan_rune.f kj12 x1000_3 x1001_3 x1002_3 x1003_3 x1004_3).bind fun bt115 => (if bt115.2.1 = 0 then (none) else ((spec_LineEnd.f bt115.1).bind fun t127 => (if t127 = true then (none) else ((spec_Blank.f bt115.1).bind fun t128 => (if t128 = true then (none) else ((spec_scan_is.f bt115.2.2.1 bt115.2.2.2.1 bt115.2.2.2.2.1 bt115.2.2.2.2.2.1 bt115.2.2.2.2.2.2 (⟨#[47, 47]⟩ : ByteArray)).bind fun bt129 => (if bt129.1 = true then (none) else ((spec_scan_is.f bt129.2.1 bt129.2.2.1 bt129.2.2.2.1 bt129.2.2.2.2.1 bt129.2.2.2.2.2 (⟨#[47, 42]⟩ : ByteArray)).bind fun bt140 => (if bt140.1 = true then (none) else (if bt140.2.2.2.1 = true then (none) else (spec_scan_pass.j4 kj12 (x1001_7 == 0) false bt140.2.1 bt140.2.2.1 bt140.2.2.2.1 bt140.2.2.2.2.1 bt140.2.2.2.2.2)))))))))))) = some (r1, r2, r3, r4, r5) := by rw [if_pos rfl] at H; exact H
                    clear H
                    have H := H1
                    clear H1
                    replace H := Option.bind_eq_some_iff.mp H
                    obtain ⟨⟨t115, t116, t117, t118, t119, t120, t121⟩, A180, H⟩ := H
                    replace H : (if t116 = 0 then (none) else ((spec_LineEnd.f t115).bind fun t127 => (if t127 = true then (none) else ((spec_Blank.f t115).bind fun t128 => (if t128 = true then (none) else ((spec_scan_is.f t117 t118 t119 t120 t121 (⟨#[47, 47]⟩ : ByteArray)).bind fun bt129 => (if bt129.1 = true then (none) else ((spec_scan_is.f bt129.2.1 bt129.2.2.1 bt129.2.2.2.1 bt129.2.2.2.2.1 bt129.2.2.2.2.2 (⟨#[47, 42]⟩ : ByteArray)).bind fun bt140 => (if bt140.1 = true then (none) else (if bt140.2.2.2.1 = true then (none) else (spec_scan_pass.j4 kj12 (x1001_7 == 0) false bt140.2.1 bt140.2.2.1 bt140.2.2.2.1 bt140.2.2.2.2.1 bt140.2.2.2.2.2))))))))))) = some (r1, r2, r3, r4, r5) := H
                    have A18 := Aside0.mk A180
                    clear A180
                    by_cases c19 : t116 = 0
                    · exact absurd ((if_pos c19).symm.trans H) (by simp)
                    · rw [if_neg c19] at H
                      have c19b0 : (t116 == 0) = false := beq_eq_false_iff_ne.mpr c19
                      have c19b1 : (t116 != 0) = true := bne_iff_ne.mpr c19
                      replace H := Option.bind_eq_some_iff.mp H
                      obtain ⟨t127, A230, H⟩ := H
                      replace H : (if t127 = true then (none) else ((spec_Blank.f t115).bind fun t128 => (if t128 = true then (none) else ((spec_scan_is.f t117 t118 t119 t120 t121 (⟨#[47, 47]⟩ : ByteArray)).bind fun bt129 => (if bt129.1 = true then (none) else ((spec_scan_is.f bt129.2.1 bt129.2.2.1 bt129.2.2.2.1 bt129.2.2.2.2.1 bt129.2.2.2.2.2 (⟨#[47, 42]⟩ : ByteArray)).bind fun bt140 => (if bt140.1 = true then (none) else (if bt140.2.2.2.1 = true then (none) else (spec_scan_pass.j4 kj12 (x1001_7 == 0) false bt140.2.1 bt140.2.2.1 bt140.2.2.2.1 bt140.2.2.2.2.1 bt140.2.2.2.2.2))))))))) = some (r1, r2, r3, r4, r5) := H
                      have A23 := Aside0.mk A230
                      clear A230
                      by_cases c24 : t127 = true
                      · exact absurd ((if_pos c24).symm.trans H) (by simp)
                      · replace c24 := Bool.eq_false_iff.mpr c24
                        subst c24
                        have H1 : ((spec_Blank.f t115).bind fun t128 => (if t128 = true then (none) else ((spec_scan_is.f t117 t118 t119 t120 t121 (⟨#[47, 47]⟩ : ByteArray)).bind fun bt129 => (if bt129.1 = true then (none) else ((spec_scan_is.f bt129.2.1 bt129.2.2.1 bt129.2.2.2.1 bt129.2.2.2.2.1 bt129.2.2.2.2.2 (⟨#[47, 42]⟩ : ByteArray)).bind fun bt140 => (if bt140.1 = true then (none) else (if bt140.2.2.2.1 = true then (none) else (spec_scan_pass.j4 kj12 (x1001_7 == 0) false bt140.2.1 bt140.2.2.1 bt140.2.2.2.1 bt140.2.2.2.2.1 bt140.2.2.2.2.2)))))))) = some (r1, r2, r3, r4, r5) := by rw [if_neg (show ¬ (false = true) by decide)] at H; exact H
                        clear H
                        have H := H1
                        clear H1
                        replace H := Option.bind_eq_some_iff.mp H
                        obtain ⟨t128, A270, H⟩ := H
                        replace H : (if t128 = true then (none) else ((spec_scan_is.f t117 t118 t119 t120 t121 (⟨#[47, 47]⟩ : ByteArray)).bind fun bt129 => (if bt129.1 = true then (none) else ((spec_scan_is.f bt129.2.1 bt129.2.2.1 bt129.2.2.2.1 bt129.2.2.2.2.1 bt129.2.2.2.2.2 (⟨#[47, 42]⟩ : ByteArray)).bind fun bt140 => (if bt140.1 = true then (none) else (if bt140.2.2.2.1 = true then (none) else (spec_scan_pass.j4 kj12 (x1001_7 == 0) false bt140.2.1 bt140.2.2.1 bt140.2.2.2.1 bt140.2.2.2.2.1 bt140.2.2.2.2.2))))))) = some (r1, r2, r3, r4, r5) := H
                        have A27 := Aside0.mk A270
                        clear A270
                        by_cases c28 : t128 = true
                        · exact absurd ((if_pos c28).symm.trans H) (by simp)
                        · replace c28 := Bool.eq_false_iff.mpr c28
                          subst c28
                          have H1 : ((spec_scan_is.f t117 t118 t119 t120 t121 (⟨#[47, 47]⟩ : ByteArray)).bind fun bt129 => (if bt129.1 = true then (none) else ((spec_scan_is.f bt129.2.1 bt129.2.2.1 bt129.2.2.2.1 bt129.2.2.2.2.1 bt129.2.2.2.2.2 (⟨#[47, 42]⟩ : ByteArray)).bind fun bt140 => (if bt140.1 = true then (none) else (if bt140.2.2.2.1 = true then (none) else (spec_scan_pass.j4 kj12 (x1001_7 == 0) false bt140.2.1 bt140.2.2.1 bt140.2.2.2.1 bt140.2.2.2.2.1 bt140.2.2.2.2.2)))))) = some (r1, r2, r3, r4, r5) := by rw [if_neg (show ¬ (false = true) by decide)] at H; exact H
                          clear H
                          have H := H1
                          clear H1
                          replace H := Option.bind_eq_some_iff.mp H
                          obtain ⟨⟨t129, t130, t131, t132, t133, t134⟩, A310, H⟩ := H
                          replace H : (if t129 = true then (none) else ((spec_scan_is.f t130 t131 t132 t133 t134 (⟨#[47, 42]⟩ : ByteArray)).bind fun bt140 => (if bt140.1 = true then (none) else (if bt140.2.2.2.1 = true then (none) else (spec_scan_pass.j4 kj12 (x1001_7 == 0) false bt140.2.1 bt140.2.2.1 bt140.2.2.2.1 bt140.2.2.2.2.1 bt140.2.2.2.2.2))))) = some (r1, r2, r3, r4, r5) := H
                          have A31 := Aside0.mk A310
                          clear A310
                          by_cases c32 : t129 = true
                          · exact absurd ((if_pos c32).symm.trans H) (by simp)
                          · replace c32 := Bool.eq_false_iff.mpr c32
                            subst c32
                            have H1 : ((spec_scan_is.f t130 t131 t132 t133 t134 (⟨#[47, 42]⟩ : ByteArray)).bind fun bt140 => (if bt140.1 = true then (none) else (if bt140.2.2.2.1 = true then (none) else (spec_scan_pass.j4 kj12 (x1001_7 == 0) false bt140.2.1 bt140.2.2.1 bt140.2.2.2.1 bt140.2.2.2.2.1 bt140.2.2.2.2.2)))) = some (r1, r2, r3, r4, r5) := by rw [if_neg (show ¬ (false = true) by decide)] at H; exact H
                            clear H
                            have H := H1
                            clear H1
                            replace H := Option.bind_eq_some_iff.mp H
                            obtain ⟨⟨t140, t141, t142, t143, t144, t145⟩, A370, H⟩ := H
                            replace H : (if t140 = true then (none) else (if t143 = true then (none) else (spec_scan_pass.j4 kj12 (x1001_7 == 0) false t141 t142 t143 t144 t145))) = some (r1, r2, r3, r4, r5) := H
                            have A37 := Aside0.mk A370
                            clear A370
                            by_cases c38 : t140 = true
                            · exact absurd ((if_pos c38).symm.trans H) (by simp)
                            · replace c38 := Bool.eq_false_iff.mpr c38
                              subst c38
                              have H1 : (if t143 = true then (none) else (spec_scan_pass.j4 kj12 (x1001_7 == 0) false t141 t142 t143 t144 t145)) = some (r1, r2, r3, r4, r5) := by rw [if_neg (show ¬ (false = true) by decide)] at H; exact H
                              clear H
                              have H := H1
                              clear H1
                              have HC44 := Aside0.mk H
                              clear H
                              go_upto_region 16 with (first | (go_at_call 40; (with_reducible refine (spec_scan_rune.calls kj12 g x1000_3 x1001_3 x1002_3 x1003_3 x1004_3 t115 t116 t117 t118 t119 t120 t121 w0 _ ?side1 ?side2 A18.out).mono ?_); (case side1 => repeat (first | (with_reducible first | exact HI0.out | apply IsS61.alloc | apply IsS61.drewN | apply IsS61.drew | apply IsS61.set_0 | apply IsS61.set_1 | apply IsS61.set_2 | apply IsS61.set_3 | apply IsS61.set_4) | exact HI0.out)); (case side2 => repeat (first | (with_reducible first | exact HB.out | apply below_alloc | apply pw_below_drewN | apply below_drew1 | refine below_set ?_ (IsS61.ge HI0.out)) | exact HB.out)); rintro e w45 ⟨rfl, hi, hb, hk⟩; have n0_ := Aside0.mk (KeepBut.trans (by repeat (first | (with_reducible first | exact HK.out | apply KeepBut.set_ | apply keep_drewN | apply keep_drew | apply keep_alloc) | exact HK.out)) hk (.inl rfl)); have n1_ := Aside0.mk (hb); have n2_ := Aside0.mk (hi); clear HK; clear HB; clear HI0; have HK := n0_; have HB := n1_; have HI0 := n2_; clear n0_ n1_ n2_; (try clear hb); (try clear hb2); (try clear hk); (try clear hi)) | (go_at_call 42; (with_reducible refine (spec_LineEnd.calls t115 false _ A23.out).mono ?_); rintro e w' ⟨rfl, ⟨nd, rfl⟩⟩; (try first | exact ⟨rfl, _, World.drewN_drewN _ _ _⟩ | exact ⟨rfl, _, Eq.trans (World.drewN_drewN _ _ _) (congrArg (World.drewN _) (Nat.add_assoc _ _ _))⟩)) | (go_at_call 43; (with_reducible refine (spec_Blank.calls t115 false _ A27.out).mono ?_); rintro e w' ⟨rfl, ⟨nd, rfl⟩⟩; (try first | exact ⟨rfl, _, World.drewN_drewN _ _ _⟩ | exact ⟨rfl, _, Eq.trans (World.drewN_drewN _ _ _) (congrArg (World.drewN _) (Nat.add_assoc _ _ _))⟩)) | (go_at_call 38; (with_reducible refine (spec_scan_is.calls g t117 t118 t119 t120 t121 (⟨#[47, 47]⟩ : ByteArray) false t130 t131 t132 t133 t134 w0 _ ?side1 ?side2 A31.out).mono ?_); (case side1 => repeat (first | (with_reducible first | exact HI0.out | apply IsS61.alloc | apply IsS61.drewN | apply IsS61.drew | apply IsS61.set_0 | apply IsS61.set_1 | apply IsS61.set_2 | apply IsS61.set_3 | apply IsS61.set_4) | exact HI0.out)); (case side2 => repeat (first | (with_reducible first | exact HB.out | apply below_alloc | apply pw_below_drewN | apply below_drew1 | refine below_set ?_ (IsS61.ge HI0.out)) | exact HB.out)); rintro e w46 ⟨rfl, hi, hb, hk⟩; have n0_ := Aside0.mk (KeepBut.trans (by repeat (first | (with_reducible first | exact HK.out | apply KeepBut.set_ | apply keep_drewN | apply keep_drew | apply keep_alloc) | exact HK.out)) hk (.inl rfl)); have n1_ := Aside0.mk (hb); have n2_ := Aside0.mk (hi); clear HK; clear HB; clear HI0; have HK := n0_; have HB := n1_; have HI0 := n2_; clear n0_ n1_ n2_; (try clear hb); (try clear hb2); (try clear hk); (try clear hi)) | (go_at_call 38; (with_reducible refine (spec_scan_is.calls g t130 t131 t132 t133 t134 (⟨#[47, 42]⟩ : ByteArray) false t141 t142 t143 t144 t145 w0 _ ?side1 ?side2 A37.out).mono ?_); (case side1 => repeat (first | (with_reducible first | exact HI0.out | apply IsS61.alloc | apply IsS61.drewN | apply IsS61.drew | apply IsS61.set_0 | apply IsS61.set_1 | apply IsS61.set_2 | apply IsS61.set_3 | apply IsS61.set_4) | exact HI0.out)); (case side2 => repeat (first | (with_reducible first | exact HB.out | apply below_alloc | apply pw_below_drewN | apply below_drew1 | refine below_set ?_ (IsS61.ge HI0.out)) | exact HB.out)); rintro e w47 ⟨rfl, hi, hb, hk⟩; have n0_ := Aside0.mk (KeepBut.trans (by repeat (first | (with_reducible first | exact HK.out | apply KeepBut.set_ | apply keep_drewN | apply keep_drew | apply keep_alloc) | exact HK.out)) hk (.inl rfl)); have n1_ := Aside0.mk (hb); have n2_ := Aside0.mk (hi); clear HK; clear HB; clear HI0; have HK := n0_; have HB := n1_; have HI0 := n2_; clear n0_ n1_ n2_; (try clear hb); (try clear hb2); (try clear hk); (try clear hi)))
                              repeat (go_quiet (first | (go_at_call 40; (with_reducible refine (spec_scan_rune.calls kj12 g x1000_3 x1001_3 x1002_3 x1003_3 x1004_3 t115 t116 t117 t118 t119 t120 t121 w0 _ ?side1 ?side2 A18.out).mono ?_); (case side1 => repeat (first | (with_reducible first | exact HI0.out | apply IsS61.alloc | apply IsS61.drewN | apply IsS61.drew | apply IsS61.set_0 | apply IsS61.set_1 | apply IsS61.set_2 | apply IsS61.set_3 | apply IsS61.set_4) | exact HI0.out)); (case side2 => repeat (first | (with_reducible first | exact HB.out | apply below_alloc | apply pw_below_drewN | apply below_drew1 | refine below_set ?_ (IsS61.ge HI0.out)) | exact HB.out)); rintro e w45 ⟨rfl, hi, hb, hk⟩; have n0_ := Aside0.mk (KeepBut.trans (by repeat (first | (with_reducible first | exact HK.out | apply KeepBut.set_ | apply keep_drewN | apply keep_drew | apply keep_alloc) | exact HK.out)) hk (.inl rfl)); have n1_ := Aside0.mk (hb); have n2_ := Aside0.mk (hi); clear HK; clear HB; clear HI0; have HK := n0_; have HB := n1_; have HI0 := n2_; clear n0_ n1_ n2_; (try clear hb); (try clear hb2); (try clear hk); (try clear hi)) | (go_at_call 42; (with_reducible refine (spec_LineEnd.calls t115 false _ A23.out).mono ?_); rintro e w' ⟨rfl, ⟨nd, rfl⟩⟩; (try first | exact ⟨rfl, _, World.drewN_drewN _ _ _⟩ | exact ⟨rfl, _, Eq.trans (World.drewN_drewN _ _ _) (congrArg (World.drewN _) (Nat.add_assoc _ _ _))⟩)) | (go_at_call 43; (with_reducible refine (spec_Blank.calls t115 false _ A27.out).mono ?_); rintro e w' ⟨rfl, ⟨nd, rfl⟩⟩; (try first | exact ⟨rfl, _, World.drewN_drewN _ _ _⟩ | exact ⟨rfl, _, Eq.trans (World.drewN_drewN _ _ _) (congrArg (World.drewN _) (Nat.add_assoc _ _ _))⟩)) | (go_at_call 38; (with_reducible refine (spec_scan_is.calls g t117 t118 t119 t120 t121 (⟨#[47, 47]⟩ : ByteArray) false t130 t131 t132 t133 t134 w0 _ ?side1 ?side2 A31.out).mono ?_); (case side1 => repeat (first | (with_reducible first | exact HI0.out | apply IsS61.alloc | apply IsS61.drewN | apply IsS61.drew | apply IsS61.set_0 | apply IsS61.set_1 | apply IsS61.set_2 | apply IsS61.set_3 | apply IsS61.set_4) | exact HI0.out)); (case side2 => repeat (first | (with_reducible first | exact HB.out | apply below_alloc | apply pw_below_drewN | apply below_drew1 | refine below_set ?_ (IsS61.ge HI0.out)) | exact HB.out)); rintro e w46 ⟨rfl, hi, hb, hk⟩; have n0_ := Aside0.mk (KeepBut.trans (by repeat (first | (with_reducible first | exact HK.out | apply KeepBut.set_ | apply keep_drewN | apply keep_drew | apply keep_alloc) | exact HK.out)) hk (.inl rfl)); have n1_ := Aside0.mk (hb); have n2_ := Aside0.mk (hi); clear HK; clear HB; clear HI0; have HK := n0_; have HB := n1_; have HI0 := n2_; clear n0_ n1_ n2_; (try clear hb); (try clear hb2); (try clear hk); (try clear hi)) | (go_at_call 38; (with_reducible refine (spec_scan_is.calls g t130 t131 t132 t133 t134 (⟨#[47, 42]⟩ : ByteArray) false t141 t142 t143 t144 t145 w0 _ ?side1 ?side2 A37.out).mono ?_); (case side1 => repeat (first | (with_reducible first | exact HI0.out | apply IsS61.alloc | apply IsS61.drewN | apply IsS61.drew | apply IsS61.set_0 | apply IsS61.set_1 | apply IsS61.set_2 | apply IsS61.set_3 | apply IsS61.set_4) | exact HI0.out)); (case side2 => repeat (first | (with_reducible first | exact HB.out | apply below_alloc | apply pw_below_drewN | apply below_drew1 | refine below_set ?_ (IsS61.ge HI0.out)) | exact HB.out)); rintro e w47 ⟨rfl, hi, hb, hk⟩; have n0_ := Aside0.mk (KeepBut.trans (by repeat (first | (with_reducible first | exact HK.out | apply KeepBut.set_ | apply keep_drewN | apply keep_drew | apply keep_alloc) | exact HK.out)) hk (.inl rfl)); have n1_ := Aside0.mk (hb); have n2_ := Aside0.mk (hi); clear HK; clear HB; clear HI0; have HK := n0_; have HB := n1_; have HI0 := n2_; clear n0_ n1_ n2_; (try clear hb); (try clear hb2); (try clear hk); (try clear hi))); go_upto_region 16 with (first | (go_at_call 40; (with_reducible refine (spec_scan_rune.calls kj12 g x1000_3 x1001_3 x1002_3 x1003_3 x1004_3 t115 t116 t117 t118 t119 t120 t121 w0 _ ?side1 ?side2 A18.out).mono ?_); (case side1 => repeat (first | (with_reducible first | exact HI0.out | apply IsS61.alloc | apply IsS61.drewN | apply IsS61.drew | apply IsS61.set_0 | apply IsS61.set_1 | apply IsS61.set_2 | apply IsS61.set_3 | apply IsS61.set_4) | exact HI0.out)); (case side2 => repeat (first | (with_reducible first | exact HB.out | apply below_alloc | apply pw_below_drewN | apply below_drew1 | refine below_set ?_ (IsS61.ge HI0.out)) | exact HB.out)); rintro e w45 ⟨rfl, hi, hb, hk⟩; have n0_ := Aside0.mk (KeepBut.trans (by repeat (first | (with_reducible first | exact HK.out | apply KeepBut.set_ | apply keep_drewN | apply keep_drew | apply keep_alloc) | exact HK.out)) hk (.inl rfl)); have n1_ := Aside0.mk (hb); have n2_ := Aside0.mk (hi); clear HK; clear HB; clear HI0; have HK := n0_; have HB := n1_; have HI0 := n2_; clear n0_ n1_ n2_; (try clear hb); (try clear hb2); (try clear hk); (try clear hi)) | (go_at_call 42; (with_reducible refine (spec_LineEnd.calls t115 false _ A23.out).mono ?_); rintro e w' ⟨rfl, ⟨nd, rfl⟩⟩; (try first | exact ⟨rfl, _, World.drewN_drewN _ _ _⟩ | exact ⟨rfl, _, Eq.trans (World.drewN_drewN _ _ _) (congrArg (World.drewN _) (Nat.add_assoc _ _ _))⟩)) | (go_at_call 43; (with_reducible refine (spec_Blank.calls t115 false _ A27.out).mono ?_); rintro e w' ⟨rfl, ⟨nd, rfl⟩⟩; (try first | exact ⟨rfl, _, World.drewN_drewN _ _ _⟩ | exact ⟨rfl, _, Eq.trans (World.drewN_drewN _ _ _) (congrArg (World.drewN _) (Nat.add_assoc _ _ _))⟩)) | (go_at_call 38; (with_reducible refine (spec_scan_is.calls g t117 t118 t119 t120 t121 (⟨#[47, 47]⟩ : ByteArray) false t130 t131 t132 t133 t134 w0 _ ?side1 ?side2 A31.out).mono ?_); (case side1 => repeat (first | (with_reducible first | exact HI0.out | apply IsS61.alloc | apply IsS61.drewN | apply IsS61.drew | apply IsS61.set_0 | apply IsS61.set_1 | apply IsS61.set_2 | apply IsS61.set_3 | apply IsS61.set_4) | exact HI0.out)); (case side2 => repeat (first | (with_reducible first | exact HB.out | apply below_alloc | apply pw_below_drewN | apply below_drew1 | refine below_set ?_ (IsS61.ge HI0.out)) | exact HB.out)); rintro e w46 ⟨rfl, hi, hb, hk⟩; have n0_ := Aside0.mk (KeepBut.trans (by repeat (first | (with_reducible first | exact HK.out | apply KeepBut.set_ | apply keep_drewN | apply keep_drew | apply keep_alloc) | exact HK.out)) hk (.inl rfl)); have n1_ := Aside0.mk (hb); have n2_ := Aside0.mk (hi); clear HK; clear HB; clear HI0; have HK := n0_; have HB := n1_; have HI0 := n2_; clear n0_ n1_ n2_; (try clear hb); (try clear hb2); (try clear hk); (try clear hi)) | (go_at_call 38; (with_reducible refine (spec_scan_is.calls g t130 t131 t132 t133 t134 (⟨#[47, 42]⟩ : ByteArray) false t141 t142 t143 t144 t145 w0 _ ?side1 ?side2 A37.out).mono ?_); (case side1 => repeat (first | (with_reducible first | exact HI0.out | apply IsS61.alloc | apply IsS61.drewN | apply IsS61.drew | apply IsS61.set_0 | apply IsS61.set_1 | apply IsS61.set_2 | apply IsS61.set_3 | apply IsS61.set_4) | exact HI0.out)); (case side2 => repeat (first | (with_reducible first | exact HB.out | apply below_alloc | apply pw_below_drewN | apply below_drew1 | refine below_set ?_ (IsS61.ge HI0.out)) | exact HB.out)); rintro e w47 ⟨rfl, hi, hb, hk⟩; have n0_ := Aside0.mk (KeepBut.trans (by repeat (first | (with_reducible first | exact HK.out | apply KeepBut.set_ | apply keep_drewN | apply keep_drew | apply keep_alloc) | exact HK.out)) hk (.inl rfl)); have n1_ := Aside0.mk (hb); have n2_ := Aside0.mk (hi); clear HK; clear HB; clear HI0; have HK := n0_; have HB := n1_; have HI0 := n2_; clear n0_ n1_ n2_; (try clear hb); (try clear hb2); (try clear hk); (try clear hi))))
                              (try simp only [Act.put, List.setIfInBounds_toArray, List.set_cons_zero, List.set_cons_succ])
                              go_cut [83] (fun v83 wc => ∃ (kq : Nat) (x83_43 : Bool) (x1000_43 : ByteArray) (x1001_43 : Int) (x1002_43 : Bool) (x1003_43 : Bool) (x1004_43 : Int), v83 = .bool x83_43 ∧ Aside0 (spec_scan_pass.j4 kq (x1001_7 == 0) x83_43 x1000_43 x1001_43 x1002_43 x1003_43 x1004_43 = some (r1, r2, r3, r4, r5)) ∧ Aside0 (kq ≤ kj12) ∧ Aside0 (IsS61 w0 wc g x1000_43 x1001_43 x1002_43 x1003_43 x1004_43) ∧ Aside0 (KeepBut w wc g none) ∧ Aside0 (Below w0.heap.size w0 wc))
                              case first =>
                                have H := HC44.out
                                clear HC44
                                by_cases c48 : t143 = true
                                · exact absurd ((if_pos c48).symm.trans H) (by simp)
                                · replace c48 := Bool.eq_false_iff.mpr c48
                                  subst c48
                                  have H1 : (spec_scan_pass.j4 kj12 (x1001_7 == 0) false t141 t142 false t144 t145) = some (r1, r2, r3, r4, r5) := by rw [if_neg (show ¬ (false = true) by decide)] at H; exact H
                                  clear H
                                  have H := H1
                                  clear H1
                                  have H' := Aside0.mk H
                                  clear H
                                  obtain ⟨HGz52, hgz52⟩ := HI0.out
                                  have hcz52_0 := cellS61_0 HGz52
                                  have hcz52_1 := cellS61_1 HGz52
                                  have hcz52_2 := cellS61_2 HGz52
                                  have hcz52_3 := cellS61_3 HGz52
                                  have hcz52_4 := cellS61_4 HGz52
                                  have hfz52_0 := blk_frozen HGz52 0
                                  have hfz52_1 := blk_frozen HGz52 1
                                  have hfz52_2 := blk_frozen HGz52 2
                                  have hfz52_3 := blk_frozen HGz52 3
                                  have hfz52_4 := blk_frozen HGz52 4
                                  clear HGz52 hgz52
                                  go_wp2
                                  repeat (go_quiet (fail); try go_wp2)
                                  go_meet
                                  case rel => exact ⟨_, (false), (t141), (t142), (false), (t144), (t145), (by first | rfl | (simp; done) | (simp [*]; done)), H', ⟨by have := HJ1.out; have := HJ7.out; have := HK3.out; have := HJ12.out; first | omega | exact Nat.le_refl _⟩, ⟨by repeat (first | (with_reducible first | exact HI0.out | apply IsS61.alloc | apply IsS61.drewN | apply IsS61.drew | apply IsS61.set_0 | apply IsS61.set_1 | apply IsS61.set_2 | apply IsS61.set_3 | apply IsS61.set_4) | exact HI0.out)⟩, ⟨by repeat (first | (with_reducible first | exact HK.out | apply KeepBut.set_ | apply keep_drewN | apply keep_drew | apply keep_alloc) | exact HK.out)⟩, ⟨by repeat (first | (with_reducible first | exact HB.out | apply below_alloc | apply pw_below_drewN | apply below_drew1 | refine below_set ?_ (IsS61.ge HI0.out)) | exact HB.out)⟩⟩
                              case rest =>
                                clear HC44
                                try clear c1
                                try clear c2
                                try clear p2
                                try clear c3
                                try clear c3b0
                                try clear c3b1
                                try clear c4
                                try clear p6
                                try clear c9
                                try clear c14
                                try clear c14b0
                                try clear c17
                                try clear c19
                                try clear c19b0
                                try clear c19b1
                                try clear c24
                                try clear c27
                                try clear c28
                                try clear c32
                                try clear c38
                                try clear c48
                                try clear hcz12_0
                                try clear hcz12_1
                                try clear hcz12_2
                                try clear hcz12_3
                                try clear hcz12_4
                                try clear hcz15_0
                                try clear hcz15_1
                                try clear hcz15_2
                                try clear hcz15_3
                                try clear hcz15_4
                                try clear hcz16_0
                                try clear hcz16_1
                                try clear hcz16_2
                                try clear hcz16_3
                                try clear hcz16_4
                                try clear hcz26_0
                                try clear hcz26_1
                                try clear hcz26_2
                                try clear hcz26_3
                                try clear hcz26_4
                                try clear hcz30_0
                                try clear hcz30_1
                                try clear hcz30_2
                                try clear hcz30_3
                                try clear hcz30_4
                                try clear hcz50_0
                                try clear hcz50_1
                                try clear hcz50_2
                                try clear hcz50_3
                                try clear hcz50_4
                                try clear hcz52_0
                                try clear hcz52_1
                                try clear hcz52_2
                                try clear hcz52_3
                                try clear hcz52_4
                                try clear hcz5_0
                                try clear hcz5_1
                                try clear hcz5_2
                                try clear hcz5_3
                                try clear hcz5_4
                                try clear hcz7_0
                                try clear hcz7_1
                                try clear hcz7_2
                                try clear hcz7_3
                                try clear hcz7_4
                                try clear hfz12_0
                                try clear hfz12_1
                                try clear hfz12_2
                                try clear hfz12_3
                                try clear hfz12_4
                                try clear hfz15_0
                                try clear hfz15_1
                                try clear hfz15_2
                                try clear hfz15_3
                                try clear hfz15_4
                                try clear hfz16_0
                                try clear hfz16_1
                                try clear hfz16_2
                                try clear hfz16_3
                                try clear hfz16_4
                                try clear hfz26_0
                                try clear hfz26_1
                                try clear hfz26_2
                                try clear hfz26_3
                                try clear hfz26_4
                                try clear hfz30_0
                                try clear hfz30_1
                                try clear hfz30_2
                                try clear hfz30_3
                                try clear hfz30_4
                                try clear hfz50_0
                                try clear hfz50_1
                                try clear hfz50_2
                                try clear hfz50_3
                                try clear hfz50_4
                                try clear hfz52_0
                                try clear hfz52_1
                                try clear hfz52_2
                                try clear hfz52_3
                                try clear hfz52_4
                                try clear hfz5_0
                                try clear hfz5_1
                                try clear hfz5_2
                                try clear hfz5_3
                                try clear hfz5_4
                                try clear hfz7_0
                                try clear hfz7_1
                                try clear hfz7_2
                                try clear hfz7_3
                                try clear hfz7_4
                                try clear p2
                                obtain ⟨kq, x83_43, x1000_43, x1001_43, x1002_43, x1003_43, x1004_43, rfl, HA, HJ43, HI0, HK, HB⟩ := hcut
                                cases kq with
                                | zero => exact absurd HA.out (by simp [spec_scan_pass.j4])
                                | succ kj43 =>
                                  have H := HA.out
                                  clear HA
                                  simp only [spec_scan_pass.j4] at H
                                  by_cases c53 : x83_43 = true
                                  · exact absurd ((if_pos c53).symm.trans H) (by simp)
                                  · replace c53 := Bool.eq_false_iff.mpr c53
                                    subst c53
                                    have H1 : (if x1002_43 = true then (none) else (spec_scan_pass.j5 kj43 (x1001_7 == 0) false x1000_43 x1001_43 x1002_43 x1003_43 x1004_43)) = some (r1, r2, r3, r4, r5) := by rw [if_neg (show ¬ (false = true) by decide)] at H; exact H
                                    clear H
                                    have H := H1
                                    clear H1
                                    have HC56 := Aside0.mk H
                                    clear H
                                    go_upto_region 18 with (fail)
                                    repeat (go_quiet (fail); go_upto_region 18 with (fail))
                                    go_cut [94] (fun v94 wc => ∃ (kq : Nat) (x94_55 : Bool) (x1000_55 : ByteArray) (x1001_55 : Int) (x1002_55 : Bool) (x1003_55 : Bool) (x1004_55 : Int), v94 = .bool x94_55 ∧ Aside0 (spec_scan_pass.j5 kq (x1001_7 == 0) x94_55 x1000_55 x1001_55 x1002_55 x1003_55 x1004_55 = some (r1, r2, r3, r4, r5)) ∧ Aside0 (kq ≤ kj43) ∧ Aside0 (IsS61 w0 wc g x1000_55 x1001_55 x1002_55 x1003_55 x1004_55) ∧ Aside0 (KeepBut w wc g none) ∧ Aside0 (Below w0.heap.size w0 wc))
                                    case first =>
                                      have H := HC56.out
                                      clear HC56
                                      by_cases c57 : x1002_43 = true
                                      · exact absurd ((if_pos c57).symm.trans H) (by simp)
                                      · replace c57 := Bool.eq_false_iff.mpr c57
                                        subst c57
                                        have H1 : (spec_scan_pass.j5 kj43 (x1001_7 == 0) false x1000_43 x1001_43 false x1003_43 x1004_43) = some (r1, r2, r3, r4, r5) := by rw [if_neg (show ¬ (false = true) by decide)] at H; exact H
                                        clear H
                                        have H := H1
                                        clear H1
                                        have H' := Aside0.mk H
                                        clear H
                                        obtain ⟨HGz65, hgz65⟩ := HI0.out
                                        have hcz65_0 := cellS61_0 HGz65
                                        have hcz65_1 := cellS61_1 HGz65
                                        have hcz65_2 := cellS61_2 HGz65
                                        have hcz65_3 := cellS61_3 HGz65
                                        have hcz65_4 := cellS61_4 HGz65
                                        have hfz65_0 := blk_frozen HGz65 0
                                        have hfz65_1 := blk_frozen HGz65 1
                                        have hfz65_2 := blk_frozen HGz65 2
                                        have hfz65_3 := blk_frozen HGz65 3
                                        have hfz65_4 := blk_frozen HGz65 4
                                        clear HGz65 hgz65
                                        go_wp2
                                        repeat (go_quiet (fail); try go_wp2)
                                        go_meet
                                        case rel => exact ⟨_, (false), (x1000_43), (x1001_43), (false), (x1003_43), (x1004_43), (by first | rfl | (simp; done) | (simp [*]; done)), H', ⟨by have := HJ1.out; have := HJ7.out; have := HK3.out; have := HJ12.out; have := HJ43.out; first | omega | exact Nat.le_refl _⟩, ⟨by repeat (first | (with_reducible first | exact HI0.out | apply IsS61.alloc | apply IsS61.drewN | apply IsS61.drew | apply IsS61.set_0 | apply IsS61.set_1 | apply IsS61.set_2 | apply IsS61.set_3 | apply IsS61.set_4) | exact HI0.out)⟩, ⟨by repeat (first | (with_reducible first | exact HK.out | apply KeepBut.set_ | apply keep_drewN | apply keep_drew | apply keep_alloc) | exact HK.out)⟩, ⟨by repeat (first | (with_reducible first | exact HB.out | apply below_alloc | apply pw_below_drewN | apply below_drew1 | refine below_set ?_ (IsS61.ge HI0.out)) | exact HB.out)⟩⟩
                                    case rest =>
                                      clear HC56
                                      try clear c1
                                      try clear c2
                                      try clear p2
                                      try clear c3
                                      try clear c3b0
                                      try clear c3b1
                                      try clear c4
                                      try clear c5
                                      try clear p6
                                      try clear c9
                                      try clear c14
                                      try clear c14b0
                                      try clear c17
                                      try clear c19
                                      try clear c19b0
                                      try clear c19b1
                                      try clear c24
                                      try clear c27
                                      try clear c28
                                      try clear c32
                                      try clear c38
                                      try clear c48
                                      try clear c53
                                      try clear c57
                                      try clear c59
                                      try clear p64
                                      try clear hcz12_0
                                      try clear hcz12_1
                                      try clear hcz12_2
                                      try clear hcz12_3
                                      try clear hcz12_4
                                      try clear hcz15_0
                                      try clear hcz15_1
                                      try clear hcz15_2
                                      try clear hcz15_3
                                      try clear hcz15_4
                                      try clear hcz16_0
                                      try clear hcz16_1
                                      try clear hcz16_2
                                      try clear hcz16_3
                                      try clear hcz16_4
                                      try clear hcz26_0
                                      try clear hcz26_1
                                      try clear hcz26_2
                                      try clear hcz26_3
                                      try clear hcz26_4
                                      try clear hcz30_0
                                      try clear hcz30_1
                                      try clear hcz30_2
                                      try clear hcz30_3
                                      try clear hcz30_4
                                      try clear hcz50_0
                                      try clear hcz50_1
                                      try clear hcz50_2
                                      try clear hcz50_3
                                      try clear hcz50_4
                                      try clear hcz52_0
                                      try clear hcz52_1
                                      try clear hcz52_2
                                      try clear hcz52_3
                                      try clear hcz52_4
                                      try clear hcz5_0
                                      try clear hcz5_1
                                      try clear hcz5_2
                                      try clear hcz5_3
                                      try clear hcz5_4
                                      try clear hcz60_0
                                      try clear hcz60_1
                                      try clear hcz60_2
                                      try clear hcz60_3
                                      try clear hcz60_4
                                      try clear hcz62_0
                                      try clear hcz62_1
                                      try clear hcz62_2
                                      try clear hcz62_3
                                      try clear hcz62_4
                                      try clear hcz63_0
                                      try clear hcz63_1
                                      try clear hcz63_2
                                      try clear hcz63_3
                                      try clear hcz63_4
                                      try clear hcz65_0
                                      try clear hcz65_1
                                      try clear hcz65_2
                                      try clear hcz65_3
                                      try clear hcz65_4
                                      try clear hcz7_0
                                      try clear hcz7_1
                                      try clear hcz7_2
                                      try clear hcz7_3
                                      try clear hcz7_4
                                      try clear hfz12_0
                                      try clear hfz12_1
                                      try clear hfz12_2
                                      try clear hfz12_3
                                      try clear hfz12_4
                                      try clear hfz15_0
                                      try clear hfz15_1
                                      try clear hfz15_2
                                      try clear hfz15_3
                                      try clear hfz15_4
                                      try clear hfz16_0
                                      try clear hfz16_1
                                      try clear hfz16_2
                                      try clear hfz16_3
                                      try clear hfz16_4
                                      try clear hfz26_0
                                      try clear hfz26_1
                                      try clear hfz26_2
                                      try clear hfz26_3
                                      try clear hfz26_4
                                      try clear hfz30_0
                                      try clear hfz30_1
                                      try clear hfz30_2
                                      try clear hfz30_3
                                      try clear hfz30_4
                                      try clear hfz50_0
                                      try clear hfz50_1
                                      try clear hfz50_2
                                      try clear hfz50_3
                                      try clear hfz50_4
                                      try clear hfz52_0
                                      try clear hfz52_1
                                      try clear hfz52_2
                                      try clear hfz52_3
                                      try clear hfz52_4
                                      try clear hfz5_0
                                      try clear hfz5_1
                                      try clear hfz5_2
                                      try clear hfz5_3
                                      try clear hfz5_4
                                      try clear hfz60_0
                                      try clear hfz60_1
                                      try clear hfz60_2
                                      try clear hfz60_3
                                      try clear hfz60_4
                                      try clear hfz62_0
                                      try clear hfz62_1
                                      try clear hfz62_2
                                      try clear hfz62_3
                                      try clear hfz62_4
                                      try clear hfz63_0
                                      try clear hfz63_1
                                      try clear hfz63_2
                                      try clear hfz63_3
                                      try clear hfz63_4
                                      try clear hfz65_0
                                      try clear hfz65_1
                                      try clear hfz65_2
                                      try clear hfz65_3
                                      try clear hfz65_4
                                      try clear hfz7_0
                                      try clear hfz7_1
                                      try clear hfz7_2
                                      try clear hfz7_3
                                      try clear hfz7_4
                                      try clear p2
                                      try clear p6
                                      obtain ⟨kq, x94_55, x1000_55, x1001_55, x1002_55, x1003_55, x1004_55, rfl, HA, HJ55, HI0, HK, HB⟩ := hcut
                                      cases kq with
                                      | zero => exact absurd HA.out (by simp [spec_scan_pass.j5])
                                      | succ kj55 =>
                                        have H := HA.out
                                        clear HA
                                        simp only [spec_scan_pass.j5] at H
                                        by_cases c66 : x94_55 = true
                                        · exact absurd ((if_pos c66).symm.trans H) (by simp)
                                        · replace c66 := Bool.eq_false_iff.mpr c66
                                          subst c66
                                          have H1 : (if x1002_55 = true then (none) else (some (x1000_55, x1001_55, x1002_55, x1003_55, x1004_55))) = some (r1, r2, r3, r4, r5) := by rw [if_neg (show ¬ (false = true) by decide)] at H; exact H
                                          clear H
                                          have H := H1
                                          clear H1
                                          by_cases c69 : x1002_55 = true
                                          · exact absurd ((if_pos c69).symm.trans H) (by simp)
                                          · replace c69 := Bool.eq_false_iff.mpr c69
                                            subst c69
                                            have H1 : (some (x1000_55, x1001_55, false, x1003_55, x1004_55)) = some (r1, r2, r3, r4, r5) := by rw [if_neg (show ¬ (false = true) by decide)] at H; exact H
                                            clear H
                                            have H := H1
                                            clear H1
                                            simp only [Option.some.injEq, Prod.mk.injEq] at H
                                            obtain ⟨rfl, rfl, rfl, rfl, rfl⟩ := H
                                            obtain ⟨HGz81, hgz81⟩ := HI0.out
                                            have hcz81_0 := cellS61_0 HGz81
                                            have hcz81_1 := cellS61_1 HGz81
                                            have hcz81_2 := cellS61_2 HGz81
                                            have hcz81_3 := cellS61_3 HGz81
                                            have hcz81_4 := cellS61_4 HGz81
                                            have hfz81_0 := blk_frozen HGz81 0
                                            have hfz81_1 := blk_frozen HGz81 1
                                            have hfz81_2 := blk_frozen HGz81 2
                                            have hfz81_3 := blk_frozen HGz81 3
                                            have hfz81_4 := blk_frozen HGz81 4
                                            clear HGz81 hgz81
                                            go_wp2
                                            repeat (go_quiet (fail); try go_wp2)
                                            first | go_end0 | ((try simp only [Exit.inBlock, Exit.then]); refine bodyPost_ret (results_none rfl _ _ _) rfl ?_)
                                            exact ⟨by first | rfl | (simp [errW_none, errW_some] <;> rfl) | (simp [*, errW_none, errW_some] <;> rfl), by repeat (first | (with_reducible first | exact HI0.out | apply IsS61.alloc | apply IsS61.drewN | apply IsS61.drew | apply IsS61.set_0 | apply IsS61.set_1 | apply IsS61.set_2 | apply IsS61.set_3 | apply IsS61.set_4) | exact HI0.out), by repeat (first | (with_reducible first | exact HB.out | apply below_alloc | apply pw_below_drewN | apply below_drew1 | refine below_set ?_ (IsS61.ge HI0.out)) | exact HB.out), by repeat (first | (with_reducible first | exact HK.out | apply KeepBut.set_ | apply keep_drewN | apply keep_drew | apply keep_alloc) | exact HK.out)⟩
                  · replace c17 := Bool.eq_false_iff.mpr c17
                    subst c17
                    have H1 : (some (x1000_3, x1001_3, x1002_3, x1003_3, x1004_3)) = some (r1, r2, r3, r4, r5) := by rw [if_neg (show ¬ (false = true) by decide)] at H; exact H
                    clear H
                    have H := H1
                    clear H1
                    simp only [Option.some.injEq, Prod.mk.injEq] at H
                    obtain ⟨rfl, rfl, rfl, rfl, rfl⟩ := H
                    go_wp2
                    repeat (go_quiet (fail); try go_wp2)
                    first | go_end0 | ((try simp only [Exit.inBlock, Exit.then]); refine bodyPost_ret (results_none rfl _ _ _) rfl ?_)
                    exact ⟨by first | rfl | (simp [errW_none, errW_some] <;> rfl) | (simp [*, errW_none, errW_some] <;> rfl), by repeat (first | (with_reducible first | exact HI0.out | apply IsS61.alloc | apply IsS61.drewN | apply IsS61.drew | apply IsS61.set_0 | apply IsS61.set_1 | apply IsS61.set_2 | apply IsS61.set_3 | apply IsS61.set_4) | exact HI0.out), by repeat (first | (with_reducible first | exact HB.out | apply below_alloc | apply pw_below_drewN | apply below_drew1 | refine below_set ?_ (IsS61.ge HI0.out)) | exact HB.out), by repeat (first | (with_reducible first | exact HK.out | apply KeepBut.set_ | apply keep_drewN | apply keep_drew | apply keep_alloc) | exact HK.out)⟩

end Go.Proofs.Ytmgepjnaalnckaa.PJsString
