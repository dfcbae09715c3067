-- Written by printx.py of this session, over the kit's print, with contracts of this session for some functions
import Derived.Test.YtbcljhedleemdaaPFnNameOfPathx0
import Derived.Test.YtbcljhedleemdaaPFnNameOfPathx1
namespace Go.Proofs.Ytbcljhedleemdaa.PFnNameOfPath
open Go.RowKit Go.Proofs.YtbcljhedleemdaaW.PrintWords Go.Proofs.YtbcljhedleemdaaW.PrintLast Go.Proofs.YtbcljhedleemdaaW.PrintMore
attribute [local go_sem] max2_int min2_int max_two min_two max_three min_three max_four min_four   -- for this text's walks alone
set_option linter.unusedVariables false
set_option linter.unusedSimpArgs false

/-! ### logger_PlatformIndependentPathDirBaseExt: function 9 -/
mutual
def logger_PlatformIndependentPathDirBaseExt.j0 : Nat → ByteArray → ByteArray → ByteArray → Int → Bool → Option (ByteArray × ByteArray × ByteArray)
  | 0, _, _, _, _, _ => none
  | k + 1, x0, x2, x4, x5, x22 => if x22 = true then (logger_PlatformIndependentPathDirBaseExt.j2 k x0 x2 x4 0) else (if (x0.size : Int) > 2 then (if 1 < (x0.size : Int) then (if (bt x0 1) = 58 then (if 2 < (x0.size : Int) then (if (bt x0 2) = 47 then (logger_PlatformIndependentPathDirBaseExt.j1 k x0 x2 x4 x5 true) else (logger_PlatformIndependentPathDirBaseExt.j1 k x0 x2 x4 x5 ((bt x0 2) == 92))) else (none)) else (logger_PlatformIndependentPathDirBaseExt.j1 k x0 x2 x4 x5 false)) else (none)) else (logger_PlatformIndependentPathDirBaseExt.j1 k x0 x2 x4 x5 false))
def logger_PlatformIndependentPathDirBaseExt.j2 : Nat → ByteArray → ByteArray → ByteArray → Int → Option (ByteArray × ByteArray × ByteArray)
  | 0, _, _, _, _ => none
  | k + 1, x0, x2, x4, x5 => logger_PlatformIndependentPathDirBaseExt.l0 k x0 x2 x4 x5
def logger_PlatformIndependentPathDirBaseExt.j4 : Nat → ByteArray → ByteArray → ByteArray → Option (ByteArray × ByteArray × ByteArray)
  | 0, _, _, _ => none
  | k + 1, x2, x3, x4 => (strings_LastIndexByte.f k x3 46).bind fun t104 => (if t104 ≥ 0 then (if 0 ≤ t104 then (if t104 ≤ (x3.size : Int) then (if (x3.extract (t104 : Int).toNat x3.size).toList = ([46, 99, 115, 115] : List UInt8) then ((strings_LastIndexByte.f k (x3.extract 0 (t104 : Int).toNat) 46).bind fun t105 => (if t105 ≥ 0 then (if 0 ≤ t105 then (if t105 ≤ (x3.size : Int) then (if (x3.extract (t105 : Int).toNat x3.size).toList = ([46, 109, 111, 100, 117, 108, 101, 46, 99, 115, 115] : List UInt8) then (some (x2, x3.extract 0 (t105 : Int).toNat, x3.extract (t105 : Int).toNat x3.size)) else (some (x2, x3.extract 0 (t104 : Int).toNat, x3.extract (t104 : Int).toNat x3.size))) else (none)) else (none)) else (some (x2, x3.extract 0 (t104 : Int).toNat, x3.extract (t104 : Int).toNat x3.size)))) else (some (x2, x3.extract 0 (t104 : Int).toNat, x3.extract (t104 : Int).toNat x3.size))) else (none)) else (none)) else (some (x2, x3, x4)))
def logger_PlatformIndependentPathDirBaseExt.l0 : Nat → ByteArray → ByteArray → ByteArray → Int → Option (ByteArray × ByteArray × ByteArray)
  | 0, _, _, _, _ => none
  | k + 1, x0, x2, x4, x5 => (strings_LastIndexByte.f k x0 47).bind fun t102 => ((strings_LastIndexByte.f k x0 92).bind fun t103 => (if (mx t102 t103) < 0 then (logger_PlatformIndependentPathDirBaseExt.j4 k x2 x0 x4) else (if (mx t102 t103) = x5 then (if 0 ≤ (wrap64 ((mx t102 t103) + 1)) then (if (wrap64 ((mx t102 t103) + 1)) ≤ (x0.size : Int) then (logger_PlatformIndependentPathDirBaseExt.j4 k (x0.extract 0 ((wrap64 ((mx t102 t103) + 1)) : Int).toNat) (x0.extract ((wrap64 ((mx t102 t103) + 1)) : Int).toNat x0.size) x4) else (none)) else (none)) else (if (wrap64 ((mx t102 t103) + 1)) = (x0.size : Int) then (if 0 ≤ (mx t102 t103) then (if (mx t102 t103) ≤ (x0.size : Int) then (logger_PlatformIndependentPathDirBaseExt.l0 k (x0.extract 0 ((mx t102 t103) : Int).toNat) x2 x4 x5) else (none)) else (none)) else (if 0 ≤ (mx t102 t103) then (if (mx t102 t103) ≤ (x0.size : Int) then (if 0 ≤ (wrap64 ((mx t102 t103) + 1)) then (if (wrap64 ((mx t102 t103) + 1)) ≤ (x0.size : Int) then (logger_PlatformIndependentPathDirBaseExt.j4 k (x0.extract 0 ((mx t102 t103) : Int).toNat) (x0.extract ((wrap64 ((mx t102 t103) + 1)) : Int).toNat x0.size) x4) else (none)) else (none)) else (none)) else (none))))))
def logger_PlatformIndependentPathDirBaseExt.j1 : Nat → ByteArray → ByteArray → ByteArray → Int → Bool → Option (ByteArray × ByteArray × ByteArray)
  | 0, _, _, _, _, _ => none
  | k + 1, x0, x2, x4, x5, x40 => if x40 = true then (if 0 < (x0.size : Int) then (if (bt x0 0) ≥ 97 then (if (bt x0 0) < 122 then (logger_PlatformIndependentPathDirBaseExt.j2 k x0 x2 x4 2) else (if (bt x0 0) ≥ 65 then (if (bt x0 0) ≤ 90 then (logger_PlatformIndependentPathDirBaseExt.j2 k x0 x2 x4 2) else (logger_PlatformIndependentPathDirBaseExt.j2 k x0 x2 x4 x5)) else (logger_PlatformIndependentPathDirBaseExt.j2 k x0 x2 x4 x5))) else (if (bt x0 0) ≥ 65 then (if (bt x0 0) ≤ 90 then (logger_PlatformIndependentPathDirBaseExt.j2 k x0 x2 x4 2) else (logger_PlatformIndependentPathDirBaseExt.j2 k x0 x2 x4 x5)) else (logger_PlatformIndependentPathDirBaseExt.j2 k x0 x2 x4 x5))) else (none)) else (logger_PlatformIndependentPathDirBaseExt.j2 k x0 x2 x4 x5)
end
def logger_PlatformIndependentPathDirBaseExt.f (k : Nat) (a0 : ByteArray) : Option (ByteArray × ByteArray × ByteArray) := if (a0.size : Int) > 0 then (if 0 < (a0.size : Int) then (if (bt a0 0) = 47 then (logger_PlatformIndependentPathDirBaseExt.j0 k a0 (⟨#[]⟩ : ByteArray) (⟨#[]⟩ : ByteArray) (-1) true) else (logger_PlatformIndependentPathDirBaseExt.j0 k a0 (⟨#[]⟩ : ByteArray) (⟨#[]⟩ : ByteArray) (-1) ((bt a0 0) == 92))) else (none)) else (logger_PlatformIndependentPathDirBaseExt.j0 k a0 (⟨#[]⟩ : ByteArray) (⟨#[]⟩ : ByteArray) (-1) false)
theorem logger_PlatformIndependentPathDirBaseExt.mono_l : ∀ k, (∀ y0 y1 y2 y3 y4, LeO (logger_PlatformIndependentPathDirBaseExt.j0 k y0 y1 y2 y3 y4) (logger_PlatformIndependentPathDirBaseExt.j0 (k + 1) y0 y1 y2 y3 y4)) ∧ (∀ y0 y1 y2 y3, LeO (logger_PlatformIndependentPathDirBaseExt.j2 k y0 y1 y2 y3) (logger_PlatformIndependentPathDirBaseExt.j2 (k + 1) y0 y1 y2 y3)) ∧ (∀ y0 y1 y2, LeO (logger_PlatformIndependentPathDirBaseExt.j4 k y0 y1 y2) (logger_PlatformIndependentPathDirBaseExt.j4 (k + 1) y0 y1 y2)) ∧ (∀ y0 y1 y2 y3, LeO (logger_PlatformIndependentPathDirBaseExt.l0 k y0 y1 y2 y3) (logger_PlatformIndependentPathDirBaseExt.l0 (k + 1) y0 y1 y2 y3)) ∧ (∀ y0 y1 y2 y3 y4, LeO (logger_PlatformIndependentPathDirBaseExt.j1 k y0 y1 y2 y3 y4) (logger_PlatformIndependentPathDirBaseExt.j1 (k + 1) y0 y1 y2 y3 y4))
  | 0 => ⟨fun _ _ _ _ _ r h => by simp [logger_PlatformIndependentPathDirBaseExt.j0] at h, fun _ _ _ _ r h => by simp [logger_PlatformIndependentPathDirBaseExt.j2] at h, fun _ _ _ r h => by simp [logger_PlatformIndependentPathDirBaseExt.j4] at h, fun _ _ _ _ r h => by simp [logger_PlatformIndependentPathDirBaseExt.l0] at h, fun _ _ _ _ _ r h => by simp [logger_PlatformIndependentPathDirBaseExt.j1] at h⟩
  | k + 1 => by
    obtain ⟨ih0, ih1, ih2, ih3, ih4⟩ := logger_PlatformIndependentPathDirBaseExt.mono_l k
    refine ⟨?_, ?_, ?_, ?_, ?_⟩
    · intro y0 y1 y2 y3 y4
      unfold logger_PlatformIndependentPathDirBaseExt.j0
      repeat' first
      | (with_reducible exact ih0 _ _ _ _ _)
      | (with_reducible exact ih1 _ _ _ _)
      | (with_reducible exact ih2 _ _ _)
      | (with_reducible exact ih3 _ _ _ _)
      | (with_reducible exact ih4 _ _ _ _ _)
      | (with_reducible exact strings_LastIndexByte.mono _ _ _)
      | (with_reducible exact LeO.refl _)
      | (with_reducible exact LeO.none _)
      | (with_reducible refine LeO.ite ?_ ?_)
      | (with_reducible refine LeO.bind ?_ (fun _ => ?_))
      | exact ih0 _ _ _ _ _
      | exact ih1 _ _ _ _
      | exact ih2 _ _ _
      | exact ih3 _ _ _ _
      | exact ih4 _ _ _ _ _
      | exact strings_LastIndexByte.mono _ _ _
      | exact LeO.none _
      | refine LeO.ite ?_ ?_
      | refine LeO.bind ?_ (fun _ => ?_)
    · intro y0 y1 y2 y3
      unfold logger_PlatformIndependentPathDirBaseExt.j2
      repeat' first
      | (with_reducible exact ih0 _ _ _ _ _)
      | (with_reducible exact ih1 _ _ _ _)
      | (with_reducible exact ih2 _ _ _)
      | (with_reducible exact ih3 _ _ _ _)
      | (with_reducible exact ih4 _ _ _ _ _)
      | (with_reducible exact strings_LastIndexByte.mono _ _ _)
      | (with_reducible exact LeO.refl _)
      | (with_reducible exact LeO.none _)
      | (with_reducible refine LeO.ite ?_ ?_)
      | (with_reducible refine LeO.bind ?_ (fun _ => ?_))
      | exact ih0 _ _ _ _ _
      | exact ih1 _ _ _ _
      | exact ih2 _ _ _
      | exact ih3 _ _ _ _
      | exact ih4 _ _ _ _ _
      | exact strings_LastIndexByte.mono _ _ _
      | exact LeO.none _
      | refine LeO.ite ?_ ?_
      | refine LeO.bind ?_ (fun _ => ?_)
    · intro y0 y1 y2
      unfold logger_PlatformIndependentPathDirBaseExt.j4
      repeat' first
      | (with_reducible exact ih0 _ _ _ _ _)
      | (with_reducible exact ih1 _ _ _ _)
      | (with_reducible exact ih2 _ _ _)
      | (with_reducible exact ih3 _ _ _ _)
      | (with_reducible exact ih4 _ _ _ _ _)
      | (with_reducible exact strings_LastIndexByte.mono _ _ _)
      | (with_reducible exact LeO.refl _)
      | (with_reducible exact LeO.none _)
      | (with_reducible refine LeO.ite ?_ ?_)
      | (with_reducible refine LeO.bind ?_ (fun _ => ?_))
      | exact ih0 _ _ _ _ _
      | exact ih1 _ _ _ _
      | exact ih2 _ _ _
      | exact ih3 _ _ _ _
      | exact ih4 _ _ _ _ _
      | exact strings_LastIndexByte.mono _ _ _
      | exact LeO.none _
      | refine LeO.ite ?_ ?_
      | refine LeO.bind ?_ (fun _ => ?_)
    · intro y0 y1 y2 y3
      unfold logger_PlatformIndependentPathDirBaseExt.l0
      repeat' first
      | (with_reducible exact ih0 _ _ _ _ _)
      | (with_reducible exact ih1 _ _ _ _)
      | (with_reducible exact ih2 _ _ _)
      | (with_reducible exact ih3 _ _ _ _)
      | (with_reducible exact ih4 _ _ _ _ _)
      | (with_reducible exact strings_LastIndexByte.mono _ _ _)
      | (with_reducible exact LeO.refl _)
      | (with_reducible exact LeO.none _)
      | (with_reducible refine LeO.ite ?_ ?_)
      | (with_reducible refine LeO.bind ?_ (fun _ => ?_))
      | exact ih0 _ _ _ _ _
      | exact ih1 _ _ _ _
      | exact ih2 _ _ _
      | exact ih3 _ _ _ _
      | exact ih4 _ _ _ _ _
      | exact strings_LastIndexByte.mono _ _ _
      | exact LeO.none _
      | refine LeO.ite ?_ ?_
      | refine LeO.bind ?_ (fun _ => ?_)
    · intro y0 y1 y2 y3 y4
      unfold logger_PlatformIndependentPathDirBaseExt.j1
      repeat' first
      | (with_reducible exact ih0 _ _ _ _ _)
      | (with_reducible exact ih1 _ _ _ _)
      | (with_reducible exact ih2 _ _ _)
      | (with_reducible exact ih3 _ _ _ _)
      | (with_reducible exact ih4 _ _ _ _ _)
      | (with_reducible exact strings_LastIndexByte.mono _ _ _)
      | (with_reducible exact LeO.refl _)
      | (with_reducible exact LeO.none _)
      | (with_reducible refine LeO.ite ?_ ?_)
      | (with_reducible refine LeO.bind ?_ (fun _ => ?_))
      | exact ih0 _ _ _ _ _
      | exact ih1 _ _ _ _
      | exact ih2 _ _ _
      | exact ih3 _ _ _ _
      | exact ih4 _ _ _ _ _
      | exact strings_LastIndexByte.mono _ _ _
      | exact LeO.none _
      | refine LeO.ite ?_ ?_
      | refine LeO.bind ?_ (fun _ => ?_)
theorem logger_PlatformIndependentPathDirBaseExt.mono : ∀ a0 k, LeO (logger_PlatformIndependentPathDirBaseExt.f k a0) (logger_PlatformIndependentPathDirBaseExt.f (k + 1) a0) := by
  intro a0 k
  obtain ⟨ih0, ih1, ih2, ih3, ih4⟩ := logger_PlatformIndependentPathDirBaseExt.mono_l k
  unfold logger_PlatformIndependentPathDirBaseExt.f
  repeat' first
      | (with_reducible exact ih0 _ _ _ _ _)
      | (with_reducible exact ih1 _ _ _ _)
      | (with_reducible exact ih2 _ _ _)
      | (with_reducible exact ih3 _ _ _ _)
      | (with_reducible exact ih4 _ _ _ _ _)
      | (with_reducible exact strings_LastIndexByte.mono _ _ _)
      | (with_reducible exact LeO.refl _)
      | (with_reducible exact LeO.none _)
      | (with_reducible refine LeO.ite ?_ ?_)
      | (with_reducible refine LeO.bind ?_ (fun _ => ?_))
      | exact ih0 _ _ _ _ _
      | exact ih1 _ _ _ _
      | exact ih2 _ _ _
      | exact ih3 _ _ _ _
      | exact ih4 _ _ _ _ _
      | exact strings_LastIndexByte.mono _ _ _
      | exact LeO.none _
      | refine LeO.ite ?_ ?_
      | refine LeO.bind ?_ (fun _ => ?_)
set_option maxHeartbeats 8000000 in
set_option maxRecDepth 100000 in
theorem logger_PlatformIndependentPathDirBaseExt.calls (k : Nat) (a0 : ByteArray) (r1 : ByteArray) (r2 : ByteArray) (r3 : ByteArray) (w : World) (h : logger_PlatformIndependentPathDirBaseExt.f k a0 = some (r1, r2, r3)) :
    Calls Try.prog 9 #[.string a0] w fun e w' => e = .returned (.tuple #[.string r1, .string r2, .string r3]) ∧ Below w.heap.size w w' := by
  have HB := Aside0.mk (Below.refl w.heap.size w)
  have H : (if (a0.size : Int) > 0 then (if 0 < (a0.size : Int) then (if (bt a0 0) = 47 then (logger_PlatformIndependentPathDirBaseExt.j0 k a0 (⟨#[]⟩ : ByteArray) (⟨#[]⟩ : ByteArray) (-1) true) else (logger_PlatformIndependentPathDirBaseExt.j0 k a0 (⟨#[]⟩ : ByteArray) (⟨#[]⟩ : ByteArray) (-1) ((bt a0 0) == 92))) else (none)) else (logger_PlatformIndependentPathDirBaseExt.j0 k a0 (⟨#[]⟩ : ByteArray) (⟨#[]⟩ : ByteArray) (-1) false)) = some (r1, r2, r3) := h
  clear h
  have HC2 := Aside0.mk H
  clear H
  go_enter Try.func9, Try.ntmps9
  go_upto_region 2 with (fail)
  repeat (go_quiet (fail); go_upto_region 2 with (fail))
  go_cut [22] (fun v22 wc => ∃ (kq : Nat) (x22_1 : Bool), v22 = .bool x22_1 ∧ Aside0 (logger_PlatformIndependentPathDirBaseExt.j0 kq a0 (⟨#[]⟩ : ByteArray) (⟨#[]⟩ : ByteArray) (-1) x22_1 = some (r1, r2, r3)) ∧ Aside0 (kq ≤ k) ∧ Aside0 (Below w.heap.size w wc))
  case first =>
    have H := HC2.out
    clear HC2
    by_cases c3 : (a0.size : Int) > 0
    · rw [if_pos c3] at H
      have c3b0 : decide (0 < (a0.size : Int)) = true := decide_eq_true c3
      have c3b1 : decide (0 < a0.size) = true := decide_eq_true (by omega)
      clear c3
      (first | rw [c3b0] | (simp only [i64_w, i32_w]; rw [c3b0]) | skip)
      by_cases c4 : 0 < (a0.size : Int)
      · rw [if_pos c4] at H
        have c4b0 : decide (0 < (a0.size : Int)) = true := decide_eq_true c4
        have c4b1 : decide (0 < a0.size) = true := decide_eq_true (by omega)
        clear c4
        by_cases c6 : (bt a0 0) = 47
        · rw [if_pos c6] at H
          have c6b0 : ((bt a0 0) == 47) = true := beq_iff_eq.mpr c6
          have c6b1 : ((bt a0 0) != 47) = false := bne_eq_false_iff_eq.mpr c6
          clear c6
          have H' := Aside0.mk H
          clear H
          have p5 : 0 ≤ (0 : Int) := (by omega)
          have q5 : 0 < a0.size := (by have : (0 : Int) < (a0.size : Int) := of_decide_eq_true (by first | (with_reducible assumption) | assumption); omega)
          have hx5 : ∀ h : 0 < a0.size, ((a0[0]'h).toNat : Int) = bt a0 0 := bt_at a0 0
          clear p5
          have qi5 : (0 < (a0.size : Int)) = True := eq_true (of_decide_eq_true (by first | (with_reducible assumption) | assumption))
          replace q5 := eq_true q5
          go_wp2
          repeat (go_quiet (fail); try go_wp2)
          go_meet
          case rel => exact ⟨_, (true), (by first | rfl | (simp; done) | (simp [*]; done)), H', ⟨by first | omega | exact Nat.le_refl _⟩, ⟨by repeat (first | (with_reducible first | exact HB.out | apply below_alloc | apply pw_below_drewN | apply below_drew1) | exact HB.out)⟩⟩
        · rw [if_neg c6] at H
          have c6b0 : ((bt a0 0) == 47) = false := beq_eq_false_iff_ne.mpr c6
          have c6b1 : ((bt a0 0) != 47) = true := bne_iff_ne.mpr c6
          have H' := Aside0.mk H
          clear H
          have p5 : 0 ≤ (0 : Int) := (by omega)
          have q5 : 0 < a0.size := (by have : (0 : Int) < (a0.size : Int) := of_decide_eq_true (by first | (with_reducible assumption) | assumption); omega)
          have hx5 : ∀ h : 0 < a0.size, ((a0[0]'h).toNat : Int) = bt a0 0 := bt_at a0 0
          clear p5
          have qi5 : (0 < (a0.size : Int)) = True := eq_true (of_decide_eq_true (by first | (with_reducible assumption) | assumption))
          replace q5 := eq_true q5
          have p7 : 0 ≤ (0 : Int) := (by omega)
          have q7 : 0 < a0.size := (by have : (0 : Int) < (a0.size : Int) := of_decide_eq_true (by first | (with_reducible assumption) | assumption); omega)
          have hx7 : ∀ h : 0 < a0.size, ((a0[0]'h).toNat : Int) = bt a0 0 := bt_at a0 0
          clear p7
          have qi7 : (0 < (a0.size : Int)) = True := eq_true (of_decide_eq_true (by first | (with_reducible assumption) | assumption))
          replace q7 := eq_true q7
          go_wp2
          repeat (go_quiet (fail); try go_wp2)
          go_meet
          case rel => exact ⟨_, (((bt a0 0) == 92)), (by first | rfl | (simp; done) | (simp [*]; done)), H', ⟨by first | omega | exact Nat.le_refl _⟩, ⟨by repeat (first | (with_reducible first | exact HB.out | apply below_alloc | apply pw_below_drewN | apply below_drew1) | exact HB.out)⟩⟩
      · rw [if_neg c4] at H
        exact absurd H (by simp)
    · rw [if_neg c3] at H
      have c3b0 : decide (0 < (a0.size : Int)) = false := decide_eq_false c3
      have c3b1 : decide (0 < a0.size) = false := decide_eq_false (by omega)
      clear c3
      (first | rw [c3b0] | (simp only [i64_w, i32_w]; rw [c3b0]) | skip)
      have H' := Aside0.mk H
      clear H
      go_wp2
      repeat (go_quiet (fail); try go_wp2)
      go_meet
      case rel => exact ⟨_, (false), (by first | rfl | (simp; done) | (simp [*]; done)), H', ⟨by first | omega | exact Nat.le_refl _⟩, ⟨by repeat (first | (with_reducible first | exact HB.out | apply below_alloc | apply pw_below_drewN | apply below_drew1) | exact HB.out)⟩⟩
  case rest =>
    clear HC2
    try clear p2
    try clear c3
    try clear c3b0
    try clear c3b1
    try clear c4
    try clear c4b0
    try clear c4b1
    try clear p5
    try clear q5
    try clear hx5
    try clear qi5
    try clear c6
    try clear c6b0
    try clear c6b1
    try clear p7
    try clear q7
    try clear hx7
    try clear qi7
    try clear p5
    try clear p7
    try clear q5
    try clear q7
    obtain ⟨kq, x22_1, rfl, HA, HJ1, HB⟩ := hcut
    cases kq with
    | zero => exact absurd HA.out (by simp [logger_PlatformIndependentPathDirBaseExt.j0])
    | succ kj1 =>
      have H := HA.out
      clear HA
      simp only [logger_PlatformIndependentPathDirBaseExt.j0] at H
      have HC8 := Aside0.mk H
      clear H
      go_upto_if 22 with (fail)
      repeat (go_quiet (fail); go_upto_if 22 with (fail))
      go_cut [5] (fun v5 wc => ∃ (kq : Nat) (x5_7 : Int), v5 = .int .i64 x5_7 ∧ Aside0 (logger_PlatformIndependentPathDirBaseExt.j2 kq a0 (⟨#[]⟩ : ByteArray) (⟨#[]⟩ : ByteArray) x5_7 = some (r1, r2, r3)) ∧ Aside0 (kq ≤ kj1) ∧ Aside0 (Below w.heap.size w wc))
      case first =>
        have H := HC8.out
        clear HC8
        by_cases c9 : x22_1 = true
        · subst c9
          have H1 : (logger_PlatformIndependentPathDirBaseExt.j2 kj1 a0 (⟨#[]⟩ : ByteArray) (⟨#[]⟩ : ByteArray) 0) = some (r1, r2, r3) := by rw [if_pos rfl] at H; exact H
          clear H
          have H := H1
          clear H1
          have H' := Aside0.mk H
          clear H
          go_wp2
          repeat (go_quiet (fail); try go_wp2)
          go_meet
          case rel => exact ⟨_, (0), (by first | rfl | (simp; done) | (simp [*]; done)), H', ⟨by have := HJ1.out; first | omega | exact Nat.le_refl _⟩, ⟨by repeat (first | (with_reducible first | exact HB.out | apply below_alloc | apply pw_below_drewN | apply below_drew1) | exact HB.out)⟩⟩
        · replace c9 := Bool.eq_false_iff.mpr c9
          subst c9
          have H1 : (if (a0.size : Int) > 2 then (if 1 < (a0.size : Int) then (if (bt a0 1) = 58 then (if 2 < (a0.size : Int) then (if (bt a0 2) = 47 then (logger_PlatformIndependentPathDirBaseExt.j1 kj1 a0 (⟨#[]⟩ : ByteArray) (⟨#[]⟩ : ByteArray) (-1) true) else (logger_PlatformIndependentPathDirBaseExt.j1 kj1 a0 (⟨#[]⟩ : ByteArray) (⟨#[]⟩ : ByteArray) (-1) ((bt a0 2) == 92))) else (none)) else (logger_PlatformIndependentPathDirBaseExt.j1 kj1 a0 (⟨#[]⟩ : ByteArray) (⟨#[]⟩ : ByteArray) (-1) false)) else (none)) else (logger_PlatformIndependentPathDirBaseExt.j1 kj1 a0 (⟨#[]⟩ : ByteArray) (⟨#[]⟩ : ByteArray) (-1) false)) = some (r1, r2, r3) := by rw [if_neg (show ¬ (false = true) by decide)] at H; exact H
          clear H
          have H := H1
          clear H1
          have HC10 := Aside0.mk H
          clear H
          go_upto_region 4 with (fail)
          repeat (go_quiet (fail); go_upto_region 4 with (fail))
          go_cut [40] (fun v40 wc => ∃ (kq : Nat) (x40_9 : Bool), v40 = .bool x40_9 ∧ Aside0 (logger_PlatformIndependentPathDirBaseExt.j1 kq a0 (⟨#[]⟩ : ByteArray) (⟨#[]⟩ : ByteArray) (-1) x40_9 = some (r1, r2, r3)) ∧ Aside0 (kq ≤ kj1) ∧ Aside0 (Below w.heap.size w wc))
          case first =>
            have H := HC10.out
            clear HC10
            by_cases c11 : (a0.size : Int) > 2
            · rw [if_pos c11] at H
              have c11b0 : decide (2 < (a0.size : Int)) = true := decide_eq_true c11
              have c11b1 : decide (2 < a0.size) = true := decide_eq_true (by omega)
              clear c11
              (first | rw [c11b0] | (simp only [i64_w, i32_w]; rw [c11b0]) | skip)
              by_cases c12 : 1 < (a0.size : Int)
              · rw [if_pos c12] at H
                have c12b0 : decide (1 < (a0.size : Int)) = true := decide_eq_true c12
                have c12b1 : decide (1 < a0.size) = true := decide_eq_true (by omega)
                clear c12
                by_cases c14 : (bt a0 1) = 58
                · rw [if_pos c14] at H
                  have c14b0 : ((bt a0 1) == 58) = true := beq_iff_eq.mpr c14
                  have c14b1 : ((bt a0 1) != 58) = false := bne_eq_false_iff_eq.mpr c14
                  clear c14
                  by_cases c15 : 2 < (a0.size : Int)
                  · rw [if_pos c15] at H
                    have c15b0 : decide (2 < (a0.size : Int)) = true := decide_eq_true c15
                    have c15b1 : decide (2 < a0.size) = true := decide_eq_true (by omega)
                    clear c15
                    by_cases c17 : (bt a0 2) = 47
                    · rw [if_pos c17] at H
                      have c17b0 : ((bt a0 2) == 47) = true := beq_iff_eq.mpr c17
                      have c17b1 : ((bt a0 2) != 47) = false := bne_eq_false_iff_eq.mpr c17
                      clear c17
                      have H' := Aside0.mk H
                      clear H
                      have p13 : 0 ≤ (1 : Int) := (by omega)
                      have q13 : 1 < a0.size := (by have : (1 : Int) < (a0.size : Int) := of_decide_eq_true (by first | (with_reducible assumption) | assumption); omega)
                      have hx13 : ∀ h : 1 < a0.size, ((a0[1]'h).toNat : Int) = bt a0 1 := bt_at a0 1
                      clear p13
                      have qi13 : (1 < (a0.size : Int)) = True := eq_true (of_decide_eq_true (by first | (with_reducible assumption) | assumption))
                      replace q13 := eq_true q13
                      have p16 : 0 ≤ (2 : Int) := (by omega)
                      have q16 : 2 < a0.size := (by have : (2 : Int) < (a0.size : Int) := of_decide_eq_true (by first | (with_reducible assumption) | assumption); omega)
                      have hx16 : ∀ h : 2 < a0.size, ((a0[2]'h).toNat : Int) = bt a0 2 := bt_at a0 2
                      clear p16
                      have qi16 : (2 < (a0.size : Int)) = True := eq_true (of_decide_eq_true (by first | (with_reducible assumption) | assumption))
                      replace q16 := eq_true q16
                      go_wp2
                      repeat (go_quiet (fail); try go_wp2)
                      go_meet
                      case rel => exact ⟨_, (true), (by first | rfl | (simp; done) | (simp [*]; done)), H', ⟨by have := HJ1.out; first | omega | exact Nat.le_refl _⟩, ⟨by repeat (first | (with_reducible first | exact HB.out | apply below_alloc | apply pw_below_drewN | apply below_drew1) | exact HB.out)⟩⟩
                    · rw [if_neg c17] at H
                      have c17b0 : ((bt a0 2) == 47) = false := beq_eq_false_iff_ne.mpr c17
                      have c17b1 : ((bt a0 2) != 47) = true := bne_iff_ne.mpr c17
                      have H' := Aside0.mk H
                      clear H
                      have p13 : 0 ≤ (1 : Int) := (by omega)
                      have q13 : 1 < a0.size := (by have : (1 : Int) < (a0.size : Int) := of_decide_eq_true (by first | (with_reducible assumption) | assumption); omega)
                      have hx13 : ∀ h : 1 < a0.size, ((a0[1]'h).toNat : Int) = bt a0 1 := bt_at a0 1
                      clear p13
                      have qi13 : (1 < (a0.size : Int)) = True := eq_true (of_decide_eq_true (by first | (with_reducible assumption) | assumption))
                      replace q13 := eq_true q13
                      have p16 : 0 ≤ (2 : Int) := (by omega)
                      have q16 : 2 < a0.size := (by have : (2 : Int) < (a0.size : Int) := of_decide_eq_true (by first | (with_reducible assumption) | assumption); omega)
                      have hx16 : ∀ h : 2 < a0.size, ((a0[2]'h).toNat : Int) = bt a0 2 := bt_at a0 2
                      clear p16
                      have qi16 : (2 < (a0.size : Int)) = True := eq_true (of_decide_eq_true (by first | (with_reducible assumption) | assumption))
                      replace q16 := eq_true q16
                      have p18 : 0 ≤ (2 : Int) := (by omega)
                      have q18 : 2 < a0.size := (by have : (2 : Int) < (a0.size : Int) := of_decide_eq_true (by first | (with_reducible assumption) | assumption); omega)
                      have hx18 : ∀ h : 2 < a0.size, ((a0[2]'h).toNat : Int) = bt a0 2 := bt_at a0 2
                      clear p18
                      have qi18 : (2 < (a0.size : Int)) = True := eq_true (of_decide_eq_true (by first | (with_reducible assumption) | assumption))
                      replace q18 := eq_true q18
                      go_wp2
                      repeat (go_quiet (fail); try go_wp2)
                      go_meet
                      case rel => exact ⟨_, (((bt a0 2) == 92)), (by first | rfl | (simp; done) | (simp [*]; done)), H', ⟨by have := HJ1.out; first | omega | exact Nat.le_refl _⟩, ⟨by repeat (first | (with_reducible first | exact HB.out | apply below_alloc | apply pw_below_drewN | apply below_drew1) | exact HB.out)⟩⟩
                  · rw [if_neg c15] at H
                    exact absurd H (by simp)
                · rw [if_neg c14] at H
                  have c14b0 : ((bt a0 1) == 58) = false := beq_eq_false_iff_ne.mpr c14
                  have c14b1 : ((bt a0 1) != 58) = true := bne_iff_ne.mpr c14
                  have H' := Aside0.mk H
                  clear H
                  have p13 : 0 ≤ (1 : Int) := (by omega)
                  have q13 : 1 < a0.size := (by have : (1 : Int) < (a0.size : Int) := of_decide_eq_true (by first | (with_reducible assumption) | assumption); omega)
                  have hx13 : ∀ h : 1 < a0.size, ((a0[1]'h).toNat : Int) = bt a0 1 := bt_at a0 1
                  clear p13
                  have qi13 : (1 < (a0.size : Int)) = True := eq_true (of_decide_eq_true (by first | (with_reducible assumption) | assumption))
                  replace q13 := eq_true q13
                  go_wp2
                  repeat (go_quiet (fail); try go_wp2)
                  go_meet
                  case rel => exact ⟨_, (false), (by first | rfl | (simp; done) | (simp [*]; done)), H', ⟨by have := HJ1.out; first | omega | exact Nat.le_refl _⟩, ⟨by repeat (first | (with_reducible first | exact HB.out | apply below_alloc | apply pw_below_drewN | apply below_drew1) | exact HB.out)⟩⟩
              · rw [if_neg c12] at H
                exact absurd H (by simp)
            · rw [if_neg c11] at H
              have c11b0 : decide (2 < (a0.size : Int)) = false := decide_eq_false c11
              have c11b1 : decide (2 < a0.size) = false := decide_eq_false (by omega)
              clear c11
              (first | rw [c11b0] | (simp only [i64_w, i32_w]; rw [c11b0]) | skip)
              have H' := Aside0.mk H
              clear H
              go_wp2
              repeat (go_quiet (fail); try go_wp2)
              go_meet
              case rel => exact ⟨_, (false), (by first | rfl | (simp; done) | (simp [*]; done)), H', ⟨by have := HJ1.out; first | omega | exact Nat.le_refl _⟩, ⟨by repeat (first | (with_reducible first | exact HB.out | apply below_alloc | apply pw_below_drewN | apply below_drew1) | exact HB.out)⟩⟩
          case rest =>
            clear HC10
            try clear c1
            try clear p1
            try clear q1
            try clear hx1
            try clear qi1
            try clear p2
            try clear c3
            try clear c3b0
            try clear c3b1
            try clear c4
            try clear c4b0
            try clear c4b1
            try clear p5
            try clear q5
            try clear hx5
            try clear qi5
            try clear c6
            try clear c6b0
            try clear c6b1
            try clear p7
            try clear q7
            try clear hx7
            try clear qi7
            try clear c9
            try clear c11
            try clear c11b0
            try clear c11b1
            try clear c12
            try clear c12b0
            try clear c12b1
            try clear p13
            try clear q13
            try clear hx13
            try clear qi13
            try clear c14
            try clear c14b0
            try clear c14b1
            try clear c15
            try clear c15b0
            try clear c15b1
            try clear p16
            try clear q16
            try clear hx16
            try clear qi16
            try clear c17
            try clear c17b0
            try clear c17b1
            try clear p18
            try clear q18
            try clear hx18
            try clear qi18
            try clear p13
            try clear p16
            try clear p18
            try clear p2
            try clear p5
            try clear p7
            try clear q13
            try clear q16
            try clear q18
            try clear q5
            try clear q7
            obtain ⟨kq, x40_9, rfl, HA, HJ9, HB⟩ := hcut
            cases kq with
            | zero => exact absurd HA.out (by simp [logger_PlatformIndependentPathDirBaseExt.j1])
            | succ kj9 =>
              have H := HA.out
              clear HA
              simp only [logger_PlatformIndependentPathDirBaseExt.j1] at H
              by_cases c19 : x40_9 = true
              · subst c19
                have H1 : (if 0 < (a0.size : Int) then (if (bt a0 0) ≥ 97 then (if (bt a0 0) < 122 then (logger_PlatformIndependentPathDirBaseExt.j2 kj9 a0 (⟨#[]⟩ : ByteArray) (⟨#[]⟩ : ByteArray) 2) else (if (bt a0 0) ≥ 65 then (if (bt a0 0) ≤ 90 then (logger_PlatformIndependentPathDirBaseExt.j2 kj9 a0 (⟨#[]⟩ : ByteArray) (⟨#[]⟩ : ByteArray) 2) else (logger_PlatformIndependentPathDirBaseExt.j2 kj9 a0 (⟨#[]⟩ : ByteArray) (⟨#[]⟩ : ByteArray) (-1))) else (logger_PlatformIndependentPathDirBaseExt.j2 kj9 a0 (⟨#[]⟩ : ByteArray) (⟨#[]⟩ : ByteArray) (-1)))) else (if (bt a0 0) ≥ 65 then (if (bt a0 0) ≤ 90 then (logger_PlatformIndependentPathDirBaseExt.j2 kj9 a0 (⟨#[]⟩ : ByteArray) (⟨#[]⟩ : ByteArray) 2) else (logger_PlatformIndependentPathDirBaseExt.j2 kj9 a0 (⟨#[]⟩ : ByteArray) (⟨#[]⟩ : ByteArray) (-1))) else (logger_PlatformIndependentPathDirBaseExt.j2 kj9 a0 (⟨#[]⟩ : ByteArray) (⟨#[]⟩ : ByteArray) (-1)))) else (none)) = some (r1, r2, r3) := by rw [if_pos rfl] at H; exact H
                clear H
                have H := H1
                clear H1
                by_cases c20 : 0 < (a0.size : Int)
                · rw [if_pos c20] at H
                  have c20b0 : decide (0 < (a0.size : Int)) = true := decide_eq_true c20
                  have c20b1 : decide (0 < a0.size) = true := decide_eq_true (by omega)
                  clear c20
                  by_cases c22 : (bt a0 0) ≥ 97
                  · rw [if_pos c22] at H
                    have c22b0 : decide (97 ≤ (bt a0 0)) = true := decide_eq_true c22
                    clear c22
                    by_cases c23 : (bt a0 0) < 122
                    · rw [if_pos c23] at H
                      have c23b0 : decide ((bt a0 0) < 122) = true := decide_eq_true c23
                      clear c23
                      have H' := Aside0.mk H
                      clear H
                      have p21 : 0 ≤ (0 : Int) := (by omega)
                      have q21 : 0 < a0.size := (by have : (0 : Int) < (a0.size : Int) := of_decide_eq_true (by first | (with_reducible assumption) | assumption); omega)
                      have hx21 : ∀ h : 0 < a0.size, ((a0[0]'h).toNat : Int) = bt a0 0 := bt_at a0 0
                      clear p21
                      have qi21 : (0 < (a0.size : Int)) = True := eq_true (of_decide_eq_true (by first | (with_reducible assumption) | assumption))
                      replace q21 := eq_true q21
                      go_wp2
                      repeat (go_quiet (fail); try go_wp2)
                      go_meet
                      case rel => exact ⟨_, (2), (by first | rfl | (simp; done) | (simp [*]; done)), H', ⟨by have := HJ1.out; have := HJ9.out; first | omega | exact Nat.le_refl _⟩, ⟨by repeat (first | (with_reducible first | exact HB.out | apply below_alloc | apply pw_below_drewN | apply below_drew1) | exact HB.out)⟩⟩
                    · rw [if_neg c23] at H
                      have c23b0 : decide ((bt a0 0) < 122) = false := decide_eq_false c23
                      clear c23
                      by_cases c24 : (bt a0 0) ≥ 65
                      · rw [if_pos c24] at H
                        have c24b0 : decide (65 ≤ (bt a0 0)) = true := decide_eq_true c24
                        clear c24
                        by_cases c25 : (bt a0 0) ≤ 90
                        · rw [if_pos c25] at H
                          have c25b0 : decide ((bt a0 0) ≤ 90) = true := decide_eq_true c25
                          clear c25
                          have H' := Aside0.mk H
                          clear H
                          have p21 : 0 ≤ (0 : Int) := (by omega)
                          have q21 : 0 < a0.size := (by have : (0 : Int) < (a0.size : Int) := of_decide_eq_true (by first | (with_reducible assumption) | assumption); omega)
                          have hx21 : ∀ h : 0 < a0.size, ((a0[0]'h).toNat : Int) = bt a0 0 := bt_at a0 0
                          clear p21
                          have qi21 : (0 < (a0.size : Int)) = True := eq_true (of_decide_eq_true (by first | (with_reducible assumption) | assumption))
                          replace q21 := eq_true q21
                          go_wp2
                          repeat (go_quiet (fail); try go_wp2)
                          go_meet
                          case rel => exact ⟨_, (2), (by first | rfl | (simp; done) | (simp [*]; done)), H', ⟨by have := HJ1.out; have := HJ9.out; first | omega | exact Nat.le_refl _⟩, ⟨by repeat (first | (with_reducible first | exact HB.out | apply below_alloc | apply pw_below_drewN | apply below_drew1) | exact HB.out)⟩⟩
                        · rw [if_neg c25] at H
                          have c25b0 : decide ((bt a0 0) ≤ 90) = false := decide_eq_false c25
                          clear c25
                          have H' := Aside0.mk H
                          clear H
                          have p21 : 0 ≤ (0 : Int) := (by omega)
                          have q21 : 0 < a0.size := (by have : (0 : Int) < (a0.size : Int) := of_decide_eq_true (by first | (with_reducible assumption) | assumption); omega)
                          have hx21 : ∀ h : 0 < a0.size, ((a0[0]'h).toNat : Int) = bt a0 0 := bt_at a0 0
                          clear p21
                          have qi21 : (0 < (a0.size : Int)) = True := eq_true (of_decide_eq_true (by first | (with_reducible assumption) | assumption))
                          replace q21 := eq_true q21
                          go_wp2
                          repeat (go_quiet (fail); try go_wp2)
                          go_meet
                          case rel => exact ⟨_, ((-1)), (by first | rfl | (simp; done) | (simp [*]; done)), H', ⟨by have := HJ1.out; have := HJ9.out; first | omega | exact Nat.le_refl _⟩, ⟨by repeat (first | (with_reducible first | exact HB.out | apply below_alloc | apply pw_below_drewN | apply below_drew1) | exact HB.out)⟩⟩
                      · rw [if_neg c24] at H
                        have c24b0 : decide (65 ≤ (bt a0 0)) = false := decide_eq_false c24
                        clear c24
                        have H' := Aside0.mk H
                        clear H
                        have p21 : 0 ≤ (0 : Int) := (by omega)
                        have q21 : 0 < a0.size := (by have : (0 : Int) < (a0.size : Int) := of_decide_eq_true (by first | (with_reducible assumption) | assumption); omega)
                        have hx21 : ∀ h : 0 < a0.size, ((a0[0]'h).toNat : Int) = bt a0 0 := bt_at a0 0
                        clear p21
                        have qi21 : (0 < (a0.size : Int)) = True := eq_true (of_decide_eq_true (by first | (with_reducible assumption) | assumption))
                        replace q21 := eq_true q21
                        go_wp2
                        repeat (go_quiet (fail); try go_wp2)
                        go_meet
                        case rel => exact ⟨_, ((-1)), (by first | rfl | (simp; done) | (simp [*]; done)), H', ⟨by have := HJ1.out; have := HJ9.out; first | omega | exact Nat.le_refl _⟩, ⟨by repeat (first | (with_reducible first | exact HB.out | apply below_alloc | apply pw_below_drewN | apply below_drew1) | exact HB.out)⟩⟩
                  · rw [if_neg c22] at H
                    have c22b0 : decide (97 ≤ (bt a0 0)) = false := decide_eq_false c22
                    clear c22
                    by_cases c26 : (bt a0 0) ≥ 65
                    · rw [if_pos c26] at H
                      have c26b0 : decide (65 ≤ (bt a0 0)) = true := decide_eq_true c26
                      clear c26
                      by_cases c27 : (bt a0 0) ≤ 90
                      · rw [if_pos c27] at H
                        have c27b0 : decide ((bt a0 0) ≤ 90) = true := decide_eq_true c27
                        clear c27
                        have H' := Aside0.mk H
                        clear H
                        have p21 : 0 ≤ (0 : Int) := (by omega)
                        have q21 : 0 < a0.size := (by have : (0 : Int) < (a0.size : Int) := of_decide_eq_true (by first | (with_reducible assumption) | assumption); omega)
                        have hx21 : ∀ h : 0 < a0.size, ((a0[0]'h).toNat : Int) = bt a0 0 := bt_at a0 0
                        clear p21
                        have qi21 : (0 < (a0.size : Int)) = True := eq_true (of_decide_eq_true (by first | (with_reducible assumption) | assumption))
                        replace q21 := eq_true q21
                        go_wp2
                        repeat (go_quiet (fail); try go_wp2)
                        go_meet
                        case rel => exact ⟨_, (2), (by first | rfl | (simp; done) | (simp [*]; done)), H', ⟨by have := HJ1.out; have := HJ9.out; first | omega | exact Nat.le_refl _⟩, ⟨by repeat (first | (with_reducible first | exact HB.out | apply below_alloc | apply pw_below_drewN | apply below_drew1) | exact HB.out)⟩⟩
                      · rw [if_neg c27] at H
                        have c27b0 : decide ((bt a0 0) ≤ 90) = false := decide_eq_false c27
                        clear c27
                        have H' := Aside0.mk H
                        clear H
                        have p21 : 0 ≤ (0 : Int) := (by omega)
                        have q21 : 0 < a0.size := (by have : (0 : Int) < (a0.size : Int) := of_decide_eq_true (by first | (with_reducible assumption) | assumption); omega)
                        have hx21 : ∀ h : 0 < a0.size, ((a0[0]'h).toNat : Int) = bt a0 0 := bt_at a0 0
                        clear p21
                        have qi21 : (0 < (a0.size : Int)) = True := eq_true (of_decide_eq_true (by first | (with_reducible assumption) | assumption))
                        replace q21 := eq_true q21
                        go_wp2
                        repeat (go_quiet (fail); try go_wp2)
                        go_meet
                        case rel => exact ⟨_, ((-1)), (by first | rfl | (simp; done) | (simp [*]; done)), H', ⟨by have := HJ1.out; have := HJ9.out; first | omega | exact Nat.le_refl _⟩, ⟨by repeat (first | (with_reducible first | exact HB.out | apply below_alloc | apply pw_below_drewN | apply below_drew1) | exact HB.out)⟩⟩
                    · rw [if_neg c26] at H
                      have c26b0 : decide (65 ≤ (bt a0 0)) = false := decide_eq_false c26
                      clear c26
                      have H' := Aside0.mk H
                      clear H
                      have p21 : 0 ≤ (0 : Int) := (by omega)
                      have q21 : 0 < a0.size := (by have : (0 : Int) < (a0.size : Int) := of_decide_eq_true (by first | (with_reducible assumption) | assumption); omega)
                      have hx21 : ∀ h : 0 < a0.size, ((a0[0]'h).toNat : Int) = bt a0 0 := bt_at a0 0
                      clear p21
                      have qi21 : (0 < (a0.size : Int)) = True := eq_true (of_decide_eq_true (by first | (with_reducible assumption) | assumption))
                      replace q21 := eq_true q21
                      go_wp2
                      repeat (go_quiet (fail); try go_wp2)
                      go_meet
                      case rel => exact ⟨_, ((-1)), (by first | rfl | (simp; done) | (simp [*]; done)), H', ⟨by have := HJ1.out; have := HJ9.out; first | omega | exact Nat.le_refl _⟩, ⟨by repeat (first | (with_reducible first | exact HB.out | apply below_alloc | apply pw_below_drewN | apply below_drew1) | exact HB.out)⟩⟩
                · rw [if_neg c20] at H
                  exact absurd H (by simp)
              · replace c19 := Bool.eq_false_iff.mpr c19
                subst c19
                have H1 : (logger_PlatformIndependentPathDirBaseExt.j2 kj9 a0 (⟨#[]⟩ : ByteArray) (⟨#[]⟩ : ByteArray) (-1)) = some (r1, r2, r3) := by rw [if_neg (show ¬ (false = true) by decide)] at H; exact H
                clear H
                have H := H1
                clear H1
                have H' := Aside0.mk H
                clear H
                go_wp2
                repeat (go_quiet (fail); try go_wp2)
                go_meet
                case rel => exact ⟨_, ((-1)), (by first | rfl | (simp; done) | (simp [*]; done)), H', ⟨by have := HJ1.out; have := HJ9.out; first | omega | exact Nat.le_refl _⟩, ⟨by repeat (first | (with_reducible first | exact HB.out | apply below_alloc | apply pw_below_drewN | apply below_drew1) | exact HB.out)⟩⟩
      case rest =>
        clear HC8
        try clear c1
        try clear p1
        try clear q1
        try clear hx1
        try clear qi1
        try clear c2
        try clear p2
        try clear q2
        try clear hx2
        try clear qi2
        try clear c3
        try clear c3b0
        try clear c3b1
        try clear c4
        try clear c4b0
        try clear c4b1
        try clear p5
        try clear q5
        try clear hx5
        try clear qi5
        try clear c6
        try clear c6b0
        try clear c6b1
        try clear p7
        try clear q7
        try clear hx7
        try clear qi7
        try clear c9
        try clear c11
        try clear c11b0
        try clear c11b1
        try clear c12
        try clear c12b0
        try clear c12b1
        try clear p13
        try clear q13
        try clear hx13
        try clear qi13
        try clear c14
        try clear c14b0
        try clear c14b1
        try clear c15
        try clear c15b0
        try clear c15b1
        try clear p16
        try clear q16
        try clear hx16
        try clear qi16
        try clear c17
        try clear c17b0
        try clear c17b1
        try clear p18
        try clear q18
        try clear hx18
        try clear qi18
        try clear c19
        try clear c20
        try clear c20b0
        try clear c20b1
        try clear p21
        try clear q21
        try clear hx21
        try clear qi21
        try clear c22
        try clear c22b0
        try clear c23
        try clear c23b0
        try clear c24
        try clear c24b0
        try clear c25
        try clear c25b0
        try clear c26
        try clear c26b0
        try clear c27
        try clear c27b0
        try clear p1
        try clear p13
        try clear p16
        try clear p18
        try clear p2
        try clear p21
        try clear p5
        try clear p7
        try clear q1
        try clear q13
        try clear q16
        try clear q18
        try clear q21
        try clear q5
        try clear q7
        obtain ⟨kq, x5_7, rfl, HA, HJ7, HB⟩ := hcut
        cases kq with
        | zero => exact absurd HA.out (by simp [logger_PlatformIndependentPathDirBaseExt.j2])
        | succ kj7 =>
          have H := HA.out
          clear HA
          simp only [logger_PlatformIndependentPathDirBaseExt.j2] at H
          have HC28 := Aside0.mk H
          clear H
          go_upto_block 0 with (fail)
          repeat (go_quiet (fail); go_upto_block 0 with (fail))
          go_cut [2, 3] (fun v2 v3 wc => ∃ (kq : Nat) (x2_27 : ByteArray) (x3_27 : ByteArray), v2 = .string x2_27 ∧ v3 = .string x3_27 ∧ Aside0 (logger_PlatformIndependentPathDirBaseExt.j4 kq x2_27 x3_27 (⟨#[]⟩ : ByteArray) = some (r1, r2, r3)) ∧ Aside0 (kq ≤ kj7) ∧ Aside0 (Below w.heap.size w wc))
          case first =>
            have H := HC28.out
            clear HC28
            have H' := Aside0.mk H
            clear H
            go_wp2
            repeat (go_quiet (fail); try go_wp2)
            go_loopg [0, 2] kj7 (fun kq v0 v2 w' => ∃ (x0_3 : ByteArray) (x2_3 : ByteArray), v0 = .string x0_3 ∧ v2 = .string x2_3 ∧ Aside0 (logger_PlatformIndependentPathDirBaseExt.l0 kq x0_3 x2_3 (⟨#[]⟩ : ByteArray) x5_7 = some (r1, r2, r3)) ∧ Aside0 (kq ≤ kj7) ∧ Aside0 (Below w.heap.size w w'))
            case atStart => exact ⟨(a0), ((⟨#[]⟩ : ByteArray)), (by first | rfl | (simp; done) | (simp [*]; done)), (by first | rfl | (simp; done) | (simp [*]; done)), H', ⟨Nat.le_refl _⟩, ⟨by repeat (first | (with_reducible first | exact HB.out | apply below_alloc | apply pw_below_drewN | apply below_drew1) | exact HB.out)⟩⟩
            case round =>
              clear H'
              try clear c1
              try clear p1
              try clear q1
              try clear hx1
              try clear qi1
              try clear c2
              try clear p2
              try clear q2
              try clear hx2
              try clear qi2
              try clear c3
              try clear c3b0
              try clear c3b1
              try clear c4
              try clear c4b0
              try clear c4b1
              try clear p5
              try clear q5
              try clear hx5
              try clear qi5
              try clear c6
              try clear c6b0
              try clear c6b1
              try clear p7
              try clear q7
              try clear hx7
              try clear qi7
              try clear c9
              try clear c11
              try clear c11b0
              try clear c11b1
              try clear c12
              try clear c12b0
              try clear c12b1
              try clear p13
              try clear q13
              try clear hx13
              try clear qi13
              try clear c14
              try clear c14b0
              try clear c14b1
              try clear c15
              try clear c15b0
              try clear c15b1
              try clear p16
              try clear q16
              try clear hx16
              try clear qi16
              try clear c17
              try clear c17b0
              try clear c17b1
              try clear p18
              try clear q18
              try clear hx18
              try clear qi18
              try clear c19
              try clear c20
              try clear c20b0
              try clear c20b1
              try clear p21
              try clear q21
              try clear hx21
              try clear qi21
              try clear c22
              try clear c22b0
              try clear c23
              try clear c23b0
              try clear c24
              try clear c24b0
              try clear c25
              try clear c25b0
              try clear c26
              try clear c26b0
              try clear c27
              try clear c27b0
              try clear p1
              try clear p13
              try clear p16
              try clear p18
              try clear p2
              try clear p21
              try clear p5
              try clear p7
              try clear q1
              try clear q13
              try clear q16
              try clear q18
              try clear q2
              try clear q21
              try clear q5
              try clear q7
              obtain ⟨x0_3, x2_3, rfl, rfl, HA, HK3, HB⟩ := hrel
              cases gk with
              | zero => exact absurd HA.out (by simp [logger_PlatformIndependentPathDirBaseExt.l0])
              | succ k3 =>
                have H := HA.out
                clear HA
                simp only [logger_PlatformIndependentPathDirBaseExt.l0] at H
                replace H := Option.bind_eq_some_iff.mp H
                obtain ⟨t102, A290, H⟩ := H
                replace H : ((strings_LastIndexByte.f k3 x0_3 92).bind fun t103 => (if (mx t102 t103) < 0 then (logger_PlatformIndependentPathDirBaseExt.j4 k3 x2_3 x0_3 (⟨#[]⟩ : ByteArray)) else (if (mx t102 t103) = x5_7 then (if 0 ≤ (wrap64 ((mx t102 t103) + 1)) then (if (wrap64 ((mx t102 t103) + 1)) ≤ (x0_3.size : Int) then (logger_PlatformIndependentPathDirBaseExt.j4 k3 (x0_3.extract 0 ((wrap64 ((mx t102 t103) + 1)) : Int).toNat) (x0_3.extract ((wrap64 ((mx t102 t103) + 1)) : Int).toNat x0_3.size) (⟨#[]⟩ : ByteArray)) else (none)) else (none)) else (if (wrap64 ((mx t102 t103) + 1)) = (x0_3.size : Int) then (if 0 ≤ (mx t102 t103) then (if (mx t102 t103) ≤ (x0_3.size : Int) then (logger_PlatformIndependentPathDirBaseExt.l0 k3 (x0_3.extract 0 ((mx t102 t103) : Int).toNat) x2_3 (⟨#[]⟩ : ByteArray) x5_7) else (none)) else (none)) else (if 0 ≤ (mx t102 t103) then (if (mx t102 t103) ≤ (x0_3.size : Int) then (if 0 ≤ (wrap64 ((mx t102 t103) + 1)) then (if (wrap64 ((mx t102 t103) + 1)) ≤ (x0_3.size : Int) then (logger_PlatformIndependentPathDirBaseExt.j4 k3 (x0_3.extract 0 ((mx t102 t103) : Int).toNat) (x0_3.extract ((wrap64 ((mx t102 t103) + 1)) : Int).toNat x0_3.size) (⟨#[]⟩ : ByteArray)) else (none)) else (none)) else (none)) else (none)))))) = some (r1, r2, r3) := H
                have A29 := Aside0.mk A290
                clear A290
                replace H := Option.bind_eq_some_iff.mp H
                obtain ⟨t103, A300, H⟩ := H
                replace H : (if (mx t102 t103) < 0 then (logger_PlatformIndependentPathDirBaseExt.j4 k3 x2_3 x0_3 (⟨#[]⟩ : ByteArray)) else (if (mx t102 t103) = x5_7 then (if 0 ≤ (wrap64 ((mx t102 t103) + 1)) then (if (wrap64 ((mx t102 t103) + 1)) ≤ (x0_3.size : Int) then (logger_PlatformIndependentPathDirBaseExt.j4 k3 (x0_3.extract 0 ((wrap64 ((mx t102 t103) + 1)) : Int).toNat) (x0_3.extract ((wrap64 ((mx t102 t103) + 1)) : Int).toNat x0_3.size) (⟨#[]⟩ : ByteArray)) else (none)) else (none)) else (if (wrap64 ((mx t102 t103) + 1)) = (x0_3.size : Int) then (if 0 ≤ (mx t102 t103) then (if (mx t102 t103) ≤ (x0_3.size : Int) then (logger_PlatformIndependentPathDirBaseExt.l0 k3 (x0_3.extract 0 ((mx t102 t103) : Int).toNat) x2_3 (⟨#[]⟩ : ByteArray) x5_7) else (none)) else (none)) else (if 0 ≤ (mx t102 t103) then (if (mx t102 t103) ≤ (x0_3.size : Int) then (if 0 ≤ (wrap64 ((mx t102 t103) + 1)) then (if (wrap64 ((mx t102 t103) + 1)) ≤ (x0_3.size : Int) then (logger_PlatformIndependentPathDirBaseExt.j4 k3 (x0_3.extract 0 ((mx t102 t103) : Int).toNat) (x0_3.extract ((wrap64 ((mx t102 t103) + 1)) : Int).toNat x0_3.size) (⟨#[]⟩ : ByteArray)) else (none)) else (none)) else (none)) else (none))))) = some (r1, r2, r3) := H
                have A30 := Aside0.mk A300
                clear A300
                obtain ⟨ji31, hji31⟩ : ∃ j_ : Int, (mx t102 t103) = j_ := ⟨_, rfl⟩
                replace H : (if (ji31) < 0 then (logger_PlatformIndependentPathDirBaseExt.j4 k3 x2_3 x0_3 (⟨#[]⟩ : ByteArray)) else (if (ji31) = x5_7 then (if 0 ≤ (wrap64 ((ji31) + 1)) then (if (wrap64 ((ji31) + 1)) ≤ (x0_3.size : Int) then (logger_PlatformIndependentPathDirBaseExt.j4 k3 (x0_3.extract 0 ((wrap64 ((ji31) + 1)) : Int).toNat) (x0_3.extract ((wrap64 ((ji31) + 1)) : Int).toNat x0_3.size) (⟨#[]⟩ : ByteArray)) else (none)) else (none)) else (if (wrap64 ((ji31) + 1)) = (x0_3.size : Int) then (if 0 ≤ (ji31) then (if (ji31) ≤ (x0_3.size : Int) then (logger_PlatformIndependentPathDirBaseExt.l0 k3 (x0_3.extract 0 ((ji31) : Int).toNat) x2_3 (⟨#[]⟩ : ByteArray) x5_7) else (none)) else (none)) else (if 0 ≤ (ji31) then (if (ji31) ≤ (x0_3.size : Int) then (if 0 ≤ (wrap64 ((ji31) + 1)) then (if (wrap64 ((ji31) + 1)) ≤ (x0_3.size : Int) then (logger_PlatformIndependentPathDirBaseExt.j4 k3 (x0_3.extract 0 ((ji31) : Int).toNat) (x0_3.extract ((wrap64 ((ji31) + 1)) : Int).toNat x0_3.size) (⟨#[]⟩ : ByteArray)) else (none)) else (none)) else (none)) else (none))))) = some (r1, r2, r3) := by first | (rw [hji31] at H; exact H) | (simp only [hji31] at H ⊢; exact H)
                (try rw [hji31] at A29)
                (try rw [hji31] at A30)
                have hji31_ : (if t102 < t103 then t103 else t102) = ji31 := hji31
                by_cases c32 : (ji31) < 0
                · rw [if_pos c32] at H
                  have c32b0 : decide ((ji31) < 0) = true := decide_eq_true c32
                  clear c32
                  (first | rw [c32b0] | (simp only [i64_w, i32_w]; rw [c32b0]) | skip)
                  have H' := Aside0.mk H
                  clear H
                  go_wp2_with (first | (go_at_call 14; (with_reducible refine (strings_LastIndexByte.calls k3 x0_3 47 t102 _ A29.out).mono ?_); rintro e w' ⟨rfl, ⟨nd, rfl⟩⟩; (try first | exact ⟨rfl, _, World.drewN_drewN _ _ _⟩ | exact ⟨rfl, _, Eq.trans (World.drewN_drewN _ _ _) (congrArg (World.drewN _) (Nat.add_assoc _ _ _))⟩)) | (go_at_call 14; (with_reducible refine (strings_LastIndexByte.calls k3 x0_3 92 t103 _ A30.out).mono ?_); rintro e w' ⟨rfl, ⟨nd, rfl⟩⟩; (try first | exact ⟨rfl, _, World.drewN_drewN _ _ _⟩ | exact ⟨rfl, _, Eq.trans (World.drewN_drewN _ _ _) (congrArg (World.drewN _) (Nat.add_assoc _ _ _))⟩)))
                  repeat (go_quiet (first | (go_at_call 14; (with_reducible refine (strings_LastIndexByte.calls k3 x0_3 47 t102 _ A29.out).mono ?_); rintro e w' ⟨rfl, ⟨nd, rfl⟩⟩; (try first | exact ⟨rfl, _, World.drewN_drewN _ _ _⟩ | exact ⟨rfl, _, Eq.trans (World.drewN_drewN _ _ _) (congrArg (World.drewN _) (Nat.add_assoc _ _ _))⟩)) | (go_at_call 14; (with_reducible refine (strings_LastIndexByte.calls k3 x0_3 92 t103 _ A30.out).mono ?_); rintro e w' ⟨rfl, ⟨nd, rfl⟩⟩; (try first | exact ⟨rfl, _, World.drewN_drewN _ _ _⟩ | exact ⟨rfl, _, Eq.trans (World.drewN_drewN _ _ _) (congrArg (World.drewN _) (Nat.add_assoc _ _ _))⟩))); try go_wp2_with (first | (go_at_call 14; (with_reducible refine (strings_LastIndexByte.calls k3 x0_3 47 t102 _ A29.out).mono ?_); rintro e w' ⟨rfl, ⟨nd, rfl⟩⟩; (try first | exact ⟨rfl, _, World.drewN_drewN _ _ _⟩ | exact ⟨rfl, _, Eq.trans (World.drewN_drewN _ _ _) (congrArg (World.drewN _) (Nat.add_assoc _ _ _))⟩)) | (go_at_call 14; (with_reducible refine (strings_LastIndexByte.calls k3 x0_3 92 t103 _ A30.out).mono ?_); rintro e w' ⟨rfl, ⟨nd, rfl⟩⟩; (try first | exact ⟨rfl, _, World.drewN_drewN _ _ _⟩ | exact ⟨rfl, _, Eq.trans (World.drewN_drewN _ _ _) (congrArg (World.drewN _) (Nat.add_assoc _ _ _))⟩))))
                  go_meet
                  case rel => exact ⟨_, (x2_3), (x0_3), (by first | rfl | (simp; done) | (simp [*]; done)), (by first | rfl | (simp; done) | (simp [*]; done)), H', ⟨by have := HJ1.out; have := HJ7.out; have := HK3.out; first | omega | exact Nat.le_refl _⟩, ⟨by repeat (first | (with_reducible first | exact HB.out | apply below_alloc | apply pw_below_drewN | apply below_drew1) | exact HB.out)⟩⟩
                · rw [if_neg c32] at H
                  have c32b0 : decide ((ji31) < 0) = false := decide_eq_false c32
                  clear c32
                  (first | rw [c32b0] | (simp only [i64_w, i32_w]; rw [c32b0]) | skip)
                  by_cases c33 : (ji31) = x5_7
                  · rw [if_pos c33] at H
                    have c33b0 : ((ji31) == x5_7) = true := beq_iff_eq.mpr c33
                    have c33b1 : ((ji31) != x5_7) = false := bne_eq_false_iff_eq.mpr c33
                    clear c33
                    obtain ⟨ji34, hji34⟩ : ∃ j_ : Int, (wrap64 ((ji31) + 1)) = j_ := ⟨_, rfl⟩
                    replace H : (if 0 ≤ (ji34) then (if (ji34) ≤ (x0_3.size : Int) then (logger_PlatformIndependentPathDirBaseExt.j4 k3 (x0_3.extract 0 ((ji34) : Int).toNat) (x0_3.extract ((ji34) : Int).toNat x0_3.size) (⟨#[]⟩ : ByteArray)) else (none)) else (none)) = some (r1, r2, r3) := by first | (rw [hji34] at H; exact H) | (simp only [hji34] at H ⊢; exact H)
                    (try rw [hji34] at A29)
                    (try rw [hji34] at A30)
                    have hji34w : (IntKind.i64.wrap ((ji31) + 1)) = ji34 := (i64_w _).trans hji34
                    by_cases c35 : 0 ≤ (ji34)
                    · rw [if_pos c35] at H
                      have c35b0 := eq_true c35
                      have c35b1 : decide (0 ≤ (ji34)) = true := decide_eq_true c35
                      clear c35
                      by_cases c36 : (ji34) ≤ (x0_3.size : Int)
                      · rw [if_pos c36] at H
                        have c36b0 := eq_true c36
                        have c36b1 : decide ((ji34) ≤ (x0_3.size : Int)) = true := decide_eq_true c36
                        clear c36
                        have c37b0 := eq_true (of_decide_eq_true (by first | (with_reducible assumption) | assumption) : 0 ≤ (ji34))
                        have c38b0 := eq_true (of_decide_eq_true (by first | (with_reducible assumption) | assumption) : (ji34) ≤ (x0_3.size : Int))
                        have H' := Aside0.mk H
                        clear H
                        go_wp2_with (first | (go_at_call 14; (with_reducible refine (strings_LastIndexByte.calls k3 x0_3 47 t102 _ A29.out).mono ?_); rintro e w' ⟨rfl, ⟨nd, rfl⟩⟩; (try first | exact ⟨rfl, _, World.drewN_drewN _ _ _⟩ | exact ⟨rfl, _, Eq.trans (World.drewN_drewN _ _ _) (congrArg (World.drewN _) (Nat.add_assoc _ _ _))⟩)) | (go_at_call 14; (with_reducible refine (strings_LastIndexByte.calls k3 x0_3 92 t103 _ A30.out).mono ?_); rintro e w' ⟨rfl, ⟨nd, rfl⟩⟩; (try first | exact ⟨rfl, _, World.drewN_drewN _ _ _⟩ | exact ⟨rfl, _, Eq.trans (World.drewN_drewN _ _ _) (congrArg (World.drewN _) (Nat.add_assoc _ _ _))⟩)))
                        repeat (go_quiet (first | (go_at_call 14; (with_reducible refine (strings_LastIndexByte.calls k3 x0_3 47 t102 _ A29.out).mono ?_); rintro e w' ⟨rfl, ⟨nd, rfl⟩⟩; (try first | exact ⟨rfl, _, World.drewN_drewN _ _ _⟩ | exact ⟨rfl, _, Eq.trans (World.drewN_drewN _ _ _) (congrArg (World.drewN _) (Nat.add_assoc _ _ _))⟩)) | (go_at_call 14; (with_reducible refine (strings_LastIndexByte.calls k3 x0_3 92 t103 _ A30.out).mono ?_); rintro e w' ⟨rfl, ⟨nd, rfl⟩⟩; (try first | exact ⟨rfl, _, World.drewN_drewN _ _ _⟩ | exact ⟨rfl, _, Eq.trans (World.drewN_drewN _ _ _) (congrArg (World.drewN _) (Nat.add_assoc _ _ _))⟩))); try go_wp2_with (first | (go_at_call 14; (with_reducible refine (strings_LastIndexByte.calls k3 x0_3 47 t102 _ A29.out).mono ?_); rintro e w' ⟨rfl, ⟨nd, rfl⟩⟩; (try first | exact ⟨rfl, _, World.drewN_drewN _ _ _⟩ | exact ⟨rfl, _, Eq.trans (World.drewN_drewN _ _ _) (congrArg (World.drewN _) (Nat.add_assoc _ _ _))⟩)) | (go_at_call 14; (with_reducible refine (strings_LastIndexByte.calls k3 x0_3 92 t103 _ A30.out).mono ?_); rintro e w' ⟨rfl, ⟨nd, rfl⟩⟩; (try first | exact ⟨rfl, _, World.drewN_drewN _ _ _⟩ | exact ⟨rfl, _, Eq.trans (World.drewN_drewN _ _ _) (congrArg (World.drewN _) (Nat.add_assoc _ _ _))⟩))))
                        go_meet
                        case rel => exact ⟨_, (x0_3.extract 0 ((ji34) : Int).toNat), (x0_3.extract ((ji34) : Int).toNat x0_3.size), (by first | rfl | (simp; done) | (simp only [← hji34] <;> (first | rfl | simp)) | (simp [*]; done)), (by first | rfl | (simp; done) | (simp only [← hji34] <;> (first | rfl | simp)) | (simp [*]; done)), H', ⟨by have := HJ1.out; have := HJ7.out; have := HK3.out; first | omega | exact Nat.le_refl _⟩, ⟨by repeat (first | (with_reducible first | exact HB.out | apply below_alloc | apply pw_below_drewN | apply below_drew1) | exact HB.out)⟩⟩
                      · rw [if_neg c36] at H
                        exact absurd H (by simp)
                    · rw [if_neg c35] at H
                      exact absurd H (by simp)
                  · rw [if_neg c33] at H
                    have c33b0 : ((ji31) == x5_7) = false := beq_eq_false_iff_ne.mpr c33
                    have c33b1 : ((ji31) != x5_7) = true := bne_iff_ne.mpr c33
                    by_cases c39 : (wrap64 ((ji31) + 1)) = (x0_3.size : Int)
                    · rw [if_pos c39] at H
                      have c39b0 : ((wrap64 ((ji31) + 1)) == (x0_3.size : Int)) = true := beq_iff_eq.mpr c39
                      have c39b1 : ((wrap64 ((ji31) + 1)) != (x0_3.size : Int)) = false := bne_eq_false_iff_eq.mpr c39
                      clear c39
                      by_cases c40 : 0 ≤ (ji31)
                      · rw [if_pos c40] at H
                        have c40b0 := eq_true c40
                        have c40b1 : decide (0 ≤ (ji31)) = true := decide_eq_true c40
                        clear c40
                        by_cases c41 : (ji31) ≤ (x0_3.size : Int)
                        · rw [if_pos c41] at H
                          have c41b0 := eq_true c41
                          have c41b1 : decide ((ji31) ≤ (x0_3.size : Int)) = true := decide_eq_true c41
                          clear c41
                          have H' := Aside0.mk H
                          clear H
                          go_wp2_with (first | (go_at_call 14; (with_reducible refine (strings_LastIndexByte.calls k3 x0_3 47 t102 _ A29.out).mono ?_); rintro e w' ⟨rfl, ⟨nd, rfl⟩⟩; (try first | exact ⟨rfl, _, World.drewN_drewN _ _ _⟩ | exact ⟨rfl, _, Eq.trans (World.drewN_drewN _ _ _) (congrArg (World.drewN _) (Nat.add_assoc _ _ _))⟩)) | (go_at_call 14; (with_reducible refine (strings_LastIndexByte.calls k3 x0_3 92 t103 _ A30.out).mono ?_); rintro e w' ⟨rfl, ⟨nd, rfl⟩⟩; (try first | exact ⟨rfl, _, World.drewN_drewN _ _ _⟩ | exact ⟨rfl, _, Eq.trans (World.drewN_drewN _ _ _) (congrArg (World.drewN _) (Nat.add_assoc _ _ _))⟩)))
                          repeat (go_quiet (first | (go_at_call 14; (with_reducible refine (strings_LastIndexByte.calls k3 x0_3 47 t102 _ A29.out).mono ?_); rintro e w' ⟨rfl, ⟨nd, rfl⟩⟩; (try first | exact ⟨rfl, _, World.drewN_drewN _ _ _⟩ | exact ⟨rfl, _, Eq.trans (World.drewN_drewN _ _ _) (congrArg (World.drewN _) (Nat.add_assoc _ _ _))⟩)) | (go_at_call 14; (with_reducible refine (strings_LastIndexByte.calls k3 x0_3 92 t103 _ A30.out).mono ?_); rintro e w' ⟨rfl, ⟨nd, rfl⟩⟩; (try first | exact ⟨rfl, _, World.drewN_drewN _ _ _⟩ | exact ⟨rfl, _, Eq.trans (World.drewN_drewN _ _ _) (congrArg (World.drewN _) (Nat.add_assoc _ _ _))⟩))); try go_wp2_with (first | (go_at_call 14; (with_reducible refine (strings_LastIndexByte.calls k3 x0_3 47 t102 _ A29.out).mono ?_); rintro e w' ⟨rfl, ⟨nd, rfl⟩⟩; (try first | exact ⟨rfl, _, World.drewN_drewN _ _ _⟩ | exact ⟨rfl, _, Eq.trans (World.drewN_drewN _ _ _) (congrArg (World.drewN _) (Nat.add_assoc _ _ _))⟩)) | (go_at_call 14; (with_reducible refine (strings_LastIndexByte.calls k3 x0_3 92 t103 _ A30.out).mono ?_); rintro e w' ⟨rfl, ⟨nd, rfl⟩⟩; (try first | exact ⟨rfl, _, World.drewN_drewN _ _ _⟩ | exact ⟨rfl, _, Eq.trans (World.drewN_drewN _ _ _) (congrArg (World.drewN _) (Nat.add_assoc _ _ _))⟩))))
                          go_roundg k3
                          case measure => have := HJ1.out; have := HJ7.out; have := HK3.out; omega
                          case rel => exact ⟨(x0_3.extract 0 ((ji31) : Int).toNat), (x2_3), (by first | rfl | (simp; done) | (simp only [← hji31] <;> (first | rfl | simp)) | (simp [*]; done)), (by first | rfl | (simp; done) | (simp [*]; done)), H', ⟨by have := HJ1.out; have := HJ7.out; have := HK3.out; omega⟩, ⟨by repeat (first | (with_reducible first | exact HB.out | apply below_alloc | apply pw_below_drewN | apply below_drew1) | exact HB.out)⟩⟩
                        · rw [if_neg c41] at H
                          exact absurd H (by simp)
                      · rw [if_neg c40] at H
                        exact absurd H (by simp)
                    · rw [if_neg c39] at H
                      have c39b0 : ((wrap64 ((ji31) + 1)) == (x0_3.size : Int)) = false := beq_eq_false_iff_ne.mpr c39
                      have c39b1 : ((wrap64 ((ji31) + 1)) != (x0_3.size : Int)) = true := bne_iff_ne.mpr c39
                      by_cases c42 : 0 ≤ (ji31)
                      · rw [if_pos c42] at H
                        have c42b0 := eq_true c42
                        have c42b1 : decide (0 ≤ (ji31)) = true := decide_eq_true c42
                        clear c42
                        by_cases c43 : (ji31) ≤ (x0_3.size : Int)
                        · rw [if_pos c43] at H
                          have c43b0 := eq_true c43
                          have c43b1 : decide ((ji31) ≤ (x0_3.size : Int)) = true := decide_eq_true c43
                          clear c43
                          obtain ⟨ji44, hji44⟩ : ∃ j_ : Int, (wrap64 ((ji31) + 1)) = j_ := ⟨_, rfl⟩
                          replace H : (if 0 ≤ (ji44) then (if (ji44) ≤ (x0_3.size : Int) then (logger_PlatformIndependentPathDirBaseExt.j4 k3 (x0_3.extract 0 ((ji31) : Int).toNat) (x0_3.extract ((ji44) : Int).toNat x0_3.size) (⟨#[]⟩ : ByteArray)) else (none)) else (none)) = some (r1, r2, r3) := by first | (rw [hji44] at H; exact H) | (simp only [hji44] at H ⊢; exact H)
                          (try rw [hji44] at c39b0)
                          (try rw [hji44] at c39b1)
                          (try rw [hji44] at A29)
                          (try rw [hji44] at A30)
                          have hji44w : (IntKind.i64.wrap ((ji31) + 1)) = ji44 := (i64_w _).trans hji44
                          by_cases c45 : 0 ≤ (ji44)
                          · rw [if_pos c45] at H
                            have c45b0 := eq_true c45
                            have c45b1 : decide (0 ≤ (ji44)) = true := decide_eq_true c45
                            clear c45
                            by_cases c46 : (ji44) ≤ (x0_3.size : Int)
                            · rw [if_pos c46] at H
                              have c46b0 := eq_true c46
                              have c46b1 : decide ((ji44) ≤ (x0_3.size : Int)) = true := decide_eq_true c46
                              clear c46
                              have H' := Aside0.mk H
                              clear H
                              go_wp2_with (first | (go_at_call 14; (with_reducible refine (strings_LastIndexByte.calls k3 x0_3 47 t102 _ A29.out).mono ?_); rintro e w' ⟨rfl, ⟨nd, rfl⟩⟩; (try first | exact ⟨rfl, _, World.drewN_drewN _ _ _⟩ | exact ⟨rfl, _, Eq.trans (World.drewN_drewN _ _ _) (congrArg (World.drewN _) (Nat.add_assoc _ _ _))⟩)) | (go_at_call 14; (with_reducible refine (strings_LastIndexByte.calls k3 x0_3 92 t103 _ A30.out).mono ?_); rintro e w' ⟨rfl, ⟨nd, rfl⟩⟩; (try first | exact ⟨rfl, _, World.drewN_drewN _ _ _⟩ | exact ⟨rfl, _, Eq.trans (World.drewN_drewN _ _ _) (congrArg (World.drewN _) (Nat.add_assoc _ _ _))⟩)))
                              repeat (go_quiet (first | (go_at_call 14; (with_reducible refine (strings_LastIndexByte.calls k3 x0_3 47 t102 _ A29.out).mono ?_); rintro e w' ⟨rfl, ⟨nd, rfl⟩⟩; (try first | exact ⟨rfl, _, World.drewN_drewN _ _ _⟩ | exact ⟨rfl, _, Eq.trans (World.drewN_drewN _ _ _) (congrArg (World.drewN _) (Nat.add_assoc _ _ _))⟩)) | (go_at_call 14; (with_reducible refine (strings_LastIndexByte.calls k3 x0_3 92 t103 _ A30.out).mono ?_); rintro e w' ⟨rfl, ⟨nd, rfl⟩⟩; (try first | exact ⟨rfl, _, World.drewN_drewN _ _ _⟩ | exact ⟨rfl, _, Eq.trans (World.drewN_drewN _ _ _) (congrArg (World.drewN _) (Nat.add_assoc _ _ _))⟩))); try go_wp2_with (first | (go_at_call 14; (with_reducible refine (strings_LastIndexByte.calls k3 x0_3 47 t102 _ A29.out).mono ?_); rintro e w' ⟨rfl, ⟨nd, rfl⟩⟩; (try first | exact ⟨rfl, _, World.drewN_drewN _ _ _⟩ | exact ⟨rfl, _, Eq.trans (World.drewN_drewN _ _ _) (congrArg (World.drewN _) (Nat.add_assoc _ _ _))⟩)) | (go_at_call 14; (with_reducible refine (strings_LastIndexByte.calls k3 x0_3 92 t103 _ A30.out).mono ?_); rintro e w' ⟨rfl, ⟨nd, rfl⟩⟩; (try first | exact ⟨rfl, _, World.drewN_drewN _ _ _⟩ | exact ⟨rfl, _, Eq.trans (World.drewN_drewN _ _ _) (congrArg (World.drewN _) (Nat.add_assoc _ _ _))⟩))))
                              go_meet
                              case rel => exact ⟨_, (x0_3.extract 0 ((ji31) : Int).toNat), (x0_3.extract ((ji44) : Int).toNat x0_3.size), (by first | rfl | (simp; done) | (simp only [← hji31] <;> (first | rfl | simp)) | (simp [*]; done)), (by first | rfl | (simp; done) | (simp only [← hji44] <;> (first | rfl | simp)) | (simp [*]; done)), H', ⟨by have := HJ1.out; have := HJ7.out; have := HK3.out; first | omega | exact Nat.le_refl _⟩, ⟨by repeat (first | (with_reducible first | exact HB.out | apply below_alloc | apply pw_below_drewN | apply below_drew1) | exact HB.out)⟩⟩
                            · rw [if_neg c46] at H
                              exact absurd H (by simp)
                          · rw [if_neg c45] at H
                            exact absurd H (by simp)
                        · rw [if_neg c43] at H
                          exact absurd H (by simp)
                      · rw [if_neg c42] at H
                        exact absurd H (by simp)
          case rest =>
            clear HC28
            try clear c1
            try clear p1
            try clear q1
            try clear hx1
            try clear qi1
            try clear c2
            try clear p2
            try clear q2
            try clear hx2
            try clear qi2
            try clear c3
            try clear c3b0
            try clear c3b1
            try clear c4
            try clear c4b0
            try clear c4b1
            try clear p5
            try clear q5
            try clear hx5
            try clear qi5
            try clear c6
            try clear c6b0
            try clear c6b1
            try clear p6
            try clear p7
            try clear q7
            try clear hx7
            try clear qi7
            try clear c9
            try clear c11
            try clear c11b0
            try clear c11b1
            try clear c12
            try clear c12b0
            try clear c12b1
            try clear p13
            try clear q13
            try clear hx13
            try clear qi13
            try clear c14
            try clear c14b0
            try clear c14b1
            try clear c15
            try clear c15b0
            try clear c15b1
            try clear p16
            try clear q16
            try clear hx16
            try clear qi16
            try clear c17
            try clear c17b0
            try clear c17b1
            try clear p18
            try clear q18
            try clear hx18
            try clear qi18
            try clear c19
            try clear c20
            try clear c20b0
            try clear c20b1
            try clear p21
            try clear q21
            try clear hx21
            try clear qi21
            try clear c22
            try clear c22b0
            try clear c23
            try clear c23b0
            try clear c24
            try clear c24b0
            try clear c25
            try clear c25b0
            try clear c26
            try clear c26b0
            try clear c27
            try clear c27b0
            try clear c32
            try clear c32b0
            try clear c33
            try clear c33b0
            try clear c33b1
            try clear c35
            try clear c35b0
            try clear c35b1
            try clear c36
            try clear c36b0
            try clear c36b1
            try clear c37
            try clear c37b0
            try clear c38
            try clear c38b0
            try clear c39
            try clear c39b0
            try clear c39b1
            try clear c40
            try clear c40b0
            try clear c40b1
            try clear c41
            try clear c41b0
            try clear c41b1
            try clear c42
            try clear c42b0
            try clear c42b1
            try clear c43
            try clear c43b0
            try clear c43b1
            try clear c45
            try clear c45b0
            try clear c45b1
            try clear c46
            try clear c46b0
            try clear c46b1
            try clear p1
            try clear p13
            try clear p16
            try clear p18
            try clear p2
            try clear p21
            try clear p5
            try clear p7
            try clear q1
            try clear q13
            try clear q16
            try clear q18
            try clear q2
            try clear q21
            try clear q5
            try clear q7
            obtain ⟨kq, x2_27, x3_27, rfl, rfl, HA, HJ27, HB⟩ := hcut
            cases kq with
            | zero => exact absurd HA.out (by simp [logger_PlatformIndependentPathDirBaseExt.j4])
            | succ kj27 =>
              have H := HA.out
              clear HA
              simp only [logger_PlatformIndependentPathDirBaseExt.j4] at H
              replace H := Option.bind_eq_some_iff.mp H
              obtain ⟨t104, A470, H⟩ := H
              replace H : (if t104 ≥ 0 then (if 0 ≤ t104 then (if t104 ≤ (x3_27.size : Int) then (if (x3_27.extract (t104 : Int).toNat x3_27.size).toList = ([46, 99, 115, 115] : List UInt8) then ((strings_LastIndexByte.f kj27 (x3_27.extract 0 (t104 : Int).toNat) 46).bind fun t105 => (if t105 ≥ 0 then (if 0 ≤ t105 then (if t105 ≤ (x3_27.size : Int) then (if (x3_27.extract (t105 : Int).toNat x3_27.size).toList = ([46, 109, 111, 100, 117, 108, 101, 46, 99, 115, 115] : List UInt8) then (some (x2_27, x3_27.extract 0 (t105 : Int).toNat, x3_27.extract (t105 : Int).toNat x3_27.size)) else (some (x2_27, x3_27.extract 0 (t104 : Int).toNat, x3_27.extract (t104 : Int).toNat x3_27.size))) else (none)) else (none)) else (some (x2_27, x3_27.extract 0 (t104 : Int).toNat, x3_27.extract (t104 : Int).toNat x3_27.size)))) else (some (x2_27, x3_27.extract 0 (t104 : Int).toNat, x3_27.extract (t104 : Int).toNat x3_27.size))) else (none)) else (none)) else (some (x2_27, x3_27, (⟨#[]⟩ : ByteArray)))) = some (r1, r2, r3) := H
              have A47 := Aside0.mk A470
              clear A470
              by_cases c48 : t104 ≥ 0
              · rw [if_pos c48] at H
                have c48b0 : decide (0 ≤ t104) = true := decide_eq_true c48
                clear c48
                by_cases c49 : 0 ≤ t104
                · rw [if_pos c49] at H
                  have c49b0 := eq_true c49
                  have c49b1 : decide (0 ≤ t104) = true := decide_eq_true c49
                  clear c49
                  by_cases c50 : t104 ≤ (x3_27.size : Int)
                  · rw [if_pos c50] at H
                    have c50b0 := eq_true c50
                    have c50b1 : decide (t104 ≤ (x3_27.size : Int)) = true := decide_eq_true c50
                    clear c50
                    by_cases c51 : (x3_27.extract (t104 : Int).toNat x3_27.size).toList = ([46, 99, 115, 115] : List UInt8)
                    · rw [if_pos c51] at H
                      have c51b0 : ((x3_27.extract (t104 : Int).toNat x3_27.size).toList == ([46, 99, 115, 115] : List UInt8)) = true := beq_iff_eq.mpr c51
                      have c51b1 : ((x3_27.extract (t104 : Int).toNat x3_27.size).toList != ([46, 99, 115, 115] : List UInt8)) = false := bne_eq_false_iff_eq.mpr c51
                      clear c51
                      have c52b0 := eq_true (of_decide_eq_true (by first | (with_reducible assumption) | assumption) : 0 ≤ t104)
                      have c53b0 := eq_true (of_decide_eq_true (by first | (with_reducible assumption) | assumption) : t104 ≤ (x3_27.size : Int))
                      replace H := Option.bind_eq_some_iff.mp H
                      obtain ⟨t105, A540, H⟩ := H
                      replace H : (if t105 ≥ 0 then (if 0 ≤ t105 then (if t105 ≤ (x3_27.size : Int) then (if (x3_27.extract (t105 : Int).toNat x3_27.size).toList = ([46, 109, 111, 100, 117, 108, 101, 46, 99, 115, 115] : List UInt8) then (some (x2_27, x3_27.extract 0 (t105 : Int).toNat, x3_27.extract (t105 : Int).toNat x3_27.size)) else (some (x2_27, x3_27.extract 0 (t104 : Int).toNat, x3_27.extract (t104 : Int).toNat x3_27.size))) else (none)) else (none)) else (some (x2_27, x3_27.extract 0 (t104 : Int).toNat, x3_27.extract (t104 : Int).toNat x3_27.size))) = some (r1, r2, r3) := H
                      have A54 := Aside0.mk A540
                      clear A540
                      by_cases c55 : t105 ≥ 0
                      · rw [if_pos c55] at H
                        have c55b0 : decide (0 ≤ t105) = true := decide_eq_true c55
                        clear c55
                        by_cases c56 : 0 ≤ t105
                        · rw [if_pos c56] at H
                          have c56b0 := eq_true c56
                          have c56b1 : decide (0 ≤ t105) = true := decide_eq_true c56
                          clear c56
                          by_cases c57 : t105 ≤ (x3_27.size : Int)
                          · rw [if_pos c57] at H
                            have c57b0 := eq_true c57
                            have c57b1 : decide (t105 ≤ (x3_27.size : Int)) = true := decide_eq_true c57
                            clear c57
                            by_cases c58 : (x3_27.extract (t105 : Int).toNat x3_27.size).toList = ([46, 109, 111, 100, 117, 108, 101, 46, 99, 115, 115] : List UInt8)
                            · rw [if_pos c58] at H
                              have c58b0 : ((x3_27.extract (t105 : Int).toNat x3_27.size).toList == ([46, 109, 111, 100, 117, 108, 101, 46, 99, 115, 115] : List UInt8)) = true := beq_iff_eq.mpr c58
                              have c58b1 : ((x3_27.extract (t105 : Int).toNat x3_27.size).toList != ([46, 109, 111, 100, 117, 108, 101, 46, 99, 115, 115] : List UInt8)) = false := bne_eq_false_iff_eq.mpr c58
                              clear c58
                              have c59b0 := eq_true (of_decide_eq_true (by first | (with_reducible assumption) | assumption) : 0 ≤ t105)
                              have c60b0 := eq_true (of_decide_eq_true (by first | (with_reducible assumption) | assumption) : t105 ≤ (x3_27.size : Int))
                              have c61b0 := eq_true (of_decide_eq_true (by first | (with_reducible assumption) | assumption) : 0 ≤ t105)
                              have c62b0 := eq_true (of_decide_eq_true (by first | (with_reducible assumption) | assumption) : t105 ≤ (x3_27.size : Int))
                              simp only [Option.some.injEq, Prod.mk.injEq] at H
                              obtain ⟨rfl, rfl, rfl⟩ := H
                              go_wp2_with (first | (go_at_call 14; (with_reducible refine (strings_LastIndexByte.calls kj27 x3_27 46 t104 _ A47.out).mono ?_); rintro e w' ⟨rfl, ⟨nd, rfl⟩⟩; (try first | exact ⟨rfl, _, World.drewN_drewN _ _ _⟩ | exact ⟨rfl, _, Eq.trans (World.drewN_drewN _ _ _) (congrArg (World.drewN _) (Nat.add_assoc _ _ _))⟩)) | (go_at_call 14; (with_reducible refine (strings_LastIndexByte.calls kj27 (x3_27.extract 0 (t104 : Int).toNat) 46 t105 _ A54.out).mono ?_); rintro e w' ⟨rfl, ⟨nd, rfl⟩⟩; (try first | exact ⟨rfl, _, World.drewN_drewN _ _ _⟩ | exact ⟨rfl, _, Eq.trans (World.drewN_drewN _ _ _) (congrArg (World.drewN _) (Nat.add_assoc _ _ _))⟩)))
                              repeat (go_quiet (first | (go_at_call 14; (with_reducible refine (strings_LastIndexByte.calls kj27 x3_27 46 t104 _ A47.out).mono ?_); rintro e w' ⟨rfl, ⟨nd, rfl⟩⟩; (try first | exact ⟨rfl, _, World.drewN_drewN _ _ _⟩ | exact ⟨rfl, _, Eq.trans (World.drewN_drewN _ _ _) (congrArg (World.drewN _) (Nat.add_assoc _ _ _))⟩)) | (go_at_call 14; (with_reducible refine (strings_LastIndexByte.calls kj27 (x3_27.extract 0 (t104 : Int).toNat) 46 t105 _ A54.out).mono ?_); rintro e w' ⟨rfl, ⟨nd, rfl⟩⟩; (try first | exact ⟨rfl, _, World.drewN_drewN _ _ _⟩ | exact ⟨rfl, _, Eq.trans (World.drewN_drewN _ _ _) (congrArg (World.drewN _) (Nat.add_assoc _ _ _))⟩))); try go_wp2_with (first | (go_at_call 14; (with_reducible refine (strings_LastIndexByte.calls kj27 x3_27 46 t104 _ A47.out).mono ?_); rintro e w' ⟨rfl, ⟨nd, rfl⟩⟩; (try first | exact ⟨rfl, _, World.drewN_drewN _ _ _⟩ | exact ⟨rfl, _, Eq.trans (World.drewN_drewN _ _ _) (congrArg (World.drewN _) (Nat.add_assoc _ _ _))⟩)) | (go_at_call 14; (with_reducible refine (strings_LastIndexByte.calls kj27 (x3_27.extract 0 (t104 : Int).toNat) 46 t105 _ A54.out).mono ?_); rintro e w' ⟨rfl, ⟨nd, rfl⟩⟩; (try first | exact ⟨rfl, _, World.drewN_drewN _ _ _⟩ | exact ⟨rfl, _, Eq.trans (World.drewN_drewN _ _ _) (congrArg (World.drewN _) (Nat.add_assoc _ _ _))⟩))))
                              go_ret3
                              exact ⟨by first | rfl | (simp [errW_none, errW_some] <;> rfl) | (simp [*, errW_none, errW_some] <;> rfl), by repeat (first | (with_reducible first | exact HB.out | apply below_alloc | apply pw_below_drewN | apply below_drew1) | exact HB.out)⟩
                            · rw [if_neg c58] at H
                              have c58b0 : ((x3_27.extract (t105 : Int).toNat x3_27.size).toList == ([46, 109, 111, 100, 117, 108, 101, 46, 99, 115, 115] : List UInt8)) = false := beq_eq_false_iff_ne.mpr c58
                              have c58b1 : ((x3_27.extract (t105 : Int).toNat x3_27.size).toList != ([46, 109, 111, 100, 117, 108, 101, 46, 99, 115, 115] : List UInt8)) = true := bne_iff_ne.mpr c58
                              have c63b0 := eq_true (of_decide_eq_true (by first | (with_reducible assumption) | assumption) : 0 ≤ t104)
                              have c64b0 := eq_true (of_decide_eq_true (by first | (with_reducible assumption) | assumption) : t104 ≤ (x3_27.size : Int))
                              simp only [Option.some.injEq, Prod.mk.injEq] at H
                              obtain ⟨rfl, rfl, rfl⟩ := H
                              go_wp2_with (first | (go_at_call 14; (with_reducible refine (strings_LastIndexByte.calls kj27 x3_27 46 t104 _ A47.out).mono ?_); rintro e w' ⟨rfl, ⟨nd, rfl⟩⟩; (try first | exact ⟨rfl, _, World.drewN_drewN _ _ _⟩ | exact ⟨rfl, _, Eq.trans (World.drewN_drewN _ _ _) (congrArg (World.drewN _) (Nat.add_assoc _ _ _))⟩)) | (go_at_call 14; (with_reducible refine (strings_LastIndexByte.calls kj27 (x3_27.extract 0 (t104 : Int).toNat) 46 t105 _ A54.out).mono ?_); rintro e w' ⟨rfl, ⟨nd, rfl⟩⟩; (try first | exact ⟨rfl, _, World.drewN_drewN _ _ _⟩ | exact ⟨rfl, _, Eq.trans (World.drewN_drewN _ _ _) (congrArg (World.drewN _) (Nat.add_assoc _ _ _))⟩)))
                              repeat (go_quiet (first | (go_at_call 14; (with_reducible refine (strings_LastIndexByte.calls kj27 x3_27 46 t104 _ A47.out).mono ?_); rintro e w' ⟨rfl, ⟨nd, rfl⟩⟩; (try first | exact ⟨rfl, _, World.drewN_drewN _ _ _⟩ | exact ⟨rfl, _, Eq.trans (World.drewN_drewN _ _ _) (congrArg (World.drewN _) (Nat.add_assoc _ _ _))⟩)) | (go_at_call 14; (with_reducible refine (strings_LastIndexByte.calls kj27 (x3_27.extract 0 (t104 : Int).toNat) 46 t105 _ A54.out).mono ?_); rintro e w' ⟨rfl, ⟨nd, rfl⟩⟩; (try first | exact ⟨rfl, _, World.drewN_drewN _ _ _⟩ | exact ⟨rfl, _, Eq.trans (World.drewN_drewN _ _ _) (congrArg (World.drewN _) (Nat.add_assoc _ _ _))⟩))); try go_wp2_with (first | (go_at_call 14; (with_reducible refine (strings_LastIndexByte.calls kj27 x3_27 46 t104 _ A47.out).mono ?_); rintro e w' ⟨rfl, ⟨nd, rfl⟩⟩; (try first | exact ⟨rfl, _, World.drewN_drewN _ _ _⟩ | exact ⟨rfl, _, Eq.trans (World.drewN_drewN _ _ _) (congrArg (World.drewN _) (Nat.add_assoc _ _ _))⟩)) | (go_at_call 14; (with_reducible refine (strings_LastIndexByte.calls kj27 (x3_27.extract 0 (t104 : Int).toNat) 46 t105 _ A54.out).mono ?_); rintro e w' ⟨rfl, ⟨nd, rfl⟩⟩; (try first | exact ⟨rfl, _, World.drewN_drewN _ _ _⟩ | exact ⟨rfl, _, Eq.trans (World.drewN_drewN _ _ _) (congrArg (World.drewN _) (Nat.add_assoc _ _ _))⟩))))
                              go_ret3
                              exact ⟨by first | rfl | (simp [errW_none, errW_some] <;> rfl) | (simp [*, errW_none, errW_some] <;> rfl), by repeat (first | (with_reducible first | exact HB.out | apply below_alloc | apply pw_below_drewN | apply below_drew1) | exact HB.out)⟩
                          · rw [if_neg c57] at H
                            exact absurd H (by simp)
                        · rw [if_neg c56] at H
                          exact absurd H (by simp)
                      · rw [if_neg c55] at H
                        have c55b0 : decide (0 ≤ t105) = false := decide_eq_false c55
                        clear c55
                        have c65b0 := eq_true (of_decide_eq_true (by first | (with_reducible assumption) | assumption) : 0 ≤ t104)
                        have c66b0 := eq_true (of_decide_eq_true (by first | (with_reducible assumption) | assumption) : t104 ≤ (x3_27.size : Int))
                        simp only [Option.some.injEq, Prod.mk.injEq] at H
                        obtain ⟨rfl, rfl, rfl⟩ := H
                        go_wp2_with (first | (go_at_call 14; (with_reducible refine (strings_LastIndexByte.calls kj27 x3_27 46 t104 _ A47.out).mono ?_); rintro e w' ⟨rfl, ⟨nd, rfl⟩⟩; (try first | exact ⟨rfl, _, World.drewN_drewN _ _ _⟩ | exact ⟨rfl, _, Eq.trans (World.drewN_drewN _ _ _) (congrArg (World.drewN _) (Nat.add_assoc _ _ _))⟩)) | (go_at_call 14; (with_reducible refine (strings_LastIndexByte.calls kj27 (x3_27.extract 0 (t104 : Int).toNat) 46 t105 _ A54.out).mono ?_); rintro e w' ⟨rfl, ⟨nd, rfl⟩⟩; (try first | exact ⟨rfl, _, World.drewN_drewN _ _ _⟩ | exact ⟨rfl, _, Eq.trans (World.drewN_drewN _ _ _) (congrArg (World.drewN _) (Nat.add_assoc _ _ _))⟩)))
                        repeat (go_quiet (first | (go_at_call 14; (with_reducible refine (strings_LastIndexByte.calls kj27 x3_27 46 t104 _ A47.out).mono ?_); rintro e w' ⟨rfl, ⟨nd, rfl⟩⟩; (try first | exact ⟨rfl, _, World.drewN_drewN _ _ _⟩ | exact ⟨rfl, _, Eq.trans (World.drewN_drewN _ _ _) (congrArg (World.drewN _) (Nat.add_assoc _ _ _))⟩)) | (go_at_call 14; (with_reducible refine (strings_LastIndexByte.calls kj27 (x3_27.extract 0 (t104 : Int).toNat) 46 t105 _ A54.out).mono ?_); rintro e w' ⟨rfl, ⟨nd, rfl⟩⟩; (try first | exact ⟨rfl, _, World.drewN_drewN _ _ _⟩ | exact ⟨rfl, _, Eq.trans (World.drewN_drewN _ _ _) (congrArg (World.drewN _) (Nat.add_assoc _ _ _))⟩))); try go_wp2_with (first | (go_at_call 14; (with_reducible refine (strings_LastIndexByte.calls kj27 x3_27 46 t104 _ A47.out).mono ?_); rintro e w' ⟨rfl, ⟨nd, rfl⟩⟩; (try first | exact ⟨rfl, _, World.drewN_drewN _ _ _⟩ | exact ⟨rfl, _, Eq.trans (World.drewN_drewN _ _ _) (congrArg (World.drewN _) (Nat.add_assoc _ _ _))⟩)) | (go_at_call 14; (with_reducible refine (strings_LastIndexByte.calls kj27 (x3_27.extract 0 (t104 : Int).toNat) 46 t105 _ A54.out).mono ?_); rintro e w' ⟨rfl, ⟨nd, rfl⟩⟩; (try first | exact ⟨rfl, _, World.drewN_drewN _ _ _⟩ | exact ⟨rfl, _, Eq.trans (World.drewN_drewN _ _ _) (congrArg (World.drewN _) (Nat.add_assoc _ _ _))⟩))))
                        go_ret3
                        exact ⟨by first | rfl | (simp [errW_none, errW_some] <;> rfl) | (simp [*, errW_none, errW_some] <;> rfl), by repeat (first | (with_reducible first | exact HB.out | apply below_alloc | apply pw_below_drewN | apply below_drew1) | exact HB.out)⟩
                    · rw [if_neg c51] at H
                      have c51b0 : ((x3_27.extract (t104 : Int).toNat x3_27.size).toList == ([46, 99, 115, 115] : List UInt8)) = false := beq_eq_false_iff_ne.mpr c51
                      have c51b1 : ((x3_27.extract (t104 : Int).toNat x3_27.size).toList != ([46, 99, 115, 115] : List UInt8)) = true := bne_iff_ne.mpr c51
                      have c67b0 := eq_true (of_decide_eq_true (by first | (with_reducible assumption) | assumption) : 0 ≤ t104)
                      have c68b0 := eq_true (of_decide_eq_true (by first | (with_reducible assumption) | assumption) : t104 ≤ (x3_27.size : Int))
                      simp only [Option.some.injEq, Prod.mk.injEq] at H
                      obtain ⟨rfl, rfl, rfl⟩ := H
                      go_wp2_with (first | (go_at_call 14; (with_reducible refine (strings_LastIndexByte.calls kj27 x3_27 46 t104 _ A47.out).mono ?_); rintro e w' ⟨rfl, ⟨nd, rfl⟩⟩; (try first | exact ⟨rfl, _, World.drewN_drewN _ _ _⟩ | exact ⟨rfl, _, Eq.trans (World.drewN_drewN _ _ _) (congrArg (World.drewN _) (Nat.add_assoc _ _ _))⟩)))
                      repeat (go_quiet (first | (go_at_call 14; (with_reducible refine (strings_LastIndexByte.calls kj27 x3_27 46 t104 _ A47.out).mono ?_); rintro e w' ⟨rfl, ⟨nd, rfl⟩⟩; (try first | exact ⟨rfl, _, World.drewN_drewN _ _ _⟩ | exact ⟨rfl, _, Eq.trans (World.drewN_drewN _ _ _) (congrArg (World.drewN _) (Nat.add_assoc _ _ _))⟩))); try go_wp2_with (first | (go_at_call 14; (with_reducible refine (strings_LastIndexByte.calls kj27 x3_27 46 t104 _ A47.out).mono ?_); rintro e w' ⟨rfl, ⟨nd, rfl⟩⟩; (try first | exact ⟨rfl, _, World.drewN_drewN _ _ _⟩ | exact ⟨rfl, _, Eq.trans (World.drewN_drewN _ _ _) (congrArg (World.drewN _) (Nat.add_assoc _ _ _))⟩))))
                      go_ret3
                      exact ⟨by first | rfl | (simp [errW_none, errW_some] <;> rfl) | (simp [*, errW_none, errW_some] <;> rfl), by repeat (first | (with_reducible first | exact HB.out | apply below_alloc | apply pw_below_drewN | apply below_drew1) | exact HB.out)⟩
                  · rw [if_neg c50] at H
                    exact absurd H (by simp)
                · rw [if_neg c49] at H
                  exact absurd H (by simp)
              · rw [if_neg c48] at H
                have c48b0 : decide (0 ≤ t104) = false := decide_eq_false c48
                clear c48
                simp only [Option.some.injEq, Prod.mk.injEq] at H
                obtain ⟨rfl, rfl, rfl⟩ := H
                go_wp2_with (first | (go_at_call 14; (with_reducible refine (strings_LastIndexByte.calls kj27 x3_27 46 t104 _ A47.out).mono ?_); rintro e w' ⟨rfl, ⟨nd, rfl⟩⟩; (try first | exact ⟨rfl, _, World.drewN_drewN _ _ _⟩ | exact ⟨rfl, _, Eq.trans (World.drewN_drewN _ _ _) (congrArg (World.drewN _) (Nat.add_assoc _ _ _))⟩)))
                repeat (go_quiet (first | (go_at_call 14; (with_reducible refine (strings_LastIndexByte.calls kj27 x3_27 46 t104 _ A47.out).mono ?_); rintro e w' ⟨rfl, ⟨nd, rfl⟩⟩; (try first | exact ⟨rfl, _, World.drewN_drewN _ _ _⟩ | exact ⟨rfl, _, Eq.trans (World.drewN_drewN _ _ _) (congrArg (World.drewN _) (Nat.add_assoc _ _ _))⟩))); try go_wp2_with (first | (go_at_call 14; (with_reducible refine (strings_LastIndexByte.calls kj27 x3_27 46 t104 _ A47.out).mono ?_); rintro e w' ⟨rfl, ⟨nd, rfl⟩⟩; (try first | exact ⟨rfl, _, World.drewN_drewN _ _ _⟩ | exact ⟨rfl, _, Eq.trans (World.drewN_drewN _ _ _) (congrArg (World.drewN _) (Nat.add_assoc _ _ _))⟩))))
                go_ret3
                exact ⟨by first | rfl | (simp [errW_none, errW_some] <;> rfl) | (simp [*, errW_none, errW_some] <;> rfl), by repeat (first | (with_reducible first | exact HB.out | apply below_alloc | apply pw_below_drewN | apply below_drew1) | exact HB.out)⟩

end Go.Proofs.Ytbcljhedleemdaa.PFnNameOfPath
