-- Written by printx.py of this session, over the kit's print, with contracts of this session for some functions
import Derived.Test.YtheichpmhfledaaDoorPFnNumberBackx0
import Derived.Test.YtheichpmhfledaaDoorPFnNumberBackx2
import Derived.Test.YtheichpmhfledaaDoorExtRoundF
namespace Go.Proofs.YtheichpmhfledaaDoor.PFnNumberBack
open Go.RowKit Go.Proofs.YtheichpmhfledaaDoorW.PrintWords Go.Proofs.YtheichpmhfledaaDoorW.PrintLast Go.Proofs.YtheichpmhfledaaDoorW.PrintMore
attribute [local go_sem] max2_int min2_int max_two min_two max_three min_three max_four min_four   -- for this text's walks alone
set_option linter.unusedVariables false
set_option linter.unusedSimpArgs false

/-! ### spec_trimmed: function 28 -/
mutual
def spec_trimmed.j1 : Nat → ByteArray → Int → Int → Option (ByteArray × Bool)
  | 0, _, _, _ => none
  | k + 1, x0, x4, x5 => spec_trimmed.l1 k x0 x4 x5
def spec_trimmed.j3 : Nat → ByteArray → Int → Int → Option (ByteArray × Bool)
  | 0, _, _, _ => none
  | k + 1, x0, x4, x5 => spec_trimmed.l2 k x0 x5 (⟨#[]⟩ : ByteArray) x4
def spec_trimmed.l2 : Nat → ByteArray → Int → ByteArray → Int → Option (ByteArray × Bool)
  | 0, _, _, _, _ => none
  | k + 1, x0, x5, x6, x7 => if x7 < x5 then ((spec_UnitAt.f x0 x7).bind fun t130 => (if t130 > 127 then (some ((⟨#[]⟩ : ByteArray), false)) else ((spec_bytesOf.f k (([t130] : List Int))).bind fun t134 => (if x6.size + t134.size ≤ 9223372036854775807 then (spec_trimmed.l2 k x0 x5 (x6 ++ t134) (wrap64 (x7 + 1))) else (none))))) else (some (x6, true))
def spec_trimmed.l1 : Nat → ByteArray → Int → Int → Option (ByteArray × Bool)
  | 0, _, _, _ => none
  | k + 1, x0, x4, x5 => if x5 > x4 then ((spec_UnitAt.f x0 (wrap64 (x5 - 1))).bind fun t128 => ((spec_isBlankUnit.f t128).bind fun t129 => (if t129 = true then (spec_trimmed.l1 k x0 x4 (wrap64 (x5 - 1))) else (spec_trimmed.j3 k x0 x4 x5)))) else (spec_trimmed.j3 k x0 x4 x5)
def spec_trimmed.l0 : Nat → ByteArray → Int → Int → Option (ByteArray × Bool)
  | 0, _, _, _ => none
  | k + 1, x0, x4, x5 => if x4 < x5 then ((spec_UnitAt.f x0 x4).bind fun t126 => ((spec_isBlankUnit.f t126).bind fun t127 => (if t127 = true then (spec_trimmed.l0 k x0 (wrap64 (x4 + 1)) x5) else (spec_trimmed.j1 k x0 x4 x5)))) else (spec_trimmed.j1 k x0 x4 x5)
end
def spec_trimmed.f (k : Nat) (a0 : ByteArray) : Option (ByteArray × Bool) := spec_trimmed.l0 k a0 0 (wrap64 ((a0.size : Int) / 2))
theorem spec_trimmed.mono_l : ∀ k, (∀ y0 y1 y2, LeO (spec_trimmed.j1 k y0 y1 y2) (spec_trimmed.j1 (k + 1) y0 y1 y2)) ∧ (∀ y0 y1 y2, LeO (spec_trimmed.j3 k y0 y1 y2) (spec_trimmed.j3 (k + 1) y0 y1 y2)) ∧ (∀ y0 y1 y2 y3, LeO (spec_trimmed.l2 k y0 y1 y2 y3) (spec_trimmed.l2 (k + 1) y0 y1 y2 y3)) ∧ (∀ y0 y1 y2, LeO (spec_trimmed.l1 k y0 y1 y2) (spec_trimmed.l1 (k + 1) y0 y1 y2)) ∧ (∀ y0 y1 y2, LeO (spec_trimmed.l0 k y0 y1 y2) (spec_trimmed.l0 (k + 1) y0 y1 y2))
  | 0 => ⟨fun _ _ _ r h => by simp [spec_trimmed.j1] at h, fun _ _ _ r h => by simp [spec_trimmed.j3] at h, fun _ _ _ _ r h => by simp [spec_trimmed.l2] at h, fun _ _ _ r h => by simp [spec_trimmed.l1] at h, fun _ _ _ r h => by simp [spec_trimmed.l0] at h⟩
  | k + 1 => by
    obtain ⟨ih0, ih1, ih2, ih3, ih4⟩ := spec_trimmed.mono_l k
    refine ⟨?_, ?_, ?_, ?_, ?_⟩
    · intro y0 y1 y2
      unfold spec_trimmed.j1
      repeat' first
      | (with_reducible exact ih0 _ _ _)
      | (with_reducible exact ih1 _ _ _)
      | (with_reducible exact ih2 _ _ _ _)
      | (with_reducible exact ih3 _ _ _)
      | (with_reducible exact ih4 _ _ _)
      | (with_reducible exact spec_bytesOf.mono _ _)
      | (with_reducible exact LeO.refl _)
      | (with_reducible exact LeO.none _)
      | (with_reducible refine LeO.ite ?_ ?_)
      | (with_reducible refine LeO.bind ?_ (fun _ => ?_))
      | exact ih0 _ _ _
      | exact ih1 _ _ _
      | exact ih2 _ _ _ _
      | exact ih3 _ _ _
      | exact ih4 _ _ _
      | exact spec_bytesOf.mono _ _
      | exact LeO.none _
      | refine LeO.ite ?_ ?_
      | refine LeO.bind ?_ (fun _ => ?_)
    · intro y0 y1 y2
      unfold spec_trimmed.j3
      repeat' first
      | (with_reducible exact ih0 _ _ _)
      | (with_reducible exact ih1 _ _ _)
      | (with_reducible exact ih2 _ _ _ _)
      | (with_reducible exact ih3 _ _ _)
      | (with_reducible exact ih4 _ _ _)
      | (with_reducible exact spec_bytesOf.mono _ _)
      | (with_reducible exact LeO.refl _)
      | (with_reducible exact LeO.none _)
      | (with_reducible refine LeO.ite ?_ ?_)
      | (with_reducible refine LeO.bind ?_ (fun _ => ?_))
      | exact ih0 _ _ _
      | exact ih1 _ _ _
      | exact ih2 _ _ _ _
      | exact ih3 _ _ _
      | exact ih4 _ _ _
      | exact spec_bytesOf.mono _ _
      | exact LeO.none _
      | refine LeO.ite ?_ ?_
      | refine LeO.bind ?_ (fun _ => ?_)
    · intro y0 y1 y2 y3
      unfold spec_trimmed.l2
      repeat' first
      | (with_reducible exact ih0 _ _ _)
      | (with_reducible exact ih1 _ _ _)
      | (with_reducible exact ih2 _ _ _ _)
      | (with_reducible exact ih3 _ _ _)
      | (with_reducible exact ih4 _ _ _)
      | (with_reducible exact spec_bytesOf.mono _ _)
      | (with_reducible exact LeO.refl _)
      | (with_reducible exact LeO.none _)
      | (with_reducible refine LeO.ite ?_ ?_)
      | (with_reducible refine LeO.bind ?_ (fun _ => ?_))
      | exact ih0 _ _ _
      | exact ih1 _ _ _
      | exact ih2 _ _ _ _
      | exact ih3 _ _ _
      | exact ih4 _ _ _
      | exact spec_bytesOf.mono _ _
      | exact LeO.none _
      | refine LeO.ite ?_ ?_
      | refine LeO.bind ?_ (fun _ => ?_)
    · intro y0 y1 y2
      unfold spec_trimmed.l1
      repeat' first
      | (with_reducible exact ih0 _ _ _)
      | (with_reducible exact ih1 _ _ _)
      | (with_reducible exact ih2 _ _ _ _)
      | (with_reducible exact ih3 _ _ _)
      | (with_reducible exact ih4 _ _ _)
      | (with_reducible exact spec_bytesOf.mono _ _)
      | (with_reducible exact LeO.refl _)
      | (with_reducible exact LeO.none _)
      | (with_reducible refine LeO.ite ?_ ?_)
      | (with_reducible refine LeO.bind ?_ (fun _ => ?_))
      | exact ih0 _ _ _
      | exact ih1 _ _ _
      | exact ih2 _ _ _ _
      | exact ih3 _ _ _
      | exact ih4 _ _ _
      | exact spec_bytesOf.mono _ _
      | exact LeO.none _
      | refine LeO.ite ?_ ?_
      | refine LeO.bind ?_ (fun _ => ?_)
    · intro y0 y1 y2
      unfold spec_trimmed.l0
      repeat' first
      | (with_reducible exact ih0 _ _ _)
      | (with_reducible exact ih1 _ _ _)
      | (with_reducible exact ih2 _ _ _ _)
      | (with_reducible exact ih3 _ _ _)
      | (with_reducible exact ih4 _ _ _)
      | (with_reducible exact spec_bytesOf.mono _ _)
      | (with_reducible exact LeO.refl _)
      | (with_reducible exact LeO.none _)
      | (with_reducible refine LeO.ite ?_ ?_)
      | (with_reducible refine LeO.bind ?_ (fun _ => ?_))
      | exact ih0 _ _ _
      | exact ih1 _ _ _
      | exact ih2 _ _ _ _
      | exact ih3 _ _ _
      | exact ih4 _ _ _
      | exact spec_bytesOf.mono _ _
      | exact LeO.none _
      | refine LeO.ite ?_ ?_
      | refine LeO.bind ?_ (fun _ => ?_)
theorem spec_trimmed.mono : ∀ a0 k, LeO (spec_trimmed.f k a0) (spec_trimmed.f (k + 1) a0) := by
  intro a0 k
  obtain ⟨ih0, ih1, ih2, ih3, ih4⟩ := spec_trimmed.mono_l k
  unfold spec_trimmed.f
  repeat' first
      | (with_reducible exact ih0 _ _ _)
      | (with_reducible exact ih1 _ _ _)
      | (with_reducible exact ih2 _ _ _ _)
      | (with_reducible exact ih3 _ _ _)
      | (with_reducible exact ih4 _ _ _)
      | (with_reducible exact spec_bytesOf.mono _ _)
      | (with_reducible exact LeO.refl _)
      | (with_reducible exact LeO.none _)
      | (with_reducible refine LeO.ite ?_ ?_)
      | (with_reducible refine LeO.bind ?_ (fun _ => ?_))
      | exact ih0 _ _ _
      | exact ih1 _ _ _
      | exact ih2 _ _ _ _
      | exact ih3 _ _ _
      | exact ih4 _ _ _
      | exact spec_bytesOf.mono _ _
      | exact LeO.none _
      | refine LeO.ite ?_ ?_
      | refine LeO.bind ?_ (fun _ => ?_)
set_option maxHeartbeats 8000000 in
set_option maxRecDepth 100000 in
theorem spec_trimmed.calls (k : Nat) (a0 : ByteArray) (r1 : ByteArray) (r2 : Bool) (w : World) (h : spec_trimmed.f k a0 = some (r1, r2)) :
    Calls Tryd.prog 28 #[.string a0] w fun e w' => e = .returned (.tuple #[.string r1, .bool r2]) ∧ Below w.heap.size w w' := by
  have HB := Aside0.mk (Below.refl w.heap.size w)
  have H : (spec_trimmed.l0 k a0 0 (wrap64 ((a0.size : Int) / 2))) = some (r1, r2) := h
  clear h
  have HC2 := Aside0.mk H
  clear H
  go_enter Tryd.func28, Tryd.ntmps28
  go_upto_block 0 with (fail)
  go_cut [4] (fun v4 wc => ∃ (kq : Nat) (x4_1 : Int), v4 = .int .i64 x4_1 ∧ Aside0 (spec_trimmed.j1 kq a0 x4_1 (wrap64 ((a0.size : Int) / 2)) = some (r1, r2)) ∧ Aside0 (kq ≤ k) ∧ Aside0 (Below w.heap.size w wc))
  case first =>
    have H := HC2.out
    clear HC2
    have H' := Aside0.mk H
    clear H
    go_wp2
    go_loopg [4] k (fun kq v4 w' => ∃ (x4_1 : Int), v4 = .int .i64 x4_1 ∧ Aside0 (spec_trimmed.l0 kq a0 x4_1 (wrap64 ((a0.size : Int) / 2)) = some (r1, r2)) ∧ Aside0 (kq ≤ k) ∧ Aside0 (Below w.heap.size w w'))
    case atStart => exact ⟨(0), (by first | rfl | (simp; done) | (simp [*]; done)), H', ⟨Nat.le_refl _⟩, ⟨by repeat (first | (with_reducible first | exact HB.out | apply below_alloc | apply pw_below_drewN | apply below_drew1) | exact HB.out)⟩⟩
    case round =>
      clear H'
      try clear c2
      try clear p2
      obtain ⟨x4_1, rfl, HA, HK1, HB⟩ := hrel
      cases gk with
      | zero => exact absurd HA.out (by simp [spec_trimmed.l0])
      | succ k1 =>
        have H := HA.out
        clear HA
        simp only [spec_trimmed.l0] at H
        by_cases c3 : x4_1 < (wrap64 ((a0.size : Int) / 2))
        · rw [if_pos c3] at H
          have c3b0 : decide (x4_1 < (wrap64 ((a0.size : Int) / 2))) = true := decide_eq_true c3
          clear c3
          (first | rw [c3b0] | (simp only [i64_w, i32_w]; rw [c3b0]) | skip)
          replace H := Option.bind_eq_some_iff.mp H
          obtain ⟨t126, A40, H⟩ := H
          replace H : ((spec_isBlankUnit.f t126).bind fun t127 => (if t127 = true then (spec_trimmed.l0 k1 a0 (wrap64 (x4_1 + 1)) (wrap64 ((a0.size : Int) / 2))) else (spec_trimmed.j1 k1 a0 x4_1 (wrap64 ((a0.size : Int) / 2))))) = some (r1, r2) := H
          have A4 := Aside0.mk A40
          clear A40
          replace H := Option.bind_eq_some_iff.mp H
          obtain ⟨t127, A50, H⟩ := H
          replace H : (if t127 = true then (spec_trimmed.l0 k1 a0 (wrap64 (x4_1 + 1)) (wrap64 ((a0.size : Int) / 2))) else (spec_trimmed.j1 k1 a0 x4_1 (wrap64 ((a0.size : Int) / 2)))) = some (r1, r2) := H
          have A5 := Aside0.mk A50
          clear A50
          by_cases c6 : t127 = true
          · subst c6
            have H1 : (spec_trimmed.l0 k1 a0 (wrap64 (x4_1 + 1)) (wrap64 ((a0.size : Int) / 2))) = some (r1, r2) := by rw [if_pos rfl] at H; exact H
            clear H
            have H := H1
            clear H1
            have H' := Aside0.mk H
            clear H
            go_wp2_with (first | (go_at_call 45; (with_reducible refine (spec_UnitAt.calls a0 x4_1 t126 _ A4.out).mono ?_); rintro e w' ⟨rfl, ⟨nd, rfl⟩⟩) | (go_at_call 44; (with_reducible refine (spec_isBlankUnit.calls t126 true _ A5.out).mono ?_); rintro e w' ⟨rfl, ⟨nd, rfl⟩⟩))
            go_roundg k1
            case measure => have := HK1.out; omega
            case rel => exact ⟨(wrap64 (x4_1 + 1)), (by first | rfl | (simp; done) | (simp [*]; done)), H', ⟨by have := HK1.out; omega⟩, ⟨by repeat (first | (with_reducible first | exact HB.out | apply below_alloc | apply pw_below_drewN | apply below_drew1) | exact HB.out)⟩⟩
          · replace c6 := Bool.eq_false_iff.mpr c6
            subst c6
            have H1 : (spec_trimmed.j1 k1 a0 x4_1 (wrap64 ((a0.size : Int) / 2))) = some (r1, r2) := by rw [if_neg (show ¬ (false = true) by decide)] at H; exact H
            clear H
            have H := H1
            clear H1
            have H' := Aside0.mk H
            clear H
            go_wp2_with (first | (go_at_call 45; (with_reducible refine (spec_UnitAt.calls a0 x4_1 t126 _ A4.out).mono ?_); rintro e w' ⟨rfl, ⟨nd, rfl⟩⟩) | (go_at_call 44; (with_reducible refine (spec_isBlankUnit.calls t126 false _ A5.out).mono ?_); rintro e w' ⟨rfl, ⟨nd, rfl⟩⟩))
            go_meet
            case rel => exact ⟨_, (x4_1), (by first | rfl | (simp; done) | (simp [*]; done)), H', ⟨by have := HK1.out; first | omega | exact Nat.le_refl _⟩, ⟨by repeat (first | (with_reducible first | exact HB.out | apply below_alloc | apply pw_below_drewN | apply below_drew1) | exact HB.out)⟩⟩
        · rw [if_neg c3] at H
          have c3b0 : decide (x4_1 < (wrap64 ((a0.size : Int) / 2))) = false := decide_eq_false c3
          clear c3
          (first | rw [c3b0] | (simp only [i64_w, i32_w]; rw [c3b0]) | skip)
          have H' := Aside0.mk H
          clear H
          go_wp2
          go_meet
          case rel => exact ⟨_, (x4_1), (by first | rfl | (simp; done) | (simp [*]; done)), H', ⟨by have := HK1.out; first | omega | exact Nat.le_refl _⟩, ⟨by repeat (first | (with_reducible first | exact HB.out | apply below_alloc | apply pw_below_drewN | apply below_drew1) | exact HB.out)⟩⟩
  case rest =>
    clear HC2
    try clear c2
    try clear p2
    try clear c3
    try clear c3b0
    try clear c6
    try clear p6
    try clear p2
    obtain ⟨kq, x4_1, rfl, HA, HJ1, HB⟩ := hcut
    cases kq with
    | zero => exact absurd HA.out (by simp [spec_trimmed.j1])
    | succ kj1 =>
      have H := HA.out
      clear HA
      simp only [spec_trimmed.j1] at H
      have HC7 := Aside0.mk H
      clear H
      go_upto_block 2 with (fail)
      go_cut [5] (fun v5 wc => ∃ (kq : Nat) (x5_6 : Int), v5 = .int .i64 x5_6 ∧ Aside0 (spec_trimmed.j3 kq a0 x4_1 x5_6 = some (r1, r2)) ∧ Aside0 (kq ≤ kj1) ∧ Aside0 (Below w.heap.size w wc))
      case first =>
        have H := HC7.out
        clear HC7
        have H' := Aside0.mk H
        clear H
        go_wp2
        go_loopg [5] kj1 (fun kq v5 w' => ∃ (x5_2 : Int), v5 = .int .i64 x5_2 ∧ Aside0 (spec_trimmed.l1 kq a0 x4_1 x5_2 = some (r1, r2)) ∧ Aside0 (kq ≤ kj1) ∧ Aside0 (Below w.heap.size w w'))
        case atStart => exact ⟨((wrap64 ((a0.size : Int) / 2))), (by first | rfl | (simp; done) | (simp [*]; done)), H', ⟨Nat.le_refl _⟩, ⟨by repeat (first | (with_reducible first | exact HB.out | apply below_alloc | apply pw_below_drewN | apply below_drew1) | exact HB.out)⟩⟩
        case round =>
          clear H'
          try clear c2
          try clear p2
          try clear c3
          try clear c3b0
          try clear c6
          try clear p6
          try clear p2
          try clear p6
          obtain ⟨x5_2, rfl, HA, HK2, HB⟩ := hrel
          cases gk with
          | zero => exact absurd HA.out (by simp [spec_trimmed.l1])
          | succ k2 =>
            have H := HA.out
            clear HA
            simp only [spec_trimmed.l1] at H
            by_cases c8 : x5_2 > x4_1
            · rw [if_pos c8] at H
              have c8b0 : decide (x4_1 < x5_2) = true := decide_eq_true c8
              clear c8
              (first | rw [c8b0] | (simp only [i64_w, i32_w]; rw [c8b0]) | skip)
              replace H := Option.bind_eq_some_iff.mp H
              obtain ⟨t128, A90, H⟩ := H
              replace H : ((spec_isBlankUnit.f t128).bind fun t129 => (if t129 = true then (spec_trimmed.l1 k2 a0 x4_1 (wrap64 (x5_2 - 1))) else (spec_trimmed.j3 k2 a0 x4_1 x5_2))) = some (r1, r2) := H
              have A9 := Aside0.mk A90
              clear A90
              replace H := Option.bind_eq_some_iff.mp H
              obtain ⟨t129, A100, H⟩ := H
              replace H : (if t129 = true then (spec_trimmed.l1 k2 a0 x4_1 (wrap64 (x5_2 - 1))) else (spec_trimmed.j3 k2 a0 x4_1 x5_2)) = some (r1, r2) := H
              have A10 := Aside0.mk A100
              clear A100
              by_cases c11 : t129 = true
              · subst c11
                have H1 : (spec_trimmed.l1 k2 a0 x4_1 (wrap64 (x5_2 - 1))) = some (r1, r2) := by rw [if_pos rfl] at H; exact H
                clear H
                have H := H1
                clear H1
                have H' := Aside0.mk H
                clear H
                go_wp2_with (first | (go_at_call 45; (with_reducible refine (spec_UnitAt.calls a0 (wrap64 (x5_2 - 1)) t128 _ A9.out).mono ?_); rintro e w' ⟨rfl, ⟨nd, rfl⟩⟩) | (go_at_call 44; (with_reducible refine (spec_isBlankUnit.calls t128 true _ A10.out).mono ?_); rintro e w' ⟨rfl, ⟨nd, rfl⟩⟩))
                go_roundg k2
                case measure => have := HJ1.out; have := HK2.out; omega
                case rel => exact ⟨(wrap64 (x5_2 - 1)), (by first | rfl | (simp; done) | (simp [*]; done)), H', ⟨by have := HJ1.out; have := HK2.out; omega⟩, ⟨by repeat (first | (with_reducible first | exact HB.out | apply below_alloc | apply pw_below_drewN | apply below_drew1) | exact HB.out)⟩⟩
              · replace c11 := Bool.eq_false_iff.mpr c11
                subst c11
                have H1 : (spec_trimmed.j3 k2 a0 x4_1 x5_2) = some (r1, r2) := by rw [if_neg (show ¬ (false = true) by decide)] at H; exact H
                clear H
                have H := H1
                clear H1
                have H' := Aside0.mk H
                clear H
                go_wp2_with (first | (go_at_call 45; (with_reducible refine (spec_UnitAt.calls a0 (wrap64 (x5_2 - 1)) t128 _ A9.out).mono ?_); rintro e w' ⟨rfl, ⟨nd, rfl⟩⟩) | (go_at_call 44; (with_reducible refine (spec_isBlankUnit.calls t128 false _ A10.out).mono ?_); rintro e w' ⟨rfl, ⟨nd, rfl⟩⟩))
                go_meet
                case rel => exact ⟨_, (x5_2), (by first | rfl | (simp; done) | (simp [*]; done)), H', ⟨by have := HJ1.out; have := HK2.out; first | omega | exact Nat.le_refl _⟩, ⟨by repeat (first | (with_reducible first | exact HB.out | apply below_alloc | apply pw_below_drewN | apply below_drew1) | exact HB.out)⟩⟩
            · rw [if_neg c8] at H
              have c8b0 : decide (x4_1 < x5_2) = false := decide_eq_false c8
              clear c8
              (first | rw [c8b0] | (simp only [i64_w, i32_w]; rw [c8b0]) | skip)
              have H' := Aside0.mk H
              clear H
              go_wp2
              go_meet
              case rel => exact ⟨_, (x5_2), (by first | rfl | (simp; done) | (simp [*]; done)), H', ⟨by have := HJ1.out; have := HK2.out; first | omega | exact Nat.le_refl _⟩, ⟨by repeat (first | (with_reducible first | exact HB.out | apply below_alloc | apply pw_below_drewN | apply below_drew1) | exact HB.out)⟩⟩
      case rest =>
        clear HC7
        try clear c1
        try clear c2
        try clear p2
        try clear c3
        try clear c3b0
        try clear c6
        try clear p6
        try clear c8
        try clear c8b0
        try clear c11
        try clear p2
        try clear p6
        obtain ⟨kq, x5_6, rfl, HA, HJ6, HB⟩ := hcut
        cases kq with
        | zero => exact absurd HA.out (by simp [spec_trimmed.j3])
        | succ kj6 =>
          have H := HA.out
          clear HA
          simp only [spec_trimmed.j3] at H
          have H' := Aside0.mk H
          clear H
          go_wp2
          go_loopg [6, 7] kj6 (fun kq v6 v7 w' => ∃ (x6_3 : ByteArray) (x7_3 : Int), v6 = .string x6_3 ∧ v7 = .int .i64 x7_3 ∧ Aside0 (spec_trimmed.l2 kq a0 x5_6 x6_3 x7_3 = some (r1, r2)) ∧ Aside0 (kq ≤ kj6) ∧ Aside0 (Below w.heap.size w w'))
          case atStart => exact ⟨((⟨#[]⟩ : ByteArray)), (x4_1), (by first | rfl | (simp; done) | (simp [*]; done)), (by first | rfl | (simp; done) | (simp [*]; done)), H', ⟨Nat.le_refl _⟩, ⟨by repeat (first | (with_reducible first | exact HB.out | apply below_alloc | apply pw_below_drewN | apply below_drew1) | exact HB.out)⟩⟩
          case round =>
            clear H'
            try clear c1
            try clear c2
            try clear p2
            try clear c3
            try clear c3b0
            try clear c6
            try clear p6
            try clear c8
            try clear c8b0
            try clear c11
            try clear p2
            try clear p6
            obtain ⟨x6_3, x7_3, rfl, rfl, HA, HK3, HB⟩ := hrel
            cases gk with
            | zero => exact absurd HA.out (by simp [spec_trimmed.l2])
            | succ k3 =>
              have H := HA.out
              clear HA
              simp only [spec_trimmed.l2] at H
              by_cases c12 : x7_3 < x5_6
              · rw [if_pos c12] at H
                have c12b0 : decide (x7_3 < x5_6) = true := decide_eq_true c12
                clear c12
                replace H := Option.bind_eq_some_iff.mp H
                obtain ⟨t130, A130, H⟩ := H
                replace H : (if t130 > 127 then (some ((⟨#[]⟩ : ByteArray), false)) else ((spec_bytesOf.f k3 (([t130] : List Int))).bind fun t134 => (if x6_3.size + t134.size ≤ 9223372036854775807 then (spec_trimmed.l2 k3 a0 x5_6 (x6_3 ++ t134) (wrap64 (x7_3 + 1))) else (none)))) = some (r1, r2) := H
                have A13 := Aside0.mk A130
                clear A130
                by_cases c14 : t130 > 127
                · rw [if_pos c14] at H
                  have c14b0 : decide (127 < t130) = true := decide_eq_true c14
                  clear c14
                  simp only [Option.some.injEq, Prod.mk.injEq] at H
                  obtain ⟨rfl, rfl⟩ := H
                  go_wp2_with (first | ((with_reducible refine gate_callee (f := 45) rfl ?_); refine goesL_ (some 43) rfl rfl Tryd.func45 (by kernel_rfl) rfl #[.string a0, .int .i64 x7_3] rfl (by (try simp only [List.map_toArray, List.map_cons, List.map_nil]); first | done | rfl | (simp only [List.length_drop, List.length_take]; rfl)) ?_; (with_reducible refine (spec_UnitAt.calls a0 x7_3 t130 _ A13.out).mono ?_); rintro e w' ⟨rfl, ⟨nd, rfl⟩⟩; refine ⟨_, rfl, ?_⟩))
                  go_ret2
                  exact ⟨by first | rfl | (simp [errW_none, errW_some] <;> rfl) | (simp [*, errW_none, errW_some] <;> rfl), by repeat (first | (with_reducible first | exact HB.out | apply below_alloc | apply pw_below_drewN | apply below_drew1) | exact HB.out)⟩
                · rw [if_neg c14] at H
                  have c14b0 : decide (127 < t130) = false := decide_eq_false c14
                  clear c14
                  obtain ⟨y131, hy131⟩ : ∃ y_ : List Int, y_ = (([t130] : List Int)) := ⟨_, rfl⟩
                  replace H : ((spec_bytesOf.f k3 y131).bind fun t134 => (if x6_3.size + t134.size ≤ 9223372036854775807 then (spec_trimmed.l2 k3 a0 x5_6 (x6_3 ++ t134) (wrap64 (x7_3 + 1))) else (none))) = some (r1, r2) := by first | (rw [hy131]; with_reducible exact H) | (have H2_ := (Option.bind_some _ _).symm.trans H; rw [hy131]; with_reducible exact H2_) | (have H2_ := (Option.bind_some _ _).symm.trans H; with_reducible exact H2_) | with_reducible exact H | (rw [hy131]; exact H) | exact H
                  have Ny131 := Aside0.mk hy131
                  clear hy131
                  replace H := Option.bind_eq_some_iff.mp H
                  obtain ⟨t134, A150, H⟩ := H
                  replace H : (if x6_3.size + t134.size ≤ 9223372036854775807 then (spec_trimmed.l2 k3 a0 x5_6 (x6_3 ++ t134) (wrap64 (x7_3 + 1))) else (none)) = some (r1, r2) := H
                  have A15 := Aside0.mk A150
                  clear A150
                  by_cases c16 : x6_3.size + t134.size ≤ 9223372036854775807
                  · rw [if_pos c16] at H
                    have c16b0 := eq_true c16
                    have c16b1 : decide (x6_3.size + t134.size ≤ 9223372036854775807) = true := decide_eq_true c16
                    try have c16b2 : (9223372036854775807 < x6_3.size + t134.size) = False := eq_false (Nat.not_lt.2 c16)
                    have H' := Aside0.mk H
                    clear H
                    go_wp2_with (first | ((with_reducible refine gate_callee (f := 45) rfl ?_); refine goesL_ (some 43) rfl rfl Tryd.func45 (by kernel_rfl) rfl #[.string a0, .int .i64 x7_3] rfl (by (try simp only [List.map_toArray, List.map_cons, List.map_nil]); first | done | rfl | (simp only [List.length_drop, List.length_take]; rfl)) ?_; (with_reducible refine (spec_UnitAt.calls a0 x7_3 t130 _ A13.out).mono ?_); rintro e w' ⟨rfl, ⟨nd, rfl⟩⟩; refine ⟨_, rfl, ?_⟩) | ((with_reducible refine gate_dst (N := 48) rfl ?_); refine Kd.R_lit (Kd.int .i64) _ 3 ?hg (N := 48) ?hd (xs := ([t130] : List Int)) (inner := [.int .i64 t130]) (ok := fun _ => True) (okp := fun _ => True) ?hr ?hp (fun _ hk => hk) trivial (Below.refl _ _) (Nat.le_refl _) (by simp) ?_; (case hd => rfl); (case hg => rfl); (case hr => first | (go_simp; done) | (go_simp; rfl)); (case hp => exact (Reps.one (show Kd.M (Kd.int .i64) _ _ _ t130 [.int .i64 t130] from rfl) (Reps.none _ _))); intro v132 w17 ho18 hb hg_ hnew_; clear hg_ hnew_; (first | rw [← Ny131.out] at ho18 | (simp only [Int.reduceToNat] at ho18; rw [← Ny131.out] at ho18)); have n0_ := Aside0.mk (Kd.R_lower ho18 (below_size (by repeat (first | (with_reducible first | exact HB.out | apply below_alloc | apply pw_below_drewN | apply below_drew1) | exact HB.out)))); have n1_ := Aside0.mk (below_step (by repeat (first | (with_reducible first | exact HB.out | apply below_alloc | apply pw_below_drewN | apply below_drew1) | exact HB.out)) hb); clear HB; have HO133 := n0_; have HB := n1_; clear n0_ n1_; clear hb ho18; obtain ⟨Ao19, co19, eo19⟩ := Kd.R_slice HO133.out; subst eo19) | ((with_reducible refine gate_callee (f := 46) rfl ?_); refine goesL_ (some 49) rfl rfl Tryd.func46 (by kernel_rfl) rfl #[.slice Ao19 y131.length co19] rfl (by (try simp only [List.map_toArray, List.map_cons, List.map_nil]); first | done | rfl | (simp only [List.length_drop, List.length_take]; rfl)) ?_; (with_reducible refine (spec_bytesOf.calls k3 _ _ y131 t134 _ ?side1 ?side2 A15.out).mono ?_); (case side1 => repeat (first | exact (Kd.R_reads' HO133.out).2.2 | (with_reducible refine Kd.C_alloc ?_ _) | (with_reducible refine Kd.C_drewN ?_ _) | (with_reducible refine Kd.C_drew ?_))); (case side2 => exact (Kd.R_reads' HO133.out).2.1); rintro e w20 ⟨rfl, hb⟩; refine ⟨_, rfl, ?_⟩; have n0_ := Aside0.mk (Kd.R_below (by (with_reducible repeat (first | apply Kd.R_alloc | apply Kd.R_drewN | apply Kd.R_drew)); exact HO133.out) hb); have n1_ := Aside0.mk (below_step (by repeat (first | (with_reducible first | exact HB.out | apply below_alloc | apply pw_below_drewN | apply below_drew1) | exact HB.out)) hb); clear HO133; clear HB; have HO133 := n0_; have HB := n1_; clear n0_ n1_; (try clear hb); (try clear hb2); (try clear hk); (try clear hi)))
                    go_roundg k3
                    case measure => have := HJ1.out; have := HJ6.out; have := HK3.out; omega
                    case rel => exact ⟨(x6_3 ++ t134), (wrap64 (x7_3 + 1)), (by first | rfl | (simp; done) | (simp [*]; done)), (by first | rfl | (simp; done) | (simp [*]; done)), H', ⟨by have := HJ1.out; have := HJ6.out; have := HK3.out; omega⟩, ⟨by repeat (first | (with_reducible first | exact HB.out | apply below_alloc | apply pw_below_drewN | apply below_drew1) | exact HB.out)⟩⟩
                  · rw [if_neg c16] at H
                    exact absurd H (by simp)
              · rw [if_neg c12] at H
                have c12b0 : decide (x7_3 < x5_6) = false := decide_eq_false c12
                clear c12
                simp only [Option.some.injEq, Prod.mk.injEq] at H
                obtain ⟨rfl, rfl⟩ := H
                go_wp2
                go_ret2
                exact ⟨by first | rfl | (simp [errW_none, errW_some] <;> rfl) | (simp [*, errW_none, errW_some] <;> rfl), by repeat (first | (with_reducible first | exact HB.out | apply below_alloc | apply pw_below_drewN | apply below_drew1) | exact HB.out)⟩

-- NOT PRINTED: function 29 (math_NaN)

-- function 30 (spec_basedText): its contract stands in YtheichpmhfledaaDoorExtBased

-- function 48 (spec_Round): its contract stands in YtheichpmhfledaaDoorExtRoundF

/-! ### spec_natTrim: function 68 -/
def spec_natTrim.l0 : Nat → List Int → Int → Option (List Int)
  | 0, _, _ => none
  | k + 1, x0, x3 => if x3 > 0 then (if 0 ≤ (wrap64 (x3 - 1)) then (if (wrap64 (x3 - 1)) < (x0.length : Int) then (if (rd x0 (wrap64 (x3 - 1))) = 0 then (spec_natTrim.l0 k x0 (wrap64 (x3 - 1))) else (if 0 ≤ x3 then (if x3 ≤ (x0.length : Int) then (some (x0.take (x3 : Int).toNat)) else (none)) else (none))) else (none)) else (none)) else (if 0 ≤ x3 then (if x3 ≤ (x0.length : Int) then (some (x0.take (x3 : Int).toNat)) else (none)) else (none))
def spec_natTrim.f (k : Nat) (l0 : List Int) : Option (List Int) := spec_natTrim.l0 k l0 (l0.length : Int)
theorem spec_natTrim.mono_l : ∀ k, (∀ y0 y1, LeO (spec_natTrim.l0 k y0 y1) (spec_natTrim.l0 (k + 1) y0 y1))
  | 0 => fun _ _ r h => by simp [spec_natTrim.l0] at h
  | k + 1 => by
    have ih0 := spec_natTrim.mono_l k
    · intro y0 y1
      unfold spec_natTrim.l0
      repeat' first
      | (with_reducible exact ih0 _ _)
      | (with_reducible exact LeO.refl _)
      | (with_reducible exact LeO.none _)
      | (with_reducible refine LeO.ite ?_ ?_)
      | (with_reducible refine LeO.bind ?_ (fun _ => ?_))
      | exact ih0 _ _
      | exact LeO.none _
      | refine LeO.ite ?_ ?_
      | refine LeO.bind ?_ (fun _ => ?_)
theorem spec_natTrim.mono : ∀ a0 k, LeO (spec_natTrim.f k a0) (spec_natTrim.f (k + 1) a0) := by
  intro a0 k
  have ih0 := spec_natTrim.mono_l k
  unfold spec_natTrim.f
  repeat' first
      | (with_reducible exact ih0 _ _)
      | (with_reducible exact LeO.refl _)
      | (with_reducible exact LeO.none _)
      | (with_reducible refine LeO.ite ?_ ?_)
      | (with_reducible refine LeO.bind ?_ (fun _ => ?_))
      | exact ih0 _ _
      | exact LeO.none _
      | refine LeO.ite ?_ ?_
      | refine LeO.bind ?_ (fun _ => ?_)
set_option maxHeartbeats 8000000 in
set_option maxRecDepth 100000 in
theorem spec_natTrim.calls (k : Nat) (P0_ : Nat → Prop) (u9000_ : Value) (l0 : List Int) (r : List Int) (w0 w : World) (hB : Below w0.heap.size w0 w) (ho0 : Kd.R (Kd.int .u64) 40 w w0.heap.size P0_ u9000_ l0) (h : spec_natTrim.f k l0 = some r) :
    Calls Tryd.prog 68 #[u9000_] w fun e w' => ∃ v0_ : Value, e = .returned (v0_) ∧ Kd.R (Kd.int .u64) 40 w' w0.heap.size (fun k_ => (P0_ k_ ∨ w.heap.size ≤ k_)) v0_ r ∧ Below w0.heap.size w0 w' ∧ Kept w w' (fun k_ => P0_ k_) := by
  have HO0 := Aside0.mk (show Kd.R (Kd.int .u64) 40 w w0.heap.size (fun k_ => (P0_ k_ ∨ w.heap.size ≤ k_)) u9000_ l0 from Kd.R_mono ho0 (fun k_ hk => (.inl hk)))
  have HK := Aside0.mk (Kept.refl w (fun k_ => P0_ k_))
  have HW0 := Aside0.mk hB.size
  have HB := Aside0.mk hB
  clear hB
  have H : (spec_natTrim.l0 k l0 (l0.length : Int)) = some r := h
  clear h
  have H' := Aside0.mk H
  clear H
  obtain ⟨Ao2, co2, eo2⟩ := Kd.R_slice HO0.out
  subst eo2
  go_enter Tryd.func68, Tryd.ntmps68
  go_wp2
  go_loopg [3] k (fun kq v3 w' => ∃ (x3_1 : Int), v3 = .int .i64 x3_1 ∧ Aside0 (spec_natTrim.l0 kq l0 x3_1 = some r) ∧ Aside0 (kq ≤ k) ∧ Aside0 (Kd.R (Kd.int .u64) 40 w' w0.heap.size (fun k_ => (P0_ k_ ∨ w.heap.size ≤ k_)) (.slice Ao2 l0.length co2) l0) ∧ Aside0 (Kept w w' (fun k_ => P0_ k_)) ∧ Aside0 (Below w0.heap.size w0 w'))
  case atStart => exact ⟨((l0.length : Int)), (by first | rfl | (simp; done) | (simp [*]; done)), H', ⟨Nat.le_refl _⟩, ⟨by (with_reducible repeat (first | apply Kd.R_alloc | apply Kd.R_drewN | apply Kd.R_drew)); exact HO0.out⟩, ⟨by repeat (first | (with_reducible first | exact HK.out | apply Kept.alloc | apply Kept.drewN | apply Kept.drew) | exact HK.out)⟩, ⟨by repeat (first | (with_reducible first | exact HB.out | apply below_alloc | apply pw_below_drewN | apply below_drew1) | exact HB.out)⟩⟩
  case round =>
    clear H'
    try clear p2
    obtain ⟨x3_1, rfl, HA, HK1, HO_0, HK, HB⟩ := hrel
    cases gk with
    | zero => exact absurd HA.out (by simp [spec_natTrim.l0])
    | succ k1 =>
      have H := HA.out
      clear HA
      simp only [spec_natTrim.l0] at H
      by_cases c3 : x3_1 > 0
      · rw [if_pos c3] at H
        have c3b0 : decide (0 < x3_1) = true := decide_eq_true c3
        clear c3
        obtain ⟨ji4, hji4⟩ : ∃ j_ : Int, (wrap64 (x3_1 - 1)) = j_ := ⟨_, rfl⟩
        replace H : (if 0 ≤ (ji4) then (if (ji4) < (l0.length : Int) then (if (rd l0 (ji4)) = 0 then (spec_natTrim.l0 k1 l0 ji4) else (if 0 ≤ x3_1 then (if x3_1 ≤ (l0.length : Int) then (some (l0.take (x3_1 : Int).toNat)) else (none)) else (none))) else (none)) else (none)) = some r := by first | (rw [hji4] at H; exact H) | (simp only [hji4] at H ⊢; exact H)
        have hji4w : (IntKind.i64.wrap (x3_1 - 1)) = ji4 := (i64_w _).trans hji4
        by_cases c5 : 0 ≤ (ji4)
        · rw [if_pos c5] at H
          have c5b0 : decide (0 ≤ (ji4)) = true := decide_eq_true c5
          clear c5
          by_cases c6 : (ji4) < (l0.length : Int)
          · rw [if_pos c6] at H
            have c6b0 : decide ((ji4) < (l0.length : Int)) = true := decide_eq_true c6
            clear c6
            by_cases c7 : (rd l0 (ji4)) = 0
            · rw [if_pos c7] at H
              have c7b0 : ((rd l0 (ji4)) == 0) = true := beq_iff_eq.mpr c7
              have c7b1 : ((rd l0 (ji4)) != 0) = false := bne_eq_false_iff_eq.mpr c7
              clear c7
              have H' := Aside0.mk H
              clear H
              have p135 : 0 ≤ ((ji4) : Int) := of_decide_eq_true (by first | (with_reducible assumption) | assumption)
              have q135 : (ji4) < (l0.length : Int) := of_decide_eq_true (by first | (with_reducible assumption) | assumption)
              obtain ⟨ad135, e135, hx135_0⟩ := Kd.at_int (Kd.R_reads' HO_0.out).2.2 (ji4) p135 q135
              cases e135
              replace p135 := eq_true p135
              replace q135 := eq_true q135
              go_wp2
              go_roundg k1
              case measure => have := HK1.out; omega
              case rel => exact ⟨(ji4), (by first | rfl | (simp; done) | (simp only [← hji4] <;> (first | rfl | simp)) | (simp [*]; done)), H', ⟨by have := HK1.out; omega⟩, ⟨by (with_reducible repeat (first | apply Kd.R_alloc | apply Kd.R_drewN | apply Kd.R_drew)); exact HO_0.out⟩, ⟨by repeat (first | (with_reducible first | exact HK.out | apply Kept.alloc | apply Kept.drewN | apply Kept.drew) | exact HK.out)⟩, ⟨by repeat (first | (with_reducible first | exact HB.out | apply below_alloc | apply pw_below_drewN | apply below_drew1) | exact HB.out)⟩⟩
            · rw [if_neg c7] at H
              have c7b0 : ((rd l0 (ji4)) == 0) = false := beq_eq_false_iff_ne.mpr c7
              have c7b1 : ((rd l0 (ji4)) != 0) = true := bne_iff_ne.mpr c7
              by_cases c8 : 0 ≤ x3_1
              · rw [if_pos c8] at H
                have c8b0 := eq_true c8
                have c8b1 : decide (0 ≤ x3_1) = true := decide_eq_true c8
                clear c8
                by_cases c9 : x3_1 ≤ (l0.length : Int)
                · rw [if_pos c9] at H
                  have c9b0 := eq_true c9
                  have c9b1 : decide (x3_1 ≤ (l0.length : Int)) = true := decide_eq_true c9
                  clear c9
                  obtain ⟨y136, hy136⟩ : ∃ y_ : List Int, y_ = (l0.take (x3_1 : Int).toNat) := ⟨_, rfl⟩
                  replace H : (some y136) = some r := by first | (rw [hy136]; with_reducible exact H) | (have H2_ := (Option.bind_some _ _).symm.trans H; rw [hy136]; with_reducible exact H2_) | (have H2_ := (Option.bind_some _ _).symm.trans H; with_reducible exact H2_) | with_reducible exact H | (rw [hy136]; exact H) | exact H
                  have Ny136 := Aside0.mk hy136
                  clear hy136
                  obtain rfl := Option.some.inj H
                  have p135 : 0 ≤ ((ji4) : Int) := of_decide_eq_true (by first | (with_reducible assumption) | assumption)
                  have q135 : (ji4) < (l0.length : Int) := of_decide_eq_true (by first | (with_reducible assumption) | assumption)
                  obtain ⟨ad135, e135, hx135_0⟩ := Kd.at_int (Kd.R_reads' HO_0.out).2.2 (ji4) p135 q135
                  cases e135
                  replace p135 := eq_true p135
                  replace q135 := eq_true q135
                  have q10 : (x3_1 : Int) ≤ ((l0.length : Int) : Int) := of_decide_eq_true (by first | (with_reducible assumption) | assumption)
                  obtain ⟨i010, hi010, _, hsz10, _⟩ := info_parts info40
                  have hcut10 := cut_to (P := Tryd.prog) 55 40 .i64 Tryd.underlying55 hi010 (some ad135) l0.length co2 x3_1 (of_decide_eq_true (by first | (with_reducible assumption) | assumption)) q10 (Kd.R_reads' HO_0.out).2.1
                  have hr10 := Kd.R_take (m := (x3_1 : Int).toNat) HO_0.out (by omega)
                  have hy10 : y136.length = (x3_1 : Int).toNat := (by rw [Ny136.out, List.length_take]; omega)
                  rw [← Ny136.out] at hr10
                  rw [← hy10] at hr10 hcut10
                  clear hy10 hi010 hsz10 HO_0
                  have HO138 := Aside0.mk hr10
                  clear hr10
                  replace q10 := eq_true q10
                  go_wp2
                  go_ret
                  exact ⟨_, by first | rfl | (simp [errW_none, errW_some] <;> rfl) | (simp only [← hji4]; first | rfl | (simp [errW_none, errW_some] <;> rfl)) | (simp [*, errW_none, errW_some] <;> rfl), by (with_reducible repeat (first | apply Kd.R_alloc | apply Kd.R_drewN | apply Kd.R_drew)); exact HO138.out, by repeat (first | (with_reducible first | exact HB.out | apply below_alloc | apply pw_below_drewN | apply below_drew1) | exact HB.out), by repeat (first | (with_reducible first | exact HK.out | apply Kept.alloc | apply Kept.drewN | apply Kept.drew) | exact HK.out)⟩
                · rw [if_neg c9] at H
                  exact absurd H (by simp)
              · rw [if_neg c8] at H
                exact absurd H (by simp)
          · rw [if_neg c6] at H
            exact absurd H (by simp)
        · rw [if_neg c5] at H
          exact absurd H (by simp)
      · rw [if_neg c3] at H
        have c3b0 : decide (0 < x3_1) = false := decide_eq_false c3
        clear c3
        by_cases c11 : 0 ≤ x3_1
        · rw [if_pos c11] at H
          have c11b0 := eq_true c11
          have c11b1 : decide (0 ≤ x3_1) = true := decide_eq_true c11
          clear c11
          by_cases c12 : x3_1 ≤ (l0.length : Int)
          · rw [if_pos c12] at H
            have c12b0 := eq_true c12
            have c12b1 : decide (x3_1 ≤ (l0.length : Int)) = true := decide_eq_true c12
            clear c12
            obtain ⟨y139, hy139⟩ : ∃ y_ : List Int, y_ = (l0.take (x3_1 : Int).toNat) := ⟨_, rfl⟩
            replace H : (some y139) = some r := by first | (rw [hy139]; with_reducible exact H) | (have H2_ := (Option.bind_some _ _).symm.trans H; rw [hy139]; with_reducible exact H2_) | (have H2_ := (Option.bind_some _ _).symm.trans H; with_reducible exact H2_) | with_reducible exact H | (rw [hy139]; exact H) | exact H
            have Ny139 := Aside0.mk hy139
            clear hy139
            obtain rfl := Option.some.inj H
            have q13 : (x3_1 : Int) ≤ ((l0.length : Int) : Int) := of_decide_eq_true (by first | (with_reducible assumption) | assumption)
            obtain ⟨i013, hi013, _, hsz13, _⟩ := info_parts info40
            have hcut13 := cut_to (P := Tryd.prog) 55 40 .i64 Tryd.underlying55 hi013 Ao2 l0.length co2 x3_1 (of_decide_eq_true (by first | (with_reducible assumption) | assumption)) q13 (Kd.R_reads' HO_0.out).2.1
            have hr13 := Kd.R_take (m := (x3_1 : Int).toNat) HO_0.out (by omega)
            have hy13 : y139.length = (x3_1 : Int).toNat := (by rw [Ny139.out, List.length_take]; omega)
            rw [← Ny139.out] at hr13
            rw [← hy13] at hr13 hcut13
            clear hy13 hi013 hsz13 HO_0
            have HO141 := Aside0.mk hr13
            clear hr13
            replace q13 := eq_true q13
            go_wp2
            go_ret
            exact ⟨_, by first | rfl | (simp [errW_none, errW_some] <;> rfl) | (simp [*, errW_none, errW_some] <;> rfl), by (with_reducible repeat (first | apply Kd.R_alloc | apply Kd.R_drewN | apply Kd.R_drew)); exact HO141.out, by repeat (first | (with_reducible first | exact HB.out | apply below_alloc | apply pw_below_drewN | apply below_drew1) | exact HB.out), by repeat (first | (with_reducible first | exact HK.out | apply Kept.alloc | apply Kept.drewN | apply Kept.drew) | exact HK.out)⟩
          · rw [if_neg c12] at H
            exact absurd H (by simp)
        · rw [if_neg c11] at H
          exact absurd H (by simp)

/-! ### spec_natSmall: function 49 -/
def spec_natSmall.f (k : Nat) (a0 : Int) : Option (List Int) := (spec_natTrim.f k (([IntKind.u64.wrap (a0)] : List Int))).bind fun t145 => (some t145)
theorem spec_natSmall.mono : ∀ a0 k, LeO (spec_natSmall.f k a0) (spec_natSmall.f (k + 1) a0) := by
  intro a0 k
  unfold spec_natSmall.f
  repeat' first
      | (with_reducible exact spec_natTrim.mono _ _)
      | (with_reducible exact LeO.refl _)
      | (with_reducible exact LeO.none _)
      | (with_reducible refine LeO.ite ?_ ?_)
      | (with_reducible refine LeO.bind ?_ (fun _ => ?_))
      | exact spec_natTrim.mono _ _
      | exact LeO.none _
      | refine LeO.ite ?_ ?_
      | refine LeO.bind ?_ (fun _ => ?_)
set_option maxHeartbeats 8000000 in
set_option maxRecDepth 100000 in
theorem spec_natSmall.calls (k : Nat) (a0 : Int) (r : List Int) (w : World) (h : spec_natSmall.f k a0 = some r) :
    Calls Tryd.prog 49 #[.int .i64 a0] w fun e w' => ∃ v0_ : Value, e = .returned (v0_) ∧ Kd.R (Kd.int .u64) 40 w' w.heap.size (fun _ => True) v0_ r ∧ Below w.heap.size w w' := by
  have HB := Aside0.mk (Below.refl w.heap.size w)
  have H : ((spec_natTrim.f k (([IntKind.u64.wrap (a0)] : List Int))).bind fun t145 => (some t145)) = some r := h
  clear h
  obtain ⟨y142, hy142⟩ : ∃ y_ : List Int, y_ = (([IntKind.u64.wrap (a0)] : List Int)) := ⟨_, rfl⟩
  replace H : ((spec_natTrim.f k y142).bind fun t145 => (some t145)) = some r := by first | (rw [hy142]; with_reducible exact H) | (have H2_ := (Option.bind_some _ _).symm.trans H; rw [hy142]; with_reducible exact H2_) | (have H2_ := (Option.bind_some _ _).symm.trans H; with_reducible exact H2_) | with_reducible exact H | (rw [hy142]; exact H) | exact H
  have Ny142 := Aside0.mk hy142
  clear hy142
  replace H := Option.bind_eq_some_iff.mp H
  obtain ⟨t145, A20, H⟩ := H
  replace H : (some t145) = some r := H
  have A2 := Aside0.mk A20
  clear A20
  obtain rfl := Option.some.inj H
  go_enter Tryd.func49, Tryd.ntmps49
  go_wp2_with (first | ((with_reducible refine gate_dst (N := 5) rfl ?_); refine Kd.R_lit (Kd.int .u64) _ 40 ?hg (N := 5) ?hd (xs := ([IntKind.u64.wrap (a0)] : List Int)) (inner := [.int .u64 (IntKind.u64.wrap (a0))]) (ok := fun _ => True) (okp := fun _ => True) ?hr ?hp (fun _ hk => hk) trivial (Below.refl _ _) (Nat.le_refl _) (by simp) ?_; (case hd => rfl); (case hg => rfl); (case hr => first | (go_simp; done) | (go_simp; rfl)); (case hp => exact (Reps.one (show Kd.M (Kd.int .u64) _ _ _ (IntKind.u64.wrap (a0)) [.int .u64 (IntKind.u64.wrap (a0))] from rfl) (Reps.none _ _))); intro v143 w3 ho4 hb hg_ hnew_; clear hg_ hnew_; (first | rw [← Ny142.out] at ho4 | (simp only [Int.reduceToNat] at ho4; rw [← Ny142.out] at ho4)); have n0_ := Aside0.mk (Kd.R_lower ho4 (below_size (by repeat (first | (with_reducible first | exact HB.out | apply below_alloc | apply pw_below_drewN | apply below_drew1) | exact HB.out)))); have n1_ := Aside0.mk (below_step (by repeat (first | (with_reducible first | exact HB.out | apply below_alloc | apply pw_below_drewN | apply below_drew1) | exact HB.out)) hb); clear HB; have HO144 := n0_; have HB := n1_; clear n0_ n1_; clear hb ho4; obtain ⟨Ao5, co5, eo5⟩ := Kd.R_slice HO144.out; subst eo5) | ((with_reducible refine gate_callee (f := 68) rfl ?_); refine goesL_ (some 6) rfl rfl Tryd.func68 (by kernel_rfl) rfl #[.slice Ao5 y142.length co5] rfl (by (try simp only [List.map_toArray, List.map_cons, List.map_nil]); first | done | rfl | (simp only [List.length_drop, List.length_take]; rfl)) ?_; (with_reducible refine (spec_natTrim.calls k (fun k_ => some k_ = (.slice Ao5 y142.length co5 : Value).ownBlock) (.slice Ao5 y142.length co5) y142 t145 w _ ?side1 ?side2 A2.out).mono ?_); (case side1 => repeat (first | (with_reducible first | exact HB.out | apply below_alloc | apply pw_below_drewN | apply below_drew1) | exact HB.out)); (case side2 => exact Kd.R_tight rfl HO144.out); rintro e w6 ⟨v146, rfl, ho0, hb, hkp⟩; refine ⟨_, rfl, ?_⟩; have n0_ := Aside0.mk (Kd.R_mono (ok' := fun k_ => True) ho0 (fun k_ hk_ => trivial)); have n1_ := Aside0.mk (hb); clear HB; clear HO144; have HO147 := n0_; have HB := n1_; clear n0_ n1_; (try clear hb); (try clear hkp); (try clear ho0)))
  go_ret
  exact ⟨_, by first | rfl | (simp [errW_none, errW_some] <;> rfl) | (simp [*, errW_none, errW_some] <;> rfl), by (with_reducible repeat (first | apply Kd.R_alloc | apply Kd.R_drewN | apply Kd.R_drew)); exact HO147.out, by repeat (first | (with_reducible first | exact HB.out | apply below_alloc | apply pw_below_drewN | apply below_drew1) | exact HB.out)⟩

/-! ### spec_Whole: function 31 -/
def spec_Whole.f (k : Nat) (l0 : List Int) : Option (Int) := (spec_natSmall.f k 1).bind fun t148 => ((spec_Round.f l0 t148).bind fun t151 => (some t151))
theorem spec_Whole.mono : ∀ a0 k, LeO (spec_Whole.f k a0) (spec_Whole.f (k + 1) a0) := by
  intro a0 k
  unfold spec_Whole.f
  repeat' first
      | (with_reducible exact spec_natSmall.mono _ _)
      | (with_reducible exact LeO.refl _)
      | (with_reducible exact LeO.none _)
      | (with_reducible refine LeO.ite ?_ ?_)
      | (with_reducible refine LeO.bind ?_ (fun _ => ?_))
      | exact spec_natSmall.mono _ _
      | exact LeO.none _
      | refine LeO.ite ?_ ?_
      | refine LeO.bind ?_ (fun _ => ?_)
set_option maxHeartbeats 8000000 in
set_option maxRecDepth 100000 in
theorem spec_Whole.calls (k : Nat) (A0 : Option Addr) (c0 : Nat) (l0 : List Int) (r : Int) (w : World) (hr0 : Kd.C (Kd.int .u64) w A0 l0.length l0) (hc0 : l0.length ≤ c0) (h : spec_Whole.f k l0 = some r) :
    Calls Tryd.prog 31 #[.slice A0 l0.length c0] w fun e w' => e = .returned (.int .u64 r) ∧ Below w.heap.size w w' := by
  have HR0 := Aside0.mk hr0
  have HC0 := Aside0.mk hc0
  clear hr0 hc0
  have HB := Aside0.mk (Below.refl w.heap.size w)
  have H : ((spec_natSmall.f k 1).bind fun t148 => ((spec_Round.f l0 t148).bind fun t151 => (some t151))) = some r := h
  clear h
  replace H := Option.bind_eq_some_iff.mp H
  obtain ⟨t148, A20, H⟩ := H
  replace H : ((spec_Round.f l0 t148).bind fun t151 => (some t151)) = some r := H
  have A2 := Aside0.mk A20
  clear A20
  replace H := Option.bind_eq_some_iff.mp H
  obtain ⟨t151, A30, H⟩ := H
  replace H : (some t151) = some r := H
  have A3 := Aside0.mk A30
  clear A30
  obtain rfl := Option.some.inj H
  go_enter Tryd.func31, Tryd.ntmps31
  go_wp2_with (first | ((with_reducible refine gate_callee (f := 49) rfl ?_); refine goesL_ (some 4) rfl rfl Tryd.func49 (by kernel_rfl) rfl #[.int .i64 1] rfl (by (try simp only [List.map_toArray, List.map_cons, List.map_nil]); first | done | rfl | (simp only [List.length_drop, List.length_take]; rfl)) ?_; (with_reducible refine (spec_natSmall.calls k 1 t148 _ A2.out).mono ?_); rintro e w4 ⟨v149, rfl, ho0, hb⟩; refine ⟨_, rfl, ?_⟩; have n0_ := Aside0.mk (Kd.R_lower ho0 (below_size (by repeat (first | (with_reducible first | exact HB.out | apply below_alloc | apply pw_below_drewN | apply below_drew1) | exact HB.out)))); have n1_ := Aside0.mk (below_step (by repeat (first | (with_reducible first | exact HB.out | apply below_alloc | apply pw_below_drewN | apply below_drew1) | exact HB.out)) hb); clear HB; have HO150 := n0_; have HB := n1_; clear n0_ n1_; (try clear hb); (try clear hb2); (try clear hk); (try clear hi); (try clear ho0); obtain ⟨Ao5, co5, eo5⟩ := Kd.R_slice HO150.out; subst eo5) | ((with_reducible refine gate_callee (f := 48) rfl ?_); refine goesL_ (some 5) rfl rfl Tryd.func48 (by kernel_rfl) rfl #[.slice A0 l0.length c0, .slice Ao5 t148.length co5] rfl (by (try simp only [List.map_toArray, List.map_cons, List.map_nil]); first | done | rfl | (simp only [List.length_drop, List.length_take]; rfl)) ?_; (with_reducible refine (spec_Round.calls _ _ l0 _ _ t148 t151 _ ?side1 ?side2 ?side3 ?side4 A3.out).mono ?_); (case side1 => repeat (first | exact (Kd.C_below HR0.out HB.out) | (with_reducible refine Kd.C_alloc ?_ _) | (with_reducible refine Kd.C_drewN ?_ _) | (with_reducible refine Kd.C_drew ?_))); (case side2 => exact HC0.out); (case side3 => repeat (first | exact (Kd.R_reads' HO150.out).2.2 | (with_reducible refine Kd.C_alloc ?_ _) | (with_reducible refine Kd.C_drewN ?_ _) | (with_reducible refine Kd.C_drew ?_))); (case side4 => exact (Kd.R_reads' HO150.out).2.1); rintro e w6 ⟨rfl, hb⟩; refine ⟨_, rfl, ?_⟩; have n0_ := Aside0.mk (Kd.R_below (by (with_reducible repeat (first | apply Kd.R_alloc | apply Kd.R_drewN | apply Kd.R_drew)); exact HO150.out) hb); have n1_ := Aside0.mk (below_step (by repeat (first | (with_reducible first | exact HB.out | apply below_alloc | apply pw_below_drewN | apply below_drew1) | exact HB.out)) hb); clear HO150; clear HB; have HO150 := n0_; have HB := n1_; clear n0_ n1_; (try clear hb); (try clear hb2); (try clear hk); (try clear hi)))
  go_ret
  exact ⟨by first | rfl | (simp [errW_none, errW_some] <;> rfl) | (simp [*, errW_none, errW_some] <;> rfl), by repeat (first | (with_reducible first | exact HB.out | apply below_alloc | apply pw_below_drewN | apply below_drew1) | exact HB.out)⟩

/-! ### spec_natTimes: function 50 -/
def spec_natTimes.l0 : Nat → List Int → Int → Int → List Int → Int → Option (List Int)
  | 0, _, _, _, _, _ => none
  | k + 1, x0, x1, x2, x7, x8 => if x8 < (x0.length : Int) then (if 0 ≤ x8 then (if x7.length < 17592186044416 then (spec_natTimes.l0 k x0 x1 ((IntKind.u64.wrap (x2 + (IntKind.u64.wrap ((rd x0 x8) * x1)))) / 4294967296) (x7 ++ [Go.bits .and .u64 (IntKind.u64.wrap (x2 + (IntKind.u64.wrap ((rd x0 x8) * x1)))) 4294967295]) (wrap64 (x8 + 1))) else (none)) else (none)) else (if x7.length < 17592186044416 then ((spec_natTrim.f k (x7 ++ [x2])).bind fun t159 => (some t159)) else (none))
def spec_natTimes.f (k : Nat) (l0 : List Int) (a1 : Int) (a2 : Int) : Option (List Int) := spec_natTimes.l0 k l0 a1 a2 ([] : List Int) 0
theorem spec_natTimes.mono_l : ∀ k, (∀ y0 y1 y2 y3 y4, LeO (spec_natTimes.l0 k y0 y1 y2 y3 y4) (spec_natTimes.l0 (k + 1) y0 y1 y2 y3 y4))
  | 0 => fun _ _ _ _ _ r h => by simp [spec_natTimes.l0] at h
  | k + 1 => by
    have ih0 := spec_natTimes.mono_l k
    · intro y0 y1 y2 y3 y4
      unfold spec_natTimes.l0
      repeat' first
      | (with_reducible exact ih0 _ _ _ _ _)
      | (with_reducible exact spec_natTrim.mono _ _)
      | (with_reducible exact LeO.refl _)
      | (with_reducible exact LeO.none _)
      | (with_reducible refine LeO.ite ?_ ?_)
      | (with_reducible refine LeO.bind ?_ (fun _ => ?_))
      | exact ih0 _ _ _ _ _
      | exact spec_natTrim.mono _ _
      | exact LeO.none _
      | refine LeO.ite ?_ ?_
      | refine LeO.bind ?_ (fun _ => ?_)
theorem spec_natTimes.mono : ∀ a0 a1 a2 k, LeO (spec_natTimes.f k a0 a1 a2) (spec_natTimes.f (k + 1) a0 a1 a2) := by
  intro a0 a1 a2 k
  have ih0 := spec_natTimes.mono_l k
  unfold spec_natTimes.f
  repeat' first
      | (with_reducible exact ih0 _ _ _ _ _)
      | (with_reducible exact spec_natTrim.mono _ _)
      | (with_reducible exact LeO.refl _)
      | (with_reducible exact LeO.none _)
      | (with_reducible refine LeO.ite ?_ ?_)
      | (with_reducible refine LeO.bind ?_ (fun _ => ?_))
      | exact ih0 _ _ _ _ _
      | exact spec_natTrim.mono _ _
      | exact LeO.none _
      | refine LeO.ite ?_ ?_
      | refine LeO.bind ?_ (fun _ => ?_)
set_option maxHeartbeats 8000000 in
set_option maxRecDepth 100000 in
theorem spec_natTimes.calls (k : Nat) (A0 : Option Addr) (c0 : Nat) (l0 : List Int) (a1 : Int) (a2 : Int) (r : List Int) (w : World) (hr0 : Kd.C (Kd.int .u64) w A0 l0.length l0) (hc0 : l0.length ≤ c0) (h : spec_natTimes.f k l0 a1 a2 = some r) :
    Calls Tryd.prog 50 #[.slice A0 l0.length c0, .int .u64 a1, .int .u64 a2] w fun e w' => ∃ v0_ : Value, e = .returned (v0_) ∧ Kd.R (Kd.int .u64) 40 w' w.heap.size (fun _ => True) v0_ r ∧ Below w.heap.size w w' := by
  have HR0 := Aside0.mk hr0
  have HC0 := Aside0.mk hc0
  clear hr0 hc0
  have HB := Aside0.mk (Below.refl w.heap.size w)
  have H : (spec_natTimes.l0 k l0 a1 a2 ([] : List Int) 0) = some r := h
  clear h
  have H' := Aside0.mk H
  clear H
  go_enter Tryd.func50, Tryd.ntmps50
  go_wp2
  go_loopg [2, 7, 8] k (fun kq v2 v7 v8 w' => ∃ (x2_1 : Int) (x7_1 : List Int) (x8_1 : Int), v2 = .int .u64 x2_1 ∧ v8 = .int .i64 x8_1 ∧ Aside0 (spec_natTimes.l0 kq l0 a1 x2_1 x7_1 x8_1 = some r) ∧ Aside0 (kq ≤ k) ∧ Aside0 (Kd.R (Kd.int .u64) 40 w' w.heap.size (fun _ => True) v7 x7_1) ∧ Aside0 (Below w.heap.size w w'))
  case atStart => exact ⟨(a2), (([] : List Int)), (0), (by first | rfl | (simp; done) | (simp [*]; done)), (by first | rfl | (simp; done) | (simp [*]; done)), H', ⟨Nat.le_refl _⟩, ⟨by first | exact Kd.R_nil _ _ _ _ _ | exact Kd.N_nil _ _ _ _ _ | exact Kd.V_nil _ _ _ _ _ | exact Kd.Q_nil _ _ _ _ _ | exact Kd.S_nil _ _ _ _ _⟩, ⟨by repeat (first | (with_reducible first | exact HB.out | apply below_alloc | apply pw_below_drewN | apply below_drew1) | exact HB.out)⟩⟩
  case round =>
    clear H'
    try clear p2
    obtain ⟨x2_1, x7_1, x8_1, rfl, rfl, HA, HK1, HO_7, HB⟩ := hrel
    cases gk with
    | zero => exact absurd HA.out (by simp [spec_natTimes.l0])
    | succ k1 =>
      have H := HA.out
      clear HA
      simp only [spec_natTimes.l0] at H
      by_cases c4 : x8_1 < (l0.length : Int)
      · rw [if_pos c4] at H
        have c4b0 : decide (x8_1 < (l0.length : Int)) = true := decide_eq_true c4
        clear c4
        by_cases c5 : 0 ≤ x8_1
        · rw [if_pos c5] at H
          have c5b0 : decide (0 ≤ x8_1) = true := decide_eq_true c5
          clear c5
          by_cases c6 : x7_1.length < 17592186044416
          · rw [if_pos c6] at H
            have LMc6 := Aside0.mk c6
            clear c6
            obtain ⟨y153, hy153⟩ : ∃ y_ : List Int, y_ = (x7_1 ++ [Go.bits .and .u64 (IntKind.u64.wrap (x2_1 + (IntKind.u64.wrap ((rd l0 x8_1) * a1)))) 4294967295]) := ⟨_, rfl⟩
            replace H : (spec_natTimes.l0 k1 l0 a1 ((IntKind.u64.wrap (x2_1 + (IntKind.u64.wrap ((rd l0 x8_1) * a1)))) / 4294967296) y153 (wrap64 (x8_1 + 1))) = some r := by first | (rw [hy153]; with_reducible exact H) | (have H2_ := (Option.bind_some _ _).symm.trans H; rw [hy153]; with_reducible exact H2_) | (have H2_ := (Option.bind_some _ _).symm.trans H; with_reducible exact H2_) | with_reducible exact H | (rw [hy153]; exact H) | exact H
            have Ny153 := Aside0.mk hy153
            clear hy153
            have H' := Aside0.mk H
            clear H
            have p152 : 0 ≤ (x8_1 : Int) := of_decide_eq_true (by first | (with_reducible assumption) | assumption)
            have q152 : x8_1 < (l0.length : Int) := of_decide_eq_true (by first | (with_reducible assumption) | assumption)
            obtain ⟨ad152, e152, hx152_0⟩ := Kd.at_int HR0.out x8_1 p152 q152
            cases e152
            replace hx152_0 := (HB.out.cell (World.block_lt_of_cell? w _ hx152_0)).trans hx152_0
            replace p152 := eq_true p152
            replace q152 := eq_true q152
            go_wp2_with (first | ((with_reducible refine gate_builtin (b := .append) (xs := #[.tmp 23, .tmp 26]) rfl ?_); at_builtin; refine Kd.R_append (Kd.int .u64) (w0 := w) w.heap.size rfl (.tmp 23) (.tmp 26) 55 40 (.int .u64 0) 8 rfl Tryd.underlying55 info40 rfl (by decide) (by omega) u7 x7_1 (Go.bits .and .u64 (IntKind.u64.wrap (x2_1 + (IntKind.u64.wrap ((rd l0 x8_1) * a1)))) 4294967295) [.int .u64 (Go.bits .and .u64 (IntKind.u64.wrap (x2_1 + (IntKind.u64.wrap ((rd l0 x8_1) * a1)))) 4294967295)] (fun _ => True) (fun _ => False) rfl rfl ?aP (fun _ hk => hk.elim) ?aF ?aO ?aB ?aS ?aL ?_; (case aP => exact rfl); (case aB => exact (by repeat (first | (with_reducible first | exact HB.out | apply below_alloc | apply pw_below_drewN | apply below_drew1) | exact HB.out))); (case aF => exact (fun _ _ => trivial)); (case aO => exact (by (with_reducible repeat (first | apply Kd.R_alloc | apply Kd.R_drewN | apply Kd.R_drew)); exact HO_7.out)); (case aS => exact (below_size (by repeat (first | (with_reducible first | exact HB.out | apply below_alloc | apply pw_below_drewN | apply below_drew1) | exact HB.out)))); (case aL => have := LMc6.out; omega); intro v154 w7 ho hb hg hat; rw [← Ny153.out] at ho; have n0_ := Aside0.mk (hb); have n1_ := Aside0.mk (ho); clear HB; clear HO_7; have HB := n0_; have HO155 := n1_; clear n0_ n1_; clear ho hb hg hat))
            go_roundg k1
            case measure => have := HK1.out; omega
            case rel => exact ⟨((IntKind.u64.wrap (x2_1 + (IntKind.u64.wrap ((rd l0 x8_1) * a1)))) / 4294967296), (y153), (wrap64 (x8_1 + 1)), (by first | rfl | (simp; done) | (simp [*]; done)), (by first | rfl | (simp; done) | (simp [*]; done)), H', ⟨by have := HK1.out; omega⟩, ⟨by (with_reducible repeat (first | apply Kd.R_alloc | apply Kd.R_drewN | apply Kd.R_drew)); exact HO155.out⟩, ⟨by repeat (first | (with_reducible first | exact HB.out | apply below_alloc | apply pw_below_drewN | apply below_drew1) | exact HB.out)⟩⟩
          · rw [if_neg c6] at H
            exact absurd H (by simp)
        · rw [if_neg c5] at H
          exact absurd H (by simp)
      · rw [if_neg c4] at H
        have c4b0 : decide (x8_1 < (l0.length : Int)) = false := decide_eq_false c4
        clear c4
        by_cases c8 : x7_1.length < 17592186044416
        · rw [if_pos c8] at H
          have LMc8 := Aside0.mk c8
          clear c8
          obtain ⟨y156, hy156⟩ : ∃ y_ : List Int, y_ = (x7_1 ++ [x2_1]) := ⟨_, rfl⟩
          replace H : ((spec_natTrim.f k1 y156).bind fun t159 => (some t159)) = some r := by first | (rw [hy156]; with_reducible exact H) | (have H2_ := (Option.bind_some _ _).symm.trans H; rw [hy156]; with_reducible exact H2_) | (have H2_ := (Option.bind_some _ _).symm.trans H; with_reducible exact H2_) | with_reducible exact H | (rw [hy156]; exact H) | exact H
          have Ny156 := Aside0.mk hy156
          clear hy156
          replace H := Option.bind_eq_some_iff.mp H
          obtain ⟨t159, A90, H⟩ := H
          replace H : (some t159) = some r := H
          have A9 := Aside0.mk A90
          clear A90
          obtain rfl := Option.some.inj H
          go_wp2_with (first | ((with_reducible refine gate_builtin (b := .append) (xs := #[.tmp 30, .tmp 32]) rfl ?_); at_builtin; refine Kd.R_append (Kd.int .u64) (w0 := w) w.heap.size rfl (.tmp 30) (.tmp 32) 55 40 (.int .u64 0) 8 rfl Tryd.underlying55 info40 rfl (by decide) (by omega) u7 x7_1 x2_1 [.int .u64 x2_1] (fun _ => True) (fun _ => False) rfl rfl ?aP (fun _ hk => hk.elim) ?aF ?aO ?aB ?aS ?aL ?_; (case aP => exact rfl); (case aB => exact (by repeat (first | (with_reducible first | exact HB.out | apply below_alloc | apply pw_below_drewN | apply below_drew1) | exact HB.out))); (case aF => exact (fun _ _ => trivial)); (case aO => exact (by (with_reducible repeat (first | apply Kd.R_alloc | apply Kd.R_drewN | apply Kd.R_drew)); exact HO_7.out)); (case aS => exact (below_size (by repeat (first | (with_reducible first | exact HB.out | apply below_alloc | apply pw_below_drewN | apply below_drew1) | exact HB.out)))); (case aL => have := LMc8.out; omega); intro v157 w10 ho hb hg hat; rw [← Ny156.out] at ho; have n0_ := Aside0.mk (hb); have n1_ := Aside0.mk (ho); clear HB; clear HO_7; have HB := n0_; have HO158 := n1_; clear n0_ n1_; clear ho hb hg hat; obtain ⟨Ao11, co11, eo11⟩ := Kd.R_slice HO158.out; subst eo11) | ((with_reducible refine gate_callee (f := 68) rfl ?_); refine goesL_ (some 34) rfl rfl Tryd.func68 (by kernel_rfl) rfl #[.slice Ao11 y156.length co11] rfl (by (try simp only [List.map_toArray, List.map_cons, List.map_nil]); first | done | rfl | (simp only [List.length_drop, List.length_take]; rfl)) ?_; (with_reducible refine (spec_natTrim.calls k1 (fun k_ => some k_ = (.slice Ao11 y156.length co11 : Value).ownBlock) (.slice Ao11 y156.length co11) y156 t159 w _ ?side1 ?side2 A9.out).mono ?_); (case side1 => repeat (first | (with_reducible first | exact HB.out | apply below_alloc | apply pw_below_drewN | apply below_drew1) | exact HB.out)); (case side2 => exact Kd.R_tight rfl HO158.out); rintro e w12 ⟨v160, rfl, ho0, hb, hkp⟩; refine ⟨_, rfl, ?_⟩; have n0_ := Aside0.mk (Kd.R_mono (ok' := fun k_ => True) ho0 (fun k_ hk_ => trivial)); have n1_ := Aside0.mk (hb); clear HB; clear HO158; have HO161 := n0_; have HB := n1_; clear n0_ n1_; (try clear hb); (try clear hkp); (try clear ho0)))
          go_ret
          exact ⟨_, by first | rfl | (simp [errW_none, errW_some] <;> rfl) | (simp [*, errW_none, errW_some] <;> rfl), by (with_reducible repeat (first | apply Kd.R_alloc | apply Kd.R_drewN | apply Kd.R_drew)); exact HO161.out, by repeat (first | (with_reducible first | exact HB.out | apply below_alloc | apply pw_below_drewN | apply below_drew1) | exact HB.out)⟩
        · rw [if_neg c8] at H
          exact absurd H (by simp)

/-! ### spec_Digit: function 52 -/
def spec_Digit.f (a0 : Int) : Option (Bool) := (spec_between.f 48 a0 57).bind fun t162 => (some t162)
set_option maxHeartbeats 8000000 in
set_option maxRecDepth 100000 in
theorem spec_Digit.calls (a0 : Int) (r : Bool) (w : World) (h : spec_Digit.f a0 = some r) :
    Calls Tryd.prog 52 #[.int .i64 a0] w fun e w' => e = .returned (.bool r) ∧ Drawn0 w w' := by
  have H : ((spec_between.f 48 a0 57).bind fun t162 => (some t162)) = some r := h
  clear h
  replace H := Option.bind_eq_some_iff.mp H
  obtain ⟨t162, A20, H⟩ := H
  replace H : (some t162) = some r := H
  have A2 := Aside0.mk A20
  clear A20
  obtain rfl := Option.some.inj H
  go_enter Tryd.func52, Tryd.ntmps52
  go_wp2_with (first | ((with_reducible refine gate_callee (f := 27) rfl ?_); refine goesL_ (some 4) rfl rfl Tryd.func27 (by kernel_rfl) rfl #[.int .i64 48, .int .i64 a0, .int .i64 57] rfl (by (try simp only [List.map_toArray, List.map_cons, List.map_nil]); first | done | rfl | (simp only [List.length_drop, List.length_take]; rfl)) ?_; (with_reducible refine (spec_between.calls 48 a0 57 t162 _ A2.out).mono ?_); rintro e w' ⟨rfl, ⟨nd, rfl⟩⟩; refine ⟨_, rfl, ?_⟩))
  go_ret
  exact ⟨by first | rfl | (simp; done) | (simp [*]; done), by repeat (first | exact Drawn0.refl _ | apply Drawn0.step)⟩

/-! ### spec_Hex: function 51 -/
def spec_Hex.f (a0 : Int) : Option (Int) := (spec_Digit.f a0).bind fun t163 => (if t163 = true then (some (wrap64 (a0 - 48))) else ((spec_between.f 97 a0 102).bind fun t164 => (if t164 = true then (some (wrap64 ((wrap64 (a0 - 97)) + 10))) else ((spec_between.f 65 a0 70).bind fun t165 => (if t165 = true then (some (wrap64 ((wrap64 (a0 - 65)) + 10))) else (some (-1)))))))
set_option maxHeartbeats 8000000 in
set_option maxRecDepth 100000 in
theorem spec_Hex.calls (a0 : Int) (r : Int) (w : World) (h : spec_Hex.f a0 = some r) :
    Calls Tryd.prog 51 #[.int .i64 a0] w fun e w' => e = .returned (.int .i64 r) ∧ Drawn0 w w' := by
  have H : ((spec_Digit.f a0).bind fun t163 => (if t163 = true then (some (wrap64 (a0 - 48))) else ((spec_between.f 97 a0 102).bind fun t164 => (if t164 = true then (some (wrap64 ((wrap64 (a0 - 97)) + 10))) else ((spec_between.f 65 a0 70).bind fun t165 => (if t165 = true then (some (wrap64 ((wrap64 (a0 - 65)) + 10))) else (some (-1)))))))) = some r := h
  clear h
  replace H := Option.bind_eq_some_iff.mp H
  obtain ⟨t163, A20, H⟩ := H
  replace H : (if t163 = true then (some (wrap64 (a0 - 48))) else ((spec_between.f 97 a0 102).bind fun t164 => (if t164 = true then (some (wrap64 ((wrap64 (a0 - 97)) + 10))) else ((spec_between.f 65 a0 70).bind fun t165 => (if t165 = true then (some (wrap64 ((wrap64 (a0 - 65)) + 10))) else (some (-1))))))) = some r := H
  have A2 := Aside0.mk A20
  clear A20
  by_cases c3 : t163 = true
  · subst c3
    have H1 : (some (wrap64 (a0 - 48))) = some r := by rw [if_pos rfl] at H; exact H
    clear H
    have H := H1
    clear H1
    obtain rfl := Option.some.inj H
    go_enter Tryd.func51, Tryd.ntmps51
    go_wp2_with (first | ((with_reducible refine gate_callee (f := 52) rfl ?_); refine goesL_ (some 5) rfl rfl Tryd.func52 (by kernel_rfl) rfl #[.int .i64 a0] rfl (by (try simp only [List.map_toArray, List.map_cons, List.map_nil]); first | done | rfl | (simp only [List.length_drop, List.length_take]; rfl)) ?_; (with_reducible refine (spec_Digit.calls a0 true _ A2.out).mono ?_); rintro e w' ⟨rfl, ⟨nd, rfl⟩⟩; refine ⟨_, rfl, ?_⟩))
    go_ret
    exact ⟨by first | rfl | (simp; done) | (simp [*]; done), by repeat (first | exact Drawn0.refl _ | apply Drawn0.step)⟩
  · replace c3 := Bool.eq_false_iff.mpr c3
    subst c3
    have H1 : ((spec_between.f 97 a0 102).bind fun t164 => (if t164 = true then (some (wrap64 ((wrap64 (a0 - 97)) + 10))) else ((spec_between.f 65 a0 70).bind fun t165 => (if t165 = true then (some (wrap64 ((wrap64 (a0 - 65)) + 10))) else (some (-1)))))) = some r := by rw [if_neg (show ¬ (false = true) by decide)] at H; exact H
    clear H
    have H := H1
    clear H1
    replace H := Option.bind_eq_some_iff.mp H
    obtain ⟨t164, A40, H⟩ := H
    replace H : (if t164 = true then (some (wrap64 ((wrap64 (a0 - 97)) + 10))) else ((spec_between.f 65 a0 70).bind fun t165 => (if t165 = true then (some (wrap64 ((wrap64 (a0 - 65)) + 10))) else (some (-1))))) = some r := H
    have A4 := Aside0.mk A40
    clear A40
    by_cases c5 : t164 = true
    · subst c5
      have H1 : (some (wrap64 ((wrap64 (a0 - 97)) + 10))) = some r := by rw [if_pos rfl] at H; exact H
      clear H
      have H := H1
      clear H1
      obtain rfl := Option.some.inj H
      go_enter Tryd.func51, Tryd.ntmps51
      go_wp2_with (first | ((with_reducible refine gate_callee (f := 52) rfl ?_); refine goesL_ (some 5) rfl rfl Tryd.func52 (by kernel_rfl) rfl #[.int .i64 a0] rfl (by (try simp only [List.map_toArray, List.map_cons, List.map_nil]); first | done | rfl | (simp only [List.length_drop, List.length_take]; rfl)) ?_; (with_reducible refine (spec_Digit.calls a0 false _ A2.out).mono ?_); rintro e w' ⟨rfl, ⟨nd, rfl⟩⟩; refine ⟨_, rfl, ?_⟩) | ((with_reducible refine gate_callee (f := 27) rfl ?_); refine goesL_ (some 10) rfl rfl Tryd.func27 (by kernel_rfl) rfl #[.int .i64 97, .int .i64 a0, .int .i64 102] rfl (by (try simp only [List.map_toArray, List.map_cons, List.map_nil]); first | done | rfl | (simp only [List.length_drop, List.length_take]; rfl)) ?_; (with_reducible refine (spec_between.calls 97 a0 102 true _ A4.out).mono ?_); rintro e w' ⟨rfl, ⟨nd, rfl⟩⟩; refine ⟨_, rfl, ?_⟩))
      go_ret
      exact ⟨by first | rfl | (simp; done) | (simp [*]; done), by repeat (first | exact Drawn0.refl _ | apply Drawn0.step)⟩
    · replace c5 := Bool.eq_false_iff.mpr c5
      subst c5
      have H1 : ((spec_between.f 65 a0 70).bind fun t165 => (if t165 = true then (some (wrap64 ((wrap64 (a0 - 65)) + 10))) else (some (-1)))) = some r := by rw [if_neg (show ¬ (false = true) by decide)] at H; exact H
      clear H
      have H := H1
      clear H1
      replace H := Option.bind_eq_some_iff.mp H
      obtain ⟨t165, A60, H⟩ := H
      replace H : (if t165 = true then (some (wrap64 ((wrap64 (a0 - 65)) + 10))) else (some (-1))) = some r := H
      have A6 := Aside0.mk A60
      clear A60
      by_cases c7 : t165 = true
      · subst c7
        have H1 : (some (wrap64 ((wrap64 (a0 - 65)) + 10))) = some r := by rw [if_pos rfl] at H; exact H
        clear H
        have H := H1
        clear H1
        obtain rfl := Option.some.inj H
        go_enter Tryd.func51, Tryd.ntmps51
        go_wp2_with (first | ((with_reducible refine gate_callee (f := 52) rfl ?_); refine goesL_ (some 5) rfl rfl Tryd.func52 (by kernel_rfl) rfl #[.int .i64 a0] rfl (by (try simp only [List.map_toArray, List.map_cons, List.map_nil]); first | done | rfl | (simp only [List.length_drop, List.length_take]; rfl)) ?_; (with_reducible refine (spec_Digit.calls a0 false _ A2.out).mono ?_); rintro e w' ⟨rfl, ⟨nd, rfl⟩⟩; refine ⟨_, rfl, ?_⟩) | ((with_reducible refine gate_callee (f := 27) rfl ?_); refine goesL_ (some 10) rfl rfl Tryd.func27 (by kernel_rfl) rfl #[.int .i64 97, .int .i64 a0, .int .i64 102] rfl (by (try simp only [List.map_toArray, List.map_cons, List.map_nil]); first | done | rfl | (simp only [List.length_drop, List.length_take]; rfl)) ?_; (with_reducible refine (spec_between.calls 97 a0 102 false _ A4.out).mono ?_); rintro e w' ⟨rfl, ⟨nd, rfl⟩⟩; refine ⟨_, rfl, ?_⟩) | ((with_reducible refine gate_callee (f := 27) rfl ?_); refine goesL_ (some 16) rfl rfl Tryd.func27 (by kernel_rfl) rfl #[.int .i64 65, .int .i64 a0, .int .i64 70] rfl (by (try simp only [List.map_toArray, List.map_cons, List.map_nil]); first | done | rfl | (simp only [List.length_drop, List.length_take]; rfl)) ?_; (with_reducible refine (spec_between.calls 65 a0 70 true _ A6.out).mono ?_); rintro e w' ⟨rfl, ⟨nd, rfl⟩⟩; refine ⟨_, rfl, ?_⟩))
        go_ret
        exact ⟨by first | rfl | (simp; done) | (simp [*]; done), by repeat (first | exact Drawn0.refl _ | apply Drawn0.step)⟩
      · replace c7 := Bool.eq_false_iff.mpr c7
        subst c7
        have H1 : (some (-1)) = some r := by rw [if_neg (show ¬ (false = true) by decide)] at H; exact H
        clear H
        have H := H1
        clear H1
        obtain rfl := Option.some.inj H
        go_enter Tryd.func51, Tryd.ntmps51
        go_wp2_with (first | ((with_reducible refine gate_callee (f := 52) rfl ?_); refine goesL_ (some 5) rfl rfl Tryd.func52 (by kernel_rfl) rfl #[.int .i64 a0] rfl (by (try simp only [List.map_toArray, List.map_cons, List.map_nil]); first | done | rfl | (simp only [List.length_drop, List.length_take]; rfl)) ?_; (with_reducible refine (spec_Digit.calls a0 false _ A2.out).mono ?_); rintro e w' ⟨rfl, ⟨nd, rfl⟩⟩; refine ⟨_, rfl, ?_⟩) | ((with_reducible refine gate_callee (f := 27) rfl ?_); refine goesL_ (some 10) rfl rfl Tryd.func27 (by kernel_rfl) rfl #[.int .i64 97, .int .i64 a0, .int .i64 102] rfl (by (try simp only [List.map_toArray, List.map_cons, List.map_nil]); first | done | rfl | (simp only [List.length_drop, List.length_take]; rfl)) ?_; (with_reducible refine (spec_between.calls 97 a0 102 false _ A4.out).mono ?_); rintro e w' ⟨rfl, ⟨nd, rfl⟩⟩; refine ⟨_, rfl, ?_⟩) | ((with_reducible refine gate_callee (f := 27) rfl ?_); refine goesL_ (some 16) rfl rfl Tryd.func27 (by kernel_rfl) rfl #[.int .i64 65, .int .i64 a0, .int .i64 70] rfl (by (try simp only [List.map_toArray, List.map_cons, List.map_nil]); first | done | rfl | (simp only [List.length_drop, List.length_take]; rfl)) ?_; (with_reducible refine (spec_between.calls 65 a0 70 false _ A6.out).mono ?_); rintro e w' ⟨rfl, ⟨nd, rfl⟩⟩; refine ⟨_, rfl, ?_⟩))
        go_ret
        exact ⟨by first | rfl | (simp; done) | (simp [*]; done), by repeat (first | exact Drawn0.refl _ | apply Drawn0.step)⟩

end Go.Proofs.YtheichpmhfledaaDoor.PFnNumberBack
