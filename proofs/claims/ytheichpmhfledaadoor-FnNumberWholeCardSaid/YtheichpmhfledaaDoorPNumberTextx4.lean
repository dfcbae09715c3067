-- Written by printx.py of this session, over the kit's print, with contracts of this session for some functions
import Derived.Test.YtheichpmhfledaaDoorPNumberTextx0
import Derived.Test.YtheichpmhfledaaDoorPNumberTextx1
import Derived.Test.YtheichpmhfledaaDoorPNumberTextx2
import Derived.Test.YtheichpmhfledaaDoorPNumberTextx3
import Derived.Test.YtheichpmhfledaaDoorExtRoundF
namespace Go.Proofs.YtheichpmhfledaaDoor.PNumberText
open Go.RowKit Go.Proofs.YtheichpmhfledaaDoorW.PrintWords Go.Proofs.YtheichpmhfledaaDoorW.PrintLast Go.Proofs.YtheichpmhfledaaDoorW.PrintMore
attribute [local go_sem] max2_int min2_int max_two min_two max_three min_three max_four min_four   -- for this text's walks alone
set_option linter.unusedVariables false
set_option linter.unusedSimpArgs false

/-! ### spec_shortestDigits: function 54 -/
mutual
def spec_shortestDigits.l0 : Nat → Int → List Int → List Int → Int → Option (ByteArray × Int)
  | 0, _, _, _, _ => none
  | k + 1, x0, x4, x5, x6 => (spec_natPower.f k x5 10 x6).bind fun t237 => ((spec_natCmp.f k x4 t237).bind fun t240 => (if t240 ≥ 0 then (spec_shortestDigits.l0 k x0 x4 x5 (wrap64 (x6 + 1))) else (spec_shortestDigits.l1 k x0 x4 x5 x6)))
def spec_shortestDigits.j2 : Nat → Int → List Int → List Int → Int → Option (ByteArray × Int)
  | 0, _, _, _, _ => none
  | k + 1, x0, x4, x5, x6 => spec_shortestDigits.l2 k x0 x4 x5 x6 1
def spec_shortestDigits.l2 : Nat → Int → List Int → List Int → Int → Int → Option (ByteArray × Int)
  | 0, _, _, _, _, _ => none
  | k + 1, x0, x4, x5, x6, x7 => if x7 ≥ x6 then ((spec_natPower.f k x4 10 (wrap64 (x7 - x6))).bind fun t245 => (spec_shortestDigits.j4 k x0 x4 x5 x6 x7 t245 x5)) else ((spec_natPower.f k x5 10 (wrap64 (x6 - x7))).bind fun t248 => (spec_shortestDigits.j4 k x0 x4 x5 x6 x7 x4 t248))
def spec_shortestDigits.j4 : Nat → Int → List Int → List Int → Int → Int → List Int → List Int → Option (ByteArray × Int)
  | 0, _, _, _, _, _, _, _ => none
  | k + 1, x0, x4, x5, x6, x7, x8, x9 => (spec_natDiv.f k x8 x9).bind fun bt251 => ((spec_natShift.f k bt251.2 1).bind fun t255 => ((spec_natCmp.f k t255 x9).bind fun t258 => (if t258 ≥ 0 then (spec_shortestDigits.j5 k x0 x4 x5 x6 x7 bt251.1 (IntKind.u64.wrap (bt251.1 + 1)) (decide (t258 ≥ 0))) else (spec_shortestDigits.j5 k x0 x4 x5 x6 x7 bt251.1 bt251.1 (decide (t258 ≥ 0))))))
def spec_shortestDigits.j5 : Nat → Int → List Int → List Int → Int → Int → Int → Int → Bool → Option (ByteArray × Int)
  | 0, _, _, _, _, _, _, _, _ => none
  | k + 1, x0, x4, x5, x6, x7, x10, x12, x13 => if x13 = true then (spec_shortestDigits.j6 k x0 x4 x5 x6 x7 x12 x10) else (spec_shortestDigits.j6 k x0 x4 x5 x6 x7 x12 (IntKind.u64.wrap (x10 + 1)))
def spec_shortestDigits.j6 : Nat → Int → List Int → List Int → Int → Int → Int → Int → Option (ByteArray × Int)
  | 0, _, _, _, _, _, _, _ => none
  | k + 1, x0, x4, x5, x6, x7, x12, x14 => (spec_backTo.f k x12 (wrap64 (x6 - x7))).bind fun t259 => (if t259 = x0 then ((spec_cutDigits.f k x12 x6 x7).bind fun bt260 => (some (bt260.1, bt260.2))) else ((spec_backTo.f k x14 (wrap64 (x6 - x7))).bind fun t262 => (if t262 = x0 then ((spec_cutDigits.f k x14 x6 x7).bind fun bt263 => (some (bt263.1, bt263.2))) else (spec_shortestDigits.l2 k x0 x4 x5 x6 (wrap64 (x7 + 1))))))
def spec_shortestDigits.l1 : Nat → Int → List Int → List Int → Int → Option (ByteArray × Int)
  | 0, _, _, _, _ => none
  | k + 1, x0, x4, x5, x6 => if x6 ≤ 0 then ((spec_natPower.f k x4 10 (wrap64 (1 - x6))).bind fun t241 => ((spec_natCmp.f k t241 x5).bind fun t244 => (if t244 < 0 then (spec_shortestDigits.l1 k x0 x4 x5 (wrap64 (x6 - 1))) else (spec_shortestDigits.j2 k x0 x4 x5 x6)))) else (spec_shortestDigits.j2 k x0 x4 x5 x6)
end
def spec_shortestDigits.f (k : Nat) (a0 : Int) : Option (ByteArray × Int) := (spec_exactOf.f k a0).bind fun bt231 => (spec_shortestDigits.l0 k a0 bt231.1 bt231.2 0)
theorem spec_shortestDigits.mono_l : ∀ k, (∀ y0 y1 y2 y3, LeO (spec_shortestDigits.l0 k y0 y1 y2 y3) (spec_shortestDigits.l0 (k + 1) y0 y1 y2 y3)) ∧ (∀ y0 y1 y2 y3, LeO (spec_shortestDigits.j2 k y0 y1 y2 y3) (spec_shortestDigits.j2 (k + 1) y0 y1 y2 y3)) ∧ (∀ y0 y1 y2 y3 y4, LeO (spec_shortestDigits.l2 k y0 y1 y2 y3 y4) (spec_shortestDigits.l2 (k + 1) y0 y1 y2 y3 y4)) ∧ (∀ y0 y1 y2 y3 y4 y5 y6, LeO (spec_shortestDigits.j4 k y0 y1 y2 y3 y4 y5 y6) (spec_shortestDigits.j4 (k + 1) y0 y1 y2 y3 y4 y5 y6)) ∧ (∀ y0 y1 y2 y3 y4 y5 y6 y7, LeO (spec_shortestDigits.j5 k y0 y1 y2 y3 y4 y5 y6 y7) (spec_shortestDigits.j5 (k + 1) y0 y1 y2 y3 y4 y5 y6 y7)) ∧ (∀ y0 y1 y2 y3 y4 y5 y6, LeO (spec_shortestDigits.j6 k y0 y1 y2 y3 y4 y5 y6) (spec_shortestDigits.j6 (k + 1) y0 y1 y2 y3 y4 y5 y6)) ∧ (∀ y0 y1 y2 y3, LeO (spec_shortestDigits.l1 k y0 y1 y2 y3) (spec_shortestDigits.l1 (k + 1) y0 y1 y2 y3))
  | 0 => ⟨fun _ _ _ _ r h => by simp [spec_shortestDigits.l0] at h, fun _ _ _ _ r h => by simp [spec_shortestDigits.j2] at h, fun _ _ _ _ _ r h => by simp [spec_shortestDigits.l2] at h, fun _ _ _ _ _ _ _ r h => by simp [spec_shortestDigits.j4] at h, fun _ _ _ _ _ _ _ _ r h => by simp [spec_shortestDigits.j5] at h, fun _ _ _ _ _ _ _ r h => by simp [spec_shortestDigits.j6] at h, fun _ _ _ _ r h => by simp [spec_shortestDigits.l1] at h⟩
  | k + 1 => by
    obtain ⟨ih0, ih1, ih2, ih3, ih4, ih5, ih6⟩ := spec_shortestDigits.mono_l k
    refine ⟨?_, ?_, ?_, ?_, ?_, ?_, ?_⟩
    · intro y0 y1 y2 y3
      unfold spec_shortestDigits.l0
      repeat' first
      | (with_reducible exact ih0 _ _ _ _)
      | (with_reducible exact ih1 _ _ _ _)
      | (with_reducible exact ih2 _ _ _ _ _)
      | (with_reducible exact ih3 _ _ _ _ _ _ _)
      | (with_reducible exact ih4 _ _ _ _ _ _ _ _)
      | (with_reducible exact ih5 _ _ _ _ _ _ _)
      | (with_reducible exact ih6 _ _ _ _)
      | (with_reducible exact spec_backTo.mono _ _ _)
      | (with_reducible exact spec_cutDigits.mono _ _ _ _)
      | (with_reducible exact spec_exactOf.mono _ _)
      | (with_reducible exact spec_natCmp.mono _ _ _)
      | (with_reducible exact spec_natDiv.mono _ _ _)
      | (with_reducible exact spec_natPower.mono _ _ _ _)
      | (with_reducible exact spec_natShift.mono _ _ _)
      | (with_reducible exact LeO.refl _)
      | (with_reducible exact LeO.none _)
      | (with_reducible refine LeO.ite ?_ ?_)
      | (with_reducible refine LeO.bind ?_ (fun _ => ?_))
      | exact ih0 _ _ _ _
      | exact ih1 _ _ _ _
      | exact ih2 _ _ _ _ _
      | exact ih3 _ _ _ _ _ _ _
      | exact ih4 _ _ _ _ _ _ _ _
      | exact ih5 _ _ _ _ _ _ _
      | exact ih6 _ _ _ _
      | exact spec_backTo.mono _ _ _
      | exact spec_cutDigits.mono _ _ _ _
      | exact spec_exactOf.mono _ _
      | exact spec_natCmp.mono _ _ _
      | exact spec_natDiv.mono _ _ _
      | exact spec_natPower.mono _ _ _ _
      | exact spec_natShift.mono _ _ _
      | exact LeO.none _
      | refine LeO.ite ?_ ?_
      | refine LeO.bind ?_ (fun _ => ?_)
    · intro y0 y1 y2 y3
      unfold spec_shortestDigits.j2
      repeat' first
      | (with_reducible exact ih0 _ _ _ _)
      | (with_reducible exact ih1 _ _ _ _)
      | (with_reducible exact ih2 _ _ _ _ _)
      | (with_reducible exact ih3 _ _ _ _ _ _ _)
      | (with_reducible exact ih4 _ _ _ _ _ _ _ _)
      | (with_reducible exact ih5 _ _ _ _ _ _ _)
      | (with_reducible exact ih6 _ _ _ _)
      | (with_reducible exact spec_backTo.mono _ _ _)
      | (with_reducible exact spec_cutDigits.mono _ _ _ _)
      | (with_reducible exact spec_exactOf.mono _ _)
      | (with_reducible exact spec_natCmp.mono _ _ _)
      | (with_reducible exact spec_natDiv.mono _ _ _)
      | (with_reducible exact spec_natPower.mono _ _ _ _)
      | (with_reducible exact spec_natShift.mono _ _ _)
      | (with_reducible exact LeO.refl _)
      | (with_reducible exact LeO.none _)
      | (with_reducible refine LeO.ite ?_ ?_)
      | (with_reducible refine LeO.bind ?_ (fun _ => ?_))
      | exact ih0 _ _ _ _
      | exact ih1 _ _ _ _
      | exact ih2 _ _ _ _ _
      | exact ih3 _ _ _ _ _ _ _
      | exact ih4 _ _ _ _ _ _ _ _
      | exact ih5 _ _ _ _ _ _ _
      | exact ih6 _ _ _ _
      | exact spec_backTo.mono _ _ _
      | exact spec_cutDigits.mono _ _ _ _
      | exact spec_exactOf.mono _ _
      | exact spec_natCmp.mono _ _ _
      | exact spec_natDiv.mono _ _ _
      | exact spec_natPower.mono _ _ _ _
      | exact spec_natShift.mono _ _ _
      | exact LeO.none _
      | refine LeO.ite ?_ ?_
      | refine LeO.bind ?_ (fun _ => ?_)
    · intro y0 y1 y2 y3 y4
      unfold spec_shortestDigits.l2
      repeat' first
      | (with_reducible exact ih0 _ _ _ _)
      | (with_reducible exact ih1 _ _ _ _)
      | (with_reducible exact ih2 _ _ _ _ _)
      | (with_reducible exact ih3 _ _ _ _ _ _ _)
      | (with_reducible exact ih4 _ _ _ _ _ _ _ _)
      | (with_reducible exact ih5 _ _ _ _ _ _ _)
      | (with_reducible exact ih6 _ _ _ _)
      | (with_reducible exact spec_backTo.mono _ _ _)
      | (with_reducible exact spec_cutDigits.mono _ _ _ _)
      | (with_reducible exact spec_exactOf.mono _ _)
      | (with_reducible exact spec_natCmp.mono _ _ _)
      | (with_reducible exact spec_natDiv.mono _ _ _)
      | (with_reducible exact spec_natPower.mono _ _ _ _)
      | (with_reducible exact spec_natShift.mono _ _ _)
      | (with_reducible exact LeO.refl _)
      | (with_reducible exact LeO.none _)
      | (with_reducible refine LeO.ite ?_ ?_)
      | (with_reducible refine LeO.bind ?_ (fun _ => ?_))
      | exact ih0 _ _ _ _
      | exact ih1 _ _ _ _
      | exact ih2 _ _ _ _ _
      | exact ih3 _ _ _ _ _ _ _
      | exact ih4 _ _ _ _ _ _ _ _
      | exact ih5 _ _ _ _ _ _ _
      | exact ih6 _ _ _ _
      | exact spec_backTo.mono _ _ _
      | exact spec_cutDigits.mono _ _ _ _
      | exact spec_exactOf.mono _ _
      | exact spec_natCmp.mono _ _ _
      | exact spec_natDiv.mono _ _ _
      | exact spec_natPower.mono _ _ _ _
      | exact spec_natShift.mono _ _ _
      | exact LeO.none _
      | refine LeO.ite ?_ ?_
      | refine LeO.bind ?_ (fun _ => ?_)
    · intro y0 y1 y2 y3 y4 y5 y6
      unfold spec_shortestDigits.j4
      repeat' first
      | (with_reducible exact ih0 _ _ _ _)
      | (with_reducible exact ih1 _ _ _ _)
      | (with_reducible exact ih2 _ _ _ _ _)
      | (with_reducible exact ih3 _ _ _ _ _ _ _)
      | (with_reducible exact ih4 _ _ _ _ _ _ _ _)
      | (with_reducible exact ih5 _ _ _ _ _ _ _)
      | (with_reducible exact ih6 _ _ _ _)
      | (with_reducible exact spec_backTo.mono _ _ _)
      | (with_reducible exact spec_cutDigits.mono _ _ _ _)
      | (with_reducible exact spec_exactOf.mono _ _)
      | (with_reducible exact spec_natCmp.mono _ _ _)
      | (with_reducible exact spec_natDiv.mono _ _ _)
      | (with_reducible exact spec_natPower.mono _ _ _ _)
      | (with_reducible exact spec_natShift.mono _ _ _)
      | (with_reducible exact LeO.refl _)
      | (with_reducible exact LeO.none _)
      | (with_reducible refine LeO.ite ?_ ?_)
      | (with_reducible refine LeO.bind ?_ (fun _ => ?_))
      | exact ih0 _ _ _ _
      | exact ih1 _ _ _ _
      | exact ih2 _ _ _ _ _
      | exact ih3 _ _ _ _ _ _ _
      | exact ih4 _ _ _ _ _ _ _ _
      | exact ih5 _ _ _ _ _ _ _
      | exact ih6 _ _ _ _
      | exact spec_backTo.mono _ _ _
      | exact spec_cutDigits.mono _ _ _ _
      | exact spec_exactOf.mono _ _
      | exact spec_natCmp.mono _ _ _
      | exact spec_natDiv.mono _ _ _
      | exact spec_natPower.mono _ _ _ _
      | exact spec_natShift.mono _ _ _
      | exact LeO.none _
      | refine LeO.ite ?_ ?_
      | refine LeO.bind ?_ (fun _ => ?_)
    · intro y0 y1 y2 y3 y4 y5 y6 y7
      unfold spec_shortestDigits.j5
      repeat' first
      | (with_reducible exact ih0 _ _ _ _)
      | (with_reducible exact ih1 _ _ _ _)
      | (with_reducible exact ih2 _ _ _ _ _)
      | (with_reducible exact ih3 _ _ _ _ _ _ _)
      | (with_reducible exact ih4 _ _ _ _ _ _ _ _)
      | (with_reducible exact ih5 _ _ _ _ _ _ _)
      | (with_reducible exact ih6 _ _ _ _)
      | (with_reducible exact spec_backTo.mono _ _ _)
      | (with_reducible exact spec_cutDigits.mono _ _ _ _)
      | (with_reducible exact spec_exactOf.mono _ _)
      | (with_reducible exact spec_natCmp.mono _ _ _)
      | (with_reducible exact spec_natDiv.mono _ _ _)
      | (with_reducible exact spec_natPower.mono _ _ _ _)
      | (with_reducible exact spec_natShift.mono _ _ _)
      | (with_reducible exact LeO.refl _)
      | (with_reducible exact LeO.none _)
      | (with_reducible refine LeO.ite ?_ ?_)
      | (with_reducible refine LeO.bind ?_ (fun _ => ?_))
      | exact ih0 _ _ _ _
      | exact ih1 _ _ _ _
      | exact ih2 _ _ _ _ _
      | exact ih3 _ _ _ _ _ _ _
      | exact ih4 _ _ _ _ _ _ _ _
      | exact ih5 _ _ _ _ _ _ _
      | exact ih6 _ _ _ _
      | exact spec_backTo.mono _ _ _
      | exact spec_cutDigits.mono _ _ _ _
      | exact spec_exactOf.mono _ _
      | exact spec_natCmp.mono _ _ _
      | exact spec_natDiv.mono _ _ _
      | exact spec_natPower.mono _ _ _ _
      | exact spec_natShift.mono _ _ _
      | exact LeO.none _
      | refine LeO.ite ?_ ?_
      | refine LeO.bind ?_ (fun _ => ?_)
    · intro y0 y1 y2 y3 y4 y5 y6
      unfold spec_shortestDigits.j6
      repeat' first
      | (with_reducible exact ih0 _ _ _ _)
      | (with_reducible exact ih1 _ _ _ _)
      | (with_reducible exact ih2 _ _ _ _ _)
      | (with_reducible exact ih3 _ _ _ _ _ _ _)
      | (with_reducible exact ih4 _ _ _ _ _ _ _ _)
      | (with_reducible exact ih5 _ _ _ _ _ _ _)
      | (with_reducible exact ih6 _ _ _ _)
      | (with_reducible exact spec_backTo.mono _ _ _)
      | (with_reducible exact spec_cutDigits.mono _ _ _ _)
      | (with_reducible exact spec_exactOf.mono _ _)
      | (with_reducible exact spec_natCmp.mono _ _ _)
      | (with_reducible exact spec_natDiv.mono _ _ _)
      | (with_reducible exact spec_natPower.mono _ _ _ _)
      | (with_reducible exact spec_natShift.mono _ _ _)
      | (with_reducible exact LeO.refl _)
      | (with_reducible exact LeO.none _)
      | (with_reducible refine LeO.ite ?_ ?_)
      | (with_reducible refine LeO.bind ?_ (fun _ => ?_))
      | exact ih0 _ _ _ _
      | exact ih1 _ _ _ _
      | exact ih2 _ _ _ _ _
      | exact ih3 _ _ _ _ _ _ _
      | exact ih4 _ _ _ _ _ _ _ _
      | exact ih5 _ _ _ _ _ _ _
      | exact ih6 _ _ _ _
      | exact spec_backTo.mono _ _ _
      | exact spec_cutDigits.mono _ _ _ _
      | exact spec_exactOf.mono _ _
      | exact spec_natCmp.mono _ _ _
      | exact spec_natDiv.mono _ _ _
      | exact spec_natPower.mono _ _ _ _
      | exact spec_natShift.mono _ _ _
      | exact LeO.none _
      | refine LeO.ite ?_ ?_
      | refine LeO.bind ?_ (fun _ => ?_)
    · intro y0 y1 y2 y3
      unfold spec_shortestDigits.l1
      repeat' first
      | (with_reducible exact ih0 _ _ _ _)
      | (with_reducible exact ih1 _ _ _ _)
      | (with_reducible exact ih2 _ _ _ _ _)
      | (with_reducible exact ih3 _ _ _ _ _ _ _)
      | (with_reducible exact ih4 _ _ _ _ _ _ _ _)
      | (with_reducible exact ih5 _ _ _ _ _ _ _)
      | (with_reducible exact ih6 _ _ _ _)
      | (with_reducible exact spec_backTo.mono _ _ _)
      | (with_reducible exact spec_cutDigits.mono _ _ _ _)
      | (with_reducible exact spec_exactOf.mono _ _)
      | (with_reducible exact spec_natCmp.mono _ _ _)
      | (with_reducible exact spec_natDiv.mono _ _ _)
      | (with_reducible exact spec_natPower.mono _ _ _ _)
      | (with_reducible exact spec_natShift.mono _ _ _)
      | (with_reducible exact LeO.refl _)
      | (with_reducible exact LeO.none _)
      | (with_reducible refine LeO.ite ?_ ?_)
      | (with_reducible refine LeO.bind ?_ (fun _ => ?_))
      | exact ih0 _ _ _ _
      | exact ih1 _ _ _ _
      | exact ih2 _ _ _ _ _
      | exact ih3 _ _ _ _ _ _ _
      | exact ih4 _ _ _ _ _ _ _ _
      | exact ih5 _ _ _ _ _ _ _
      | exact ih6 _ _ _ _
      | exact spec_backTo.mono _ _ _
      | exact spec_cutDigits.mono _ _ _ _
      | exact spec_exactOf.mono _ _
      | exact spec_natCmp.mono _ _ _
      | exact spec_natDiv.mono _ _ _
      | exact spec_natPower.mono _ _ _ _
      | exact spec_natShift.mono _ _ _
      | exact LeO.none _
      | refine LeO.ite ?_ ?_
      | refine LeO.bind ?_ (fun _ => ?_)
theorem spec_shortestDigits.mono : ∀ a0 k, LeO (spec_shortestDigits.f k a0) (spec_shortestDigits.f (k + 1) a0) := by
  intro a0 k
  obtain ⟨ih0, ih1, ih2, ih3, ih4, ih5, ih6⟩ := spec_shortestDigits.mono_l k
  unfold spec_shortestDigits.f
  repeat' first
      | (with_reducible exact ih0 _ _ _ _)
      | (with_reducible exact ih1 _ _ _ _)
      | (with_reducible exact ih2 _ _ _ _ _)
      | (with_reducible exact ih3 _ _ _ _ _ _ _)
      | (with_reducible exact ih4 _ _ _ _ _ _ _ _)
      | (with_reducible exact ih5 _ _ _ _ _ _ _)
      | (with_reducible exact ih6 _ _ _ _)
      | (with_reducible exact spec_backTo.mono _ _ _)
      | (with_reducible exact spec_cutDigits.mono _ _ _ _)
      | (with_reducible exact spec_exactOf.mono _ _)
      | (with_reducible exact spec_natCmp.mono _ _ _)
      | (with_reducible exact spec_natDiv.mono _ _ _)
      | (with_reducible exact spec_natPower.mono _ _ _ _)
      | (with_reducible exact spec_natShift.mono _ _ _)
      | (with_reducible exact LeO.refl _)
      | (with_reducible exact LeO.none _)
      | (with_reducible refine LeO.ite ?_ ?_)
      | (with_reducible refine LeO.bind ?_ (fun _ => ?_))
      | exact ih0 _ _ _ _
      | exact ih1 _ _ _ _
      | exact ih2 _ _ _ _ _
      | exact ih3 _ _ _ _ _ _ _
      | exact ih4 _ _ _ _ _ _ _ _
      | exact ih5 _ _ _ _ _ _ _
      | exact ih6 _ _ _ _
      | exact spec_backTo.mono _ _ _
      | exact spec_cutDigits.mono _ _ _ _
      | exact spec_exactOf.mono _ _
      | exact spec_natCmp.mono _ _ _
      | exact spec_natDiv.mono _ _ _
      | exact spec_natPower.mono _ _ _ _
      | exact spec_natShift.mono _ _ _
      | exact LeO.none _
      | refine LeO.ite ?_ ?_
      | refine LeO.bind ?_ (fun _ => ?_)
set_option maxHeartbeats 8000000 in
set_option maxRecDepth 100000 in
theorem spec_shortestDigits.calls (k : Nat) (a0 : Int) (r1 : ByteArray) (r2 : Int) (w : World) (h : spec_shortestDigits.f k a0 = some (r1, r2)) :
    Calls Tryd.prog 54 #[.int .u64 a0] w fun e w' => e = .returned (.tuple #[.string r1, .int .i64 r2]) ∧ Below w.heap.size w w' := by
  have HB := Aside0.mk (Below.refl w.heap.size w)
  have H : ((spec_exactOf.f k a0).bind fun bt231 => (spec_shortestDigits.l0 k a0 bt231.1 bt231.2 0)) = some (r1, r2) := h
  clear h
  replace H := Option.bind_eq_some_iff.mp H
  obtain ⟨⟨t231, t232⟩, A20, H⟩ := H
  replace H : (spec_shortestDigits.l0 k a0 t231 t232 0) = some (r1, r2) := H
  have A2 := Aside0.mk A20
  clear A20
  have H' := Aside0.mk H
  clear H
  go_enter Tryd.func54, Tryd.ntmps54
  go_wp2_with (first | ((with_reducible refine gate_callee (f := 69) rfl ?_); refine goesL_ (some 17) rfl rfl Tryd.func69 (by kernel_rfl) rfl #[.int .u64 a0] rfl (by (try simp only [List.map_toArray, List.map_cons, List.map_nil]); first | done | rfl | (simp only [List.length_drop, List.length_take]; rfl)) ?_; (with_reducible refine (spec_exactOf.calls k a0 t231 t232 _ A2.out).mono ?_); rintro e w3 ⟨v233, v235, rfl, ho0, ho1, hb⟩; refine ⟨_, rfl, ?_⟩; have n0_ := Aside0.mk (Kd.R_lower ho0 (below_size (by repeat (first | (with_reducible first | exact HB.out | apply below_alloc | apply pw_below_drewN | apply below_drew1) | exact HB.out)))); have n1_ := Aside0.mk (Kd.R_lower ho1 (below_size (by repeat (first | (with_reducible first | exact HB.out | apply below_alloc | apply pw_below_drewN | apply below_drew1) | exact HB.out)))); have n2_ := Aside0.mk (below_step (by repeat (first | (with_reducible first | exact HB.out | apply below_alloc | apply pw_below_drewN | apply below_drew1) | exact HB.out)) hb); clear HB; have HO234 := n0_; have HO236 := n1_; have HB := n2_; clear n0_ n1_ n2_; (try clear hb); (try clear hb2); (try clear hk); (try clear hi); (try clear ho0); (try clear ho1)))
  go_loopg [6] k (fun kq v6 w' => ∃ (x6_1 : Int), v6 = .int .i64 x6_1 ∧ Aside0 (spec_shortestDigits.l0 kq a0 t231 t232 x6_1 = some (r1, r2)) ∧ Aside0 (kq ≤ k) ∧ Aside0 (Kd.R (Kd.int .u64) 40 w' w.heap.size (fun k_ => some k_ ≠ (v235 : Value).ownBlock) v233 t231) ∧ Aside0 (Kd.R (Kd.int .u64) 40 w' w.heap.size (fun k_ => some k_ ≠ (v233 : Value).ownBlock) v235 t232) ∧ Aside0 (Below w.heap.size w w'))
  case atStart => exact ⟨(0), (by first | rfl | (simp; done) | (simp [*]; done)), H', ⟨Nat.le_refl _⟩, ⟨by (with_reducible repeat (first | apply Kd.R_alloc | apply Kd.R_drewN | apply Kd.R_drew)); exact HO234.out⟩, ⟨by (with_reducible repeat (first | apply Kd.R_alloc | apply Kd.R_drewN | apply Kd.R_drew)); exact HO236.out⟩, ⟨by repeat (first | (with_reducible first | exact HB.out | apply below_alloc | apply pw_below_drewN | apply below_drew1) | exact HB.out)⟩⟩
  case round =>
    clear H'
    try clear p2
    obtain ⟨x6_1, rfl, HA, HK1, HO_4, HO_5, HB⟩ := hrel
    cases gk with
    | zero => exact absurd HA.out (by simp [spec_shortestDigits.l0])
    | succ k1 =>
      have H := HA.out
      clear HA
      simp only [spec_shortestDigits.l0] at H
      replace H := Option.bind_eq_some_iff.mp H
      obtain ⟨t237, A40, H⟩ := H
      replace H : ((spec_natCmp.f k1 t231 t237).bind fun t240 => (if t240 ≥ 0 then (spec_shortestDigits.l0 k1 a0 t231 t232 (wrap64 (x6_1 + 1))) else (spec_shortestDigits.l1 k1 a0 t231 t232 x6_1))) = some (r1, r2) := H
      have A4 := Aside0.mk A40
      clear A40
      replace H := Option.bind_eq_some_iff.mp H
      obtain ⟨t240, A50, H⟩ := H
      replace H : (if t240 ≥ 0 then (spec_shortestDigits.l0 k1 a0 t231 t232 (wrap64 (x6_1 + 1))) else (spec_shortestDigits.l1 k1 a0 t231 t232 x6_1)) = some (r1, r2) := H
      have A5 := Aside0.mk A50
      clear A50
      by_cases c6 : t240 ≥ 0
      · rw [if_pos c6] at H
        have c6b0 : decide (0 ≤ t240) = true := decide_eq_true c6
        clear c6
        have H' := Aside0.mk H
        clear H
        obtain ⟨Ao7, co7, eo7⟩ := Kd.R_slice HO_5.out
        subst eo7
        go_wp2_with (first | ((with_reducible refine gate_callee (f := 53) rfl ?_); refine goesL_ (some 23) rfl rfl Tryd.func53 (by kernel_rfl) rfl #[.slice Ao7 t232.length co7, .int .i64 10, .int .i64 x6_1] rfl (by (try simp only [List.map_toArray, List.map_cons, List.map_nil]); first | done | rfl | (simp only [List.length_drop, List.length_take]; rfl)) ?_; (with_reducible refine (spec_natPower.calls k1 (fun k_ => some k_ = (.slice Ao7 t232.length co7 : Value).ownBlock) _ _ t232 10 x6_1 t237 _ ?side1 A4.out).mono ?_); (case side1 => exact Kd.R_V (Kd.R_tight rfl (HO_5.out))); rintro e w8 ⟨v238, rfl, ho0, hb⟩; refine ⟨_, rfl, ?_⟩; have n0_ := Aside0.mk (Kd.R_below (by (with_reducible repeat (first | apply Kd.R_alloc | apply Kd.R_drewN | apply Kd.R_drew)); exact HO_4.out) hb); have n1_ := Aside0.mk (Kd.R_below (by (with_reducible repeat (first | apply Kd.R_alloc | apply Kd.R_drewN | apply Kd.R_drew)); exact HO_5.out) hb); have n2_ := Aside0.mk (Kd.V_lower (Kd.V_mono (ok' := fun k_ => some k_ ≠ (v233 : Value).ownBlock) ho0 (fun k_ hk_ => Or.elim hk_ (fun hs_ => ((HO_5.out).1 k_ hs_.symm)) (fun hn_ => (Kd.fresh' (Kd.R_lt (by (with_reducible repeat (first | apply Kd.R_alloc | apply Kd.R_drewN | apply Kd.R_drew)); exact HO_4.out)) k_ hn_)))) (below_size (by repeat (first | (with_reducible first | exact HB.out | apply below_alloc | apply pw_below_drewN | apply below_drew1) | exact HB.out)))); have n3_ := Aside0.mk (below_step (by repeat (first | (with_reducible first | exact HB.out | apply below_alloc | apply pw_below_drewN | apply below_drew1) | exact HB.out)) hb); clear HO_4; clear HO_5; clear HB; have HO_4 := n0_; have HO_5 := n1_; have HO239 := n2_; have HB := n3_; clear n0_ n1_ n2_ n3_; (try clear hb); (try clear hb2); (try clear hk); (try clear hi); (try clear ho0); obtain ⟨Ao9, co9, eo9⟩ := Kd.R_slice HO_4.out; subst eo9; obtain ⟨Ao10, co10, eo10⟩ := Kd.V_slice HO239.out; subst eo10) | ((with_reducible refine gate_callee (f := 67) rfl ?_); refine goesL_ (some 24) rfl rfl Tryd.func67 (by kernel_rfl) rfl #[.slice Ao9 t231.length co9, .slice Ao10 t237.length co10] rfl (by (try simp only [List.map_toArray, List.map_cons, List.map_nil]); first | done | rfl | (simp only [List.length_drop, List.length_take]; rfl)) ?_; (with_reducible refine (spec_natCmp.calls k1 _ _ t231 _ _ t237 t240 _ ?side1 ?side2 ?side3 ?side4 A5.out).mono ?_); (case side1 => repeat (first | exact (Kd.R_reads' HO_4.out).2.2 | (with_reducible refine Kd.C_alloc ?_ _) | (with_reducible refine Kd.C_drewN ?_ _) | (with_reducible refine Kd.C_drew ?_))); (case side2 => exact (Kd.R_reads' HO_4.out).2.1); (case side3 => repeat (first | exact (Kd.V_reads' HO239.out).2.2 | (with_reducible refine Kd.C_alloc ?_ _) | (with_reducible refine Kd.C_drewN ?_ _) | (with_reducible refine Kd.C_drew ?_))); (case side4 => exact (Kd.V_reads' HO239.out).2.1); rintro e w' ⟨rfl, ⟨nd, rfl⟩⟩; refine ⟨_, rfl, ?_⟩))
        go_roundg k1
        case measure => have := HK1.out; omega
        case rel => exact ⟨(wrap64 (x6_1 + 1)), (by first | rfl | (simp; done) | (simp [*]; done)), H', ⟨by have := HK1.out; omega⟩, ⟨by (with_reducible repeat (first | apply Kd.R_alloc | apply Kd.R_drewN | apply Kd.R_drew)); exact HO_4.out⟩, ⟨by (with_reducible repeat (first | apply Kd.R_alloc | apply Kd.R_drewN | apply Kd.R_drew)); exact HO_5.out⟩, ⟨by repeat (first | (with_reducible first | exact HB.out | apply below_alloc | apply pw_below_drewN | apply below_drew1) | exact HB.out)⟩⟩
      · rw [if_neg c6] at H
        have c6b0 : decide (0 ≤ t240) = false := decide_eq_false c6
        clear c6
        have HC11 := Aside0.mk H
        clear H
        obtain ⟨Ao12, co12, eo12⟩ := Kd.R_slice HO_5.out
        subst eo12
        go_upto_block 2 with (first | ((with_reducible refine gate_callee (f := 53) rfl ?_); refine goesL_ (some 23) rfl rfl Tryd.func53 (by kernel_rfl) rfl #[.slice Ao12 t232.length co12, .int .i64 10, .int .i64 x6_1] rfl (by (try simp only [List.map_toArray, List.map_cons, List.map_nil]); first | done | rfl | (simp only [List.length_drop, List.length_take]; rfl)) ?_; (with_reducible refine (spec_natPower.calls k1 (fun k_ => some k_ = (.slice Ao12 t232.length co12 : Value).ownBlock) _ _ t232 10 x6_1 t237 _ ?side1 A4.out).mono ?_); (case side1 => exact Kd.R_V (Kd.R_tight rfl (HO_5.out))); rintro e w13 ⟨v238, rfl, ho0, hb⟩; refine ⟨_, rfl, ?_⟩; have n0_ := Aside0.mk (Kd.R_below (by (with_reducible repeat (first | apply Kd.R_alloc | apply Kd.R_drewN | apply Kd.R_drew)); exact HO_4.out) hb); have n1_ := Aside0.mk (Kd.R_below (by (with_reducible repeat (first | apply Kd.R_alloc | apply Kd.R_drewN | apply Kd.R_drew)); exact HO_5.out) hb); have n2_ := Aside0.mk (Kd.V_lower (Kd.V_mono (ok' := fun k_ => some k_ ≠ (v233 : Value).ownBlock) ho0 (fun k_ hk_ => Or.elim hk_ (fun hs_ => ((HO_5.out).1 k_ hs_.symm)) (fun hn_ => (Kd.fresh' (Kd.R_lt (by (with_reducible repeat (first | apply Kd.R_alloc | apply Kd.R_drewN | apply Kd.R_drew)); exact HO_4.out)) k_ hn_)))) (below_size (by repeat (first | (with_reducible first | exact HB.out | apply below_alloc | apply pw_below_drewN | apply below_drew1) | exact HB.out)))); have n3_ := Aside0.mk (below_step (by repeat (first | (with_reducible first | exact HB.out | apply below_alloc | apply pw_below_drewN | apply below_drew1) | exact HB.out)) hb); clear HO_4; clear HO_5; clear HB; have HO_4 := n0_; have HO_5 := n1_; have HO239 := n2_; have HB := n3_; clear n0_ n1_ n2_ n3_; (try clear hb); (try clear hb2); (try clear hk); (try clear hi); (try clear ho0); obtain ⟨Ao14, co14, eo14⟩ := Kd.R_slice HO_4.out; subst eo14; obtain ⟨Ao15, co15, eo15⟩ := Kd.V_slice HO239.out; subst eo15) | ((with_reducible refine gate_callee (f := 67) rfl ?_); refine goesL_ (some 24) rfl rfl Tryd.func67 (by kernel_rfl) rfl #[.slice Ao14 t231.length co14, .slice Ao15 t237.length co15] rfl (by (try simp only [List.map_toArray, List.map_cons, List.map_nil]); first | done | rfl | (simp only [List.length_drop, List.length_take]; rfl)) ?_; (with_reducible refine (spec_natCmp.calls k1 _ _ t231 _ _ t237 t240 _ ?side1 ?side2 ?side3 ?side4 A5.out).mono ?_); (case side1 => repeat (first | exact (Kd.R_reads' HO_4.out).2.2 | (with_reducible refine Kd.C_alloc ?_ _) | (with_reducible refine Kd.C_drewN ?_ _) | (with_reducible refine Kd.C_drew ?_))); (case side2 => exact (Kd.R_reads' HO_4.out).2.1); (case side3 => repeat (first | exact (Kd.V_reads' HO239.out).2.2 | (with_reducible refine Kd.C_alloc ?_ _) | (with_reducible refine Kd.C_drewN ?_ _) | (with_reducible refine Kd.C_drew ?_))); (case side4 => exact (Kd.V_reads' HO239.out).2.1); rintro e w' ⟨rfl, ⟨nd, rfl⟩⟩; refine ⟨_, rfl, ?_⟩))
        (try simp only [Act.put, List.setIfInBounds_toArray, List.set_cons_zero, List.set_cons_succ])
        go_cut [6] (fun v6 wc => ∃ (kq : Nat) (x6_10 : Int), v6 = .int .i64 x6_10 ∧ Aside0 (spec_shortestDigits.j2 kq a0 t231 t232 x6_10 = some (r1, r2)) ∧ Aside0 (kq ≤ k1) ∧ Aside0 (Kd.R (Kd.int .u64) 40 wc w.heap.size (fun k_ => some k_ ≠ ((.slice Ao12 t232.length co12) : Value).ownBlock) (.slice Ao14 t231.length co14) t231) ∧ Aside0 (Kd.R (Kd.int .u64) 40 wc w.heap.size (fun k_ => some k_ ≠ ((.slice Ao14 t231.length co14) : Value).ownBlock) (.slice Ao12 t232.length co12) t232) ∧ Aside0 (Below w.heap.size w wc))
        case first =>
          have H := HC11.out
          clear HC11
          have H' := Aside0.mk H
          clear H
          go_wp2
          go_loopg [6] k1 (fun kq v6 w' => ∃ (x6_2 : Int), v6 = .int .i64 x6_2 ∧ Aside0 (spec_shortestDigits.l1 kq a0 t231 t232 x6_2 = some (r1, r2)) ∧ Aside0 (kq ≤ k1) ∧ Aside0 (Kd.R (Kd.int .u64) 40 w' w.heap.size (fun k_ => some k_ ≠ ((.slice Ao12 t232.length co12) : Value).ownBlock) (.slice Ao14 t231.length co14) t231) ∧ Aside0 (Kd.R (Kd.int .u64) 40 w' w.heap.size (fun k_ => some k_ ≠ ((.slice Ao14 t231.length co14) : Value).ownBlock) (.slice Ao12 t232.length co12) t232) ∧ Aside0 (Below w.heap.size w w'))
          case atStart => exact ⟨(x6_1), (by first | rfl | (simp; done) | (simp [*]; done)), H', ⟨Nat.le_refl _⟩, ⟨by (with_reducible repeat (first | apply Kd.R_alloc | apply Kd.R_drewN | apply Kd.R_drew)); exact HO_4.out⟩, ⟨by (with_reducible repeat (first | apply Kd.R_alloc | apply Kd.R_drewN | apply Kd.R_drew)); exact HO_5.out⟩, ⟨by repeat (first | (with_reducible first | exact HB.out | apply below_alloc | apply pw_below_drewN | apply below_drew1) | exact HB.out)⟩⟩
          case round =>
            clear H'
            try clear p2
            try clear c5
            try clear c6
            try clear c6b0
            try clear p6
            try clear p2
            obtain ⟨x6_2, rfl, HA, HK2, HO_4, HO_5, HB⟩ := hrel
            cases gk with
            | zero => exact absurd HA.out (by simp [spec_shortestDigits.l1])
            | succ k2 =>
              have H := HA.out
              clear HA
              simp only [spec_shortestDigits.l1] at H
              by_cases c16 : x6_2 ≤ 0
              · rw [if_pos c16] at H
                have c16b0 : decide (x6_2 ≤ 0) = true := decide_eq_true c16
                clear c16
                (first | rw [c16b0] | (simp only [i64_w, i32_w]; rw [c16b0]) | skip)
                replace H := Option.bind_eq_some_iff.mp H
                obtain ⟨t241, A170, H⟩ := H
                replace H : ((spec_natCmp.f k2 t241 t232).bind fun t244 => (if t244 < 0 then (spec_shortestDigits.l1 k2 a0 t231 t232 (wrap64 (x6_2 - 1))) else (spec_shortestDigits.j2 k2 a0 t231 t232 x6_2))) = some (r1, r2) := H
                have A17 := Aside0.mk A170
                clear A170
                replace H := Option.bind_eq_some_iff.mp H
                obtain ⟨t244, A180, H⟩ := H
                replace H : (if t244 < 0 then (spec_shortestDigits.l1 k2 a0 t231 t232 (wrap64 (x6_2 - 1))) else (spec_shortestDigits.j2 k2 a0 t231 t232 x6_2)) = some (r1, r2) := H
                have A18 := Aside0.mk A180
                clear A180
                by_cases c19 : t244 < 0
                · rw [if_pos c19] at H
                  have c19b0 : decide (t244 < 0) = true := decide_eq_true c19
                  clear c19
                  have H' := Aside0.mk H
                  clear H
                  go_wp2_with (first | (go_at_call 53; (with_reducible refine (spec_natPower.calls k2 (fun k_ => some k_ = (.slice Ao14 t231.length co14 : Value).ownBlock) _ _ t231 10 (wrap64 (1 - x6_2)) t241 _ ?side1 A17.out).mono ?_); (case side1 => exact Kd.R_V (Kd.R_tight rfl (HO_4.out))); rintro e w20 ⟨v242, rfl, ho0, hb⟩; have n0_ := Aside0.mk (Kd.R_below (by (with_reducible repeat (first | apply Kd.R_alloc | apply Kd.R_drewN | apply Kd.R_drew)); exact HO_4.out) hb); have n1_ := Aside0.mk (Kd.R_below (by (with_reducible repeat (first | apply Kd.R_alloc | apply Kd.R_drewN | apply Kd.R_drew)); exact HO_5.out) hb); have n2_ := Aside0.mk (Kd.V_lower (Kd.V_mono (ok' := fun k_ => some k_ ≠ (.slice Ao12 t232.length co12 : Value).ownBlock) ho0 (fun k_ hk_ => Or.elim hk_ (fun hs_ => ((HO_4.out).1 k_ hs_.symm)) (fun hn_ => (Kd.fresh' (Kd.R_lt (by (with_reducible repeat (first | apply Kd.R_alloc | apply Kd.R_drewN | apply Kd.R_drew)); exact HO_5.out)) k_ hn_)))) (below_size (by repeat (first | (with_reducible first | exact HB.out | apply below_alloc | apply pw_below_drewN | apply below_drew1) | exact HB.out)))); have n3_ := Aside0.mk (below_step (by repeat (first | (with_reducible first | exact HB.out | apply below_alloc | apply pw_below_drewN | apply below_drew1) | exact HB.out)) hb); clear HO_4; clear HO_5; clear HB; have HO_4 := n0_; have HO_5 := n1_; have HO243 := n2_; have HB := n3_; clear n0_ n1_ n2_ n3_; (try clear hb); (try clear hb2); (try clear hk); (try clear hi); (try clear ho0); obtain ⟨Ao21, co21, eo21⟩ := Kd.V_slice HO243.out; subst eo21) | (go_at_call 67; (with_reducible refine (spec_natCmp.calls k2 _ _ t241 _ _ t232 t244 _ ?side1 ?side2 ?side3 ?side4 A18.out).mono ?_); (case side1 => repeat (first | exact (Kd.V_reads' HO243.out).2.2 | (with_reducible refine Kd.C_alloc ?_ _) | (with_reducible refine Kd.C_drewN ?_ _) | (with_reducible refine Kd.C_drew ?_))); (case side2 => exact (Kd.V_reads' HO243.out).2.1); (case side3 => repeat (first | exact (Kd.R_reads' HO_5.out).2.2 | (with_reducible refine Kd.C_alloc ?_ _) | (with_reducible refine Kd.C_drewN ?_ _) | (with_reducible refine Kd.C_drew ?_))); (case side4 => exact (Kd.R_reads' HO_5.out).2.1); rintro e w' ⟨rfl, ⟨nd, rfl⟩⟩))
                  go_roundg k2
                  case measure => have := HK1.out; have := HK2.out; omega
                  case rel => exact ⟨(wrap64 (x6_2 - 1)), (by first | rfl | (simp; done) | (simp [*]; done)), H', ⟨by have := HK1.out; have := HK2.out; omega⟩, ⟨by (with_reducible repeat (first | apply Kd.R_alloc | apply Kd.R_drewN | apply Kd.R_drew)); exact HO_4.out⟩, ⟨by (with_reducible repeat (first | apply Kd.R_alloc | apply Kd.R_drewN | apply Kd.R_drew)); exact HO_5.out⟩, ⟨by repeat (first | (with_reducible first | exact HB.out | apply below_alloc | apply pw_below_drewN | apply below_drew1) | exact HB.out)⟩⟩
                · rw [if_neg c19] at H
                  have c19b0 : decide (t244 < 0) = false := decide_eq_false c19
                  clear c19
                  have H' := Aside0.mk H
                  clear H
                  go_wp2_with (first | (go_at_call 53; (with_reducible refine (spec_natPower.calls k2 (fun k_ => some k_ = (.slice Ao14 t231.length co14 : Value).ownBlock) _ _ t231 10 (wrap64 (1 - x6_2)) t241 _ ?side1 A17.out).mono ?_); (case side1 => exact Kd.R_V (Kd.R_tight rfl (HO_4.out))); rintro e w22 ⟨v242, rfl, ho0, hb⟩; have n0_ := Aside0.mk (Kd.R_below (by (with_reducible repeat (first | apply Kd.R_alloc | apply Kd.R_drewN | apply Kd.R_drew)); exact HO_4.out) hb); have n1_ := Aside0.mk (Kd.R_below (by (with_reducible repeat (first | apply Kd.R_alloc | apply Kd.R_drewN | apply Kd.R_drew)); exact HO_5.out) hb); have n2_ := Aside0.mk (Kd.V_lower (Kd.V_mono (ok' := fun k_ => some k_ ≠ (.slice Ao12 t232.length co12 : Value).ownBlock) ho0 (fun k_ hk_ => Or.elim hk_ (fun hs_ => ((HO_4.out).1 k_ hs_.symm)) (fun hn_ => (Kd.fresh' (Kd.R_lt (by (with_reducible repeat (first | apply Kd.R_alloc | apply Kd.R_drewN | apply Kd.R_drew)); exact HO_5.out)) k_ hn_)))) (below_size (by repeat (first | (with_reducible first | exact HB.out | apply below_alloc | apply pw_below_drewN | apply below_drew1) | exact HB.out)))); have n3_ := Aside0.mk (below_step (by repeat (first | (with_reducible first | exact HB.out | apply below_alloc | apply pw_below_drewN | apply below_drew1) | exact HB.out)) hb); clear HO_4; clear HO_5; clear HB; have HO_4 := n0_; have HO_5 := n1_; have HO243 := n2_; have HB := n3_; clear n0_ n1_ n2_ n3_; (try clear hb); (try clear hb2); (try clear hk); (try clear hi); (try clear ho0); obtain ⟨Ao23, co23, eo23⟩ := Kd.V_slice HO243.out; subst eo23) | (go_at_call 67; (with_reducible refine (spec_natCmp.calls k2 _ _ t241 _ _ t232 t244 _ ?side1 ?side2 ?side3 ?side4 A18.out).mono ?_); (case side1 => repeat (first | exact (Kd.V_reads' HO243.out).2.2 | (with_reducible refine Kd.C_alloc ?_ _) | (with_reducible refine Kd.C_drewN ?_ _) | (with_reducible refine Kd.C_drew ?_))); (case side2 => exact (Kd.V_reads' HO243.out).2.1); (case side3 => repeat (first | exact (Kd.R_reads' HO_5.out).2.2 | (with_reducible refine Kd.C_alloc ?_ _) | (with_reducible refine Kd.C_drewN ?_ _) | (with_reducible refine Kd.C_drew ?_))); (case side4 => exact (Kd.R_reads' HO_5.out).2.1); rintro e w' ⟨rfl, ⟨nd, rfl⟩⟩))
                  go_meet
                  case rel => exact ⟨_, (x6_2), (by first | rfl | (simp; done) | (simp [*]; done)), H', ⟨by have := HK1.out; have := HK2.out; first | omega | exact Nat.le_refl _⟩, ⟨by (with_reducible repeat (first | apply Kd.R_alloc | apply Kd.R_drewN | apply Kd.R_drew)); exact HO_4.out⟩, ⟨by (with_reducible repeat (first | apply Kd.R_alloc | apply Kd.R_drewN | apply Kd.R_drew)); exact HO_5.out⟩, ⟨by repeat (first | (with_reducible first | exact HB.out | apply below_alloc | apply pw_below_drewN | apply below_drew1) | exact HB.out)⟩⟩
              · rw [if_neg c16] at H
                have c16b0 : decide (x6_2 ≤ 0) = false := decide_eq_false c16
                clear c16
                (first | rw [c16b0] | (simp only [i64_w, i32_w]; rw [c16b0]) | skip)
                have H' := Aside0.mk H
                clear H
                go_wp2
                go_meet
                case rel => exact ⟨_, (x6_2), (by first | rfl | (simp; done) | (simp [*]; done)), H', ⟨by have := HK1.out; have := HK2.out; first | omega | exact Nat.le_refl _⟩, ⟨by (with_reducible repeat (first | apply Kd.R_alloc | apply Kd.R_drewN | apply Kd.R_drew)); exact HO_4.out⟩, ⟨by (with_reducible repeat (first | apply Kd.R_alloc | apply Kd.R_drewN | apply Kd.R_drew)); exact HO_5.out⟩, ⟨by repeat (first | (with_reducible first | exact HB.out | apply below_alloc | apply pw_below_drewN | apply below_drew1) | exact HB.out)⟩⟩
        case rest =>
          clear HC11
          try clear c1
          try clear p2
          try clear c5
          try clear c6
          try clear c6b0
          try clear p6
          try clear c16
          try clear c16b0
          try clear c19
          try clear c19b0
          try clear p2
          try clear p6
          obtain ⟨kq, x6_10, rfl, HA, HJ10, HO_4, HO_5, HB⟩ := hcut
          cases kq with
          | zero => exact absurd HA.out (by simp [spec_shortestDigits.j2])
          | succ kj10 =>
            have H := HA.out
            clear HA
            simp only [spec_shortestDigits.j2] at H
            have H' := Aside0.mk H
            clear H
            go_wp2
            go_loopg [7] kj10 (fun kq v7 w' => ∃ (x7_3 : Int), v7 = .int .i64 x7_3 ∧ Aside0 (spec_shortestDigits.l2 kq a0 t231 t232 x6_10 x7_3 = some (r1, r2)) ∧ Aside0 (kq ≤ kj10) ∧ Aside0 (Kd.R (Kd.int .u64) 40 w' w.heap.size (fun k_ => some k_ ≠ ((.slice Ao12 t232.length co12) : Value).ownBlock) (.slice Ao14 t231.length co14) t231) ∧ Aside0 (Kd.R (Kd.int .u64) 40 w' w.heap.size (fun k_ => some k_ ≠ ((.slice Ao14 t231.length co14) : Value).ownBlock) (.slice Ao12 t232.length co12) t232) ∧ Aside0 (Below w.heap.size w w'))
            case atStart => exact ⟨(1), (by first | rfl | (simp; done) | (simp [*]; done)), H', ⟨Nat.le_refl _⟩, ⟨by (with_reducible repeat (first | apply Kd.R_alloc | apply Kd.R_drewN | apply Kd.R_drew)); exact HO_4.out⟩, ⟨by (with_reducible repeat (first | apply Kd.R_alloc | apply Kd.R_drewN | apply Kd.R_drew)); exact HO_5.out⟩, ⟨by repeat (first | (with_reducible first | exact HB.out | apply below_alloc | apply pw_below_drewN | apply below_drew1) | exact HB.out)⟩⟩
            case round =>
              clear H'
              try clear c1
              try clear p2
              try clear c5
              try clear c6
              try clear c6b0
              try clear p6
              try clear c16
              try clear c16b0
              try clear c19
              try clear c19b0
              try clear p2
              try clear p6
              obtain ⟨x7_3, rfl, HA, HK3, HO_4, HO_5, HB⟩ := hrel
              cases gk with
              | zero => exact absurd HA.out (by simp [spec_shortestDigits.l2])
              | succ k3 =>
                have H := HA.out
                clear HA
                simp only [spec_shortestDigits.l2] at H
                have HC24 := Aside0.mk H
                clear H
                go_upto_if 47 with (fail)
                go_cut [8, 9] (fun v8 v9 wc => ∃ (kq : Nat) (x8_23 : List Int) (x9_23 : List Int), Aside0 (spec_shortestDigits.j4 kq a0 t231 t232 x6_10 x7_3 x8_23 x9_23 = some (r1, r2)) ∧ Aside0 (kq ≤ k3) ∧ Aside0 (Kd.R (Kd.int .u64) 40 wc w.heap.size (fun k_ => some k_ ≠ ((.slice Ao12 t232.length co12) : Value).ownBlock) (.slice Ao14 t231.length co14) t231) ∧ Aside0 (Kd.R (Kd.int .u64) 40 wc w.heap.size (fun k_ => some k_ ≠ ((.slice Ao14 t231.length co14) : Value).ownBlock) (.slice Ao12 t232.length co12) t232) ∧ Aside0 (Kd.V (Kd.int .u64) 40 wc w.heap.size (fun k_ => some k_ ≠ ((.slice Ao12 t232.length co12) : Value).ownBlock) v8 x8_23) ∧ Aside0 (Kd.V (Kd.int .u64) 40 wc w.heap.size (fun k_ => some k_ ≠ ((.slice Ao14 t231.length co14) : Value).ownBlock) v9 x9_23) ∧ Aside0 (Below w.heap.size w wc))
                case first =>
                  have H := HC24.out
                  clear HC24
                  by_cases c25 : x7_3 ≥ x6_10
                  · rw [if_pos c25] at H
                    have c25b0 : decide (x6_10 ≤ x7_3) = true := decide_eq_true c25
                    clear c25
                    (first | rw [c25b0] | (simp only [i64_w, i32_w]; rw [c25b0]) | skip)
                    replace H := Option.bind_eq_some_iff.mp H
                    obtain ⟨t245, A260, H⟩ := H
                    replace H : (spec_shortestDigits.j4 k3 a0 t231 t232 x6_10 x7_3 t245 t232) = some (r1, r2) := H
                    have A26 := Aside0.mk A260
                    clear A260
                    have H' := Aside0.mk H
                    clear H
                    go_wp2_with (first | ((with_reducible refine gate_callee (f := 53) rfl ?_); refine goesL_ (some 52) rfl rfl Tryd.func53 (by kernel_rfl) rfl #[.slice Ao14 t231.length co14, .int .i64 10, .int .i64 (wrap64 (x7_3 - x6_10))] rfl (by (try simp only [List.map_toArray, List.map_cons, List.map_nil]); first | done | rfl | (simp only [List.length_drop, List.length_take]; rfl)) ?_; (with_reducible refine (spec_natPower.calls k3 (fun k_ => some k_ = (.slice Ao14 t231.length co14 : Value).ownBlock) _ _ t231 10 (wrap64 (x7_3 - x6_10)) t245 _ ?side1 A26.out).mono ?_); (case side1 => exact Kd.R_V (Kd.R_tight rfl (HO_4.out))); rintro e w27 ⟨v246, rfl, ho0, hb⟩; refine ⟨_, rfl, ?_⟩; have n0_ := Aside0.mk (Kd.R_below (by (with_reducible repeat (first | apply Kd.R_alloc | apply Kd.R_drewN | apply Kd.R_drew)); exact HO_4.out) hb); have n1_ := Aside0.mk (Kd.R_below (by (with_reducible repeat (first | apply Kd.R_alloc | apply Kd.R_drewN | apply Kd.R_drew)); exact HO_5.out) hb); have n2_ := Aside0.mk (Kd.V_lower (Kd.V_mono (ok' := fun k_ => some k_ ≠ (.slice Ao12 t232.length co12 : Value).ownBlock) ho0 (fun k_ hk_ => Or.elim hk_ (fun hs_ => ((HO_4.out).1 k_ hs_.symm)) (fun hn_ => (Kd.fresh' (Kd.R_lt (by (with_reducible repeat (first | apply Kd.R_alloc | apply Kd.R_drewN | apply Kd.R_drew)); exact HO_5.out)) k_ hn_)))) (below_size (by repeat (first | (with_reducible first | exact HB.out | apply below_alloc | apply pw_below_drewN | apply below_drew1) | exact HB.out)))); have n3_ := Aside0.mk (below_step (by repeat (first | (with_reducible first | exact HB.out | apply below_alloc | apply pw_below_drewN | apply below_drew1) | exact HB.out)) hb); clear HO_4; clear HO_5; clear HB; have HO_4 := n0_; have HO_5 := n1_; have HO247 := n2_; have HB := n3_; clear n0_ n1_ n2_ n3_; (try clear hb); (try clear hb2); (try clear hk); (try clear hi); (try clear ho0)))
                    go_meet
                    case rel => exact ⟨_, (t245), (t232), H', ⟨by have := HK1.out; have := HJ10.out; have := HK3.out; first | omega | exact Nat.le_refl _⟩, ⟨by (with_reducible repeat (first | apply Kd.R_alloc | apply Kd.R_drewN | apply Kd.R_drew)); exact HO_4.out⟩, ⟨by (with_reducible repeat (first | apply Kd.R_alloc | apply Kd.R_drewN | apply Kd.R_drew)); exact HO_5.out⟩, ⟨by (with_reducible repeat (first | apply Kd.V_alloc | apply Kd.V_drewN | apply Kd.V_drew)); exact HO247.out⟩, ⟨Kd.R_V (by (with_reducible repeat (first | apply Kd.R_alloc | apply Kd.R_drewN | apply Kd.R_drew)); exact HO_5.out)⟩, ⟨by repeat (first | (with_reducible first | exact HB.out | apply below_alloc | apply pw_below_drewN | apply below_drew1) | exact HB.out)⟩⟩
                  · rw [if_neg c25] at H
                    have c25b0 : decide (x6_10 ≤ x7_3) = false := decide_eq_false c25
                    clear c25
                    (first | rw [c25b0] | (simp only [i64_w, i32_w]; rw [c25b0]) | skip)
                    replace H := Option.bind_eq_some_iff.mp H
                    obtain ⟨t248, A280, H⟩ := H
                    replace H : (spec_shortestDigits.j4 k3 a0 t231 t232 x6_10 x7_3 t231 t248) = some (r1, r2) := H
                    have A28 := Aside0.mk A280
                    clear A280
                    have H' := Aside0.mk H
                    clear H
                    go_wp2_with (first | ((with_reducible refine gate_callee (f := 53) rfl ?_); refine goesL_ (some 57) rfl rfl Tryd.func53 (by kernel_rfl) rfl #[.slice Ao12 t232.length co12, .int .i64 10, .int .i64 (wrap64 (x6_10 - x7_3))] rfl (by (try simp only [List.map_toArray, List.map_cons, List.map_nil]); first | done | rfl | (simp only [List.length_drop, List.length_take]; rfl)) ?_; (with_reducible refine (spec_natPower.calls k3 (fun k_ => some k_ = (.slice Ao12 t232.length co12 : Value).ownBlock) _ _ t232 10 (wrap64 (x6_10 - x7_3)) t248 _ ?side1 A28.out).mono ?_); (case side1 => exact Kd.R_V (Kd.R_tight rfl (HO_5.out))); rintro e w29 ⟨v249, rfl, ho0, hb⟩; refine ⟨_, rfl, ?_⟩; have n0_ := Aside0.mk (Kd.R_below (by (with_reducible repeat (first | apply Kd.R_alloc | apply Kd.R_drewN | apply Kd.R_drew)); exact HO_4.out) hb); have n1_ := Aside0.mk (Kd.R_below (by (with_reducible repeat (first | apply Kd.R_alloc | apply Kd.R_drewN | apply Kd.R_drew)); exact HO_5.out) hb); have n2_ := Aside0.mk (Kd.V_lower (Kd.V_mono (ok' := fun k_ => some k_ ≠ (.slice Ao14 t231.length co14 : Value).ownBlock) ho0 (fun k_ hk_ => Or.elim hk_ (fun hs_ => ((HO_5.out).1 k_ hs_.symm)) (fun hn_ => (Kd.fresh' (Kd.R_lt (by (with_reducible repeat (first | apply Kd.R_alloc | apply Kd.R_drewN | apply Kd.R_drew)); exact HO_4.out)) k_ hn_)))) (below_size (by repeat (first | (with_reducible first | exact HB.out | apply below_alloc | apply pw_below_drewN | apply below_drew1) | exact HB.out)))); have n3_ := Aside0.mk (below_step (by repeat (first | (with_reducible first | exact HB.out | apply below_alloc | apply pw_below_drewN | apply below_drew1) | exact HB.out)) hb); clear HO_4; clear HO_5; clear HB; have HO_4 := n0_; have HO_5 := n1_; have HO250 := n2_; have HB := n3_; clear n0_ n1_ n2_ n3_; (try clear hb); (try clear hb2); (try clear hk); (try clear hi); (try clear ho0)))
                    go_meet
                    case rel => exact ⟨_, (t231), (t248), H', ⟨by have := HK1.out; have := HJ10.out; have := HK3.out; first | omega | exact Nat.le_refl _⟩, ⟨by (with_reducible repeat (first | apply Kd.R_alloc | apply Kd.R_drewN | apply Kd.R_drew)); exact HO_4.out⟩, ⟨by (with_reducible repeat (first | apply Kd.R_alloc | apply Kd.R_drewN | apply Kd.R_drew)); exact HO_5.out⟩, ⟨Kd.R_V (by (with_reducible repeat (first | apply Kd.R_alloc | apply Kd.R_drewN | apply Kd.R_drew)); exact HO_4.out)⟩, ⟨by (with_reducible repeat (first | apply Kd.V_alloc | apply Kd.V_drewN | apply Kd.V_drew)); exact HO250.out⟩, ⟨by repeat (first | (with_reducible first | exact HB.out | apply below_alloc | apply pw_below_drewN | apply below_drew1) | exact HB.out)⟩⟩
                case rest =>
                  clear HC24
                  try clear c1
                  try clear c2
                  try clear p2
                  try clear c5
                  try clear c6
                  try clear c6b0
                  try clear p6
                  try clear c16
                  try clear c16b0
                  try clear c19
                  try clear c19b0
                  try clear c25
                  try clear c25b0
                  try clear p2
                  try clear p6
                  obtain ⟨kq, x8_23, x9_23, HA, HJ23, HO_4, HO_5, HO_8, HO_9, HB⟩ := hcut
                  cases kq with
                  | zero => exact absurd HA.out (by simp [spec_shortestDigits.j4])
                  | succ kj23 =>
                    have H := HA.out
                    clear HA
                    simp only [spec_shortestDigits.j4] at H
                    replace H := Option.bind_eq_some_iff.mp H
                    obtain ⟨⟨t251, t252⟩, A300, H⟩ := H
                    replace H : ((spec_natShift.f kj23 t252 1).bind fun t255 => ((spec_natCmp.f kj23 t255 x9_23).bind fun t258 => (if t258 ≥ 0 then (spec_shortestDigits.j5 kj23 a0 t231 t232 x6_10 x7_3 t251 (IntKind.u64.wrap (t251 + 1)) (decide (t258 ≥ 0))) else (spec_shortestDigits.j5 kj23 a0 t231 t232 x6_10 x7_3 t251 t251 (decide (t258 ≥ 0)))))) = some (r1, r2) := H
                    have A30 := Aside0.mk A300
                    clear A300
                    replace H := Option.bind_eq_some_iff.mp H
                    obtain ⟨t255, A310, H⟩ := H
                    replace H : ((spec_natCmp.f kj23 t255 x9_23).bind fun t258 => (if t258 ≥ 0 then (spec_shortestDigits.j5 kj23 a0 t231 t232 x6_10 x7_3 t251 (IntKind.u64.wrap (t251 + 1)) (decide (t258 ≥ 0))) else (spec_shortestDigits.j5 kj23 a0 t231 t232 x6_10 x7_3 t251 t251 (decide (t258 ≥ 0))))) = some (r1, r2) := H
                    have A31 := Aside0.mk A310
                    clear A310
                    replace H := Option.bind_eq_some_iff.mp H
                    obtain ⟨t258, A320, H⟩ := H
                    replace H : (if t258 ≥ 0 then (spec_shortestDigits.j5 kj23 a0 t231 t232 x6_10 x7_3 t251 (IntKind.u64.wrap (t251 + 1)) (decide (t258 ≥ 0))) else (spec_shortestDigits.j5 kj23 a0 t231 t232 x6_10 x7_3 t251 t251 (decide (t258 ≥ 0)))) = some (r1, r2) := H
                    have A32 := Aside0.mk A320
                    clear A320
                    have HC33 := Aside0.mk H
                    clear H
                    obtain ⟨Ao34, co34, eo34⟩ := Kd.V_slice HO_8.out
                    subst eo34
                    obtain ⟨Ao35, co35, eo35⟩ := Kd.V_slice HO_9.out
                    subst eo35
                    go_upto_if 70 with (first | ((with_reducible refine gate_callee (f := 66) rfl ?_); refine goesL_ (some 61) rfl rfl Tryd.func66 (by kernel_rfl) rfl #[.slice Ao34 x8_23.length co34, .slice Ao35 x9_23.length co35] rfl (by (try simp only [List.map_toArray, List.map_cons, List.map_nil]); first | done | rfl | (simp only [List.length_drop, List.length_take]; rfl)) ?_; (with_reducible refine (spec_natDiv.calls kj23 (fun k_ => some k_ ≠ (.slice Ao12 t232.length co12 : Value).ownBlock) _ _ x8_23 _ _ x9_23 t251 t252 _ ?side1 ?side2 ?side3 A30.out).mono ?_); (case side1 => exact HO_8.out); (case side2 => repeat (first | exact (Kd.V_reads' HO_9.out).2.2 | (with_reducible refine Kd.C_alloc ?_ _) | (with_reducible refine Kd.C_drewN ?_ _) | (with_reducible refine Kd.C_drew ?_))); (case side3 => exact (Kd.V_reads' HO_9.out).2.1); rintro e w36 ⟨v253, rfl, ho0, hb⟩; refine ⟨_, rfl, ?_⟩; have n0_ := Aside0.mk (Kd.R_below (by (with_reducible repeat (first | apply Kd.R_alloc | apply Kd.R_drewN | apply Kd.R_drew)); exact HO_4.out) hb); have n1_ := Aside0.mk (Kd.R_below (by (with_reducible repeat (first | apply Kd.R_alloc | apply Kd.R_drewN | apply Kd.R_drew)); exact HO_5.out) hb); have n2_ := Aside0.mk (Kd.V_below (by (with_reducible repeat (first | apply Kd.V_alloc | apply Kd.V_drewN | apply Kd.V_drew)); exact HO_8.out) hb); have n3_ := Aside0.mk (Kd.V_below (by (with_reducible repeat (first | apply Kd.V_alloc | apply Kd.V_drewN | apply Kd.V_drew)); exact HO_9.out) hb); have n4_ := Aside0.mk (Kd.V_lower (Kd.V_mono (ok' := fun k_ => some k_ ≠ (.slice Ao12 t232.length co12 : Value).ownBlock) ho0 (fun k_ hk_ => Or.elim hk_ (fun hs_ => hs_) (fun hn_ => (Kd.fresh' (Kd.R_lt (by (with_reducible repeat (first | apply Kd.R_alloc | apply Kd.R_drewN | apply Kd.R_drew)); exact HO_5.out)) k_ hn_)))) (below_size (by repeat (first | (with_reducible first | exact HB.out | apply below_alloc | apply pw_below_drewN | apply below_drew1) | exact HB.out)))); have n5_ := Aside0.mk (below_step (by repeat (first | (with_reducible first | exact HB.out | apply below_alloc | apply pw_below_drewN | apply below_drew1) | exact HB.out)) hb); clear HO_4; clear HO_5; clear HO_8; clear HO_9; clear HB; have HO_4 := n0_; have HO_5 := n1_; have HO_8 := n2_; have HO_9 := n3_; have HO254 := n4_; have HB := n5_; clear n0_ n1_ n2_ n3_ n4_ n5_; (try clear hb); (try clear hb2); (try clear hk); (try clear hi); (try clear ho0); obtain ⟨Ao37, co37, eo37⟩ := Kd.V_slice HO254.out; subst eo37) | ((with_reducible refine gate_callee (f := 65) rfl ?_); refine goesL_ (some 66) rfl rfl Tryd.func65 (by kernel_rfl) rfl #[.slice Ao37 t252.length co37, .int .i64 1] rfl (by (try simp only [List.map_toArray, List.map_cons, List.map_nil]); first | done | rfl | (simp only [List.length_drop, List.length_take]; rfl)) ?_; (with_reducible refine (spec_natShift.calls kj23 _ _ t252 1 t255 _ ?side1 ?side2 A31.out).mono ?_); (case side1 => repeat (first | exact (Kd.V_reads' HO254.out).2.2 | (with_reducible refine Kd.C_alloc ?_ _) | (with_reducible refine Kd.C_drewN ?_ _) | (with_reducible refine Kd.C_drew ?_))); (case side2 => exact (Kd.V_reads' HO254.out).2.1); rintro e w38 ⟨v256, rfl, ho0, hb⟩; refine ⟨_, rfl, ?_⟩; have n0_ := Aside0.mk (Kd.R_elder' (by (with_reducible repeat (first | apply Kd.R_alloc | apply Kd.R_drewN | apply Kd.R_drew)); exact HO_4.out) (Kd.R_base ho0) hb); have n1_ := Aside0.mk (Kd.R_elder' (by (with_reducible repeat (first | apply Kd.R_alloc | apply Kd.R_drewN | apply Kd.R_drew)); exact HO_5.out) (Kd.R_base ho0) hb); have n2_ := Aside0.mk (Kd.V_elder' (by (with_reducible repeat (first | apply Kd.V_alloc | apply Kd.V_drewN | apply Kd.V_drew)); exact HO_8.out) (Kd.R_base ho0) hb); have n3_ := Aside0.mk (Kd.V_elder' (by (with_reducible repeat (first | apply Kd.V_alloc | apply Kd.V_drewN | apply Kd.V_drew)); exact HO_9.out) (Kd.R_base ho0) hb); have n4_ := Aside0.mk (Kd.V_elder' (by (with_reducible repeat (first | apply Kd.V_alloc | apply Kd.V_drewN | apply Kd.V_drew)); exact HO254.out) (Kd.R_base ho0) hb); have n5_ := Aside0.mk (Kd.R_lower (Kd.R_new' (Kd.R_new' ho0 (Kd.R_lt (by (with_reducible repeat (first | apply Kd.R_alloc | apply Kd.R_drewN | apply Kd.R_drew)); exact HO_4.out))) (Kd.R_lt (by (with_reducible repeat (first | apply Kd.R_alloc | apply Kd.R_drewN | apply Kd.R_drew)); exact HO_5.out))) (below_size (by repeat (first | (with_reducible first | exact HB.out | apply below_alloc | apply pw_below_drewN | apply below_drew1) | exact HB.out)))); have n6_ := Aside0.mk (below_step (by repeat (first | (with_reducible first | exact HB.out | apply below_alloc | apply pw_below_drewN | apply below_drew1) | exact HB.out)) hb); clear HO_4; clear HO_5; clear HO_8; clear HO_9; clear HO254; clear HB; have HO_4 := n0_; have HO_5 := n1_; have HO_8 := n2_; have HO_9 := n3_; have HO254 := n4_; have HO257 := n5_; have HB := n6_; clear n0_ n1_ n2_ n3_ n4_ n5_ n6_; (try clear hb); (try clear hb2); (try clear hk); (try clear hi); (try clear ho0); obtain ⟨Ao39, co39, eo39⟩ := Kd.R_slice HO257.out; subst eo39) | ((with_reducible refine gate_callee (f := 67) rfl ?_); refine goesL_ (some 68) rfl rfl Tryd.func67 (by kernel_rfl) rfl #[.slice Ao39 t255.length co39, .slice Ao35 x9_23.length co35] rfl (by (try simp only [List.map_toArray, List.map_cons, List.map_nil]); first | done | rfl | (simp only [List.length_drop, List.length_take]; rfl)) ?_; (with_reducible refine (spec_natCmp.calls kj23 _ _ t255 _ _ x9_23 t258 _ ?side1 ?side2 ?side3 ?side4 A32.out).mono ?_); (case side1 => repeat (first | exact (Kd.R_reads' HO257.out).2.2 | (with_reducible refine Kd.C_alloc ?_ _) | (with_reducible refine Kd.C_drewN ?_ _) | (with_reducible refine Kd.C_drew ?_))); (case side2 => exact (Kd.R_reads' HO257.out).2.1); (case side3 => repeat (first | exact (Kd.V_reads' HO_9.out).2.2 | (with_reducible refine Kd.C_alloc ?_ _) | (with_reducible refine Kd.C_drewN ?_ _) | (with_reducible refine Kd.C_drew ?_))); (case side4 => exact (Kd.V_reads' HO_9.out).2.1); rintro e w' ⟨rfl, ⟨nd, rfl⟩⟩; refine ⟨_, rfl, ?_⟩))
                    (try simp only [Act.put, List.setIfInBounds_toArray, List.set_cons_zero, List.set_cons_succ])
                    go_cut [12, 13] (fun v12 v13 wc => ∃ (kq : Nat) (x12_32 : Int), v12 = .int .u64 x12_32 ∧ v13 = .bool (decide (0 ≤ t258)) ∧ Aside0 (spec_shortestDigits.j5 kq a0 t231 t232 x6_10 x7_3 t251 x12_32 (decide (t258 ≥ 0)) = some (r1, r2)) ∧ Aside0 (kq ≤ kj23) ∧ Aside0 (Kd.R (Kd.int .u64) 40 wc w.heap.size (fun k_ => some k_ ≠ ((.slice Ao12 t232.length co12) : Value).ownBlock) (.slice Ao14 t231.length co14) t231) ∧ Aside0 (Kd.R (Kd.int .u64) 40 wc w.heap.size (fun k_ => some k_ ≠ ((.slice Ao14 t231.length co14) : Value).ownBlock) (.slice Ao12 t232.length co12) t232) ∧ Aside0 (Below w.heap.size w wc))
                    case first =>
                      have H := HC33.out
                      clear HC33
                      by_cases c40 : t258 ≥ 0
                      · rw [if_pos c40] at H
                        have c40b0 : decide (0 ≤ t258) = true := decide_eq_true c40
                        clear c40
                        (first | rw [c40b0] | (simp only [i64_w, i32_w]; rw [c40b0]) | skip)
                        have H' := Aside0.mk H
                        clear H
                        go_wp2
                        go_meet
                        case rel => exact ⟨_, (IntKind.u64.wrap (t251 + 1)), (by first | rfl | (simp; done) | (simp [*]; done)), (by rw [c40b0]), H', ⟨by have := HK1.out; have := HJ10.out; have := HK3.out; have := HJ23.out; first | omega | exact Nat.le_refl _⟩, ⟨by (with_reducible repeat (first | apply Kd.R_alloc | apply Kd.R_drewN | apply Kd.R_drew)); exact Kd.R_mono HO_4.out (fun _ hk => hk.1)⟩, ⟨by (with_reducible repeat (first | apply Kd.R_alloc | apply Kd.R_drewN | apply Kd.R_drew)); exact Kd.R_mono HO_5.out (fun _ hk => hk.1)⟩, ⟨by repeat (first | (with_reducible first | exact HB.out | apply below_alloc | apply pw_below_drewN | apply below_drew1) | exact HB.out)⟩⟩
                      · rw [if_neg c40] at H
                        have c40b0 : decide (0 ≤ t258) = false := decide_eq_false c40
                        clear c40
                        (first | rw [c40b0] | (simp only [i64_w, i32_w]; rw [c40b0]) | skip)
                        have H' := Aside0.mk H
                        clear H
                        go_wp2
                        go_meet
                        case rel => exact ⟨_, (t251), (by first | rfl | (simp; done) | (simp [*]; done)), (by rw [c40b0]), H', ⟨by have := HK1.out; have := HJ10.out; have := HK3.out; have := HJ23.out; first | omega | exact Nat.le_refl _⟩, ⟨by (with_reducible repeat (first | apply Kd.R_alloc | apply Kd.R_drewN | apply Kd.R_drew)); exact Kd.R_mono HO_4.out (fun _ hk => hk.1)⟩, ⟨by (with_reducible repeat (first | apply Kd.R_alloc | apply Kd.R_drewN | apply Kd.R_drew)); exact Kd.R_mono HO_5.out (fun _ hk => hk.1)⟩, ⟨by repeat (first | (with_reducible first | exact HB.out | apply below_alloc | apply pw_below_drewN | apply below_drew1) | exact HB.out)⟩⟩
                    case rest =>
                      clear HC33
                      try clear c1
                      try clear c2
                      try clear p2
                      try clear c4
                      try clear c5
                      try clear c6
                      try clear c6b0
                      try clear p6
                      try clear c16
                      try clear c16b0
                      try clear c19
                      try clear c19b0
                      try clear c25
                      try clear c25b0
                      try clear c40
                      try clear c40b0
                      try clear p2
                      try clear p6
                      obtain ⟨kq, x12_32, rfl, rfl, HA, HJ32, HO_4, HO_5, HB⟩ := hcut
                      cases kq with
                      | zero => exact absurd HA.out (by simp [spec_shortestDigits.j5])
                      | succ kj32 =>
                        have H := HA.out
                        clear HA
                        simp only [spec_shortestDigits.j5] at H
                        have HC41 := Aside0.mk H
                        clear H
                        go_upto_if 75 with (fail)
                        go_cut [13, 14] (fun v13 v14 wc => ∃ (kq : Nat) (x14_40 : Int), v14 = .int .u64 x14_40 ∧ v13 = .bool (decide (t258 ≥ 0)) ∧ Aside0 (spec_shortestDigits.j6 kq a0 t231 t232 x6_10 x7_3 x12_32 x14_40 = some (r1, r2)) ∧ Aside0 (kq ≤ kj32) ∧ Aside0 (Kd.R (Kd.int .u64) 40 wc w.heap.size (fun k_ => some k_ ≠ ((.slice Ao12 t232.length co12) : Value).ownBlock) (.slice Ao14 t231.length co14) t231) ∧ Aside0 (Kd.R (Kd.int .u64) 40 wc w.heap.size (fun k_ => some k_ ≠ ((.slice Ao14 t231.length co14) : Value).ownBlock) (.slice Ao12 t232.length co12) t232) ∧ Aside0 (Below w.heap.size w wc))
                        case first =>
                          have H := HC41.out
                          clear HC41
                          by_cases c42 : (decide (t258 ≥ 0)) = true
                          · rw [if_pos c42] at H
                            have c42b0 : (decide (t258 ≥ 0)) = true := c42
                            clear c42
                            (first | rw [c42b0] | (simp only [i64_w, i32_w]; rw [c42b0]) | skip)
                            have H' := Aside0.mk H
                            clear H
                            go_wp2
                            go_meet
                            case rel => exact ⟨_, (t251), (by first | rfl | (simp; done) | (simp [*]; done)), (by rw [c42b0]), H', ⟨by have := HK1.out; have := HJ10.out; have := HK3.out; have := HJ23.out; have := HJ32.out; first | omega | exact Nat.le_refl _⟩, ⟨by (with_reducible repeat (first | apply Kd.R_alloc | apply Kd.R_drewN | apply Kd.R_drew)); exact HO_4.out⟩, ⟨by (with_reducible repeat (first | apply Kd.R_alloc | apply Kd.R_drewN | apply Kd.R_drew)); exact HO_5.out⟩, ⟨by repeat (first | (with_reducible first | exact HB.out | apply below_alloc | apply pw_below_drewN | apply below_drew1) | exact HB.out)⟩⟩
                          · rw [if_neg c42] at H
                            have c42b0 : (decide (t258 ≥ 0)) = false := by simpa using c42
                            clear c42
                            (first | rw [c42b0] | (simp only [i64_w, i32_w]; rw [c42b0]) | skip)
                            have H' := Aside0.mk H
                            clear H
                            go_wp2
                            go_meet
                            case rel => exact ⟨_, (IntKind.u64.wrap (t251 + 1)), (by first | rfl | (simp; done) | (simp [*]; done)), (by rw [c42b0]), H', ⟨by have := HK1.out; have := HJ10.out; have := HK3.out; have := HJ23.out; have := HJ32.out; first | omega | exact Nat.le_refl _⟩, ⟨by (with_reducible repeat (first | apply Kd.R_alloc | apply Kd.R_drewN | apply Kd.R_drew)); exact HO_4.out⟩, ⟨by (with_reducible repeat (first | apply Kd.R_alloc | apply Kd.R_drewN | apply Kd.R_drew)); exact HO_5.out⟩, ⟨by repeat (first | (with_reducible first | exact HB.out | apply below_alloc | apply pw_below_drewN | apply below_drew1) | exact HB.out)⟩⟩
                        case rest =>
                          clear HC41
                          try clear c1
                          try clear c2
                          try clear p2
                          try clear c4
                          try clear c5
                          try clear c6
                          try clear c6b0
                          try clear p6
                          try clear c16
                          try clear c16b0
                          try clear c19
                          try clear c19b0
                          try clear c25
                          try clear c25b0
                          try clear c40
                          try clear c40b0
                          try clear c42
                          try clear c42b0
                          try clear p2
                          try clear p6
                          obtain ⟨kq, x14_40, rfl, rfl, HA, HJ40, HO_4, HO_5, HB⟩ := hcut
                          cases kq with
                          | zero => exact absurd HA.out (by simp [spec_shortestDigits.j6])
                          | succ kj40 =>
                            have H := HA.out
                            clear HA
                            simp only [spec_shortestDigits.j6] at H
                            replace H := Option.bind_eq_some_iff.mp H
                            obtain ⟨t259, A430, H⟩ := H
                            replace H : (if t259 = a0 then ((spec_cutDigits.f kj40 x12_32 x6_10 x7_3).bind fun bt260 => (some (bt260.1, bt260.2))) else ((spec_backTo.f kj40 x14_40 (wrap64 (x6_10 - x7_3))).bind fun t262 => (if t262 = a0 then ((spec_cutDigits.f kj40 x14_40 x6_10 x7_3).bind fun bt263 => (some (bt263.1, bt263.2))) else (spec_shortestDigits.l2 kj40 a0 t231 t232 x6_10 (wrap64 (x7_3 + 1)))))) = some (r1, r2) := H
                            have A43 := Aside0.mk A430
                            clear A430
                            by_cases c44 : t259 = a0
                            · rw [if_pos c44] at H
                              have c44b0 : (t259 == a0) = true := beq_iff_eq.mpr c44
                              have c44b1 : (t259 != a0) = false := bne_eq_false_iff_eq.mpr c44
                              clear c44
                              replace H := Option.bind_eq_some_iff.mp H
                              obtain ⟨⟨t260, t261⟩, A450, H⟩ := H
                              replace H : (some (t260, t261)) = some (r1, r2) := H
                              have A45 := Aside0.mk A450
                              clear A450
                              simp only [Option.some.injEq, Prod.mk.injEq] at H
                              obtain ⟨rfl, rfl⟩ := H
                              go_wp2_with (first | ((with_reducible refine gate_callee (f := 70) rfl ?_); refine goesL_ (some 81) rfl rfl Tryd.func70 (by kernel_rfl) rfl #[.int .u64 x12_32, .int .i64 (wrap64 (x6_10 - x7_3))] rfl (by (try simp only [List.map_toArray, List.map_cons, List.map_nil]); first | done | rfl | (simp only [List.length_drop, List.length_take]; rfl)) ?_; (with_reducible refine (spec_backTo.calls kj40 x12_32 (wrap64 (x6_10 - x7_3)) t259 _ A43.out).mono ?_); rintro e w46 ⟨rfl, hb⟩; refine ⟨_, rfl, ?_⟩; have n0_ := Aside0.mk (Kd.R_below (by (with_reducible repeat (first | apply Kd.R_alloc | apply Kd.R_drewN | apply Kd.R_drew)); exact HO_4.out) hb); have n1_ := Aside0.mk (Kd.R_below (by (with_reducible repeat (first | apply Kd.R_alloc | apply Kd.R_drewN | apply Kd.R_drew)); exact HO_5.out) hb); have n2_ := Aside0.mk (below_step (by repeat (first | (with_reducible first | exact HB.out | apply below_alloc | apply pw_below_drewN | apply below_drew1) | exact HB.out)) hb); clear HO_4; clear HO_5; clear HB; have HO_4 := n0_; have HO_5 := n1_; have HB := n2_; clear n0_ n1_ n2_; (try clear hb); (try clear hb2); (try clear hk); (try clear hi)) | ((with_reducible refine gate_callee (f := 71) rfl ?_); refine goesL_ (some 87) rfl rfl Tryd.func71 (by kernel_rfl) rfl #[.int .u64 x12_32, .int .i64 x6_10, .int .i64 x7_3] rfl (by (try simp only [List.map_toArray, List.map_cons, List.map_nil]); first | done | rfl | (simp only [List.length_drop, List.length_take]; rfl)) ?_; (with_reducible refine (spec_cutDigits.calls kj40 x12_32 x6_10 x7_3 t260 t261 _ A45.out).mono ?_); rintro e w47 ⟨rfl, hb⟩; refine ⟨_, rfl, ?_⟩; have n0_ := Aside0.mk (Kd.R_below (by (with_reducible repeat (first | apply Kd.R_alloc | apply Kd.R_drewN | apply Kd.R_drew)); exact HO_4.out) hb); have n1_ := Aside0.mk (Kd.R_below (by (with_reducible repeat (first | apply Kd.R_alloc | apply Kd.R_drewN | apply Kd.R_drew)); exact HO_5.out) hb); have n2_ := Aside0.mk (below_step (by repeat (first | (with_reducible first | exact HB.out | apply below_alloc | apply pw_below_drewN | apply below_drew1) | exact HB.out)) hb); clear HO_4; clear HO_5; clear HB; have HO_4 := n0_; have HO_5 := n1_; have HB := n2_; clear n0_ n1_ n2_; (try clear hb); (try clear hb2); (try clear hk); (try clear hi)))
                              go_ret2
                              exact ⟨by first | rfl | (simp [errW_none, errW_some] <;> rfl) | (simp [*, errW_none, errW_some] <;> rfl), by repeat (first | (with_reducible first | exact HB.out | apply below_alloc | apply pw_below_drewN | apply below_drew1) | exact HB.out)⟩
                            · rw [if_neg c44] at H
                              have c44b0 : (t259 == a0) = false := beq_eq_false_iff_ne.mpr c44
                              have c44b1 : (t259 != a0) = true := bne_iff_ne.mpr c44
                              replace H := Option.bind_eq_some_iff.mp H
                              obtain ⟨t262, A480, H⟩ := H
                              replace H : (if t262 = a0 then ((spec_cutDigits.f kj40 x14_40 x6_10 x7_3).bind fun bt263 => (some (bt263.1, bt263.2))) else (spec_shortestDigits.l2 kj40 a0 t231 t232 x6_10 (wrap64 (x7_3 + 1)))) = some (r1, r2) := H
                              have A48 := Aside0.mk A480
                              clear A480
                              by_cases c49 : t262 = a0
                              · rw [if_pos c49] at H
                                have c49b0 : (t262 == a0) = true := beq_iff_eq.mpr c49
                                have c49b1 : (t262 != a0) = false := bne_eq_false_iff_eq.mpr c49
                                clear c49
                                replace H := Option.bind_eq_some_iff.mp H
                                obtain ⟨⟨t263, t264⟩, A500, H⟩ := H
                                replace H : (some (t263, t264)) = some (r1, r2) := H
                                have A50 := Aside0.mk A500
                                clear A500
                                simp only [Option.some.injEq, Prod.mk.injEq] at H
                                obtain ⟨rfl, rfl⟩ := H
                                go_wp2_with (first | ((with_reducible refine gate_callee (f := 70) rfl ?_); refine goesL_ (some 81) rfl rfl Tryd.func70 (by kernel_rfl) rfl #[.int .u64 x12_32, .int .i64 (wrap64 (x6_10 - x7_3))] rfl (by (try simp only [List.map_toArray, List.map_cons, List.map_nil]); first | done | rfl | (simp only [List.length_drop, List.length_take]; rfl)) ?_; (with_reducible refine (spec_backTo.calls kj40 x12_32 (wrap64 (x6_10 - x7_3)) t259 _ A43.out).mono ?_); rintro e w51 ⟨rfl, hb⟩; refine ⟨_, rfl, ?_⟩; have n0_ := Aside0.mk (Kd.R_below (by (with_reducible repeat (first | apply Kd.R_alloc | apply Kd.R_drewN | apply Kd.R_drew)); exact HO_4.out) hb); have n1_ := Aside0.mk (Kd.R_below (by (with_reducible repeat (first | apply Kd.R_alloc | apply Kd.R_drewN | apply Kd.R_drew)); exact HO_5.out) hb); have n2_ := Aside0.mk (below_step (by repeat (first | (with_reducible first | exact HB.out | apply below_alloc | apply pw_below_drewN | apply below_drew1) | exact HB.out)) hb); clear HO_4; clear HO_5; clear HB; have HO_4 := n0_; have HO_5 := n1_; have HB := n2_; clear n0_ n1_ n2_; (try clear hb); (try clear hb2); (try clear hk); (try clear hi)) | ((with_reducible refine gate_callee (f := 70) rfl ?_); refine goesL_ (some 94) rfl rfl Tryd.func70 (by kernel_rfl) rfl #[.int .u64 x14_40, .int .i64 (wrap64 (x6_10 - x7_3))] rfl (by (try simp only [List.map_toArray, List.map_cons, List.map_nil]); first | done | rfl | (simp only [List.length_drop, List.length_take]; rfl)) ?_; (with_reducible refine (spec_backTo.calls kj40 x14_40 (wrap64 (x6_10 - x7_3)) t262 _ A48.out).mono ?_); rintro e w52 ⟨rfl, hb⟩; refine ⟨_, rfl, ?_⟩; have n0_ := Aside0.mk (Kd.R_below (by (with_reducible repeat (first | apply Kd.R_alloc | apply Kd.R_drewN | apply Kd.R_drew)); exact HO_4.out) hb); have n1_ := Aside0.mk (Kd.R_below (by (with_reducible repeat (first | apply Kd.R_alloc | apply Kd.R_drewN | apply Kd.R_drew)); exact HO_5.out) hb); have n2_ := Aside0.mk (below_step (by repeat (first | (with_reducible first | exact HB.out | apply below_alloc | apply pw_below_drewN | apply below_drew1) | exact HB.out)) hb); clear HO_4; clear HO_5; clear HB; have HO_4 := n0_; have HO_5 := n1_; have HB := n2_; clear n0_ n1_ n2_; (try clear hb); (try clear hb2); (try clear hk); (try clear hi)) | ((with_reducible refine gate_callee (f := 71) rfl ?_); refine goesL_ (some 100) rfl rfl Tryd.func71 (by kernel_rfl) rfl #[.int .u64 x14_40, .int .i64 x6_10, .int .i64 x7_3] rfl (by (try simp only [List.map_toArray, List.map_cons, List.map_nil]); first | done | rfl | (simp only [List.length_drop, List.length_take]; rfl)) ?_; (with_reducible refine (spec_cutDigits.calls kj40 x14_40 x6_10 x7_3 t263 t264 _ A50.out).mono ?_); rintro e w53 ⟨rfl, hb⟩; refine ⟨_, rfl, ?_⟩; have n0_ := Aside0.mk (Kd.R_below (by (with_reducible repeat (first | apply Kd.R_alloc | apply Kd.R_drewN | apply Kd.R_drew)); exact HO_4.out) hb); have n1_ := Aside0.mk (Kd.R_below (by (with_reducible repeat (first | apply Kd.R_alloc | apply Kd.R_drewN | apply Kd.R_drew)); exact HO_5.out) hb); have n2_ := Aside0.mk (below_step (by repeat (first | (with_reducible first | exact HB.out | apply below_alloc | apply pw_below_drewN | apply below_drew1) | exact HB.out)) hb); clear HO_4; clear HO_5; clear HB; have HO_4 := n0_; have HO_5 := n1_; have HB := n2_; clear n0_ n1_ n2_; (try clear hb); (try clear hb2); (try clear hk); (try clear hi)))
                                go_ret2
                                exact ⟨by first | rfl | (simp [errW_none, errW_some] <;> rfl) | (simp [*, errW_none, errW_some] <;> rfl), by repeat (first | (with_reducible first | exact HB.out | apply below_alloc | apply pw_below_drewN | apply below_drew1) | exact HB.out)⟩
                              · rw [if_neg c49] at H
                                have c49b0 : (t262 == a0) = false := beq_eq_false_iff_ne.mpr c49
                                have c49b1 : (t262 != a0) = true := bne_iff_ne.mpr c49
                                have H' := Aside0.mk H
                                clear H
                                go_wp2_with (first | ((with_reducible refine gate_callee (f := 70) rfl ?_); refine goesL_ (some 81) rfl rfl Tryd.func70 (by kernel_rfl) rfl #[.int .u64 x12_32, .int .i64 (wrap64 (x6_10 - x7_3))] rfl (by (try simp only [List.map_toArray, List.map_cons, List.map_nil]); first | done | rfl | (simp only [List.length_drop, List.length_take]; rfl)) ?_; (with_reducible refine (spec_backTo.calls kj40 x12_32 (wrap64 (x6_10 - x7_3)) t259 _ A43.out).mono ?_); rintro e w54 ⟨rfl, hb⟩; refine ⟨_, rfl, ?_⟩; have n0_ := Aside0.mk (Kd.R_below (by (with_reducible repeat (first | apply Kd.R_alloc | apply Kd.R_drewN | apply Kd.R_drew)); exact HO_4.out) hb); have n1_ := Aside0.mk (Kd.R_below (by (with_reducible repeat (first | apply Kd.R_alloc | apply Kd.R_drewN | apply Kd.R_drew)); exact HO_5.out) hb); have n2_ := Aside0.mk (below_step (by repeat (first | (with_reducible first | exact HB.out | apply below_alloc | apply pw_below_drewN | apply below_drew1) | exact HB.out)) hb); clear HO_4; clear HO_5; clear HB; have HO_4 := n0_; have HO_5 := n1_; have HB := n2_; clear n0_ n1_ n2_; (try clear hb); (try clear hb2); (try clear hk); (try clear hi)) | ((with_reducible refine gate_callee (f := 70) rfl ?_); refine goesL_ (some 94) rfl rfl Tryd.func70 (by kernel_rfl) rfl #[.int .u64 x14_40, .int .i64 (wrap64 (x6_10 - x7_3))] rfl (by (try simp only [List.map_toArray, List.map_cons, List.map_nil]); first | done | rfl | (simp only [List.length_drop, List.length_take]; rfl)) ?_; (with_reducible refine (spec_backTo.calls kj40 x14_40 (wrap64 (x6_10 - x7_3)) t262 _ A48.out).mono ?_); rintro e w55 ⟨rfl, hb⟩; refine ⟨_, rfl, ?_⟩; have n0_ := Aside0.mk (Kd.R_below (by (with_reducible repeat (first | apply Kd.R_alloc | apply Kd.R_drewN | apply Kd.R_drew)); exact HO_4.out) hb); have n1_ := Aside0.mk (Kd.R_below (by (with_reducible repeat (first | apply Kd.R_alloc | apply Kd.R_drewN | apply Kd.R_drew)); exact HO_5.out) hb); have n2_ := Aside0.mk (below_step (by repeat (first | (with_reducible first | exact HB.out | apply below_alloc | apply pw_below_drewN | apply below_drew1) | exact HB.out)) hb); clear HO_4; clear HO_5; clear HB; have HO_4 := n0_; have HO_5 := n1_; have HB := n2_; clear n0_ n1_ n2_; (try clear hb); (try clear hb2); (try clear hk); (try clear hi)))
                                go_roundg kj40
                                case measure => have := HK1.out; have := HJ10.out; have := HK3.out; have := HJ23.out; have := HJ32.out; have := HJ40.out; omega
                                case rel => exact ⟨(wrap64 (x7_3 + 1)), (by first | rfl | (simp; done) | (simp [*]; done)), H', ⟨by have := HK1.out; have := HJ10.out; have := HK3.out; have := HJ23.out; have := HJ32.out; have := HJ40.out; omega⟩, ⟨by (with_reducible repeat (first | apply Kd.R_alloc | apply Kd.R_drewN | apply Kd.R_drew)); exact HO_4.out⟩, ⟨by (with_reducible repeat (first | apply Kd.R_alloc | apply Kd.R_drewN | apply Kd.R_drew)); exact HO_5.out⟩, ⟨by repeat (first | (with_reducible first | exact HB.out | apply below_alloc | apply pw_below_drewN | apply below_drew1) | exact HB.out)⟩⟩

/-! ### spec_zeros: function 55 -/
def spec_zeros.l0 : Nat → Int → ByteArray → Int → Option (ByteArray)
  | 0, _, _, _ => none
  | k + 1, x0, x3, x4 => if x4 < x0 then (if x3.size + 1 ≤ 9223372036854775807 then (spec_zeros.l0 k x0 (x3 ++ (⟨#[48]⟩ : ByteArray)) (wrap64 (x4 + 1))) else (none)) else (some x3)
def spec_zeros.f (k : Nat) (a0 : Int) : Option (ByteArray) := spec_zeros.l0 k a0 (⟨#[]⟩ : ByteArray) 0
theorem spec_zeros.mono_l : ∀ k, (∀ y0 y1 y2, LeO (spec_zeros.l0 k y0 y1 y2) (spec_zeros.l0 (k + 1) y0 y1 y2))
  | 0 => fun _ _ _ r h => by simp [spec_zeros.l0] at h
  | k + 1 => by
    have ih0 := spec_zeros.mono_l k
    · intro y0 y1 y2
      unfold spec_zeros.l0
      repeat' first
      | (with_reducible exact ih0 _ _ _)
      | (with_reducible exact LeO.refl _)
      | (with_reducible exact LeO.none _)
      | (with_reducible refine LeO.ite ?_ ?_)
      | (with_reducible refine LeO.bind ?_ (fun _ => ?_))
      | exact ih0 _ _ _
      | exact LeO.none _
      | refine LeO.ite ?_ ?_
      | refine LeO.bind ?_ (fun _ => ?_)
theorem spec_zeros.mono : ∀ a0 k, LeO (spec_zeros.f k a0) (spec_zeros.f (k + 1) a0) := by
  intro a0 k
  have ih0 := spec_zeros.mono_l k
  unfold spec_zeros.f
  repeat' first
      | (with_reducible exact ih0 _ _ _)
      | (with_reducible exact LeO.refl _)
      | (with_reducible exact LeO.none _)
      | (with_reducible refine LeO.ite ?_ ?_)
      | (with_reducible refine LeO.bind ?_ (fun _ => ?_))
      | exact ih0 _ _ _
      | exact LeO.none _
      | refine LeO.ite ?_ ?_
      | refine LeO.bind ?_ (fun _ => ?_)
set_option maxHeartbeats 8000000 in
set_option maxRecDepth 100000 in
theorem spec_zeros.calls (k : Nat) (a0 : Int) (r : ByteArray) (w : World) (h : spec_zeros.f k a0 = some r) :
    Calls Tryd.prog 55 #[.int .i64 a0] w fun e w' => e = .returned (.string r) ∧ Drawn0 w w' := by
  have H : (spec_zeros.l0 k a0 (⟨#[]⟩ : ByteArray) 0) = some r := h
  clear h
  have H' := Aside0.mk H
  clear H
  go_enter Tryd.func55, Tryd.ntmps55
  go_wp2
  go_loopg [3, 4] k (fun kq v3 v4 w' => ∃ (x3_1 : ByteArray) (x4_1 : Int), v3 = .string x3_1 ∧ v4 = .int .i64 x4_1 ∧ Aside0 (spec_zeros.l0 kq a0 x3_1 x4_1 = some r) ∧ Aside0 (kq ≤ k) ∧ Drawn0 w w')
  case atStart => exact ⟨((⟨#[]⟩ : ByteArray)), (0), (by first | rfl | (simp; done) | (simp [*]; done)), (by first | rfl | (simp; done) | (simp [*]; done)), H', ⟨Nat.le_refl _⟩, by repeat (first | exact Drawn0.refl _ | apply Drawn0.step)⟩
  case round =>
    clear H'
    obtain ⟨x3_1, x4_1, rfl, rfl, HA, HK1, ⟨m1, rfl⟩⟩ := hrel
    cases gk with
    | zero => exact absurd HA.out (by simp [spec_zeros.l0])
    | succ k1 =>
      have H := HA.out
      clear HA
      simp only [spec_zeros.l0] at H
      by_cases c2 : x4_1 < a0
      · rw [if_pos c2] at H
        have c2b0 : decide (x4_1 < a0) = true := decide_eq_true c2
        clear c2
        by_cases c3 : x3_1.size + 1 ≤ 9223372036854775807
        · rw [if_pos c3] at H
          have c3b0 := eq_true c3
          have c3b1 : decide (x3_1.size + 1 ≤ 9223372036854775807) = true := decide_eq_true c3
          try have c3b2 : (9223372036854775807 < x3_1.size + 1) = False := eq_false (Nat.not_lt.2 c3)
          have H' := Aside0.mk H
          clear H
          go_wp2
          go_roundg k1
          case measure => have := HK1.out; omega
          case rel => exact ⟨(x3_1 ++ (⟨#[48]⟩ : ByteArray)), (wrap64 (x4_1 + 1)), (by first | rfl | (simp; done) | (simp [*]; done)), (by first | rfl | (simp; done) | (simp [*]; done)), H', ⟨by have := HK1.out; omega⟩, by repeat (first | exact Drawn0.refl _ | apply Drawn0.step)⟩
        · rw [if_neg c3] at H
          exact absurd H (by simp)
      · rw [if_neg c2] at H
        have c2b0 : decide (x4_1 < a0) = false := decide_eq_false c2
        clear c2
        obtain rfl := Option.some.inj H
        go_wp2
        go_ret
        exact ⟨by first | rfl | (simp; done) | (simp [*]; done), by repeat (first | exact Drawn0.refl _ | apply Drawn0.step)⟩

/-! ### spec_intText: function 56 -/
def spec_intText.f (k : Nat) (a0 : Int) : Option (ByteArray) := if a0 < 0 then ((spec_natSmall.f k (wrap64 (-a0))).bind fun t265 => ((spec_Digits.f k t265).bind fun t268 => (if 1 + t268.size ≤ 9223372036854775807 then (some ((⟨#[45]⟩ : ByteArray) ++ t268)) else (none)))) else ((spec_natSmall.f k a0).bind fun t269 => ((spec_Digits.f k t269).bind fun t272 => (some t272)))
theorem spec_intText.mono : ∀ a0 k, LeO (spec_intText.f k a0) (spec_intText.f (k + 1) a0) := by
  intro a0 k
  unfold spec_intText.f
  repeat' first
      | (with_reducible exact spec_Digits.mono _ _)
      | (with_reducible exact spec_natSmall.mono _ _)
      | (with_reducible exact LeO.refl _)
      | (with_reducible exact LeO.none _)
      | (with_reducible refine LeO.ite ?_ ?_)
      | (with_reducible refine LeO.bind ?_ (fun _ => ?_))
      | exact spec_Digits.mono _ _
      | exact spec_natSmall.mono _ _
      | exact LeO.none _
      | refine LeO.ite ?_ ?_
      | refine LeO.bind ?_ (fun _ => ?_)
set_option maxHeartbeats 8000000 in
set_option maxRecDepth 100000 in
theorem spec_intText.calls (k : Nat) (a0 : Int) (r : ByteArray) (w : World) (h : spec_intText.f k a0 = some r) :
    Calls Tryd.prog 56 #[.int .i64 a0] w fun e w' => e = .returned (.string r) ∧ Below w.heap.size w w' := by
  have HB := Aside0.mk (Below.refl w.heap.size w)
  have H : (if a0 < 0 then ((spec_natSmall.f k (wrap64 (-a0))).bind fun t265 => ((spec_Digits.f k t265).bind fun t268 => (if 1 + t268.size ≤ 9223372036854775807 then (some ((⟨#[45]⟩ : ByteArray) ++ t268)) else (none)))) else ((spec_natSmall.f k a0).bind fun t269 => ((spec_Digits.f k t269).bind fun t272 => (some t272)))) = some r := h
  clear h
  by_cases c2 : a0 < 0
  · rw [if_pos c2] at H
    have c2b0 : decide (a0 < 0) = true := decide_eq_true c2
    clear c2
    replace H := Option.bind_eq_some_iff.mp H
    obtain ⟨t265, A30, H⟩ := H
    replace H : ((spec_Digits.f k t265).bind fun t268 => (if 1 + t268.size ≤ 9223372036854775807 then (some ((⟨#[45]⟩ : ByteArray) ++ t268)) else (none))) = some r := H
    have A3 := Aside0.mk A30
    clear A30
    replace H := Option.bind_eq_some_iff.mp H
    obtain ⟨t268, A40, H⟩ := H
    replace H : (if 1 + t268.size ≤ 9223372036854775807 then (some ((⟨#[45]⟩ : ByteArray) ++ t268)) else (none)) = some r := H
    have A4 := Aside0.mk A40
    clear A40
    by_cases c5 : 1 + t268.size ≤ 9223372036854775807
    · rw [if_pos c5] at H
      have c5b0 := eq_true c5
      have c5b1 : decide (1 + t268.size ≤ 9223372036854775807) = true := decide_eq_true c5
      try have c5b2 : (9223372036854775807 < 1 + t268.size) = False := eq_false (Nat.not_lt.2 c5)
      obtain rfl := Option.some.inj H
      go_enter Tryd.func56, Tryd.ntmps56
      go_wp2_with (first | ((with_reducible refine gate_callee (f := 49) rfl ?_); refine goesL_ (some 7) rfl rfl Tryd.func49 (by kernel_rfl) rfl #[.int .i64 (wrap64 (-a0))] rfl (by (try simp only [List.map_toArray, List.map_cons, List.map_nil]); first | done | rfl | (simp only [List.length_drop, List.length_take]; rfl)) ?_; (with_reducible refine (spec_natSmall.calls k (wrap64 (-a0)) t265 _ A3.out).mono ?_); rintro e w6 ⟨v266, rfl, ho0, hb⟩; refine ⟨_, rfl, ?_⟩; have n0_ := Aside0.mk (Kd.R_lower ho0 (below_size (by repeat (first | (with_reducible first | exact HB.out | apply below_alloc | apply pw_below_drewN | apply below_drew1) | exact HB.out)))); have n1_ := Aside0.mk (below_step (by repeat (first | (with_reducible first | exact HB.out | apply below_alloc | apply pw_below_drewN | apply below_drew1) | exact HB.out)) hb); clear HB; have HO267 := n0_; have HB := n1_; clear n0_ n1_; (try clear hb); (try clear hb2); (try clear hk); (try clear hi); (try clear ho0); obtain ⟨Ao7, co7, eo7⟩ := Kd.R_slice HO267.out; subst eo7) | ((with_reducible refine gate_callee (f := 72) rfl ?_); refine goesL_ (some 8) rfl rfl Tryd.func72 (by kernel_rfl) rfl #[.slice Ao7 t265.length co7] rfl (by (try simp only [List.map_toArray, List.map_cons, List.map_nil]); first | done | rfl | (simp only [List.length_drop, List.length_take]; rfl)) ?_; (with_reducible refine (spec_Digits.calls k (fun k_ => some k_ = (.slice Ao7 t265.length co7 : Value).ownBlock) _ _ t265 t268 _ ?side1 A4.out).mono ?_); (case side1 => exact Kd.R_V (Kd.R_tight rfl (HO267.out))); rintro e w8 ⟨rfl, hb⟩; refine ⟨_, rfl, ?_⟩; have n0_ := Aside0.mk (Kd.R_below (by (with_reducible repeat (first | apply Kd.R_alloc | apply Kd.R_drewN | apply Kd.R_drew)); exact HO267.out) hb); have n1_ := Aside0.mk (below_step (by repeat (first | (with_reducible first | exact HB.out | apply below_alloc | apply pw_below_drewN | apply below_drew1) | exact HB.out)) hb); clear HO267; clear HB; have HO267 := n0_; have HB := n1_; clear n0_ n1_; (try clear hb); (try clear hb2); (try clear hk); (try clear hi)))
      go_ret
      exact ⟨by first | rfl | (simp [errW_none, errW_some] <;> rfl) | (simp [*, errW_none, errW_some] <;> rfl), by repeat (first | (with_reducible first | exact HB.out | apply below_alloc | apply pw_below_drewN | apply below_drew1) | exact HB.out)⟩
    · rw [if_neg c5] at H
      exact absurd H (by simp)
  · rw [if_neg c2] at H
    have c2b0 : decide (a0 < 0) = false := decide_eq_false c2
    clear c2
    replace H := Option.bind_eq_some_iff.mp H
    obtain ⟨t269, A90, H⟩ := H
    replace H : ((spec_Digits.f k t269).bind fun t272 => (some t272)) = some r := H
    have A9 := Aside0.mk A90
    clear A90
    replace H := Option.bind_eq_some_iff.mp H
    obtain ⟨t272, A100, H⟩ := H
    replace H : (some t272) = some r := H
    have A10 := Aside0.mk A100
    clear A100
    obtain rfl := Option.some.inj H
    go_enter Tryd.func56, Tryd.ntmps56
    go_wp2_with (first | ((with_reducible refine gate_callee (f := 49) rfl ?_); refine goesL_ (some 11) rfl rfl Tryd.func49 (by kernel_rfl) rfl #[.int .i64 a0] rfl (by (try simp only [List.map_toArray, List.map_cons, List.map_nil]); first | done | rfl | (simp only [List.length_drop, List.length_take]; rfl)) ?_; (with_reducible refine (spec_natSmall.calls k a0 t269 _ A9.out).mono ?_); rintro e w11 ⟨v270, rfl, ho0, hb⟩; refine ⟨_, rfl, ?_⟩; have n0_ := Aside0.mk (Kd.R_lower ho0 (below_size (by repeat (first | (with_reducible first | exact HB.out | apply below_alloc | apply pw_below_drewN | apply below_drew1) | exact HB.out)))); have n1_ := Aside0.mk (below_step (by repeat (first | (with_reducible first | exact HB.out | apply below_alloc | apply pw_below_drewN | apply below_drew1) | exact HB.out)) hb); clear HB; have HO271 := n0_; have HB := n1_; clear n0_ n1_; (try clear hb); (try clear hb2); (try clear hk); (try clear hi); (try clear ho0); obtain ⟨Ao12, co12, eo12⟩ := Kd.R_slice HO271.out; subst eo12) | ((with_reducible refine gate_callee (f := 72) rfl ?_); refine goesL_ (some 12) rfl rfl Tryd.func72 (by kernel_rfl) rfl #[.slice Ao12 t269.length co12] rfl (by (try simp only [List.map_toArray, List.map_cons, List.map_nil]); first | done | rfl | (simp only [List.length_drop, List.length_take]; rfl)) ?_; (with_reducible refine (spec_Digits.calls k (fun k_ => some k_ = (.slice Ao12 t269.length co12 : Value).ownBlock) _ _ t269 t272 _ ?side1 A10.out).mono ?_); (case side1 => exact Kd.R_V (Kd.R_tight rfl (HO271.out))); rintro e w13 ⟨rfl, hb⟩; refine ⟨_, rfl, ?_⟩; have n0_ := Aside0.mk (Kd.R_below (by (with_reducible repeat (first | apply Kd.R_alloc | apply Kd.R_drewN | apply Kd.R_drew)); exact HO271.out) hb); have n1_ := Aside0.mk (below_step (by repeat (first | (with_reducible first | exact HB.out | apply below_alloc | apply pw_below_drewN | apply below_drew1) | exact HB.out)) hb); clear HO271; clear HB; have HO271 := n0_; have HB := n1_; clear n0_ n1_; (try clear hb); (try clear hb2); (try clear hk); (try clear hi)))
    go_ret
    exact ⟨by first | rfl | (simp [errW_none, errW_some] <;> rfl) | (simp [*, errW_none, errW_some] <;> rfl), by repeat (first | (with_reducible first | exact HB.out | apply below_alloc | apply pw_below_drewN | apply below_drew1) | exact HB.out)⟩

-- NOT PRINTED: function 38 (spec_NumberText)

end Go.Proofs.YtheichpmhfledaaDoor.PNumberText
