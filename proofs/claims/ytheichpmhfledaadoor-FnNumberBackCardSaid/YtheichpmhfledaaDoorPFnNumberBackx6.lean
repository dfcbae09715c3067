-- Written by printx.py of this session, over the kit's print, with contracts of this session for some functions
import Derived.Test.YtheichpmhfledaaDoorPFnNumberBackx0
import Derived.Test.YtheichpmhfledaaDoorPFnNumberBackx2
import Derived.Test.YtheichpmhfledaaDoorPFnNumberBackx3
import Derived.Test.YtheichpmhfledaaDoorPFnNumberBackx4
import Derived.Test.YtheichpmhfledaaDoorExtDigits
import Derived.Test.YtheichpmhfledaaDoorExtRoundF
namespace Go.Proofs.YtheichpmhfledaaDoor.PFnNumberBack
open Go.RowKit Go.Proofs.YtheichpmhfledaaDoorW.PrintWords Go.Proofs.YtheichpmhfledaaDoorW.PrintLast Go.Proofs.YtheichpmhfledaaDoorW.PrintMore
attribute [local go_sem] max2_int min2_int max_two min_two max_three min_three max_four min_four   -- for this text's walks alone
set_option linter.unusedVariables false
set_option linter.unusedSimpArgs false

/-! ### spec_natPower: function 53 -/
def spec_natPower.l0 : Nat → List Int → Int → Int → Int → Option (List Int)
  | 0, _, _, _, _ => none
  | k + 1, x0, x1, x2, x7 => if x7 < x2 then ((spec_natTimes.f k x0 (IntKind.u64.wrap (x1)) 0).bind fun t173 => (spec_natPower.l0 k t173 x1 x2 (wrap64 (x7 + 1)))) else (some x0)
def spec_natPower.f (k : Nat) (l0 : List Int) (a1 : Int) (a2 : Int) : Option (List Int) := spec_natPower.l0 k l0 a1 a2 0
theorem spec_natPower.mono_l : ∀ k, (∀ y0 y1 y2 y3, LeO (spec_natPower.l0 k y0 y1 y2 y3) (spec_natPower.l0 (k + 1) y0 y1 y2 y3))
  | 0 => fun _ _ _ _ r h => by simp [spec_natPower.l0] at h
  | k + 1 => by
    have ih0 := spec_natPower.mono_l k
    · intro y0 y1 y2 y3
      unfold spec_natPower.l0
      repeat' first
      | (with_reducible exact ih0 _ _ _ _)
      | (with_reducible exact spec_natTimes.mono _ _ _ _)
      | (with_reducible exact LeO.refl _)
      | (with_reducible exact LeO.none _)
      | (with_reducible refine LeO.ite ?_ ?_)
      | (with_reducible refine LeO.bind ?_ (fun _ => ?_))
      | exact ih0 _ _ _ _
      | exact spec_natTimes.mono _ _ _ _
      | exact LeO.none _
      | refine LeO.ite ?_ ?_
      | refine LeO.bind ?_ (fun _ => ?_)
theorem spec_natPower.mono : ∀ a0 a1 a2 k, LeO (spec_natPower.f k a0 a1 a2) (spec_natPower.f (k + 1) a0 a1 a2) := by
  intro a0 a1 a2 k
  have ih0 := spec_natPower.mono_l k
  unfold spec_natPower.f
  repeat' first
      | (with_reducible exact ih0 _ _ _ _)
      | (with_reducible exact spec_natTimes.mono _ _ _ _)
      | (with_reducible exact LeO.refl _)
      | (with_reducible exact LeO.none _)
      | (with_reducible refine LeO.ite ?_ ?_)
      | (with_reducible refine LeO.bind ?_ (fun _ => ?_))
      | exact ih0 _ _ _ _
      | exact spec_natTimes.mono _ _ _ _
      | exact LeO.none _
      | refine LeO.ite ?_ ?_
      | refine LeO.bind ?_ (fun _ => ?_)
set_option maxHeartbeats 8000000 in
set_option maxRecDepth 100000 in
theorem spec_natPower.calls (k : Nat) (P0_ : Nat → Prop) (A0 : Option Addr) (c0 : Nat) (l0 : List Int) (a1 : Int) (a2 : Int) (r : List Int) (w : World) (hs0 : Kd.V (Kd.int .u64) 40 w w.heap.size (fun k_ => P0_ k_) (.slice A0 l0.length c0) l0) (h : spec_natPower.f k l0 a1 a2 = some r) :
    Calls Tryd.prog 53 #[.slice A0 l0.length c0, .int .i64 a1, .int .i64 a2] w fun e w' => ∃ v0_ : Value, e = .returned (v0_) ∧ Kd.V (Kd.int .u64) 40 w' w.heap.size (fun k_ => (P0_ k_ ∨ w.heap.size ≤ k_)) v0_ r ∧ Below w.heap.size w w' := by
  have HO0 := Aside0.mk (show Kd.V (Kd.int .u64) 40 w w.heap.size (fun k_ => (P0_ k_ ∨ w.heap.size ≤ k_)) (.slice A0 l0.length c0) l0 from Kd.V_mono hs0 (fun k_ hk => .inl hk))
  have HB := Aside0.mk (Below.refl w.heap.size w)
  have H : (spec_natPower.l0 k l0 a1 a2 0) = some r := h
  clear h
  have H' := Aside0.mk H
  clear H
  go_enter Tryd.func53, Tryd.ntmps53
  go_wp2
  go_loopg [0, 7] k (fun kq v0 v7 w' => ∃ (x0_1 : List Int) (x7_1 : Int), v7 = .int .i64 x7_1 ∧ Aside0 (spec_natPower.l0 kq x0_1 a1 a2 x7_1 = some r) ∧ Aside0 (kq ≤ k) ∧ Aside0 (Kd.V (Kd.int .u64) 40 w' w.heap.size (fun k_ => (P0_ k_ ∨ w.heap.size ≤ k_)) v0 x0_1) ∧ Aside0 (Below w.heap.size w w'))
  case atStart => exact ⟨(l0), (0), (by first | rfl | (simp; done) | (simp [*]; done)), H', ⟨Nat.le_refl _⟩, ⟨by (with_reducible repeat (first | apply Kd.V_alloc | apply Kd.V_drewN | apply Kd.V_drew)); exact HO0.out⟩, ⟨by repeat (first | (with_reducible first | exact HB.out | apply below_alloc | apply pw_below_drewN | apply below_drew1) | exact HB.out)⟩⟩
  case round =>
    clear H'
    try clear p2
    obtain ⟨x0_1, x7_1, rfl, HA, HK1, HO_0, HB⟩ := hrel
    cases gk with
    | zero => exact absurd HA.out (by simp [spec_natPower.l0])
    | succ k1 =>
      have H := HA.out
      clear HA
      simp only [spec_natPower.l0] at H
      by_cases c4 : x7_1 < a2
      · rw [if_pos c4] at H
        have c4b0 : decide (x7_1 < a2) = true := decide_eq_true c4
        clear c4
        replace H := Option.bind_eq_some_iff.mp H
        obtain ⟨t173, A50, H⟩ := H
        replace H : (spec_natPower.l0 k1 t173 a1 a2 (wrap64 (x7_1 + 1))) = some r := H
        have A5 := Aside0.mk A50
        clear A50
        have H' := Aside0.mk H
        clear H
        obtain ⟨Ao6, co6, eo6⟩ := Kd.V_slice HO_0.out
        subst eo6
        go_wp2_with (first | ((with_reducible refine gate_callee (f := 50) rfl ?_); refine goesL_ (some 16) rfl rfl Tryd.func50 (by kernel_rfl) rfl #[.slice Ao6 x0_1.length co6, .int .u64 (IntKind.u64.wrap (a1)), .int .u64 0] rfl (by (try simp only [List.map_toArray, List.map_cons, List.map_nil]); first | done | rfl | (simp only [List.length_drop, List.length_take]; rfl)) ?_; (with_reducible refine (spec_natTimes.calls k1 _ _ x0_1 (IntKind.u64.wrap (a1)) 0 t173 _ ?side1 ?side2 A5.out).mono ?_); (case side1 => repeat (first | exact (Kd.V_reads' HO_0.out).2.2 | (with_reducible refine Kd.C_alloc ?_ _) | (with_reducible refine Kd.C_drewN ?_ _) | (with_reducible refine Kd.C_drew ?_))); (case side2 => exact (Kd.V_reads' HO_0.out).2.1); rintro e w7 ⟨v174, rfl, ho0, hb⟩; refine ⟨_, rfl, ?_⟩; have n0_ := Aside0.mk (Kd.V_elder' (by (with_reducible repeat (first | apply Kd.V_alloc | apply Kd.V_drewN | apply Kd.V_drew)); exact HO_0.out) (Kd.R_base ho0) hb); have n1_ := Aside0.mk (Kd.R_lower (Kd.R_newM (M := fun k_ => (w.heap.size ≤ k_)) ho0 (below_size (by repeat (first | (with_reducible first | exact HB.out | apply below_alloc | apply pw_below_drewN | apply below_drew1) | exact HB.out))) (fun k_ h_ => h_)) (below_size (by repeat (first | (with_reducible first | exact HB.out | apply below_alloc | apply pw_below_drewN | apply below_drew1) | exact HB.out)))); have n2_ := Aside0.mk (below_step (by repeat (first | (with_reducible first | exact HB.out | apply below_alloc | apply pw_below_drewN | apply below_drew1) | exact HB.out)) hb); clear HO_0; clear HB; have HO_0 := n0_; have HO175 := n1_; have HB := n2_; clear n0_ n1_ n2_; (try clear hb); (try clear hb2); (try clear hk); (try clear hi); (try clear ho0)))
        go_roundg k1
        case measure => have := HK1.out; omega
        case rel => exact ⟨(t173), (wrap64 (x7_1 + 1)), (by first | rfl | (simp; done) | (simp [*]; done)), H', ⟨by have := HK1.out; omega⟩, ⟨Kd.V_mono (Kd.R_V (by (with_reducible repeat (first | apply Kd.R_alloc | apply Kd.R_drewN | apply Kd.R_drew)); exact Kd.R_mono HO175.out (fun _ hk => hk.1))) (fun k_ hk => by first | exact ⟨(.inr (hk.1)), hk.2⟩ | exact (.inr (hk)))⟩, ⟨by repeat (first | (with_reducible first | exact HB.out | apply below_alloc | apply pw_below_drewN | apply below_drew1) | exact HB.out)⟩⟩
      · rw [if_neg c4] at H
        have c4b0 : decide (x7_1 < a2) = false := decide_eq_false c4
        clear c4
        obtain rfl := Option.some.inj H
        go_wp2
        go_ret
        exact ⟨_, by first | rfl | (simp [errW_none, errW_some] <;> rfl) | (simp [*, errW_none, errW_some] <;> rfl), by (with_reducible repeat (first | apply Kd.V_alloc | apply Kd.V_drewN | apply Kd.V_drew)); exact HO_0.out, by repeat (first | (with_reducible first | exact HB.out | apply below_alloc | apply pw_below_drewN | apply below_drew1) | exact HB.out)⟩

/-! ### spec_Decimal: function 36 -/
mutual
def spec_Decimal.j1 : Nat → ByteArray → Int → Option (Int × Bool)
  | 0, _, _ => none
  | k + 1, x0, x1 => spec_Decimal.l1 k x0 x1
def spec_Decimal.j3 : Nat → ByteArray → Int → Option (Int × Bool)
  | 0, _, _ => none
  | k + 1, x0, x1 => if (x0.size : Int) > 20 then (some (0, false)) else (if (x0.size : Int) = 0 then (spec_Decimal.j4 k x0 x1 true) else (spec_Decimal.j4 k x0 x1 (decide (x1 < (-400)))))
def spec_Decimal.j4 : Nat → ByteArray → Int → Bool → Option (Int × Bool)
  | 0, _, _, _ => none
  | k + 1, x0, x1, x48 => if x48 = true then (some (0, true)) else (if x1 > 400 then (some (9218868437227405312, true)) else ((spec_Natural.f k x0 10).bind fun t176 => ((spec_natSmall.f k 1).bind fun t179 => (if x1 ≥ 0 then ((spec_natPower.f k t176 10 x1).bind fun t182 => ((spec_Round.f t182 t179).bind fun t185 => (some (t185, true)))) else ((spec_natPower.f k t179 10 (wrap64 (-x1))).bind fun t186 => ((spec_Round.f t176 t186).bind fun t189 => (some (t189, true))))))))
def spec_Decimal.l1 : Nat → ByteArray → Int → Option (Int × Bool)
  | 0, _, _ => none
  | k + 1, x0, x1 => if (x0.size : Int) > 0 then (if 0 ≤ (wrap64 ((x0.size : Int) - 1)) then (if (wrap64 ((x0.size : Int) - 1)) < (x0.size : Int) then (if (bt x0 (wrap64 ((x0.size : Int) - 1))) = 48 then (if (wrap64 ((x0.size : Int) - 1)) ≤ (x0.size : Int) then (spec_Decimal.l1 k (x0.extract 0 ((wrap64 ((x0.size : Int) - 1)) : Int).toNat) (wrap64 (x1 + 1))) else (none)) else (spec_Decimal.j3 k x0 x1)) else (none)) else (none)) else (spec_Decimal.j3 k x0 x1)
def spec_Decimal.l0 : Nat → ByteArray → Int → Option (Int × Bool)
  | 0, _, _ => none
  | k + 1, x0, x1 => if (x0.size : Int) > 0 then (if 0 < (x0.size : Int) then (if (bt x0 0) = 48 then (if 1 ≤ (x0.size : Int) then (spec_Decimal.l0 k (x0.extract 1 x0.size) x1) else (none)) else (spec_Decimal.j1 k x0 x1)) else (none)) else (spec_Decimal.j1 k x0 x1)
end
def spec_Decimal.f (k : Nat) (a0 : ByteArray) (a1 : Int) : Option (Int × Bool) := if (a0.size : Int) > 300 then (some (0, false)) else (spec_Decimal.l0 k a0 a1)
theorem spec_Decimal.mono_l : ∀ k, (∀ y0 y1, LeO (spec_Decimal.j1 k y0 y1) (spec_Decimal.j1 (k + 1) y0 y1)) ∧ (∀ y0 y1, LeO (spec_Decimal.j3 k y0 y1) (spec_Decimal.j3 (k + 1) y0 y1)) ∧ (∀ y0 y1 y2, LeO (spec_Decimal.j4 k y0 y1 y2) (spec_Decimal.j4 (k + 1) y0 y1 y2)) ∧ (∀ y0 y1, LeO (spec_Decimal.l1 k y0 y1) (spec_Decimal.l1 (k + 1) y0 y1)) ∧ (∀ y0 y1, LeO (spec_Decimal.l0 k y0 y1) (spec_Decimal.l0 (k + 1) y0 y1))
  | 0 => ⟨fun _ _ r h => by simp [spec_Decimal.j1] at h, fun _ _ r h => by simp [spec_Decimal.j3] at h, fun _ _ _ r h => by simp [spec_Decimal.j4] at h, fun _ _ r h => by simp [spec_Decimal.l1] at h, fun _ _ r h => by simp [spec_Decimal.l0] at h⟩
  | k + 1 => by
    obtain ⟨ih0, ih1, ih2, ih3, ih4⟩ := spec_Decimal.mono_l k
    refine ⟨?_, ?_, ?_, ?_, ?_⟩
    · intro y0 y1
      unfold spec_Decimal.j1
      repeat' first
      | (with_reducible exact ih0 _ _)
      | (with_reducible exact ih1 _ _)
      | (with_reducible exact ih2 _ _ _)
      | (with_reducible exact ih3 _ _)
      | (with_reducible exact ih4 _ _)
      | (with_reducible exact spec_Natural.mono _ _ _)
      | (with_reducible exact spec_natPower.mono _ _ _ _)
      | (with_reducible exact spec_natSmall.mono _ _)
      | (with_reducible exact LeO.refl _)
      | (with_reducible exact LeO.none _)
      | (with_reducible refine LeO.ite ?_ ?_)
      | (with_reducible refine LeO.bind ?_ (fun _ => ?_))
      | exact ih0 _ _
      | exact ih1 _ _
      | exact ih2 _ _ _
      | exact ih3 _ _
      | exact ih4 _ _
      | exact spec_Natural.mono _ _ _
      | exact spec_natPower.mono _ _ _ _
      | exact spec_natSmall.mono _ _
      | exact LeO.none _
      | refine LeO.ite ?_ ?_
      | refine LeO.bind ?_ (fun _ => ?_)
    · intro y0 y1
      unfold spec_Decimal.j3
      repeat' first
      | (with_reducible exact ih0 _ _)
      | (with_reducible exact ih1 _ _)
      | (with_reducible exact ih2 _ _ _)
      | (with_reducible exact ih3 _ _)
      | (with_reducible exact ih4 _ _)
      | (with_reducible exact spec_Natural.mono _ _ _)
      | (with_reducible exact spec_natPower.mono _ _ _ _)
      | (with_reducible exact spec_natSmall.mono _ _)
      | (with_reducible exact LeO.refl _)
      | (with_reducible exact LeO.none _)
      | (with_reducible refine LeO.ite ?_ ?_)
      | (with_reducible refine LeO.bind ?_ (fun _ => ?_))
      | exact ih0 _ _
      | exact ih1 _ _
      | exact ih2 _ _ _
      | exact ih3 _ _
      | exact ih4 _ _
      | exact spec_Natural.mono _ _ _
      | exact spec_natPower.mono _ _ _ _
      | exact spec_natSmall.mono _ _
      | exact LeO.none _
      | refine LeO.ite ?_ ?_
      | refine LeO.bind ?_ (fun _ => ?_)
    · intro y0 y1 y2
      unfold spec_Decimal.j4
      repeat' first
      | (with_reducible exact ih0 _ _)
      | (with_reducible exact ih1 _ _)
      | (with_reducible exact ih2 _ _ _)
      | (with_reducible exact ih3 _ _)
      | (with_reducible exact ih4 _ _)
      | (with_reducible exact spec_Natural.mono _ _ _)
      | (with_reducible exact spec_natPower.mono _ _ _ _)
      | (with_reducible exact spec_natSmall.mono _ _)
      | (with_reducible exact LeO.refl _)
      | (with_reducible exact LeO.none _)
      | (with_reducible refine LeO.ite ?_ ?_)
      | (with_reducible refine LeO.bind ?_ (fun _ => ?_))
      | exact ih0 _ _
      | exact ih1 _ _
      | exact ih2 _ _ _
      | exact ih3 _ _
      | exact ih4 _ _
      | exact spec_Natural.mono _ _ _
      | exact spec_natPower.mono _ _ _ _
      | exact spec_natSmall.mono _ _
      | exact LeO.none _
      | refine LeO.ite ?_ ?_
      | refine LeO.bind ?_ (fun _ => ?_)
    · intro y0 y1
      unfold spec_Decimal.l1
      repeat' first
      | (with_reducible exact ih0 _ _)
      | (with_reducible exact ih1 _ _)
      | (with_reducible exact ih2 _ _ _)
      | (with_reducible exact ih3 _ _)
      | (with_reducible exact ih4 _ _)
      | (with_reducible exact spec_Natural.mono _ _ _)
      | (with_reducible exact spec_natPower.mono _ _ _ _)
      | (with_reducible exact spec_natSmall.mono _ _)
      | (with_reducible exact LeO.refl _)
      | (with_reducible exact LeO.none _)
      | (with_reducible refine LeO.ite ?_ ?_)
      | (with_reducible refine LeO.bind ?_ (fun _ => ?_))
      | exact ih0 _ _
      | exact ih1 _ _
      | exact ih2 _ _ _
      | exact ih3 _ _
      | exact ih4 _ _
      | exact spec_Natural.mono _ _ _
      | exact spec_natPower.mono _ _ _ _
      | exact spec_natSmall.mono _ _
      | exact LeO.none _
      | refine LeO.ite ?_ ?_
      | refine LeO.bind ?_ (fun _ => ?_)
    · intro y0 y1
      unfold spec_Decimal.l0
      repeat' first
      | (with_reducible exact ih0 _ _)
      | (with_reducible exact ih1 _ _)
      | (with_reducible exact ih2 _ _ _)
      | (with_reducible exact ih3 _ _)
      | (with_reducible exact ih4 _ _)
      | (with_reducible exact spec_Natural.mono _ _ _)
      | (with_reducible exact spec_natPower.mono _ _ _ _)
      | (with_reducible exact spec_natSmall.mono _ _)
      | (with_reducible exact LeO.refl _)
      | (with_reducible exact LeO.none _)
      | (with_reducible refine LeO.ite ?_ ?_)
      | (with_reducible refine LeO.bind ?_ (fun _ => ?_))
      | exact ih0 _ _
      | exact ih1 _ _
      | exact ih2 _ _ _
      | exact ih3 _ _
      | exact ih4 _ _
      | exact spec_Natural.mono _ _ _
      | exact spec_natPower.mono _ _ _ _
      | exact spec_natSmall.mono _ _
      | exact LeO.none _
      | refine LeO.ite ?_ ?_
      | refine LeO.bind ?_ (fun _ => ?_)
theorem spec_Decimal.mono : ∀ a0 a1 k, LeO (spec_Decimal.f k a0 a1) (spec_Decimal.f (k + 1) a0 a1) := by
  intro a0 a1 k
  obtain ⟨ih0, ih1, ih2, ih3, ih4⟩ := spec_Decimal.mono_l k
  unfold spec_Decimal.f
  repeat' first
      | (with_reducible exact ih0 _ _)
      | (with_reducible exact ih1 _ _)
      | (with_reducible exact ih2 _ _ _)
      | (with_reducible exact ih3 _ _)
      | (with_reducible exact ih4 _ _)
      | (with_reducible exact spec_Natural.mono _ _ _)
      | (with_reducible exact spec_natPower.mono _ _ _ _)
      | (with_reducible exact spec_natSmall.mono _ _)
      | (with_reducible exact LeO.refl _)
      | (with_reducible exact LeO.none _)
      | (with_reducible refine LeO.ite ?_ ?_)
      | (with_reducible refine LeO.bind ?_ (fun _ => ?_))
      | exact ih0 _ _
      | exact ih1 _ _
      | exact ih2 _ _ _
      | exact ih3 _ _
      | exact ih4 _ _
      | exact spec_Natural.mono _ _ _
      | exact spec_natPower.mono _ _ _ _
      | exact spec_natSmall.mono _ _
      | exact LeO.none _
      | refine LeO.ite ?_ ?_
      | refine LeO.bind ?_ (fun _ => ?_)
set_option maxHeartbeats 8000000 in
set_option maxRecDepth 100000 in
theorem spec_Decimal.calls (k : Nat) (a0 : ByteArray) (a1 : Int) (r1 : Int) (r2 : Bool) (w : World) (h : spec_Decimal.f k a0 a1 = some (r1, r2)) :
    Calls Tryd.prog 36 #[.string a0, .int .i64 a1] w fun e w' => e = .returned (.tuple #[.int .u64 r1, .bool r2]) ∧ Below w.heap.size w w' := by
  have HB := Aside0.mk (Below.refl w.heap.size w)
  have H : (if (a0.size : Int) > 300 then (some (0, false)) else (spec_Decimal.l0 k a0 a1)) = some (r1, r2) := h
  clear h
  by_cases c3 : (a0.size : Int) > 300
  · rw [if_pos c3] at H
    have c3b0 : decide (300 < (a0.size : Int)) = true := decide_eq_true c3
    have c3b1 : decide (300 < a0.size) = true := decide_eq_true (by omega)
    clear c3
    simp only [Option.some.injEq, Prod.mk.injEq] at H
    obtain ⟨rfl, rfl⟩ := H
    go_enter Tryd.func36, Tryd.ntmps36
    go_wp2
    go_ret2
    exact ⟨by first | rfl | (simp [errW_none, errW_some] <;> rfl) | (simp [*, errW_none, errW_some] <;> rfl), by repeat (first | (with_reducible first | exact HB.out | apply below_alloc | apply pw_below_drewN | apply below_drew1) | exact HB.out)⟩
  · rw [if_neg c3] at H
    have c3b0 : decide (300 < (a0.size : Int)) = false := decide_eq_false c3
    have c3b1 : decide (300 < a0.size) = false := decide_eq_false (by omega)
    clear c3
    have HC4 := Aside0.mk H
    clear H
    go_enter Tryd.func36, Tryd.ntmps36
    go_upto_block 0 with (fail)
    go_cut [0] (fun v0 wc => ∃ (kq : Nat) (x0_3 : ByteArray), v0 = .string x0_3 ∧ Aside0 (spec_Decimal.j1 kq x0_3 a1 = some (r1, r2)) ∧ Aside0 (kq ≤ k) ∧ Aside0 (Below w.heap.size w wc))
    case first =>
      have H := HC4.out
      clear HC4
      have H' := Aside0.mk H
      clear H
      go_wp2
      go_loopg [0] k (fun kq v0 w' => ∃ (x0_1 : ByteArray), v0 = .string x0_1 ∧ Aside0 (spec_Decimal.l0 kq x0_1 a1 = some (r1, r2)) ∧ Aside0 (kq ≤ k) ∧ Aside0 (Below w.heap.size w w'))
      case atStart => exact ⟨(a0), (by first | rfl | (simp; done) | (simp [*]; done)), H', ⟨Nat.le_refl _⟩, ⟨by repeat (first | (with_reducible first | exact HB.out | apply below_alloc | apply pw_below_drewN | apply below_drew1) | exact HB.out)⟩⟩
      case round =>
        clear H'
        try clear p2
        try clear c3
        try clear c3b0
        try clear c3b1
        obtain ⟨x0_1, rfl, HA, HK1, HB⟩ := hrel
        cases gk with
        | zero => exact absurd HA.out (by simp [spec_Decimal.l0])
        | succ k1 =>
          have H := HA.out
          clear HA
          simp only [spec_Decimal.l0] at H
          by_cases c5 : (x0_1.size : Int) > 0
          · rw [if_pos c5] at H
            have c5b0 : decide (0 < (x0_1.size : Int)) = true := decide_eq_true c5
            have c5b1 : decide (0 < x0_1.size) = true := decide_eq_true (by omega)
            clear c5
            (first | rw [c5b0] | (simp only [i64_w, i32_w]; rw [c5b0]) | skip)
            by_cases c6 : 0 < (x0_1.size : Int)
            · rw [if_pos c6] at H
              have c6b0 : decide (0 < (x0_1.size : Int)) = true := decide_eq_true c6
              have c6b1 : decide (0 < x0_1.size) = true := decide_eq_true (by omega)
              clear c6
              by_cases c8 : (bt x0_1 0) = 48
              · rw [if_pos c8] at H
                have c8b0 : ((bt x0_1 0) == 48) = true := beq_iff_eq.mpr c8
                have c8b1 : ((bt x0_1 0) != 48) = false := bne_eq_false_iff_eq.mpr c8
                clear c8
                by_cases c9 : 1 ≤ (x0_1.size : Int)
                · rw [if_pos c9] at H
                  have c9b0 := eq_true c9
                  have c9b1 : decide (1 ≤ (x0_1.size : Int)) = true := decide_eq_true c9
                  clear c9
                  have H' := Aside0.mk H
                  clear H
                  have p7 : 0 ≤ (0 : Int) := (by omega)
                  have q7 : 0 < x0_1.size := (by have : (0 : Int) < (x0_1.size : Int) := of_decide_eq_true (by first | (with_reducible assumption) | assumption); omega)
                  have hx7 : ∀ h : 0 < x0_1.size, ((x0_1[0]'h).toNat : Int) = bt x0_1 0 := bt_at x0_1 0
                  clear p7
                  have qi7 : (0 < (x0_1.size : Int)) = True := eq_true (of_decide_eq_true (by first | (with_reducible assumption) | assumption))
                  replace q7 := eq_true q7
                  go_wp2
                  go_roundg k1
                  case measure => have := HK1.out; omega
                  case rel => exact ⟨(x0_1.extract 1 x0_1.size), (by first | rfl | (simp; done) | (simp [*]; done)), H', ⟨by have := HK1.out; omega⟩, ⟨by repeat (first | (with_reducible first | exact HB.out | apply below_alloc | apply pw_below_drewN | apply below_drew1) | exact HB.out)⟩⟩
                · rw [if_neg c9] at H
                  exact absurd H (by simp)
              · rw [if_neg c8] at H
                have c8b0 : ((bt x0_1 0) == 48) = false := beq_eq_false_iff_ne.mpr c8
                have c8b1 : ((bt x0_1 0) != 48) = true := bne_iff_ne.mpr c8
                have H' := Aside0.mk H
                clear H
                have p7 : 0 ≤ (0 : Int) := (by omega)
                have q7 : 0 < x0_1.size := (by have : (0 : Int) < (x0_1.size : Int) := of_decide_eq_true (by first | (with_reducible assumption) | assumption); omega)
                have hx7 : ∀ h : 0 < x0_1.size, ((x0_1[0]'h).toNat : Int) = bt x0_1 0 := bt_at x0_1 0
                clear p7
                have qi7 : (0 < (x0_1.size : Int)) = True := eq_true (of_decide_eq_true (by first | (with_reducible assumption) | assumption))
                replace q7 := eq_true q7
                go_wp2
                go_meet
                case rel => exact ⟨_, (x0_1), (by first | rfl | (simp; done) | (simp [*]; done)), H', ⟨by have := HK1.out; first | omega | exact Nat.le_refl _⟩, ⟨by repeat (first | (with_reducible first | exact HB.out | apply below_alloc | apply pw_below_drewN | apply below_drew1) | exact HB.out)⟩⟩
            · rw [if_neg c6] at H
              exact absurd H (by simp)
          · rw [if_neg c5] at H
            have c5b0 : decide (0 < (x0_1.size : Int)) = false := decide_eq_false c5
            have c5b1 : decide (0 < x0_1.size) = false := decide_eq_false (by omega)
            clear c5
            (first | rw [c5b0] | (simp only [i64_w, i32_w]; rw [c5b0]) | skip)
            have H' := Aside0.mk H
            clear H
            go_wp2
            go_meet
            case rel => exact ⟨_, (x0_1), (by first | rfl | (simp; done) | (simp [*]; done)), H', ⟨by have := HK1.out; first | omega | exact Nat.le_refl _⟩, ⟨by repeat (first | (with_reducible first | exact HB.out | apply below_alloc | apply pw_below_drewN | apply below_drew1) | exact HB.out)⟩⟩
    case rest =>
      clear HC4
      try clear p2
      try clear c3
      try clear c3b0
      try clear c3b1
      try clear c5
      try clear c5b0
      try clear c5b1
      try clear c6
      try clear c6b0
      try clear c6b1
      try clear p7
      try clear q7
      try clear hx7
      try clear qi7
      try clear c8
      try clear c8b0
      try clear c8b1
      try clear c9
      try clear c9b0
      try clear c9b1
      try clear p2
      try clear p7
      try clear q7
      obtain ⟨kq, x0_3, rfl, HA, HJ3, HB⟩ := hcut
      cases kq with
      | zero => exact absurd HA.out (by simp [spec_Decimal.j1])
      | succ kj3 =>
        have H := HA.out
        clear HA
        simp only [spec_Decimal.j1] at H
        have HC10 := Aside0.mk H
        clear H
        go_upto_block 2 with (fail)
        go_cut [0, 1] (fun v0 v1 wc => ∃ (kq : Nat) (x0_9 : ByteArray) (x1_9 : Int), v0 = .string x0_9 ∧ v1 = .int .i64 x1_9 ∧ Aside0 (spec_Decimal.j3 kq x0_9 x1_9 = some (r1, r2)) ∧ Aside0 (kq ≤ kj3) ∧ Aside0 (Below w.heap.size w wc))
        case first =>
          have H := HC10.out
          clear HC10
          have H' := Aside0.mk H
          clear H
          go_wp2
          go_loopg [0, 1] kj3 (fun kq v0 v1 w' => ∃ (x0_2 : ByteArray) (x1_2 : Int), v0 = .string x0_2 ∧ v1 = .int .i64 x1_2 ∧ Aside0 (spec_Decimal.l1 kq x0_2 x1_2 = some (r1, r2)) ∧ Aside0 (kq ≤ kj3) ∧ Aside0 (Below w.heap.size w w'))
          case atStart => exact ⟨(x0_3), (a1), (by first | rfl | (simp; done) | (simp [*]; done)), (by first | rfl | (simp; done) | (simp [*]; done)), H', ⟨Nat.le_refl _⟩, ⟨by repeat (first | (with_reducible first | exact HB.out | apply below_alloc | apply pw_below_drewN | apply below_drew1) | exact HB.out)⟩⟩
          case round =>
            clear H'
            try clear p2
            try clear c3
            try clear c3b0
            try clear c3b1
            try clear c5
            try clear c5b0
            try clear c5b1
            try clear c6
            try clear c6b0
            try clear c6b1
            try clear p7
            try clear q7
            try clear hx7
            try clear qi7
            try clear c8
            try clear c8b0
            try clear c8b1
            try clear c9
            try clear c9b0
            try clear c9b1
            try clear p2
            try clear p7
            try clear q7
            obtain ⟨x0_2, x1_2, rfl, rfl, HA, HK2, HB⟩ := hrel
            cases gk with
            | zero => exact absurd HA.out (by simp [spec_Decimal.l1])
            | succ k2 =>
              have H := HA.out
              clear HA
              simp only [spec_Decimal.l1] at H
              by_cases c11 : (x0_2.size : Int) > 0
              · rw [if_pos c11] at H
                have c11b0 : decide (0 < (x0_2.size : Int)) = true := decide_eq_true c11
                have c11b1 : decide (0 < x0_2.size) = true := decide_eq_true (by omega)
                clear c11
                (first | rw [c11b0] | (simp only [i64_w, i32_w]; rw [c11b0]) | skip)
                obtain ⟨ji12, hji12⟩ : ∃ j_ : Int, (wrap64 ((x0_2.size : Int) - 1)) = j_ := ⟨_, rfl⟩
                replace H : (if 0 ≤ (ji12) then (if (ji12) < (x0_2.size : Int) then (if (bt x0_2 (ji12)) = 48 then (if (ji12) ≤ (x0_2.size : Int) then (spec_Decimal.l1 k2 (x0_2.extract 0 ((ji12) : Int).toNat) (wrap64 (x1_2 + 1))) else (none)) else (spec_Decimal.j3 k2 x0_2 x1_2)) else (none)) else (none)) = some (r1, r2) := by first | (rw [hji12] at H; exact H) | (simp only [hji12] at H ⊢; exact H)
                have hji12w : (IntKind.i64.wrap ((x0_2.size : Int) - 1)) = ji12 := (i64_w _).trans hji12
                by_cases c13 : 0 ≤ (ji12)
                · rw [if_pos c13] at H
                  have c13b0 : decide (0 ≤ (ji12)) = true := decide_eq_true c13
                  clear c13
                  by_cases c14 : (ji12) < (x0_2.size : Int)
                  · rw [if_pos c14] at H
                    have c14b0 : decide ((ji12) < (x0_2.size : Int)) = true := decide_eq_true c14
                    clear c14
                    by_cases c16 : (bt x0_2 (ji12)) = 48
                    · rw [if_pos c16] at H
                      have c16b0 : ((bt x0_2 (ji12)) == 48) = true := beq_iff_eq.mpr c16
                      have c16b1 : ((bt x0_2 (ji12)) != 48) = false := bne_eq_false_iff_eq.mpr c16
                      clear c16
                      have c17b0 := eq_true (of_decide_eq_true (by first | (with_reducible assumption) | assumption) : 0 ≤ (ji12))
                      by_cases c18 : (ji12) ≤ (x0_2.size : Int)
                      · rw [if_pos c18] at H
                        have c18b0 := eq_true c18
                        have c18b1 : decide ((ji12) ≤ (x0_2.size : Int)) = true := decide_eq_true c18
                        clear c18
                        have H' := Aside0.mk H
                        clear H
                        have p15 : 0 ≤ ((ji12) : Int) := of_decide_eq_true (by first | (with_reducible assumption) | assumption)
                        have q15 : (ji12) < (x0_2.size : Int) := of_decide_eq_true (by first | (with_reducible assumption) | assumption)
                        have hx15 := bt_at x0_2 (ji12)
                        replace p15 := eq_true p15
                        replace q15 := eq_true q15
                        go_wp2
                        go_roundg k2
                        case measure => have := HJ3.out; have := HK2.out; omega
                        case rel => exact ⟨(x0_2.extract 0 ((ji12) : Int).toNat), (wrap64 (x1_2 + 1)), (by first | rfl | (simp; done) | (simp only [← hji12] <;> (first | rfl | simp)) | (simp [*]; done)), (by first | rfl | (simp; done) | (simp [*]; done)), H', ⟨by have := HJ3.out; have := HK2.out; omega⟩, ⟨by repeat (first | (with_reducible first | exact HB.out | apply below_alloc | apply pw_below_drewN | apply below_drew1) | exact HB.out)⟩⟩
                      · rw [if_neg c18] at H
                        exact absurd H (by simp)
                    · rw [if_neg c16] at H
                      have c16b0 : ((bt x0_2 (ji12)) == 48) = false := beq_eq_false_iff_ne.mpr c16
                      have c16b1 : ((bt x0_2 (ji12)) != 48) = true := bne_iff_ne.mpr c16
                      have H' := Aside0.mk H
                      clear H
                      have p15 : 0 ≤ ((ji12) : Int) := of_decide_eq_true (by first | (with_reducible assumption) | assumption)
                      have q15 : (ji12) < (x0_2.size : Int) := of_decide_eq_true (by first | (with_reducible assumption) | assumption)
                      have hx15 := bt_at x0_2 (ji12)
                      replace p15 := eq_true p15
                      replace q15 := eq_true q15
                      go_wp2
                      go_meet
                      case rel => exact ⟨_, (x0_2), (x1_2), (by first | rfl | (simp; done) | (simp [*]; done)), (by first | rfl | (simp; done) | (simp [*]; done)), H', ⟨by have := HJ3.out; have := HK2.out; first | omega | exact Nat.le_refl _⟩, ⟨by repeat (first | (with_reducible first | exact HB.out | apply below_alloc | apply pw_below_drewN | apply below_drew1) | exact HB.out)⟩⟩
                  · rw [if_neg c14] at H
                    exact absurd H (by simp)
                · rw [if_neg c13] at H
                  exact absurd H (by simp)
              · rw [if_neg c11] at H
                have c11b0 : decide (0 < (x0_2.size : Int)) = false := decide_eq_false c11
                have c11b1 : decide (0 < x0_2.size) = false := decide_eq_false (by omega)
                clear c11
                (first | rw [c11b0] | (simp only [i64_w, i32_w]; rw [c11b0]) | skip)
                have H' := Aside0.mk H
                clear H
                go_wp2
                go_meet
                case rel => exact ⟨_, (x0_2), (x1_2), (by first | rfl | (simp; done) | (simp [*]; done)), (by first | rfl | (simp; done) | (simp [*]; done)), H', ⟨by have := HJ3.out; have := HK2.out; first | omega | exact Nat.le_refl _⟩, ⟨by repeat (first | (with_reducible first | exact HB.out | apply below_alloc | apply pw_below_drewN | apply below_drew1) | exact HB.out)⟩⟩
        case rest =>
          clear HC10
          try clear c1
          try clear p1
          try clear q1
          try clear hx1
          try clear p2
          try clear c3
          try clear c3b0
          try clear c3b1
          try clear c5
          try clear c5b0
          try clear c5b1
          try clear c6
          try clear c6b0
          try clear c6b1
          try clear p6
          try clear p7
          try clear q7
          try clear hx7
          try clear qi7
          try clear c8
          try clear c8b0
          try clear c8b1
          try clear c9
          try clear c9b0
          try clear c9b1
          try clear c11
          try clear c11b0
          try clear c11b1
          try clear c13
          try clear c13b0
          try clear c14
          try clear c14b0
          try clear p15
          try clear q15
          try clear hx15
          try clear c16
          try clear c16b0
          try clear c16b1
          try clear c17
          try clear c17b0
          try clear c18
          try clear c18b0
          try clear c18b1
          try clear p15
          try clear p2
          try clear p7
          try clear q15
          try clear q7
          obtain ⟨kq, x0_9, x1_9, rfl, rfl, HA, HJ9, HB⟩ := hcut
          cases kq with
          | zero => exact absurd HA.out (by simp [spec_Decimal.j3])
          | succ kj9 =>
            have H := HA.out
            clear HA
            simp only [spec_Decimal.j3] at H
            by_cases c19 : (x0_9.size : Int) > 20
            · rw [if_pos c19] at H
              have c19b0 : decide (20 < (x0_9.size : Int)) = true := decide_eq_true c19
              have c19b1 : decide (20 < x0_9.size) = true := decide_eq_true (by omega)
              clear c19
              simp only [Option.some.injEq, Prod.mk.injEq] at H
              obtain ⟨rfl, rfl⟩ := H
              go_wp2
              go_ret2
              exact ⟨by first | rfl | (simp [errW_none, errW_some] <;> rfl) | (simp [*, errW_none, errW_some] <;> rfl), by repeat (first | (with_reducible first | exact HB.out | apply below_alloc | apply pw_below_drewN | apply below_drew1) | exact HB.out)⟩
            · rw [if_neg c19] at H
              have c19b0 : decide (20 < (x0_9.size : Int)) = false := decide_eq_false c19
              have c19b1 : decide (20 < x0_9.size) = false := decide_eq_false (by omega)
              clear c19
              have HC20 := Aside0.mk H
              clear H
              go_upto_region 9 with (fail)
              go_cut [48] (fun v48 wc => ∃ (kq : Nat) (x48_19 : Bool), v48 = .bool x48_19 ∧ Aside0 (spec_Decimal.j4 kq x0_9 x1_9 x48_19 = some (r1, r2)) ∧ Aside0 (kq ≤ kj9) ∧ Aside0 (Below w.heap.size w wc))
              case first =>
                have H := HC20.out
                clear HC20
                by_cases c21 : (x0_9.size : Int) = 0
                · rw [if_pos c21] at H
                  have c21b0 : ((x0_9.size : Int) == 0) = true := beq_iff_eq.mpr c21
                  have c21b1 : ((x0_9.size : Int) != 0) = false := bne_eq_false_iff_eq.mpr c21
                  clear c21
                  (first | rw [c21b0] | (simp only [i64_w, i32_w]; rw [c21b0]) | skip)
                  have H' := Aside0.mk H
                  clear H
                  go_wp2
                  go_meet
                  case rel => exact ⟨_, (true), (by first | rfl | (simp; done) | (simp [*]; done)), H', ⟨by have := HJ3.out; have := HJ9.out; first | omega | exact Nat.le_refl _⟩, ⟨by repeat (first | (with_reducible first | exact HB.out | apply below_alloc | apply pw_below_drewN | apply below_drew1) | exact HB.out)⟩⟩
                · rw [if_neg c21] at H
                  have c21b0 : ((x0_9.size : Int) == 0) = false := beq_eq_false_iff_ne.mpr c21
                  have c21b1 : ((x0_9.size : Int) != 0) = true := bne_iff_ne.mpr c21
                  (first | rw [c21b0] | (simp only [i64_w, i32_w]; rw [c21b0]) | skip)
                  have H' := Aside0.mk H
                  clear H
                  go_wp2
                  go_meet
                  case rel => exact ⟨_, (decide (x1_9 < (-400))), (by first | rfl | (simp; done) | (simp [*]; done)), H', ⟨by have := HJ3.out; have := HJ9.out; first | omega | exact Nat.le_refl _⟩, ⟨by repeat (first | (with_reducible first | exact HB.out | apply below_alloc | apply pw_below_drewN | apply below_drew1) | exact HB.out)⟩⟩
              case rest =>
                clear HC20
                try clear c1
                try clear p1
                try clear q1
                try clear hx1
                try clear c2
                try clear p2
                try clear c3
                try clear c3b0
                try clear c3b1
                try clear c5
                try clear c5b0
                try clear c5b1
                try clear c6
                try clear c6b0
                try clear c6b1
                try clear p6
                try clear p7
                try clear q7
                try clear hx7
                try clear qi7
                try clear c8
                try clear c8b0
                try clear c8b1
                try clear c9
                try clear c9b0
                try clear c9b1
                try clear c11
                try clear c11b0
                try clear c11b1
                try clear c13
                try clear c13b0
                try clear c14
                try clear c14b0
                try clear p15
                try clear q15
                try clear hx15
                try clear c16
                try clear c16b0
                try clear c16b1
                try clear c17
                try clear c17b0
                try clear c18
                try clear c18b0
                try clear c18b1
                try clear c19
                try clear c19b0
                try clear c19b1
                try clear c21
                try clear c21b0
                try clear c21b1
                try clear p1
                try clear p15
                try clear p2
                try clear p6
                try clear p7
                try clear q1
                try clear q15
                try clear q7
                obtain ⟨kq, x48_19, rfl, HA, HJ19, HB⟩ := hcut
                cases kq with
                | zero => exact absurd HA.out (by simp [spec_Decimal.j4])
                | succ kj19 =>
                  have H := HA.out
                  clear HA
                  simp only [spec_Decimal.j4] at H
                  by_cases c22 : x48_19 = true
                  · subst c22
                    have H1 : (some (0, true)) = some (r1, r2) := by rw [if_pos rfl] at H; exact H
                    clear H
                    have H := H1
                    clear H1
                    simp only [Option.some.injEq, Prod.mk.injEq] at H
                    obtain ⟨rfl, rfl⟩ := H
                    go_wp2
                    go_ret2
                    exact ⟨by first | rfl | (simp [errW_none, errW_some] <;> rfl) | (simp [*, errW_none, errW_some] <;> rfl), by repeat (first | (with_reducible first | exact HB.out | apply below_alloc | apply pw_below_drewN | apply below_drew1) | exact HB.out)⟩
                  · replace c22 := Bool.eq_false_iff.mpr c22
                    subst c22
                    have H1 : (if x1_9 > 400 then (some (9218868437227405312, true)) else ((spec_Natural.f kj19 x0_9 10).bind fun t176 => ((spec_natSmall.f kj19 1).bind fun t179 => (if x1_9 ≥ 0 then ((spec_natPower.f kj19 t176 10 x1_9).bind fun t182 => ((spec_Round.f t182 t179).bind fun t185 => (some (t185, true)))) else ((spec_natPower.f kj19 t179 10 (wrap64 (-x1_9))).bind fun t186 => ((spec_Round.f t176 t186).bind fun t189 => (some (t189, true)))))))) = some (r1, r2) := by rw [if_neg (show ¬ (false = true) by decide)] at H; exact H
                    clear H
                    have H := H1
                    clear H1
                    by_cases c23 : x1_9 > 400
                    · rw [if_pos c23] at H
                      have c23b0 : decide (400 < x1_9) = true := decide_eq_true c23
                      clear c23
                      simp only [Option.some.injEq, Prod.mk.injEq] at H
                      obtain ⟨rfl, rfl⟩ := H
                      go_wp2
                      go_ret2
                      exact ⟨by first | rfl | (simp [errW_none, errW_some] <;> rfl) | (simp [*, errW_none, errW_some] <;> rfl), by repeat (first | (with_reducible first | exact HB.out | apply below_alloc | apply pw_below_drewN | apply below_drew1) | exact HB.out)⟩
                    · rw [if_neg c23] at H
                      have c23b0 : decide (400 < x1_9) = false := decide_eq_false c23
                      clear c23
                      replace H := Option.bind_eq_some_iff.mp H
                      obtain ⟨t176, A240, H⟩ := H
                      replace H : ((spec_natSmall.f kj19 1).bind fun t179 => (if x1_9 ≥ 0 then ((spec_natPower.f kj19 t176 10 x1_9).bind fun t182 => ((spec_Round.f t182 t179).bind fun t185 => (some (t185, true)))) else ((spec_natPower.f kj19 t179 10 (wrap64 (-x1_9))).bind fun t186 => ((spec_Round.f t176 t186).bind fun t189 => (some (t189, true)))))) = some (r1, r2) := H
                      have A24 := Aside0.mk A240
                      clear A240
                      replace H := Option.bind_eq_some_iff.mp H
                      obtain ⟨t179, A250, H⟩ := H
                      replace H : (if x1_9 ≥ 0 then ((spec_natPower.f kj19 t176 10 x1_9).bind fun t182 => ((spec_Round.f t182 t179).bind fun t185 => (some (t185, true)))) else ((spec_natPower.f kj19 t179 10 (wrap64 (-x1_9))).bind fun t186 => ((spec_Round.f t176 t186).bind fun t189 => (some (t189, true))))) = some (r1, r2) := H
                      have A25 := Aside0.mk A250
                      clear A250
                      by_cases c26 : x1_9 ≥ 0
                      · rw [if_pos c26] at H
                        have c26b0 : decide (0 ≤ x1_9) = true := decide_eq_true c26
                        clear c26
                        replace H := Option.bind_eq_some_iff.mp H
                        obtain ⟨t182, A270, H⟩ := H
                        replace H : ((spec_Round.f t182 t179).bind fun t185 => (some (t185, true))) = some (r1, r2) := H
                        have A27 := Aside0.mk A270
                        clear A270
                        replace H := Option.bind_eq_some_iff.mp H
                        obtain ⟨t185, A280, H⟩ := H
                        replace H : (some (t185, true)) = some (r1, r2) := H
                        have A28 := Aside0.mk A280
                        clear A280
                        simp only [Option.some.injEq, Prod.mk.injEq] at H
                        obtain ⟨rfl, rfl⟩ := H
                        go_wp2_with (first | ((with_reducible refine gate_callee (f := 32) rfl ?_); refine goesL_ (some 52) rfl rfl Tryd.func32 (by kernel_rfl) rfl #[.string x0_9, .int .i64 10] rfl (by (try simp only [List.map_toArray, List.map_cons, List.map_nil]); first | done | rfl | (simp only [List.length_drop, List.length_take]; rfl)) ?_; (with_reducible refine (spec_Natural.calls kj19 x0_9 10 t176 _ A24.out).mono ?_); rintro e w29 ⟨v177, rfl, ho0, hb⟩; refine ⟨_, rfl, ?_⟩; have n0_ := Aside0.mk (Kd.R_lower ho0 (below_size (by repeat (first | (with_reducible first | exact HB.out | apply below_alloc | apply pw_below_drewN | apply below_drew1) | exact HB.out)))); have n1_ := Aside0.mk (below_step (by repeat (first | (with_reducible first | exact HB.out | apply below_alloc | apply pw_below_drewN | apply below_drew1) | exact HB.out)) hb); clear HB; have HO178 := n0_; have HB := n1_; clear n0_ n1_; (try clear hb); (try clear hb2); (try clear hk); (try clear hi); (try clear ho0)) | ((with_reducible refine gate_callee (f := 49) rfl ?_); refine goesL_ (some 53) rfl rfl Tryd.func49 (by kernel_rfl) rfl #[.int .i64 1] rfl (by (try simp only [List.map_toArray, List.map_cons, List.map_nil]); first | done | rfl | (simp only [List.length_drop, List.length_take]; rfl)) ?_; (with_reducible refine (spec_natSmall.calls kj19 1 t179 _ A25.out).mono ?_); rintro e w30 ⟨v180, rfl, ho0, hb⟩; refine ⟨_, rfl, ?_⟩; have n0_ := Aside0.mk (Kd.R_elder' (by (with_reducible repeat (first | apply Kd.R_alloc | apply Kd.R_drewN | apply Kd.R_drew)); exact HO178.out) (Kd.R_base ho0) hb); have n1_ := Aside0.mk (Kd.R_lower (Kd.R_new' ho0 (Kd.R_lt (by (with_reducible repeat (first | apply Kd.R_alloc | apply Kd.R_drewN | apply Kd.R_drew)); exact HO178.out))) (below_size (by repeat (first | (with_reducible first | exact HB.out | apply below_alloc | apply pw_below_drewN | apply below_drew1) | exact HB.out)))); have n2_ := Aside0.mk (below_step (by repeat (first | (with_reducible first | exact HB.out | apply below_alloc | apply pw_below_drewN | apply below_drew1) | exact HB.out)) hb); clear HO178; clear HB; have HO178 := n0_; have HO181 := n1_; have HB := n2_; clear n0_ n1_ n2_; (try clear hb); (try clear hb2); (try clear hk); (try clear hi); (try clear ho0); obtain ⟨Ao31, co31, eo31⟩ := Kd.R_slice HO178.out; subst eo31) | ((with_reducible refine gate_callee (f := 53) rfl ?_); refine goesL_ (some 58) rfl rfl Tryd.func53 (by kernel_rfl) rfl #[.slice Ao31 t176.length co31, .int .i64 10, .int .i64 x1_9] rfl (by (try simp only [List.map_toArray, List.map_cons, List.map_nil]); first | done | rfl | (simp only [List.length_drop, List.length_take]; rfl)) ?_; (with_reducible refine (spec_natPower.calls kj19 (fun k_ => some k_ = (.slice Ao31 t176.length co31 : Value).ownBlock) _ _ t176 10 x1_9 t182 _ ?side1 A27.out).mono ?_); (case side1 => exact Kd.R_V (Kd.R_tight rfl (HO178.out))); rintro e w32 ⟨v183, rfl, ho0, hb⟩; refine ⟨_, rfl, ?_⟩; have n0_ := Aside0.mk (Kd.R_below (by (with_reducible repeat (first | apply Kd.R_alloc | apply Kd.R_drewN | apply Kd.R_drew)); exact HO178.out) hb); have n1_ := Aside0.mk (Kd.R_below (by (with_reducible repeat (first | apply Kd.R_alloc | apply Kd.R_drewN | apply Kd.R_drew)); exact HO181.out) hb); have n2_ := Aside0.mk (Kd.V_lower (Kd.V_mono (ok' := fun k_ => some k_ ≠ (v180 : Value).ownBlock) ho0 (fun k_ hk_ => Or.elim hk_ (fun hs_ => ((HO178.out).1 k_ hs_.symm).2) (fun hn_ => (Kd.fresh' (Kd.R_lt (by (with_reducible repeat (first | apply Kd.R_alloc | apply Kd.R_drewN | apply Kd.R_drew)); exact HO181.out)) k_ hn_)))) (below_size (by repeat (first | (with_reducible first | exact HB.out | apply below_alloc | apply pw_below_drewN | apply below_drew1) | exact HB.out)))); have n3_ := Aside0.mk (below_step (by repeat (first | (with_reducible first | exact HB.out | apply below_alloc | apply pw_below_drewN | apply below_drew1) | exact HB.out)) hb); clear HO178; clear HO181; clear HB; have HO178 := n0_; have HO181 := n1_; have HO184 := n2_; have HB := n3_; clear n0_ n1_ n2_ n3_; (try clear hb); (try clear hb2); (try clear hk); (try clear hi); (try clear ho0); obtain ⟨Ao33, co33, eo33⟩ := Kd.V_slice HO184.out; subst eo33; obtain ⟨Ao34, co34, eo34⟩ := Kd.R_slice HO181.out; subst eo34) | ((with_reducible refine gate_callee (f := 48) rfl ?_); refine goesL_ (some 65) rfl rfl Tryd.func48 (by kernel_rfl) rfl #[.slice Ao33 t182.length co33, .slice Ao34 t179.length co34] rfl (by (try simp only [List.map_toArray, List.map_cons, List.map_nil]); first | done | rfl | (simp only [List.length_drop, List.length_take]; rfl)) ?_; (with_reducible refine (spec_Round.calls _ _ t182 _ _ t179 t185 _ ?side1 ?side2 ?side3 ?side4 A28.out).mono ?_); (case side1 => repeat (first | exact (Kd.V_reads' HO184.out).2.2 | (with_reducible refine Kd.C_alloc ?_ _) | (with_reducible refine Kd.C_drewN ?_ _) | (with_reducible refine Kd.C_drew ?_))); (case side2 => exact (Kd.V_reads' HO184.out).2.1); (case side3 => repeat (first | exact (Kd.R_reads' HO181.out).2.2 | (with_reducible refine Kd.C_alloc ?_ _) | (with_reducible refine Kd.C_drewN ?_ _) | (with_reducible refine Kd.C_drew ?_))); (case side4 => exact (Kd.R_reads' HO181.out).2.1); rintro e w35 ⟨rfl, hb⟩; refine ⟨_, rfl, ?_⟩; have n0_ := Aside0.mk (Kd.R_below (by (with_reducible repeat (first | apply Kd.R_alloc | apply Kd.R_drewN | apply Kd.R_drew)); exact HO178.out) hb); have n1_ := Aside0.mk (Kd.R_below (by (with_reducible repeat (first | apply Kd.R_alloc | apply Kd.R_drewN | apply Kd.R_drew)); exact HO181.out) hb); have n2_ := Aside0.mk (Kd.V_below (by (with_reducible repeat (first | apply Kd.V_alloc | apply Kd.V_drewN | apply Kd.V_drew)); exact HO184.out) hb); have n3_ := Aside0.mk (below_step (by repeat (first | (with_reducible first | exact HB.out | apply below_alloc | apply pw_below_drewN | apply below_drew1) | exact HB.out)) hb); clear HO178; clear HO181; clear HO184; clear HB; have HO178 := n0_; have HO181 := n1_; have HO184 := n2_; have HB := n3_; clear n0_ n1_ n2_ n3_; (try clear hb); (try clear hb2); (try clear hk); (try clear hi)))
                        go_ret2
                        exact ⟨by first | rfl | (simp [errW_none, errW_some] <;> rfl) | (simp [*, errW_none, errW_some] <;> rfl), by repeat (first | (with_reducible first | exact HB.out | apply below_alloc | apply pw_below_drewN | apply below_drew1) | exact HB.out)⟩
                      · rw [if_neg c26] at H
                        have c26b0 : decide (0 ≤ x1_9) = false := decide_eq_false c26
                        clear c26
                        replace H := Option.bind_eq_some_iff.mp H
                        obtain ⟨t186, A360, H⟩ := H
                        replace H : ((spec_Round.f t176 t186).bind fun t189 => (some (t189, true))) = some (r1, r2) := H
                        have A36 := Aside0.mk A360
                        clear A360
                        replace H := Option.bind_eq_some_iff.mp H
                        obtain ⟨t189, A370, H⟩ := H
                        replace H : (some (t189, true)) = some (r1, r2) := H
                        have A37 := Aside0.mk A370
                        clear A370
                        simp only [Option.some.injEq, Prod.mk.injEq] at H
                        obtain ⟨rfl, rfl⟩ := H
                        go_wp2_with (first | ((with_reducible refine gate_callee (f := 32) rfl ?_); refine goesL_ (some 52) rfl rfl Tryd.func32 (by kernel_rfl) rfl #[.string x0_9, .int .i64 10] rfl (by (try simp only [List.map_toArray, List.map_cons, List.map_nil]); first | done | rfl | (simp only [List.length_drop, List.length_take]; rfl)) ?_; (with_reducible refine (spec_Natural.calls kj19 x0_9 10 t176 _ A24.out).mono ?_); rintro e w38 ⟨v177, rfl, ho0, hb⟩; refine ⟨_, rfl, ?_⟩; have n0_ := Aside0.mk (Kd.R_lower ho0 (below_size (by repeat (first | (with_reducible first | exact HB.out | apply below_alloc | apply pw_below_drewN | apply below_drew1) | exact HB.out)))); have n1_ := Aside0.mk (below_step (by repeat (first | (with_reducible first | exact HB.out | apply below_alloc | apply pw_below_drewN | apply below_drew1) | exact HB.out)) hb); clear HB; have HO178 := n0_; have HB := n1_; clear n0_ n1_; (try clear hb); (try clear hb2); (try clear hk); (try clear hi); (try clear ho0)) | ((with_reducible refine gate_callee (f := 49) rfl ?_); refine goesL_ (some 53) rfl rfl Tryd.func49 (by kernel_rfl) rfl #[.int .i64 1] rfl (by (try simp only [List.map_toArray, List.map_cons, List.map_nil]); first | done | rfl | (simp only [List.length_drop, List.length_take]; rfl)) ?_; (with_reducible refine (spec_natSmall.calls kj19 1 t179 _ A25.out).mono ?_); rintro e w39 ⟨v180, rfl, ho0, hb⟩; refine ⟨_, rfl, ?_⟩; have n0_ := Aside0.mk (Kd.R_elder' (by (with_reducible repeat (first | apply Kd.R_alloc | apply Kd.R_drewN | apply Kd.R_drew)); exact HO178.out) (Kd.R_base ho0) hb); have n1_ := Aside0.mk (Kd.R_lower (Kd.R_new' ho0 (Kd.R_lt (by (with_reducible repeat (first | apply Kd.R_alloc | apply Kd.R_drewN | apply Kd.R_drew)); exact HO178.out))) (below_size (by repeat (first | (with_reducible first | exact HB.out | apply below_alloc | apply pw_below_drewN | apply below_drew1) | exact HB.out)))); have n2_ := Aside0.mk (below_step (by repeat (first | (with_reducible first | exact HB.out | apply below_alloc | apply pw_below_drewN | apply below_drew1) | exact HB.out)) hb); clear HO178; clear HB; have HO178 := n0_; have HO181 := n1_; have HB := n2_; clear n0_ n1_ n2_; (try clear hb); (try clear hb2); (try clear hk); (try clear hi); (try clear ho0); obtain ⟨Ao40, co40, eo40⟩ := Kd.R_slice HO181.out; subst eo40) | ((with_reducible refine gate_callee (f := 53) rfl ?_); refine goesL_ (some 62) rfl rfl Tryd.func53 (by kernel_rfl) rfl #[.slice Ao40 t179.length co40, .int .i64 10, .int .i64 (wrap64 (-x1_9))] rfl (by (try simp only [List.map_toArray, List.map_cons, List.map_nil]); first | done | rfl | (simp only [List.length_drop, List.length_take]; rfl)) ?_; (with_reducible refine (spec_natPower.calls kj19 (fun k_ => some k_ = (.slice Ao40 t179.length co40 : Value).ownBlock) _ _ t179 10 (wrap64 (-x1_9)) t186 _ ?side1 A36.out).mono ?_); (case side1 => exact Kd.R_V (Kd.R_tight rfl (HO181.out))); rintro e w41 ⟨v187, rfl, ho0, hb⟩; refine ⟨_, rfl, ?_⟩; have n0_ := Aside0.mk (Kd.R_below (by (with_reducible repeat (first | apply Kd.R_alloc | apply Kd.R_drewN | apply Kd.R_drew)); exact HO178.out) hb); have n1_ := Aside0.mk (Kd.R_below (by (with_reducible repeat (first | apply Kd.R_alloc | apply Kd.R_drewN | apply Kd.R_drew)); exact HO181.out) hb); have n2_ := Aside0.mk (Kd.V_lower (Kd.V_mono (ok' := fun k_ => some k_ ≠ (v177 : Value).ownBlock) ho0 (fun k_ hk_ => Or.elim hk_ (fun hs_ => ((HO181.out).1 k_ hs_.symm).2) (fun hn_ => (Kd.fresh' (Kd.R_lt (by (with_reducible repeat (first | apply Kd.R_alloc | apply Kd.R_drewN | apply Kd.R_drew)); exact HO178.out)) k_ hn_)))) (below_size (by repeat (first | (with_reducible first | exact HB.out | apply below_alloc | apply pw_below_drewN | apply below_drew1) | exact HB.out)))); have n3_ := Aside0.mk (below_step (by repeat (first | (with_reducible first | exact HB.out | apply below_alloc | apply pw_below_drewN | apply below_drew1) | exact HB.out)) hb); clear HO178; clear HO181; clear HB; have HO178 := n0_; have HO181 := n1_; have HO188 := n2_; have HB := n3_; clear n0_ n1_ n2_ n3_; (try clear hb); (try clear hb2); (try clear hk); (try clear hi); (try clear ho0); obtain ⟨Ao42, co42, eo42⟩ := Kd.R_slice HO178.out; subst eo42; obtain ⟨Ao43, co43, eo43⟩ := Kd.V_slice HO188.out; subst eo43) | ((with_reducible refine gate_callee (f := 48) rfl ?_); refine goesL_ (some 65) rfl rfl Tryd.func48 (by kernel_rfl) rfl #[.slice Ao42 t176.length co42, .slice Ao43 t186.length co43] rfl (by (try simp only [List.map_toArray, List.map_cons, List.map_nil]); first | done | rfl | (simp only [List.length_drop, List.length_take]; rfl)) ?_; (with_reducible refine (spec_Round.calls _ _ t176 _ _ t186 t189 _ ?side1 ?side2 ?side3 ?side4 A37.out).mono ?_); (case side1 => repeat (first | exact (Kd.R_reads' HO178.out).2.2 | (with_reducible refine Kd.C_alloc ?_ _) | (with_reducible refine Kd.C_drewN ?_ _) | (with_reducible refine Kd.C_drew ?_))); (case side2 => exact (Kd.R_reads' HO178.out).2.1); (case side3 => repeat (first | exact (Kd.V_reads' HO188.out).2.2 | (with_reducible refine Kd.C_alloc ?_ _) | (with_reducible refine Kd.C_drewN ?_ _) | (with_reducible refine Kd.C_drew ?_))); (case side4 => exact (Kd.V_reads' HO188.out).2.1); rintro e w44 ⟨rfl, hb⟩; refine ⟨_, rfl, ?_⟩; have n0_ := Aside0.mk (Kd.R_below (by (with_reducible repeat (first | apply Kd.R_alloc | apply Kd.R_drewN | apply Kd.R_drew)); exact HO178.out) hb); have n1_ := Aside0.mk (Kd.R_below (by (with_reducible repeat (first | apply Kd.R_alloc | apply Kd.R_drewN | apply Kd.R_drew)); exact HO181.out) hb); have n2_ := Aside0.mk (Kd.V_below (by (with_reducible repeat (first | apply Kd.V_alloc | apply Kd.V_drewN | apply Kd.V_drew)); exact HO188.out) hb); have n3_ := Aside0.mk (below_step (by repeat (first | (with_reducible first | exact HB.out | apply below_alloc | apply pw_below_drewN | apply below_drew1) | exact HB.out)) hb); clear HO178; clear HO181; clear HO188; clear HB; have HO178 := n0_; have HO181 := n1_; have HO188 := n2_; have HB := n3_; clear n0_ n1_ n2_ n3_; (try clear hb); (try clear hb2); (try clear hk); (try clear hi)))
                        go_ret2
                        exact ⟨by first | rfl | (simp [errW_none, errW_some] <;> rfl) | (simp [*, errW_none, errW_some] <;> rfl), by repeat (first | (with_reducible first | exact HB.out | apply below_alloc | apply pw_below_drewN | apply below_drew1) | exact HB.out)⟩

-- NOT PRINTED: function 15 (spec_StringToNumber)

/-! ### spec_Unit: function 37 -/
def spec_Unit.f (k : Nat) (a0 : Int) : Option (ByteArray) := (spec_bytesOf.f k (([Go.bits .and .i64 (a0 / 256) 255, Go.bits .and .i64 a0 255] : List Int))).bind fun t193 => (some t193)
theorem spec_Unit.mono : ∀ a0 k, LeO (spec_Unit.f k a0) (spec_Unit.f (k + 1) a0) := by
  intro a0 k
  unfold spec_Unit.f
  repeat' first
      | (with_reducible exact spec_bytesOf.mono _ _)
      | (with_reducible exact LeO.refl _)
      | (with_reducible exact LeO.none _)
      | (with_reducible refine LeO.ite ?_ ?_)
      | (with_reducible refine LeO.bind ?_ (fun _ => ?_))
      | exact spec_bytesOf.mono _ _
      | exact LeO.none _
      | refine LeO.ite ?_ ?_
      | refine LeO.bind ?_ (fun _ => ?_)
set_option maxHeartbeats 8000000 in
set_option maxRecDepth 100000 in
theorem spec_Unit.calls (k : Nat) (a0 : Int) (r : ByteArray) (w : World) (h : spec_Unit.f k a0 = some r) :
    Calls Tryd.prog 37 #[.int .i64 a0] w fun e w' => e = .returned (.string r) ∧ Below w.heap.size w w' := by
  have HB := Aside0.mk (Below.refl w.heap.size w)
  have H : ((spec_bytesOf.f k (([Go.bits .and .i64 (a0 / 256) 255, Go.bits .and .i64 a0 255] : List Int))).bind fun t193 => (some t193)) = some r := h
  clear h
  obtain ⟨y190, hy190⟩ : ∃ y_ : List Int, y_ = (([Go.bits .and .i64 (a0 / 256) 255, Go.bits .and .i64 a0 255] : List Int)) := ⟨_, rfl⟩
  replace H : ((spec_bytesOf.f k y190).bind fun t193 => (some t193)) = some r := by first | (rw [hy190]; with_reducible exact H) | (have H2_ := (Option.bind_some _ _).symm.trans H; rw [hy190]; with_reducible exact H2_) | (have H2_ := (Option.bind_some _ _).symm.trans H; with_reducible exact H2_) | with_reducible exact H | (rw [hy190]; exact H) | exact H
  have Ny190 := Aside0.mk hy190
  clear hy190
  replace H := Option.bind_eq_some_iff.mp H
  obtain ⟨t193, A20, H⟩ := H
  replace H : (some t193) = some r := H
  have A2 := Aside0.mk A20
  clear A20
  obtain rfl := Option.some.inj H
  go_enter Tryd.func37, Tryd.ntmps37
  go_wp2_with (first | ((with_reducible refine gate_dst (N := 8) rfl ?_); refine Kd.R_lit (Kd.int .i64) _ 3 ?hg (N := 8) ?hd (xs := ([Go.bits .and .i64 (a0 / 256) 255, Go.bits .and .i64 a0 255] : List Int)) (inner := [.int .i64 (Go.bits .and .i64 (a0 / 256) 255), .int .i64 (Go.bits .and .i64 a0 255)]) (ok := fun _ => True) (okp := fun _ => True) ?hr ?hp (fun _ hk => hk) trivial (Below.refl _ _) (Nat.le_refl _) (by simp) ?_; (case hd => rfl); (case hg => rfl); (case hr => first | (go_simp; done) | (go_simp; rfl)); (case hp => exact (Reps.one (show Kd.M (Kd.int .i64) _ _ _ (Go.bits .and .i64 (a0 / 256) 255) [.int .i64 (Go.bits .and .i64 (a0 / 256) 255)] from rfl) (Reps.one (show Kd.M (Kd.int .i64) _ _ _ (Go.bits .and .i64 a0 255) [.int .i64 (Go.bits .and .i64 a0 255)] from rfl) (Reps.none _ _)))); intro v191 w3 ho4 hb hg_ hnew_; clear hg_ hnew_; (first | rw [← Ny190.out] at ho4 | (simp only [Int.reduceToNat] at ho4; rw [← Ny190.out] at ho4)); have n0_ := Aside0.mk (Kd.R_lower ho4 (below_size (by repeat (first | (with_reducible first | exact HB.out | apply below_alloc | apply pw_below_drewN | apply below_drew1) | exact HB.out)))); have n1_ := Aside0.mk (below_step (by repeat (first | (with_reducible first | exact HB.out | apply below_alloc | apply pw_below_drewN | apply below_drew1) | exact HB.out)) hb); clear HB; have HO192 := n0_; have HB := n1_; clear n0_ n1_; clear hb ho4; obtain ⟨Ao5, co5, eo5⟩ := Kd.R_slice HO192.out; subst eo5) | ((with_reducible refine gate_callee (f := 46) rfl ?_); refine goesL_ (some 9) rfl rfl Tryd.func46 (by kernel_rfl) rfl #[.slice Ao5 y190.length co5] rfl (by (try simp only [List.map_toArray, List.map_cons, List.map_nil]); first | done | rfl | (simp only [List.length_drop, List.length_take]; rfl)) ?_; (with_reducible refine (spec_bytesOf.calls k _ _ y190 t193 _ ?side1 ?side2 A2.out).mono ?_); (case side1 => repeat (first | exact (Kd.R_reads' HO192.out).2.2 | (with_reducible refine Kd.C_alloc ?_ _) | (with_reducible refine Kd.C_drewN ?_ _) | (with_reducible refine Kd.C_drew ?_))); (case side2 => exact (Kd.R_reads' HO192.out).2.1); rintro e w6 ⟨rfl, hb⟩; refine ⟨_, rfl, ?_⟩; have n0_ := Aside0.mk (Kd.R_below (by (with_reducible repeat (first | apply Kd.R_alloc | apply Kd.R_drewN | apply Kd.R_drew)); exact HO192.out) hb); have n1_ := Aside0.mk (below_step (by repeat (first | (with_reducible first | exact HB.out | apply below_alloc | apply pw_below_drewN | apply below_drew1) | exact HB.out)) hb); clear HO192; clear HB; have HO192 := n0_; have HB := n1_; clear n0_ n1_; (try clear hb); (try clear hb2); (try clear hk); (try clear hi)))
  go_ret
  exact ⟨by first | rfl | (simp [errW_none, errW_some] <;> rfl) | (simp [*, errW_none, errW_some] <;> rfl), by repeat (first | (with_reducible first | exact HB.out | apply below_alloc | apply pw_below_drewN | apply below_drew1) | exact HB.out)⟩

end Go.Proofs.YtheichpmhfledaaDoor.PFnNumberBack
