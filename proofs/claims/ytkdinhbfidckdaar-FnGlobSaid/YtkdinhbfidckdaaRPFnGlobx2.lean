-- Written by printx.py of this session, over the kit's print, with contracts of this session for some functions
import Derived.Test.YtkdinhbfidckdaaRPFnGlobx0
namespace Go.Proofs.YtkdinhbfidckdaaR.PFnGlob
open Go.RowKit Go.Proofs.YtkdinhbfidckdaaRW.PrintWords Go.Proofs.YtkdinhbfidckdaaRW.PrintLast Go.Proofs.YtkdinhbfidckdaaRW.PrintMore
attribute [local go_sem] max2_int min2_int max_two min_two max_three min_three max_four min_four   -- for this text's walks alone
set_option linter.unusedVariables false
set_option linter.unusedSimpArgs false

/-! ### helpers_ParseGlobPattern: function 40 -/
mutual
def helpers_ParseGlobPattern.l0 : Nat → ByteArray → List (S71) → Option ((List (S71)))
  | 0, _, _ => none
  | k + 1, x0, x2 => (strings_IndexByte.f x0 42).bind fun t101 => (if t101 < 0 then (if x2.length < 5864062014805 then (some (x2 ++ [(⟨x0, 0⟩ : S71)])) else (none)) else (helpers_ParseGlobPattern.l1 k x0 x2 t101 1))
def helpers_ParseGlobPattern.l1 : Nat → ByteArray → List (S71) → Int → Int → Option ((List (S71)))
  | 0, _, _, _, _ => none
  | k + 1, x0, x2, x3, x4 => if (wrap64 (x3 + x4)) < (x0.size : Int) then (if 0 ≤ (wrap64 (x3 + x4)) then (if (bt x0 (wrap64 (x3 + x4))) = 42 then (helpers_ParseGlobPattern.l1 k x0 x2 x3 (wrap64 (x4 + 1))) else (if x4 > 1 then (if x3 = 0 then (if (wrap64 (x3 + x4)) = (x0.size : Int) then (if 0 ≤ x3 then (if x3 ≤ (x0.size : Int) then (if x2.length < 5864062014805 then (if (wrap64 (x3 + x4)) ≤ (x0.size : Int) then (helpers_ParseGlobPattern.l0 k (x0.extract ((wrap64 (x3 + x4)) : Int).toNat x0.size) (x2 ++ [(⟨x0.extract 0 (x3 : Int).toNat, 2⟩ : S71)])) else (none)) else (none)) else (none)) else (none)) else (if (bt x0 (wrap64 (x3 + x4))) = 47 then (if 0 ≤ x3 then (if x3 ≤ (x0.size : Int) then (if x2.length < 5864062014805 then (if (wrap64 (x3 + x4)) ≤ (x0.size : Int) then (helpers_ParseGlobPattern.l0 k (x0.extract ((wrap64 (x3 + x4)) : Int).toNat x0.size) (x2 ++ [(⟨x0.extract 0 (x3 : Int).toNat, 2⟩ : S71)])) else (none)) else (none)) else (none)) else (none)) else (if (bt x0 (wrap64 (x3 + x4))) = 92 then (if 0 ≤ x3 then (if x3 ≤ (x0.size : Int) then (if x2.length < 5864062014805 then (if (wrap64 (x3 + x4)) ≤ (x0.size : Int) then (helpers_ParseGlobPattern.l0 k (x0.extract ((wrap64 (x3 + x4)) : Int).toNat x0.size) (x2 ++ [(⟨x0.extract 0 (x3 : Int).toNat, 2⟩ : S71)])) else (none)) else (none)) else (none)) else (none)) else (if 0 ≤ x3 then (if x3 ≤ (x0.size : Int) then (if x2.length < 5864062014805 then (if (wrap64 (x3 + x4)) ≤ (x0.size : Int) then (helpers_ParseGlobPattern.l0 k (x0.extract ((wrap64 (x3 + x4)) : Int).toNat x0.size) (x2 ++ [(⟨x0.extract 0 (x3 : Int).toNat, 1⟩ : S71)])) else (none)) else (none)) else (none)) else (none))))) else (if 0 ≤ (wrap64 (x3 - 1)) then (if (wrap64 (x3 - 1)) < (x0.size : Int) then (if (bt x0 (wrap64 (x3 - 1))) = 47 then (if (wrap64 (x3 + x4)) = (x0.size : Int) then (if 0 ≤ x3 then (if x3 ≤ (x0.size : Int) then (if x2.length < 5864062014805 then (if (wrap64 (x3 + x4)) ≤ (x0.size : Int) then (helpers_ParseGlobPattern.l0 k (x0.extract ((wrap64 (x3 + x4)) : Int).toNat x0.size) (x2 ++ [(⟨x0.extract 0 (x3 : Int).toNat, 2⟩ : S71)])) else (none)) else (none)) else (none)) else (none)) else (if (bt x0 (wrap64 (x3 + x4))) = 47 then (if 0 ≤ x3 then (if x3 ≤ (x0.size : Int) then (if x2.length < 5864062014805 then (if (wrap64 (x3 + x4)) ≤ (x0.size : Int) then (helpers_ParseGlobPattern.l0 k (x0.extract ((wrap64 (x3 + x4)) : Int).toNat x0.size) (x2 ++ [(⟨x0.extract 0 (x3 : Int).toNat, 2⟩ : S71)])) else (none)) else (none)) else (none)) else (none)) else (if (bt x0 (wrap64 (x3 + x4))) = 92 then (if 0 ≤ x3 then (if x3 ≤ (x0.size : Int) then (if x2.length < 5864062014805 then (if (wrap64 (x3 + x4)) ≤ (x0.size : Int) then (helpers_ParseGlobPattern.l0 k (x0.extract ((wrap64 (x3 + x4)) : Int).toNat x0.size) (x2 ++ [(⟨x0.extract 0 (x3 : Int).toNat, 2⟩ : S71)])) else (none)) else (none)) else (none)) else (none)) else (if 0 ≤ x3 then (if x3 ≤ (x0.size : Int) then (if x2.length < 5864062014805 then (if (wrap64 (x3 + x4)) ≤ (x0.size : Int) then (helpers_ParseGlobPattern.l0 k (x0.extract ((wrap64 (x3 + x4)) : Int).toNat x0.size) (x2 ++ [(⟨x0.extract 0 (x3 : Int).toNat, 1⟩ : S71)])) else (none)) else (none)) else (none)) else (none))))) else (if (bt x0 (wrap64 (x3 - 1))) = 92 then (if (wrap64 (x3 + x4)) = (x0.size : Int) then (if 0 ≤ x3 then (if x3 ≤ (x0.size : Int) then (if x2.length < 5864062014805 then (if (wrap64 (x3 + x4)) ≤ (x0.size : Int) then (helpers_ParseGlobPattern.l0 k (x0.extract ((wrap64 (x3 + x4)) : Int).toNat x0.size) (x2 ++ [(⟨x0.extract 0 (x3 : Int).toNat, 2⟩ : S71)])) else (none)) else (none)) else (none)) else (none)) else (if (bt x0 (wrap64 (x3 + x4))) = 47 then (if 0 ≤ x3 then (if x3 ≤ (x0.size : Int) then (if x2.length < 5864062014805 then (if (wrap64 (x3 + x4)) ≤ (x0.size : Int) then (helpers_ParseGlobPattern.l0 k (x0.extract ((wrap64 (x3 + x4)) : Int).toNat x0.size) (x2 ++ [(⟨x0.extract 0 (x3 : Int).toNat, 2⟩ : S71)])) else (none)) else (none)) else (none)) else (none)) else (if (bt x0 (wrap64 (x3 + x4))) = 92 then (if 0 ≤ x3 then (if x3 ≤ (x0.size : Int) then (if x2.length < 5864062014805 then (if (wrap64 (x3 + x4)) ≤ (x0.size : Int) then (helpers_ParseGlobPattern.l0 k (x0.extract ((wrap64 (x3 + x4)) : Int).toNat x0.size) (x2 ++ [(⟨x0.extract 0 (x3 : Int).toNat, 2⟩ : S71)])) else (none)) else (none)) else (none)) else (none)) else (if 0 ≤ x3 then (if x3 ≤ (x0.size : Int) then (if x2.length < 5864062014805 then (if (wrap64 (x3 + x4)) ≤ (x0.size : Int) then (helpers_ParseGlobPattern.l0 k (x0.extract ((wrap64 (x3 + x4)) : Int).toNat x0.size) (x2 ++ [(⟨x0.extract 0 (x3 : Int).toNat, 1⟩ : S71)])) else (none)) else (none)) else (none)) else (none))))) else (if 0 ≤ x3 then (if x3 ≤ (x0.size : Int) then (if x2.length < 5864062014805 then (if (wrap64 (x3 + x4)) ≤ (x0.size : Int) then (helpers_ParseGlobPattern.l0 k (x0.extract ((wrap64 (x3 + x4)) : Int).toNat x0.size) (x2 ++ [(⟨x0.extract 0 (x3 : Int).toNat, 1⟩ : S71)])) else (none)) else (none)) else (none)) else (none)))) else (none)) else (none))) else (if 0 ≤ x3 then (if x3 ≤ (x0.size : Int) then (if x2.length < 5864062014805 then (if (wrap64 (x3 + x4)) ≤ (x0.size : Int) then (helpers_ParseGlobPattern.l0 k (x0.extract ((wrap64 (x3 + x4)) : Int).toNat x0.size) (x2 ++ [(⟨x0.extract 0 (x3 : Int).toNat, 1⟩ : S71)])) else (none)) else (none)) else (none)) else (none)))) else (none)) else (if x4 > 1 then (if x3 = 0 then (if (wrap64 (x3 + x4)) = (x0.size : Int) then (if 0 ≤ x3 then (if x3 ≤ (x0.size : Int) then (if x2.length < 5864062014805 then (if 0 ≤ (wrap64 (x3 + x4)) then (if (wrap64 (x3 + x4)) ≤ (x0.size : Int) then (helpers_ParseGlobPattern.l0 k (x0.extract ((wrap64 (x3 + x4)) : Int).toNat x0.size) (x2 ++ [(⟨x0.extract 0 (x3 : Int).toNat, 2⟩ : S71)])) else (none)) else (none)) else (none)) else (none)) else (none)) else (if 0 ≤ (wrap64 (x3 + x4)) then (none) else (none))) else (if 0 ≤ (wrap64 (x3 - 1)) then (if (wrap64 (x3 - 1)) < (x0.size : Int) then (if (bt x0 (wrap64 (x3 - 1))) = 47 then (if (wrap64 (x3 + x4)) = (x0.size : Int) then (if 0 ≤ x3 then (if x3 ≤ (x0.size : Int) then (if x2.length < 5864062014805 then (if 0 ≤ (wrap64 (x3 + x4)) then (if (wrap64 (x3 + x4)) ≤ (x0.size : Int) then (helpers_ParseGlobPattern.l0 k (x0.extract ((wrap64 (x3 + x4)) : Int).toNat x0.size) (x2 ++ [(⟨x0.extract 0 (x3 : Int).toNat, 2⟩ : S71)])) else (none)) else (none)) else (none)) else (none)) else (none)) else (if 0 ≤ (wrap64 (x3 + x4)) then (none) else (none))) else (if (bt x0 (wrap64 (x3 - 1))) = 92 then (if (wrap64 (x3 + x4)) = (x0.size : Int) then (if 0 ≤ x3 then (if x3 ≤ (x0.size : Int) then (if x2.length < 5864062014805 then (if 0 ≤ (wrap64 (x3 + x4)) then (if (wrap64 (x3 + x4)) ≤ (x0.size : Int) then (helpers_ParseGlobPattern.l0 k (x0.extract ((wrap64 (x3 + x4)) : Int).toNat x0.size) (x2 ++ [(⟨x0.extract 0 (x3 : Int).toNat, 2⟩ : S71)])) else (none)) else (none)) else (none)) else (none)) else (none)) else (if 0 ≤ (wrap64 (x3 + x4)) then (none) else (none))) else (if 0 ≤ x3 then (if x3 ≤ (x0.size : Int) then (if x2.length < 5864062014805 then (if 0 ≤ (wrap64 (x3 + x4)) then (if (wrap64 (x3 + x4)) ≤ (x0.size : Int) then (helpers_ParseGlobPattern.l0 k (x0.extract ((wrap64 (x3 + x4)) : Int).toNat x0.size) (x2 ++ [(⟨x0.extract 0 (x3 : Int).toNat, 1⟩ : S71)])) else (none)) else (none)) else (none)) else (none)) else (none)))) else (none)) else (none))) else (if 0 ≤ x3 then (if x3 ≤ (x0.size : Int) then (if x2.length < 5864062014805 then (if 0 ≤ (wrap64 (x3 + x4)) then (if (wrap64 (x3 + x4)) ≤ (x0.size : Int) then (helpers_ParseGlobPattern.l0 k (x0.extract ((wrap64 (x3 + x4)) : Int).toNat x0.size) (x2 ++ [(⟨x0.extract 0 (x3 : Int).toNat, 1⟩ : S71)])) else (none)) else (none)) else (none)) else (none)) else (none)))
end
def helpers_ParseGlobPattern.f (k : Nat) (a0 : ByteArray) : Option ((List (S71))) := helpers_ParseGlobPattern.l0 k a0 ([] : List (S71))
theorem helpers_ParseGlobPattern.mono_l : ∀ k, (∀ y0 y1, LeO (helpers_ParseGlobPattern.l0 k y0 y1) (helpers_ParseGlobPattern.l0 (k + 1) y0 y1)) ∧ (∀ y0 y1 y2 y3, LeO (helpers_ParseGlobPattern.l1 k y0 y1 y2 y3) (helpers_ParseGlobPattern.l1 (k + 1) y0 y1 y2 y3))
  | 0 => ⟨fun _ _ r h => by simp [helpers_ParseGlobPattern.l0] at h, fun _ _ _ _ r h => by simp [helpers_ParseGlobPattern.l1] at h⟩
  | k + 1 => by
    obtain ⟨ih0, ih1⟩ := helpers_ParseGlobPattern.mono_l k
    refine ⟨?_, ?_⟩
    · intro y0 y1
      unfold helpers_ParseGlobPattern.l0
      repeat' first
      | (with_reducible exact ih0 _ _)
      | (with_reducible exact ih1 _ _ _ _)
      | (with_reducible exact LeO.refl _)
      | (with_reducible exact LeO.none _)
      | (with_reducible refine LeO.ite ?_ ?_)
      | (with_reducible refine LeO.bind ?_ (fun _ => ?_))
      | exact ih0 _ _
      | exact ih1 _ _ _ _
      | exact LeO.none _
      | refine LeO.ite ?_ ?_
      | refine LeO.bind ?_ (fun _ => ?_)
    · intro y0 y1 y2 y3
      unfold helpers_ParseGlobPattern.l1
      repeat' first
      | (with_reducible exact ih0 _ _)
      | (with_reducible exact ih1 _ _ _ _)
      | (with_reducible exact LeO.refl _)
      | (with_reducible exact LeO.none _)
      | (with_reducible refine LeO.ite ?_ ?_)
      | (with_reducible refine LeO.bind ?_ (fun _ => ?_))
      | exact ih0 _ _
      | exact ih1 _ _ _ _
      | exact LeO.none _
      | refine LeO.ite ?_ ?_
      | refine LeO.bind ?_ (fun _ => ?_)
theorem helpers_ParseGlobPattern.mono : ∀ a0 k, LeO (helpers_ParseGlobPattern.f k a0) (helpers_ParseGlobPattern.f (k + 1) a0) := by
  intro a0 k
  obtain ⟨ih0, ih1⟩ := helpers_ParseGlobPattern.mono_l k
  unfold helpers_ParseGlobPattern.f
  repeat' first
      | (with_reducible exact ih0 _ _)
      | (with_reducible exact ih1 _ _ _ _)
      | (with_reducible exact LeO.refl _)
      | (with_reducible exact LeO.none _)
      | (with_reducible refine LeO.ite ?_ ?_)
      | (with_reducible refine LeO.bind ?_ (fun _ => ?_))
      | exact ih0 _ _
      | exact ih1 _ _ _ _
      | exact LeO.none _
      | refine LeO.ite ?_ ?_
      | refine LeO.bind ?_ (fun _ => ?_)
set_option maxHeartbeats 8000000 in
set_option maxRecDepth 100000 in
theorem helpers_ParseGlobPattern.calls (k : Nat) (a0 : ByteArray) (r : List (S71)) (w : World) (h : helpers_ParseGlobPattern.f k a0 = some r) :
    Calls Try.prog 40 #[.string a0] w fun e w' => ∃ v0_ : Value, e = .returned (v0_) ∧ Kd.R k71 71 w' w.heap.size (fun _ => True) v0_ r ∧ Below w.heap.size w w' := by
  have hu71 := Try.underlying71
  have HB := Aside0.mk (Below.refl w.heap.size w)
  have H : (helpers_ParseGlobPattern.l0 k a0 ([] : List (S71))) = some r := h
  clear h
  have H' := Aside0.mk H
  clear H
  go_enter Try.func40, Try.ntmps40
  go_wp2
  go_loopg [0, 2] k (fun kq v0 v2 w' => ∃ (x0_1 : ByteArray) (x2_1 : List (S71)), v0 = .string x0_1 ∧ Aside0 (helpers_ParseGlobPattern.l0 kq x0_1 x2_1 = some r) ∧ Aside0 (kq ≤ k) ∧ Aside0 (Kd.R k71 71 w' w.heap.size (fun _ => True) v2 x2_1) ∧ Aside0 (Below w.heap.size w w'))
  case atStart => exact ⟨(a0), (([] : List (S71))), (by first | rfl | (simp; done) | (simp [*]; done)), H', ⟨Nat.le_refl _⟩, ⟨by first | exact Kd.R_nil _ _ _ _ _ | exact Kd.N_nil _ _ _ _ _ | exact Kd.V_nil _ _ _ _ _ | exact Kd.Q_nil _ _ _ _ _ | exact Kd.S_nil _ _ _ _ _⟩, ⟨by repeat (first | (with_reducible first | exact HB.out | apply below_alloc | apply pw_below_drewN | apply below_drew1) | exact HB.out)⟩⟩
  case round =>
    clear H'
    obtain ⟨x0_1, x2_1, rfl, HA, HK1, HO_2, HB⟩ := hrel
    cases gk with
    | zero => exact absurd HA.out (by simp [helpers_ParseGlobPattern.l0])
    | succ k1 =>
      have H := HA.out
      clear HA
      simp only [helpers_ParseGlobPattern.l0] at H
      replace H := Option.bind_eq_some_iff.mp H
      obtain ⟨t101, A20, H⟩ := H
      replace H : (if t101 < 0 then (if x2_1.length < 5864062014805 then (some (x2_1 ++ [(⟨x0_1, 0⟩ : S71)])) else (none)) else (helpers_ParseGlobPattern.l1 k1 x0_1 x2_1 t101 1)) = some r := H
      have A2 := Aside0.mk A20
      clear A20
      by_cases c3 : t101 < 0
      · rw [if_pos c3] at H
        have c3b0 : decide (t101 < 0) = true := decide_eq_true c3
        clear c3
        by_cases c4 : x2_1.length < 5864062014805
        · rw [if_pos c4] at H
          have LMc4 := Aside0.mk c4
          clear c4
          obtain ⟨y102, hy102⟩ : ∃ y_ : List (S71), y_ = (x2_1 ++ [(⟨x0_1, 0⟩ : S71)]) := ⟨_, rfl⟩
          replace H : (some y102) = some r := by first | (rw [hy102]; with_reducible exact H) | (have H2_ := (Option.bind_some _ _).symm.trans H; rw [hy102]; with_reducible exact H2_) | (have H2_ := (Option.bind_some _ _).symm.trans H; with_reducible exact H2_) | with_reducible exact H | (rw [hy102]; exact H) | exact H
          have Ny102 := Aside0.mk hy102
          clear hy102
          obtain rfl := Option.some.inj H
          go_wp2_with (first | ((with_reducible refine gate_callee (f := 54) rfl ?_); refine goesL_ (some 7) rfl rfl Try.func54 (by kernel_rfl) rfl #[.string x0_1, .int .u8 42] rfl (by (try simp only [List.map_toArray, List.map_cons, List.map_nil]); first | done | rfl | (simp only [List.length_drop, List.length_take]; rfl)) ?_; (with_reducible refine (strings_IndexByte.calls x0_1 42 t101 _ A2.out).mono ?_); rintro e w' ⟨rfl, ⟨nd, rfl⟩⟩; refine ⟨_, rfl, ?_⟩) | ((with_reducible refine gate_builtin (b := .append) (xs := #[.tmp 10, .tmp 13]) rfl ?_); (try (refine gate_guard (by rfl) ?_; dsimp only)); at_builtin; refine Kd.R_append k71 (w0 := w) w.heap.size rfl (.tmp 10) (.tmp 13) 67 71 (.agg #[(.string ⟨#[]⟩), (.int .u8 0)]) 24 rfl Try.underlying67 info71 rfl (by decide) (by omega) u2 x2_1 (⟨x0_1, 0⟩ : S71) [.string x0_1, .int .u8 0] (fun _ => True) (fun _ => False) rfl rfl ?aP (fun _ hk => hk.elim) ?aF ?aO ?aB ?aS ?aL ?_; (case aP => exact k71_mkM _ _ _ (⟨x0_1, 0⟩ : S71)); (case aB => exact (by repeat (first | (with_reducible first | exact HB.out | apply below_alloc | apply pw_below_drewN | apply below_drew1) | exact HB.out))); (case aF => exact (fun _ _ => trivial)); (case aO => exact (by (with_reducible repeat (first | apply Kd.R_alloc | apply Kd.R_drewN | apply Kd.R_drew)); exact HO_2.out)); (case aS => exact (below_size (by repeat (first | (with_reducible first | exact HB.out | apply below_alloc | apply pw_below_drewN | apply below_drew1) | exact HB.out)))); (case aL => have := LMc4.out; omega); intro v103 w5 ho hb hg hat; rw [← Ny102.out] at ho; have n0_ := Aside0.mk (hb); have n1_ := Aside0.mk (ho); clear HB; clear HO_2; have HB := n0_; have HO104 := n1_; clear n0_ n1_; clear ho hb hg hat))
          go_ret
          exact ⟨_, by first | rfl | (simp [errW_none, errW_some] <;> rfl) | (simp [*, errW_none, errW_some] <;> rfl), by (with_reducible repeat (first | apply Kd.R_alloc | apply Kd.R_drewN | apply Kd.R_drew)); exact HO104.out, by repeat (first | (with_reducible first | exact HB.out | apply below_alloc | apply pw_below_drewN | apply below_drew1) | exact HB.out)⟩
        · rw [if_neg c4] at H
          exact absurd H (by simp)
      · rw [if_neg c3] at H
        have c3b0 : decide (t101 < 0) = false := decide_eq_false c3
        clear c3
        have H' := Aside0.mk H
        clear H
        go_wp2_with (first | ((with_reducible refine gate_callee (f := 54) rfl ?_); refine goesL_ (some 7) rfl rfl Try.func54 (by kernel_rfl) rfl #[.string x0_1, .int .u8 42] rfl (by (try simp only [List.map_toArray, List.map_cons, List.map_nil]); first | done | rfl | (simp only [List.length_drop, List.length_take]; rfl)) ?_; (with_reducible refine (strings_IndexByte.calls x0_1 42 t101 _ A2.out).mono ?_); rintro e w' ⟨rfl, ⟨nd, rfl⟩⟩; refine ⟨_, rfl, ?_⟩))
        go_loopg [4] k1 (fun kq v4 w' => ∃ (x4_2 : Int), v4 = .int .i64 x4_2 ∧ Aside0 (helpers_ParseGlobPattern.l1 kq x0_1 x2_1 t101 x4_2 = some r) ∧ Aside0 (kq ≤ k1) ∧ Aside0 (Kd.R k71 71 w' w.heap.size (fun _ => True) u2 x2_1) ∧ Aside0 (Below w.heap.size w w'))
        case atStart => exact ⟨(1), (by first | rfl | (simp; done) | (simp [*]; done)), H', ⟨Nat.le_refl _⟩, ⟨by (with_reducible repeat (first | apply Kd.R_alloc | apply Kd.R_drewN | apply Kd.R_drew)); exact HO_2.out⟩, ⟨by repeat (first | (with_reducible first | exact HB.out | apply below_alloc | apply pw_below_drewN | apply below_drew1) | exact HB.out)⟩⟩
        case round =>
          clear H'
          try clear p2
          try clear c3
          try clear c3b0
          try clear c4
          try clear c5
          obtain ⟨x4_2, rfl, HA, HK2, HO_2, HB⟩ := hrel
          cases gk with
          | zero => exact absurd HA.out (by simp [helpers_ParseGlobPattern.l1])
          | succ k2 =>
            have H := HA.out
            clear HA
            simp only [helpers_ParseGlobPattern.l1] at H
            by_cases c6 : (wrap64 (t101 + x4_2)) < (x0_1.size : Int)
            · rw [if_pos c6] at H
              have c6b0 : decide ((wrap64 (t101 + x4_2)) < (x0_1.size : Int)) = true := decide_eq_true c6
              clear c6
              obtain ⟨ji7, hji7⟩ : ∃ j_ : Int, (wrap64 (t101 + x4_2)) = j_ := ⟨_, rfl⟩
              replace H : (if 0 ≤ (ji7) then (if (bt x0_1 (ji7)) = 42 then (helpers_ParseGlobPattern.l1 k2 x0_1 x2_1 t101 (wrap64 (x4_2 + 1))) else (if x4_2 > 1 then (if t101 = 0 then (if (ji7) = (x0_1.size : Int) then (if 0 ≤ t101 then (if t101 ≤ (x0_1.size : Int) then (if x2_1.length < 5864062014805 then (if (ji7) ≤ (x0_1.size : Int) then (helpers_ParseGlobPattern.l0 k2 (x0_1.extract ((ji7) : Int).toNat x0_1.size) (x2_1 ++ [(⟨x0_1.extract 0 (t101 : Int).toNat, 2⟩ : S71)])) else (none)) else (none)) else (none)) else (none)) else (if (bt x0_1 (ji7)) = 47 then (if 0 ≤ t101 then (if t101 ≤ (x0_1.size : Int) then (if x2_1.length < 5864062014805 then (if (ji7) ≤ (x0_1.size : Int) then (helpers_ParseGlobPattern.l0 k2 (x0_1.extract ((ji7) : Int).toNat x0_1.size) (x2_1 ++ [(⟨x0_1.extract 0 (t101 : Int).toNat, 2⟩ : S71)])) else (none)) else (none)) else (none)) else (none)) else (if (bt x0_1 (ji7)) = 92 then (if 0 ≤ t101 then (if t101 ≤ (x0_1.size : Int) then (if x2_1.length < 5864062014805 then (if (ji7) ≤ (x0_1.size : Int) then (helpers_ParseGlobPattern.l0 k2 (x0_1.extract ((ji7) : Int).toNat x0_1.size) (x2_1 ++ [(⟨x0_1.extract 0 (t101 : Int).toNat, 2⟩ : S71)])) else (none)) else (none)) else (none)) else (none)) else (if 0 ≤ t101 then (if t101 ≤ (x0_1.size : Int) then (if x2_1.length < 5864062014805 then (if (ji7) ≤ (x0_1.size : Int) then (helpers_ParseGlobPattern.l0 k2 (x0_1.extract ((ji7) : Int).toNat x0_1.size) (x2_1 ++ [(⟨x0_1.extract 0 (t101 : Int).toNat, 1⟩ : S71)])) else (none)) else (none)) else (none)) else (none))))) else (if 0 ≤ (wrap64 (t101 - 1)) then (if (wrap64 (t101 - 1)) < (x0_1.size : Int) then (if (bt x0_1 (wrap64 (t101 - 1))) = 47 then (if (ji7) = (x0_1.size : Int) then (if 0 ≤ t101 then (if t101 ≤ (x0_1.size : Int) then (if x2_1.length < 5864062014805 then (if (ji7) ≤ (x0_1.size : Int) then (helpers_ParseGlobPattern.l0 k2 (x0_1.extract ((ji7) : Int).toNat x0_1.size) (x2_1 ++ [(⟨x0_1.extract 0 (t101 : Int).toNat, 2⟩ : S71)])) else (none)) else (none)) else (none)) else (none)) else (if (bt x0_1 (ji7)) = 47 then (if 0 ≤ t101 then (if t101 ≤ (x0_1.size : Int) then (if x2_1.length < 5864062014805 then (if (ji7) ≤ (x0_1.size : Int) then (helpers_ParseGlobPattern.l0 k2 (x0_1.extract ((ji7) : Int).toNat x0_1.size) (x2_1 ++ [(⟨x0_1.extract 0 (t101 : Int).toNat, 2⟩ : S71)])) else (none)) else (none)) else (none)) else (none)) else (if (bt x0_1 (ji7)) = 92 then (if 0 ≤ t101 then (if t101 ≤ (x0_1.size : Int) then (if x2_1.length < 5864062014805 then (if (ji7) ≤ (x0_1.size : Int) then (helpers_ParseGlobPattern.l0 k2 (x0_1.extract ((ji7) : Int).toNat x0_1.size) (x2_1 ++ [(⟨x0_1.extract 0 (t101 : Int).toNat, 2⟩ : S71)])) else (none)) else (none)) else (none)) else (none)) else (if 0 ≤ t101 then (if t101 ≤ (x0_1.size : Int) then (if x2_1.length < 5864062014805 then (if (ji7) ≤ (x0_1.size : Int) then (helpers_ParseGlobPattern.l0 k2 (x0_1.extract ((ji7) : Int).toNat x0_1.size) (x2_1 ++ [(⟨x0_1.extract 0 (t101 : Int).toNat, 1⟩ : S71)])) else (none)) else (none)) else (none)) else (none))))) else (if (bt x0_1 (wrap64 (t101 - 1))) = 92 then (if (ji7) = (x0_1.size : Int) then (if 0 ≤ t101 then (if t101 ≤ (x0_1.size : Int) then (if x2_1.length < 5864062014805 then (if (ji7) ≤ (x0_1.size : Int) then (helpers_ParseGlobPattern.l0 k2 (x0_1.extract ((ji7) : Int).toNat x0_1.size) (x2_1 ++ [(⟨x0_1.extract 0 (t101 : Int).toNat, 2⟩ : S71)])) else (none)) else (none)) else (none)) else (none)) else (if (bt x0_1 (ji7)) = 47 then (if 0 ≤ t101 then (if t101 ≤ (x0_1.size : Int) then (if x2_1.length < 5864062014805 then (if (ji7) ≤ (x0_1.size : Int) then (helpers_ParseGlobPattern.l0 k2 (x0_1.extract ((ji7) : Int).toNat x0_1.size) (x2_1 ++ [(⟨x0_1.extract 0 (t101 : Int).toNat, 2⟩ : S71)])) else (none)) else (none)) else (none)) else (none)) else (if (bt x0_1 (ji7)) = 92 then (if 0 ≤ t101 then (if t101 ≤ (x0_1.size : Int) then (if x2_1.length < 5864062014805 then (if (ji7) ≤ (x0_1.size : Int) then (helpers_ParseGlobPattern.l0 k2 (x0_1.extract ((ji7) : Int).toNat x0_1.size) (x2_1 ++ [(⟨x0_1.extract 0 (t101 : Int).toNat, 2⟩ : S71)])) else (none)) else (none)) else (none)) else (none)) else (if 0 ≤ t101 then (if t101 ≤ (x0_1.size : Int) then (if x2_1.length < 5864062014805 then (if (ji7) ≤ (x0_1.size : Int) then (helpers_ParseGlobPattern.l0 k2 (x0_1.extract ((ji7) : Int).toNat x0_1.size) (x2_1 ++ [(⟨x0_1.extract 0 (t101 : Int).toNat, 1⟩ : S71)])) else (none)) else (none)) else (none)) else (none))))) else (if 0 ≤ t101 then (if t101 ≤ (x0_1.size : Int) then (if x2_1.length < 5864062014805 then (if (ji7) ≤ (x0_1.size : Int) then (helpers_ParseGlobPattern.l0 k2 (x0_1.extract ((ji7) : Int).toNat x0_1.size) (x2_1 ++ [(⟨x0_1.extract 0 (t101 : Int).toNat, 1⟩ : S71)])) else (none)) else (none)) else (none)) else (none)))) else (none)) else (none))) else (if 0 ≤ t101 then (if t101 ≤ (x0_1.size : Int) then (if x2_1.length < 5864062014805 then (if (ji7) ≤ (x0_1.size : Int) then (helpers_ParseGlobPattern.l0 k2 (x0_1.extract ((ji7) : Int).toNat x0_1.size) (x2_1 ++ [(⟨x0_1.extract 0 (t101 : Int).toNat, 1⟩ : S71)])) else (none)) else (none)) else (none)) else (none)))) else (none)) = some r := by first | (rw [hji7] at H; exact H) | (simp only [hji7] at H ⊢; exact H)
              (try rw [hji7] at c6b0)
              have hji7w : (IntKind.i64.wrap (t101 + x4_2)) = ji7 := (i64_w _).trans hji7
              by_cases c8 : 0 ≤ (ji7)
              · rw [if_pos c8] at H
                have c8b0 : decide (0 ≤ (ji7)) = true := decide_eq_true c8
                clear c8
                by_cases c10 : (bt x0_1 (ji7)) = 42
                · rw [if_pos c10] at H
                  have c10b0 : ((bt x0_1 (ji7)) == 42) = true := beq_iff_eq.mpr c10
                  have c10b1 : ((bt x0_1 (ji7)) != 42) = false := bne_eq_false_iff_eq.mpr c10
                  clear c10
                  have H' := Aside0.mk H
                  clear H
                  have p9 : 0 ≤ ((ji7) : Int) := of_decide_eq_true (by first | (with_reducible assumption) | assumption)
                  have q9 : (ji7) < (x0_1.size : Int) := of_decide_eq_true (by first | (with_reducible assumption) | assumption)
                  have hx9 := bt_at x0_1 (ji7)
                  replace p9 := eq_true p9
                  replace q9 := eq_true q9
                  go_wp2
                  go_roundg k2
                  case measure => have := HK1.out; have := HK2.out; omega
                  case rel => exact ⟨(wrap64 (x4_2 + 1)), (by first | rfl | (simp; done) | (simp [*]; done)), H', ⟨by have := HK1.out; have := HK2.out; omega⟩, ⟨by (with_reducible repeat (first | apply Kd.R_alloc | apply Kd.R_drewN | apply Kd.R_drew)); exact HO_2.out⟩, ⟨by repeat (first | (with_reducible first | exact HB.out | apply below_alloc | apply pw_below_drewN | apply below_drew1) | exact HB.out)⟩⟩
                · rw [if_neg c10] at H
                  have c10b0 : ((bt x0_1 (ji7)) == 42) = false := beq_eq_false_iff_ne.mpr c10
                  have c10b1 : ((bt x0_1 (ji7)) != 42) = true := bne_iff_ne.mpr c10
                  by_cases c11 : x4_2 > 1
                  · rw [if_pos c11] at H
                    have c11b0 : decide (1 < x4_2) = true := decide_eq_true c11
                    clear c11
                    by_cases c12 : t101 = 0
                    · rw [if_pos c12] at H
                      have c12b0 : (t101 == 0) = true := beq_iff_eq.mpr c12
                      have c12b1 : (t101 != 0) = false := bne_eq_false_iff_eq.mpr c12
                      clear c12
                      by_cases c13 : (ji7) = (x0_1.size : Int)
                      · rw [if_pos c13] at H
                        have c13b0 : ((ji7) == (x0_1.size : Int)) = true := beq_iff_eq.mpr c13
                        have c13b1 : ((ji7) != (x0_1.size : Int)) = false := bne_eq_false_iff_eq.mpr c13
                        clear c13
                        by_cases c14 : 0 ≤ t101
                        · rw [if_pos c14] at H
                          have c14b0 := eq_true c14
                          have c14b1 : decide (0 ≤ t101) = true := decide_eq_true c14
                          clear c14
                          by_cases c15 : t101 ≤ (x0_1.size : Int)
                          · rw [if_pos c15] at H
                            have c15b0 := eq_true c15
                            have c15b1 : decide (t101 ≤ (x0_1.size : Int)) = true := decide_eq_true c15
                            clear c15
                            by_cases c16 : x2_1.length < 5864062014805
                            · rw [if_pos c16] at H
                              have LMc16 := Aside0.mk c16
                              clear c16
                              obtain ⟨y105, hy105⟩ : ∃ y_ : List (S71), y_ = (x2_1 ++ [(⟨x0_1.extract 0 (t101 : Int).toNat, 2⟩ : S71)]) := ⟨_, rfl⟩
                              replace H : (if (ji7) ≤ (x0_1.size : Int) then (helpers_ParseGlobPattern.l0 k2 (x0_1.extract ((ji7) : Int).toNat x0_1.size) y105) else (none)) = some r := by first | (rw [hy105]; with_reducible exact H) | (have H2_ := (Option.bind_some _ _).symm.trans H; rw [hy105]; with_reducible exact H2_) | (have H2_ := (Option.bind_some _ _).symm.trans H; with_reducible exact H2_) | with_reducible exact H | (rw [hy105]; exact H) | exact H
                              have Ny105 := Aside0.mk hy105
                              clear hy105
                              have c17b0 := eq_true (of_decide_eq_true (by first | (with_reducible assumption) | assumption) : 0 ≤ (ji7))
                              by_cases c18 : (ji7) ≤ (x0_1.size : Int)
                              · rw [if_pos c18] at H
                                have c18b0 := eq_true c18
                                have c18b1 : decide ((ji7) ≤ (x0_1.size : Int)) = true := decide_eq_true c18
                                clear c18
                                have H' := Aside0.mk H
                                clear H
                                have p9 : 0 ≤ ((ji7) : Int) := of_decide_eq_true (by first | (with_reducible assumption) | assumption)
                                have q9 : (ji7) < (x0_1.size : Int) := of_decide_eq_true (by first | (with_reducible assumption) | assumption)
                                have hx9 := bt_at x0_1 (ji7)
                                replace p9 := eq_true p9
                                replace q9 := eq_true q9
                                go_wp2_with (first | ((with_reducible refine gate_builtin (b := .append) (xs := #[.tmp 75, .tmp 81]) rfl ?_); (try (refine gate_guard (by rfl) ?_; dsimp only)); at_builtin; refine Kd.R_append k71 (w0 := w) w.heap.size rfl (.tmp 75) (.tmp 81) 67 71 (.agg #[(.string ⟨#[]⟩), (.int .u8 0)]) 24 rfl Try.underlying67 info71 rfl (by decide) (by omega) u2 x2_1 (⟨x0_1.extract 0 (t101 : Int).toNat, 2⟩ : S71) [.string (x0_1.extract 0 (t101 : Int).toNat), .int .u8 2] (fun _ => True) (fun _ => False) rfl rfl ?aP (fun _ hk => hk.elim) ?aF ?aO ?aB ?aS ?aL ?_; (case aP => exact k71_mkM _ _ _ (⟨x0_1.extract 0 (t101 : Int).toNat, 2⟩ : S71)); (case aB => exact (by repeat (first | (with_reducible first | exact HB.out | apply below_alloc | apply pw_below_drewN | apply below_drew1) | exact HB.out))); (case aF => exact (fun _ _ => trivial)); (case aO => exact (by (with_reducible repeat (first | apply Kd.R_alloc | apply Kd.R_drewN | apply Kd.R_drew)); exact HO_2.out)); (case aS => exact (below_size (by repeat (first | (with_reducible first | exact HB.out | apply below_alloc | apply pw_below_drewN | apply below_drew1) | exact HB.out)))); (case aL => have := LMc16.out; omega); intro v106 w19 ho hb hg hat; rw [← Ny105.out] at ho; have n0_ := Aside0.mk (hb); have n1_ := Aside0.mk (ho); clear HB; clear HO_2; have HB := n0_; have HO107 := n1_; clear n0_ n1_; clear ho hb hg hat))
                                go_roundg k2
                                case measure => have := HK1.out; have := HK2.out; omega
                                case rel => exact ⟨(x0_1.extract ((ji7) : Int).toNat x0_1.size), (y105), (by first | rfl | (simp; done) | (simp only [← hji7] <;> (first | rfl | simp)) | (simp [*]; done)), H', ⟨by have := HK1.out; have := HK2.out; omega⟩, ⟨by (with_reducible repeat (first | apply Kd.R_alloc | apply Kd.R_drewN | apply Kd.R_drew)); exact HO107.out⟩, ⟨by repeat (first | (with_reducible first | exact HB.out | apply below_alloc | apply pw_below_drewN | apply below_drew1) | exact HB.out)⟩⟩
                              · rw [if_neg c18] at H
                                exact absurd H (by simp)
                            · rw [if_neg c16] at H
                              exact absurd H (by simp)
                          · rw [if_neg c15] at H
                            exact absurd H (by simp)
                        · rw [if_neg c14] at H
                          exact absurd H (by simp)
                      · rw [if_neg c13] at H
                        have c13b0 : ((ji7) == (x0_1.size : Int)) = false := beq_eq_false_iff_ne.mpr c13
                        have c13b1 : ((ji7) != (x0_1.size : Int)) = true := bne_iff_ne.mpr c13
                        by_cases c21 : (bt x0_1 (ji7)) = 47
                        · rw [if_pos c21] at H
                          have c21b0 : ((bt x0_1 (ji7)) == 47) = true := beq_iff_eq.mpr c21
                          have c21b1 : ((bt x0_1 (ji7)) != 47) = false := bne_eq_false_iff_eq.mpr c21
                          clear c21
                          by_cases c22 : 0 ≤ t101
                          · rw [if_pos c22] at H
                            have c22b0 := eq_true c22
                            have c22b1 : decide (0 ≤ t101) = true := decide_eq_true c22
                            clear c22
                            by_cases c23 : t101 ≤ (x0_1.size : Int)
                            · rw [if_pos c23] at H
                              have c23b0 := eq_true c23
                              have c23b1 : decide (t101 ≤ (x0_1.size : Int)) = true := decide_eq_true c23
                              clear c23
                              by_cases c24 : x2_1.length < 5864062014805
                              · rw [if_pos c24] at H
                                have LMc24 := Aside0.mk c24
                                clear c24
                                obtain ⟨y108, hy108⟩ : ∃ y_ : List (S71), y_ = (x2_1 ++ [(⟨x0_1.extract 0 (t101 : Int).toNat, 2⟩ : S71)]) := ⟨_, rfl⟩
                                replace H : (if (ji7) ≤ (x0_1.size : Int) then (helpers_ParseGlobPattern.l0 k2 (x0_1.extract ((ji7) : Int).toNat x0_1.size) y108) else (none)) = some r := by first | (rw [hy108]; with_reducible exact H) | (have H2_ := (Option.bind_some _ _).symm.trans H; rw [hy108]; with_reducible exact H2_) | (have H2_ := (Option.bind_some _ _).symm.trans H; with_reducible exact H2_) | with_reducible exact H | (rw [hy108]; exact H) | exact H
                                have Ny108 := Aside0.mk hy108
                                clear hy108
                                have c25b0 := eq_true (of_decide_eq_true (by first | (with_reducible assumption) | assumption) : 0 ≤ (ji7))
                                by_cases c26 : (ji7) ≤ (x0_1.size : Int)
                                · rw [if_pos c26] at H
                                  have c26b0 := eq_true c26
                                  have c26b1 : decide ((ji7) ≤ (x0_1.size : Int)) = true := decide_eq_true c26
                                  clear c26
                                  have H' := Aside0.mk H
                                  clear H
                                  have p9 : 0 ≤ ((ji7) : Int) := of_decide_eq_true (by first | (with_reducible assumption) | assumption)
                                  have q9 : (ji7) < (x0_1.size : Int) := of_decide_eq_true (by first | (with_reducible assumption) | assumption)
                                  have hx9 := bt_at x0_1 (ji7)
                                  replace p9 := eq_true p9
                                  replace q9 := eq_true q9
                                  have p20 : 0 ≤ ((ji7) : Int) := of_decide_eq_true (by first | (with_reducible assumption) | assumption)
                                  have q20 : (ji7) < (x0_1.size : Int) := of_decide_eq_true (by first | (with_reducible assumption) | assumption)
                                  have hx20 := bt_at x0_1 (ji7)
                                  replace p20 := eq_true p20
                                  replace q20 := eq_true q20
                                  go_wp2_with (first | ((with_reducible refine gate_builtin (b := .append) (xs := #[.tmp 75, .tmp 81]) rfl ?_); (try (refine gate_guard (by rfl) ?_; dsimp only)); at_builtin; refine Kd.R_append k71 (w0 := w) w.heap.size rfl (.tmp 75) (.tmp 81) 67 71 (.agg #[(.string ⟨#[]⟩), (.int .u8 0)]) 24 rfl Try.underlying67 info71 rfl (by decide) (by omega) u2 x2_1 (⟨x0_1.extract 0 (t101 : Int).toNat, 2⟩ : S71) [.string (x0_1.extract 0 (t101 : Int).toNat), .int .u8 2] (fun _ => True) (fun _ => False) rfl rfl ?aP (fun _ hk => hk.elim) ?aF ?aO ?aB ?aS ?aL ?_; (case aP => exact k71_mkM _ _ _ (⟨x0_1.extract 0 (t101 : Int).toNat, 2⟩ : S71)); (case aB => exact (by repeat (first | (with_reducible first | exact HB.out | apply below_alloc | apply pw_below_drewN | apply below_drew1) | exact HB.out))); (case aF => exact (fun _ _ => trivial)); (case aO => exact (by (with_reducible repeat (first | apply Kd.R_alloc | apply Kd.R_drewN | apply Kd.R_drew)); exact HO_2.out)); (case aS => exact (below_size (by repeat (first | (with_reducible first | exact HB.out | apply below_alloc | apply pw_below_drewN | apply below_drew1) | exact HB.out)))); (case aL => have := LMc24.out; omega); intro v109 w27 ho hb hg hat; rw [← Ny108.out] at ho; have n0_ := Aside0.mk (hb); have n1_ := Aside0.mk (ho); clear HB; clear HO_2; have HB := n0_; have HO110 := n1_; clear n0_ n1_; clear ho hb hg hat))
                                  go_roundg k2
                                  case measure => have := HK1.out; have := HK2.out; omega
                                  case rel => exact ⟨(x0_1.extract ((ji7) : Int).toNat x0_1.size), (y108), (by first | rfl | (simp; done) | (simp only [← hji7] <;> (first | rfl | simp)) | (simp [*]; done)), H', ⟨by have := HK1.out; have := HK2.out; omega⟩, ⟨by (with_reducible repeat (first | apply Kd.R_alloc | apply Kd.R_drewN | apply Kd.R_drew)); exact HO110.out⟩, ⟨by repeat (first | (with_reducible first | exact HB.out | apply below_alloc | apply pw_below_drewN | apply below_drew1) | exact HB.out)⟩⟩
                                · rw [if_neg c26] at H
                                  exact absurd H (by simp)
                              · rw [if_neg c24] at H
                                exact absurd H (by simp)
                            · rw [if_neg c23] at H
                              exact absurd H (by simp)
                          · rw [if_neg c22] at H
                            exact absurd H (by simp)
                        · rw [if_neg c21] at H
                          have c21b0 : ((bt x0_1 (ji7)) == 47) = false := beq_eq_false_iff_ne.mpr c21
                          have c21b1 : ((bt x0_1 (ji7)) != 47) = true := bne_iff_ne.mpr c21
                          by_cases c29 : (bt x0_1 (ji7)) = 92
                          · rw [if_pos c29] at H
                            have c29b0 : ((bt x0_1 (ji7)) == 92) = true := beq_iff_eq.mpr c29
                            have c29b1 : ((bt x0_1 (ji7)) != 92) = false := bne_eq_false_iff_eq.mpr c29
                            clear c29
                            by_cases c30 : 0 ≤ t101
                            · rw [if_pos c30] at H
                              have c30b0 := eq_true c30
                              have c30b1 : decide (0 ≤ t101) = true := decide_eq_true c30
                              clear c30
                              by_cases c31 : t101 ≤ (x0_1.size : Int)
                              · rw [if_pos c31] at H
                                have c31b0 := eq_true c31
                                have c31b1 : decide (t101 ≤ (x0_1.size : Int)) = true := decide_eq_true c31
                                clear c31
                                by_cases c32 : x2_1.length < 5864062014805
                                · rw [if_pos c32] at H
                                  have LMc32 := Aside0.mk c32
                                  clear c32
                                  obtain ⟨y111, hy111⟩ : ∃ y_ : List (S71), y_ = (x2_1 ++ [(⟨x0_1.extract 0 (t101 : Int).toNat, 2⟩ : S71)]) := ⟨_, rfl⟩
                                  replace H : (if (ji7) ≤ (x0_1.size : Int) then (helpers_ParseGlobPattern.l0 k2 (x0_1.extract ((ji7) : Int).toNat x0_1.size) y111) else (none)) = some r := by first | (rw [hy111]; with_reducible exact H) | (have H2_ := (Option.bind_some _ _).symm.trans H; rw [hy111]; with_reducible exact H2_) | (have H2_ := (Option.bind_some _ _).symm.trans H; with_reducible exact H2_) | with_reducible exact H | (rw [hy111]; exact H) | exact H
                                  have Ny111 := Aside0.mk hy111
                                  clear hy111
                                  have c33b0 := eq_true (of_decide_eq_true (by first | (with_reducible assumption) | assumption) : 0 ≤ (ji7))
                                  by_cases c34 : (ji7) ≤ (x0_1.size : Int)
                                  · rw [if_pos c34] at H
                                    have c34b0 := eq_true c34
                                    have c34b1 : decide ((ji7) ≤ (x0_1.size : Int)) = true := decide_eq_true c34
                                    clear c34
                                    have H' := Aside0.mk H
                                    clear H
                                    have p9 : 0 ≤ ((ji7) : Int) := of_decide_eq_true (by first | (with_reducible assumption) | assumption)
                                    have q9 : (ji7) < (x0_1.size : Int) := of_decide_eq_true (by first | (with_reducible assumption) | assumption)
                                    have hx9 := bt_at x0_1 (ji7)
                                    replace p9 := eq_true p9
                                    replace q9 := eq_true q9
                                    have p20 : 0 ≤ ((ji7) : Int) := of_decide_eq_true (by first | (with_reducible assumption) | assumption)
                                    have q20 : (ji7) < (x0_1.size : Int) := of_decide_eq_true (by first | (with_reducible assumption) | assumption)
                                    have hx20 := bt_at x0_1 (ji7)
                                    replace p20 := eq_true p20
                                    replace q20 := eq_true q20
                                    have p28 : 0 ≤ ((ji7) : Int) := of_decide_eq_true (by first | (with_reducible assumption) | assumption)
                                    have q28 : (ji7) < (x0_1.size : Int) := of_decide_eq_true (by first | (with_reducible assumption) | assumption)
                                    have hx28 := bt_at x0_1 (ji7)
                                    replace p28 := eq_true p28
                                    replace q28 := eq_true q28
                                    go_wp2_with (first | ((with_reducible refine gate_builtin (b := .append) (xs := #[.tmp 75, .tmp 81]) rfl ?_); (try (refine gate_guard (by rfl) ?_; dsimp only)); at_builtin; refine Kd.R_append k71 (w0 := w) w.heap.size rfl (.tmp 75) (.tmp 81) 67 71 (.agg #[(.string ⟨#[]⟩), (.int .u8 0)]) 24 rfl Try.underlying67 info71 rfl (by decide) (by omega) u2 x2_1 (⟨x0_1.extract 0 (t101 : Int).toNat, 2⟩ : S71) [.string (x0_1.extract 0 (t101 : Int).toNat), .int .u8 2] (fun _ => True) (fun _ => False) rfl rfl ?aP (fun _ hk => hk.elim) ?aF ?aO ?aB ?aS ?aL ?_; (case aP => exact k71_mkM _ _ _ (⟨x0_1.extract 0 (t101 : Int).toNat, 2⟩ : S71)); (case aB => exact (by repeat (first | (with_reducible first | exact HB.out | apply below_alloc | apply pw_below_drewN | apply below_drew1) | exact HB.out))); (case aF => exact (fun _ _ => trivial)); (case aO => exact (by (with_reducible repeat (first | apply Kd.R_alloc | apply Kd.R_drewN | apply Kd.R_drew)); exact HO_2.out)); (case aS => exact (below_size (by repeat (first | (with_reducible first | exact HB.out | apply below_alloc | apply pw_below_drewN | apply below_drew1) | exact HB.out)))); (case aL => have := LMc32.out; omega); intro v112 w35 ho hb hg hat; rw [← Ny111.out] at ho; have n0_ := Aside0.mk (hb); have n1_ := Aside0.mk (ho); clear HB; clear HO_2; have HB := n0_; have HO113 := n1_; clear n0_ n1_; clear ho hb hg hat))
                                    go_roundg k2
                                    case measure => have := HK1.out; have := HK2.out; omega
                                    case rel => exact ⟨(x0_1.extract ((ji7) : Int).toNat x0_1.size), (y111), (by first | rfl | (simp; done) | (simp only [← hji7] <;> (first | rfl | simp)) | (simp [*]; done)), H', ⟨by have := HK1.out; have := HK2.out; omega⟩, ⟨by (with_reducible repeat (first | apply Kd.R_alloc | apply Kd.R_drewN | apply Kd.R_drew)); exact HO113.out⟩, ⟨by repeat (first | (with_reducible first | exact HB.out | apply below_alloc | apply pw_below_drewN | apply below_drew1) | exact HB.out)⟩⟩
                                  · rw [if_neg c34] at H
                                    exact absurd H (by simp)
                                · rw [if_neg c32] at H
                                  exact absurd H (by simp)
                              · rw [if_neg c31] at H
                                exact absurd H (by simp)
                            · rw [if_neg c30] at H
                              exact absurd H (by simp)
                          · rw [if_neg c29] at H
                            have c29b0 : ((bt x0_1 (ji7)) == 92) = false := beq_eq_false_iff_ne.mpr c29
                            have c29b1 : ((bt x0_1 (ji7)) != 92) = true := bne_iff_ne.mpr c29
                            by_cases c36 : 0 ≤ t101
                            · rw [if_pos c36] at H
                              have c36b0 := eq_true c36
                              have c36b1 : decide (0 ≤ t101) = true := decide_eq_true c36
                              clear c36
                              by_cases c37 : t101 ≤ (x0_1.size : Int)
                              · rw [if_pos c37] at H
                                have c37b0 := eq_true c37
                                have c37b1 : decide (t101 ≤ (x0_1.size : Int)) = true := decide_eq_true c37
                                clear c37
                                by_cases c38 : x2_1.length < 5864062014805
                                · rw [if_pos c38] at H
                                  have LMc38 := Aside0.mk c38
                                  clear c38
                                  obtain ⟨y114, hy114⟩ : ∃ y_ : List (S71), y_ = (x2_1 ++ [(⟨x0_1.extract 0 (t101 : Int).toNat, 1⟩ : S71)]) := ⟨_, rfl⟩
                                  replace H : (if (ji7) ≤ (x0_1.size : Int) then (helpers_ParseGlobPattern.l0 k2 (x0_1.extract ((ji7) : Int).toNat x0_1.size) y114) else (none)) = some r := by first | (rw [hy114]; with_reducible exact H) | (have H2_ := (Option.bind_some _ _).symm.trans H; rw [hy114]; with_reducible exact H2_) | (have H2_ := (Option.bind_some _ _).symm.trans H; with_reducible exact H2_) | with_reducible exact H | (rw [hy114]; exact H) | exact H
                                  have Ny114 := Aside0.mk hy114
                                  clear hy114
                                  have c39b0 := eq_true (of_decide_eq_true (by first | (with_reducible assumption) | assumption) : 0 ≤ (ji7))
                                  by_cases c40 : (ji7) ≤ (x0_1.size : Int)
                                  · rw [if_pos c40] at H
                                    have c40b0 := eq_true c40
                                    have c40b1 : decide ((ji7) ≤ (x0_1.size : Int)) = true := decide_eq_true c40
                                    clear c40
                                    have H' := Aside0.mk H
                                    clear H
                                    have p9 : 0 ≤ ((ji7) : Int) := of_decide_eq_true (by first | (with_reducible assumption) | assumption)
                                    have q9 : (ji7) < (x0_1.size : Int) := of_decide_eq_true (by first | (with_reducible assumption) | assumption)
                                    have hx9 := bt_at x0_1 (ji7)
                                    replace p9 := eq_true p9
                                    replace q9 := eq_true q9
                                    have p20 : 0 ≤ ((ji7) : Int) := of_decide_eq_true (by first | (with_reducible assumption) | assumption)
                                    have q20 : (ji7) < (x0_1.size : Int) := of_decide_eq_true (by first | (with_reducible assumption) | assumption)
                                    have hx20 := bt_at x0_1 (ji7)
                                    replace p20 := eq_true p20
                                    replace q20 := eq_true q20
                                    have p28 : 0 ≤ ((ji7) : Int) := of_decide_eq_true (by first | (with_reducible assumption) | assumption)
                                    have q28 : (ji7) < (x0_1.size : Int) := of_decide_eq_true (by first | (with_reducible assumption) | assumption)
                                    have hx28 := bt_at x0_1 (ji7)
                                    replace p28 := eq_true p28
                                    replace q28 := eq_true q28
                                    go_wp2_with (first | ((with_reducible refine gate_builtin (b := .append) (xs := #[.tmp 75, .tmp 81]) rfl ?_); (try (refine gate_guard (by rfl) ?_; dsimp only)); at_builtin; refine Kd.R_append k71 (w0 := w) w.heap.size rfl (.tmp 75) (.tmp 81) 67 71 (.agg #[(.string ⟨#[]⟩), (.int .u8 0)]) 24 rfl Try.underlying67 info71 rfl (by decide) (by omega) u2 x2_1 (⟨x0_1.extract 0 (t101 : Int).toNat, 1⟩ : S71) [.string (x0_1.extract 0 (t101 : Int).toNat), .int .u8 1] (fun _ => True) (fun _ => False) rfl rfl ?aP (fun _ hk => hk.elim) ?aF ?aO ?aB ?aS ?aL ?_; (case aP => exact k71_mkM _ _ _ (⟨x0_1.extract 0 (t101 : Int).toNat, 1⟩ : S71)); (case aB => exact (by repeat (first | (with_reducible first | exact HB.out | apply below_alloc | apply pw_below_drewN | apply below_drew1) | exact HB.out))); (case aF => exact (fun _ _ => trivial)); (case aO => exact (by (with_reducible repeat (first | apply Kd.R_alloc | apply Kd.R_drewN | apply Kd.R_drew)); exact HO_2.out)); (case aS => exact (below_size (by repeat (first | (with_reducible first | exact HB.out | apply below_alloc | apply pw_below_drewN | apply below_drew1) | exact HB.out)))); (case aL => have := LMc38.out; omega); intro v115 w41 ho hb hg hat; rw [← Ny114.out] at ho; have n0_ := Aside0.mk (hb); have n1_ := Aside0.mk (ho); clear HB; clear HO_2; have HB := n0_; have HO116 := n1_; clear n0_ n1_; clear ho hb hg hat))
                                    go_roundg k2
                                    case measure => have := HK1.out; have := HK2.out; omega
                                    case rel => exact ⟨(x0_1.extract ((ji7) : Int).toNat x0_1.size), (y114), (by first | rfl | (simp; done) | (simp only [← hji7] <;> (first | rfl | simp)) | (simp [*]; done)), H', ⟨by have := HK1.out; have := HK2.out; omega⟩, ⟨by (with_reducible repeat (first | apply Kd.R_alloc | apply Kd.R_drewN | apply Kd.R_drew)); exact HO116.out⟩, ⟨by repeat (first | (with_reducible first | exact HB.out | apply below_alloc | apply pw_below_drewN | apply below_drew1) | exact HB.out)⟩⟩
                                  · rw [if_neg c40] at H
                                    exact absurd H (by simp)
                                · rw [if_neg c38] at H
                                  exact absurd H (by simp)
                              · rw [if_neg c37] at H
                                exact absurd H (by simp)
                            · rw [if_neg c36] at H
                              exact absurd H (by simp)
                    · rw [if_neg c12] at H
                      have c12b0 : (t101 == 0) = false := beq_eq_false_iff_ne.mpr c12
                      have c12b1 : (t101 != 0) = true := bne_iff_ne.mpr c12
                      obtain ⟨ji42, hji42⟩ : ∃ j_ : Int, (wrap64 (t101 - 1)) = j_ := ⟨_, rfl⟩
                      replace H : (if 0 ≤ (ji42) then (if (ji42) < (x0_1.size : Int) then (if (bt x0_1 (ji42)) = 47 then (if (ji7) = (x0_1.size : Int) then (if 0 ≤ t101 then (if t101 ≤ (x0_1.size : Int) then (if x2_1.length < 5864062014805 then (if (ji7) ≤ (x0_1.size : Int) then (helpers_ParseGlobPattern.l0 k2 (x0_1.extract ((ji7) : Int).toNat x0_1.size) (x2_1 ++ [(⟨x0_1.extract 0 (t101 : Int).toNat, 2⟩ : S71)])) else (none)) else (none)) else (none)) else (none)) else (if (bt x0_1 (ji7)) = 47 then (if 0 ≤ t101 then (if t101 ≤ (x0_1.size : Int) then (if x2_1.length < 5864062014805 then (if (ji7) ≤ (x0_1.size : Int) then (helpers_ParseGlobPattern.l0 k2 (x0_1.extract ((ji7) : Int).toNat x0_1.size) (x2_1 ++ [(⟨x0_1.extract 0 (t101 : Int).toNat, 2⟩ : S71)])) else (none)) else (none)) else (none)) else (none)) else (if (bt x0_1 (ji7)) = 92 then (if 0 ≤ t101 then (if t101 ≤ (x0_1.size : Int) then (if x2_1.length < 5864062014805 then (if (ji7) ≤ (x0_1.size : Int) then (helpers_ParseGlobPattern.l0 k2 (x0_1.extract ((ji7) : Int).toNat x0_1.size) (x2_1 ++ [(⟨x0_1.extract 0 (t101 : Int).toNat, 2⟩ : S71)])) else (none)) else (none)) else (none)) else (none)) else (if 0 ≤ t101 then (if t101 ≤ (x0_1.size : Int) then (if x2_1.length < 5864062014805 then (if (ji7) ≤ (x0_1.size : Int) then (helpers_ParseGlobPattern.l0 k2 (x0_1.extract ((ji7) : Int).toNat x0_1.size) (x2_1 ++ [(⟨x0_1.extract 0 (t101 : Int).toNat, 1⟩ : S71)])) else (none)) else (none)) else (none)) else (none))))) else (if (bt x0_1 (ji42)) = 92 then (if (ji7) = (x0_1.size : Int) then (if 0 ≤ t101 then (if t101 ≤ (x0_1.size : Int) then (if x2_1.length < 5864062014805 then (if (ji7) ≤ (x0_1.size : Int) then (helpers_ParseGlobPattern.l0 k2 (x0_1.extract ((ji7) : Int).toNat x0_1.size) (x2_1 ++ [(⟨x0_1.extract 0 (t101 : Int).toNat, 2⟩ : S71)])) else (none)) else (none)) else (none)) else (none)) else (if (bt x0_1 (ji7)) = 47 then (if 0 ≤ t101 then (if t101 ≤ (x0_1.size : Int) then (if x2_1.length < 5864062014805 then (if (ji7) ≤ (x0_1.size : Int) then (helpers_ParseGlobPattern.l0 k2 (x0_1.extract ((ji7) : Int).toNat x0_1.size) (x2_1 ++ [(⟨x0_1.extract 0 (t101 : Int).toNat, 2⟩ : S71)])) else (none)) else (none)) else (none)) else (none)) else (if (bt x0_1 (ji7)) = 92 then (if 0 ≤ t101 then (if t101 ≤ (x0_1.size : Int) then (if x2_1.length < 5864062014805 then (if (ji7) ≤ (x0_1.size : Int) then (helpers_ParseGlobPattern.l0 k2 (x0_1.extract ((ji7) : Int).toNat x0_1.size) (x2_1 ++ [(⟨x0_1.extract 0 (t101 : Int).toNat, 2⟩ : S71)])) else (none)) else (none)) else (none)) else (none)) else (if 0 ≤ t101 then (if t101 ≤ (x0_1.size : Int) then (if x2_1.length < 5864062014805 then (if (ji7) ≤ (x0_1.size : Int) then (helpers_ParseGlobPattern.l0 k2 (x0_1.extract ((ji7) : Int).toNat x0_1.size) (x2_1 ++ [(⟨x0_1.extract 0 (t101 : Int).toNat, 1⟩ : S71)])) else (none)) else (none)) else (none)) else (none))))) else (if 0 ≤ t101 then (if t101 ≤ (x0_1.size : Int) then (if x2_1.length < 5864062014805 then (if (ji7) ≤ (x0_1.size : Int) then (helpers_ParseGlobPattern.l0 k2 (x0_1.extract ((ji7) : Int).toNat x0_1.size) (x2_1 ++ [(⟨x0_1.extract 0 (t101 : Int).toNat, 1⟩ : S71)])) else (none)) else (none)) else (none)) else (none)))) else (none)) else (none)) = some r := by first | (rw [hji42] at H; exact H) | (simp only [hji42] at H ⊢; exact H)
                      have hji42w : (IntKind.i64.wrap (t101 - 1)) = ji42 := (i64_w _).trans hji42
                      by_cases c43 : 0 ≤ (ji42)
                      · rw [if_pos c43] at H
                        have c43b0 : decide (0 ≤ (ji42)) = true := decide_eq_true c43
                        clear c43
                        by_cases c44 : (ji42) < (x0_1.size : Int)
                        · rw [if_pos c44] at H
                          have c44b0 : decide ((ji42) < (x0_1.size : Int)) = true := decide_eq_true c44
                          clear c44
                          by_cases c46 : (bt x0_1 (ji42)) = 47
                          · rw [if_pos c46] at H
                            have c46b0 : ((bt x0_1 (ji42)) == 47) = true := beq_iff_eq.mpr c46
                            have c46b1 : ((bt x0_1 (ji42)) != 47) = false := bne_eq_false_iff_eq.mpr c46
                            clear c46
                            by_cases c47 : (ji7) = (x0_1.size : Int)
                            · rw [if_pos c47] at H
                              have c47b0 : ((ji7) == (x0_1.size : Int)) = true := beq_iff_eq.mpr c47
                              have c47b1 : ((ji7) != (x0_1.size : Int)) = false := bne_eq_false_iff_eq.mpr c47
                              clear c47
                              by_cases c48 : 0 ≤ t101
                              · rw [if_pos c48] at H
                                have c48b0 := eq_true c48
                                have c48b1 : decide (0 ≤ t101) = true := decide_eq_true c48
                                clear c48
                                by_cases c49 : t101 ≤ (x0_1.size : Int)
                                · rw [if_pos c49] at H
                                  have c49b0 := eq_true c49
                                  have c49b1 : decide (t101 ≤ (x0_1.size : Int)) = true := decide_eq_true c49
                                  clear c49
                                  by_cases c50 : x2_1.length < 5864062014805
                                  · rw [if_pos c50] at H
                                    have LMc50 := Aside0.mk c50
                                    clear c50
                                    obtain ⟨y117, hy117⟩ : ∃ y_ : List (S71), y_ = (x2_1 ++ [(⟨x0_1.extract 0 (t101 : Int).toNat, 2⟩ : S71)]) := ⟨_, rfl⟩
                                    replace H : (if (ji7) ≤ (x0_1.size : Int) then (helpers_ParseGlobPattern.l0 k2 (x0_1.extract ((ji7) : Int).toNat x0_1.size) y117) else (none)) = some r := by first | (rw [hy117]; with_reducible exact H) | (have H2_ := (Option.bind_some _ _).symm.trans H; rw [hy117]; with_reducible exact H2_) | (have H2_ := (Option.bind_some _ _).symm.trans H; with_reducible exact H2_) | with_reducible exact H | (rw [hy117]; exact H) | exact H
                                    have Ny117 := Aside0.mk hy117
                                    clear hy117
                                    have c51b0 := eq_true (of_decide_eq_true (by first | (with_reducible assumption) | assumption) : 0 ≤ (ji7))
                                    by_cases c52 : (ji7) ≤ (x0_1.size : Int)
                                    · rw [if_pos c52] at H
                                      have c52b0 := eq_true c52
                                      have c52b1 : decide ((ji7) ≤ (x0_1.size : Int)) = true := decide_eq_true c52
                                      clear c52
                                      have H' := Aside0.mk H
                                      clear H
                                      have p9 : 0 ≤ ((ji7) : Int) := of_decide_eq_true (by first | (with_reducible assumption) | assumption)
                                      have q9 : (ji7) < (x0_1.size : Int) := of_decide_eq_true (by first | (with_reducible assumption) | assumption)
                                      have hx9 := bt_at x0_1 (ji7)
                                      replace p9 := eq_true p9
                                      replace q9 := eq_true q9
                                      have p45 : 0 ≤ ((ji42) : Int) := of_decide_eq_true (by first | (with_reducible assumption) | assumption)
                                      have q45 : (ji42) < (x0_1.size : Int) := of_decide_eq_true (by first | (with_reducible assumption) | assumption)
                                      have hx45 := bt_at x0_1 (ji42)
                                      replace p45 := eq_true p45
                                      replace q45 := eq_true q45
                                      go_wp2_with (first | ((with_reducible refine gate_builtin (b := .append) (xs := #[.tmp 75, .tmp 81]) rfl ?_); (try (refine gate_guard (by rfl) ?_; dsimp only)); at_builtin; refine Kd.R_append k71 (w0 := w) w.heap.size rfl (.tmp 75) (.tmp 81) 67 71 (.agg #[(.string ⟨#[]⟩), (.int .u8 0)]) 24 rfl Try.underlying67 info71 rfl (by decide) (by omega) u2 x2_1 (⟨x0_1.extract 0 (t101 : Int).toNat, 2⟩ : S71) [.string (x0_1.extract 0 (t101 : Int).toNat), .int .u8 2] (fun _ => True) (fun _ => False) rfl rfl ?aP (fun _ hk => hk.elim) ?aF ?aO ?aB ?aS ?aL ?_; (case aP => exact k71_mkM _ _ _ (⟨x0_1.extract 0 (t101 : Int).toNat, 2⟩ : S71)); (case aB => exact (by repeat (first | (with_reducible first | exact HB.out | apply below_alloc | apply pw_below_drewN | apply below_drew1) | exact HB.out))); (case aF => exact (fun _ _ => trivial)); (case aO => exact (by (with_reducible repeat (first | apply Kd.R_alloc | apply Kd.R_drewN | apply Kd.R_drew)); exact HO_2.out)); (case aS => exact (below_size (by repeat (first | (with_reducible first | exact HB.out | apply below_alloc | apply pw_below_drewN | apply below_drew1) | exact HB.out)))); (case aL => have := LMc50.out; omega); intro v118 w53 ho hb hg hat; rw [← Ny117.out] at ho; have n0_ := Aside0.mk (hb); have n1_ := Aside0.mk (ho); clear HB; clear HO_2; have HB := n0_; have HO119 := n1_; clear n0_ n1_; clear ho hb hg hat))
                                      go_roundg k2
                                      case measure => have := HK1.out; have := HK2.out; omega
                                      case rel => exact ⟨(x0_1.extract ((ji7) : Int).toNat x0_1.size), (y117), (by first | rfl | (simp; done) | (simp only [← hji7] <;> (first | rfl | simp)) | (simp [*]; done)), H', ⟨by have := HK1.out; have := HK2.out; omega⟩, ⟨by (with_reducible repeat (first | apply Kd.R_alloc | apply Kd.R_drewN | apply Kd.R_drew)); exact HO119.out⟩, ⟨by repeat (first | (with_reducible first | exact HB.out | apply below_alloc | apply pw_below_drewN | apply below_drew1) | exact HB.out)⟩⟩
                                    · rw [if_neg c52] at H
                                      exact absurd H (by simp)
                                  · rw [if_neg c50] at H
                                    exact absurd H (by simp)
                                · rw [if_neg c49] at H
                                  exact absurd H (by simp)
                              · rw [if_neg c48] at H
                                exact absurd H (by simp)
                            · rw [if_neg c47] at H
                              have c47b0 : ((ji7) == (x0_1.size : Int)) = false := beq_eq_false_iff_ne.mpr c47
                              have c47b1 : ((ji7) != (x0_1.size : Int)) = true := bne_iff_ne.mpr c47
                              by_cases c55 : (bt x0_1 (ji7)) = 47
                              · rw [if_pos c55] at H
                                have c55b0 : ((bt x0_1 (ji7)) == 47) = true := beq_iff_eq.mpr c55
                                have c55b1 : ((bt x0_1 (ji7)) != 47) = false := bne_eq_false_iff_eq.mpr c55
                                clear c55
                                by_cases c56 : 0 ≤ t101
                                · rw [if_pos c56] at H
                                  have c56b0 := eq_true c56
                                  have c56b1 : decide (0 ≤ t101) = true := decide_eq_true c56
                                  clear c56
                                  by_cases c57 : t101 ≤ (x0_1.size : Int)
                                  · rw [if_pos c57] at H
                                    have c57b0 := eq_true c57
                                    have c57b1 : decide (t101 ≤ (x0_1.size : Int)) = true := decide_eq_true c57
                                    clear c57
                                    by_cases c58 : x2_1.length < 5864062014805
                                    · rw [if_pos c58] at H
                                      have LMc58 := Aside0.mk c58
                                      clear c58
                                      obtain ⟨y120, hy120⟩ : ∃ y_ : List (S71), y_ = (x2_1 ++ [(⟨x0_1.extract 0 (t101 : Int).toNat, 2⟩ : S71)]) := ⟨_, rfl⟩
                                      replace H : (if (ji7) ≤ (x0_1.size : Int) then (helpers_ParseGlobPattern.l0 k2 (x0_1.extract ((ji7) : Int).toNat x0_1.size) y120) else (none)) = some r := by first | (rw [hy120]; with_reducible exact H) | (have H2_ := (Option.bind_some _ _).symm.trans H; rw [hy120]; with_reducible exact H2_) | (have H2_ := (Option.bind_some _ _).symm.trans H; with_reducible exact H2_) | with_reducible exact H | (rw [hy120]; exact H) | exact H
                                      have Ny120 := Aside0.mk hy120
                                      clear hy120
                                      have c59b0 := eq_true (of_decide_eq_true (by first | (with_reducible assumption) | assumption) : 0 ≤ (ji7))
                                      by_cases c60 : (ji7) ≤ (x0_1.size : Int)
                                      · rw [if_pos c60] at H
                                        have c60b0 := eq_true c60
                                        have c60b1 : decide ((ji7) ≤ (x0_1.size : Int)) = true := decide_eq_true c60
                                        clear c60
                                        have H' := Aside0.mk H
                                        clear H
                                        have p9 : 0 ≤ ((ji7) : Int) := of_decide_eq_true (by first | (with_reducible assumption) | assumption)
                                        have q9 : (ji7) < (x0_1.size : Int) := of_decide_eq_true (by first | (with_reducible assumption) | assumption)
                                        have hx9 := bt_at x0_1 (ji7)
                                        replace p9 := eq_true p9
                                        replace q9 := eq_true q9
                                        have p45 : 0 ≤ ((ji42) : Int) := of_decide_eq_true (by first | (with_reducible assumption) | assumption)
                                        have q45 : (ji42) < (x0_1.size : Int) := of_decide_eq_true (by first | (with_reducible assumption) | assumption)
                                        have hx45 := bt_at x0_1 (ji42)
                                        replace p45 := eq_true p45
                                        replace q45 := eq_true q45
                                        have p54 : 0 ≤ ((ji7) : Int) := of_decide_eq_true (by first | (with_reducible assumption) | assumption)
                                        have q54 : (ji7) < (x0_1.size : Int) := of_decide_eq_true (by first | (with_reducible assumption) | assumption)
                                        have hx54 := bt_at x0_1 (ji7)
                                        replace p54 := eq_true p54
                                        replace q54 := eq_true q54
                                        go_wp2_with (first | ((with_reducible refine gate_builtin (b := .append) (xs := #[.tmp 75, .tmp 81]) rfl ?_); (try (refine gate_guard (by rfl) ?_; dsimp only)); at_builtin; refine Kd.R_append k71 (w0 := w) w.heap.size rfl (.tmp 75) (.tmp 81) 67 71 (.agg #[(.string ⟨#[]⟩), (.int .u8 0)]) 24 rfl Try.underlying67 info71 rfl (by decide) (by omega) u2 x2_1 (⟨x0_1.extract 0 (t101 : Int).toNat, 2⟩ : S71) [.string (x0_1.extract 0 (t101 : Int).toNat), .int .u8 2] (fun _ => True) (fun _ => False) rfl rfl ?aP (fun _ hk => hk.elim) ?aF ?aO ?aB ?aS ?aL ?_; (case aP => exact k71_mkM _ _ _ (⟨x0_1.extract 0 (t101 : Int).toNat, 2⟩ : S71)); (case aB => exact (by repeat (first | (with_reducible first | exact HB.out | apply below_alloc | apply pw_below_drewN | apply below_drew1) | exact HB.out))); (case aF => exact (fun _ _ => trivial)); (case aO => exact (by (with_reducible repeat (first | apply Kd.R_alloc | apply Kd.R_drewN | apply Kd.R_drew)); exact HO_2.out)); (case aS => exact (below_size (by repeat (first | (with_reducible first | exact HB.out | apply below_alloc | apply pw_below_drewN | apply below_drew1) | exact HB.out)))); (case aL => have := LMc58.out; omega); intro v121 w61 ho hb hg hat; rw [← Ny120.out] at ho; have n0_ := Aside0.mk (hb); have n1_ := Aside0.mk (ho); clear HB; clear HO_2; have HB := n0_; have HO122 := n1_; clear n0_ n1_; clear ho hb hg hat))
                                        go_roundg k2
                                        case measure => have := HK1.out; have := HK2.out; omega
                                        case rel => exact ⟨(x0_1.extract ((ji7) : Int).toNat x0_1.size), (y120), (by first | rfl | (simp; done) | (simp only [← hji7] <;> (first | rfl | simp)) | (simp [*]; done)), H', ⟨by have := HK1.out; have := HK2.out; omega⟩, ⟨by (with_reducible repeat (first | apply Kd.R_alloc | apply Kd.R_drewN | apply Kd.R_drew)); exact HO122.out⟩, ⟨by repeat (first | (with_reducible first | exact HB.out | apply below_alloc | apply pw_below_drewN | apply below_drew1) | exact HB.out)⟩⟩
                                      · rw [if_neg c60] at H
                                        exact absurd H (by simp)
                                    · rw [if_neg c58] at H
                                      exact absurd H (by simp)
                                  · rw [if_neg c57] at H
                                    exact absurd H (by simp)
                                · rw [if_neg c56] at H
                                  exact absurd H (by simp)
                              · rw [if_neg c55] at H
                                have c55b0 : ((bt x0_1 (ji7)) == 47) = false := beq_eq_false_iff_ne.mpr c55
                                have c55b1 : ((bt x0_1 (ji7)) != 47) = true := bne_iff_ne.mpr c55
                                by_cases c63 : (bt x0_1 (ji7)) = 92
                                · rw [if_pos c63] at H
                                  have c63b0 : ((bt x0_1 (ji7)) == 92) = true := beq_iff_eq.mpr c63
                                  have c63b1 : ((bt x0_1 (ji7)) != 92) = false := bne_eq_false_iff_eq.mpr c63
                                  clear c63
                                  by_cases c64 : 0 ≤ t101
                                  · rw [if_pos c64] at H
                                    have c64b0 := eq_true c64
                                    have c64b1 : decide (0 ≤ t101) = true := decide_eq_true c64
                                    clear c64
                                    by_cases c65 : t101 ≤ (x0_1.size : Int)
                                    · rw [if_pos c65] at H
                                      have c65b0 := eq_true c65
                                      have c65b1 : decide (t101 ≤ (x0_1.size : Int)) = true := decide_eq_true c65
                                      clear c65
                                      by_cases c66 : x2_1.length < 5864062014805
                                      · rw [if_pos c66] at H
                                        have LMc66 := Aside0.mk c66
                                        clear c66
                                        obtain ⟨y123, hy123⟩ : ∃ y_ : List (S71), y_ = (x2_1 ++ [(⟨x0_1.extract 0 (t101 : Int).toNat, 2⟩ : S71)]) := ⟨_, rfl⟩
                                        replace H : (if (ji7) ≤ (x0_1.size : Int) then (helpers_ParseGlobPattern.l0 k2 (x0_1.extract ((ji7) : Int).toNat x0_1.size) y123) else (none)) = some r := by first | (rw [hy123]; with_reducible exact H) | (have H2_ := (Option.bind_some _ _).symm.trans H; rw [hy123]; with_reducible exact H2_) | (have H2_ := (Option.bind_some _ _).symm.trans H; with_reducible exact H2_) | with_reducible exact H | (rw [hy123]; exact H) | exact H
                                        have Ny123 := Aside0.mk hy123
                                        clear hy123
                                        have c67b0 := eq_true (of_decide_eq_true (by first | (with_reducible assumption) | assumption) : 0 ≤ (ji7))
                                        by_cases c68 : (ji7) ≤ (x0_1.size : Int)
                                        · rw [if_pos c68] at H
                                          have c68b0 := eq_true c68
                                          have c68b1 : decide ((ji7) ≤ (x0_1.size : Int)) = true := decide_eq_true c68
                                          clear c68
                                          have H' := Aside0.mk H
                                          clear H
                                          have p9 : 0 ≤ ((ji7) : Int) := of_decide_eq_true (by first | (with_reducible assumption) | assumption)
                                          have q9 : (ji7) < (x0_1.size : Int) := of_decide_eq_true (by first | (with_reducible assumption) | assumption)
                                          have hx9 := bt_at x0_1 (ji7)
                                          replace p9 := eq_true p9
                                          replace q9 := eq_true q9
                                          have p45 : 0 ≤ ((ji42) : Int) := of_decide_eq_true (by first | (with_reducible assumption) | assumption)
                                          have q45 : (ji42) < (x0_1.size : Int) := of_decide_eq_true (by first | (with_reducible assumption) | assumption)
                                          have hx45 := bt_at x0_1 (ji42)
                                          replace p45 := eq_true p45
                                          replace q45 := eq_true q45
                                          have p54 : 0 ≤ ((ji7) : Int) := of_decide_eq_true (by first | (with_reducible assumption) | assumption)
                                          have q54 : (ji7) < (x0_1.size : Int) := of_decide_eq_true (by first | (with_reducible assumption) | assumption)
                                          have hx54 := bt_at x0_1 (ji7)
                                          replace p54 := eq_true p54
                                          replace q54 := eq_true q54
                                          have p62 : 0 ≤ ((ji7) : Int) := of_decide_eq_true (by first | (with_reducible assumption) | assumption)
                                          have q62 : (ji7) < (x0_1.size : Int) := of_decide_eq_true (by first | (with_reducible assumption) | assumption)
                                          have hx62 := bt_at x0_1 (ji7)
                                          replace p62 := eq_true p62
                                          replace q62 := eq_true q62
                                          go_wp2_with (first | ((with_reducible refine gate_builtin (b := .append) (xs := #[.tmp 75, .tmp 81]) rfl ?_); (try (refine gate_guard (by rfl) ?_; dsimp only)); at_builtin; refine Kd.R_append k71 (w0 := w) w.heap.size rfl (.tmp 75) (.tmp 81) 67 71 (.agg #[(.string ⟨#[]⟩), (.int .u8 0)]) 24 rfl Try.underlying67 info71 rfl (by decide) (by omega) u2 x2_1 (⟨x0_1.extract 0 (t101 : Int).toNat, 2⟩ : S71) [.string (x0_1.extract 0 (t101 : Int).toNat), .int .u8 2] (fun _ => True) (fun _ => False) rfl rfl ?aP (fun _ hk => hk.elim) ?aF ?aO ?aB ?aS ?aL ?_; (case aP => exact k71_mkM _ _ _ (⟨x0_1.extract 0 (t101 : Int).toNat, 2⟩ : S71)); (case aB => exact (by repeat (first | (with_reducible first | exact HB.out | apply below_alloc | apply pw_below_drewN | apply below_drew1) | exact HB.out))); (case aF => exact (fun _ _ => trivial)); (case aO => exact (by (with_reducible repeat (first | apply Kd.R_alloc | apply Kd.R_drewN | apply Kd.R_drew)); exact HO_2.out)); (case aS => exact (below_size (by repeat (first | (with_reducible first | exact HB.out | apply below_alloc | apply pw_below_drewN | apply below_drew1) | exact HB.out)))); (case aL => have := LMc66.out; omega); intro v124 w69 ho hb hg hat; rw [← Ny123.out] at ho; have n0_ := Aside0.mk (hb); have n1_ := Aside0.mk (ho); clear HB; clear HO_2; have HB := n0_; have HO125 := n1_; clear n0_ n1_; clear ho hb hg hat))
                                          go_roundg k2
                                          case measure => have := HK1.out; have := HK2.out; omega
                                          case rel => exact ⟨(x0_1.extract ((ji7) : Int).toNat x0_1.size), (y123), (by first | rfl | (simp; done) | (simp only [← hji7] <;> (first | rfl | simp)) | (simp [*]; done)), H', ⟨by have := HK1.out; have := HK2.out; omega⟩, ⟨by (with_reducible repeat (first | apply Kd.R_alloc | apply Kd.R_drewN | apply Kd.R_drew)); exact HO125.out⟩, ⟨by repeat (first | (with_reducible first | exact HB.out | apply below_alloc | apply pw_below_drewN | apply below_drew1) | exact HB.out)⟩⟩
                                        · rw [if_neg c68] at H
                                          exact absurd H (by simp)
                                      · rw [if_neg c66] at H
                                        exact absurd H (by simp)
                                    · rw [if_neg c65] at H
                                      exact absurd H (by simp)
                                  · rw [if_neg c64] at H
                                    exact absurd H (by simp)
                                · rw [if_neg c63] at H
                                  have c63b0 : ((bt x0_1 (ji7)) == 92) = false := beq_eq_false_iff_ne.mpr c63
                                  have c63b1 : ((bt x0_1 (ji7)) != 92) = true := bne_iff_ne.mpr c63
                                  by_cases c70 : 0 ≤ t101
                                  · rw [if_pos c70] at H
                                    have c70b0 := eq_true c70
                                    have c70b1 : decide (0 ≤ t101) = true := decide_eq_true c70
                                    clear c70
                                    by_cases c71 : t101 ≤ (x0_1.size : Int)
                                    · rw [if_pos c71] at H
                                      have c71b0 := eq_true c71
                                      have c71b1 : decide (t101 ≤ (x0_1.size : Int)) = true := decide_eq_true c71
                                      clear c71
                                      by_cases c72 : x2_1.length < 5864062014805
                                      · rw [if_pos c72] at H
                                        have LMc72 := Aside0.mk c72
                                        clear c72
                                        obtain ⟨y126, hy126⟩ : ∃ y_ : List (S71), y_ = (x2_1 ++ [(⟨x0_1.extract 0 (t101 : Int).toNat, 1⟩ : S71)]) := ⟨_, rfl⟩
                                        replace H : (if (ji7) ≤ (x0_1.size : Int) then (helpers_ParseGlobPattern.l0 k2 (x0_1.extract ((ji7) : Int).toNat x0_1.size) y126) else (none)) = some r := by first | (rw [hy126]; with_reducible exact H) | (have H2_ := (Option.bind_some _ _).symm.trans H; rw [hy126]; with_reducible exact H2_) | (have H2_ := (Option.bind_some _ _).symm.trans H; with_reducible exact H2_) | with_reducible exact H | (rw [hy126]; exact H) | exact H
                                        have Ny126 := Aside0.mk hy126
                                        clear hy126
                                        have c73b0 := eq_true (of_decide_eq_true (by first | (with_reducible assumption) | assumption) : 0 ≤ (ji7))
                                        by_cases c74 : (ji7) ≤ (x0_1.size : Int)
                                        · rw [if_pos c74] at H
                                          have c74b0 := eq_true c74
                                          have c74b1 : decide ((ji7) ≤ (x0_1.size : Int)) = true := decide_eq_true c74
                                          clear c74
                                          have H' := Aside0.mk H
                                          clear H
                                          have p9 : 0 ≤ ((ji7) : Int) := of_decide_eq_true (by first | (with_reducible assumption) | assumption)
                                          have q9 : (ji7) < (x0_1.size : Int) := of_decide_eq_true (by first | (with_reducible assumption) | assumption)
                                          have hx9 := bt_at x0_1 (ji7)
                                          replace p9 := eq_true p9
                                          replace q9 := eq_true q9
                                          have p45 : 0 ≤ ((ji42) : Int) := of_decide_eq_true (by first | (with_reducible assumption) | assumption)
                                          have q45 : (ji42) < (x0_1.size : Int) := of_decide_eq_true (by first | (with_reducible assumption) | assumption)
                                          have hx45 := bt_at x0_1 (ji42)
                                          replace p45 := eq_true p45
                                          replace q45 := eq_true q45
                                          have p54 : 0 ≤ ((ji7) : Int) := of_decide_eq_true (by first | (with_reducible assumption) | assumption)
                                          have q54 : (ji7) < (x0_1.size : Int) := of_decide_eq_true (by first | (with_reducible assumption) | assumption)
                                          have hx54 := bt_at x0_1 (ji7)
                                          replace p54 := eq_true p54
                                          replace q54 := eq_true q54
                                          have p62 : 0 ≤ ((ji7) : Int) := of_decide_eq_true (by first | (with_reducible assumption) | assumption)
                                          have q62 : (ji7) < (x0_1.size : Int) := of_decide_eq_true (by first | (with_reducible assumption) | assumption)
                                          have hx62 := bt_at x0_1 (ji7)
                                          replace p62 := eq_true p62
                                          replace q62 := eq_true q62
                                          go_wp2_with (first | ((with_reducible refine gate_builtin (b := .append) (xs := #[.tmp 75, .tmp 81]) rfl ?_); (try (refine gate_guard (by rfl) ?_; dsimp only)); at_builtin; refine Kd.R_append k71 (w0 := w) w.heap.size rfl (.tmp 75) (.tmp 81) 67 71 (.agg #[(.string ⟨#[]⟩), (.int .u8 0)]) 24 rfl Try.underlying67 info71 rfl (by decide) (by omega) u2 x2_1 (⟨x0_1.extract 0 (t101 : Int).toNat, 1⟩ : S71) [.string (x0_1.extract 0 (t101 : Int).toNat), .int .u8 1] (fun _ => True) (fun _ => False) rfl rfl ?aP (fun _ hk => hk.elim) ?aF ?aO ?aB ?aS ?aL ?_; (case aP => exact k71_mkM _ _ _ (⟨x0_1.extract 0 (t101 : Int).toNat, 1⟩ : S71)); (case aB => exact (by repeat (first | (with_reducible first | exact HB.out | apply below_alloc | apply pw_below_drewN | apply below_drew1) | exact HB.out))); (case aF => exact (fun _ _ => trivial)); (case aO => exact (by (with_reducible repeat (first | apply Kd.R_alloc | apply Kd.R_drewN | apply Kd.R_drew)); exact HO_2.out)); (case aS => exact (below_size (by repeat (first | (with_reducible first | exact HB.out | apply below_alloc | apply pw_below_drewN | apply below_drew1) | exact HB.out)))); (case aL => have := LMc72.out; omega); intro v127 w75 ho hb hg hat; rw [← Ny126.out] at ho; have n0_ := Aside0.mk (hb); have n1_ := Aside0.mk (ho); clear HB; clear HO_2; have HB := n0_; have HO128 := n1_; clear n0_ n1_; clear ho hb hg hat))
                                          go_roundg k2
                                          case measure => have := HK1.out; have := HK2.out; omega
                                          case rel => exact ⟨(x0_1.extract ((ji7) : Int).toNat x0_1.size), (y126), (by first | rfl | (simp; done) | (simp only [← hji7] <;> (first | rfl | simp)) | (simp [*]; done)), H', ⟨by have := HK1.out; have := HK2.out; omega⟩, ⟨by (with_reducible repeat (first | apply Kd.R_alloc | apply Kd.R_drewN | apply Kd.R_drew)); exact HO128.out⟩, ⟨by repeat (first | (with_reducible first | exact HB.out | apply below_alloc | apply pw_below_drewN | apply below_drew1) | exact HB.out)⟩⟩
                                        · rw [if_neg c74] at H
                                          exact absurd H (by simp)
                                      · rw [if_neg c72] at H
                                        exact absurd H (by simp)
                                    · rw [if_neg c71] at H
                                      exact absurd H (by simp)
                                  · rw [if_neg c70] at H
                                    exact absurd H (by simp)
                          · rw [if_neg c46] at H
                            have c46b0 : ((bt x0_1 (ji42)) == 47) = false := beq_eq_false_iff_ne.mpr c46
                            have c46b1 : ((bt x0_1 (ji42)) != 47) = true := bne_iff_ne.mpr c46
                            by_cases c77 : (bt x0_1 (ji42)) = 92
                            · rw [if_pos c77] at H
                              have c77b0 : ((bt x0_1 (ji42)) == 92) = true := beq_iff_eq.mpr c77
                              have c77b1 : ((bt x0_1 (ji42)) != 92) = false := bne_eq_false_iff_eq.mpr c77
                              clear c77
                              by_cases c78 : (ji7) = (x0_1.size : Int)
                              · rw [if_pos c78] at H
                                have c78b0 : ((ji7) == (x0_1.size : Int)) = true := beq_iff_eq.mpr c78
                                have c78b1 : ((ji7) != (x0_1.size : Int)) = false := bne_eq_false_iff_eq.mpr c78
                                clear c78
                                by_cases c79 : 0 ≤ t101
                                · rw [if_pos c79] at H
                                  have c79b0 := eq_true c79
                                  have c79b1 : decide (0 ≤ t101) = true := decide_eq_true c79
                                  clear c79
                                  by_cases c80 : t101 ≤ (x0_1.size : Int)
                                  · rw [if_pos c80] at H
                                    have c80b0 := eq_true c80
                                    have c80b1 : decide (t101 ≤ (x0_1.size : Int)) = true := decide_eq_true c80
                                    clear c80
                                    by_cases c81 : x2_1.length < 5864062014805
                                    · rw [if_pos c81] at H
                                      have LMc81 := Aside0.mk c81
                                      clear c81
                                      obtain ⟨y129, hy129⟩ : ∃ y_ : List (S71), y_ = (x2_1 ++ [(⟨x0_1.extract 0 (t101 : Int).toNat, 2⟩ : S71)]) := ⟨_, rfl⟩
                                      replace H : (if (ji7) ≤ (x0_1.size : Int) then (helpers_ParseGlobPattern.l0 k2 (x0_1.extract ((ji7) : Int).toNat x0_1.size) y129) else (none)) = some r := by first | (rw [hy129]; with_reducible exact H) | (have H2_ := (Option.bind_some _ _).symm.trans H; rw [hy129]; with_reducible exact H2_) | (have H2_ := (Option.bind_some _ _).symm.trans H; with_reducible exact H2_) | with_reducible exact H | (rw [hy129]; exact H) | exact H
                                      have Ny129 := Aside0.mk hy129
                                      clear hy129
                                      have c82b0 := eq_true (of_decide_eq_true (by first | (with_reducible assumption) | assumption) : 0 ≤ (ji7))
                                      by_cases c83 : (ji7) ≤ (x0_1.size : Int)
                                      · rw [if_pos c83] at H
                                        have c83b0 := eq_true c83
                                        have c83b1 : decide ((ji7) ≤ (x0_1.size : Int)) = true := decide_eq_true c83
                                        clear c83
                                        have H' := Aside0.mk H
                                        clear H
                                        have p9 : 0 ≤ ((ji7) : Int) := of_decide_eq_true (by first | (with_reducible assumption) | assumption)
                                        have q9 : (ji7) < (x0_1.size : Int) := of_decide_eq_true (by first | (with_reducible assumption) | assumption)
                                        have hx9 := bt_at x0_1 (ji7)
                                        replace p9 := eq_true p9
                                        replace q9 := eq_true q9
                                        have p45 : 0 ≤ ((ji42) : Int) := of_decide_eq_true (by first | (with_reducible assumption) | assumption)
                                        have q45 : (ji42) < (x0_1.size : Int) := of_decide_eq_true (by first | (with_reducible assumption) | assumption)
                                        have hx45 := bt_at x0_1 (ji42)
                                        replace p45 := eq_true p45
                                        replace q45 := eq_true q45
                                        have p76 : 0 ≤ ((ji42) : Int) := of_decide_eq_true (by first | (with_reducible assumption) | assumption)
                                        have q76 : (ji42) < (x0_1.size : Int) := of_decide_eq_true (by first | (with_reducible assumption) | assumption)
                                        have hx76 := bt_at x0_1 (ji42)
                                        replace p76 := eq_true p76
                                        replace q76 := eq_true q76
                                        go_wp2_with (first | ((with_reducible refine gate_builtin (b := .append) (xs := #[.tmp 75, .tmp 81]) rfl ?_); (try (refine gate_guard (by rfl) ?_; dsimp only)); at_builtin; refine Kd.R_append k71 (w0 := w) w.heap.size rfl (.tmp 75) (.tmp 81) 67 71 (.agg #[(.string ⟨#[]⟩), (.int .u8 0)]) 24 rfl Try.underlying67 info71 rfl (by decide) (by omega) u2 x2_1 (⟨x0_1.extract 0 (t101 : Int).toNat, 2⟩ : S71) [.string (x0_1.extract 0 (t101 : Int).toNat), .int .u8 2] (fun _ => True) (fun _ => False) rfl rfl ?aP (fun _ hk => hk.elim) ?aF ?aO ?aB ?aS ?aL ?_; (case aP => exact k71_mkM _ _ _ (⟨x0_1.extract 0 (t101 : Int).toNat, 2⟩ : S71)); (case aB => exact (by repeat (first | (with_reducible first | exact HB.out | apply below_alloc | apply pw_below_drewN | apply below_drew1) | exact HB.out))); (case aF => exact (fun _ _ => trivial)); (case aO => exact (by (with_reducible repeat (first | apply Kd.R_alloc | apply Kd.R_drewN | apply Kd.R_drew)); exact HO_2.out)); (case aS => exact (below_size (by repeat (first | (with_reducible first | exact HB.out | apply below_alloc | apply pw_below_drewN | apply below_drew1) | exact HB.out)))); (case aL => have := LMc81.out; omega); intro v130 w84 ho hb hg hat; rw [← Ny129.out] at ho; have n0_ := Aside0.mk (hb); have n1_ := Aside0.mk (ho); clear HB; clear HO_2; have HB := n0_; have HO131 := n1_; clear n0_ n1_; clear ho hb hg hat))
                                        go_roundg k2
                                        case measure => have := HK1.out; have := HK2.out; omega
                                        case rel => exact ⟨(x0_1.extract ((ji7) : Int).toNat x0_1.size), (y129), (by first | rfl | (simp; done) | (simp only [← hji7] <;> (first | rfl | simp)) | (simp [*]; done)), H', ⟨by have := HK1.out; have := HK2.out; omega⟩, ⟨by (with_reducible repeat (first | apply Kd.R_alloc | apply Kd.R_drewN | apply Kd.R_drew)); exact HO131.out⟩, ⟨by repeat (first | (with_reducible first | exact HB.out | apply below_alloc | apply pw_below_drewN | apply below_drew1) | exact HB.out)⟩⟩
                                      · rw [if_neg c83] at H
                                        exact absurd H (by simp)
                                    · rw [if_neg c81] at H
                                      exact absurd H (by simp)
                                  · rw [if_neg c80] at H
                                    exact absurd H (by simp)
                                · rw [if_neg c79] at H
                                  exact absurd H (by simp)
                              · rw [if_neg c78] at H
                                have c78b0 : ((ji7) == (x0_1.size : Int)) = false := beq_eq_false_iff_ne.mpr c78
                                have c78b1 : ((ji7) != (x0_1.size : Int)) = true := bne_iff_ne.mpr c78
                                by_cases c86 : (bt x0_1 (ji7)) = 47
                                · rw [if_pos c86] at H
                                  have c86b0 : ((bt x0_1 (ji7)) == 47) = true := beq_iff_eq.mpr c86
                                  have c86b1 : ((bt x0_1 (ji7)) != 47) = false := bne_eq_false_iff_eq.mpr c86
                                  clear c86
                                  by_cases c87 : 0 ≤ t101
                                  · rw [if_pos c87] at H
                                    have c87b0 := eq_true c87
                                    have c87b1 : decide (0 ≤ t101) = true := decide_eq_true c87
                                    clear c87
                                    by_cases c88 : t101 ≤ (x0_1.size : Int)
                                    · rw [if_pos c88] at H
                                      have c88b0 := eq_true c88
                                      have c88b1 : decide (t101 ≤ (x0_1.size : Int)) = true := decide_eq_true c88
                                      clear c88
                                      by_cases c89 : x2_1.length < 5864062014805
                                      · rw [if_pos c89] at H
                                        have LMc89 := Aside0.mk c89
                                        clear c89
                                        obtain ⟨y132, hy132⟩ : ∃ y_ : List (S71), y_ = (x2_1 ++ [(⟨x0_1.extract 0 (t101 : Int).toNat, 2⟩ : S71)]) := ⟨_, rfl⟩
                                        replace H : (if (ji7) ≤ (x0_1.size : Int) then (helpers_ParseGlobPattern.l0 k2 (x0_1.extract ((ji7) : Int).toNat x0_1.size) y132) else (none)) = some r := by first | (rw [hy132]; with_reducible exact H) | (have H2_ := (Option.bind_some _ _).symm.trans H; rw [hy132]; with_reducible exact H2_) | (have H2_ := (Option.bind_some _ _).symm.trans H; with_reducible exact H2_) | with_reducible exact H | (rw [hy132]; exact H) | exact H
                                        have Ny132 := Aside0.mk hy132
                                        clear hy132
                                        have c90b0 := eq_true (of_decide_eq_true (by first | (with_reducible assumption) | assumption) : 0 ≤ (ji7))
                                        by_cases c91 : (ji7) ≤ (x0_1.size : Int)
                                        · rw [if_pos c91] at H
                                          have c91b0 := eq_true c91
                                          have c91b1 : decide ((ji7) ≤ (x0_1.size : Int)) = true := decide_eq_true c91
                                          clear c91
                                          have H' := Aside0.mk H
                                          clear H
                                          have p9 : 0 ≤ ((ji7) : Int) := of_decide_eq_true (by first | (with_reducible assumption) | assumption)
                                          have q9 : (ji7) < (x0_1.size : Int) := of_decide_eq_true (by first | (with_reducible assumption) | assumption)
                                          have hx9 := bt_at x0_1 (ji7)
                                          replace p9 := eq_true p9
                                          replace q9 := eq_true q9
                                          have p45 : 0 ≤ ((ji42) : Int) := of_decide_eq_true (by first | (with_reducible assumption) | assumption)
                                          have q45 : (ji42) < (x0_1.size : Int) := of_decide_eq_true (by first | (with_reducible assumption) | assumption)
                                          have hx45 := bt_at x0_1 (ji42)
                                          replace p45 := eq_true p45
                                          replace q45 := eq_true q45
                                          have p76 : 0 ≤ ((ji42) : Int) := of_decide_eq_true (by first | (with_reducible assumption) | assumption)
                                          have q76 : (ji42) < (x0_1.size : Int) := of_decide_eq_true (by first | (with_reducible assumption) | assumption)
                                          have hx76 := bt_at x0_1 (ji42)
                                          replace p76 := eq_true p76
                                          replace q76 := eq_true q76
                                          have p85 : 0 ≤ ((ji7) : Int) := of_decide_eq_true (by first | (with_reducible assumption) | assumption)
                                          have q85 : (ji7) < (x0_1.size : Int) := of_decide_eq_true (by first | (with_reducible assumption) | assumption)
                                          have hx85 := bt_at x0_1 (ji7)
                                          replace p85 := eq_true p85
                                          replace q85 := eq_true q85
                                          go_wp2_with (first | ((with_reducible refine gate_builtin (b := .append) (xs := #[.tmp 75, .tmp 81]) rfl ?_); (try (refine gate_guard (by rfl) ?_; dsimp only)); at_builtin; refine Kd.R_append k71 (w0 := w) w.heap.size rfl (.tmp 75) (.tmp 81) 67 71 (.agg #[(.string ⟨#[]⟩), (.int .u8 0)]) 24 rfl Try.underlying67 info71 rfl (by decide) (by omega) u2 x2_1 (⟨x0_1.extract 0 (t101 : Int).toNat, 2⟩ : S71) [.string (x0_1.extract 0 (t101 : Int).toNat), .int .u8 2] (fun _ => True) (fun _ => False) rfl rfl ?aP (fun _ hk => hk.elim) ?aF ?aO ?aB ?aS ?aL ?_; (case aP => exact k71_mkM _ _ _ (⟨x0_1.extract 0 (t101 : Int).toNat, 2⟩ : S71)); (case aB => exact (by repeat (first | (with_reducible first | exact HB.out | apply below_alloc | apply pw_below_drewN | apply below_drew1) | exact HB.out))); (case aF => exact (fun _ _ => trivial)); (case aO => exact (by (with_reducible repeat (first | apply Kd.R_alloc | apply Kd.R_drewN | apply Kd.R_drew)); exact HO_2.out)); (case aS => exact (below_size (by repeat (first | (with_reducible first | exact HB.out | apply below_alloc | apply pw_below_drewN | apply below_drew1) | exact HB.out)))); (case aL => have := LMc89.out; omega); intro v133 w92 ho hb hg hat; rw [← Ny132.out] at ho; have n0_ := Aside0.mk (hb); have n1_ := Aside0.mk (ho); clear HB; clear HO_2; have HB := n0_; have HO134 := n1_; clear n0_ n1_; clear ho hb hg hat))
                                          go_roundg k2
                                          case measure => have := HK1.out; have := HK2.out; omega
                                          case rel => exact ⟨(x0_1.extract ((ji7) : Int).toNat x0_1.size), (y132), (by first | rfl | (simp; done) | (simp only [← hji7] <;> (first | rfl | simp)) | (simp [*]; done)), H', ⟨by have := HK1.out; have := HK2.out; omega⟩, ⟨by (with_reducible repeat (first | apply Kd.R_alloc | apply Kd.R_drewN | apply Kd.R_drew)); exact HO134.out⟩, ⟨by repeat (first | (with_reducible first | exact HB.out | apply below_alloc | apply pw_below_drewN | apply below_drew1) | exact HB.out)⟩⟩
                                        · rw [if_neg c91] at H
                                          exact absurd H (by simp)
                                      · rw [if_neg c89] at H
                                        exact absurd H (by simp)
                                    · rw [if_neg c88] at H
                                      exact absurd H (by simp)
                                  · rw [if_neg c87] at H
                                    exact absurd H (by simp)
                                · rw [if_neg c86] at H
                                  have c86b0 : ((bt x0_1 (ji7)) == 47) = false := beq_eq_false_iff_ne.mpr c86
                                  have c86b1 : ((bt x0_1 (ji7)) != 47) = true := bne_iff_ne.mpr c86
                                  by_cases c94 : (bt x0_1 (ji7)) = 92
                                  · rw [if_pos c94] at H
                                    have c94b0 : ((bt x0_1 (ji7)) == 92) = true := beq_iff_eq.mpr c94
                                    have c94b1 : ((bt x0_1 (ji7)) != 92) = false := bne_eq_false_iff_eq.mpr c94
                                    clear c94
                                    by_cases c95 : 0 ≤ t101
                                    · rw [if_pos c95] at H
                                      have c95b0 := eq_true c95
                                      have c95b1 : decide (0 ≤ t101) = true := decide_eq_true c95
                                      clear c95
                                      by_cases c96 : t101 ≤ (x0_1.size : Int)
                                      · rw [if_pos c96] at H
                                        have c96b0 := eq_true c96
                                        have c96b1 : decide (t101 ≤ (x0_1.size : Int)) = true := decide_eq_true c96
                                        clear c96
                                        by_cases c97 : x2_1.length < 5864062014805
                                        · rw [if_pos c97] at H
                                          have LMc97 := Aside0.mk c97
                                          clear c97
                                          obtain ⟨y135, hy135⟩ : ∃ y_ : List (S71), y_ = (x2_1 ++ [(⟨x0_1.extract 0 (t101 : Int).toNat, 2⟩ : S71)]) := ⟨_, rfl⟩
                                          replace H : (if (ji7) ≤ (x0_1.size : Int) then (helpers_ParseGlobPattern.l0 k2 (x0_1.extract ((ji7) : Int).toNat x0_1.size) y135) else (none)) = some r := by first | (rw [hy135]; with_reducible exact H) | (have H2_ := (Option.bind_some _ _).symm.trans H; rw [hy135]; with_reducible exact H2_) | (have H2_ := (Option.bind_some _ _).symm.trans H; with_reducible exact H2_) | with_reducible exact H | (rw [hy135]; exact H) | exact H
                                          have Ny135 := Aside0.mk hy135
                                          clear hy135
                                          have c98b0 := eq_true (of_decide_eq_true (by first | (with_reducible assumption) | assumption) : 0 ≤ (ji7))
                                          by_cases c99 : (ji7) ≤ (x0_1.size : Int)
                                          · rw [if_pos c99] at H
                                            have c99b0 := eq_true c99
                                            have c99b1 : decide ((ji7) ≤ (x0_1.size : Int)) = true := decide_eq_true c99
                                            clear c99
                                            have H' := Aside0.mk H
                                            clear H
                                            have p9 : 0 ≤ ((ji7) : Int) := of_decide_eq_true (by first | (with_reducible assumption) | assumption)
                                            have q9 : (ji7) < (x0_1.size : Int) := of_decide_eq_true (by first | (with_reducible assumption) | assumption)
                                            have hx9 := bt_at x0_1 (ji7)
                                            replace p9 := eq_true p9
                                            replace q9 := eq_true q9
                                            have p45 : 0 ≤ ((ji42) : Int) := of_decide_eq_true (by first | (with_reducible assumption) | assumption)
                                            have q45 : (ji42) < (x0_1.size : Int) := of_decide_eq_true (by first | (with_reducible assumption) | assumption)
                                            have hx45 := bt_at x0_1 (ji42)
                                            replace p45 := eq_true p45
                                            replace q45 := eq_true q45
                                            have p76 : 0 ≤ ((ji42) : Int) := of_decide_eq_true (by first | (with_reducible assumption) | assumption)
                                            have q76 : (ji42) < (x0_1.size : Int) := of_decide_eq_true (by first | (with_reducible assumption) | assumption)
                                            have hx76 := bt_at x0_1 (ji42)
                                            replace p76 := eq_true p76
                                            replace q76 := eq_true q76
                                            have p85 : 0 ≤ ((ji7) : Int) := of_decide_eq_true (by first | (with_reducible assumption) | assumption)
                                            have q85 : (ji7) < (x0_1.size : Int) := of_decide_eq_true (by first | (with_reducible assumption) | assumption)
                                            have hx85 := bt_at x0_1 (ji7)
                                            replace p85 := eq_true p85
                                            replace q85 := eq_true q85
                                            have p93 : 0 ≤ ((ji7) : Int) := of_decide_eq_true (by first | (with_reducible assumption) | assumption)
                                            have q93 : (ji7) < (x0_1.size : Int) := of_decide_eq_true (by first | (with_reducible assumption) | assumption)
                                            have hx93 := bt_at x0_1 (ji7)
                                            replace p93 := eq_true p93
                                            replace q93 := eq_true q93
                                            go_wp2_with (first | ((with_reducible refine gate_builtin (b := .append) (xs := #[.tmp 75, .tmp 81]) rfl ?_); (try (refine gate_guard (by rfl) ?_; dsimp only)); at_builtin; refine Kd.R_append k71 (w0 := w) w.heap.size rfl (.tmp 75) (.tmp 81) 67 71 (.agg #[(.string ⟨#[]⟩), (.int .u8 0)]) 24 rfl Try.underlying67 info71 rfl (by decide) (by omega) u2 x2_1 (⟨x0_1.extract 0 (t101 : Int).toNat, 2⟩ : S71) [.string (x0_1.extract 0 (t101 : Int).toNat), .int .u8 2] (fun _ => True) (fun _ => False) rfl rfl ?aP (fun _ hk => hk.elim) ?aF ?aO ?aB ?aS ?aL ?_; (case aP => exact k71_mkM _ _ _ (⟨x0_1.extract 0 (t101 : Int).toNat, 2⟩ : S71)); (case aB => exact (by repeat (first | (with_reducible first | exact HB.out | apply below_alloc | apply pw_below_drewN | apply below_drew1) | exact HB.out))); (case aF => exact (fun _ _ => trivial)); (case aO => exact (by (with_reducible repeat (first | apply Kd.R_alloc | apply Kd.R_drewN | apply Kd.R_drew)); exact HO_2.out)); (case aS => exact (below_size (by repeat (first | (with_reducible first | exact HB.out | apply below_alloc | apply pw_below_drewN | apply below_drew1) | exact HB.out)))); (case aL => have := LMc97.out; omega); intro v136 w100 ho hb hg hat; rw [← Ny135.out] at ho; have n0_ := Aside0.mk (hb); have n1_ := Aside0.mk (ho); clear HB; clear HO_2; have HB := n0_; have HO137 := n1_; clear n0_ n1_; clear ho hb hg hat))
                                            go_roundg k2
                                            case measure => have := HK1.out; have := HK2.out; omega
                                            case rel => exact ⟨(x0_1.extract ((ji7) : Int).toNat x0_1.size), (y135), (by first | rfl | (simp; done) | (simp only [← hji7] <;> (first | rfl | simp)) | (simp [*]; done)), H', ⟨by have := HK1.out; have := HK2.out; omega⟩, ⟨by (with_reducible repeat (first | apply Kd.R_alloc | apply Kd.R_drewN | apply Kd.R_drew)); exact HO137.out⟩, ⟨by repeat (first | (with_reducible first | exact HB.out | apply below_alloc | apply pw_below_drewN | apply below_drew1) | exact HB.out)⟩⟩
                                          · rw [if_neg c99] at H
                                            exact absurd H (by simp)
                                        · rw [if_neg c97] at H
                                          exact absurd H (by simp)
                                      · rw [if_neg c96] at H
                                        exact absurd H (by simp)
                                    · rw [if_neg c95] at H
                                      exact absurd H (by simp)
                                  · rw [if_neg c94] at H
                                    have c94b0 : ((bt x0_1 (ji7)) == 92) = false := beq_eq_false_iff_ne.mpr c94
                                    have c94b1 : ((bt x0_1 (ji7)) != 92) = true := bne_iff_ne.mpr c94
                                    by_cases c101 : 0 ≤ t101
                                    · rw [if_pos c101] at H
                                      have c101b0 := eq_true c101
                                      have c101b1 : decide (0 ≤ t101) = true := decide_eq_true c101
                                      clear c101
                                      by_cases c102 : t101 ≤ (x0_1.size : Int)
                                      · rw [if_pos c102] at H
                                        have c102b0 := eq_true c102
                                        have c102b1 : decide (t101 ≤ (x0_1.size : Int)) = true := decide_eq_true c102
                                        clear c102
                                        by_cases c103 : x2_1.length < 5864062014805
                                        · rw [if_pos c103] at H
                                          have LMc103 := Aside0.mk c103
                                          clear c103
                                          obtain ⟨y138, hy138⟩ : ∃ y_ : List (S71), y_ = (x2_1 ++ [(⟨x0_1.extract 0 (t101 : Int).toNat, 1⟩ : S71)]) := ⟨_, rfl⟩
                                          replace H : (if (ji7) ≤ (x0_1.size : Int) then (helpers_ParseGlobPattern.l0 k2 (x0_1.extract ((ji7) : Int).toNat x0_1.size) y138) else (none)) = some r := by first | (rw [hy138]; with_reducible exact H) | (have H2_ := (Option.bind_some _ _).symm.trans H; rw [hy138]; with_reducible exact H2_) | (have H2_ := (Option.bind_some _ _).symm.trans H; with_reducible exact H2_) | with_reducible exact H | (rw [hy138]; exact H) | exact H
                                          have Ny138 := Aside0.mk hy138
                                          clear hy138
                                          have c104b0 := eq_true (of_decide_eq_true (by first | (with_reducible assumption) | assumption) : 0 ≤ (ji7))
                                          by_cases c105 : (ji7) ≤ (x0_1.size : Int)
                                          · rw [if_pos c105] at H
                                            have c105b0 := eq_true c105
                                            have c105b1 : decide ((ji7) ≤ (x0_1.size : Int)) = true := decide_eq_true c105
                                            clear c105
                                            have H' := Aside0.mk H
                                            clear H
                                            have p9 : 0 ≤ ((ji7) : Int) := of_decide_eq_true (by first | (with_reducible assumption) | assumption)
                                            have q9 : (ji7) < (x0_1.size : Int) := of_decide_eq_true (by first | (with_reducible assumption) | assumption)
                                            have hx9 := bt_at x0_1 (ji7)
                                            replace p9 := eq_true p9
                                            replace q9 := eq_true q9
                                            have p45 : 0 ≤ ((ji42) : Int) := of_decide_eq_true (by first | (with_reducible assumption) | assumption)
                                            have q45 : (ji42) < (x0_1.size : Int) := of_decide_eq_true (by first | (with_reducible assumption) | assumption)
                                            have hx45 := bt_at x0_1 (ji42)
                                            replace p45 := eq_true p45
                                            replace q45 := eq_true q45
                                            have p76 : 0 ≤ ((ji42) : Int) := of_decide_eq_true (by first | (with_reducible assumption) | assumption)
                                            have q76 : (ji42) < (x0_1.size : Int) := of_decide_eq_true (by first | (with_reducible assumption) | assumption)
                                            have hx76 := bt_at x0_1 (ji42)
                                            replace p76 := eq_true p76
                                            replace q76 := eq_true q76
                                            have p85 : 0 ≤ ((ji7) : Int) := of_decide_eq_true (by first | (with_reducible assumption) | assumption)
                                            have q85 : (ji7) < (x0_1.size : Int) := of_decide_eq_true (by first | (with_reducible assumption) | assumption)
                                            have hx85 := bt_at x0_1 (ji7)
                                            replace p85 := eq_true p85
                                            replace q85 := eq_true q85
                                            have p93 : 0 ≤ ((ji7) : Int) := of_decide_eq_true (by first | (with_reducible assumption) | assumption)
                                            have q93 : (ji7) < (x0_1.size : Int) := of_decide_eq_true (by first | (with_reducible assumption) | assumption)
                                            have hx93 := bt_at x0_1 (ji7)
                                            replace p93 := eq_true p93
                                            replace q93 := eq_true q93
                                            go_wp2_with (first | ((with_reducible refine gate_builtin (b := .append) (xs := #[.tmp 75, .tmp 81]) rfl ?_); (try (refine gate_guard (by rfl) ?_; dsimp only)); at_builtin; refine Kd.R_append k71 (w0 := w) w.heap.size rfl (.tmp 75) (.tmp 81) 67 71 (.agg #[(.string ⟨#[]⟩), (.int .u8 0)]) 24 rfl Try.underlying67 info71 rfl (by decide) (by omega) u2 x2_1 (⟨x0_1.extract 0 (t101 : Int).toNat, 1⟩ : S71) [.string (x0_1.extract 0 (t101 : Int).toNat), .int .u8 1] (fun _ => True) (fun _ => False) rfl rfl ?aP (fun _ hk => hk.elim) ?aF ?aO ?aB ?aS ?aL ?_; (case aP => exact k71_mkM _ _ _ (⟨x0_1.extract 0 (t101 : Int).toNat, 1⟩ : S71)); (case aB => exact (by repeat (first | (with_reducible first | exact HB.out | apply below_alloc | apply pw_below_drewN | apply below_drew1) | exact HB.out))); (case aF => exact (fun _ _ => trivial)); (case aO => exact (by (with_reducible repeat (first | apply Kd.R_alloc | apply Kd.R_drewN | apply Kd.R_drew)); exact HO_2.out)); (case aS => exact (below_size (by repeat (first | (with_reducible first | exact HB.out | apply below_alloc | apply pw_below_drewN | apply below_drew1) | exact HB.out)))); (case aL => have := LMc103.out; omega); intro v139 w106 ho hb hg hat; rw [← Ny138.out] at ho; have n0_ := Aside0.mk (hb); have n1_ := Aside0.mk (ho); clear HB; clear HO_2; have HB := n0_; have HO140 := n1_; clear n0_ n1_; clear ho hb hg hat))
                                            go_roundg k2
                                            case measure => have := HK1.out; have := HK2.out; omega
                                            case rel => exact ⟨(x0_1.extract ((ji7) : Int).toNat x0_1.size), (y138), (by first | rfl | (simp; done) | (simp only [← hji7] <;> (first | rfl | simp)) | (simp [*]; done)), H', ⟨by have := HK1.out; have := HK2.out; omega⟩, ⟨by (with_reducible repeat (first | apply Kd.R_alloc | apply Kd.R_drewN | apply Kd.R_drew)); exact HO140.out⟩, ⟨by repeat (first | (with_reducible first | exact HB.out | apply below_alloc | apply pw_below_drewN | apply below_drew1) | exact HB.out)⟩⟩
                                          · rw [if_neg c105] at H
                                            exact absurd H (by simp)
                                        · rw [if_neg c103] at H
                                          exact absurd H (by simp)
                                      · rw [if_neg c102] at H
                                        exact absurd H (by simp)
                                    · rw [if_neg c101] at H
                                      exact absurd H (by simp)
                            · rw [if_neg c77] at H
                              have c77b0 : ((bt x0_1 (ji42)) == 92) = false := beq_eq_false_iff_ne.mpr c77
                              have c77b1 : ((bt x0_1 (ji42)) != 92) = true := bne_iff_ne.mpr c77
                              by_cases c107 : 0 ≤ t101
                              · rw [if_pos c107] at H
                                have c107b0 := eq_true c107
                                have c107b1 : decide (0 ≤ t101) = true := decide_eq_true c107
                                clear c107
                                by_cases c108 : t101 ≤ (x0_1.size : Int)
                                · rw [if_pos c108] at H
                                  have c108b0 := eq_true c108
                                  have c108b1 : decide (t101 ≤ (x0_1.size : Int)) = true := decide_eq_true c108
                                  clear c108
                                  by_cases c109 : x2_1.length < 5864062014805
                                  · rw [if_pos c109] at H
                                    have LMc109 := Aside0.mk c109
                                    clear c109
                                    obtain ⟨y141, hy141⟩ : ∃ y_ : List (S71), y_ = (x2_1 ++ [(⟨x0_1.extract 0 (t101 : Int).toNat, 1⟩ : S71)]) := ⟨_, rfl⟩
                                    replace H : (if (ji7) ≤ (x0_1.size : Int) then (helpers_ParseGlobPattern.l0 k2 (x0_1.extract ((ji7) : Int).toNat x0_1.size) y141) else (none)) = some r := by first | (rw [hy141]; with_reducible exact H) | (have H2_ := (Option.bind_some _ _).symm.trans H; rw [hy141]; with_reducible exact H2_) | (have H2_ := (Option.bind_some _ _).symm.trans H; with_reducible exact H2_) | with_reducible exact H | (rw [hy141]; exact H) | exact H
                                    have Ny141 := Aside0.mk hy141
                                    clear hy141
                                    have c110b0 := eq_true (of_decide_eq_true (by first | (with_reducible assumption) | assumption) : 0 ≤ (ji7))
                                    by_cases c111 : (ji7) ≤ (x0_1.size : Int)
                                    · rw [if_pos c111] at H
                                      have c111b0 := eq_true c111
                                      have c111b1 : decide ((ji7) ≤ (x0_1.size : Int)) = true := decide_eq_true c111
                                      clear c111
                                      have H' := Aside0.mk H
                                      clear H
                                      have p9 : 0 ≤ ((ji7) : Int) := of_decide_eq_true (by first | (with_reducible assumption) | assumption)
                                      have q9 : (ji7) < (x0_1.size : Int) := of_decide_eq_true (by first | (with_reducible assumption) | assumption)
                                      have hx9 := bt_at x0_1 (ji7)
                                      replace p9 := eq_true p9
                                      replace q9 := eq_true q9
                                      have p45 : 0 ≤ ((ji42) : Int) := of_decide_eq_true (by first | (with_reducible assumption) | assumption)
                                      have q45 : (ji42) < (x0_1.size : Int) := of_decide_eq_true (by first | (with_reducible assumption) | assumption)
                                      have hx45 := bt_at x0_1 (ji42)
                                      replace p45 := eq_true p45
                                      replace q45 := eq_true q45
                                      have p76 : 0 ≤ ((ji42) : Int) := of_decide_eq_true (by first | (with_reducible assumption) | assumption)
                                      have q76 : (ji42) < (x0_1.size : Int) := of_decide_eq_true (by first | (with_reducible assumption) | assumption)
                                      have hx76 := bt_at x0_1 (ji42)
                                      replace p76 := eq_true p76
                                      replace q76 := eq_true q76
                                      go_wp2_with (first | ((with_reducible refine gate_builtin (b := .append) (xs := #[.tmp 75, .tmp 81]) rfl ?_); (try (refine gate_guard (by rfl) ?_; dsimp only)); at_builtin; refine Kd.R_append k71 (w0 := w) w.heap.size rfl (.tmp 75) (.tmp 81) 67 71 (.agg #[(.string ⟨#[]⟩), (.int .u8 0)]) 24 rfl Try.underlying67 info71 rfl (by decide) (by omega) u2 x2_1 (⟨x0_1.extract 0 (t101 : Int).toNat, 1⟩ : S71) [.string (x0_1.extract 0 (t101 : Int).toNat), .int .u8 1] (fun _ => True) (fun _ => False) rfl rfl ?aP (fun _ hk => hk.elim) ?aF ?aO ?aB ?aS ?aL ?_; (case aP => exact k71_mkM _ _ _ (⟨x0_1.extract 0 (t101 : Int).toNat, 1⟩ : S71)); (case aB => exact (by repeat (first | (with_reducible first | exact HB.out | apply below_alloc | apply pw_below_drewN | apply below_drew1) | exact HB.out))); (case aF => exact (fun _ _ => trivial)); (case aO => exact (by (with_reducible repeat (first | apply Kd.R_alloc | apply Kd.R_drewN | apply Kd.R_drew)); exact HO_2.out)); (case aS => exact (below_size (by repeat (first | (with_reducible first | exact HB.out | apply below_alloc | apply pw_below_drewN | apply below_drew1) | exact HB.out)))); (case aL => have := LMc109.out; omega); intro v142 w112 ho hb hg hat; rw [← Ny141.out] at ho; have n0_ := Aside0.mk (hb); have n1_ := Aside0.mk (ho); clear HB; clear HO_2; have HB := n0_; have HO143 := n1_; clear n0_ n1_; clear ho hb hg hat))
                                      go_roundg k2
                                      case measure => have := HK1.out; have := HK2.out; omega
                                      case rel => exact ⟨(x0_1.extract ((ji7) : Int).toNat x0_1.size), (y141), (by first | rfl | (simp; done) | (simp only [← hji7] <;> (first | rfl | simp)) | (simp [*]; done)), H', ⟨by have := HK1.out; have := HK2.out; omega⟩, ⟨by (with_reducible repeat (first | apply Kd.R_alloc | apply Kd.R_drewN | apply Kd.R_drew)); exact HO143.out⟩, ⟨by repeat (first | (with_reducible first | exact HB.out | apply below_alloc | apply pw_below_drewN | apply below_drew1) | exact HB.out)⟩⟩
                                    · rw [if_neg c111] at H
                                      exact absurd H (by simp)
                                  · rw [if_neg c109] at H
                                    exact absurd H (by simp)
                                · rw [if_neg c108] at H
                                  exact absurd H (by simp)
                              · rw [if_neg c107] at H
                                exact absurd H (by simp)
                        · rw [if_neg c44] at H
                          exact absurd H (by simp)
                      · rw [if_neg c43] at H
                        exact absurd H (by simp)
                  · rw [if_neg c11] at H
                    have c11b0 : decide (1 < x4_2) = false := decide_eq_false c11
                    clear c11
                    by_cases c113 : 0 ≤ t101
                    · rw [if_pos c113] at H
                      have c113b0 := eq_true c113
                      have c113b1 : decide (0 ≤ t101) = true := decide_eq_true c113
                      clear c113
                      by_cases c114 : t101 ≤ (x0_1.size : Int)
                      · rw [if_pos c114] at H
                        have c114b0 := eq_true c114
                        have c114b1 : decide (t101 ≤ (x0_1.size : Int)) = true := decide_eq_true c114
                        clear c114
                        by_cases c115 : x2_1.length < 5864062014805
                        · rw [if_pos c115] at H
                          have LMc115 := Aside0.mk c115
                          clear c115
                          obtain ⟨y144, hy144⟩ : ∃ y_ : List (S71), y_ = (x2_1 ++ [(⟨x0_1.extract 0 (t101 : Int).toNat, 1⟩ : S71)]) := ⟨_, rfl⟩
                          replace H : (if (ji7) ≤ (x0_1.size : Int) then (helpers_ParseGlobPattern.l0 k2 (x0_1.extract ((ji7) : Int).toNat x0_1.size) y144) else (none)) = some r := by first | (rw [hy144]; with_reducible exact H) | (have H2_ := (Option.bind_some _ _).symm.trans H; rw [hy144]; with_reducible exact H2_) | (have H2_ := (Option.bind_some _ _).symm.trans H; with_reducible exact H2_) | with_reducible exact H | (rw [hy144]; exact H) | exact H
                          have Ny144 := Aside0.mk hy144
                          clear hy144
                          have c116b0 := eq_true (of_decide_eq_true (by first | (with_reducible assumption) | assumption) : 0 ≤ (ji7))
                          by_cases c117 : (ji7) ≤ (x0_1.size : Int)
                          · rw [if_pos c117] at H
                            have c117b0 := eq_true c117
                            have c117b1 : decide ((ji7) ≤ (x0_1.size : Int)) = true := decide_eq_true c117
                            clear c117
                            have H' := Aside0.mk H
                            clear H
                            have p9 : 0 ≤ ((ji7) : Int) := of_decide_eq_true (by first | (with_reducible assumption) | assumption)
                            have q9 : (ji7) < (x0_1.size : Int) := of_decide_eq_true (by first | (with_reducible assumption) | assumption)
                            have hx9 := bt_at x0_1 (ji7)
                            replace p9 := eq_true p9
                            replace q9 := eq_true q9
                            go_wp2_with (first | ((with_reducible refine gate_builtin (b := .append) (xs := #[.tmp 75, .tmp 81]) rfl ?_); (try (refine gate_guard (by rfl) ?_; dsimp only)); at_builtin; refine Kd.R_append k71 (w0 := w) w.heap.size rfl (.tmp 75) (.tmp 81) 67 71 (.agg #[(.string ⟨#[]⟩), (.int .u8 0)]) 24 rfl Try.underlying67 info71 rfl (by decide) (by omega) u2 x2_1 (⟨x0_1.extract 0 (t101 : Int).toNat, 1⟩ : S71) [.string (x0_1.extract 0 (t101 : Int).toNat), .int .u8 1] (fun _ => True) (fun _ => False) rfl rfl ?aP (fun _ hk => hk.elim) ?aF ?aO ?aB ?aS ?aL ?_; (case aP => exact k71_mkM _ _ _ (⟨x0_1.extract 0 (t101 : Int).toNat, 1⟩ : S71)); (case aB => exact (by repeat (first | (with_reducible first | exact HB.out | apply below_alloc | apply pw_below_drewN | apply below_drew1) | exact HB.out))); (case aF => exact (fun _ _ => trivial)); (case aO => exact (by (with_reducible repeat (first | apply Kd.R_alloc | apply Kd.R_drewN | apply Kd.R_drew)); exact HO_2.out)); (case aS => exact (below_size (by repeat (first | (with_reducible first | exact HB.out | apply below_alloc | apply pw_below_drewN | apply below_drew1) | exact HB.out)))); (case aL => have := LMc115.out; omega); intro v145 w118 ho hb hg hat; rw [← Ny144.out] at ho; have n0_ := Aside0.mk (hb); have n1_ := Aside0.mk (ho); clear HB; clear HO_2; have HB := n0_; have HO146 := n1_; clear n0_ n1_; clear ho hb hg hat))
                            go_roundg k2
                            case measure => have := HK1.out; have := HK2.out; omega
                            case rel => exact ⟨(x0_1.extract ((ji7) : Int).toNat x0_1.size), (y144), (by first | rfl | (simp; done) | (simp only [← hji7] <;> (first | rfl | simp)) | (simp [*]; done)), H', ⟨by have := HK1.out; have := HK2.out; omega⟩, ⟨by (with_reducible repeat (first | apply Kd.R_alloc | apply Kd.R_drewN | apply Kd.R_drew)); exact HO146.out⟩, ⟨by repeat (first | (with_reducible first | exact HB.out | apply below_alloc | apply pw_below_drewN | apply below_drew1) | exact HB.out)⟩⟩
                          · rw [if_neg c117] at H
                            exact absurd H (by simp)
                        · rw [if_neg c115] at H
                          exact absurd H (by simp)
                      · rw [if_neg c114] at H
                        exact absurd H (by simp)
                    · rw [if_neg c113] at H
                      exact absurd H (by simp)
              · rw [if_neg c8] at H
                exact absurd H (by simp)
            · rw [if_neg c6] at H
              have c6b0 : decide ((wrap64 (t101 + x4_2)) < (x0_1.size : Int)) = false := decide_eq_false c6
              clear c6
              by_cases c119 : x4_2 > 1
              · rw [if_pos c119] at H
                have c119b0 : decide (1 < x4_2) = true := decide_eq_true c119
                clear c119
                by_cases c120 : t101 = 0
                · rw [if_pos c120] at H
                  have c120b0 : (t101 == 0) = true := beq_iff_eq.mpr c120
                  have c120b1 : (t101 != 0) = false := bne_eq_false_iff_eq.mpr c120
                  clear c120
                  by_cases c121 : (wrap64 (t101 + x4_2)) = (x0_1.size : Int)
                  · rw [if_pos c121] at H
                    have c121b0 : ((wrap64 (t101 + x4_2)) == (x0_1.size : Int)) = true := beq_iff_eq.mpr c121
                    have c121b1 : ((wrap64 (t101 + x4_2)) != (x0_1.size : Int)) = false := bne_eq_false_iff_eq.mpr c121
                    clear c121
                    by_cases c122 : 0 ≤ t101
                    · rw [if_pos c122] at H
                      have c122b0 := eq_true c122
                      have c122b1 : decide (0 ≤ t101) = true := decide_eq_true c122
                      clear c122
                      by_cases c123 : t101 ≤ (x0_1.size : Int)
                      · rw [if_pos c123] at H
                        have c123b0 := eq_true c123
                        have c123b1 : decide (t101 ≤ (x0_1.size : Int)) = true := decide_eq_true c123
                        clear c123
                        by_cases c124 : x2_1.length < 5864062014805
                        · rw [if_pos c124] at H
                          have LMc124 := Aside0.mk c124
                          clear c124
                          obtain ⟨y147, hy147⟩ : ∃ y_ : List (S71), y_ = (x2_1 ++ [(⟨x0_1.extract 0 (t101 : Int).toNat, 2⟩ : S71)]) := ⟨_, rfl⟩
                          replace H : (if 0 ≤ (wrap64 (t101 + x4_2)) then (if (wrap64 (t101 + x4_2)) ≤ (x0_1.size : Int) then (helpers_ParseGlobPattern.l0 k2 (x0_1.extract ((wrap64 (t101 + x4_2)) : Int).toNat x0_1.size) y147) else (none)) else (none)) = some r := by first | (rw [hy147]; with_reducible exact H) | (have H2_ := (Option.bind_some _ _).symm.trans H; rw [hy147]; with_reducible exact H2_) | (have H2_ := (Option.bind_some _ _).symm.trans H; with_reducible exact H2_) | with_reducible exact H | (rw [hy147]; exact H) | exact H
                          have Ny147 := Aside0.mk hy147
                          clear hy147
                          obtain ⟨ji125, hji125⟩ : ∃ j_ : Int, (wrap64 (t101 + x4_2)) = j_ := ⟨_, rfl⟩
                          replace H : (if 0 ≤ (ji125) then (if (ji125) ≤ (x0_1.size : Int) then (helpers_ParseGlobPattern.l0 k2 (x0_1.extract ((ji125) : Int).toNat x0_1.size) y147) else (none)) else (none)) = some r := by first | (rw [hji125] at H; exact H) | (simp only [hji125] at H ⊢; exact H)
                          (try rw [hji125] at c6b0)
                          (try rw [hji125] at c121b0)
                          (try rw [hji125] at c121b1)
                          have hji125w : (IntKind.i64.wrap (t101 + x4_2)) = ji125 := (i64_w _).trans hji125
                          by_cases c126 : 0 ≤ (ji125)
                          · rw [if_pos c126] at H
                            have c126b0 := eq_true c126
                            have c126b1 : decide (0 ≤ (ji125)) = true := decide_eq_true c126
                            clear c126
                            by_cases c127 : (ji125) ≤ (x0_1.size : Int)
                            · rw [if_pos c127] at H
                              have c127b0 := eq_true c127
                              have c127b1 : decide ((ji125) ≤ (x0_1.size : Int)) = true := decide_eq_true c127
                              clear c127
                              have H' := Aside0.mk H
                              clear H
                              go_wp2_with (first | ((with_reducible refine gate_builtin (b := .append) (xs := #[.tmp 75, .tmp 81]) rfl ?_); (try (refine gate_guard (by rfl) ?_; dsimp only)); at_builtin; refine Kd.R_append k71 (w0 := w) w.heap.size rfl (.tmp 75) (.tmp 81) 67 71 (.agg #[(.string ⟨#[]⟩), (.int .u8 0)]) 24 rfl Try.underlying67 info71 rfl (by decide) (by omega) u2 x2_1 (⟨x0_1.extract 0 (t101 : Int).toNat, 2⟩ : S71) [.string (x0_1.extract 0 (t101 : Int).toNat), .int .u8 2] (fun _ => True) (fun _ => False) rfl rfl ?aP (fun _ hk => hk.elim) ?aF ?aO ?aB ?aS ?aL ?_; (case aP => exact k71_mkM _ _ _ (⟨x0_1.extract 0 (t101 : Int).toNat, 2⟩ : S71)); (case aB => exact (by repeat (first | (with_reducible first | exact HB.out | apply below_alloc | apply pw_below_drewN | apply below_drew1) | exact HB.out))); (case aF => exact (fun _ _ => trivial)); (case aO => exact (by (with_reducible repeat (first | apply Kd.R_alloc | apply Kd.R_drewN | apply Kd.R_drew)); exact HO_2.out)); (case aS => exact (below_size (by repeat (first | (with_reducible first | exact HB.out | apply below_alloc | apply pw_below_drewN | apply below_drew1) | exact HB.out)))); (case aL => have := LMc124.out; omega); intro v148 w128 ho hb hg hat; rw [← Ny147.out] at ho; have n0_ := Aside0.mk (hb); have n1_ := Aside0.mk (ho); clear HB; clear HO_2; have HB := n0_; have HO149 := n1_; clear n0_ n1_; clear ho hb hg hat))
                              go_roundg k2
                              case measure => have := HK1.out; have := HK2.out; omega
                              case rel => exact ⟨(x0_1.extract ((ji125) : Int).toNat x0_1.size), (y147), (by first | rfl | (simp; done) | (simp only [← hji125] <;> (first | rfl | simp)) | (simp [*]; done)), H', ⟨by have := HK1.out; have := HK2.out; omega⟩, ⟨by (with_reducible repeat (first | apply Kd.R_alloc | apply Kd.R_drewN | apply Kd.R_drew)); exact HO149.out⟩, ⟨by repeat (first | (with_reducible first | exact HB.out | apply below_alloc | apply pw_below_drewN | apply below_drew1) | exact HB.out)⟩⟩
                            · rw [if_neg c127] at H
                              exact absurd H (by simp)
                          · rw [if_neg c126] at H
                            exact absurd H (by simp)
                        · rw [if_neg c124] at H
                          exact absurd H (by simp)
                      · rw [if_neg c123] at H
                        exact absurd H (by simp)
                    · rw [if_neg c122] at H
                      exact absurd H (by simp)
                  · rw [if_neg c121] at H
                    have c121b0 : ((wrap64 (t101 + x4_2)) == (x0_1.size : Int)) = false := beq_eq_false_iff_ne.mpr c121
                    have c121b1 : ((wrap64 (t101 + x4_2)) != (x0_1.size : Int)) = true := bne_iff_ne.mpr c121
                    obtain ⟨ji129, hji129⟩ : ∃ j_ : Int, (wrap64 (t101 + x4_2)) = j_ := ⟨_, rfl⟩
                    replace H : (if 0 ≤ (ji129) then (none) else (none)) = some r := by first | (rw [hji129] at H; exact H) | (simp only [hji129] at H ⊢; exact H)
                    (try rw [hji129] at c6b0)
                    (try rw [hji129] at c121b0)
                    (try rw [hji129] at c121b1)
                    have hji129w : (IntKind.i64.wrap (t101 + x4_2)) = ji129 := (i64_w _).trans hji129
                    by_cases c130 : 0 ≤ (ji129)
                    · rw [if_pos c130] at H
                      exact absurd H (by simp)
                    · rw [if_neg c130] at H
                      exact absurd H (by simp)
                · rw [if_neg c120] at H
                  have c120b0 : (t101 == 0) = false := beq_eq_false_iff_ne.mpr c120
                  have c120b1 : (t101 != 0) = true := bne_iff_ne.mpr c120
                  obtain ⟨ji131, hji131⟩ : ∃ j_ : Int, (wrap64 (t101 - 1)) = j_ := ⟨_, rfl⟩
                  replace H : (if 0 ≤ (ji131) then (if (ji131) < (x0_1.size : Int) then (if (bt x0_1 (ji131)) = 47 then (if (wrap64 (t101 + x4_2)) = (x0_1.size : Int) then (if 0 ≤ t101 then (if t101 ≤ (x0_1.size : Int) then (if x2_1.length < 5864062014805 then (if 0 ≤ (wrap64 (t101 + x4_2)) then (if (wrap64 (t101 + x4_2)) ≤ (x0_1.size : Int) then (helpers_ParseGlobPattern.l0 k2 (x0_1.extract ((wrap64 (t101 + x4_2)) : Int).toNat x0_1.size) (x2_1 ++ [(⟨x0_1.extract 0 (t101 : Int).toNat, 2⟩ : S71)])) else (none)) else (none)) else (none)) else (none)) else (none)) else (if 0 ≤ (wrap64 (t101 + x4_2)) then (none) else (none))) else (if (bt x0_1 (ji131)) = 92 then (if (wrap64 (t101 + x4_2)) = (x0_1.size : Int) then (if 0 ≤ t101 then (if t101 ≤ (x0_1.size : Int) then (if x2_1.length < 5864062014805 then (if 0 ≤ (wrap64 (t101 + x4_2)) then (if (wrap64 (t101 + x4_2)) ≤ (x0_1.size : Int) then (helpers_ParseGlobPattern.l0 k2 (x0_1.extract ((wrap64 (t101 + x4_2)) : Int).toNat x0_1.size) (x2_1 ++ [(⟨x0_1.extract 0 (t101 : Int).toNat, 2⟩ : S71)])) else (none)) else (none)) else (none)) else (none)) else (none)) else (if 0 ≤ (wrap64 (t101 + x4_2)) then (none) else (none))) else (if 0 ≤ t101 then (if t101 ≤ (x0_1.size : Int) then (if x2_1.length < 5864062014805 then (if 0 ≤ (wrap64 (t101 + x4_2)) then (if (wrap64 (t101 + x4_2)) ≤ (x0_1.size : Int) then (helpers_ParseGlobPattern.l0 k2 (x0_1.extract ((wrap64 (t101 + x4_2)) : Int).toNat x0_1.size) (x2_1 ++ [(⟨x0_1.extract 0 (t101 : Int).toNat, 1⟩ : S71)])) else (none)) else (none)) else (none)) else (none)) else (none)))) else (none)) else (none)) = some r := by first | (rw [hji131] at H; exact H) | (simp only [hji131] at H ⊢; exact H)
                  have hji131w : (IntKind.i64.wrap (t101 - 1)) = ji131 := (i64_w _).trans hji131
                  by_cases c132 : 0 ≤ (ji131)
                  · rw [if_pos c132] at H
                    have c132b0 : decide (0 ≤ (ji131)) = true := decide_eq_true c132
                    clear c132
                    by_cases c133 : (ji131) < (x0_1.size : Int)
                    · rw [if_pos c133] at H
                      have c133b0 : decide ((ji131) < (x0_1.size : Int)) = true := decide_eq_true c133
                      clear c133
                      by_cases c135 : (bt x0_1 (ji131)) = 47
                      · rw [if_pos c135] at H
                        have c135b0 : ((bt x0_1 (ji131)) == 47) = true := beq_iff_eq.mpr c135
                        have c135b1 : ((bt x0_1 (ji131)) != 47) = false := bne_eq_false_iff_eq.mpr c135
                        clear c135
                        by_cases c136 : (wrap64 (t101 + x4_2)) = (x0_1.size : Int)
                        · rw [if_pos c136] at H
                          have c136b0 : ((wrap64 (t101 + x4_2)) == (x0_1.size : Int)) = true := beq_iff_eq.mpr c136
                          have c136b1 : ((wrap64 (t101 + x4_2)) != (x0_1.size : Int)) = false := bne_eq_false_iff_eq.mpr c136
                          clear c136
                          by_cases c137 : 0 ≤ t101
                          · rw [if_pos c137] at H
                            have c137b0 := eq_true c137
                            have c137b1 : decide (0 ≤ t101) = true := decide_eq_true c137
                            clear c137
                            by_cases c138 : t101 ≤ (x0_1.size : Int)
                            · rw [if_pos c138] at H
                              have c138b0 := eq_true c138
                              have c138b1 : decide (t101 ≤ (x0_1.size : Int)) = true := decide_eq_true c138
                              clear c138
                              by_cases c139 : x2_1.length < 5864062014805
                              · rw [if_pos c139] at H
                                have LMc139 := Aside0.mk c139
                                clear c139
                                obtain ⟨y150, hy150⟩ : ∃ y_ : List (S71), y_ = (x2_1 ++ [(⟨x0_1.extract 0 (t101 : Int).toNat, 2⟩ : S71)]) := ⟨_, rfl⟩
                                replace H : (if 0 ≤ (wrap64 (t101 + x4_2)) then (if (wrap64 (t101 + x4_2)) ≤ (x0_1.size : Int) then (helpers_ParseGlobPattern.l0 k2 (x0_1.extract ((wrap64 (t101 + x4_2)) : Int).toNat x0_1.size) y150) else (none)) else (none)) = some r := by first | (rw [hy150]; with_reducible exact H) | (have H2_ := (Option.bind_some _ _).symm.trans H; rw [hy150]; with_reducible exact H2_) | (have H2_ := (Option.bind_some _ _).symm.trans H; with_reducible exact H2_) | with_reducible exact H | (rw [hy150]; exact H) | exact H
                                have Ny150 := Aside0.mk hy150
                                clear hy150
                                obtain ⟨ji140, hji140⟩ : ∃ j_ : Int, (wrap64 (t101 + x4_2)) = j_ := ⟨_, rfl⟩
                                replace H : (if 0 ≤ (ji140) then (if (ji140) ≤ (x0_1.size : Int) then (helpers_ParseGlobPattern.l0 k2 (x0_1.extract ((ji140) : Int).toNat x0_1.size) y150) else (none)) else (none)) = some r := by first | (rw [hji140] at H; exact H) | (simp only [hji140] at H ⊢; exact H)
                                (try rw [hji140] at c6b0)
                                (try rw [hji140] at c136b0)
                                (try rw [hji140] at c136b1)
                                have hji140w : (IntKind.i64.wrap (t101 + x4_2)) = ji140 := (i64_w _).trans hji140
                                by_cases c141 : 0 ≤ (ji140)
                                · rw [if_pos c141] at H
                                  have c141b0 := eq_true c141
                                  have c141b1 : decide (0 ≤ (ji140)) = true := decide_eq_true c141
                                  clear c141
                                  by_cases c142 : (ji140) ≤ (x0_1.size : Int)
                                  · rw [if_pos c142] at H
                                    have c142b0 := eq_true c142
                                    have c142b1 : decide ((ji140) ≤ (x0_1.size : Int)) = true := decide_eq_true c142
                                    clear c142
                                    have H' := Aside0.mk H
                                    clear H
                                    have p134 : 0 ≤ ((ji131) : Int) := of_decide_eq_true (by first | (with_reducible assumption) | assumption)
                                    have q134 : (ji131) < (x0_1.size : Int) := of_decide_eq_true (by first | (with_reducible assumption) | assumption)
                                    have hx134 := bt_at x0_1 (ji131)
                                    replace p134 := eq_true p134
                                    replace q134 := eq_true q134
                                    go_wp2_with (first | ((with_reducible refine gate_builtin (b := .append) (xs := #[.tmp 75, .tmp 81]) rfl ?_); (try (refine gate_guard (by rfl) ?_; dsimp only)); at_builtin; refine Kd.R_append k71 (w0 := w) w.heap.size rfl (.tmp 75) (.tmp 81) 67 71 (.agg #[(.string ⟨#[]⟩), (.int .u8 0)]) 24 rfl Try.underlying67 info71 rfl (by decide) (by omega) u2 x2_1 (⟨x0_1.extract 0 (t101 : Int).toNat, 2⟩ : S71) [.string (x0_1.extract 0 (t101 : Int).toNat), .int .u8 2] (fun _ => True) (fun _ => False) rfl rfl ?aP (fun _ hk => hk.elim) ?aF ?aO ?aB ?aS ?aL ?_; (case aP => exact k71_mkM _ _ _ (⟨x0_1.extract 0 (t101 : Int).toNat, 2⟩ : S71)); (case aB => exact (by repeat (first | (with_reducible first | exact HB.out | apply below_alloc | apply pw_below_drewN | apply below_drew1) | exact HB.out))); (case aF => exact (fun _ _ => trivial)); (case aO => exact (by (with_reducible repeat (first | apply Kd.R_alloc | apply Kd.R_drewN | apply Kd.R_drew)); exact HO_2.out)); (case aS => exact (below_size (by repeat (first | (with_reducible first | exact HB.out | apply below_alloc | apply pw_below_drewN | apply below_drew1) | exact HB.out)))); (case aL => have := LMc139.out; omega); intro v151 w143 ho hb hg hat; rw [← Ny150.out] at ho; have n0_ := Aside0.mk (hb); have n1_ := Aside0.mk (ho); clear HB; clear HO_2; have HB := n0_; have HO152 := n1_; clear n0_ n1_; clear ho hb hg hat))
                                    go_roundg k2
                                    case measure => have := HK1.out; have := HK2.out; omega
                                    case rel => exact ⟨(x0_1.extract ((ji140) : Int).toNat x0_1.size), (y150), (by first | rfl | (simp; done) | (simp only [← hji140] <;> (first | rfl | simp)) | (simp [*]; done)), H', ⟨by have := HK1.out; have := HK2.out; omega⟩, ⟨by (with_reducible repeat (first | apply Kd.R_alloc | apply Kd.R_drewN | apply Kd.R_drew)); exact HO152.out⟩, ⟨by repeat (first | (with_reducible first | exact HB.out | apply below_alloc | apply pw_below_drewN | apply below_drew1) | exact HB.out)⟩⟩
                                  · rw [if_neg c142] at H
                                    exact absurd H (by simp)
                                · rw [if_neg c141] at H
                                  exact absurd H (by simp)
                              · rw [if_neg c139] at H
                                exact absurd H (by simp)
                            · rw [if_neg c138] at H
                              exact absurd H (by simp)
                          · rw [if_neg c137] at H
                            exact absurd H (by simp)
                        · rw [if_neg c136] at H
                          have c136b0 : ((wrap64 (t101 + x4_2)) == (x0_1.size : Int)) = false := beq_eq_false_iff_ne.mpr c136
                          have c136b1 : ((wrap64 (t101 + x4_2)) != (x0_1.size : Int)) = true := bne_iff_ne.mpr c136
                          obtain ⟨ji144, hji144⟩ : ∃ j_ : Int, (wrap64 (t101 + x4_2)) = j_ := ⟨_, rfl⟩
                          replace H : (if 0 ≤ (ji144) then (none) else (none)) = some r := by first | (rw [hji144] at H; exact H) | (simp only [hji144] at H ⊢; exact H)
                          (try rw [hji144] at c6b0)
                          (try rw [hji144] at c136b0)
                          (try rw [hji144] at c136b1)
                          have hji144w : (IntKind.i64.wrap (t101 + x4_2)) = ji144 := (i64_w _).trans hji144
                          by_cases c145 : 0 ≤ (ji144)
                          · rw [if_pos c145] at H
                            exact absurd H (by simp)
                          · rw [if_neg c145] at H
                            exact absurd H (by simp)
                      · rw [if_neg c135] at H
                        have c135b0 : ((bt x0_1 (ji131)) == 47) = false := beq_eq_false_iff_ne.mpr c135
                        have c135b1 : ((bt x0_1 (ji131)) != 47) = true := bne_iff_ne.mpr c135
                        by_cases c147 : (bt x0_1 (ji131)) = 92
                        · rw [if_pos c147] at H
                          have c147b0 : ((bt x0_1 (ji131)) == 92) = true := beq_iff_eq.mpr c147
                          have c147b1 : ((bt x0_1 (ji131)) != 92) = false := bne_eq_false_iff_eq.mpr c147
                          clear c147
                          by_cases c148 : (wrap64 (t101 + x4_2)) = (x0_1.size : Int)
                          · rw [if_pos c148] at H
                            have c148b0 : ((wrap64 (t101 + x4_2)) == (x0_1.size : Int)) = true := beq_iff_eq.mpr c148
                            have c148b1 : ((wrap64 (t101 + x4_2)) != (x0_1.size : Int)) = false := bne_eq_false_iff_eq.mpr c148
                            clear c148
                            by_cases c149 : 0 ≤ t101
                            · rw [if_pos c149] at H
                              have c149b0 := eq_true c149
                              have c149b1 : decide (0 ≤ t101) = true := decide_eq_true c149
                              clear c149
                              by_cases c150 : t101 ≤ (x0_1.size : Int)
                              · rw [if_pos c150] at H
                                have c150b0 := eq_true c150
                                have c150b1 : decide (t101 ≤ (x0_1.size : Int)) = true := decide_eq_true c150
                                clear c150
                                by_cases c151 : x2_1.length < 5864062014805
                                · rw [if_pos c151] at H
                                  have LMc151 := Aside0.mk c151
                                  clear c151
                                  obtain ⟨y153, hy153⟩ : ∃ y_ : List (S71), y_ = (x2_1 ++ [(⟨x0_1.extract 0 (t101 : Int).toNat, 2⟩ : S71)]) := ⟨_, rfl⟩
                                  replace H : (if 0 ≤ (wrap64 (t101 + x4_2)) then (if (wrap64 (t101 + x4_2)) ≤ (x0_1.size : Int) then (helpers_ParseGlobPattern.l0 k2 (x0_1.extract ((wrap64 (t101 + x4_2)) : Int).toNat x0_1.size) y153) else (none)) else (none)) = some r := by first | (rw [hy153]; with_reducible exact H) | (have H2_ := (Option.bind_some _ _).symm.trans H; rw [hy153]; with_reducible exact H2_) | (have H2_ := (Option.bind_some _ _).symm.trans H; with_reducible exact H2_) | with_reducible exact H | (rw [hy153]; exact H) | exact H
                                  have Ny153 := Aside0.mk hy153
                                  clear hy153
                                  obtain ⟨ji152, hji152⟩ : ∃ j_ : Int, (wrap64 (t101 + x4_2)) = j_ := ⟨_, rfl⟩
                                  replace H : (if 0 ≤ (ji152) then (if (ji152) ≤ (x0_1.size : Int) then (helpers_ParseGlobPattern.l0 k2 (x0_1.extract ((ji152) : Int).toNat x0_1.size) y153) else (none)) else (none)) = some r := by first | (rw [hji152] at H; exact H) | (simp only [hji152] at H ⊢; exact H)
                                  (try rw [hji152] at c6b0)
                                  (try rw [hji152] at c148b0)
                                  (try rw [hji152] at c148b1)
                                  have hji152w : (IntKind.i64.wrap (t101 + x4_2)) = ji152 := (i64_w _).trans hji152
                                  by_cases c153 : 0 ≤ (ji152)
                                  · rw [if_pos c153] at H
                                    have c153b0 := eq_true c153
                                    have c153b1 : decide (0 ≤ (ji152)) = true := decide_eq_true c153
                                    clear c153
                                    by_cases c154 : (ji152) ≤ (x0_1.size : Int)
                                    · rw [if_pos c154] at H
                                      have c154b0 := eq_true c154
                                      have c154b1 : decide ((ji152) ≤ (x0_1.size : Int)) = true := decide_eq_true c154
                                      clear c154
                                      have H' := Aside0.mk H
                                      clear H
                                      have p134 : 0 ≤ ((ji131) : Int) := of_decide_eq_true (by first | (with_reducible assumption) | assumption)
                                      have q134 : (ji131) < (x0_1.size : Int) := of_decide_eq_true (by first | (with_reducible assumption) | assumption)
                                      have hx134 := bt_at x0_1 (ji131)
                                      replace p134 := eq_true p134
                                      replace q134 := eq_true q134
                                      have p146 : 0 ≤ ((ji131) : Int) := of_decide_eq_true (by first | (with_reducible assumption) | assumption)
                                      have q146 : (ji131) < (x0_1.size : Int) := of_decide_eq_true (by first | (with_reducible assumption) | assumption)
                                      have hx146 := bt_at x0_1 (ji131)
                                      replace p146 := eq_true p146
                                      replace q146 := eq_true q146
                                      go_wp2_with (first | ((with_reducible refine gate_builtin (b := .append) (xs := #[.tmp 75, .tmp 81]) rfl ?_); (try (refine gate_guard (by rfl) ?_; dsimp only)); at_builtin; refine Kd.R_append k71 (w0 := w) w.heap.size rfl (.tmp 75) (.tmp 81) 67 71 (.agg #[(.string ⟨#[]⟩), (.int .u8 0)]) 24 rfl Try.underlying67 info71 rfl (by decide) (by omega) u2 x2_1 (⟨x0_1.extract 0 (t101 : Int).toNat, 2⟩ : S71) [.string (x0_1.extract 0 (t101 : Int).toNat), .int .u8 2] (fun _ => True) (fun _ => False) rfl rfl ?aP (fun _ hk => hk.elim) ?aF ?aO ?aB ?aS ?aL ?_; (case aP => exact k71_mkM _ _ _ (⟨x0_1.extract 0 (t101 : Int).toNat, 2⟩ : S71)); (case aB => exact (by repeat (first | (with_reducible first | exact HB.out | apply below_alloc | apply pw_below_drewN | apply below_drew1) | exact HB.out))); (case aF => exact (fun _ _ => trivial)); (case aO => exact (by (with_reducible repeat (first | apply Kd.R_alloc | apply Kd.R_drewN | apply Kd.R_drew)); exact HO_2.out)); (case aS => exact (below_size (by repeat (first | (with_reducible first | exact HB.out | apply below_alloc | apply pw_below_drewN | apply below_drew1) | exact HB.out)))); (case aL => have := LMc151.out; omega); intro v154 w155 ho hb hg hat; rw [← Ny153.out] at ho; have n0_ := Aside0.mk (hb); have n1_ := Aside0.mk (ho); clear HB; clear HO_2; have HB := n0_; have HO155 := n1_; clear n0_ n1_; clear ho hb hg hat))
                                      go_roundg k2
                                      case measure => have := HK1.out; have := HK2.out; omega
                                      case rel => exact ⟨(x0_1.extract ((ji152) : Int).toNat x0_1.size), (y153), (by first | rfl | (simp; done) | (simp only [← hji152] <;> (first | rfl | simp)) | (simp [*]; done)), H', ⟨by have := HK1.out; have := HK2.out; omega⟩, ⟨by (with_reducible repeat (first | apply Kd.R_alloc | apply Kd.R_drewN | apply Kd.R_drew)); exact HO155.out⟩, ⟨by repeat (first | (with_reducible first | exact HB.out | apply below_alloc | apply pw_below_drewN | apply below_drew1) | exact HB.out)⟩⟩
                                    · rw [if_neg c154] at H
                                      exact absurd H (by simp)
                                  · rw [if_neg c153] at H
                                    exact absurd H (by simp)
                                · rw [if_neg c151] at H
                                  exact absurd H (by simp)
                              · rw [if_neg c150] at H
                                exact absurd H (by simp)
                            · rw [if_neg c149] at H
                              exact absurd H (by simp)
                          · rw [if_neg c148] at H
                            have c148b0 : ((wrap64 (t101 + x4_2)) == (x0_1.size : Int)) = false := beq_eq_false_iff_ne.mpr c148
                            have c148b1 : ((wrap64 (t101 + x4_2)) != (x0_1.size : Int)) = true := bne_iff_ne.mpr c148
                            obtain ⟨ji156, hji156⟩ : ∃ j_ : Int, (wrap64 (t101 + x4_2)) = j_ := ⟨_, rfl⟩
                            replace H : (if 0 ≤ (ji156) then (none) else (none)) = some r := by first | (rw [hji156] at H; exact H) | (simp only [hji156] at H ⊢; exact H)
                            (try rw [hji156] at c6b0)
                            (try rw [hji156] at c148b0)
                            (try rw [hji156] at c148b1)
                            have hji156w : (IntKind.i64.wrap (t101 + x4_2)) = ji156 := (i64_w _).trans hji156
                            by_cases c157 : 0 ≤ (ji156)
                            · rw [if_pos c157] at H
                              exact absurd H (by simp)
                            · rw [if_neg c157] at H
                              exact absurd H (by simp)
                        · rw [if_neg c147] at H
                          have c147b0 : ((bt x0_1 (ji131)) == 92) = false := beq_eq_false_iff_ne.mpr c147
                          have c147b1 : ((bt x0_1 (ji131)) != 92) = true := bne_iff_ne.mpr c147
                          by_cases c158 : 0 ≤ t101
                          · rw [if_pos c158] at H
                            have c158b0 := eq_true c158
                            have c158b1 : decide (0 ≤ t101) = true := decide_eq_true c158
                            clear c158
                            by_cases c159 : t101 ≤ (x0_1.size : Int)
                            · rw [if_pos c159] at H
                              have c159b0 := eq_true c159
                              have c159b1 : decide (t101 ≤ (x0_1.size : Int)) = true := decide_eq_true c159
                              clear c159
                              by_cases c160 : x2_1.length < 5864062014805
                              · rw [if_pos c160] at H
                                have LMc160 := Aside0.mk c160
                                clear c160
                                obtain ⟨y156, hy156⟩ : ∃ y_ : List (S71), y_ = (x2_1 ++ [(⟨x0_1.extract 0 (t101 : Int).toNat, 1⟩ : S71)]) := ⟨_, rfl⟩
                                replace H : (if 0 ≤ (wrap64 (t101 + x4_2)) then (if (wrap64 (t101 + x4_2)) ≤ (x0_1.size : Int) then (helpers_ParseGlobPattern.l0 k2 (x0_1.extract ((wrap64 (t101 + x4_2)) : Int).toNat x0_1.size) y156) else (none)) else (none)) = some r := by first | (rw [hy156]; with_reducible exact H) | (have H2_ := (Option.bind_some _ _).symm.trans H; rw [hy156]; with_reducible exact H2_) | (have H2_ := (Option.bind_some _ _).symm.trans H; with_reducible exact H2_) | with_reducible exact H | (rw [hy156]; exact H) | exact H
                                have Ny156 := Aside0.mk hy156
                                clear hy156
                                obtain ⟨ji161, hji161⟩ : ∃ j_ : Int, (wrap64 (t101 + x4_2)) = j_ := ⟨_, rfl⟩
                                replace H : (if 0 ≤ (ji161) then (if (ji161) ≤ (x0_1.size : Int) then (helpers_ParseGlobPattern.l0 k2 (x0_1.extract ((ji161) : Int).toNat x0_1.size) y156) else (none)) else (none)) = some r := by first | (rw [hji161] at H; exact H) | (simp only [hji161] at H ⊢; exact H)
                                (try rw [hji161] at c6b0)
                                have hji161w : (IntKind.i64.wrap (t101 + x4_2)) = ji161 := (i64_w _).trans hji161
                                by_cases c162 : 0 ≤ (ji161)
                                · rw [if_pos c162] at H
                                  have c162b0 := eq_true c162
                                  have c162b1 : decide (0 ≤ (ji161)) = true := decide_eq_true c162
                                  clear c162
                                  by_cases c163 : (ji161) ≤ (x0_1.size : Int)
                                  · rw [if_pos c163] at H
                                    have c163b0 := eq_true c163
                                    have c163b1 : decide ((ji161) ≤ (x0_1.size : Int)) = true := decide_eq_true c163
                                    clear c163
                                    have H' := Aside0.mk H
                                    clear H
                                    have p134 : 0 ≤ ((ji131) : Int) := of_decide_eq_true (by first | (with_reducible assumption) | assumption)
                                    have q134 : (ji131) < (x0_1.size : Int) := of_decide_eq_true (by first | (with_reducible assumption) | assumption)
                                    have hx134 := bt_at x0_1 (ji131)
                                    replace p134 := eq_true p134
                                    replace q134 := eq_true q134
                                    have p146 : 0 ≤ ((ji131) : Int) := of_decide_eq_true (by first | (with_reducible assumption) | assumption)
                                    have q146 : (ji131) < (x0_1.size : Int) := of_decide_eq_true (by first | (with_reducible assumption) | assumption)
                                    have hx146 := bt_at x0_1 (ji131)
                                    replace p146 := eq_true p146
                                    replace q146 := eq_true q146
                                    go_wp2_with (first | ((with_reducible refine gate_builtin (b := .append) (xs := #[.tmp 75, .tmp 81]) rfl ?_); (try (refine gate_guard (by rfl) ?_; dsimp only)); at_builtin; refine Kd.R_append k71 (w0 := w) w.heap.size rfl (.tmp 75) (.tmp 81) 67 71 (.agg #[(.string ⟨#[]⟩), (.int .u8 0)]) 24 rfl Try.underlying67 info71 rfl (by decide) (by omega) u2 x2_1 (⟨x0_1.extract 0 (t101 : Int).toNat, 1⟩ : S71) [.string (x0_1.extract 0 (t101 : Int).toNat), .int .u8 1] (fun _ => True) (fun _ => False) rfl rfl ?aP (fun _ hk => hk.elim) ?aF ?aO ?aB ?aS ?aL ?_; (case aP => exact k71_mkM _ _ _ (⟨x0_1.extract 0 (t101 : Int).toNat, 1⟩ : S71)); (case aB => exact (by repeat (first | (with_reducible first | exact HB.out | apply below_alloc | apply pw_below_drewN | apply below_drew1) | exact HB.out))); (case aF => exact (fun _ _ => trivial)); (case aO => exact (by (with_reducible repeat (first | apply Kd.R_alloc | apply Kd.R_drewN | apply Kd.R_drew)); exact HO_2.out)); (case aS => exact (below_size (by repeat (first | (with_reducible first | exact HB.out | apply below_alloc | apply pw_below_drewN | apply below_drew1) | exact HB.out)))); (case aL => have := LMc160.out; omega); intro v157 w164 ho hb hg hat; rw [← Ny156.out] at ho; have n0_ := Aside0.mk (hb); have n1_ := Aside0.mk (ho); clear HB; clear HO_2; have HB := n0_; have HO158 := n1_; clear n0_ n1_; clear ho hb hg hat))
                                    go_roundg k2
                                    case measure => have := HK1.out; have := HK2.out; omega
                                    case rel => exact ⟨(x0_1.extract ((ji161) : Int).toNat x0_1.size), (y156), (by first | rfl | (simp; done) | (simp only [← hji161] <;> (first | rfl | simp)) | (simp [*]; done)), H', ⟨by have := HK1.out; have := HK2.out; omega⟩, ⟨by (with_reducible repeat (first | apply Kd.R_alloc | apply Kd.R_drewN | apply Kd.R_drew)); exact HO158.out⟩, ⟨by repeat (first | (with_reducible first | exact HB.out | apply below_alloc | apply pw_below_drewN | apply below_drew1) | exact HB.out)⟩⟩
                                  · rw [if_neg c163] at H
                                    exact absurd H (by simp)
                                · rw [if_neg c162] at H
                                  exact absurd H (by simp)
                              · rw [if_neg c160] at H
                                exact absurd H (by simp)
                            · rw [if_neg c159] at H
                              exact absurd H (by simp)
                          · rw [if_neg c158] at H
                            exact absurd H (by simp)
                    · rw [if_neg c133] at H
                      exact absurd H (by simp)
                  · rw [if_neg c132] at H
                    exact absurd H (by simp)
              · rw [if_neg c119] at H
                have c119b0 : decide (1 < x4_2) = false := decide_eq_false c119
                clear c119
                by_cases c165 : 0 ≤ t101
                · rw [if_pos c165] at H
                  have c165b0 := eq_true c165
                  have c165b1 : decide (0 ≤ t101) = true := decide_eq_true c165
                  clear c165
                  by_cases c166 : t101 ≤ (x0_1.size : Int)
                  · rw [if_pos c166] at H
                    have c166b0 := eq_true c166
                    have c166b1 : decide (t101 ≤ (x0_1.size : Int)) = true := decide_eq_true c166
                    clear c166
                    by_cases c167 : x2_1.length < 5864062014805
                    · rw [if_pos c167] at H
                      have LMc167 := Aside0.mk c167
                      clear c167
                      obtain ⟨y159, hy159⟩ : ∃ y_ : List (S71), y_ = (x2_1 ++ [(⟨x0_1.extract 0 (t101 : Int).toNat, 1⟩ : S71)]) := ⟨_, rfl⟩
                      replace H : (if 0 ≤ (wrap64 (t101 + x4_2)) then (if (wrap64 (t101 + x4_2)) ≤ (x0_1.size : Int) then (helpers_ParseGlobPattern.l0 k2 (x0_1.extract ((wrap64 (t101 + x4_2)) : Int).toNat x0_1.size) y159) else (none)) else (none)) = some r := by first | (rw [hy159]; with_reducible exact H) | (have H2_ := (Option.bind_some _ _).symm.trans H; rw [hy159]; with_reducible exact H2_) | (have H2_ := (Option.bind_some _ _).symm.trans H; with_reducible exact H2_) | with_reducible exact H | (rw [hy159]; exact H) | exact H
                      have Ny159 := Aside0.mk hy159
                      clear hy159
                      obtain ⟨ji168, hji168⟩ : ∃ j_ : Int, (wrap64 (t101 + x4_2)) = j_ := ⟨_, rfl⟩
                      replace H : (if 0 ≤ (ji168) then (if (ji168) ≤ (x0_1.size : Int) then (helpers_ParseGlobPattern.l0 k2 (x0_1.extract ((ji168) : Int).toNat x0_1.size) y159) else (none)) else (none)) = some r := by first | (rw [hji168] at H; exact H) | (simp only [hji168] at H ⊢; exact H)
                      (try rw [hji168] at c6b0)
                      have hji168w : (IntKind.i64.wrap (t101 + x4_2)) = ji168 := (i64_w _).trans hji168
                      by_cases c169 : 0 ≤ (ji168)
                      · rw [if_pos c169] at H
                        have c169b0 := eq_true c169
                        have c169b1 : decide (0 ≤ (ji168)) = true := decide_eq_true c169
                        clear c169
                        by_cases c170 : (ji168) ≤ (x0_1.size : Int)
                        · rw [if_pos c170] at H
                          have c170b0 := eq_true c170
                          have c170b1 : decide ((ji168) ≤ (x0_1.size : Int)) = true := decide_eq_true c170
                          clear c170
                          have H' := Aside0.mk H
                          clear H
                          go_wp2_with (first | ((with_reducible refine gate_builtin (b := .append) (xs := #[.tmp 75, .tmp 81]) rfl ?_); (try (refine gate_guard (by rfl) ?_; dsimp only)); at_builtin; refine Kd.R_append k71 (w0 := w) w.heap.size rfl (.tmp 75) (.tmp 81) 67 71 (.agg #[(.string ⟨#[]⟩), (.int .u8 0)]) 24 rfl Try.underlying67 info71 rfl (by decide) (by omega) u2 x2_1 (⟨x0_1.extract 0 (t101 : Int).toNat, 1⟩ : S71) [.string (x0_1.extract 0 (t101 : Int).toNat), .int .u8 1] (fun _ => True) (fun _ => False) rfl rfl ?aP (fun _ hk => hk.elim) ?aF ?aO ?aB ?aS ?aL ?_; (case aP => exact k71_mkM _ _ _ (⟨x0_1.extract 0 (t101 : Int).toNat, 1⟩ : S71)); (case aB => exact (by repeat (first | (with_reducible first | exact HB.out | apply below_alloc | apply pw_below_drewN | apply below_drew1) | exact HB.out))); (case aF => exact (fun _ _ => trivial)); (case aO => exact (by (with_reducible repeat (first | apply Kd.R_alloc | apply Kd.R_drewN | apply Kd.R_drew)); exact HO_2.out)); (case aS => exact (below_size (by repeat (first | (with_reducible first | exact HB.out | apply below_alloc | apply pw_below_drewN | apply below_drew1) | exact HB.out)))); (case aL => have := LMc167.out; omega); intro v160 w171 ho hb hg hat; rw [← Ny159.out] at ho; have n0_ := Aside0.mk (hb); have n1_ := Aside0.mk (ho); clear HB; clear HO_2; have HB := n0_; have HO161 := n1_; clear n0_ n1_; clear ho hb hg hat))
                          go_roundg k2
                          case measure => have := HK1.out; have := HK2.out; omega
                          case rel => exact ⟨(x0_1.extract ((ji168) : Int).toNat x0_1.size), (y159), (by first | rfl | (simp; done) | (simp only [← hji168] <;> (first | rfl | simp)) | (simp [*]; done)), H', ⟨by have := HK1.out; have := HK2.out; omega⟩, ⟨by (with_reducible repeat (first | apply Kd.R_alloc | apply Kd.R_drewN | apply Kd.R_drew)); exact HO161.out⟩, ⟨by repeat (first | (with_reducible first | exact HB.out | apply below_alloc | apply pw_below_drewN | apply below_drew1) | exact HB.out)⟩⟩
                        · rw [if_neg c170] at H
                          exact absurd H (by simp)
                      · rw [if_neg c169] at H
                        exact absurd H (by simp)
                    · rw [if_neg c167] at H
                      exact absurd H (by simp)
                  · rw [if_neg c166] at H
                    exact absurd H (by simp)
                · rw [if_neg c165] at H
                  exact absurd H (by simp)

end Go.Proofs.YtkdinhbfidckdaaR.PFnGlob
