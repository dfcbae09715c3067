-- Written by printx.py of this session, over the kit's print, with contracts of this session for some functions
import Derived.Test.YtmgepjnaalnckaaPFnQuoteSinglex0
import Derived.Test.YtmgepjnaalnckaaExtQuote
import Derived.Test.YtmgepjnaalnckaaExtRune
namespace Go.Proofs.Ytmgepjnaalnckaa.PFnQuoteSingle
open Go.RowKit Go.Proofs.YtmgepjnaalnckaaW.PrintWords Go.Proofs.YtmgepjnaalnckaaW.PrintLast Go.Proofs.YtmgepjnaalnckaaW.PrintMore
attribute [local go_sem] max2_int min2_int max_two min_two max_three min_three max_four min_four   -- for this text's walks alone
set_option linter.unusedVariables false
set_option linter.unusedSimpArgs false

-- function 25 (helpers_internalQuote): its contract stands in YtmgepjnaalnckaaExtQuote

/-! ### helpers_QuoteSingle: function 14 -/
def helpers_QuoteSingle.f (k : Nat) (a0 : ByteArray) (a1 : Bool) : Option (List Int) := (helpers_internalQuote.f k a0 a1 39).bind fun t101 => (some t101)
theorem helpers_QuoteSingle.mono : ∀ a0 a1 k, LeO (helpers_QuoteSingle.f k a0 a1) (helpers_QuoteSingle.f (k + 1) a0 a1) := by
  intro a0 a1 k
  unfold helpers_QuoteSingle.f
  repeat' first
      | (with_reducible exact helpers_internalQuote.mono _ _ _ _)
      | (with_reducible exact LeO.refl _)
      | (with_reducible exact LeO.none _)
      | (with_reducible refine LeO.ite ?_ ?_)
      | (with_reducible refine LeO.bind ?_ (fun _ => ?_))
      | exact helpers_internalQuote.mono _ _ _ _
      | exact LeO.none _
      | refine LeO.ite ?_ ?_
      | refine LeO.bind ?_ (fun _ => ?_)
set_option maxHeartbeats 8000000 in
set_option maxRecDepth 100000 in
theorem helpers_QuoteSingle.calls (k : Nat) (a0 : ByteArray) (a1 : Bool) (r : List Int) (w : World) (h : helpers_QuoteSingle.f k a0 a1 = some r) :
    Calls Try.prog 14 #[.string a0, .bool a1] w fun e w' => ∃ v0_ : Value, e = .returned (v0_) ∧ Kd.R (Kd.int .u8) 5 w' w.heap.size (fun _ => True) v0_ r ∧ Below w.heap.size w w' := by
  have HB := Aside0.mk (Below.refl w.heap.size w)
  have H : ((helpers_internalQuote.f k a0 a1 39).bind fun t101 => (some t101)) = some r := h
  clear h
  replace H := Option.bind_eq_some_iff.mp H
  obtain ⟨t101, A30, H⟩ := H
  replace H : (some t101) = some r := H
  have A3 := Aside0.mk A30
  clear A30
  obtain rfl := Option.some.inj H
  go_enter Try.func14, Try.ntmps14
  go_wp2_with (first | ((with_reducible refine gate_callee (f := 25) rfl ?_); refine goesL_ (some 7) rfl rfl Try.func25 (by kernel_rfl) rfl #[.string a0, .bool a1, .int .u8 39] rfl (by (try simp only [List.map_toArray, List.map_cons, List.map_nil]); first | done | rfl | (simp only [List.length_drop, List.length_take]; rfl)) ?_; (with_reducible refine (helpers_internalQuote.calls k a0 a1 39 t101 _ A3.out).mono ?_); rintro e w4 ⟨v102, rfl, ho0, hb⟩; refine ⟨_, rfl, ?_⟩; have n0_ := Aside0.mk (Kd.R_lower ho0 (below_size (by repeat (first | (with_reducible first | exact HB.out | apply below_alloc | apply pw_below_drewN | apply below_drew1) | exact HB.out)))); have n1_ := Aside0.mk (below_step (by repeat (first | (with_reducible first | exact HB.out | apply below_alloc | apply pw_below_drewN | apply below_drew1) | exact HB.out)) hb); clear HB; have HO103 := n0_; have HB := n1_; clear n0_ n1_; (try clear hb); (try clear hb2); (try clear hk); (try clear hi); (try clear ho0)))
  go_ret
  exact ⟨_, by first | rfl | (simp [errW_none, errW_some] <;> rfl) | (simp [*, errW_none, errW_some] <;> rfl), by (with_reducible repeat (first | apply Kd.R_alloc | apply Kd.R_drewN | apply Kd.R_drew)); exact HO103.out, by repeat (first | (with_reducible first | exact HB.out | apply below_alloc | apply pw_below_drewN | apply below_drew1) | exact HB.out)⟩

/-! ### impl_QuoteSingle: function 5 -/
def impl_QuoteSingle.f (k : Nat) (a0 : ByteArray) (a1 : Bool) : Option (ByteArray) := (helpers_QuoteSingle.f k a0 a1).bind fun t104 => (some (strOfNums t104))
theorem impl_QuoteSingle.mono : ∀ a0 a1 k, LeO (impl_QuoteSingle.f k a0 a1) (impl_QuoteSingle.f (k + 1) a0 a1) := by
  intro a0 a1 k
  unfold impl_QuoteSingle.f
  repeat' first
      | (with_reducible exact helpers_QuoteSingle.mono _ _ _)
      | (with_reducible exact LeO.refl _)
      | (with_reducible exact LeO.none _)
      | (with_reducible refine LeO.ite ?_ ?_)
      | (with_reducible refine LeO.bind ?_ (fun _ => ?_))
      | exact helpers_QuoteSingle.mono _ _ _
      | exact LeO.none _
      | refine LeO.ite ?_ ?_
      | refine LeO.bind ?_ (fun _ => ?_)
set_option maxHeartbeats 8000000 in
set_option maxRecDepth 100000 in
theorem impl_QuoteSingle.calls (k : Nat) (a0 : ByteArray) (a1 : Bool) (r : ByteArray) (w : World) (h : impl_QuoteSingle.f k a0 a1 = some r) :
    Calls Try.prog 5 #[.string a0, .bool a1] w fun e w' => e = .returned (.string r) ∧ Below w.heap.size w w' := by
  have HB := Aside0.mk (Below.refl w.heap.size w)
  have H : ((helpers_QuoteSingle.f k a0 a1).bind fun t104 => (some (strOfNums t104))) = some r := h
  clear h
  replace H := Option.bind_eq_some_iff.mp H
  obtain ⟨t104, A30, H⟩ := H
  replace H : (some (strOfNums t104)) = some r := H
  have A3 := Aside0.mk A30
  clear A30
  obtain rfl := Option.some.inj H
  go_enter Try.func5, Try.ntmps5
  go_wp2_with (first | ((with_reducible refine gate_callee (f := 14) rfl ?_); refine goesL_ (some 7) rfl rfl Try.func14 (by kernel_rfl) rfl #[.string a0, .bool a1] rfl (by (try simp only [List.map_toArray, List.map_cons, List.map_nil]); first | done | rfl | (simp only [List.length_drop, List.length_take]; rfl)) ?_; (with_reducible refine (helpers_QuoteSingle.calls k a0 a1 t104 _ A3.out).mono ?_); rintro e w4 ⟨v105, rfl, ho0, hb⟩; refine ⟨_, rfl, ?_⟩; have n0_ := Aside0.mk (Kd.R_lower ho0 (below_size (by repeat (first | (with_reducible first | exact HB.out | apply below_alloc | apply pw_below_drewN | apply below_drew1) | exact HB.out)))); have n1_ := Aside0.mk (below_step (by repeat (first | (with_reducible first | exact HB.out | apply below_alloc | apply pw_below_drewN | apply below_drew1) | exact HB.out)) hb); clear HB; have HO106 := n0_; have HB := n1_; clear n0_ n1_; (try clear hb); (try clear hb2); (try clear hk); (try clear hi); (try clear ho0); have hcv5 := own_string (P := Try.prog) Try.underlying34 Try.underlying5 Try.underlying9 (Kd.own_of_R HO106.out)))
  go_ret
  exact ⟨by first | rfl | (simp [errW_none, errW_some] <;> rfl) | (simp [*, errW_none, errW_some] <;> rfl), by repeat (first | (with_reducible first | exact HB.out | apply below_alloc | apply pw_below_drewN | apply below_drew1) | exact HB.out)⟩

-- function 18 (spec_Rune): its contract stands in YtmgepjnaalnckaaExtRune

/-! ### spec_WtfRune: function 15 -/
def spec_WtfRune.f (k : Nat) (a0 : ByteArray) : Option (Int × Int) := (spec_Rune.f k a0 0).bind fun bt107 => (if bt107.2 > 0 then (some (bt107.1, bt107.2)) else (if (a0.size : Int) < 3 then (some (0, 0)) else (if 0 < (a0.size : Int) then (if (bt a0 0) = 237 then (if 1 < (a0.size : Int) then (if (bt a0 1) < 160 then (some (0, 0)) else (if (bt a0 1) > 191 then (some (0, 0)) else (if 2 < (a0.size : Int) then (if (Go.bits .and .u8 (bt a0 2) 192) = 128 then (some (Go.bits .or .i64 (Go.bits .or .i64 53248 (wrap64 ((wrap64 (Go.bits .and .u8 (bt a0 1) 63)) * 64))) (wrap64 (Go.bits .and .u8 (bt a0 2) 63)), 3)) else (some (0, 0))) else (none)))) else (none)) else (some (0, 0))) else (none))))
theorem spec_WtfRune.mono : ∀ a0 k, LeO (spec_WtfRune.f k a0) (spec_WtfRune.f (k + 1) a0) := by
  intro a0 k
  unfold spec_WtfRune.f
  repeat' first
      | (with_reducible exact spec_Rune.mono _ _ _)
      | (with_reducible exact LeO.refl _)
      | (with_reducible exact LeO.none _)
      | (with_reducible refine LeO.ite ?_ ?_)
      | (with_reducible refine LeO.bind ?_ (fun _ => ?_))
      | exact spec_Rune.mono _ _ _
      | exact LeO.none _
      | refine LeO.ite ?_ ?_
      | refine LeO.bind ?_ (fun _ => ?_)
set_option maxHeartbeats 8000000 in
set_option maxRecDepth 100000 in
theorem spec_WtfRune.calls (k : Nat) (a0 : ByteArray) (r1 : Int) (r2 : Int) (w : World) (h : spec_WtfRune.f k a0 = some (r1, r2)) :
    Calls Try.prog 15 #[.string a0] w fun e w' => e = .returned (.tuple #[.int .i64 r1, .int .i64 r2]) ∧ Drawn0 w w' := by
  have H : ((spec_Rune.f k a0 0).bind fun bt107 => (if bt107.2 > 0 then (some (bt107.1, bt107.2)) else (if (a0.size : Int) < 3 then (some (0, 0)) else (if 0 < (a0.size : Int) then (if (bt a0 0) = 237 then (if 1 < (a0.size : Int) then (if (bt a0 1) < 160 then (some (0, 0)) else (if (bt a0 1) > 191 then (some (0, 0)) else (if 2 < (a0.size : Int) then (if (Go.bits .and .u8 (bt a0 2) 192) = 128 then (some (Go.bits .or .i64 (Go.bits .or .i64 53248 (wrap64 ((wrap64 (Go.bits .and .u8 (bt a0 1) 63)) * 64))) (wrap64 (Go.bits .and .u8 (bt a0 2) 63)), 3)) else (some (0, 0))) else (none)))) else (none)) else (some (0, 0))) else (none))))) = some (r1, r2) := h
  clear h
  replace H := Option.bind_eq_some_iff.mp H
  obtain ⟨⟨t107, t108⟩, A20, H⟩ := H
  replace H : (if t108 > 0 then (some (t107, t108)) else (if (a0.size : Int) < 3 then (some (0, 0)) else (if 0 < (a0.size : Int) then (if (bt a0 0) = 237 then (if 1 < (a0.size : Int) then (if (bt a0 1) < 160 then (some (0, 0)) else (if (bt a0 1) > 191 then (some (0, 0)) else (if 2 < (a0.size : Int) then (if (Go.bits .and .u8 (bt a0 2) 192) = 128 then (some (Go.bits .or .i64 (Go.bits .or .i64 53248 (wrap64 ((wrap64 (Go.bits .and .u8 (bt a0 1) 63)) * 64))) (wrap64 (Go.bits .and .u8 (bt a0 2) 63)), 3)) else (some (0, 0))) else (none)))) else (none)) else (some (0, 0))) else (none)))) = some (r1, r2) := H
  have A2 := Aside0.mk A20
  clear A20
  by_cases c3 : t108 > 0
  · rw [if_pos c3] at H
    have c3b0 : decide (0 < t108) = true := decide_eq_true c3
    clear c3
    simp only [Option.some.injEq, Prod.mk.injEq] at H
    obtain ⟨rfl, rfl⟩ := H
    go_enter Try.func15, Try.ntmps15
    go_wp2_with (first | (go_at_call 18; (with_reducible refine (spec_Rune.calls k a0 0 t107 t108 _ A2.out).mono ?_); rintro e w' ⟨rfl, ⟨nd, rfl⟩⟩; (try first | exact ⟨rfl, _, World.drewN_drewN _ _ _⟩ | exact ⟨rfl, _, Eq.trans (World.drewN_drewN _ _ _) (congrArg (World.drewN _) (Nat.add_assoc _ _ _))⟩)))
    repeat (go_quiet (first | (go_at_call 18; (with_reducible refine (spec_Rune.calls k a0 0 t107 t108 _ A2.out).mono ?_); rintro e w' ⟨rfl, ⟨nd, rfl⟩⟩; (try first | exact ⟨rfl, _, World.drewN_drewN _ _ _⟩ | exact ⟨rfl, _, Eq.trans (World.drewN_drewN _ _ _) (congrArg (World.drewN _) (Nat.add_assoc _ _ _))⟩))); try go_wp2_with (first | (go_at_call 18; (with_reducible refine (spec_Rune.calls k a0 0 t107 t108 _ A2.out).mono ?_); rintro e w' ⟨rfl, ⟨nd, rfl⟩⟩; (try first | exact ⟨rfl, _, World.drewN_drewN _ _ _⟩ | exact ⟨rfl, _, Eq.trans (World.drewN_drewN _ _ _) (congrArg (World.drewN _) (Nat.add_assoc _ _ _))⟩))))
    go_ret2
    exact ⟨by first | rfl | (simp; done) | (simp [*]; done), by repeat (first | exact Drawn0.refl _ | apply Drawn0.step)⟩
  · rw [if_neg c3] at H
    have c3b0 : decide (0 < t108) = false := decide_eq_false c3
    clear c3
    by_cases c4 : (a0.size : Int) < 3
    · rw [if_pos c4] at H
      have c4b0 : decide ((a0.size : Int) < 3) = true := decide_eq_true c4
      have c4b1 : decide (a0.size < 3) = true := decide_eq_true (by omega)
      clear c4
      simp only [Option.some.injEq, Prod.mk.injEq] at H
      obtain ⟨rfl, rfl⟩ := H
      go_enter Try.func15, Try.ntmps15
      go_wp2_with (first | (go_at_call 18; (with_reducible refine (spec_Rune.calls k a0 0 t107 t108 _ A2.out).mono ?_); rintro e w' ⟨rfl, ⟨nd, rfl⟩⟩; (try first | exact ⟨rfl, _, World.drewN_drewN _ _ _⟩ | exact ⟨rfl, _, Eq.trans (World.drewN_drewN _ _ _) (congrArg (World.drewN _) (Nat.add_assoc _ _ _))⟩)))
      repeat (go_quiet (first | (go_at_call 18; (with_reducible refine (spec_Rune.calls k a0 0 t107 t108 _ A2.out).mono ?_); rintro e w' ⟨rfl, ⟨nd, rfl⟩⟩; (try first | exact ⟨rfl, _, World.drewN_drewN _ _ _⟩ | exact ⟨rfl, _, Eq.trans (World.drewN_drewN _ _ _) (congrArg (World.drewN _) (Nat.add_assoc _ _ _))⟩))); try go_wp2_with (first | (go_at_call 18; (with_reducible refine (spec_Rune.calls k a0 0 t107 t108 _ A2.out).mono ?_); rintro e w' ⟨rfl, ⟨nd, rfl⟩⟩; (try first | exact ⟨rfl, _, World.drewN_drewN _ _ _⟩ | exact ⟨rfl, _, Eq.trans (World.drewN_drewN _ _ _) (congrArg (World.drewN _) (Nat.add_assoc _ _ _))⟩))))
      go_ret2
      exact ⟨by first | rfl | (simp; done) | (simp [*]; done), by repeat (first | exact Drawn0.refl _ | apply Drawn0.step)⟩
    · rw [if_neg c4] at H
      have c4b0 : decide ((a0.size : Int) < 3) = false := decide_eq_false c4
      have c4b1 : decide (a0.size < 3) = false := decide_eq_false (by omega)
      clear c4
      by_cases c5 : 0 < (a0.size : Int)
      · rw [if_pos c5] at H
        have c5b0 : decide (0 < (a0.size : Int)) = true := decide_eq_true c5
        have c5b1 : decide (0 < a0.size) = true := decide_eq_true (by omega)
        clear c5
        by_cases c7 : (bt a0 0) = 237
        · rw [if_pos c7] at H
          have c7b0 : ((bt a0 0) == 237) = true := beq_iff_eq.mpr c7
          have c7b1 : ((bt a0 0) != 237) = false := bne_eq_false_iff_eq.mpr c7
          clear c7
          by_cases c8 : 1 < (a0.size : Int)
          · rw [if_pos c8] at H
            have c8b0 : decide (1 < (a0.size : Int)) = true := decide_eq_true c8
            have c8b1 : decide (1 < a0.size) = true := decide_eq_true (by omega)
            clear c8
            by_cases c10 : (bt a0 1) < 160
            · rw [if_pos c10] at H
              have c10b0 : decide ((bt a0 1) < 160) = true := decide_eq_true c10
              clear c10
              simp only [Option.some.injEq, Prod.mk.injEq] at H
              obtain ⟨rfl, rfl⟩ := H
              go_enter Try.func15, Try.ntmps15
              go_wp2_with (first | (go_at_call 18; (with_reducible refine (spec_Rune.calls k a0 0 t107 t108 _ A2.out).mono ?_); rintro e w' ⟨rfl, ⟨nd, rfl⟩⟩; (try first | exact ⟨rfl, _, World.drewN_drewN _ _ _⟩ | exact ⟨rfl, _, Eq.trans (World.drewN_drewN _ _ _) (congrArg (World.drewN _) (Nat.add_assoc _ _ _))⟩); have p6 : 0 ≤ (0 : Int) := (by omega); have q6 : 0 < a0.size := (by have : (0 : Int) < (a0.size : Int) := of_decide_eq_true (by first | (with_reducible assumption) | assumption); omega); have hx6 : ∀ h : 0 < a0.size, ((a0[0]'h).toNat : Int) = bt a0 0 := bt_at a0 0; clear p6; have qi6 : (0 < (a0.size : Int)) = True := eq_true (of_decide_eq_true (by first | (with_reducible assumption) | assumption)); replace q6 := eq_true q6; have p9 : 0 ≤ (1 : Int) := (by omega); have q9 : 1 < a0.size := (by have : (1 : Int) < (a0.size : Int) := of_decide_eq_true (by first | (with_reducible assumption) | assumption); omega); have hx9 : ∀ h : 1 < a0.size, ((a0[1]'h).toNat : Int) = bt a0 1 := bt_at a0 1; clear p9; have qi9 : (1 < (a0.size : Int)) = True := eq_true (of_decide_eq_true (by first | (with_reducible assumption) | assumption)); replace q9 := eq_true q9))
              repeat (go_quiet (first | (go_at_call 18; (with_reducible refine (spec_Rune.calls k a0 0 t107 t108 _ A2.out).mono ?_); rintro e w' ⟨rfl, ⟨nd, rfl⟩⟩; (try first | exact ⟨rfl, _, World.drewN_drewN _ _ _⟩ | exact ⟨rfl, _, Eq.trans (World.drewN_drewN _ _ _) (congrArg (World.drewN _) (Nat.add_assoc _ _ _))⟩); have p6 : 0 ≤ (0 : Int) := (by omega); have q6 : 0 < a0.size := (by have : (0 : Int) < (a0.size : Int) := of_decide_eq_true (by first | (with_reducible assumption) | assumption); omega); have hx6 : ∀ h : 0 < a0.size, ((a0[0]'h).toNat : Int) = bt a0 0 := bt_at a0 0; clear p6; have qi6 : (0 < (a0.size : Int)) = True := eq_true (of_decide_eq_true (by first | (with_reducible assumption) | assumption)); replace q6 := eq_true q6; have p9 : 0 ≤ (1 : Int) := (by omega); have q9 : 1 < a0.size := (by have : (1 : Int) < (a0.size : Int) := of_decide_eq_true (by first | (with_reducible assumption) | assumption); omega); have hx9 : ∀ h : 1 < a0.size, ((a0[1]'h).toNat : Int) = bt a0 1 := bt_at a0 1; clear p9; have qi9 : (1 < (a0.size : Int)) = True := eq_true (of_decide_eq_true (by first | (with_reducible assumption) | assumption)); replace q9 := eq_true q9)); try go_wp2_with (first | (go_at_call 18; (with_reducible refine (spec_Rune.calls k a0 0 t107 t108 _ A2.out).mono ?_); rintro e w' ⟨rfl, ⟨nd, rfl⟩⟩; (try first | exact ⟨rfl, _, World.drewN_drewN _ _ _⟩ | exact ⟨rfl, _, Eq.trans (World.drewN_drewN _ _ _) (congrArg (World.drewN _) (Nat.add_assoc _ _ _))⟩); have p6 : 0 ≤ (0 : Int) := (by omega); have q6 : 0 < a0.size := (by have : (0 : Int) < (a0.size : Int) := of_decide_eq_true (by first | (with_reducible assumption) | assumption); omega); have hx6 : ∀ h : 0 < a0.size, ((a0[0]'h).toNat : Int) = bt a0 0 := bt_at a0 0; clear p6; have qi6 : (0 < (a0.size : Int)) = True := eq_true (of_decide_eq_true (by first | (with_reducible assumption) | assumption)); replace q6 := eq_true q6; have p9 : 0 ≤ (1 : Int) := (by omega); have q9 : 1 < a0.size := (by have : (1 : Int) < (a0.size : Int) := of_decide_eq_true (by first | (with_reducible assumption) | assumption); omega); have hx9 : ∀ h : 1 < a0.size, ((a0[1]'h).toNat : Int) = bt a0 1 := bt_at a0 1; clear p9; have qi9 : (1 < (a0.size : Int)) = True := eq_true (of_decide_eq_true (by first | (with_reducible assumption) | assumption)); replace q9 := eq_true q9)))
              go_ret2
              exact ⟨by first | rfl | (simp; done) | (simp [*]; done), by repeat (first | exact Drawn0.refl _ | apply Drawn0.step)⟩
            · rw [if_neg c10] at H
              have c10b0 : decide ((bt a0 1) < 160) = false := decide_eq_false c10
              clear c10
              by_cases c12 : (bt a0 1) > 191
              · rw [if_pos c12] at H
                have c12b0 : decide (191 < (bt a0 1)) = true := decide_eq_true c12
                clear c12
                simp only [Option.some.injEq, Prod.mk.injEq] at H
                obtain ⟨rfl, rfl⟩ := H
                go_enter Try.func15, Try.ntmps15
                go_wp2_with (first | (go_at_call 18; (with_reducible refine (spec_Rune.calls k a0 0 t107 t108 _ A2.out).mono ?_); rintro e w' ⟨rfl, ⟨nd, rfl⟩⟩; (try first | exact ⟨rfl, _, World.drewN_drewN _ _ _⟩ | exact ⟨rfl, _, Eq.trans (World.drewN_drewN _ _ _) (congrArg (World.drewN _) (Nat.add_assoc _ _ _))⟩); have p6 : 0 ≤ (0 : Int) := (by omega); have q6 : 0 < a0.size := (by have : (0 : Int) < (a0.size : Int) := of_decide_eq_true (by first | (with_reducible assumption) | assumption); omega); have hx6 : ∀ h : 0 < a0.size, ((a0[0]'h).toNat : Int) = bt a0 0 := bt_at a0 0; clear p6; have qi6 : (0 < (a0.size : Int)) = True := eq_true (of_decide_eq_true (by first | (with_reducible assumption) | assumption)); replace q6 := eq_true q6; have p9 : 0 ≤ (1 : Int) := (by omega); have q9 : 1 < a0.size := (by have : (1 : Int) < (a0.size : Int) := of_decide_eq_true (by first | (with_reducible assumption) | assumption); omega); have hx9 : ∀ h : 1 < a0.size, ((a0[1]'h).toNat : Int) = bt a0 1 := bt_at a0 1; clear p9; have qi9 : (1 < (a0.size : Int)) = True := eq_true (of_decide_eq_true (by first | (with_reducible assumption) | assumption)); replace q9 := eq_true q9; have p11 : 0 ≤ (1 : Int) := (by omega); have q11 : 1 < a0.size := (by have : (1 : Int) < (a0.size : Int) := of_decide_eq_true (by first | (with_reducible assumption) | assumption); omega); have hx11 : ∀ h : 1 < a0.size, ((a0[1]'h).toNat : Int) = bt a0 1 := bt_at a0 1; clear p11; have qi11 : (1 < (a0.size : Int)) = True := eq_true (of_decide_eq_true (by first | (with_reducible assumption) | assumption)); replace q11 := eq_true q11))
                repeat (go_quiet (first | (go_at_call 18; (with_reducible refine (spec_Rune.calls k a0 0 t107 t108 _ A2.out).mono ?_); rintro e w' ⟨rfl, ⟨nd, rfl⟩⟩; (try first | exact ⟨rfl, _, World.drewN_drewN _ _ _⟩ | exact ⟨rfl, _, Eq.trans (World.drewN_drewN _ _ _) (congrArg (World.drewN _) (Nat.add_assoc _ _ _))⟩); have p6 : 0 ≤ (0 : Int) := (by omega); have q6 : 0 < a0.size := (by have : (0 : Int) < (a0.size : Int) := of_decide_eq_true (by first | (with_reducible assumption) | assumption); omega); have hx6 : ∀ h : 0 < a0.size, ((a0[0]'h).toNat : Int) = bt a0 0 := bt_at a0 0; clear p6; have qi6 : (0 < (a0.size : Int)) = True := eq_true (of_decide_eq_true (by first | (with_reducible assumption) | assumption)); replace q6 := eq_true q6; have p9 : 0 ≤ (1 : Int) := (by omega); have q9 : 1 < a0.size := (by have : (1 : Int) < (a0.size : Int) := of_decide_eq_true (by first | (with_reducible assumption) | assumption); omega); have hx9 : ∀ h : 1 < a0.size, ((a0[1]'h).toNat : Int) = bt a0 1 := bt_at a0 1; clear p9; have qi9 : (1 < (a0.size : Int)) = True := eq_true (of_decide_eq_true (by first | (with_reducible assumption) | assumption)); replace q9 := eq_true q9; have p11 : 0 ≤ (1 : Int) := (by omega); have q11 : 1 < a0.size := (by have : (1 : Int) < (a0.size : Int) := of_decide_eq_true (by first | (with_reducible assumption) | assumption); omega); have hx11 : ∀ h : 1 < a0.size, ((a0[1]'h).toNat : Int) = bt a0 1 := bt_at a0 1; clear p11; have qi11 : (1 < (a0.size : Int)) = True := eq_true (of_decide_eq_true (by first | (with_reducible assumption) | assumption)); replace q11 := eq_true q11)); try go_wp2_with (first | (go_at_call 18; (with_reducible refine (spec_Rune.calls k a0 0 t107 t108 _ A2.out).mono ?_); rintro e w' ⟨rfl, ⟨nd, rfl⟩⟩; (try first | exact ⟨rfl, _, World.drewN_drewN _ _ _⟩ | exact ⟨rfl, _, Eq.trans (World.drewN_drewN _ _ _) (congrArg (World.drewN _) (Nat.add_assoc _ _ _))⟩); have p6 : 0 ≤ (0 : Int) := (by omega); have q6 : 0 < a0.size := (by have : (0 : Int) < (a0.size : Int) := of_decide_eq_true (by first | (with_reducible assumption) | assumption); omega); have hx6 : ∀ h : 0 < a0.size, ((a0[0]'h).toNat : Int) = bt a0 0 := bt_at a0 0; clear p6; have qi6 : (0 < (a0.size : Int)) = True := eq_true (of_decide_eq_true (by first | (with_reducible assumption) | assumption)); replace q6 := eq_true q6; have p9 : 0 ≤ (1 : Int) := (by omega); have q9 : 1 < a0.size := (by have : (1 : Int) < (a0.size : Int) := of_decide_eq_true (by first | (with_reducible assumption) | assumption); omega); have hx9 : ∀ h : 1 < a0.size, ((a0[1]'h).toNat : Int) = bt a0 1 := bt_at a0 1; clear p9; have qi9 : (1 < (a0.size : Int)) = True := eq_true (of_decide_eq_true (by first | (with_reducible assumption) | assumption)); replace q9 := eq_true q9; have p11 : 0 ≤ (1 : Int) := (by omega); have q11 : 1 < a0.size := (by have : (1 : Int) < (a0.size : Int) := of_decide_eq_true (by first | (with_reducible assumption) | assumption); omega); have hx11 : ∀ h : 1 < a0.size, ((a0[1]'h).toNat : Int) = bt a0 1 := bt_at a0 1; clear p11; have qi11 : (1 < (a0.size : Int)) = True := eq_true (of_decide_eq_true (by first | (with_reducible assumption) | assumption)); replace q11 := eq_true q11)))
                go_ret2
                exact ⟨by first | rfl | (simp; done) | (simp [*]; done), by repeat (first | exact Drawn0.refl _ | apply Drawn0.step)⟩
              · rw [if_neg c12] at H
                have c12b0 : decide (191 < (bt a0 1)) = false := decide_eq_false c12
                clear c12
                by_cases c13 : 2 < (a0.size : Int)
                · rw [if_pos c13] at H
                  have c13b0 : decide (2 < (a0.size : Int)) = true := decide_eq_true c13
                  have c13b1 : decide (2 < a0.size) = true := decide_eq_true (by omega)
                  clear c13
                  by_cases c15 : (Go.bits .and .u8 (bt a0 2) 192) = 128
                  · rw [if_pos c15] at H
                    have c15b0 : ((Go.bits .and .u8 (bt a0 2) 192) == 128) = true := beq_iff_eq.mpr c15
                    have c15b1 : ((Go.bits .and .u8 (bt a0 2) 192) != 128) = false := bne_eq_false_iff_eq.mpr c15
                    clear c15
                    simp only [Option.some.injEq, Prod.mk.injEq] at H
                    obtain ⟨rfl, rfl⟩ := H
                    go_enter Try.func15, Try.ntmps15
                    go_wp2_with (first | (go_at_call 18; (with_reducible refine (spec_Rune.calls k a0 0 t107 t108 _ A2.out).mono ?_); rintro e w' ⟨rfl, ⟨nd, rfl⟩⟩; (try first | exact ⟨rfl, _, World.drewN_drewN _ _ _⟩ | exact ⟨rfl, _, Eq.trans (World.drewN_drewN _ _ _) (congrArg (World.drewN _) (Nat.add_assoc _ _ _))⟩); have p6 : 0 ≤ (0 : Int) := (by omega); have q6 : 0 < a0.size := (by have : (0 : Int) < (a0.size : Int) := of_decide_eq_true (by first | (with_reducible assumption) | assumption); omega); have hx6 : ∀ h : 0 < a0.size, ((a0[0]'h).toNat : Int) = bt a0 0 := bt_at a0 0; clear p6; have qi6 : (0 < (a0.size : Int)) = True := eq_true (of_decide_eq_true (by first | (with_reducible assumption) | assumption)); replace q6 := eq_true q6; have p9 : 0 ≤ (1 : Int) := (by omega); have q9 : 1 < a0.size := (by have : (1 : Int) < (a0.size : Int) := of_decide_eq_true (by first | (with_reducible assumption) | assumption); omega); have hx9 : ∀ h : 1 < a0.size, ((a0[1]'h).toNat : Int) = bt a0 1 := bt_at a0 1; clear p9; have qi9 : (1 < (a0.size : Int)) = True := eq_true (of_decide_eq_true (by first | (with_reducible assumption) | assumption)); replace q9 := eq_true q9; have p11 : 0 ≤ (1 : Int) := (by omega); have q11 : 1 < a0.size := (by have : (1 : Int) < (a0.size : Int) := of_decide_eq_true (by first | (with_reducible assumption) | assumption); omega); have hx11 : ∀ h : 1 < a0.size, ((a0[1]'h).toNat : Int) = bt a0 1 := bt_at a0 1; clear p11; have qi11 : (1 < (a0.size : Int)) = True := eq_true (of_decide_eq_true (by first | (with_reducible assumption) | assumption)); replace q11 := eq_true q11; have p14 : 0 ≤ (2 : Int) := (by omega); have q14 : 2 < a0.size := (by have : (2 : Int) < (a0.size : Int) := of_decide_eq_true (by first | (with_reducible assumption) | assumption); omega); have hx14 : ∀ h : 2 < a0.size, ((a0[2]'h).toNat : Int) = bt a0 2 := bt_at a0 2; clear p14; have qi14 : (2 < (a0.size : Int)) = True := eq_true (of_decide_eq_true (by first | (with_reducible assumption) | assumption)); replace q14 := eq_true q14; have p16 : 0 ≤ (1 : Int) := (by omega); have q16 : 1 < a0.size := (by have : (1 : Int) < (a0.size : Int) := of_decide_eq_true (by first | (with_reducible assumption) | assumption); omega); have hx16 : ∀ h : 1 < a0.size, ((a0[1]'h).toNat : Int) = bt a0 1 := bt_at a0 1; clear p16; have qi16 : (1 < (a0.size : Int)) = True := eq_true (of_decide_eq_true (by first | (with_reducible assumption) | assumption)); replace q16 := eq_true q16; have p17 : 0 ≤ (2 : Int) := (by omega); have q17 : 2 < a0.size := (by have : (2 : Int) < (a0.size : Int) := of_decide_eq_true (by first | (with_reducible assumption) | assumption); omega); have hx17 : ∀ h : 2 < a0.size, ((a0[2]'h).toNat : Int) = bt a0 2 := bt_at a0 2; clear p17; have qi17 : (2 < (a0.size : Int)) = True := eq_true (of_decide_eq_true (by first | (with_reducible assumption) | assumption)); replace q17 := eq_true q17))
                    repeat (go_quiet (first | (go_at_call 18; (with_reducible refine (spec_Rune.calls k a0 0 t107 t108 _ A2.out).mono ?_); rintro e w' ⟨rfl, ⟨nd, rfl⟩⟩; (try first | exact ⟨rfl, _, World.drewN_drewN _ _ _⟩ | exact ⟨rfl, _, Eq.trans (World.drewN_drewN _ _ _) (congrArg (World.drewN _) (Nat.add_assoc _ _ _))⟩); have p6 : 0 ≤ (0 : Int) := (by omega); have q6 : 0 < a0.size := (by have : (0 : Int) < (a0.size : Int) := of_decide_eq_true (by first | (with_reducible assumption) | assumption); omega); have hx6 : ∀ h : 0 < a0.size, ((a0[0]'h).toNat : Int) = bt a0 0 := bt_at a0 0; clear p6; have qi6 : (0 < (a0.size : Int)) = True := eq_true (of_decide_eq_true (by first | (with_reducible assumption) | assumption)); replace q6 := eq_true q6; have p9 : 0 ≤ (1 : Int) := (by omega); have q9 : 1 < a0.size := (by have : (1 : Int) < (a0.size : Int) := of_decide_eq_true (by first | (with_reducible assumption) | assumption); omega); have hx9 : ∀ h : 1 < a0.size, ((a0[1]'h).toNat : Int) = bt a0 1 := bt_at a0 1; clear p9; have qi9 : (1 < (a0.size : Int)) = True := eq_true (of_decide_eq_true (by first | (with_reducible assumption) | assumption)); replace q9 := eq_true q9; have p11 : 0 ≤ (1 : Int) := (by omega); have q11 : 1 < a0.size := (by have : (1 : Int) < (a0.size : Int) := of_decide_eq_true (by first | (with_reducible assumption) | assumption); omega); have hx11 : ∀ h : 1 < a0.size, ((a0[1]'h).toNat : Int) = bt a0 1 := bt_at a0 1; clear p11; have qi11 : (1 < (a0.size : Int)) = True := eq_true (of_decide_eq_true (by first | (with_reducible assumption) | assumption)); replace q11 := eq_true q11; have p14 : 0 ≤ (2 : Int) := (by omega); have q14 : 2 < a0.size := (by have : (2 : Int) < (a0.size : Int) := of_decide_eq_true (by first | (with_reducible assumption) | assumption); omega); have hx14 : ∀ h : 2 < a0.size, ((a0[2]'h).toNat : Int) = bt a0 2 := bt_at a0 2; clear p14; have qi14 : (2 < (a0.size : Int)) = True := eq_true (of_decide_eq_true (by first | (with_reducible assumption) | assumption)); replace q14 := eq_true q14; have p16 : 0 ≤ (1 : Int) := (by omega); have q16 : 1 < a0.size := (by have : (1 : Int) < (a0.size : Int) := of_decide_eq_true (by first | (with_reducible assumption) | assumption); omega); have hx16 : ∀ h : 1 < a0.size, ((a0[1]'h).toNat : Int) = bt a0 1 := bt_at a0 1; clear p16; have qi16 : (1 < (a0.size : Int)) = True := eq_true (of_decide_eq_true (by first | (with_reducible assumption) | assumption)); replace q16 := eq_true q16; have p17 : 0 ≤ (2 : Int) := (by omega); have q17 : 2 < a0.size := (by have : (2 : Int) < (a0.size : Int) := of_decide_eq_true (by first | (with_reducible assumption) | assumption); omega); have hx17 : ∀ h : 2 < a0.size, ((a0[2]'h).toNat : Int) = bt a0 2 := bt_at a0 2; clear p17; have qi17 : (2 < (a0.size : Int)) = True := eq_true (of_decide_eq_true (by first | (with_reducible assumption) | assumption)); replace q17 := eq_true q17)); try go_wp2_with (first | (go_at_call 18; (with_reducible refine (spec_Rune.calls k a0 0 t107 t108 _ A2.out).mono ?_); rintro e w' ⟨rfl, ⟨nd, rfl⟩⟩; (try first | exact ⟨rfl, _, World.drewN_drewN _ _ _⟩ | exact ⟨rfl, _, Eq.trans (World.drewN_drewN _ _ _) (congrArg (World.drewN _) (Nat.add_assoc _ _ _))⟩); have p6 : 0 ≤ (0 : Int) := (by omega); have q6 : 0 < a0.size := (by have : (0 : Int) < (a0.size : Int) := of_decide_eq_true (by first | (with_reducible assumption) | assumption); omega); have hx6 : ∀ h : 0 < a0.size, ((a0[0]'h).toNat : Int) = bt a0 0 := bt_at a0 0; clear p6; have qi6 : (0 < (a0.size : Int)) = True := eq_true (of_decide_eq_true (by first | (with_reducible assumption) | assumption)); replace q6 := eq_true q6; have p9 : 0 ≤ (1 : Int) := (by omega); have q9 : 1 < a0.size := (by have : (1 : Int) < (a0.size : Int) := of_decide_eq_true (by first | (with_reducible assumption) | assumption); omega); have hx9 : ∀ h : 1 < a0.size, ((a0[1]'h).toNat : Int) = bt a0 1 := bt_at a0 1; clear p9; have qi9 : (1 < (a0.size : Int)) = True := eq_true (of_decide_eq_true (by first | (with_reducible assumption) | assumption)); replace q9 := eq_true q9; have p11 : 0 ≤ (1 : Int) := (by omega); have q11 : 1 < a0.size := (by have : (1 : Int) < (a0.size : Int) := of_decide_eq_true (by first | (with_reducible assumption) | assumption); omega); have hx11 : ∀ h : 1 < a0.size, ((a0[1]'h).toNat : Int) = bt a0 1 := bt_at a0 1; clear p11; have qi11 : (1 < (a0.size : Int)) = True := eq_true (of_decide_eq_true (by first | (with_reducible assumption) | assumption)); replace q11 := eq_true q11; have p14 : 0 ≤ (2 : Int) := (by omega); have q14 : 2 < a0.size := (by have : (2 : Int) < (a0.size : Int) := of_decide_eq_true (by first | (with_reducible assumption) | assumption); omega); have hx14 : ∀ h : 2 < a0.size, ((a0[2]'h).toNat : Int) = bt a0 2 := bt_at a0 2; clear p14; have qi14 : (2 < (a0.size : Int)) = True := eq_true (of_decide_eq_true (by first | (with_reducible assumption) | assumption)); replace q14 := eq_true q14; have p16 : 0 ≤ (1 : Int) := (by omega); have q16 : 1 < a0.size := (by have : (1 : Int) < (a0.size : Int) := of_decide_eq_true (by first | (with_reducible assumption) | assumption); omega); have hx16 : ∀ h : 1 < a0.size, ((a0[1]'h).toNat : Int) = bt a0 1 := bt_at a0 1; clear p16; have qi16 : (1 < (a0.size : Int)) = True := eq_true (of_decide_eq_true (by first | (with_reducible assumption) | assumption)); replace q16 := eq_true q16; have p17 : 0 ≤ (2 : Int) := (by omega); have q17 : 2 < a0.size := (by have : (2 : Int) < (a0.size : Int) := of_decide_eq_true (by first | (with_reducible assumption) | assumption); omega); have hx17 : ∀ h : 2 < a0.size, ((a0[2]'h).toNat : Int) = bt a0 2 := bt_at a0 2; clear p17; have qi17 : (2 < (a0.size : Int)) = True := eq_true (of_decide_eq_true (by first | (with_reducible assumption) | assumption)); replace q17 := eq_true q17)))
                    go_ret2
                    exact ⟨by first | rfl | (simp; done) | (simp [*]; done), by repeat (first | exact Drawn0.refl _ | apply Drawn0.step)⟩
                  · rw [if_neg c15] at H
                    have c15b0 : ((Go.bits .and .u8 (bt a0 2) 192) == 128) = false := beq_eq_false_iff_ne.mpr c15
                    have c15b1 : ((Go.bits .and .u8 (bt a0 2) 192) != 128) = true := bne_iff_ne.mpr c15
                    simp only [Option.some.injEq, Prod.mk.injEq] at H
                    obtain ⟨rfl, rfl⟩ := H
                    go_enter Try.func15, Try.ntmps15
                    go_wp2_with (first | (go_at_call 18; (with_reducible refine (spec_Rune.calls k a0 0 t107 t108 _ A2.out).mono ?_); rintro e w' ⟨rfl, ⟨nd, rfl⟩⟩; (try first | exact ⟨rfl, _, World.drewN_drewN _ _ _⟩ | exact ⟨rfl, _, Eq.trans (World.drewN_drewN _ _ _) (congrArg (World.drewN _) (Nat.add_assoc _ _ _))⟩); have p6 : 0 ≤ (0 : Int) := (by omega); have q6 : 0 < a0.size := (by have : (0 : Int) < (a0.size : Int) := of_decide_eq_true (by first | (with_reducible assumption) | assumption); omega); have hx6 : ∀ h : 0 < a0.size, ((a0[0]'h).toNat : Int) = bt a0 0 := bt_at a0 0; clear p6; have qi6 : (0 < (a0.size : Int)) = True := eq_true (of_decide_eq_true (by first | (with_reducible assumption) | assumption)); replace q6 := eq_true q6; have p9 : 0 ≤ (1 : Int) := (by omega); have q9 : 1 < a0.size := (by have : (1 : Int) < (a0.size : Int) := of_decide_eq_true (by first | (with_reducible assumption) | assumption); omega); have hx9 : ∀ h : 1 < a0.size, ((a0[1]'h).toNat : Int) = bt a0 1 := bt_at a0 1; clear p9; have qi9 : (1 < (a0.size : Int)) = True := eq_true (of_decide_eq_true (by first | (with_reducible assumption) | assumption)); replace q9 := eq_true q9; have p11 : 0 ≤ (1 : Int) := (by omega); have q11 : 1 < a0.size := (by have : (1 : Int) < (a0.size : Int) := of_decide_eq_true (by first | (with_reducible assumption) | assumption); omega); have hx11 : ∀ h : 1 < a0.size, ((a0[1]'h).toNat : Int) = bt a0 1 := bt_at a0 1; clear p11; have qi11 : (1 < (a0.size : Int)) = True := eq_true (of_decide_eq_true (by first | (with_reducible assumption) | assumption)); replace q11 := eq_true q11; have p14 : 0 ≤ (2 : Int) := (by omega); have q14 : 2 < a0.size := (by have : (2 : Int) < (a0.size : Int) := of_decide_eq_true (by first | (with_reducible assumption) | assumption); omega); have hx14 : ∀ h : 2 < a0.size, ((a0[2]'h).toNat : Int) = bt a0 2 := bt_at a0 2; clear p14; have qi14 : (2 < (a0.size : Int)) = True := eq_true (of_decide_eq_true (by first | (with_reducible assumption) | assumption)); replace q14 := eq_true q14))
                    repeat (go_quiet (first | (go_at_call 18; (with_reducible refine (spec_Rune.calls k a0 0 t107 t108 _ A2.out).mono ?_); rintro e w' ⟨rfl, ⟨nd, rfl⟩⟩; (try first | exact ⟨rfl, _, World.drewN_drewN _ _ _⟩ | exact ⟨rfl, _, Eq.trans (World.drewN_drewN _ _ _) (congrArg (World.drewN _) (Nat.add_assoc _ _ _))⟩); have p6 : 0 ≤ (0 : Int) := (by omega); have q6 : 0 < a0.size := (by have : (0 : Int) < (a0.size : Int) := of_decide_eq_true (by first | (with_reducible assumption) | assumption); omega); have hx6 : ∀ h : 0 < a0.size, ((a0[0]'h).toNat : Int) = bt a0 0 := bt_at a0 0; clear p6; have qi6 : (0 < (a0.size : Int)) = True := eq_true (of_decide_eq_true (by first | (with_reducible assumption) | assumption)); replace q6 := eq_true q6; have p9 : 0 ≤ (1 : Int) := (by omega); have q9 : 1 < a0.size := (by have : (1 : Int) < (a0.size : Int) := of_decide_eq_true (by first | (with_reducible assumption) | assumption); omega); have hx9 : ∀ h : 1 < a0.size, ((a0[1]'h).toNat : Int) = bt a0 1 := bt_at a0 1; clear p9; have qi9 : (1 < (a0.size : Int)) = True := eq_true (of_decide_eq_true (by first | (with_reducible assumption) | assumption)); replace q9 := eq_true q9; have p11 : 0 ≤ (1 : Int) := (by omega); have q11 : 1 < a0.size := (by have : (1 : Int) < (a0.size : Int) := of_decide_eq_true (by first | (with_reducible assumption) | assumption); omega); have hx11 : ∀ h : 1 < a0.size, ((a0[1]'h).toNat : Int) = bt a0 1 := bt_at a0 1; clear p11; have qi11 : (1 < (a0.size : Int)) = True := eq_true (of_decide_eq_true (by first | (with_reducible assumption) | assumption)); replace q11 := eq_true q11; have p14 : 0 ≤ (2 : Int) := (by omega); have q14 : 2 < a0.size := (by have : (2 : Int) < (a0.size : Int) := of_decide_eq_true (by first | (with_reducible assumption) | assumption); omega); have hx14 : ∀ h : 2 < a0.size, ((a0[2]'h).toNat : Int) = bt a0 2 := bt_at a0 2; clear p14; have qi14 : (2 < (a0.size : Int)) = True := eq_true (of_decide_eq_true (by first | (with_reducible assumption) | assumption)); replace q14 := eq_true q14)); try go_wp2_with (first | (go_at_call 18; (with_reducible refine (spec_Rune.calls k a0 0 t107 t108 _ A2.out).mono ?_); rintro e w' ⟨rfl, ⟨nd, rfl⟩⟩; (try first | exact ⟨rfl, _, World.drewN_drewN _ _ _⟩ | exact ⟨rfl, _, Eq.trans (World.drewN_drewN _ _ _) (congrArg (World.drewN _) (Nat.add_assoc _ _ _))⟩); have p6 : 0 ≤ (0 : Int) := (by omega); have q6 : 0 < a0.size := (by have : (0 : Int) < (a0.size : Int) := of_decide_eq_true (by first | (with_reducible assumption) | assumption); omega); have hx6 : ∀ h : 0 < a0.size, ((a0[0]'h).toNat : Int) = bt a0 0 := bt_at a0 0; clear p6; have qi6 : (0 < (a0.size : Int)) = True := eq_true (of_decide_eq_true (by first | (with_reducible assumption) | assumption)); replace q6 := eq_true q6; have p9 : 0 ≤ (1 : Int) := (by omega); have q9 : 1 < a0.size := (by have : (1 : Int) < (a0.size : Int) := of_decide_eq_true (by first | (with_reducible assumption) | assumption); omega); have hx9 : ∀ h : 1 < a0.size, ((a0[1]'h).toNat : Int) = bt a0 1 := bt_at a0 1; clear p9; have qi9 : (1 < (a0.size : Int)) = True := eq_true (of_decide_eq_true (by first | (with_reducible assumption) | assumption)); replace q9 := eq_true q9; have p11 : 0 ≤ (1 : Int) := (by omega); have q11 : 1 < a0.size := (by have : (1 : Int) < (a0.size : Int) := of_decide_eq_true (by first | (with_reducible assumption) | assumption); omega); have hx11 : ∀ h : 1 < a0.size, ((a0[1]'h).toNat : Int) = bt a0 1 := bt_at a0 1; clear p11; have qi11 : (1 < (a0.size : Int)) = True := eq_true (of_decide_eq_true (by first | (with_reducible assumption) | assumption)); replace q11 := eq_true q11; have p14 : 0 ≤ (2 : Int) := (by omega); have q14 : 2 < a0.size := (by have : (2 : Int) < (a0.size : Int) := of_decide_eq_true (by first | (with_reducible assumption) | assumption); omega); have hx14 : ∀ h : 2 < a0.size, ((a0[2]'h).toNat : Int) = bt a0 2 := bt_at a0 2; clear p14; have qi14 : (2 < (a0.size : Int)) = True := eq_true (of_decide_eq_true (by first | (with_reducible assumption) | assumption)); replace q14 := eq_true q14)))
                    go_ret2
                    exact ⟨by first | rfl | (simp; done) | (simp [*]; done), by repeat (first | exact Drawn0.refl _ | apply Drawn0.step)⟩
                · rw [if_neg c13] at H
                  exact absurd H (by simp)
          · rw [if_neg c8] at H
            exact absurd H (by simp)
        · rw [if_neg c7] at H
          have c7b0 : ((bt a0 0) == 237) = false := beq_eq_false_iff_ne.mpr c7
          have c7b1 : ((bt a0 0) != 237) = true := bne_iff_ne.mpr c7
          simp only [Option.some.injEq, Prod.mk.injEq] at H
          obtain ⟨rfl, rfl⟩ := H
          go_enter Try.func15, Try.ntmps15
          go_wp2_with (first | (go_at_call 18; (with_reducible refine (spec_Rune.calls k a0 0 t107 t108 _ A2.out).mono ?_); rintro e w' ⟨rfl, ⟨nd, rfl⟩⟩; (try first | exact ⟨rfl, _, World.drewN_drewN _ _ _⟩ | exact ⟨rfl, _, Eq.trans (World.drewN_drewN _ _ _) (congrArg (World.drewN _) (Nat.add_assoc _ _ _))⟩); have p6 : 0 ≤ (0 : Int) := (by omega); have q6 : 0 < a0.size := (by have : (0 : Int) < (a0.size : Int) := of_decide_eq_true (by first | (with_reducible assumption) | assumption); omega); have hx6 : ∀ h : 0 < a0.size, ((a0[0]'h).toNat : Int) = bt a0 0 := bt_at a0 0; clear p6; have qi6 : (0 < (a0.size : Int)) = True := eq_true (of_decide_eq_true (by first | (with_reducible assumption) | assumption)); replace q6 := eq_true q6))
          repeat (go_quiet (first | (go_at_call 18; (with_reducible refine (spec_Rune.calls k a0 0 t107 t108 _ A2.out).mono ?_); rintro e w' ⟨rfl, ⟨nd, rfl⟩⟩; (try first | exact ⟨rfl, _, World.drewN_drewN _ _ _⟩ | exact ⟨rfl, _, Eq.trans (World.drewN_drewN _ _ _) (congrArg (World.drewN _) (Nat.add_assoc _ _ _))⟩); have p6 : 0 ≤ (0 : Int) := (by omega); have q6 : 0 < a0.size := (by have : (0 : Int) < (a0.size : Int) := of_decide_eq_true (by first | (with_reducible assumption) | assumption); omega); have hx6 : ∀ h : 0 < a0.size, ((a0[0]'h).toNat : Int) = bt a0 0 := bt_at a0 0; clear p6; have qi6 : (0 < (a0.size : Int)) = True := eq_true (of_decide_eq_true (by first | (with_reducible assumption) | assumption)); replace q6 := eq_true q6)); try go_wp2_with (first | (go_at_call 18; (with_reducible refine (spec_Rune.calls k a0 0 t107 t108 _ A2.out).mono ?_); rintro e w' ⟨rfl, ⟨nd, rfl⟩⟩; (try first | exact ⟨rfl, _, World.drewN_drewN _ _ _⟩ | exact ⟨rfl, _, Eq.trans (World.drewN_drewN _ _ _) (congrArg (World.drewN _) (Nat.add_assoc _ _ _))⟩); have p6 : 0 ≤ (0 : Int) := (by omega); have q6 : 0 < a0.size := (by have : (0 : Int) < (a0.size : Int) := of_decide_eq_true (by first | (with_reducible assumption) | assumption); omega); have hx6 : ∀ h : 0 < a0.size, ((a0[0]'h).toNat : Int) = bt a0 0 := bt_at a0 0; clear p6; have qi6 : (0 < (a0.size : Int)) = True := eq_true (of_decide_eq_true (by first | (with_reducible assumption) | assumption)); replace q6 := eq_true q6)))
          go_ret2
          exact ⟨by first | rfl | (simp; done) | (simp [*]; done), by repeat (first | exact Drawn0.refl _ | apply Drawn0.step)⟩
      · rw [if_neg c5] at H
        exact absurd H (by simp)

/-! ### spec_between: function 26 -/
def spec_between.f (a0 : Int) (a1 : Int) (a2 : Int) : Option (Bool) := if a0 ≤ a1 then (some (decide (a1 ≤ a2))) else (some false)
set_option maxHeartbeats 8000000 in
set_option maxRecDepth 100000 in
theorem spec_between.calls (a0 : Int) (a1 : Int) (a2 : Int) (r : Bool) (w : World) (h : spec_between.f a0 a1 a2 = some r) :
    Calls Try.prog 26 #[.int .i64 a0, .int .i64 a1, .int .i64 a2] w fun e w' => e = .returned (.bool r) ∧ Drawn0 w w' := by
  have H : (if a0 ≤ a1 then (some (decide (a1 ≤ a2))) else (some false)) = some r := h
  clear h
  by_cases c4 : a0 ≤ a1
  · rw [if_pos c4] at H
    have c4b0 : decide (a0 ≤ a1) = true := decide_eq_true c4
    clear c4
    obtain rfl := Option.some.inj H
    go_enter Try.func26, Try.ntmps26
    go_wp2
    go_ret
    exact ⟨by first | rfl | (simp; done) | (simp [*]; done), by repeat (first | exact Drawn0.refl _ | apply Drawn0.step)⟩
  · rw [if_neg c4] at H
    have c4b0 : decide (a0 ≤ a1) = false := decide_eq_false c4
    clear c4
    obtain rfl := Option.some.inj H
    go_enter Try.func26, Try.ntmps26
    go_wp2
    go_ret
    exact ⟨by first | rfl | (simp; done) | (simp [*]; done), by repeat (first | exact Drawn0.refl _ | apply Drawn0.step)⟩

/-! ### spec_wtfTrail: function 16 -/
def spec_wtfTrail.f (a0 : Int) : Option (Bool) := (spec_between.f 56320 a0 57343).bind fun t109 => (some t109)
set_option maxHeartbeats 8000000 in
set_option maxRecDepth 100000 in
theorem spec_wtfTrail.calls (a0 : Int) (r : Bool) (w : World) (h : spec_wtfTrail.f a0 = some r) :
    Calls Try.prog 16 #[.int .i64 a0] w fun e w' => e = .returned (.bool r) ∧ Drawn0 w w' := by
  have H : ((spec_between.f 56320 a0 57343).bind fun t109 => (some t109)) = some r := h
  clear h
  replace H := Option.bind_eq_some_iff.mp H
  obtain ⟨t109, A20, H⟩ := H
  replace H : (some t109) = some r := H
  have A2 := Aside0.mk A20
  clear A20
  obtain rfl := Option.some.inj H
  go_enter Try.func16, Try.ntmps16
  go_wp2_with (first | ((with_reducible refine gate_callee (f := 26) rfl ?_); refine goesL_ (some 4) rfl rfl Try.func26 (by kernel_rfl) rfl #[.int .i64 56320, .int .i64 a0, .int .i64 57343] rfl (by (try simp only [List.map_toArray, List.map_cons, List.map_nil]); first | done | rfl | (simp only [List.length_drop, List.length_take]; rfl)) ?_; (with_reducible refine (spec_between.calls 56320 a0 57343 t109 _ A2.out).mono ?_); rintro e w' ⟨rfl, ⟨nd, rfl⟩⟩; refine ⟨_, rfl, ?_⟩))
  go_ret
  exact ⟨by first | rfl | (simp; done) | (simp [*]; done), by repeat (first | exact Drawn0.refl _ | apply Drawn0.step)⟩

/-! ### spec_wtfLead: function 17 -/
def spec_wtfLead.f (a0 : Int) : Option (Bool) := (spec_between.f 55296 a0 56319).bind fun t110 => (some t110)
set_option maxHeartbeats 8000000 in
set_option maxRecDepth 100000 in
theorem spec_wtfLead.calls (a0 : Int) (r : Bool) (w : World) (h : spec_wtfLead.f a0 = some r) :
    Calls Try.prog 17 #[.int .i64 a0] w fun e w' => e = .returned (.bool r) ∧ Drawn0 w w' := by
  have H : ((spec_between.f 55296 a0 56319).bind fun t110 => (some t110)) = some r := h
  clear h
  replace H := Option.bind_eq_some_iff.mp H
  obtain ⟨t110, A20, H⟩ := H
  replace H : (some t110) = some r := H
  have A2 := Aside0.mk A20
  clear A20
  obtain rfl := Option.some.inj H
  go_enter Try.func17, Try.ntmps17
  go_wp2_with (first | ((with_reducible refine gate_callee (f := 26) rfl ?_); refine goesL_ (some 4) rfl rfl Try.func26 (by kernel_rfl) rfl #[.int .i64 55296, .int .i64 a0, .int .i64 56319] rfl (by (try simp only [List.map_toArray, List.map_cons, List.map_nil]); first | done | rfl | (simp only [List.length_drop, List.length_take]; rfl)) ?_; (with_reducible refine (spec_between.calls 55296 a0 56319 t110 _ A2.out).mono ?_); rintro e w' ⟨rfl, ⟨nd, rfl⟩⟩; refine ⟨_, rfl, ?_⟩))
  go_ret
  exact ⟨by first | rfl | (simp; done) | (simp [*]; done), by repeat (first | exact Drawn0.refl _ | apply Drawn0.step)⟩

/-! ### spec_WtfUnits: function 6 -/
mutual
def spec_WtfUnits.l0 : Nat → ByteArray → List Int → Int → Option (List Int × Bool)
  | 0, _, _, _ => none
  | k + 1, x0, x4, x5 => if (x0.size : Int) > 0 then ((spec_WtfRune.f k x0).bind fun bt111 => (if bt111.2 = 0 then (spec_WtfUnits.j1 k x0 x4 bt111.1 bt111.2 true) else (if bt111.2 = 3 then ((spec_wtfTrail.f bt111.1).bind fun t113 => (if t113 = true then ((spec_wtfLead.f x5).bind fun t114 => (spec_WtfUnits.j1 k x0 x4 bt111.1 bt111.2 t114)) else (spec_WtfUnits.j1 k x0 x4 bt111.1 bt111.2 false))) else (spec_WtfUnits.j1 k x0 x4 bt111.1 bt111.2 false)))) else (some (x4, true))
def spec_WtfUnits.j1 : Nat → ByteArray → List Int → Int → Int → Bool → Option (List Int × Bool)
  | 0, _, _, _, _, _ => none
  | k + 1, x0, x4, x6, x7, x29 => if x29 = true then (some (([] : List Int), false)) else (if x6 ≥ 65536 then ((some (([IntKind.u16.wrap (wrap64 (55296 + ((wrap64 (x6 - 65536)) / 1024))), IntKind.u16.wrap (wrap64 (56320 + (Go.bits .and .i64 (wrap64 (x6 - 65536)) 1023)))] : List Int) : List Int)).bind fun y115 => (if x4.length + y115.length < 70368744177664 then (if 0 ≤ x7 then (if x7 ≤ (x0.size : Int) then (spec_WtfUnits.l0 k (x0.extract (x7 : Int).toNat x0.size) (x4 ++ y115) x6) else (none)) else (none)) else (none))) else (if x4.length < 70368744177664 then (if 0 ≤ x7 then (if x7 ≤ (x0.size : Int) then (spec_WtfUnits.l0 k (x0.extract (x7 : Int).toNat x0.size) (x4 ++ [IntKind.u16.wrap (x6)]) x6) else (none)) else (none)) else (none)))
end
def spec_WtfUnits.f (k : Nat) (a0 : ByteArray) : Option (List Int × Bool) := spec_WtfUnits.l0 k a0 ([] : List Int) 0
theorem spec_WtfUnits.mono_l : ∀ k, (∀ y0 y1 y2, LeO (spec_WtfUnits.l0 k y0 y1 y2) (spec_WtfUnits.l0 (k + 1) y0 y1 y2)) ∧ (∀ y0 y1 y2 y3 y4, LeO (spec_WtfUnits.j1 k y0 y1 y2 y3 y4) (spec_WtfUnits.j1 (k + 1) y0 y1 y2 y3 y4))
  | 0 => ⟨fun _ _ _ r h => by simp [spec_WtfUnits.l0] at h, fun _ _ _ _ _ r h => by simp [spec_WtfUnits.j1] at h⟩
  | k + 1 => by
    obtain ⟨ih0, ih1⟩ := spec_WtfUnits.mono_l k
    refine ⟨?_, ?_⟩
    · intro y0 y1 y2
      unfold spec_WtfUnits.l0
      repeat' first
      | (with_reducible exact ih0 _ _ _)
      | (with_reducible exact ih1 _ _ _ _ _)
      | (with_reducible exact spec_WtfRune.mono _ _)
      | (with_reducible exact LeO.refl _)
      | (with_reducible exact LeO.none _)
      | (with_reducible refine LeO.ite ?_ ?_)
      | (with_reducible refine LeO.bind ?_ (fun _ => ?_))
      | exact ih0 _ _ _
      | exact ih1 _ _ _ _ _
      | exact spec_WtfRune.mono _ _
      | exact LeO.none _
      | refine LeO.ite ?_ ?_
      | refine LeO.bind ?_ (fun _ => ?_)
    · intro y0 y1 y2 y3 y4
      unfold spec_WtfUnits.j1
      repeat' first
      | (with_reducible exact ih0 _ _ _)
      | (with_reducible exact ih1 _ _ _ _ _)
      | (with_reducible exact spec_WtfRune.mono _ _)
      | (with_reducible exact LeO.refl _)
      | (with_reducible exact LeO.none _)
      | (with_reducible refine LeO.ite ?_ ?_)
      | (with_reducible refine LeO.bind ?_ (fun _ => ?_))
      | exact ih0 _ _ _
      | exact ih1 _ _ _ _ _
      | exact spec_WtfRune.mono _ _
      | exact LeO.none _
      | refine LeO.ite ?_ ?_
      | refine LeO.bind ?_ (fun _ => ?_)
theorem spec_WtfUnits.mono : ∀ a0 k, LeO (spec_WtfUnits.f k a0) (spec_WtfUnits.f (k + 1) a0) := by
  intro a0 k
  obtain ⟨ih0, ih1⟩ := spec_WtfUnits.mono_l k
  unfold spec_WtfUnits.f
  repeat' first
      | (with_reducible exact ih0 _ _ _)
      | (with_reducible exact ih1 _ _ _ _ _)
      | (with_reducible exact spec_WtfRune.mono _ _)
      | (with_reducible exact LeO.refl _)
      | (with_reducible exact LeO.none _)
      | (with_reducible refine LeO.ite ?_ ?_)
      | (with_reducible refine LeO.bind ?_ (fun _ => ?_))
      | exact ih0 _ _ _
      | exact ih1 _ _ _ _ _
      | exact spec_WtfRune.mono _ _
      | exact LeO.none _
      | refine LeO.ite ?_ ?_
      | refine LeO.bind ?_ (fun _ => ?_)
set_option maxHeartbeats 8000000 in
set_option maxRecDepth 100000 in
theorem spec_WtfUnits.calls (k : Nat) (a0 : ByteArray) (r1 : List Int) (r2 : Bool) (w : World) (h : spec_WtfUnits.f k a0 = some (r1, r2)) :
    Calls Try.prog 6 #[.string a0] w fun e w' => ∃ v0_ : Value, e = .returned (.tuple #[v0_, .bool r2]) ∧ Kd.R (Kd.int .u16) 39 w' w.heap.size (fun _ => True) v0_ r1 ∧ Below w.heap.size w w' := by
  have HB := Aside0.mk (Below.refl w.heap.size w)
  have H : (spec_WtfUnits.l0 k a0 ([] : List Int) 0) = some (r1, r2) := h
  clear h
  have H' := Aside0.mk H
  clear H
  go_enter Try.func6, Try.ntmps6
  go_wp2
  go_loopg [0, 4, 5] k (fun kq v0 v4 v5 w' => ∃ (x0_1 : ByteArray) (x4_1 : List Int) (x5_1 : Int), v0 = .string x0_1 ∧ v5 = .int .i64 x5_1 ∧ Aside0 (spec_WtfUnits.l0 kq x0_1 x4_1 x5_1 = some (r1, r2)) ∧ Aside0 (kq ≤ k) ∧ Aside0 (Kd.R (Kd.int .u16) 39 w' w.heap.size (fun _ => True) v4 x4_1) ∧ Aside0 (Below w.heap.size w w'))
  case atStart => exact ⟨(a0), (([] : List Int)), (0), (by first | rfl | (simp; done) | (simp [*]; done)), (by first | rfl | (simp; done) | (simp [*]; done)), H', ⟨Nat.le_refl _⟩, ⟨by first | exact Kd.R_nil _ _ _ _ _ | exact Kd.N_nil _ _ _ _ _ | exact Kd.V_nil _ _ _ _ _ | exact Kd.Q_nil _ _ _ _ _ | exact Kd.S_nil _ _ _ _ _⟩, ⟨by repeat (first | (with_reducible first | exact HB.out | apply below_alloc | apply pw_below_drewN | apply below_drew1) | exact HB.out)⟩⟩
  case round =>
    clear H'
    obtain ⟨x0_1, x4_1, x5_1, rfl, rfl, HA, HK1, HO_4, HB⟩ := hrel
    cases gk with
    | zero => exact absurd HA.out (by simp [spec_WtfUnits.l0])
    | succ k1 =>
      have H := HA.out
      clear HA
      simp only [spec_WtfUnits.l0] at H
      by_cases c2 : (x0_1.size : Int) > 0
      · rw [if_pos c2] at H
        have c2b0 : decide (0 < (x0_1.size : Int)) = true := decide_eq_true c2
        have c2b1 : decide (0 < x0_1.size) = true := decide_eq_true (by omega)
        clear c2
        replace H := Option.bind_eq_some_iff.mp H
        obtain ⟨⟨t111, t112⟩, A30, H⟩ := H
        replace H : (if t112 = 0 then (spec_WtfUnits.j1 k1 x0_1 x4_1 t111 t112 true) else (if t112 = 3 then ((spec_wtfTrail.f t111).bind fun t113 => (if t113 = true then ((spec_wtfLead.f x5_1).bind fun t114 => (spec_WtfUnits.j1 k1 x0_1 x4_1 t111 t112 t114)) else (spec_WtfUnits.j1 k1 x0_1 x4_1 t111 t112 false))) else (spec_WtfUnits.j1 k1 x0_1 x4_1 t111 t112 false))) = some (r1, r2) := H
        have A3 := Aside0.mk A30
        clear A30
        have HC4 := Aside0.mk H
        clear H
        go_upto_region 5 with (first | ((with_reducible refine gate_callee (f := 15) rfl ?_); refine goesL_ (some 13) rfl rfl Try.func15 (by kernel_rfl) rfl #[.string x0_1] rfl (by (try simp only [List.map_toArray, List.map_cons, List.map_nil]); first | done | rfl | (simp only [List.length_drop, List.length_take]; rfl)) ?_; (with_reducible refine (spec_WtfRune.calls k1 x0_1 t111 t112 _ A3.out).mono ?_); rintro e w' ⟨rfl, ⟨nd, rfl⟩⟩; refine ⟨_, rfl, ?_⟩))
        (try simp only [Act.put, List.setIfInBounds_toArray, List.set_cons_zero, List.set_cons_succ])
        go_cut [29] (fun v29 wc => ∃ (kq : Nat) (x29_3 : Bool), v29 = .bool x29_3 ∧ Aside0 (spec_WtfUnits.j1 kq x0_1 x4_1 t111 t112 x29_3 = some (r1, r2)) ∧ Aside0 (kq ≤ k1) ∧ Aside0 (Kd.R (Kd.int .u16) 39 wc w.heap.size (fun _ => True) u4 x4_1) ∧ Aside0 (Below w.heap.size w wc))
        case first =>
          have H := HC4.out
          clear HC4
          by_cases c5 : t112 = 0
          · rw [if_pos c5] at H
            have c5b0 : (t112 == 0) = true := beq_iff_eq.mpr c5
            have c5b1 : (t112 != 0) = false := bne_eq_false_iff_eq.mpr c5
            clear c5
            (first | rw [c5b0] | (simp only [i64_w, i32_w]; rw [c5b0]) | skip)
            have H' := Aside0.mk H
            clear H
            go_wp2
            go_meet
            case rel => exact ⟨_, (true), (by first | rfl | (simp; done) | (simp [*]; done)), H', ⟨by have := HK1.out; first | omega | exact Nat.le_refl _⟩, ⟨by (with_reducible repeat (first | apply Kd.R_alloc | apply Kd.R_drewN | apply Kd.R_drew)); exact HO_4.out⟩, ⟨by repeat (first | (with_reducible first | exact HB.out | apply below_alloc | apply pw_below_drewN | apply below_drew1) | exact HB.out)⟩⟩
          · rw [if_neg c5] at H
            have c5b0 : (t112 == 0) = false := beq_eq_false_iff_ne.mpr c5
            have c5b1 : (t112 != 0) = true := bne_iff_ne.mpr c5
            (first | rw [c5b0] | (simp only [i64_w, i32_w]; rw [c5b0]) | skip)
            by_cases c6 : t112 = 3
            · rw [if_pos c6] at H
              have c6b0 : (t112 == 3) = true := beq_iff_eq.mpr c6
              have c6b1 : (t112 != 3) = false := bne_eq_false_iff_eq.mpr c6
              clear c6
              replace H := Option.bind_eq_some_iff.mp H
              obtain ⟨t113, A70, H⟩ := H
              replace H : (if t113 = true then ((spec_wtfLead.f x5_1).bind fun t114 => (spec_WtfUnits.j1 k1 x0_1 x4_1 t111 t112 t114)) else (spec_WtfUnits.j1 k1 x0_1 x4_1 t111 t112 false)) = some (r1, r2) := H
              have A7 := Aside0.mk A70
              clear A70
              by_cases c8 : t113 = true
              · subst c8
                have H1 : ((spec_wtfLead.f x5_1).bind fun t114 => (spec_WtfUnits.j1 k1 x0_1 x4_1 t111 t112 t114)) = some (r1, r2) := by rw [if_pos rfl] at H; exact H
                clear H
                have H := H1
                clear H1
                replace H := Option.bind_eq_some_iff.mp H
                obtain ⟨t114, A90, H⟩ := H
                replace H : (spec_WtfUnits.j1 k1 x0_1 x4_1 t111 t112 t114) = some (r1, r2) := H
                have A9 := Aside0.mk A90
                clear A90
                have H' := Aside0.mk H
                clear H
                go_wp2_with (first | (go_at_call 16; (with_reducible refine (spec_wtfTrail.calls t111 true _ A7.out).mono ?_); rintro e w' ⟨rfl, ⟨nd, rfl⟩⟩) | (go_at_call 17; (with_reducible refine (spec_wtfLead.calls x5_1 t114 _ A9.out).mono ?_); rintro e w' ⟨rfl, ⟨nd, rfl⟩⟩))
                go_meet
                case rel => exact ⟨_, (t114), (by first | rfl | (simp; done) | (simp [*]; done)), H', ⟨by have := HK1.out; first | omega | exact Nat.le_refl _⟩, ⟨by (with_reducible repeat (first | apply Kd.R_alloc | apply Kd.R_drewN | apply Kd.R_drew)); exact HO_4.out⟩, ⟨by repeat (first | (with_reducible first | exact HB.out | apply below_alloc | apply pw_below_drewN | apply below_drew1) | exact HB.out)⟩⟩
              · replace c8 := Bool.eq_false_iff.mpr c8
                subst c8
                have H1 : (spec_WtfUnits.j1 k1 x0_1 x4_1 t111 t112 false) = some (r1, r2) := by rw [if_neg (show ¬ (false = true) by decide)] at H; exact H
                clear H
                have H := H1
                clear H1
                have H' := Aside0.mk H
                clear H
                go_wp2_with (first | (go_at_call 16; (with_reducible refine (spec_wtfTrail.calls t111 false _ A7.out).mono ?_); rintro e w' ⟨rfl, ⟨nd, rfl⟩⟩))
                go_meet
                case rel => exact ⟨_, (false), (by first | rfl | (simp; done) | (simp [*]; done)), H', ⟨by have := HK1.out; first | omega | exact Nat.le_refl _⟩, ⟨by (with_reducible repeat (first | apply Kd.R_alloc | apply Kd.R_drewN | apply Kd.R_drew)); exact HO_4.out⟩, ⟨by repeat (first | (with_reducible first | exact HB.out | apply below_alloc | apply pw_below_drewN | apply below_drew1) | exact HB.out)⟩⟩
            · rw [if_neg c6] at H
              have c6b0 : (t112 == 3) = false := beq_eq_false_iff_ne.mpr c6
              have c6b1 : (t112 != 3) = true := bne_iff_ne.mpr c6
              have H' := Aside0.mk H
              clear H
              go_wp2
              go_meet
              case rel => exact ⟨_, (false), (by first | rfl | (simp; done) | (simp [*]; done)), H', ⟨by have := HK1.out; first | omega | exact Nat.le_refl _⟩, ⟨by (with_reducible repeat (first | apply Kd.R_alloc | apply Kd.R_drewN | apply Kd.R_drew)); exact HO_4.out⟩, ⟨by repeat (first | (with_reducible first | exact HB.out | apply below_alloc | apply pw_below_drewN | apply below_drew1) | exact HB.out)⟩⟩
        case rest =>
          clear HC4
          try clear c1
          try clear c2
          try clear c2b0
          try clear c2b1
          try clear p2
          try clear c5
          try clear c5b0
          try clear c5b1
          try clear c6
          try clear c6b0
          try clear c6b1
          try clear c8
          obtain ⟨kq, x29_3, rfl, HA, HJ3, HO_4, HB⟩ := hcut
          cases kq with
          | zero => exact absurd HA.out (by simp [spec_WtfUnits.j1])
          | succ kj3 =>
            have H := HA.out
            clear HA
            simp only [spec_WtfUnits.j1] at H
            by_cases c10 : x29_3 = true
            · subst c10
              have H1 : (some (([] : List Int), false)) = some (r1, r2) := by rw [if_pos rfl] at H; exact H
              clear H
              have H := H1
              clear H1
              simp only [Option.some.injEq, Prod.mk.injEq] at H
              obtain ⟨rfl, rfl⟩ := H
              go_wp2
              go_ret2
              exact ⟨_, by first | rfl | (simp [errW_none, errW_some] <;> rfl) | (simp [*, errW_none, errW_some] <;> rfl), by first | exact Kd.R_nil _ _ _ _ _ | exact Kd.N_nil _ _ _ _ _ | exact Kd.V_nil _ _ _ _ _ | exact Kd.Q_nil _ _ _ _ _ | exact Kd.S_nil _ _ _ _ _, by repeat (first | (with_reducible first | exact HB.out | apply below_alloc | apply pw_below_drewN | apply below_drew1) | exact HB.out)⟩
            · replace c10 := Bool.eq_false_iff.mpr c10
              subst c10
              have H1 : (if t111 ≥ 65536 then ((some (([IntKind.u16.wrap (wrap64 (55296 + ((wrap64 (t111 - 65536)) / 1024))), IntKind.u16.wrap (wrap64 (56320 + (Go.bits .and .i64 (wrap64 (t111 - 65536)) 1023)))] : List Int) : List Int)).bind fun y115 => (if x4_1.length + y115.length < 70368744177664 then (if 0 ≤ t112 then (if t112 ≤ (x0_1.size : Int) then (spec_WtfUnits.l0 kj3 (x0_1.extract (t112 : Int).toNat x0_1.size) (x4_1 ++ y115) t111) else (none)) else (none)) else (none))) else (if x4_1.length < 70368744177664 then (if 0 ≤ t112 then (if t112 ≤ (x0_1.size : Int) then (spec_WtfUnits.l0 kj3 (x0_1.extract (t112 : Int).toNat x0_1.size) (x4_1 ++ [IntKind.u16.wrap (t111)]) t111) else (none)) else (none)) else (none))) = some (r1, r2) := by rw [if_neg (show ¬ (false = true) by decide)] at H; exact H
              clear H
              have H := H1
              clear H1
              by_cases c11 : t111 ≥ 65536
              · rw [if_pos c11] at H
                have c11b0 : decide (65536 ≤ t111) = true := decide_eq_true c11
                clear c11
                obtain ⟨y115, hy115⟩ : ∃ y_ : List Int, y_ = (([IntKind.u16.wrap (wrap64 (55296 + ((wrap64 (t111 - 65536)) / 1024))), IntKind.u16.wrap (wrap64 (56320 + (Go.bits .and .i64 (wrap64 (t111 - 65536)) 1023)))] : List Int)) := ⟨_, rfl⟩
                replace H : (if x4_1.length + y115.length < 70368744177664 then (if 0 ≤ t112 then (if t112 ≤ (x0_1.size : Int) then (spec_WtfUnits.l0 kj3 (x0_1.extract (t112 : Int).toNat x0_1.size) (x4_1 ++ y115) t111) else (none)) else (none)) else (none)) = some (r1, r2) := by first | (rw [hy115]; with_reducible exact H) | (have H2_ := (Option.bind_some _ _).symm.trans H; rw [hy115]; with_reducible exact H2_) | (have H2_ := (Option.bind_some _ _).symm.trans H; with_reducible exact H2_) | with_reducible exact H | (rw [hy115]; exact H) | exact H
                have Ny115 := Aside0.mk hy115
                clear hy115
                by_cases c12 : x4_1.length + y115.length < 70368744177664
                · rw [if_pos c12] at H
                  have LMc12 := Aside0.mk c12
                  clear c12
                  obtain ⟨y118, hy118⟩ : ∃ y_ : List Int, y_ = (x4_1 ++ y115) := ⟨_, rfl⟩
                  replace H : (if 0 ≤ t112 then (if t112 ≤ (x0_1.size : Int) then (spec_WtfUnits.l0 kj3 (x0_1.extract (t112 : Int).toNat x0_1.size) y118 t111) else (none)) else (none)) = some (r1, r2) := by first | (rw [hy118]; with_reducible exact H) | (have H2_ := (Option.bind_some _ _).symm.trans H; rw [hy118]; with_reducible exact H2_) | (have H2_ := (Option.bind_some _ _).symm.trans H; with_reducible exact H2_) | with_reducible exact H | (rw [hy118]; exact H) | exact H
                  have Ny118 := Aside0.mk hy118
                  clear hy118
                  by_cases c13 : 0 ≤ t112
                  · rw [if_pos c13] at H
                    have c13b0 := eq_true c13
                    have c13b1 : decide (0 ≤ t112) = true := decide_eq_true c13
                    clear c13
                    by_cases c14 : t112 ≤ (x0_1.size : Int)
                    · rw [if_pos c14] at H
                      have c14b0 := eq_true c14
                      have c14b1 : decide (t112 ≤ (x0_1.size : Int)) = true := decide_eq_true c14
                      clear c14
                      have H' := Aside0.mk H
                      clear H
                      go_wp2_with (first | ((with_reducible refine gate_dst (N := 44) rfl ?_); refine Kd.R_lit (Kd.int .u16) _ 39 ?hg (N := 44) ?hd (xs := ([IntKind.u16.wrap (wrap64 (55296 + ((wrap64 (t111 - 65536)) / 1024))), IntKind.u16.wrap (wrap64 (56320 + (Go.bits .and .i64 (wrap64 (t111 - 65536)) 1023)))] : List Int)) (inner := [.int .u16 (IntKind.u16.wrap (wrap64 (55296 + ((wrap64 (t111 - 65536)) / 1024)))), .int .u16 (IntKind.u16.wrap (wrap64 (56320 + (Go.bits .and .i64 (wrap64 (t111 - 65536)) 1023))))]) (ok := fun _ => True) (okp := fun _ => True) ?hr ?hp (fun _ hk => hk) trivial (Below.refl _ _) (Nat.le_refl _) (by simp) ?_; (case hd => rfl); (case hg => rfl); (case hr => first | (go_simp; done) | (go_simp; rfl)); (case hp => exact (Reps.one (show Kd.M (Kd.int .u16) _ _ _ (IntKind.u16.wrap (wrap64 (55296 + ((wrap64 (t111 - 65536)) / 1024)))) [.int .u16 (IntKind.u16.wrap (wrap64 (55296 + ((wrap64 (t111 - 65536)) / 1024))))] from rfl) (Reps.one (show Kd.M (Kd.int .u16) _ _ _ (IntKind.u16.wrap (wrap64 (56320 + (Go.bits .and .i64 (wrap64 (t111 - 65536)) 1023)))) [.int .u16 (IntKind.u16.wrap (wrap64 (56320 + (Go.bits .and .i64 (wrap64 (t111 - 65536)) 1023))))] from rfl) (Reps.none _ _)))); intro v116 w15 ho16 hb hg_ hnew_; clear hg_ hnew_; (first | rw [← Ny115.out] at ho16 | (simp only [Int.reduceToNat] at ho16; rw [← Ny115.out] at ho16)); have n0_ := Aside0.mk (Kd.R_elder' (by (with_reducible repeat (first | apply Kd.R_alloc | apply Kd.R_drewN | apply Kd.R_drew)); exact HO_4.out) (Kd.R_base ho16) hb); have n1_ := Aside0.mk (Kd.R_lower (Kd.R_new' ho16 (Kd.R_lt (by (with_reducible repeat (first | apply Kd.R_alloc | apply Kd.R_drewN | apply Kd.R_drew)); exact HO_4.out))) (below_size (by repeat (first | (with_reducible first | exact HB.out | apply below_alloc | apply pw_below_drewN | apply below_drew1) | exact HB.out)))); have n2_ := Aside0.mk (below_step (by repeat (first | (with_reducible first | exact HB.out | apply below_alloc | apply pw_below_drewN | apply below_drew1) | exact HB.out)) hb); clear HO_4; clear HB; have HO_4 := n0_; have HO117 := n1_; have HB := n2_; clear n0_ n1_ n2_; clear hb ho16; obtain ⟨Ao18, co18, eo18⟩ := Kd.R_slice HO117.out; subst eo18) | ((with_reducible refine gate_builtin (b := .append) (xs := #[.tmp 33, .tmp 44]) rfl ?_); at_builtin; refine Kd.R_append_rows (Kd.int .u16) (w0 := w) w.heap.size rfl (.tmp 33) (.tmp 44) 23 39 (.int .u16 0) 2 rfl Try.underlying23 info39 rfl (by decide) (by omega) u4 x4_1 y115 _ _ _ (fun k_ => some k_ ≠ (.slice Ao18 y115.length co18 : Value).ownBlock) (fun _ => False) rfl rfl ?aO ?aR (fun _ _ h => h) (fun _ h => h.elim) ?aF ?aB ?aS ?aL ?_; (case aR => repeat (first | exact (Kd.R_reads' HO117.out).2.2 | (with_reducible refine Kd.C_alloc ?_ _) | (with_reducible refine Kd.C_drewN ?_ _) | (with_reducible refine Kd.C_drew ?_))); (case aB => exact (by repeat (first | (with_reducible first | exact HB.out | apply below_alloc | apply pw_below_drewN | apply below_drew1) | exact HB.out))); (case aF => exact (fun k_ hk => Kd.fresh' (Kd.R_lt (by (with_reducible repeat (first | apply Kd.R_alloc | apply Kd.R_drewN | apply Kd.R_drew)); exact HO117.out)) k_ hk)); (case aO => exact (by (with_reducible repeat (first | apply Kd.R_alloc | apply Kd.R_drewN | apply Kd.R_drew)); exact Kd.R_mono HO_4.out (fun _ hk => hk.2))); (case aS => exact (below_size (by repeat (first | (with_reducible first | exact HB.out | apply below_alloc | apply pw_below_drewN | apply below_drew1) | exact HB.out)))); (case aL => have := LMc12.out; omega); intro v119 w17 ho hb hg hat; rw [← Ny118.out] at ho; have n0_ := Aside0.mk (Kd.R_after (ok := (fun _ => True)) (by (with_reducible repeat (first | apply Kd.R_alloc | apply Kd.R_drewN | apply Kd.R_drew)); exact HO117.out) hg hat); have n1_ := Aside0.mk (hb); have n2_ := Aside0.mk (ho); clear HO117; clear HB; clear HO_4; have HO117 := n0_; have HB := n1_; have HO120 := n2_; clear n0_ n1_ n2_; clear ho hb hg hat))
                      go_roundg kj3
                      case measure => have := HK1.out; have := HJ3.out; omega
                      case rel => exact ⟨(x0_1.extract (t112 : Int).toNat x0_1.size), (y118), (t111), (by first | rfl | (simp; done) | (simp [*]; done)), (by first | rfl | (simp; done) | (simp [*]; done)), H', ⟨by have := HK1.out; have := HJ3.out; omega⟩, ⟨by (with_reducible repeat (first | apply Kd.R_alloc | apply Kd.R_drewN | apply Kd.R_drew)); exact Kd.R_mono HO120.out (fun _ hk => trivial)⟩, ⟨by repeat (first | (with_reducible first | exact HB.out | apply below_alloc | apply pw_below_drewN | apply below_drew1) | exact HB.out)⟩⟩
                    · rw [if_neg c14] at H
                      exact absurd H (by simp)
                  · rw [if_neg c13] at H
                    exact absurd H (by simp)
                · rw [if_neg c12] at H
                  exact absurd H (by simp)
              · rw [if_neg c11] at H
                have c11b0 : decide (65536 ≤ t111) = false := decide_eq_false c11
                clear c11
                by_cases c19 : x4_1.length < 70368744177664
                · rw [if_pos c19] at H
                  have LMc19 := Aside0.mk c19
                  clear c19
                  obtain ⟨y121, hy121⟩ : ∃ y_ : List Int, y_ = (x4_1 ++ [IntKind.u16.wrap (t111)]) := ⟨_, rfl⟩
                  replace H : (if 0 ≤ t112 then (if t112 ≤ (x0_1.size : Int) then (spec_WtfUnits.l0 kj3 (x0_1.extract (t112 : Int).toNat x0_1.size) y121 t111) else (none)) else (none)) = some (r1, r2) := by first | (rw [hy121]; with_reducible exact H) | (have H2_ := (Option.bind_some _ _).symm.trans H; rw [hy121]; with_reducible exact H2_) | (have H2_ := (Option.bind_some _ _).symm.trans H; with_reducible exact H2_) | with_reducible exact H | (rw [hy121]; exact H) | exact H
                  have Ny121 := Aside0.mk hy121
                  clear hy121
                  by_cases c20 : 0 ≤ t112
                  · rw [if_pos c20] at H
                    have c20b0 := eq_true c20
                    have c20b1 : decide (0 ≤ t112) = true := decide_eq_true c20
                    clear c20
                    by_cases c21 : t112 ≤ (x0_1.size : Int)
                    · rw [if_pos c21] at H
                      have c21b0 := eq_true c21
                      have c21b1 : decide (t112 ≤ (x0_1.size : Int)) = true := decide_eq_true c21
                      clear c21
                      have H' := Aside0.mk H
                      clear H
                      go_wp2_with (first | ((with_reducible refine gate_builtin (b := .append) (xs := #[.tmp 46, .tmp 49]) rfl ?_); at_builtin; refine Kd.R_append (Kd.int .u16) (w0 := w) w.heap.size rfl (.tmp 46) (.tmp 49) 23 39 (.int .u16 0) 2 rfl Try.underlying23 info39 rfl (by decide) (by omega) u4 x4_1 (IntKind.u16.wrap (t111)) [.int .u16 (IntKind.u16.wrap (t111))] (fun _ => True) (fun _ => False) rfl rfl ?aP (fun _ hk => hk.elim) ?aF ?aO ?aB ?aS ?aL ?_; (case aP => exact rfl); (case aB => exact (by repeat (first | (with_reducible first | exact HB.out | apply below_alloc | apply pw_below_drewN | apply below_drew1) | exact HB.out))); (case aF => exact (fun _ _ => trivial)); (case aO => exact (by (with_reducible repeat (first | apply Kd.R_alloc | apply Kd.R_drewN | apply Kd.R_drew)); exact HO_4.out)); (case aS => exact (below_size (by repeat (first | (with_reducible first | exact HB.out | apply below_alloc | apply pw_below_drewN | apply below_drew1) | exact HB.out)))); (case aL => have := LMc19.out; omega); intro v122 w22 ho hb hg hat; rw [← Ny121.out] at ho; have n0_ := Aside0.mk (hb); have n1_ := Aside0.mk (ho); clear HB; clear HO_4; have HB := n0_; have HO123 := n1_; clear n0_ n1_; clear ho hb hg hat))
                      go_roundg kj3
                      case measure => have := HK1.out; have := HJ3.out; omega
                      case rel => exact ⟨(x0_1.extract (t112 : Int).toNat x0_1.size), (y121), (t111), (by first | rfl | (simp; done) | (simp [*]; done)), (by first | rfl | (simp; done) | (simp [*]; done)), H', ⟨by have := HK1.out; have := HJ3.out; omega⟩, ⟨by (with_reducible repeat (first | apply Kd.R_alloc | apply Kd.R_drewN | apply Kd.R_drew)); exact HO123.out⟩, ⟨by repeat (first | (with_reducible first | exact HB.out | apply below_alloc | apply pw_below_drewN | apply below_drew1) | exact HB.out)⟩⟩
                    · rw [if_neg c21] at H
                      exact absurd H (by simp)
                  · rw [if_neg c20] at H
                    exact absurd H (by simp)
                · rw [if_neg c19] at H
                  exact absurd H (by simp)
      · rw [if_neg c2] at H
        have c2b0 : decide (0 < (x0_1.size : Int)) = false := decide_eq_false c2
        have c2b1 : decide (0 < x0_1.size) = false := decide_eq_false (by omega)
        clear c2
        simp only [Option.some.injEq, Prod.mk.injEq] at H
        obtain ⟨rfl, rfl⟩ := H
        go_wp2
        go_ret2
        exact ⟨_, by first | rfl | (simp [errW_none, errW_some] <;> rfl) | (simp [*, errW_none, errW_some] <;> rfl), by (with_reducible repeat (first | apply Kd.R_alloc | apply Kd.R_drewN | apply Kd.R_drew)); exact HO_4.out, by repeat (first | (with_reducible first | exact HB.out | apply below_alloc | apply pw_below_drewN | apply below_drew1) | exact HB.out)⟩

/-! ### spec_WellFormed: function 7 -/
def spec_WellFormed.l0 : Nat → ByteArray → Int → Option (Bool)
  | 0, _, _ => none
  | k + 1, x0, x3 => if x3 < (x0.size : Int) then ((spec_Rune.f k x0 x3).bind fun bt124 => (if bt124.2 = 0 then (some false) else (spec_WellFormed.l0 k x0 (wrap64 (x3 + bt124.2))))) else (some true)
def spec_WellFormed.f (k : Nat) (a0 : ByteArray) : Option (Bool) := spec_WellFormed.l0 k a0 0
theorem spec_WellFormed.mono_l : ∀ k, (∀ y0 y1, LeO (spec_WellFormed.l0 k y0 y1) (spec_WellFormed.l0 (k + 1) y0 y1))
  | 0 => fun _ _ r h => by simp [spec_WellFormed.l0] at h
  | k + 1 => by
    have ih0 := spec_WellFormed.mono_l k
    · intro y0 y1
      unfold spec_WellFormed.l0
      repeat' first
      | (with_reducible exact ih0 _ _)
      | (with_reducible exact spec_Rune.mono _ _ _)
      | (with_reducible exact LeO.refl _)
      | (with_reducible exact LeO.none _)
      | (with_reducible refine LeO.ite ?_ ?_)
      | (with_reducible refine LeO.bind ?_ (fun _ => ?_))
      | exact ih0 _ _
      | exact spec_Rune.mono _ _ _
      | exact LeO.none _
      | refine LeO.ite ?_ ?_
      | refine LeO.bind ?_ (fun _ => ?_)
theorem spec_WellFormed.mono : ∀ a0 k, LeO (spec_WellFormed.f k a0) (spec_WellFormed.f (k + 1) a0) := by
  intro a0 k
  have ih0 := spec_WellFormed.mono_l k
  unfold spec_WellFormed.f
  repeat' first
      | (with_reducible exact ih0 _ _)
      | (with_reducible exact spec_Rune.mono _ _ _)
      | (with_reducible exact LeO.refl _)
      | (with_reducible exact LeO.none _)
      | (with_reducible refine LeO.ite ?_ ?_)
      | (with_reducible refine LeO.bind ?_ (fun _ => ?_))
      | exact ih0 _ _
      | exact spec_Rune.mono _ _ _
      | exact LeO.none _
      | refine LeO.ite ?_ ?_
      | refine LeO.bind ?_ (fun _ => ?_)
set_option maxHeartbeats 8000000 in
set_option maxRecDepth 100000 in
theorem spec_WellFormed.calls (k : Nat) (a0 : ByteArray) (r : Bool) (w : World) (h : spec_WellFormed.f k a0 = some r) :
    Calls Try.prog 7 #[.string a0] w fun e w' => e = .returned (.bool r) ∧ Drawn0 w w' := by
  have H : (spec_WellFormed.l0 k a0 0) = some r := h
  clear h
  have H' := Aside0.mk H
  clear H
  go_enter Try.func7, Try.ntmps7
  go_wp2
  go_loopg [3] k (fun kq v3 w' => ∃ (x3_1 : Int), v3 = .int .i64 x3_1 ∧ Aside0 (spec_WellFormed.l0 kq a0 x3_1 = some r) ∧ Aside0 (kq ≤ k) ∧ Drawn0 w w')
  case atStart => exact ⟨(0), (by first | rfl | (simp; done) | (simp [*]; done)), H', ⟨Nat.le_refl _⟩, by repeat (first | exact Drawn0.refl _ | apply Drawn0.step)⟩
  case round =>
    clear H'
    obtain ⟨x3_1, rfl, HA, HK1, ⟨m1, rfl⟩⟩ := hrel
    cases gk with
    | zero => exact absurd HA.out (by simp [spec_WellFormed.l0])
    | succ k1 =>
      have H := HA.out
      clear HA
      simp only [spec_WellFormed.l0] at H
      by_cases c2 : x3_1 < (a0.size : Int)
      · rw [if_pos c2] at H
        have c2b0 : decide (x3_1 < (a0.size : Int)) = true := decide_eq_true c2
        clear c2
        replace H := Option.bind_eq_some_iff.mp H
        obtain ⟨⟨t124, t125⟩, A30, H⟩ := H
        replace H : (if t125 = 0 then (some false) else (spec_WellFormed.l0 k1 a0 (wrap64 (x3_1 + t125)))) = some r := H
        have A3 := Aside0.mk A30
        clear A30
        by_cases c4 : t125 = 0
        · rw [if_pos c4] at H
          have c4b0 : (t125 == 0) = true := beq_iff_eq.mpr c4
          have c4b1 : (t125 != 0) = false := bne_eq_false_iff_eq.mpr c4
          clear c4
          obtain rfl := Option.some.inj H
          go_wp2_with (first | ((with_reducible refine gate_callee (f := 18) rfl ?_); refine goesL_ (some 13) rfl rfl Try.func18 (by kernel_rfl) rfl #[.string a0, .int .i64 x3_1] rfl (by (try simp only [List.map_toArray, List.map_cons, List.map_nil]); first | done | rfl | (simp only [List.length_drop, List.length_take]; rfl)) ?_; (with_reducible refine (spec_Rune.calls k1 a0 x3_1 t124 t125 _ A3.out).mono ?_); rintro e w' ⟨rfl, ⟨nd, rfl⟩⟩; refine ⟨_, rfl, ?_⟩))
          go_ret
          exact ⟨by first | rfl | (simp; done) | (simp [*]; done), by repeat (first | exact Drawn0.refl _ | apply Drawn0.step)⟩
        · rw [if_neg c4] at H
          have c4b0 : (t125 == 0) = false := beq_eq_false_iff_ne.mpr c4
          have c4b1 : (t125 != 0) = true := bne_iff_ne.mpr c4
          have H' := Aside0.mk H
          clear H
          go_wp2_with (first | ((with_reducible refine gate_callee (f := 18) rfl ?_); refine goesL_ (some 13) rfl rfl Try.func18 (by kernel_rfl) rfl #[.string a0, .int .i64 x3_1] rfl (by (try simp only [List.map_toArray, List.map_cons, List.map_nil]); first | done | rfl | (simp only [List.length_drop, List.length_take]; rfl)) ?_; (with_reducible refine (spec_Rune.calls k1 a0 x3_1 t124 t125 _ A3.out).mono ?_); rintro e w' ⟨rfl, ⟨nd, rfl⟩⟩; refine ⟨_, rfl, ?_⟩))
          go_roundg k1
          case measure => have := HK1.out; omega
          case rel => exact ⟨(wrap64 (x3_1 + t125)), (by first | rfl | (simp; done) | (simp [*]; done)), H', ⟨by have := HK1.out; omega⟩, by repeat (first | exact Drawn0.refl _ | apply Drawn0.step)⟩
      · rw [if_neg c2] at H
        have c2b0 : decide (x3_1 < (a0.size : Int)) = false := decide_eq_false c2
        clear c2
        obtain rfl := Option.some.inj H
        go_wp2
        go_ret
        exact ⟨by first | rfl | (simp; done) | (simp [*]; done), by repeat (first | exact Drawn0.refl _ | apply Drawn0.step)⟩

/-! ### spec_textLower: function 19 -/
def spec_textLower.f (a0 : Int) : Option (Int) := if a0 ≥ 65 then (if a0 ≤ 90 then (some ((a0 + 32) % 256)) else (some a0)) else (some a0)
set_option maxHeartbeats 8000000 in
set_option maxRecDepth 100000 in
theorem spec_textLower.calls (a0 : Int) (r : Int) (w : World) (h : spec_textLower.f a0 = some r) :
    Calls Try.prog 19 #[.int .u8 a0] w fun e w' => e = .returned (.int .u8 r) ∧ Drawn0 w w' := by
  have H : (if a0 ≥ 65 then (if a0 ≤ 90 then (some ((a0 + 32) % 256)) else (some a0)) else (some a0)) = some r := h
  clear h
  by_cases c2 : a0 ≥ 65
  · rw [if_pos c2] at H
    have c2b0 : decide (65 ≤ a0) = true := decide_eq_true c2
    clear c2
    by_cases c3 : a0 ≤ 90
    · rw [if_pos c3] at H
      have c3b0 : decide (a0 ≤ 90) = true := decide_eq_true c3
      clear c3
      obtain rfl := Option.some.inj H
      go_enter Try.func19, Try.ntmps19
      go_wp2
      go_ret
      exact ⟨by first | rfl | (simp; done) | (simp [*]; done), by repeat (first | exact Drawn0.refl _ | apply Drawn0.step)⟩
    · rw [if_neg c3] at H
      have c3b0 : decide (a0 ≤ 90) = false := decide_eq_false c3
      clear c3
      obtain rfl := Option.some.inj H
      go_enter Try.func19, Try.ntmps19
      go_wp2
      go_ret
      exact ⟨by first | rfl | (simp; done) | (simp [*]; done), by repeat (first | exact Drawn0.refl _ | apply Drawn0.step)⟩
  · rw [if_neg c2] at H
    have c2b0 : decide (65 ≤ a0) = false := decide_eq_false c2
    clear c2
    obtain rfl := Option.some.inj H
    go_enter Try.func19, Try.ntmps19
    go_wp2
    go_ret
    exact ⟨by first | rfl | (simp; done) | (simp [*]; done), by repeat (first | exact Drawn0.refl _ | apply Drawn0.step)⟩

end Go.Proofs.Ytmgepjnaalnckaa.PFnQuoteSingle
