/- (*scan).is only draws: its printed contract, written again so (by gen_quiet.py of this session). -/
import Derived.Test.YtmgepjnaalnckaaPJsStringx7
namespace Go.Proofs.Ytmgepjnaalnckaa
open Go.RowKit Go.Proofs.YtmgepjnaalnckaaW.PrintWords Go.Proofs.YtmgepjnaalnckaaW.PrintLast Go.Proofs.YtmgepjnaalnckaaW.PrintMore Go.Proofs.Ytmgepjnaalnckaa.PJsString
attribute [local go_sem] max2_int min2_int max_two min_two max_three min_three max_four min_four
set_option maxHeartbeats 8000000 in
set_option maxRecDepth 100000 in
theorem is_quiet (g : Nat) (s0_0 : ByteArray) (s0_1 : Int) (s0_2 : Bool) (s0_3 : Bool) (s0_4 : Int) (a1 : ByteArray) (r1 : Bool) (r2 : ByteArray) (r3 : Int) (r4 : Bool) (r5 : Bool) (r6 : Int) (w0 w : World) (hI : IsS61 w0 w g s0_0 s0_1 s0_2 s0_3 s0_4) (hB : Below w0.heap.size w0 w) (h : spec_scan_is.f s0_0 s0_1 s0_2 s0_3 s0_4 a1 = some (r1, r2, r3, r4, r5, r6)) :
    Calls Try.prog 38 #[.pointer (some ⟨g, 0, none⟩), .string a1] w fun e w' => e = .returned (.bool r1) ∧ Drawn0 w w' := by
  have HI0 := Aside0.mk hI
  have HK := Aside0.mk (KeepBut.refl w g none)
  have HL := Aside0.mk hB.size
  clear hI
  have HW0 := Aside0.mk hB.size
  have HB := Aside0.mk hB
  clear hB
  have H : (if (a1.size : Int) ≤ (wrap64 ((s0_0.size : Int) - s0_1)) then (if 0 ≤ s0_1 then (if s0_1 ≤ (wrap64 (s0_1 + (a1.size : Int))) then (if (wrap64 (s0_1 + (a1.size : Int))) ≤ (s0_0.size : Int) then (some (((s0_0.extract (s0_1 : Int).toNat ((wrap64 (s0_1 + (a1.size : Int))) : Int).toNat).toList == a1.toList), s0_0, s0_1, s0_2, s0_3, s0_4)) else (none)) else (none)) else (none)) else (some (false, s0_0, s0_1, s0_2, s0_3, s0_4))) = some (r1, r2, r3, r4, r5, r6) := h
  clear h
  by_cases c3 : (a1.size : Int) ≤ (wrap64 ((s0_0.size : Int) - s0_1))
  · rw [if_pos c3] at H
    have c3b0 : decide ((a1.size : Int) ≤ (wrap64 ((s0_0.size : Int) - s0_1))) = true := decide_eq_true c3
    clear c3
    by_cases c4 : 0 ≤ s0_1
    · rw [if_pos c4] at H
      have c4b0 := eq_true c4
      have c4b1 : decide (0 ≤ s0_1) = true := decide_eq_true c4
      clear c4
      by_cases c5 : s0_1 ≤ (wrap64 (s0_1 + (a1.size : Int)))
      · rw [if_pos c5] at H
        have c5b0 := eq_true c5
        have c5b1 : decide (s0_1 ≤ (wrap64 (s0_1 + (a1.size : Int)))) = true := decide_eq_true c5
        by_cases c6 : (wrap64 (s0_1 + (a1.size : Int))) ≤ (s0_0.size : Int)
        · rw [if_pos c6] at H
          have c6b0 := eq_true c6
          have c6b1 : decide ((wrap64 (s0_1 + (a1.size : Int))) ≤ (s0_0.size : Int)) = true := decide_eq_true c6
          simp only [Option.some.injEq, Prod.mk.injEq] at H
          obtain ⟨rfl, rfl, rfl, rfl, rfl, rfl⟩ := H
          obtain ⟨HGz7, hgz7⟩ := HI0.out
          have hcz7_0 := cellS61_0 HGz7
          have hcz7_1 := cellS61_1 HGz7
          have hcz7_2 := cellS61_2 HGz7
          have hcz7_3 := cellS61_3 HGz7
          have hcz7_4 := cellS61_4 HGz7
          have hfz7_0 := blk_frozen HGz7 0
          have hfz7_1 := blk_frozen HGz7 1
          have hfz7_2 := blk_frozen HGz7 2
          have hfz7_3 := blk_frozen HGz7 3
          have hfz7_4 := blk_frozen HGz7 4
          clear HGz7 hgz7
          go_enter Try.func38, Try.ntmps38
          go_wp2
          repeat (go_quiet (fail); try go_wp2)
          go_ret
          exact ⟨by first | rfl | (simp [errW_none, errW_some] <;> rfl) | (simp [*, errW_none, errW_some] <;> rfl), by first | exact ⟨_, rfl⟩ | (repeat (first | exact Drawn0.refl _ | apply Drawn0.step))⟩
        · rw [if_neg c6] at H
          exact absurd H (by simp)
      · rw [if_neg c5] at H
        exact absurd H (by simp)
    · rw [if_neg c4] at H
      exact absurd H (by simp)
  · rw [if_neg c3] at H
    have c3b0 : decide ((a1.size : Int) ≤ (wrap64 ((s0_0.size : Int) - s0_1))) = false := decide_eq_false c3
    clear c3
    simp only [Option.some.injEq, Prod.mk.injEq] at H
    obtain ⟨rfl, rfl, rfl, rfl, rfl, rfl⟩ := H
    obtain ⟨HGz8, hgz8⟩ := HI0.out
    have hcz8_0 := cellS61_0 HGz8
    have hcz8_1 := cellS61_1 HGz8
    have hcz8_2 := cellS61_2 HGz8
    have hcz8_3 := cellS61_3 HGz8
    have hcz8_4 := cellS61_4 HGz8
    have hfz8_0 := blk_frozen HGz8 0
    have hfz8_1 := blk_frozen HGz8 1
    have hfz8_2 := blk_frozen HGz8 2
    have hfz8_3 := blk_frozen HGz8 3
    have hfz8_4 := blk_frozen HGz8 4
    clear HGz8 hgz8
    go_enter Try.func38, Try.ntmps38
    go_wp2
    repeat (go_quiet (fail); try go_wp2)
    go_ret
    exact ⟨by first | rfl | (simp [errW_none, errW_some] <;> rfl) | (simp [*, errW_none, errW_some] <;> rfl), by first | exact ⟨_, rfl⟩ | (repeat (first | exact Drawn0.refl _ | apply Drawn0.step))⟩

-- function 39 (spec_scan_rest): its contract stands in YtmgepjnaalnckaaExtRest
end Go.Proofs.Ytmgepjnaalnckaa
