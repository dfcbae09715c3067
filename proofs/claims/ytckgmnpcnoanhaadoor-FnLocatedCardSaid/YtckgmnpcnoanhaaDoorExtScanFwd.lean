/- scanTo, walked: forwards. -/
import Derived.Test.YtckgmnpcnoanhaaDoorExtScan
set_option linter.unusedVariables false
set_option linter.unusedSimpArgs false
namespace Go.Proofs.YtckgmnpcnoanhaaDoor
open Go Go.RowKit Go.Proofs.YtckgmnpcnoanhaaDoorW.PrintWords Go.Proofs.YtckgmnpcnoanhaaDoorW.PrintLast Go.Proofs.YtckgmnpcnoanhaaDoorW.PrintMore Go.Proofs.YtckgmnpcnoanhaaDoor.PFnLocated
set_option maxHeartbeats 8000000 in
set_option maxRecDepth 100000 in
theorem Scan.fwd (nt : Nat) (s : ByteArray) (i j : Nat) (w : World) (hW : Wf s) (hj : Sp s j) (hz : s.size ≤ 4096) (h : SS w w nt s i i) (hnt : 2 ≤ nt) (hlt : (i : Int) < (j : Int)) :
    Calls Tryd.prog 17 #[.pointer (some ⟨nt, 0, none⟩), .int .i32 (j : Int)] w fun e w' => e = .returned (.tuple #[]) ∧ SS w w' nt s j j := by
  obtain ⟨l0, ls0, le0, hs0, he0, hG0, hT0, hU0, hN0⟩ := h.out
  have HZ := Lib.hid hz
  have HW := Lib.hid hW
  have HJ := Lib.hid hj
  have HN := Lib.hid hnt
  have y0 := (blk_cell hT0 0).trans rfl
  have y3 := (blk_cell hT0 3).trans rfl
  have HS := Lib.hid h
  have hi : i ≤ 4096 := by have := hG0.line_le; omega
  have hi2 : i ≤ s.size := by have := hG0.line_le; omega
  have hj2 : j ≤ 4096 := by have := hj.1; omega
  clear hW hj hz hnt h hG0 hT0 hU0 hN0
  go_enter Tryd.func17, Tryd.ntmps17
  · have d1 : decide ((i : Int) < (j : Int)) = true := decide_eq_true hlt
    go_wp2
    clear y0 y3
    go_loopw [5] (fun v5 wr => ∃ (q : Nat), v5 = .int .i32 (q : Int) ∧ q < j ∧ Hid (SS w wr nt s i q)) (fun v5 _ => j - (intOf v5).toNat)
    case atStart => exact ⟨i, rfl, by omega, HS⟩
    clear HS
    obtain ⟨q, rfl, hq, HS⟩ := hrel
    obtain ⟨l, ls, le, hs, he, hG, hT, hU, hN⟩ := HS.out.out
    obtain ⟨c, n, hR⟩ := hG.rune HW.out (by have := HJ.out.1; omega)
    have hle := hG.line_le
    have hf1 : 0 < n ∧ n ≤ 4 ∧ q + n ≤ s.size := ⟨hR.facts.2.2.1, hR.facts.2.2.2.1, hR.facts.2.2.2.2.1⟩
    have p1 : (0 : Int) ≤ (q : Int) := by omega
    have q1 : (q : Int) ≤ (s.size : Int) := by omega
    have en : wrap32 (n : Int) = (n : Int) := s32 n (by omega)
    have eq : wrap32 ((q : Int) + (n : Int)) = ((q + n : Nat) : Int) := s32a q n (by omega)
    have hqn : q + n ≤ j := HJ.out.not_in hR hq
    have HR := Lib.hid hR
    have HG := Lib.hid hG
    have HT := Lib.hid hT
    have HU := Lib.hid hU
    have HK := Lib.hid hN
    have HF := Lib.hid hR.facts
    have Hq := Lib.hid hq
    have hl : wrap32 ((l : Int) + 1) = (l : Int) + 1 := s32b l (by omega)
    have hsz : q + n ≤ s.size := by omega
    clear HS hR hG hT hU hN hle hf1 hq
    by_cases hc : isEnd c = true
    · have hn := (isEnd_iff c).1 hc
      have hgo := HG.out.fwd_end HR.out hc
      by_cases hc10 : c = 10
      · subst hc10
        obtain rfl : n = 1 := (HF.out.2.2.2.2.2.1 (by decide)).1
        by_cases hq0 : q = 0
        · have ha : adds s q 10 = true := by unfold adds; rw [if_pos rfl]; exact decide_eq_true (Or.inl hq0)
          rw [ha, if_pos rfl] at hgo
          have Hgo := Lib.hid hgo
          subst hq0
          clear hgo ha hc
          by_cases hjq : j ≤ 1
          · have d2 := eq_true (show (j : Int) ≤ 1 by omega)
            obtain rfl : j = 1 := by have := Hq.out; omega
            go_wp2_with (first | (go_at_call 19; (with_reducible refine (first_calls0 HR.out wr HU.out).mono ?_); rintro e w1 ⟨rfl, hb⟩; have HB := Lib.hid hb; have hX := blk_below HT.out hb; have z3 := (blk_cell hX 3).trans rfl; have z4 := (blk_cell hX 4).trans rfl; have f3 := blk_frozen hX 3; have f4 := blk_frozen hX 4; have f5 := blk_frozen hX 5; have f6 := blk_frozen hX 6; have f7 := blk_frozen hX 7; have f8 := blk_frozen hX 8; have z5 := (blk_cell hX 5).trans rfl; have z6 := (blk_cell hX 6).trans rfl; have z7 := (blk_cell hX 7).trans rfl; have z8 := (blk_cell hX 8).trans rfl; clear hb hX))
            refine bodyPost_ret (results_none rfl _ _ _) rfl ⟨rfl, ?_⟩
            exact (SS.ended1 HT.out HU.out HK.out HB.out HN.out Hgo.out rfl rfl).stop HN.out rfl
          · have d2 := eq_false (show ¬ ((j : Int) ≤ 1) by omega)
            go_wp2_with (first | (go_at_call 19; (with_reducible refine (first_calls0 HR.out wr HU.out).mono ?_); rintro e w1 ⟨rfl, hb⟩; have HB := Lib.hid hb; have hX := blk_below HT.out hb; have z3 := (blk_cell hX 3).trans rfl; have z4 := (blk_cell hX 4).trans rfl; have f3 := blk_frozen hX 3; have f4 := blk_frozen hX 4; have f5 := blk_frozen hX 5; have f6 := blk_frozen hX 6; have f7 := blk_frozen hX 7; have f8 := blk_frozen hX 8; have z5 := (blk_cell hX 5).trans rfl; have z6 := (blk_cell hX 6).trans rfl; have z7 := (blk_cell hX 7).trans rfl; have z8 := (blk_cell hX 8).trans rfl; clear hb hX))
            go_roundw
            case rel => exact ⟨1, rfl, by omega, Lib.hid (SS.ended1 HT.out HU.out HK.out HB.out HN.out Hgo.out rfl rfl)⟩
            case measure => exact meas_f 0 1 j Hq.out HF.out.2.2.1
        · have hb1 : q - 1 < s.size := by omega
          have r0 : ((q : Int) + 1 == 1) = false := beq_eq_false_iff_ne.mpr (by omega)
          have r5 : ¬ ((q : Int) + 1 = 1) := by omega
          have r6 : 1 ≤ q := by omega
          have r1 : wrap32 ((q : Int) + 1 - 1) = (q : Int) := s32c q (by omega)
          have r2 : wrap32 ((q : Int) - 1) = (q : Int) - 1 := s32f q (by omega) (by omega)
          have r3 := eq_true (show (0 : Int) ≤ (q : Int) - 1 by omega)
          have r4 := eq_true (show (q : Int) - 1 < (s.size : Int) by omega)
          by_cases h13 : bt s ((q : Int) - 1) = 13
          · have ha : adds s q 10 = false := by unfold adds; rw [if_pos rfl]; exact decide_eq_false (fun h => h.elim hq0 (fun h => h h13))
            rw [ha] at hgo
            have Hgo := Lib.hid (show Good s (q + 1) l (q + 1) le true false from hgo)
            rw [prev_byte s q (by omega) hb1] at h13
            have r7 : (((s[q - 1]'hb1).toNat : Int) != 13) = false := bne_eq_false_iff_eq.mpr h13
            clear hgo ha hc
            by_cases hjq : j ≤ q + 1
            · have d2 := eq_true (show (j : Int) ≤ (q : Int) + (1 : Int) by omega)
              have hjn : j = q + 1 := by omega
              go_wp2_with (first | (go_at_call 19; (with_reducible refine (first_calls HR.out wr HU.out).mono ?_); rintro e w1 ⟨rfl, hb⟩; have HB := Lib.hid hb; have hX := blk_below HT.out hb; have z3 := (blk_cell hX 3).trans rfl; have z4 := (blk_cell hX 4).trans rfl; have f3 := blk_frozen hX 3; have f4 := blk_frozen hX 4; have f5 := blk_frozen hX 5; have f6 := blk_frozen hX 6; have f7 := blk_frozen hX 7; have f8 := blk_frozen hX 8; have z5 := (blk_cell hX 5).trans rfl; have z6 := (blk_cell hX 6).trans rfl; have z7 := (blk_cell hX 7).trans rfl; have z8 := (blk_cell hX 8).trans rfl; clear hb hX))
              refine bodyPost_ret (results_none rfl _ _ _) rfl ⟨rfl, ?_⟩
              rw [hjn]
              exact (SS.ended HT.out HU.out HK.out HB.out HN.out Hgo.out (by push_cast; rfl)).stop HN.out (by push_cast; rfl)
            · have d2 := eq_false (show ¬ ((j : Int) ≤ (q : Int) + (1 : Int)) by omega)
              go_wp2_with (first | (go_at_call 19; (with_reducible refine (first_calls HR.out wr HU.out).mono ?_); rintro e w1 ⟨rfl, hb⟩; have HB := Lib.hid hb; have hX := blk_below HT.out hb; have z3 := (blk_cell hX 3).trans rfl; have z4 := (blk_cell hX 4).trans rfl; have f3 := blk_frozen hX 3; have f4 := blk_frozen hX 4; have f5 := blk_frozen hX 5; have f6 := blk_frozen hX 6; have f7 := blk_frozen hX 7; have f8 := blk_frozen hX 8; have z5 := (blk_cell hX 5).trans rfl; have z6 := (blk_cell hX 6).trans rfl; have z7 := (blk_cell hX 7).trans rfl; have z8 := (blk_cell hX 8).trans rfl; clear hb hX))
              go_roundw
              case rel => exact ⟨q + 1, by push_cast; rfl, lt_of_not_le'' hjq, Lib.hid (SS.ended HT.out HU.out HK.out HB.out HN.out Hgo.out (by push_cast; rfl))⟩
              case measure => exact meas_f q 1 j Hq.out HF.out.2.2.1
          · have ha : adds s q 10 = true := by unfold adds; rw [if_pos rfl]; exact decide_eq_true (Or.inr h13)
            rw [ha, if_pos rfl] at hgo
            have Hgo := Lib.hid hgo
            rw [prev_byte s q (by omega) hb1] at h13
            have r7 : (((s[q - 1]'hb1).toNat : Int) != 13) = true := bne_iff_ne.mpr h13
            clear hgo ha hc
            by_cases hjq : j ≤ q + 1
            · have d2 := eq_true (show (j : Int) ≤ (q : Int) + (1 : Int) by omega)
              have hjn : j = q + 1 := by omega
              go_wp2_with (first | (go_at_call 19; (with_reducible refine (first_calls HR.out wr HU.out).mono ?_); rintro e w1 ⟨rfl, hb⟩; have HB := Lib.hid hb; have hX := blk_below HT.out hb; have z3 := (blk_cell hX 3).trans rfl; have z4 := (blk_cell hX 4).trans rfl; have f3 := blk_frozen hX 3; have f4 := blk_frozen hX 4; have f5 := blk_frozen hX 5; have f6 := blk_frozen hX 6; have f7 := blk_frozen hX 7; have f8 := blk_frozen hX 8; have z5 := (blk_cell hX 5).trans rfl; have z6 := (blk_cell hX 6).trans rfl; have z7 := (blk_cell hX 7).trans rfl; have z8 := (blk_cell hX 8).trans rfl; clear hb hX))
              refine bodyPost_ret (results_none rfl _ _ _) rfl ⟨rfl, ?_⟩
              rw [hjn]
              exact (SS.ended1 HT.out HU.out HK.out HB.out HN.out Hgo.out (by push_cast; rfl) rfl).stop HN.out (by push_cast; rfl)
            · have d2 := eq_false (show ¬ ((j : Int) ≤ (q : Int) + (1 : Int)) by omega)
              go_wp2_with (first | (go_at_call 19; (with_reducible refine (first_calls HR.out wr HU.out).mono ?_); rintro e w1 ⟨rfl, hb⟩; have HB := Lib.hid hb; have hX := blk_below HT.out hb; have z3 := (blk_cell hX 3).trans rfl; have z4 := (blk_cell hX 4).trans rfl; have f3 := blk_frozen hX 3; have f4 := blk_frozen hX 4; have f5 := blk_frozen hX 5; have f6 := blk_frozen hX 6; have f7 := blk_frozen hX 7; have f8 := blk_frozen hX 8; have z5 := (blk_cell hX 5).trans rfl; have z6 := (blk_cell hX 6).trans rfl; have z7 := (blk_cell hX 7).trans rfl; have z8 := (blk_cell hX 8).trans rfl; clear hb hX))
              go_roundw
              case rel => exact ⟨q + 1, by push_cast; rfl, lt_of_not_le'' hjq, Lib.hid (SS.ended1 HT.out HU.out HK.out HB.out HN.out Hgo.out (by push_cast; rfl) rfl)⟩
              case measure => exact meas_f q 1 j Hq.out HF.out.2.2.1
      · have k1 : (c == 10) = false := beq_eq_false_iff_ne.mpr hc10
        have ha : adds s q c = true := by unfold adds; rw [if_neg hc10]; exact hc
        rw [ha, if_pos rfl] at hgo
        have Hgo := Lib.hid hgo
        clear hgo ha hc
        rcases (show c = 13 ∨ c = 8232 ∨ c = 8233 by omega) with rfl | rfl | rfl
        all_goals (
          by_cases hjq : j ≤ q + n
          · have d2 := eq_true (show (j : Int) ≤ (q : Int) + (n : Int) by omega)
            have hjn : j = q + n := by omega
            go_wp2_with (first | (go_at_call 19; (with_reducible refine (first_calls HR.out wr HU.out).mono ?_); rintro e w1 ⟨rfl, hb⟩; have HB := Lib.hid hb; have hX := blk_below HT.out hb; have z3 := (blk_cell hX 3).trans rfl; have z4 := (blk_cell hX 4).trans rfl; have f3 := blk_frozen hX 3; have f4 := blk_frozen hX 4; have f5 := blk_frozen hX 5; have f6 := blk_frozen hX 6; have f7 := blk_frozen hX 7; have f8 := blk_frozen hX 8; have z5 := (blk_cell hX 5).trans rfl; have z6 := (blk_cell hX 6).trans rfl; have z7 := (blk_cell hX 7).trans rfl; have z8 := (blk_cell hX 8).trans rfl; clear hb hX))
            refine bodyPost_ret (results_none rfl _ _ _) rfl ⟨rfl, ?_⟩
            rw [hjn]
            exact (SS.ended1 HT.out HU.out HK.out HB.out HN.out Hgo.out (by push_cast; rfl) rfl).stop HN.out (by push_cast; rfl)
          · have d2 := eq_false (show ¬ ((j : Int) ≤ (q : Int) + (n : Int)) by omega)
            go_wp2_with (first | (go_at_call 19; (with_reducible refine (first_calls HR.out wr HU.out).mono ?_); rintro e w1 ⟨rfl, hb⟩; have HB := Lib.hid hb; have hX := blk_below HT.out hb; have z3 := (blk_cell hX 3).trans rfl; have z4 := (blk_cell hX 4).trans rfl; have f3 := blk_frozen hX 3; have f4 := blk_frozen hX 4; have f5 := blk_frozen hX 5; have f6 := blk_frozen hX 6; have f7 := blk_frozen hX 7; have f8 := blk_frozen hX 8; have z5 := (blk_cell hX 5).trans rfl; have z6 := (blk_cell hX 6).trans rfl; have z7 := (blk_cell hX 7).trans rfl; have z8 := (blk_cell hX 8).trans rfl; clear hb hX))
            go_roundw
            case rel => exact ⟨q + n, by push_cast; rfl, lt_of_not_le'' hjq, Lib.hid (SS.ended1 HT.out HU.out HK.out HB.out HN.out Hgo.out (by push_cast; rfl) rfl)⟩
            case measure => exact meas_f q n j Hq.out HF.out.2.2.1)
    · have hc2 : isEnd c = false := by simpa using hc
      have hn := (isEnd_not c).1 hc2
      have k1 : (c == 10) = false := beq_eq_false_iff_ne.mpr (by omega)
      have k2 : (c == 13) = false := beq_eq_false_iff_ne.mpr (by omega)
      have k3 : (c == 8232) = false := beq_eq_false_iff_ne.mpr (by omega)
      have k4 : (c == 8233) = false := beq_eq_false_iff_ne.mpr (by omega)
      have Hgo := Lib.hid (HG.out.fwd HR.out hc2)
      clear hc hn
      by_cases hjq : j ≤ q + n
      · have d2 := eq_true (show (j : Int) ≤ (q : Int) + (n : Int) by omega)
        have hjn : j = q + n := by omega
        go_wp2_with (first | (go_at_call 19; (with_reducible refine (first_calls HR.out wr HU.out).mono ?_); rintro e w1 ⟨rfl, hb⟩; have HB := Lib.hid hb; have hX := blk_below HT.out hb; have z3 := (blk_cell hX 3).trans rfl; have z4 := (blk_cell hX 4).trans rfl; have f3 := blk_frozen hX 3; have f4 := blk_frozen hX 4; have f5 := blk_frozen hX 5; have f6 := blk_frozen hX 6; have f7 := blk_frozen hX 7; have f8 := blk_frozen hX 8; have z5 := (blk_cell hX 5).trans rfl; have z6 := (blk_cell hX 6).trans rfl; have z7 := (blk_cell hX 7).trans rfl; have z8 := (blk_cell hX 8).trans rfl; clear hb hX))
        refine bodyPost_ret (results_none rfl _ _ _) rfl ⟨rfl, ?_⟩
        rw [hjn]
        exact (SS.plain HT.out HU.out HK.out HB.out Hgo.out).stop HN.out (by push_cast; rfl)
      · have d2 := eq_false (show ¬ ((j : Int) ≤ (q : Int) + (n : Int)) by omega)
        go_wp2_with (first | (go_at_call 19; (with_reducible refine (first_calls HR.out wr HU.out).mono ?_); rintro e w1 ⟨rfl, hb⟩; have HB := Lib.hid hb; have hX := blk_below HT.out hb; have z3 := (blk_cell hX 3).trans rfl; have z4 := (blk_cell hX 4).trans rfl; have f3 := blk_frozen hX 3; have f4 := blk_frozen hX 4; have f5 := blk_frozen hX 5; have f6 := blk_frozen hX 6; have f7 := blk_frozen hX 7; have f8 := blk_frozen hX 8; have z5 := (blk_cell hX 5).trans rfl; have z6 := (blk_cell hX 6).trans rfl; have z7 := (blk_cell hX 7).trans rfl; have z8 := (blk_cell hX 8).trans rfl; clear hb hX))
        go_roundw
        case rel => exact ⟨q + n, by push_cast; rfl, lt_of_not_le'' hjq, Lib.hid (SS.plain HT.out HU.out HK.out HB.out Hgo.out)⟩
        case measure => exact meas_f q n j Hq.out HF.out.2.2.1
end Go.Proofs.YtckgmnpcnoanhaaDoor
