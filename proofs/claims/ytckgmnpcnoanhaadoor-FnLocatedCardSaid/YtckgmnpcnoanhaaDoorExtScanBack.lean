/- scanTo, walked: backwards. -/
import Derived.Test.YtckgmnpcnoanhaaDoorExtScan
set_option linter.unusedVariables false
set_option linter.unusedSimpArgs false
namespace Go.Proofs.YtckgmnpcnoanhaaDoor
open Go Go.RowKit Go.Proofs.YtckgmnpcnoanhaaDoorW.PrintWords Go.Proofs.YtckgmnpcnoanhaaDoorW.PrintLast Go.Proofs.YtckgmnpcnoanhaaDoorW.PrintMore Go.Proofs.YtckgmnpcnoanhaaDoor.PFnLocated
set_option maxHeartbeats 8000000 in
set_option maxRecDepth 100000 in
theorem Scan.back (nt : Nat) (s : ByteArray) (i j : Nat) (w : World) (hW : Wf s) (hj : Sp s j) (hz : s.size ≤ 4096) (h : SS w w nt s i i) (hnt : 2 ≤ nt) (hlt : (j : Int) < (i : Int)) :
    Calls Tryd.prog 17 #[.pointer (some ⟨nt, 0, none⟩), .int .i32 (j : Int)] w fun e w' => e = .returned (.tuple #[]) ∧ SS w w' nt s j j := by
  obtain ⟨l0, ls0, le0, hs0, he0, hG0, hT0, hU0, hN0⟩ := h.out
  have HZ := Lib.hid hz
  have HW := Lib.hid hW
  have HJ := Lib.hid hj
  have HN := Lib.hid hnt
  have y0 := (blk_cell hT0 0).trans rfl
  have y3 := (blk_cell hT0 3).trans rfl
  have HS := Lib.hid h
  have hi : i ≤ 4096 := by have := hG0.line_le; omega
  have hi2 : i ≤ s.size := by have := hG0.line_le; omega
  have hj2 : j ≤ 4096 := by have := hj.1; omega
  clear hW hj hz hnt h hG0 hT0 hU0 hN0
  go_enter Tryd.func17, Tryd.ntmps17
  · have d1 : decide ((i : Int) < (j : Int)) = false := decide_eq_false (by omega)
    have d1b : decide (i < j) = false := decide_eq_false (by omega)
    have d2b : decide (j < i) = true := decide_eq_true (by omega)
    · have d2 : decide ((j : Int) < (i : Int)) = true := decide_eq_true hlt
      go_wp2
      clear y0 y3
      go_loopw [5] (fun v5 wr => ∃ (q : Nat), v5 = .int .i32 (q : Int) ∧ j < q ∧ Hid (SS w wr nt s i q)) (fun v5 _ => (intOf v5).toNat)
      case atStart => exact ⟨i, rfl, by omega, HS⟩
      clear HS d2 d2b
      obtain ⟨m, rfl, hq, HS⟩ := hrel
      obtain ⟨l, ls, le, hs, he, hG, hT, hU, hN⟩ := HS.out.out
      have hle := hG.line_le
      obtain ⟨q, n, c, l', hR, hm, hll, hgo⟩ := hG.back (by omega)
      have hf1 : 0 < n ∧ n ≤ 4 ∧ q + n ≤ s.size := ⟨hR.facts.2.2.1, hR.facts.2.2.2.1, hR.facts.2.2.2.2.1⟩
      have hz1 := HZ.out
      have hl3 : l' ≤ l := le_adds hll
      have hl5 : l' ≤ 8191 := Nat.le_trans hl3 (Nat.le_trans hle.1 (Nat.le_trans hle.2 (Nat.le_trans hz1 (by decide))))
      have p1 : (0 : Int) ≤ (m : Int) := by omega
      have q1 : (m : Int) ≤ (s.size : Int) := by omega
      have q0 : (0 : Int) ≤ (q : Int) := by omega
      have hq8 : q ≤ 8191 := by omega
      have hn8 : n ≤ 8192 := by omega
      have hsz : q + n ≤ s.size := by omega
      have hqn : j ≤ q := by
        rcases Nat.lt_or_ge q j with h | h
        · have := HJ.out.not_in hR h; omega
        · exact h
      have HR := Lib.hid hR
      have HT := Lib.hid hT
      have HU := Lib.hid hU
      have HK := Lib.hid hN
      have HF := Lib.hid hR.facts
      have en : wrap32 (n : Int) = (n : Int) := s32 n hn8
      have eq : wrap32 ((m : Int) - (n : Int)) = (q : Int) := by rw [hm]; exact s32e q n hq8
      have eq2 : wrap32 (q : Int) = (q : Int) := s32 q (Nat.le_succ_of_le hq8)
      have hl : wrap32 ((l' : Int) + 1 - 1) = (l' : Int) := s32c l' hl5
      have hl4 : wrap32 (l' : Int) = (l' : Int) := s32 l' (Nat.le_trans hl5 (by decide))
      have hl2 : wrap32 (((l' + 1 : Nat) : Int) - 1) = (l' : Int) := s32e l' 1 hl5
      have HM := Lib.hid hm
      clear hm HS hR hG hT hU hN hle hf1 hq hz1
      rcases hgo with ⟨hc, hgo⟩ | ⟨hc, hgo⟩
      · have hn := (isEnd_iff c).1 hc
        have Hgo := Lib.hid hgo
        by_cases hc10 : c = 10
        · subst hc10
          obtain rfl : n = 1 := (HF.out.2.2.2.2.2.1 (by decide)).1
          have eq1 : wrap32 ((m : Int) - 1) = (q : Int) := eq
          by_cases hq0 : q = 0
          · have ha : adds s q 10 = true := by unfold adds; rw [if_pos rfl]; exact decide_eq_true (Or.inl hq0)
            rw [ha, if_pos rfl] at hll
            have hlw : wrap32 ((l : Int) - 1) = (l' : Int) := by rw [hll]; exact hl2
            clear hl hl2 hl4 hll
            subst hq0
            obtain rfl : j = 0 := Nat.le_zero.1 hqn
            obtain rfl : m = 1 := HM.out
            clear hgo ha hc
            go_wp2_with (first | (go_at_call 18; (with_reducible refine (last_calls0 HR.out HZ.out wr HU.out).mono ?_); rintro e w1 ⟨rfl, hb⟩; have HB := Lib.hid hb; have hX := blk_below HT.out hb; have z3 := (blk_cell hX 3).trans rfl; have z4 := (blk_cell hX 4).trans rfl; have f3 := blk_frozen hX 3; have f4 := blk_frozen hX 4; have f5 := blk_frozen hX 5; have f6 := blk_frozen hX 6; have f7 := blk_frozen hX 7; have f8 := blk_frozen hX 8; have z5 := (blk_cell hX 5).trans rfl; have z6 := (blk_cell hX 6).trans rfl; have z7 := (blk_cell hX 7).trans rfl; have z8 := (blk_cell hX 8).trans rfl; clear hb hX))
            refine bodyPost_ret (results_none rfl _ _ _) rfl ⟨rfl, ?_⟩
            exact (SS.back1 HT.out HU.out HK.out HB.out HN.out Hgo.out rfl rfl).stop HN.out rfl
          · have hb1 : q - 1 < s.size := sub1_lt hsz HF.out.2.2.1
            have r0 : ((q : Int) == 0) = false := beq_eq_false_iff_ne.mpr (int_ne0 hq0)
            have r5 : ¬ ((q : Int) = 0) := int_ne0 hq0
            have r6 : 1 ≤ q := Nat.pos_of_ne_zero hq0
            have r2 : wrap32 ((q : Int) - 1) = (q : Int) - 1 := s32f q hq8 (Nat.pos_of_ne_zero hq0)
            have r3 := eq_true (int_sub1 hq0)
            have r4 := eq_true (int_sub1_lt hsz)
            by_cases h13 : bt s ((q : Int) - 1) = 13
            · have ha : adds s q 10 = false := by unfold adds; rw [if_pos rfl]; exact decide_eq_false (fun h => h.elim hq0 (fun h => h h13))
              rw [ha] at hll
              obtain rfl : l = l' := hll
              rw [prev_byte s q (Nat.pos_of_ne_zero hq0) hb1] at h13
              have r7 : (((s[q - 1]'hb1).toNat : Int) != 13) = false := bne_eq_false_iff_eq.mpr h13
              clear hgo ha hc
              by_cases hjq : q ≤ j
              · have d2 := eq_true (show (q : Int) ≤ (j : Int) from Int.ofNat_le.2 hjq)
                have hjn : j = q := Nat.le_antisymm hqn hjq
                go_wp2_with (first | (go_at_call 18; (with_reducible refine (last_callsM HM.out HR.out HZ.out wr HU.out).mono ?_); rintro e w1 ⟨rfl, hb⟩; have HB := Lib.hid hb; have hX := blk_below HT.out hb; have z3 := (blk_cell hX 3).trans rfl; have z4 := (blk_cell hX 4).trans rfl; have f3 := blk_frozen hX 3; have f4 := blk_frozen hX 4; have f5 := blk_frozen hX 5; have f6 := blk_frozen hX 6; have f7 := blk_frozen hX 7; have f8 := blk_frozen hX 8; have z5 := (blk_cell hX 5).trans rfl; have z6 := (blk_cell hX 6).trans rfl; have z7 := (blk_cell hX 7).trans rfl; have z8 := (blk_cell hX 8).trans rfl; clear hb hX))
                refine bodyPost_ret (results_none rfl _ _ _) rfl ⟨rfl, ?_⟩
                rw [hjn]
                exact (SS.back0 HT.out HU.out HK.out HB.out HN.out Hgo.out rfl).stop HN.out rfl
              · have d2 := eq_false (show ¬ ((q : Int) ≤ (j : Int)) from fun h => hjq (Int.ofNat_le.1 h))
                go_wp2_with (first | (go_at_call 18; (with_reducible refine (last_callsM HM.out HR.out HZ.out wr HU.out).mono ?_); rintro e w1 ⟨rfl, hb⟩; have HB := Lib.hid hb; have hX := blk_below HT.out hb; have z3 := (blk_cell hX 3).trans rfl; have z4 := (blk_cell hX 4).trans rfl; have f3 := blk_frozen hX 3; have f4 := blk_frozen hX 4; have f5 := blk_frozen hX 5; have f6 := blk_frozen hX 6; have f7 := blk_frozen hX 7; have f8 := blk_frozen hX 8; have z5 := (blk_cell hX 5).trans rfl; have z6 := (blk_cell hX 6).trans rfl; have z7 := (blk_cell hX 7).trans rfl; have z8 := (blk_cell hX 8).trans rfl; clear hb hX))
                go_roundw
                case rel => exact ⟨q, by first | with_reducible rfl | rw [eq] | rw [eq1], lt_of_not_le' hjq, Lib.hid (SS.back0 HT.out HU.out HK.out HB.out HN.out Hgo.out rfl)⟩
                case measure => first | exact meas_bM HM.out HF.out.2.2.1 | exact meas_bW eq1 HM.out HF.out.2.2.1
            · have ha : adds s q 10 = true := by unfold adds; rw [if_pos rfl]; exact decide_eq_true (Or.inr h13)
              rw [ha, if_pos rfl] at hll
              have hlw : wrap32 ((l : Int) - 1) = (l' : Int) := by rw [hll]; exact hl2
              clear hl hl2 hl4 hll
              rw [prev_byte s q (Nat.pos_of_ne_zero hq0) hb1] at h13
              have r7 : (((s[q - 1]'hb1).toNat : Int) != 13) = true := bne_iff_ne.mpr h13
              clear hgo ha hc
              by_cases hjq : q ≤ j
              · have d2 := eq_true (show (q : Int) ≤ (j : Int) from Int.ofNat_le.2 hjq)
                have hjn : j = q := Nat.le_antisymm hqn hjq
                go_wp2_with (first | (go_at_call 18; (with_reducible refine (last_callsM HM.out HR.out HZ.out wr HU.out).mono ?_); rintro e w1 ⟨rfl, hb⟩; have HB := Lib.hid hb; have hX := blk_below HT.out hb; have z3 := (blk_cell hX 3).trans rfl; have z4 := (blk_cell hX 4).trans rfl; have f3 := blk_frozen hX 3; have f4 := blk_frozen hX 4; have f5 := blk_frozen hX 5; have f6 := blk_frozen hX 6; have f7 := blk_frozen hX 7; have f8 := blk_frozen hX 8; have z5 := (blk_cell hX 5).trans rfl; have z6 := (blk_cell hX 6).trans rfl; have z7 := (blk_cell hX 7).trans rfl; have z8 := (blk_cell hX 8).trans rfl; clear hb hX))
                refine bodyPost_ret (results_none rfl _ _ _) rfl ⟨rfl, ?_⟩
                rw [hjn]
                exact (SS.back1 HT.out HU.out HK.out HB.out HN.out Hgo.out rfl rfl).stop HN.out rfl
              · have d2 := eq_false (show ¬ ((q : Int) ≤ (j : Int)) from fun h => hjq (Int.ofNat_le.1 h))
                go_wp2_with (first | (go_at_call 18; (with_reducible refine (last_callsM HM.out HR.out HZ.out wr HU.out).mono ?_); rintro e w1 ⟨rfl, hb⟩; have HB := Lib.hid hb; have hX := blk_below HT.out hb; have z3 := (blk_cell hX 3).trans rfl; have z4 := (blk_cell hX 4).trans rfl; have f3 := blk_frozen hX 3; have f4 := blk_frozen hX 4; have f5 := blk_frozen hX 5; have f6 := blk_frozen hX 6; have f7 := blk_frozen hX 7; have f8 := blk_frozen hX 8; have z5 := (blk_cell hX 5).trans rfl; have z6 := (blk_cell hX 6).trans rfl; have z7 := (blk_cell hX 7).trans rfl; have z8 := (blk_cell hX 8).trans rfl; clear hb hX))
                go_roundw
                case rel => exact ⟨q, by first | with_reducible rfl | rw [eq] | rw [eq1], lt_of_not_le' hjq, Lib.hid (SS.back1 HT.out HU.out HK.out HB.out HN.out Hgo.out rfl rfl)⟩
                case measure => first | exact meas_bM HM.out HF.out.2.2.1 | exact meas_bW eq1 HM.out HF.out.2.2.1
        · have k1 : (c == 10) = false := beq_eq_false_iff_ne.mpr hc10
          have ha : adds s q c = true := by unfold adds; rw [if_neg hc10]; exact hc
          rw [ha, if_pos rfl] at hll
          have hlw : wrap32 ((l : Int) - 1) = (l' : Int) := by rw [hll]; exact hl2
          clear hl hl2 hl4 hll
          clear hgo ha hc
          rcases hn.resolve_left hc10 with rfl | rfl | rfl
          all_goals (
            by_cases hjq : q ≤ j
            · have d2 := eq_true (show (q : Int) ≤ (j : Int) from Int.ofNat_le.2 hjq)
              have hjn : j = q := Nat.le_antisymm hqn hjq
              go_wp2_with (first | (go_at_call 18; (with_reducible refine (last_callsM HM.out HR.out HZ.out wr HU.out).mono ?_); rintro e w1 ⟨rfl, hb⟩; have HB := Lib.hid hb; have hX := blk_below HT.out hb; have z3 := (blk_cell hX 3).trans rfl; have z4 := (blk_cell hX 4).trans rfl; have f3 := blk_frozen hX 3; have f4 := blk_frozen hX 4; have f5 := blk_frozen hX 5; have f6 := blk_frozen hX 6; have f7 := blk_frozen hX 7; have f8 := blk_frozen hX 8; have z5 := (blk_cell hX 5).trans rfl; have z6 := (blk_cell hX 6).trans rfl; have z7 := (blk_cell hX 7).trans rfl; have z8 := (blk_cell hX 8).trans rfl; clear hb hX))
              refine bodyPost_ret (results_none rfl _ _ _) rfl ⟨rfl, ?_⟩
              rw [hjn]
              exact (SS.back1 HT.out HU.out HK.out HB.out HN.out Hgo.out rfl rfl).stop HN.out rfl
            · have d2 := eq_false (show ¬ ((q : Int) ≤ (j : Int)) from fun h => hjq (Int.ofNat_le.1 h))
              go_wp2_with (first | (go_at_call 18; (with_reducible refine (last_callsM HM.out HR.out HZ.out wr HU.out).mono ?_); rintro e w1 ⟨rfl, hb⟩; have HB := Lib.hid hb; have hX := blk_below HT.out hb; have z3 := (blk_cell hX 3).trans rfl; have z4 := (blk_cell hX 4).trans rfl; have f3 := blk_frozen hX 3; have f4 := blk_frozen hX 4; have f5 := blk_frozen hX 5; have f6 := blk_frozen hX 6; have f7 := blk_frozen hX 7; have f8 := blk_frozen hX 8; have z5 := (blk_cell hX 5).trans rfl; have z6 := (blk_cell hX 6).trans rfl; have z7 := (blk_cell hX 7).trans rfl; have z8 := (blk_cell hX 8).trans rfl; clear hb hX))
              go_roundw
              case rel => exact ⟨q, by first | with_reducible rfl | rw [eq] | rw [eq1], lt_of_not_le' hjq, Lib.hid (SS.back1 HT.out HU.out HK.out HB.out HN.out Hgo.out rfl rfl)⟩
              case measure => first | exact meas_bM HM.out HF.out.2.2.1 | exact meas_bW eq HM.out HF.out.2.2.1)
      · have hn := (isEnd_not c).1 hc
        have k1 : (c == 10) = false := beq_eq_false_iff_ne.mpr (fun h => hn (Or.inl h))
        have k2 : (c == 13) = false := beq_eq_false_iff_ne.mpr (fun h => hn (Or.inr (Or.inl h)))
        have k3 : (c == 8232) = false := beq_eq_false_iff_ne.mpr (fun h => hn (Or.inr (Or.inr (Or.inl h))))
        have k4 : (c == 8233) = false := beq_eq_false_iff_ne.mpr (fun h => hn (Or.inr (Or.inr (Or.inr h))))
        have Hgo := Lib.hid hgo
        clear hc hn hgo
        by_cases hjq : q ≤ j
        · have d2 := eq_true (show (q : Int) ≤ (j : Int) from Int.ofNat_le.2 hjq)
          have hjn : j = q := Nat.le_antisymm hqn hjq
          go_wp2_with (first | (go_at_call 18; (with_reducible refine (last_callsM HM.out HR.out HZ.out wr HU.out).mono ?_); rintro e w1 ⟨rfl, hb⟩; have HB := Lib.hid hb; have hX := blk_below HT.out hb; have z3 := (blk_cell hX 3).trans rfl; have z4 := (blk_cell hX 4).trans rfl; have f3 := blk_frozen hX 3; have f4 := blk_frozen hX 4; have f5 := blk_frozen hX 5; have f6 := blk_frozen hX 6; have f7 := blk_frozen hX 7; have f8 := blk_frozen hX 8; have z5 := (blk_cell hX 5).trans rfl; have z6 := (blk_cell hX 6).trans rfl; have z7 := (blk_cell hX 7).trans rfl; have z8 := (blk_cell hX 8).trans rfl; clear hb hX))
          refine bodyPost_ret (results_none rfl _ _ _) rfl ⟨rfl, ?_⟩
          rw [hjn]
          exact (SS.plain HT.out HU.out HK.out HB.out Hgo.out).stop HN.out rfl
        · have d2 := eq_false (show ¬ ((q : Int) ≤ (j : Int)) from fun h => hjq (Int.ofNat_le.1 h))
          go_wp2_with (first | (go_at_call 18; (with_reducible refine (last_callsM HM.out HR.out HZ.out wr HU.out).mono ?_); rintro e w1 ⟨rfl, hb⟩; have HB := Lib.hid hb; have hX := blk_below HT.out hb; have z3 := (blk_cell hX 3).trans rfl; have z4 := (blk_cell hX 4).trans rfl; have f3 := blk_frozen hX 3; have f4 := blk_frozen hX 4; have f5 := blk_frozen hX 5; have f6 := blk_frozen hX 6; have f7 := blk_frozen hX 7; have f8 := blk_frozen hX 8; have z5 := (blk_cell hX 5).trans rfl; have z6 := (blk_cell hX 6).trans rfl; have z7 := (blk_cell hX 7).trans rfl; have z8 := (blk_cell hX 8).trans rfl; clear hb hX))
          go_roundw
          case rel => exact ⟨q, by first | with_reducible rfl | rw [eq] | rw [eq1], lt_of_not_le' hjq, Lib.hid (SS.plain HT.out HU.out HK.out HB.out Hgo.out)⟩
          case measure => first | exact meas_bM HM.out HF.out.2.2.1 | exact meas_bW eq HM.out HF.out.2.2.1
end Go.Proofs.YtckgmnpcnoanhaaDoor
