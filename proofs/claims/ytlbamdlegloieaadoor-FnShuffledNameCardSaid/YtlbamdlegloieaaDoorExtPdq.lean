/- pdqsort, walked. -/
import Derived.Test.YtlbamdlegloieaaDoorExtBreak
import Derived.Test.YtlbamdlegloieaaDoorExtHeap2
import Derived.Test.YtlbamdlegloieaaDoorExtPivot2
import Derived.Test.YtlbamdlegloieaaDoorExtPart
import Derived.Test.YtlbamdlegloieaaDoorExtPins
import Derived.Sort.Walk13a
import Derived.Sort.LotA
import Derived.Sort.LotB
import Derived.Sort.LotC
import Derived.Deep.DeepCutAuto
set_option linter.unusedVariables false
set_option linter.unusedSimpArgs false
namespace Go.Proofs.YtlbamdlegloieaaDoor
open Go Go.RowKit Go.Proofs.YtlbamdlegloieaaDoorW.PrintWords Go.Proofs.YtlbamdlegloieaaDoorW.PrintLast
theorem swoE : Sort.SWO ltE where
  irrefl x := by unfold ltE; simp
  trans x y z h1 h2 := by
    unfold ltE at *
    simp only [Bool.or_eq_true, Bool.and_eq_true, decide_eq_true_eq] at *
    omega
  ntrans x y z h1 h2 := by
    unfold ltE at *
    simp only [Bool.or_eq_false_iff, Bool.and_eq_false_iff, decide_eq_false_iff_not] at *
    omega
theorem pdqE : Sort.pdq_stmt ltE := Sort.pdq_holds Sort.insertionSort_holds Sort.heapSort_holds Sort.partialInsertionSort_holds (Sort.partition_holds ltE) (Sort.partitionEqual_holds ltE) Sort.reverseRange_holds
theorem hintV_two {h : Sort.Hint} (e : hintV h = 2) : h = .decreasing := by cases h <;> simp [hintV] at e ⊢
set_option maxHeartbeats 8000000 in
set_option maxRecDepth 1000000 in
theorem Pdq.calls (w0 : World) (g : Nat) : ∀ (N a b limit : Nat) (d : Array El) (w : World), b - a < N → a ≤ b → b ≤ 64 → limit ≤ 64 → Sort.Below ltE a b d → SS w0 g d w →
    Calls Tryd.prog 21 #[.iface 45 (.slice (some ⟨g, 0, none⟩) 64 64), .int .i64 (a : Int), .int .i64 (b : Int), .int .i64 (limit : Int)] w fun e w' => e = .returned (.tuple #[]) ∧ SS w0 g (Sort.pdq ltE d a b limit true true) w' := by
  intro N
  induction N with
  | zero => intro _ _ _ _ _ h; exact absurd h (Nat.not_lt_zero _)
  | succ N ih =>
    intro a b limit d w hN hab hb hlimit hBel hS
    have HIH := Lib.hid ih
    have HS := Lib.hid hS
    have HP := Lib.hid (show b - a < N + 1 ∧ a ≤ b ∧ b ≤ 64 ∧ limit ≤ 64 ∧ Sort.Below ltE a b d from ⟨hN, hab, hb, hlimit, hBel⟩)
    clear ih hN hab hb hlimit hBel hS
    go_enter Tryd.func21, Tryd.ntmps21
    go_wp2
    go_loopg [1, 2, 3, 8, 9] (b - a) (fun k s1 s2 s3 s8 s9 wr => ∃ (a' b' lim : Nat) (wb wp : Bool) (dk : Array El), s1 = .int .i64 (a' : Int) ∧ s2 = .int .i64 (b' : Int) ∧ s3 = .int .i64 (lim : Int) ∧ s8 = .bool wb ∧ s9 = .bool wp ∧
      Hid (a' ≤ b' ∧ b' ≤ 64 ∧ b' - a' ≤ k ∧ k ≤ b - a ∧ lim ≤ limit ∧ Sort.Below ltE a' b' dk ∧ SS w0 g dk wr ∧ Sort.pdq ltE dk a' b' lim wb wp = Sort.pdq ltE d a b limit true true))
    case atStart => exact ⟨a, b, limit, true, true, d, rfl, rfl, rfl, rfl, rfl, Lib.hid ⟨HP.out.2.1, HP.out.2.2.1, Nat.le_refl _, Nat.le_refl _, Nat.le_refl _, HP.out.2.2.2.2, HS.out, rfl⟩⟩
    case round =>
      clear HS
      obtain ⟨a', b', lim, wb, wp, dk, rfl, rfl, rfl, rfl, rfl, HR⟩ := hrel
      obtain ⟨hab', hb', hk, hkN, hlim, hBel, hSS, heq⟩ := HR.out
      have A := Lib.hid heq
      have H64 := Lib.hid (show a' ≤ b' ∧ b' ≤ 64 ∧ lim ≤ 64 from ⟨hab', hb', Nat.le_trans hlim HP.out.2.2.2.1⟩)
      have hsz := hSS.size
      obtain ⟨L, hL⟩ : ∃ L, L = b' - a' := ⟨_, rfl⟩
      have WL := Lib.hid (show wrap64 ((b' : Int) - (a' : Int)) = (L : Int) by rw [i64 _ (by omega) (by omega)]; omega)
      by_cases h12 : b' - a' ≤ 12
      · have d1 : decide ((L : Int) ≤ 12) = true := decide_eq_true (by omega)
        have d2 : decide (L ≤ 12) = true := decide_eq_true (by omega)
        have hc := Lib.hid (InsSort.calls w0 wr g dk a' b' hab' hb' hSS)
        have HE := Lib.hid (show Sort.pdq ltE d a b limit true true = Sort.insertionSort ltE dk a' b' by rw [← heq, Sort.pdq_small h12])
        clear hab' hb' hk hkN hlim hBel hSS heq h12 hL HR hsz
        have wl := WL.out
        go_wp2_with (first | (go_at_call 25; (with_reducible refine hc.out.mono ?_); rintro e w1 ⟨rfl, hs⟩; have HZ := Lib.hid hs; clear hs))
        (try simp only [Exit.inBlock, Exit.then]); refine bodyPost_ret (results_none rfl _ _ _) rfl ?_
        exact ⟨rfl, by rw [HE.out]; exact HZ.out⟩
      · have d1 : decide ((L : Int) ≤ 12) = false := decide_eq_false (by omega)
        have d2 : decide (L ≤ 12) = false := decide_eq_false (by omega)
        by_cases hl0 : lim = 0
        · have d3 : ((lim : Int) == 0) = true := beq_iff_eq.2 (by omega)
          have hc := Lib.hid (Heap.calls w0 wr g dk a' b' hab' hb' hSS)
          have HE := Lib.hid (show Sort.pdq ltE d a b limit true true = Sort.heapSort ltE dk a' b' by rw [← heq, Sort.pdq_heap h12 hl0])
          clear hab' hb' hk hkN hlim hBel hSS heq h12 hL HR hsz
          have HL0 := Lib.hid hl0
          clear hl0
          have wl := WL.out
          go_wp2_with (first | (go_at_call 26; (with_reducible refine hc.out.mono ?_); rintro e w1 ⟨rfl, hs⟩; have HZ := Lib.hid hs; clear hs))
          (try simp only [Exit.inBlock, Exit.then]); refine bodyPost_ret (results_none rfl _ _ _) rfl ?_
          exact ⟨rfl, by rw [HE.out]; exact HZ.out⟩
        · have d3 : ((lim : Int) == 0) = false := beq_eq_false_iff_ne.2 (by omega)
          obtain ⟨R, hR⟩ : ∃ R, R = Sort.rd ltE dk a' b' lim wb wp := ⟨_, rfl⟩
          obtain ⟨s1, B1, hc1, s2, B2, hpv, s3, B3⟩ := Sort.rd_facts (limit := lim) (wb := wb) (wp := wp) swoE Sort.partialInsertionSort_holds Sort.reverseRange_holds (show a' < b' by omega) (show b' ≤ dk.size by omega) hBel
          have hlle := Sort.rd_lim_le (lt := ltE) (d := dk) (a := a') (b := b') (limit := lim) (wb := wb) (wp := wp)
          rw [← hR] at s1 B1 hc1 s2 B2 hpv s3 B3 hlle
          have HRR := Lib.hid hR
          have HF := Lib.hid (show a' < b' ∧ 12 < b' - a' ∧ b' - a' ≤ gk ∧ gk ≤ b - a ∧ b - a < N + 1 ∧ b' ≤ 64 ∧ lim ≠ 0 ∧ lim ≤ 64 ∧ R.lim ≤ lim ∧ R.d1.size = 64 ∧ R.d2.size = 64 ∧ R.pi.1.size = 64 ∧ a' ≤ R.c.1 ∧ R.c.1 < b' ∧ a' ≤ R.pivot ∧ R.pivot < b' from
            ⟨by omega, by omega, hk, hkN, HP.out.1, hb', hl0, Nat.le_trans hlim HP.out.2.2.2.1, hlle, s1.trans hsz, s2.trans hsz, s3.trans hsz, hc1.1, hc1.2, hpv.1, hpv.2⟩)
          have HLim := Lib.hid hlim
          have HB3 := Lib.hid B3
          have HSS := Lib.hid hSS
          clear hlle s1 B1 hc1 s2 B2 hpv s3 B3 hR hab' hb' hk hkN hlim hBel hSS heq h12 hl0 hL HR hsz
          have wl := WL.out
          go_upto_if 35 with fail
          clear wl
          go_cut [3] from 19 (fun s3 wc => s3 = .int .i64 (R.lim : Int) ∧ Hid (SS w0 g R.d1 wc))
          case first =>
            cases wb
            · have hf := HF.out
              have hd1 : R.d1 = Sort.breakPatterns dk a' b' := by rw [HRR.out]; exact Sort.rd_false.1
              have hlm : R.lim = lim - 1 := by rw [HRR.out]; exact Sort.rd_false.2
              have HC := Lib.hid (Break.calls w0 wr g dk a' b' (by omega) (by omega) HSS.out)
              have WM := Lib.hid (show wrap64 ((lim : Int) - 1) = (R.lim : Int) by rw [i64 _ (by omega) (by omega)]; omega)
              have HD1 := Lib.hid hd1
              clear hf hd1 hlm
              have wm := WM.out
              go_wp2_with (first | (go_at_call 27; (with_reducible refine HC.out.mono ?_); rintro e w1 ⟨rfl, hs⟩; have HZ := Lib.hid hs; clear hs))
              go_meet
              case rel => exact ⟨by first | rfl | rw [wm], Lib.hid (by rw [HD1.out]; exact HZ.out)⟩
            · have hd1 : R.d1 = dk := by rw [HRR.out]; exact Sort.rd_true.1
              have hlm : R.lim = lim := by rw [HRR.out]; exact Sort.rd_true.2
              have HD1 := Lib.hid hd1
              have HLm := Lib.hid hlm
              clear hd1 hlm
              go_wp2_with fail
              go_meet
              case rel => exact ⟨by rw [HLm.out], Lib.hid (by rw [HD1.out]; exact HSS.out)⟩
          case rest =>
            obtain ⟨rfl, HS1⟩ := hcut
            clear HSS
            have HC := Lib.hid (Pivot.calls w0 wc g R.d1 a' b' (by have := HF.out; omega) (by have := HF.out; omega) HS1.out)
            have hcp : Sort.choosePivot ltE R.d1 a' b' = R.c := by rw [HRR.out]; exact Sort.rd_c.symm
            rw [hcp] at HC
            clear hcp
            go_upto_if 50 with (first | (go_at_call 28; (with_reducible refine HC.out.mono ?_); rintro e w2 ⟨rfl, hs⟩; have HS2 := Lib.hid hs; clear hs))
            clear HC HS1
            go_cut [11, 12] from 19 (fun s11 s12 wc => s11 = .int .i64 (R.pivot : Int) ∧ s12 = .int .i64 (hintV R.hint) ∧ Hid (SS w0 g R.d2 wc))
            case first =>
              by_cases hh : R.c.2 = .decreasing
              · have hcode : hintV R.c.2 = 2 := by rw [hh]; rfl
                have hrd := Sort.rd_dec (show (Sort.rd ltE dk a' b' lim wb wp).c.2 = .decreasing by rw [← HRR.out]; exact hh)
                rw [← HRR.out] at hrd
                obtain ⟨e2, epv, eht⟩ := hrd
                have hf := HF.out
                obtain ⟨b1, hb1⟩ : ∃ b1, b1 = b' - 1 := ⟨_, rfl⟩
                obtain ⟨p1, hp1⟩ : ∃ p1, p1 = R.c.1 - a' := ⟨_, rfl⟩
                have V1 := Lib.hid (show wrap64 ((b' : Int) - 1) = (b1 : Int) by rw [i64 _ (by omega) (by omega)]; omega)
                have V2 := Lib.hid (show wrap64 ((R.c.1 : Int) - (a' : Int)) = (p1 : Int) by rw [i64 _ (by omega) (by omega)]; omega)
                have V3 := Lib.hid (show wrap64 ((b1 : Int) - (p1 : Int)) = (R.pivot : Int) by rw [i64 _ (by omega) (by omega)]; omega)
                have HC := Lib.hid (Rev.calls w0 w2 g R.d1 a' b' (by omega) (by omega) HS2.out)
                have HX := Lib.hid (show R.d2 = Sort.reverseRange R.d1 a' b' ∧ R.hint = .increasing from ⟨e2, eht⟩)
                clear hf hb1 hp1 e2 epv eht hh
                have v1 := V1.out
                have v2 := V2.out
                have v3 := V3.out
                go_wp2_with (first | (go_at_call 29; (with_reducible refine HC.out.mono ?_); rintro e w3 ⟨rfl, hs⟩; have HZ := Lib.hid hs; clear hs))
                go_meet
                case rel => exact ⟨by first | rfl | rw [v3], by rw [HX.out.2]; rfl, Lib.hid (by rw [HX.out.1]; exact HZ.out)⟩
              · have hcode : ¬ (hintV R.c.2 = 2) := fun h => hh (hintV_two h)
                have hcodeb : (hintV R.c.2 == 2) = false := beq_eq_false_iff_ne.2 hcode
                have hrd := Sort.rd_not (show (Sort.rd ltE dk a' b' lim wb wp).c.2 ≠ .decreasing by rw [← HRR.out]; exact hh)
                rw [← HRR.out] at hrd
                have HX := Lib.hid hrd
                clear hrd hh
                go_wp2_with fail
                go_meet
                case rel => exact ⟨by rw [HX.out.2.1], by rw [HX.out.2.2], Lib.hid (by rw [HX.out.1]; exact HS2.out)⟩
            case rest =>
              obtain ⟨rfl, rfl, HS3⟩ := hcut
              clear HS2
              (try rw [WL.out])
              go_upto_region 15 with fail
              go_cut [12, 68] from 19 (fun s12 s68 wx => s12 = .int .i64 (hintV R.hint) ∧ s68 = .bool (wb && wp && decide (R.hint = .increasing)) ∧ wx = wc)
              case first =>
                cases wb <;> cases wp <;> cases hh3 : R.hint <;>
                  (have hcode3 := congrArg hintV hh3
                   simp only [hintV] at hcode3
                   go_wp2_with fail
                   go_meet
                   exact ⟨by simp [hh3, hintV], by simp [hh3, hintV], rfl⟩)
              case rest =>
                obtain ⟨rfl, rfl, rfl⟩ := hcut
                go_upto_if 68 with fail
                go_cut [] from 19 (fun wx => Hid (R.pi.2 = false ∧ SS w0 g R.pi.1 wx))
                case first =>
                  cases h68 : (wb && wp && decide (R.hint = .increasing))
                  · have epi : R.pi = (R.d2, false) := by rw [HRR.out]; exact Sort.rd_pi_no (by rw [← HRR.out]; exact h68)
                    have HE := Lib.hid epi
                    clear epi h68
                    go_wp2_with fail
                    go_meet
                    case rel => exact Lib.hid ⟨by rw [HE.out], by rw [HE.out]; exact HS3.out⟩
                  · have epi : R.pi = Sort.partialInsertionSort ltE R.d2 a' b' := by rw [HRR.out]; exact Sort.rd_pi_yes (by rw [← HRR.out]; exact h68)
                    have hc := Pins.calls w0 _ g R.d2 a' b' (by have := HF.out; omega) (by have := HF.out; omega) HS3.out
                    rw [← epi] at hc
                    have HEnd := Lib.hid (fun hp2 : R.pi.2 = true => show Sort.pdq ltE d a b limit true true = R.pi.1 by
                      have hf := HF.out
                      rw [← A.out, HRR.out]
                      exact Sort.pdq_done (by omega) (by omega) (by rw [← HRR.out]; exact hp2))
                    cases hp2 : R.pi.2
                    · rw [hp2] at hc
                      have HC := Lib.hid hc
                      have HP2 := Lib.hid hp2
                      clear hc hp2 epi h68
                      go_wp2_with (first | (go_at_call 30; (with_reducible refine HC.out.mono ?_); rintro e w4 ⟨rfl, hs⟩; have HZ := Lib.hid hs; clear hs))
                      go_meet
                      case rel => exact Lib.hid ⟨HP2.out, HZ.out⟩
                    · rw [hp2] at hc
                      have HC := Lib.hid hc
                      have HP2 := Lib.hid hp2
                      clear hc hp2 epi h68
                      go_wp2_with (first | (go_at_call 30; (with_reducible refine HC.out.mono ?_); rintro e w4 ⟨rfl, hs⟩; have HZ := Lib.hid hs; clear hs))
                      (try simp only [Exit.inBlock, Exit.then]); refine bodyPost_ret (results_none rfl _ _ _) rfl ?_
                      exact ⟨rfl, by rw [HEnd.out HP2.out]; exact HZ.out⟩
                case rest =>
                  clear HS3
                  have HP2 := Lib.hid hcut.out.1
                  have HS5 := Lib.hid hcut.out.2
                  clear hcut
                  go_upto_region 17 with fail
                  go_cut [82] from 19 (fun s82 wx => s82 = .bool (decide (a' > 0) && !ltE R.pi.1[a' - 1]! R.pi.1[R.pivot]!) ∧ Hid (SS w0 g R.pi.1 wx))
                  case first =>
                    rcases Nat.eq_zero_or_pos a' with ha0 | ha0
                    · have ha0z : decide ((a' : Int) > 0) = false := decide_eq_false (by omega)
                      have ha1z : decide (0 < (a' : Int)) = false := decide_eq_false (by omega)
                      have ha2z : decide (0 < a') = false := decide_eq_false (by omega)
                      have HA := Lib.hid ha0
                      clear ha0
                      go_wp2_with fail
                      go_meet
                      case rel => exact ⟨by simp [HA.out], HS5⟩
                    · have ha0z : decide ((a' : Int) > 0) = true := decide_eq_true (by omega)
                      have ha1z : decide (0 < (a' : Int)) = true := decide_eq_true (by omega)
                      have ha2z : decide (0 < a') = true := decide_eq_true (by omega)
                      obtain ⟨a1, ha1⟩ : ∃ a1, a1 = a' - 1 := ⟨_, rfl⟩
                      have V1 := Lib.hid (show wrap64 ((a' : Int) - 1) = (a1 : Int) by rw [i64 _ (by omega) (by have := HF.out; omega)]; omega)
                      have HC := Lib.hid (Less.calls w0 _ g R.pi.1 a1 R.pivot (by have := HF.out; omega) (by have := HF.out; omega) HS5.out)
                      obtain ⟨ll, hll⟩ : ∃ ll, ltE R.pi.1[a' - 1]! R.pi.1[R.pivot]! = ll := ⟨_, rfl⟩
                      have HLL := Lib.hid hll
                      rw [← ha1] at hll
                      rw [hll] at HC
                      clear hll
                      have HA := Lib.hid ha0
                      clear ha0 ha1
                      have v1 := V1.out
                      cases ll <;>
                        (go_wp2_with (first | (go_at_call 58; (with_reducible refine HC.out.mono ?_); rintro e w5 ⟨rfl, hs⟩; have HZ := Lib.hid hs; clear hs))
                         go_meet
                         case rel => exact ⟨by rw [HLL.out]; simp [HA.out], HZ⟩)
                  case rest =>
                    obtain ⟨rfl, HS6⟩ := hcut
                    clear HS5
                    cases h87 : (decide (a' > 0) && !ltE R.pi.1[a' - 1]! R.pi.1[R.pivot]!)
                    · obtain ⟨mid, ap, d4, hx⟩ : ∃ mid ap d4, Sort.partition ltE R.pi.1 a' b' R.pivot = (mid, ap, d4) := ⟨(Sort.partition ltE R.pi.1 a' b' R.pivot).1, (Sort.partition ltE R.pi.1 a' b' R.pivot).2.1, (Sort.partition ltE R.pi.1 a' b' R.pivot).2.2, rfl⟩
                      have hf := HF.out
                      obtain ⟨r1, r2, r3, r4, r5, r6, r7⟩ := Sort.round_part swoE (Sort.partition_holds ltE) (show a' ≤ R.pivot by omega) (show R.pivot < b' by omega) (show b' ≤ R.pi.1.size by omega) HB3.out hx
                      have hc22 := Part.calls w0 _ g R.pi.1 a' b' R.pivot (by omega) (by omega) (by omega) HS6.out
                      rw [hx] at hc22
                      have HC := Lib.hid hc22
                      have HX := Lib.hid hx
                      obtain ⟨l1, hl1⟩ : ∃ l1, l1 = mid - a' := ⟨_, rfl⟩
                      obtain ⟨l2, hl2⟩ : ∃ l2, l2 = b' - mid := ⟨_, rfl⟩
                      obtain ⟨l8, hl8⟩ : ∃ l8, l8 = L / 8 := ⟨_, rfl⟩
                      obtain ⟨m1, hm1⟩ : ∃ m1, m1 = mid + 1 := ⟨_, rfl⟩
                      have hLL : L = b' - a' := by
                        have := WL.out
                        rw [i64 _ (by omega) (by omega)] at this
                        omega
                      have V1 := Lib.hid (show wrap64 ((mid : Int) - (a' : Int)) = (l1 : Int) by rw [i64 _ (by omega) (by omega)]; omega)
                      have V2 := Lib.hid (show wrap64 ((b' : Int) - (mid : Int)) = (l2 : Int) by rw [i64 _ (by omega) (by omega)]; omega)
                      have V3 := Lib.hid (show Int.tdiv (L : Int) 8 = (l8 : Int) by rw [Int.tdiv_eq_ediv_of_nonneg (by omega)]; omega)
                      have V4 := Lib.hid (show wrap64 (l8 : Int) = (l8 : Int) by rw [i64 _ (by omega) (by omega)])
                      have V5 := Lib.hid (show wrap64 ((mid : Int) + 1) = (m1 : Int) by rw [i64 _ (by omega) (by omega)]; omega)
                      by_cases h4 : mid - a' < b' - mid
                      · have e1 : decide ((l1 : Int) < (l2 : Int)) = true := decide_eq_true (by omega)
                        have e2 : decide (l1 < l2) = true := decide_eq_true (by omega)
                        have hD := Lib.hid (show decide ((l8 : Int) ≤ (l1 : Int)) = decide (mid - a' ≥ (b' - a') / 8) from decide_eq_decide.2 ⟨fun h => by omega, fun h => by omega⟩)
                        have hD2 := Lib.hid (show decide (l8 ≤ l1) = decide (mid - a' ≥ (b' - a') / 8) from decide_eq_decide.2 ⟨fun h => by omega, fun h => by omega⟩)
                        have HI := Lib.hid (fun wz (hz : SS w0 g d4 wz) => HIH.out a' mid R.lim d4 wz (by omega) (by omega) (by omega) (by omega) r4 hz)
                        obtain ⟨pL, sL⟩ := pdqE swoE d4 a' mid R.lim true true (by omega) (by omega) r4
                        have HN := Lib.hid (show m1 ≤ b' ∧ b' - m1 < gk ∧ R.lim ≤ limit ∧ Sort.Below ltE m1 b' (Sort.pdq ltE d4 a' mid R.lim true true) ∧ Sort.pdq ltE (Sort.pdq ltE d4 a' mid R.lim true true) m1 b' R.lim (decide (mid - a' ≥ (b' - a') / 8)) ap = Sort.pdq ltE d a b limit true true ∧ b' ≤ 64 ∧ gk ≤ b - a by
                          refine ⟨by omega, by omega, Nat.le_trans hf.2.2.2.2.2.2.2.2.1 HLim.out, by rw [hm1]; exact (r6 _ pL sL).1, ?_, by omega, by omega⟩
                          rw [← A.out, Sort.pdq_left (lt := ltE) (d := dk) (a := a') (b := b') (limit := lim) (wb := wb) (wp := wp) (by omega) (by omega) (by rw [← HRR.out]; exact HP2.out) (by rw [← HRR.out]; exact h87) (by rw [← HRR.out, hx]; exact ⟨r1, r2⟩) (by rw [← HRR.out, hx]; exact h4), ← HRR.out, hx, hm1])
                        clear hf r1 r2 r3 r4 r5 r6 r7 hc22 hx hl1 hl2 hl8 hm1 hLL h4 pL sL
                        have HT := Lib.hid h87
                        clear h87
                        have v1 := V1.out
                        have v2 := V2.out
                        have v3 := V3.out
                        have v4 := V4.out
                        have v5 := V5.out
                        go_wp2_with (first | (go_at_call 32; (with_reducible refine HC.out.mono ?_); rintro e w7 ⟨rfl, hs⟩; have HZ := Lib.hid hs; clear hs) | (go_at_call 21; (with_reducible refine (HI.out _ HZ.out).mono ?_); rintro e w8 ⟨rfl, hs⟩; have HY := Lib.hid hs; clear hs))
                        go_roundg (b' - m1)
                        case measure => exact HN.out.2.1
                        case rel =>
                          refine ⟨m1, b', R.lim, decide (mid - a' ≥ (b' - a') / 8), ap, _, by first | rfl | rw [v5], rfl, rfl, ?_, rfl, Lib.hid ⟨HN.out.1, HN.out.2.2.2.2.2.1, Nat.le_refl _, Nat.le_of_lt (Nat.lt_of_lt_of_le HN.out.2.1 HN.out.2.2.2.2.2.2), HN.out.2.2.1, HN.out.2.2.2.1, HY.out, HN.out.2.2.2.2.1⟩⟩
                          first | exact congrArg Value.bool hD.out | exact congrArg Value.bool hD2.out
                      · have e1 : decide ((l1 : Int) < (l2 : Int)) = false := decide_eq_false (by omega)
                        have e2 : decide (l1 < l2) = false := decide_eq_false (by omega)
                        have hD := Lib.hid (show decide ((l8 : Int) ≤ (l2 : Int)) = decide (b' - mid ≥ (b' - a') / 8) from decide_eq_decide.2 ⟨fun h => by omega, fun h => by omega⟩)
                        have hD2 := Lib.hid (show decide (l8 ≤ l2) = decide (b' - mid ≥ (b' - a') / 8) from decide_eq_decide.2 ⟨fun h => by omega, fun h => by omega⟩)
                        have HI := Lib.hid (fun wz (hz : SS w0 g d4 wz) => HIH.out m1 b' R.lim d4 wz (by omega) (by omega) (by omega) (by omega) (by rw [hm1]; exact r5) hz)
                        obtain ⟨pL, sL⟩ := pdqE swoE d4 (mid + 1) b' R.lim true true (by omega) (by omega) r5
                        have HN := Lib.hid (show a' ≤ mid ∧ mid - a' < gk ∧ R.lim ≤ limit ∧ Sort.Below ltE a' mid (Sort.pdq ltE d4 m1 b' R.lim true true) ∧ Sort.pdq ltE (Sort.pdq ltE d4 m1 b' R.lim true true) a' mid R.lim (decide (b' - mid ≥ (b' - a') / 8)) ap = Sort.pdq ltE d a b limit true true ∧ mid ≤ 64 ∧ gk ≤ b - a by
                          refine ⟨by omega, by omega, Nat.le_trans hf.2.2.2.2.2.2.2.2.1 HLim.out, by rw [hm1]; exact (r7 _ pL sL).1, ?_, by omega, by omega⟩
                          rw [← A.out, Sort.pdq_right (lt := ltE) (d := dk) (a := a') (b := b') (limit := lim) (wb := wb) (wp := wp) (by omega) (by omega) (by rw [← HRR.out]; exact HP2.out) (by rw [← HRR.out]; exact h87) (by rw [← HRR.out, hx]; exact ⟨r1, r2⟩) (by rw [← HRR.out, hx]; exact h4), ← HRR.out, hx, hm1])
                        clear hf r1 r2 r3 r4 r5 r6 r7 hc22 hx hl1 hl2 hl8 hm1 hLL h4 pL sL
                        have HT := Lib.hid h87
                        clear h87
                        have v1 := V1.out
                        have v2 := V2.out
                        have v3 := V3.out
                        have v4 := V4.out
                        have v5 := V5.out
                        go_wp2_with (first | (go_at_call 32; (with_reducible refine HC.out.mono ?_); rintro e w7 ⟨rfl, hs⟩; have HZ := Lib.hid hs; clear hs) | (go_at_call 21; (with_reducible refine (HI.out _ HZ.out).mono ?_); rintro e w8 ⟨rfl, hs⟩; have HY := Lib.hid hs; clear hs))
                        go_roundg (mid - a')
                        case measure => exact HN.out.2.1
                        case rel =>
                          refine ⟨a', mid, R.lim, decide (b' - mid ≥ (b' - a') / 8), ap, _, rfl, rfl, rfl, ?_, rfl, Lib.hid ⟨HN.out.1, HN.out.2.2.2.2.2.1, Nat.le_refl _, Nat.le_of_lt (Nat.lt_of_lt_of_le HN.out.2.1 HN.out.2.2.2.2.2.2), HN.out.2.2.1, HN.out.2.2.2.1, HY.out, HN.out.2.2.2.2.1⟩⟩
                          first | exact congrArg Value.bool hD.out | exact congrArg Value.bool hD2.out
                    · have h87' := h87
                      simp only [Bool.and_eq_true, decide_eq_true_eq, Bool.not_eq_true'] at h87'
                      obtain ⟨mid, d4, hx⟩ : ∃ mid d4, Sort.partitionEqual ltE R.pi.1 a' b' R.pivot = (mid, d4) := ⟨(Sort.partitionEqual ltE R.pi.1 a' b' R.pivot).1, (Sort.partitionEqual ltE R.pi.1 a' b' R.pivot).2, rfl⟩
                      have hf := HF.out
                      obtain ⟨r1, r2, r3, r4, _⟩ := Sort.round_eq swoE (Sort.partitionEqual_holds ltE) h87'.1 (show a' ≤ R.pivot by omega) (show R.pivot < b' by omega) (show b' ≤ R.pi.1.size by omega) HB3.out h87'.2 hx
                      have hc21 := PartEq.calls w0 _ g R.pi.1 a' b' R.pivot (by omega) (by omega) (by omega) HS6.out
                      rw [hx] at hc21
                      have HC := Lib.hid hc21
                      have HN := Lib.hid (show mid ≤ b' ∧ b' - mid < gk ∧ R.lim ≤ limit ∧ Sort.Below ltE mid b' d4 ∧ Sort.pdq ltE d4 mid b' R.lim wb wp = Sort.pdq ltE d a b limit true true ∧ b' ≤ 64 ∧ gk ≤ b - a by
                        refine ⟨by omega, by omega, Nat.le_trans hf.2.2.2.2.2.2.2.2.1 HLim.out, r4, ?_, by omega, by omega⟩
                        rw [← A.out, Sort.pdq_eq (lt := ltE) (d := dk) (a := a') (b := b') (limit := lim) (wb := wb) (wp := wp) (by omega) (by omega) (by rw [← HRR.out]; exact HP2.out) (by rw [← HRR.out]; exact h87) (by rw [← HRR.out, hx]; exact ⟨r1, r2⟩), ← HRR.out, hx])
                      clear hf r1 r2 r3 r4 hc21 hx h87'
                      have HT := Lib.hid h87
                      clear h87
                      go_wp2_with (first | (go_at_call 31; (with_reducible refine HC.out.mono ?_); rintro e w7 ⟨rfl, hs⟩; have HZ := Lib.hid hs; clear hs))
                      go_roundg (b' - mid)
                      case measure => exact HN.out.2.1
                      case rel =>
                        exact ⟨mid, b', R.lim, wb, wp, d4, rfl, rfl, rfl, rfl, rfl, Lib.hid ⟨HN.out.1, HN.out.2.2.2.2.2.1, Nat.le_refl _, Nat.le_of_lt (Nat.lt_of_lt_of_le HN.out.2.1 HN.out.2.2.2.2.2.2), HN.out.2.2.1, HN.out.2.2.2.1, HZ.out, HN.out.2.2.2.2.1⟩⟩
end Go.Proofs.YtlbamdlegloieaaDoor
