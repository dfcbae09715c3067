/- partialInsertionSort, walked. -/
import Derived.Test.YtlbamdlegloieaaDoorExtIns
import Derived.Sort.LotC
set_option linter.unusedVariables false
set_option linter.unusedSimpArgs false
namespace Go.Proofs.YtlbamdlegloieaaDoor
open Go Go.RowKit Go.Proofs.YtlbamdlegloieaaDoorW.PrintWords Go.Proofs.YtlbamdlegloieaaDoorW.PrintLast
theorem ss_go (d : Array El) (b p : Nat) (h : p + 1 < b) (hp : ltE d[p + 1]! d[p]! = false) : Sort.scanSorted ltE d b (p + 1) = Sort.scanSorted ltE d b (p + 2) := by
  rw [Sort.scanSorted, if_pos (by rw [show p + 1 - 1 = p from rfl, hp, decide_eq_true h]; rfl)]
theorem ss_stop (d : Array El) (b p : Nat) (h : ¬ p + 1 < b ∨ ltE d[p + 1]! d[p]! = true) : Sort.scanSorted ltE d b (p + 1) = p + 1 := by
  rw [Sort.scanSorted]
  rcases h with h | h
  · rw [if_neg (by rw [decide_eq_false h]; simp)]
  · rw [if_neg (by rw [show p + 1 - 1 = p from rfl, h]; simp)]
theorem sd_zero (d : Array El) : Sort.shiftDown ltE 0 d = d := by rw [Sort.shiftDown]
theorem sd_go (d : Array El) (q : Nat) (h : ltE d[q + 1]! d[q]! = true) : Sort.shiftDown ltE (q + 1) d = Sort.shiftDown ltE q (Sort.swp d (q + 1) q) := by
  rw [Sort.shiftDown, if_neg (by rw [h]; decide)]
theorem sd_stop (d : Array El) (q : Nat) (h : ltE d[q + 1]! d[q]! = false) : Sort.shiftDown ltE (q + 1) d = d := by
  rw [Sort.shiftDown, if_pos (by rw [h]; rfl)]
theorem su_end (d : Array El) (b q : Nat) (h : ¬ q + 1 < b) : Sort.shiftUp ltE b (q + 1) d = d := by rw [Sort.shiftUp, if_neg h]
theorem su_go (d : Array El) (b q : Nat) (hb : q + 1 < b) (h : ltE d[q + 1]! d[q]! = true) : Sort.shiftUp ltE b (q + 1) d = Sort.shiftUp ltE b (q + 2) (Sort.swp d (q + 1) q) := by
  rw [Sort.shiftUp, if_pos hb, show q + 1 - 1 = q from rfl, if_neg (by rw [h]; decide)]
theorem su_stop (d : Array El) (b q : Nat) (hb : q + 1 < b) (h : ltE d[q + 1]! d[q]! = false) : Sort.shiftUp ltE b (q + 1) d = d := by
  rw [Sort.shiftUp, if_pos hb, show q + 1 - 1 = q from rfl, if_pos (by rw [h]; rfl)]
set_option maxHeartbeats 32000000 in
set_option maxRecDepth 100000 in
theorem Pins.calls (w0 w : World) (g : Nat) (d : Array El) (a b : Nat) (hab : a < b) (hb : b ≤ 64) (h : SS w0 g d w) :
    Calls Tryd.prog 30 #[.iface 45 (.slice (some ⟨g, 0, none⟩) 64 64), .int .i64 (a : Int), .int .i64 (b : Int)] w fun e w' =>
      e = .returned (.bool (Sort.partialInsertionSort ltE d a b).2) ∧ SS w0 g (Sort.partialInsertionSort ltE d a b).1 w' := by
  have HS := Lib.hid h
  have HB := Lib.hid hb
  have HAB := Lib.hid hab
  obtain ⟨a1, ha1⟩ : ∃ a1, a1 = a + 1 := ⟨_, rfl⟩
  have wa : wrap64 ((a : Int) + 1) = (a1 : Int) := by rw [i64 _ (by omega) (by omega)]; omega
  have HA1 := Lib.hid ha1
  have HPI := Lib.hid (show Sort.partialInsertionSort ltE d a b = Sort.partialIns ltE a b 5 a1 d by rw [Sort.partialInsertionSort, ha1])
  clear h hab hb ha1
  go_enter Tryd.func30, Tryd.ntmps30
  go_wp2
  (try rw [wa])
  go_loopw [7, 8] (fun v7 v8 wr => ∃ (i0 t : Nat) (dk : Array El), v7 = .int .i64 (i0 : Int) ∧ v8 = .int .i64 (t : Int) ∧ Hid (a + 1 ≤ i0 ∧ i0 ≤ b ∧ t ≤ 5 ∧ SS w0 g dk wr ∧ Sort.partialIns ltE a b (5 - t) i0 dk = Sort.partialIns ltE a b 5 a1 d)) (fun _ v8 _ => 5 - (intOf v8).toNat)
  case atStart => exact ⟨a1, 0, d, by first | rfl | rw [wa], rfl, Lib.hid ⟨by have := HA1.out; omega, by have := HA1.out; have := HAB.out; omega, by omega, HS.out, rfl⟩⟩
  obtain ⟨i0, t, dk, rfl, rfl, HR⟩ := hrel
  clear HS wa
  by_cases ht : t < 5
  · have c1 : decide ((t : Int) < (5 : Int)) = true := decide_eq_true (by omega)
    have c2 : decide (t < 5) = true := decide_eq_true ht
    obtain ⟨t1, ht1⟩ : ∃ t1, t1 = t + 1 := ⟨_, rfl⟩
    have WT := Lib.hid (show wrap64 ((t : Int) + 1) = (t1 : Int) by rw [i64 _ (by omega) (by omega)]; omega)
    have HT := Lib.hid (show 5 - t1 < 5 - t ∧ t1 ≤ 5 by omega)
    have HT5 := Lib.hid (show 5 - t = (5 - t1) + 1 by omega)
    clear ht ht1
    go_wp2
    clear c1 c2
    go_loopw [7] (fun v7 wr2 => ∃ (p : Nat), v7 = .int .i64 ((p + 1 : Nat) : Int) ∧ Hid (a ≤ p ∧ i0 ≤ p + 1 ∧ p + 1 ≤ b ∧ SS w0 g dk wr2 ∧ Sort.scanSorted ltE dk b (p + 1) = Sort.scanSorted ltE dk b i0)) (fun v7 _ => b - (intOf v7).toNat)
    case atStart => exact ⟨i0 - 1, by rw [show i0 - 1 + 1 = i0 from by have := HR.out.1; omega], Lib.hid ⟨by have := HR.out.1; omega, by omega, by have := HR.out.1; have := HR.out.2.1; omega, HR.out.2.2.2.1, by rw [show i0 - 1 + 1 = i0 from by have := HR.out.1; omega]⟩⟩
    obtain ⟨p, rfl, HP⟩ := hrel
    obtain ⟨i, hi⟩ : ∃ i, i = p + 1 := ⟨_, rfl⟩
    rw [← hi]
    have HSp := Lib.hid HP.out.2.2.2.1
    have WP := Lib.hid (show wrap64 ((i : Int) - 1) = (p : Int) by have := HP.out.2.2.1; have := HB.out; rw [i64 _ (by omega) (by omega)]; omega)
    by_cases hib : i < b
    · have d1 : decide ((i : Int) < (b : Int)) = true := decide_eq_true (by omega)
      have d2 : decide (i < b) = true := decide_eq_true hib
      have hb64 := HB.out
      have h1 : i < 64 := by omega
      have h2 : p < 64 := by omega
      have WI := Lib.hid (show wrap64 ((i : Int) + 1) = ((i + 1 : Nat) : Int) by rw [i64 _ (by omega) (by omega)]; omega)
      have hle := fun wz (hz : SS w0 g dk wz) => Less.calls w0 wz g dk i p h1 h2 hz
      cases hL : ltE dk[i]! dk[p]! with
      | false =>
        rw [hL] at hle
        have HLe := Lib.hid hle
        have HN := Lib.hid (show a ≤ i ∧ i0 ≤ i + 1 ∧ i + 1 ≤ b ∧ b - (i + 1) < b - i ∧ Sort.scanSorted ltE dk b (i + 1) = Sort.scanSorted ltE dk b i0 from
          ⟨by have := HP.out.1; omega, by have := HP.out.2.1; omega, hib, by omega, by rw [← HP.out.2.2.2.2]; rw [hi] at hL hib ⊢; exact (ss_go dk b p hib hL).symm⟩)
        clear hle hL hib hb64 h1 h2 hi
        have wp := WP.out
        have wi := WI.out
        go_wp2_with (first | (go_at_call 58; (with_reducible refine (HLe.out _ HSp.out).mono ?_); rintro e w9 ⟨rfl, hs⟩; have HZa := Lib.hid hs; clear hs))
        go_roundw
        case rel => exact ⟨i, by first | rfl | rw [wi], Lib.hid ⟨HN.out.1, HN.out.2.1, HN.out.2.2.1, HZa.out, HN.out.2.2.2.2⟩⟩
        case measure =>
          (try rw [wi])
          show b - (((i + 1 : Nat) : Int)).toNat < b - ((i : Int)).toNat
          rw [Int.toNat_natCast, Int.toNat_natCast]
          exact HN.out.2.2.2.1
      | true =>
        rw [hL] at hle
        have HLe := Lib.hid hle
        have HSc := Lib.hid (show Sort.scanSorted ltE dk b i0 = i by rw [← HP.out.2.2.2.2]; rw [hi] at hL ⊢; exact ss_stop dk b p (Or.inr hL))
        have e1 : decide ((i : Int) = (b : Int)) = false := decide_eq_false (by omega)
        have e2 : decide (i = b) = false := decide_eq_false (by omega)
        have e3 : ((i : Int) == (b : Int)) = false := beq_eq_false_iff_ne.mpr (by omega)
        obtain ⟨l0, hl0⟩ : ∃ l0, l0 = b - a := ⟨_, rfl⟩
        obtain ⟨l1, hl1⟩ : ∃ l1, l1 = i - a := ⟨_, rfl⟩
        obtain ⟨l2, hl2⟩ : ∃ l2, l2 = b - i := ⟨_, rfl⟩
        have hpa := HP.out.1
        have WL0 := Lib.hid (show wrap64 ((b : Int) - (a : Int)) = (l0 : Int) by rw [i64 _ (by omega) (by omega)]; omega)
        have WL1 := Lib.hid (show wrap64 ((i : Int) - (a : Int)) = (l1 : Int) by rw [i64 _ (by omega) (by omega)]; omega)
        have WL2 := Lib.hid (show wrap64 ((b : Int) - (i : Int)) = (l2 : Int) by rw [i64 _ (by omega) (by omega)]; omega)
        have HL1 := Lib.hid hl1
        have HL2 := Lib.hid hl2
        have HI := Lib.hid (show a + 1 ≤ i ∧ i ≤ b ∧ p < 64 by omega)
        obtain ⟨i1, hi1⟩ : ∃ i1, i1 = i + 1 := ⟨_, rfl⟩
        have HI1 := Lib.hid hi1
        have WI1 := Lib.hid (show wrap64 ((i : Int) + 1) = (i1 : Int) by rw [i64 _ (by omega) (by omega)]; omega)
        clear hi1
        have hnb : ¬ i = b := by omega
        by_cases h50 : b - a < 50
        · have HE := Lib.hid (show Sort.partialInsertionSort ltE d a b = (dk, false) by
            rw [HPI.out, ← HR.out.2.2.2.2, HT5.out, Sort.partialIns]
            simp only [HSc.out]
            rw [if_neg hnb, if_pos h50])
          have d3 : decide ((l0 : Int) < (50 : Int)) = true := decide_eq_true (by omega)
          clear hle hL hib hb64 h1 h2 hi hl0 hl1 hl2 hpa hnb h50
          have wp := WP.out
          have wl0 := WL0.out
          go_wp2_with (first | (go_at_call 58; (with_reducible refine (HLe.out _ HSp.out).mono ?_); rintro e w9 ⟨rfl, hs⟩; have HZa := Lib.hid hs; clear hs))
          go_ret
          rw [HE.out]
          exact ⟨rfl, HZa.out⟩
        · have d3 : decide ((l0 : Int) < (50 : Int)) = false := decide_eq_false (by omega)
          have HSw := Lib.hid (fun wz (hz : SS w0 g dk wz) => Swap.calls w0 wz g dk i p h1 h2 hz)
          have HFin := Lib.hid (show ∀ dD du, (dD = if 2 ≤ i - a then Sort.shiftDown ltE p (Sort.swp dk i p) else Sort.swp dk i p) → (du = if 2 ≤ b - i then Sort.shiftUp ltE b (i + 1) dD else dD) → Sort.partialIns ltE a b (5 - t1) i du = Sort.partialIns ltE a b 5 a1 d from fun dD du hD hU => by
            rw [← HR.out.2.2.2.2, HT5.out, Sort.partialIns]
            simp only [HSc.out]
            rw [if_neg hnb, if_neg h50, show i - 1 = p from by omega, hU, hD])
          clear hle hL hib hb64 h1 h2 hi hl0 hl1 hl2 hpa hnb h50
          have wp := WP.out
          have wl0 := WL0.out
          have wl1 := WL1.out
          clear HP
          obtain ⟨dk1, hdk1⟩ : ∃ dk1, dk1 = Sort.swp dk i p := ⟨_, rfl⟩
          rw [← hdk1] at HSw HFin
          clear hdk1
          by_cases hd : 2 ≤ i - a
          · have d3 : decide ((2 : Int) ≤ (l1 : Int)) = true := decide_eq_true (by have := HL1.out; omega)
            have d3b : decide (2 ≤ l1) = true := decide_eq_true (by have := HL1.out; omega)
            have HEd := Lib.hid hd
            clear hd
            go_wp2_with (first | (go_at_call 58; (with_reducible refine (HLe.out _ HSp.out).mono ?_); rintro e w9 ⟨rfl, hs⟩; have HZ0 := Lib.hid hs; clear hs) | (go_at_call 59; (with_reducible refine (HSw.out _ HZ0.out).mono ?_); rintro e w11 ⟨rfl, hs⟩; have HZ1 := Lib.hid hs; clear hs))
            (try rw [WP.out]); (try rw [WL0.out]); (try rw [WL1.out])
            go_loopw [9] (fun v9 wr4 => ∃ (q : Nat) (dj : Array El), v9 = .int .i64 (q : Int) ∧ Hid (q ≤ p ∧ SS w0 g dj wr4 ∧ Sort.shiftDown ltE q dj = Sort.shiftDown ltE p dk1)) (fun v9 _ => (intOf v9).toNat)
            case atStart => exact ⟨p, dk1, by first | rfl | rw [WP.out], Lib.hid ⟨Nat.le_refl _, HZ1.out, rfl⟩⟩
            obtain ⟨q, dj, rfl, HQ⟩ := hrel
            have HSq := Lib.hid HQ.out.2.1
            by_cases hq : 1 ≤ q
            · obtain ⟨q1, hq1⟩ : ∃ q1, q = q1 + 1 := ⟨q - 1, by omega⟩
              have d4 : decide ((1 : Int) ≤ (q : Int)) = true := decide_eq_true (by omega)
              have d4b : decide (1 ≤ q) = true := decide_eq_true hq
              have hp64 := HI.out.2.2
              have hqp := HQ.out.1
              have h1 : q < 64 := by omega
              have h2 : q1 < 64 := by omega
              have WQ := Lib.hid (show wrap64 ((q : Int) - 1) = (q1 : Int) by rw [i64 _ (by omega) (by omega)]; omega)
              have hle := fun wz (hz : SS w0 g dj wz) => Less.calls w0 wz g dj q q1 h1 h2 hz
              cases hL : ltE dj[q]! dj[q1]! with
              | true =>
                rw [hL] at hle
                have HLe := Lib.hid hle
                have HSw := Lib.hid (fun wz (hz : SS w0 g dj wz) => Swap.calls w0 wz g dj q q1 h1 h2 hz)
                have HNq := Lib.hid (show q1 ≤ p ∧ q1 < q ∧ Sort.shiftDown ltE q1 (Sort.swp dj q q1) = Sort.shiftDown ltE p dk1 from
                  ⟨by omega, by omega, by rw [← HQ.out.2.2]; rw [hq1] at hL ⊢; exact (sd_go dj q1 hL).symm⟩)
                clear hle hL hq hp64 hqp h1 h2 hq1
                have wq := WQ.out
                go_wp2_with (first | (go_at_call 58; (with_reducible refine (HLe.out _ HSq.out).mono ?_); rintro e w9 ⟨rfl, hs⟩; have HZa := Lib.hid hs; clear hs) | (go_at_call 59; (with_reducible refine (HSw.out _ HZa.out).mono ?_); rintro e w11 ⟨rfl, hs⟩; have HZb := Lib.hid hs; clear hs))
                go_roundw
                case rel => exact ⟨q1, _, by first | rfl | rw [wq], Lib.hid ⟨HNq.out.1, HZb.out, HNq.out.2.2⟩⟩
                case measure =>
                  (try rw [wq])
                  show ((q1 : Int)).toNat < ((q : Int)).toNat
                  rw [Int.toNat_natCast, Int.toNat_natCast]
                  exact HNq.out.2.1
              | false =>
                rw [hL] at hle
                have HLe := Lib.hid hle
                have HDd := Lib.hid (show dj = if 2 ≤ i - a then Sort.shiftDown ltE p dk1 else dk1 by rw [if_pos HEd.out, ← HQ.out.2.2]; rw [hq1] at hL ⊢; exact (sd_stop dj q1 hL).symm)
                clear hle hL hq hp64 hqp h1 h2 hq1
                have wq := WQ.out
                clear HQ
                by_cases hu : 2 ≤ b - i
                · have d5 : decide ((2 : Int) ≤ (l2 : Int)) = true := decide_eq_true (by have := HL2.out; omega)
                  have d5b : decide (2 ≤ l2) = true := decide_eq_true (by have := HL2.out; omega)
                  have HEu := Lib.hid hu
                  clear hu
                  have wl2 := WL2.out
                  have wi1 := WI1.out
                  go_wp2_with (first | (go_at_call 58; (with_reducible refine (HLe.out _ HSq.out).mono ?_); rintro e w9 ⟨rfl, hs⟩; have HZa := Lib.hid hs; clear hs))
                  (try rw [WI1.out]); (try rw [WL2.out]); (try rw [WL1.out]); (try rw [WL0.out]); (try rw [WP.out]); (try rw [WQ.out])
                  go_loopw [10] (fun v10 wr5 => ∃ (q : Nat) (du : Array El), v10 = .int .i64 ((q + 1 : Nat) : Int) ∧ Hid (i ≤ q ∧ q + 1 ≤ b ∧ SS w0 g du wr5 ∧ Sort.shiftUp ltE b (q + 1) du = Sort.shiftUp ltE b (i + 1) dj)) (fun v10 _ => b - (intOf v10).toNat)
                  case atStart => exact ⟨i, dj, by first | rfl | rw [HI1.out], Lib.hid ⟨Nat.le_refl _, by have := HEu.out; omega, HZa.out, rfl⟩⟩
                  obtain ⟨q, du, rfl, HQ⟩ := hrel
                  obtain ⟨q1, hq1⟩ : ∃ q1, q1 = q + 1 := ⟨_, rfl⟩
                  rw [← hq1]
                  have HSq := Lib.hid HQ.out.2.2.1
                  by_cases hqb : q1 < b
                  · have d6 : decide ((q1 : Int) < (b : Int)) = true := decide_eq_true (by omega)
                    have d7 : decide (q1 < b) = true := decide_eq_true hqb
                    have hb64 := HB.out
                    have h1 : q1 < 64 := by omega
                    have h2 : q < 64 := by omega
                    have WQ := Lib.hid (show wrap64 ((q1 : Int) - 1) = (q : Int) by rw [i64 _ (by omega) (by omega)]; omega)
                    have WQ2 := Lib.hid (show wrap64 ((q1 : Int) + 1) = ((q1 + 1 : Nat) : Int) by rw [i64 _ (by omega) (by omega)]; omega)
                    have hle := fun wz (hz : SS w0 g du wz) => Less.calls w0 wz g du q1 q h1 h2 hz
                    cases hL : ltE du[q1]! du[q]! with
                    | true =>
                      rw [hL] at hle
                      have HLe := Lib.hid hle
                      have HSw := Lib.hid (fun wz (hz : SS w0 g du wz) => Swap.calls w0 wz g du q1 q h1 h2 hz)
                      have HNq := Lib.hid (show i ≤ q1 ∧ q1 + 1 ≤ b ∧ Sort.shiftUp ltE b (q1 + 1) (Sort.swp du q1 q) = Sort.shiftUp ltE b (i + 1) dj from
                        ⟨by have := HQ.out.1; omega, hqb, by rw [← HQ.out.2.2.2]; rw [hq1] at hL hqb ⊢; exact (su_go du b q hqb hL).symm⟩)
                      have HM := Lib.hid (show b - (q1 + 1) < b - q1 by omega)
                      clear hle hL hqb hb64 h1 h2 hq1
                      have wq := WQ.out
                      have wq2 := WQ2.out
                      go_wp2_with (first | (go_at_call 58; (with_reducible refine (HLe.out _ HSq.out).mono ?_); rintro e w9 ⟨rfl, hs⟩; have HZm := Lib.hid hs; clear hs) | (go_at_call 59; (with_reducible refine (HSw.out _ HZm.out).mono ?_); rintro e w11 ⟨rfl, hs⟩; have HZn := Lib.hid hs; clear hs))
                      go_roundw
                      case rel => exact ⟨q1, _, by first | rfl | rw [wq2], Lib.hid ⟨HNq.out.1, HNq.out.2.1, HZn.out, HNq.out.2.2⟩⟩
                      case measure =>
                        (try rw [wq2])
                        show b - (((q1 + 1 : Nat) : Int)).toNat < b - ((q1 : Int)).toNat
                        rw [Int.toNat_natCast, Int.toNat_natCast]
                        exact HM.out
                    | false =>
                      rw [hL] at hle
                      have HLe := Lib.hid hle
                      have HEq := Lib.hid (show du = Sort.shiftUp ltE b (i + 1) dj by rw [← HQ.out.2.2.2]; rw [hq1] at hL hqb; exact (su_stop du b q hqb hL).symm)
                      clear hle hL hqb hb64 h1 h2 hq1
                      have wq := WQ.out
                      go_wp2_with (first | (go_at_call 58; (with_reducible refine (HLe.out _ HSq.out).mono ?_); rintro e w9 ⟨rfl, hs⟩; have HZm := Lib.hid hs; clear hs))
                      have HNx := Lib.hid (show Sort.partialIns ltE a b (5 - t1) i du = Sort.partialIns ltE a b 5 a1 d from HFin.out _ _ HDd.out (by rw [if_pos HEu.out]; exact HEq.out))
                      have wt := WT.out
                      (try go_wp2)
                      go_roundw
                      case rel => exact ⟨i, t1, du, by first | rfl | rw [wt], by first | rfl | rw [wt], Lib.hid ⟨HI.out.1, HI.out.2.1, HT.out.2, HZm.out, HNx.out⟩⟩
                      case measure =>
                        (try rw [wt])
                        show 5 - ((t1 : Int)).toNat < 5 - ((t : Int)).toNat
                        rw [Int.toNat_natCast, Int.toNat_natCast]
                        exact HT.out.1
                  · have d6 : decide ((q1 : Int) < (b : Int)) = false := decide_eq_false (by omega)
                    have d7 : decide (q1 < b) = false := decide_eq_false hqb
                    have HEq := Lib.hid (show du = Sort.shiftUp ltE b (i + 1) dj by rw [← HQ.out.2.2.2]; rw [hq1] at hqb; exact (su_end du b q hqb).symm)
                    clear hqb hq1
                    go_wp2
                    have HNx := Lib.hid (show Sort.partialIns ltE a b (5 - t1) i du = Sort.partialIns ltE a b 5 a1 d from HFin.out _ _ HDd.out (by rw [if_pos HEu.out]; exact HEq.out))
                    have wt := WT.out
                    (try go_wp2)
                    go_roundw
                    case rel => exact ⟨i, t1, du, by first | rfl | rw [wt], by first | rfl | rw [wt], Lib.hid ⟨HI.out.1, HI.out.2.1, HT.out.2, HSq.out, HNx.out⟩⟩
                    case measure =>
                      (try rw [wt])
                      show 5 - ((t1 : Int)).toNat < 5 - ((t : Int)).toNat
                      rw [Int.toNat_natCast, Int.toNat_natCast]
                      exact HT.out.1
                · have d5 : decide ((2 : Int) ≤ (l2 : Int)) = false := decide_eq_false (by have := HL2.out; omega)
                  have d5b : decide (2 ≤ l2) = false := decide_eq_false (by have := HL2.out; omega)
                  have HEu := Lib.hid hu
                  clear hu
                  have wl2 := WL2.out
                  go_wp2_with (first | (go_at_call 58; (with_reducible refine (HLe.out _ HSq.out).mono ?_); rintro e w9 ⟨rfl, hs⟩; have HZa := Lib.hid hs; clear hs))
                  have HNx := Lib.hid (show Sort.partialIns ltE a b (5 - t1) i dj = Sort.partialIns ltE a b 5 a1 d from HFin.out _ _ HDd.out (by rw [if_neg HEu.out]))
                  have wt := WT.out
                  (try go_wp2)
                  go_roundw
                  case rel => exact ⟨i, t1, dj, by first | rfl | rw [wt], by first | rfl | rw [wt], Lib.hid ⟨HI.out.1, HI.out.2.1, HT.out.2, HZa.out, HNx.out⟩⟩
                  case measure =>
                    (try rw [wt])
                    show 5 - ((t1 : Int)).toNat < 5 - ((t : Int)).toNat
                    rw [Int.toNat_natCast, Int.toNat_natCast]
                    exact HT.out.1
            · have d4 : decide ((1 : Int) ≤ (q : Int)) = false := decide_eq_false (by omega)
              have d4b : decide (1 ≤ q) = false := decide_eq_false hq
              have HDd := Lib.hid (show dj = if 2 ≤ i - a then Sort.shiftDown ltE p dk1 else dk1 by rw [if_pos HEd.out, ← HQ.out.2.2, show q = 0 by omega, sd_zero])
              have HZd := Lib.hid HSq.out
              clear hq HQ HSq
              by_cases hu : 2 ≤ b - i
              · have d5 : decide ((2 : Int) ≤ (l2 : Int)) = true := decide_eq_true (by have := HL2.out; omega)
                have d5b : decide (2 ≤ l2) = true := decide_eq_true (by have := HL2.out; omega)
                have HEu := Lib.hid hu
                clear hu
                have wl2 := WL2.out
                have wi1 := WI1.out
                go_wp2
                (try rw [WI1.out]); (try rw [WL2.out]); (try rw [WL1.out]); (try rw [WL0.out]); (try rw [WP.out]); (try rw [WQ.out])
                go_loopw [10] (fun v10 wr5 => ∃ (q : Nat) (du : Array El), v10 = .int .i64 ((q + 1 : Nat) : Int) ∧ Hid (i ≤ q ∧ q + 1 ≤ b ∧ SS w0 g du wr5 ∧ Sort.shiftUp ltE b (q + 1) du = Sort.shiftUp ltE b (i + 1) dj)) (fun v10 _ => b - (intOf v10).toNat)
                case atStart => exact ⟨i, dj, by first | rfl | rw [HI1.out], Lib.hid ⟨Nat.le_refl _, by have := HEu.out; omega, HZd.out, rfl⟩⟩
                obtain ⟨q, du, rfl, HQ⟩ := hrel
                obtain ⟨q1, hq1⟩ : ∃ q1, q1 = q + 1 := ⟨_, rfl⟩
                rw [← hq1]
                have HSq := Lib.hid HQ.out.2.2.1
                by_cases hqb : q1 < b
                · have d6 : decide ((q1 : Int) < (b : Int)) = true := decide_eq_true (by omega)
                  have d7 : decide (q1 < b) = true := decide_eq_true hqb
                  have hb64 := HB.out
                  have h1 : q1 < 64 := by omega
                  have h2 : q < 64 := by omega
                  have WQ := Lib.hid (show wrap64 ((q1 : Int) - 1) = (q : Int) by rw [i64 _ (by omega) (by omega)]; omega)
                  have WQ2 := Lib.hid (show wrap64 ((q1 : Int) + 1) = ((q1 + 1 : Nat) : Int) by rw [i64 _ (by omega) (by omega)]; omega)
                  have hle := fun wz (hz : SS w0 g du wz) => Less.calls w0 wz g du q1 q h1 h2 hz
                  cases hL : ltE du[q1]! du[q]! with
                  | true =>
                    rw [hL] at hle
                    have HLe := Lib.hid hle
                    have HSw := Lib.hid (fun wz (hz : SS w0 g du wz) => Swap.calls w0 wz g du q1 q h1 h2 hz)
                    have HNq := Lib.hid (show i ≤ q1 ∧ q1 + 1 ≤ b ∧ Sort.shiftUp ltE b (q1 + 1) (Sort.swp du q1 q) = Sort.shiftUp ltE b (i + 1) dj from
                      ⟨by have := HQ.out.1; omega, hqb, by rw [← HQ.out.2.2.2]; rw [hq1] at hL hqb ⊢; exact (su_go du b q hqb hL).symm⟩)
                    have HM := Lib.hid (show b - (q1 + 1) < b - q1 by omega)
                    clear hle hL hqb hb64 h1 h2 hq1
                    have wq := WQ.out
                    have wq2 := WQ2.out
                    go_wp2_with (first | (go_at_call 58; (with_reducible refine (HLe.out _ HSq.out).mono ?_); rintro e w9 ⟨rfl, hs⟩; have HZm := Lib.hid hs; clear hs) | (go_at_call 59; (with_reducible refine (HSw.out _ HZm.out).mono ?_); rintro e w11 ⟨rfl, hs⟩; have HZn := Lib.hid hs; clear hs))
                    go_roundw
                    case rel => exact ⟨q1, _, by first | rfl | rw [wq2], Lib.hid ⟨HNq.out.1, HNq.out.2.1, HZn.out, HNq.out.2.2⟩⟩
                    case measure =>
                      (try rw [wq2])
                      show b - (((q1 + 1 : Nat) : Int)).toNat < b - ((q1 : Int)).toNat
                      rw [Int.toNat_natCast, Int.toNat_natCast]
                      exact HM.out
                  | false =>
                    rw [hL] at hle
                    have HLe := Lib.hid hle
                    have HEq := Lib.hid (show du = Sort.shiftUp ltE b (i + 1) dj by rw [← HQ.out.2.2.2]; rw [hq1] at hL hqb; exact (su_stop du b q hqb hL).symm)
                    clear hle hL hqb hb64 h1 h2 hq1
                    have wq := WQ.out
                    go_wp2_with (first | (go_at_call 58; (with_reducible refine (HLe.out _ HSq.out).mono ?_); rintro e w9 ⟨rfl, hs⟩; have HZm := Lib.hid hs; clear hs))
                    have HNx := Lib.hid (show Sort.partialIns ltE a b (5 - t1) i du = Sort.partialIns ltE a b 5 a1 d from HFin.out _ _ HDd.out (by rw [if_pos HEu.out]; exact HEq.out))
                    have wt := WT.out
                    (try go_wp2)
                    go_roundw
                    case rel => exact ⟨i, t1, du, by first | rfl | rw [wt], by first | rfl | rw [wt], Lib.hid ⟨HI.out.1, HI.out.2.1, HT.out.2, HZm.out, HNx.out⟩⟩
                    case measure =>
                      (try rw [wt])
                      show 5 - ((t1 : Int)).toNat < 5 - ((t : Int)).toNat
                      rw [Int.toNat_natCast, Int.toNat_natCast]
                      exact HT.out.1
                · have d6 : decide ((q1 : Int) < (b : Int)) = false := decide_eq_false (by omega)
                  have d7 : decide (q1 < b) = false := decide_eq_false hqb
                  have HEq := Lib.hid (show du = Sort.shiftUp ltE b (i + 1) dj by rw [← HQ.out.2.2.2]; rw [hq1] at hqb; exact (su_end du b q hqb).symm)
                  clear hqb hq1
                  go_wp2
                  have HNx := Lib.hid (show Sort.partialIns ltE a b (5 - t1) i du = Sort.partialIns ltE a b 5 a1 d from HFin.out _ _ HDd.out (by rw [if_pos HEu.out]; exact HEq.out))
                  have wt := WT.out
                  (try go_wp2)
                  go_roundw
                  case rel => exact ⟨i, t1, du, by first | rfl | rw [wt], by first | rfl | rw [wt], Lib.hid ⟨HI.out.1, HI.out.2.1, HT.out.2, HSq.out, HNx.out⟩⟩
                  case measure =>
                    (try rw [wt])
                    show 5 - ((t1 : Int)).toNat < 5 - ((t : Int)).toNat
                    rw [Int.toNat_natCast, Int.toNat_natCast]
                    exact HT.out.1
              · have d5 : decide ((2 : Int) ≤ (l2 : Int)) = false := decide_eq_false (by have := HL2.out; omega)
                have d5b : decide (2 ≤ l2) = false := decide_eq_false (by have := HL2.out; omega)
                have HEu := Lib.hid hu
                clear hu
                have wl2 := WL2.out
                go_wp2
                have HNx := Lib.hid (show Sort.partialIns ltE a b (5 - t1) i dj = Sort.partialIns ltE a b 5 a1 d from HFin.out _ _ HDd.out (by rw [if_neg HEu.out]))
                have wt := WT.out
                (try go_wp2)
                go_roundw
                case rel => exact ⟨i, t1, dj, by first | rfl | rw [wt], by first | rfl | rw [wt], Lib.hid ⟨HI.out.1, HI.out.2.1, HT.out.2, HZd.out, HNx.out⟩⟩
                case measure =>
                  (try rw [wt])
                  show 5 - ((t1 : Int)).toNat < 5 - ((t : Int)).toNat
                  rw [Int.toNat_natCast, Int.toNat_natCast]
                  exact HT.out.1
          · have d3 : decide ((2 : Int) ≤ (l1 : Int)) = false := decide_eq_false (by have := HL1.out; omega)
            have d3b : decide (2 ≤ l1) = false := decide_eq_false (by have := HL1.out; omega)
            have HDd := Lib.hid (show dk1 = if 2 ≤ i - a then Sort.shiftDown ltE p dk1 else dk1 by rw [if_neg hd])
            clear hd
            by_cases hu : 2 ≤ b - i
            · have d5 : decide ((2 : Int) ≤ (l2 : Int)) = true := decide_eq_true (by have := HL2.out; omega)
              have d5b : decide (2 ≤ l2) = true := decide_eq_true (by have := HL2.out; omega)
              have HEu := Lib.hid hu
              clear hu
              have wl2 := WL2.out
              have wi1 := WI1.out
              go_wp2_with (first | (go_at_call 58; (with_reducible refine (HLe.out _ HSp.out).mono ?_); rintro e w9 ⟨rfl, hs⟩; have HZ0 := Lib.hid hs; clear hs) | (go_at_call 59; (with_reducible refine (HSw.out _ HZ0.out).mono ?_); rintro e w11 ⟨rfl, hs⟩; have HZ1 := Lib.hid hs; clear hs))
              (try rw [WI1.out]); (try rw [WL2.out]); (try rw [WL1.out]); (try rw [WL0.out]); (try rw [WP.out]); (try rw [WQ.out])
              go_loopw [10] (fun v10 wr5 => ∃ (q : Nat) (du : Array El), v10 = .int .i64 ((q + 1 : Nat) : Int) ∧ Hid (i ≤ q ∧ q + 1 ≤ b ∧ SS w0 g du wr5 ∧ Sort.shiftUp ltE b (q + 1) du = Sort.shiftUp ltE b (i + 1) dk1)) (fun v10 _ => b - (intOf v10).toNat)
              case atStart => exact ⟨i, dk1, by first | rfl | rw [HI1.out], Lib.hid ⟨Nat.le_refl _, by have := HEu.out; omega, HZ1.out, rfl⟩⟩
              obtain ⟨q, du, rfl, HQ⟩ := hrel
              obtain ⟨q1, hq1⟩ : ∃ q1, q1 = q + 1 := ⟨_, rfl⟩
              rw [← hq1]
              have HSq := Lib.hid HQ.out.2.2.1
              by_cases hqb : q1 < b
              · have d6 : decide ((q1 : Int) < (b : Int)) = true := decide_eq_true (by omega)
                have d7 : decide (q1 < b) = true := decide_eq_true hqb
                have hb64 := HB.out
                have h1 : q1 < 64 := by omega
                have h2 : q < 64 := by omega
                have WQ := Lib.hid (show wrap64 ((q1 : Int) - 1) = (q : Int) by rw [i64 _ (by omega) (by omega)]; omega)
                have WQ2 := Lib.hid (show wrap64 ((q1 : Int) + 1) = ((q1 + 1 : Nat) : Int) by rw [i64 _ (by omega) (by omega)]; omega)
                have hle := fun wz (hz : SS w0 g du wz) => Less.calls w0 wz g du q1 q h1 h2 hz
                cases hL : ltE du[q1]! du[q]! with
                | true =>
                  rw [hL] at hle
                  have HLe := Lib.hid hle
                  have HSw := Lib.hid (fun wz (hz : SS w0 g du wz) => Swap.calls w0 wz g du q1 q h1 h2 hz)
                  have HNq := Lib.hid (show i ≤ q1 ∧ q1 + 1 ≤ b ∧ Sort.shiftUp ltE b (q1 + 1) (Sort.swp du q1 q) = Sort.shiftUp ltE b (i + 1) dk1 from
                    ⟨by have := HQ.out.1; omega, hqb, by rw [← HQ.out.2.2.2]; rw [hq1] at hL hqb ⊢; exact (su_go du b q hqb hL).symm⟩)
                  have HM := Lib.hid (show b - (q1 + 1) < b - q1 by omega)
                  clear hle hL hqb hb64 h1 h2 hq1
                  have wq := WQ.out
                  have wq2 := WQ2.out
                  go_wp2_with (first | (go_at_call 58; (with_reducible refine (HLe.out _ HSq.out).mono ?_); rintro e w9 ⟨rfl, hs⟩; have HZm := Lib.hid hs; clear hs) | (go_at_call 59; (with_reducible refine (HSw.out _ HZm.out).mono ?_); rintro e w11 ⟨rfl, hs⟩; have HZn := Lib.hid hs; clear hs))
                  go_roundw
                  case rel => exact ⟨q1, _, by first | rfl | rw [wq2], Lib.hid ⟨HNq.out.1, HNq.out.2.1, HZn.out, HNq.out.2.2⟩⟩
                  case measure =>
                    (try rw [wq2])
                    show b - (((q1 + 1 : Nat) : Int)).toNat < b - ((q1 : Int)).toNat
                    rw [Int.toNat_natCast, Int.toNat_natCast]
                    exact HM.out
                | false =>
                  rw [hL] at hle
                  have HLe := Lib.hid hle
                  have HEq := Lib.hid (show du = Sort.shiftUp ltE b (i + 1) dk1 by rw [← HQ.out.2.2.2]; rw [hq1] at hL hqb; exact (su_stop du b q hqb hL).symm)
                  clear hle hL hqb hb64 h1 h2 hq1
                  have wq := WQ.out
                  go_wp2_with (first | (go_at_call 58; (with_reducible refine (HLe.out _ HSq.out).mono ?_); rintro e w9 ⟨rfl, hs⟩; have HZm := Lib.hid hs; clear hs))
                  have HNx := Lib.hid (show Sort.partialIns ltE a b (5 - t1) i du = Sort.partialIns ltE a b 5 a1 d from HFin.out _ _ HDd.out (by rw [if_pos HEu.out]; exact HEq.out))
                  have wt := WT.out
                  (try go_wp2)
                  go_roundw
                  case rel => exact ⟨i, t1, du, by first | rfl | rw [wt], by first | rfl | rw [wt], Lib.hid ⟨HI.out.1, HI.out.2.1, HT.out.2, HZm.out, HNx.out⟩⟩
                  case measure =>
                    (try rw [wt])
                    show 5 - ((t1 : Int)).toNat < 5 - ((t : Int)).toNat
                    rw [Int.toNat_natCast, Int.toNat_natCast]
                    exact HT.out.1
              · have d6 : decide ((q1 : Int) < (b : Int)) = false := decide_eq_false (by omega)
                have d7 : decide (q1 < b) = false := decide_eq_false hqb
                have HEq := Lib.hid (show du = Sort.shiftUp ltE b (i + 1) dk1 by rw [← HQ.out.2.2.2]; rw [hq1] at hqb; exact (su_end du b q hqb).symm)
                clear hqb hq1
                go_wp2
                have HNx := Lib.hid (show Sort.partialIns ltE a b (5 - t1) i du = Sort.partialIns ltE a b 5 a1 d from HFin.out _ _ HDd.out (by rw [if_pos HEu.out]; exact HEq.out))
                have wt := WT.out
                (try go_wp2)
                go_roundw
                case rel => exact ⟨i, t1, du, by first | rfl | rw [wt], by first | rfl | rw [wt], Lib.hid ⟨HI.out.1, HI.out.2.1, HT.out.2, HSq.out, HNx.out⟩⟩
                case measure =>
                  (try rw [wt])
                  show 5 - ((t1 : Int)).toNat < 5 - ((t : Int)).toNat
                  rw [Int.toNat_natCast, Int.toNat_natCast]
                  exact HT.out.1
            · have d5 : decide ((2 : Int) ≤ (l2 : Int)) = false := decide_eq_false (by have := HL2.out; omega)
              have d5b : decide (2 ≤ l2) = false := decide_eq_false (by have := HL2.out; omega)
              have HEu := Lib.hid hu
              clear hu
              have wl2 := WL2.out
              go_wp2_with (first | (go_at_call 58; (with_reducible refine (HLe.out _ HSp.out).mono ?_); rintro e w9 ⟨rfl, hs⟩; have HZ0 := Lib.hid hs; clear hs) | (go_at_call 59; (with_reducible refine (HSw.out _ HZ0.out).mono ?_); rintro e w11 ⟨rfl, hs⟩; have HZ1 := Lib.hid hs; clear hs))
              have HNx := Lib.hid (show Sort.partialIns ltE a b (5 - t1) i dk1 = Sort.partialIns ltE a b 5 a1 d from HFin.out _ _ HDd.out (by rw [if_neg HEu.out]))
              have wt := WT.out
              (try go_wp2)
              go_roundw
              case rel => exact ⟨i, t1, dk1, by first | rfl | rw [wt], by first | rfl | rw [wt], Lib.hid ⟨HI.out.1, HI.out.2.1, HT.out.2, HZ1.out, HNx.out⟩⟩
              case measure =>
                (try rw [wt])
                show 5 - ((t1 : Int)).toNat < 5 - ((t : Int)).toNat
                rw [Int.toNat_natCast, Int.toNat_natCast]
                exact HT.out.1
    · have d1 : decide ((i : Int) < (b : Int)) = false := decide_eq_false (by omega)
      have d2 : decide (i < b) = false := decide_eq_false hib
      have hie : i = b := by have := HP.out.2.2.1; omega
      have HE := Lib.hid (show Sort.partialInsertionSort ltE d a b = (dk, true) by
        have hsc : Sort.scanSorted ltE dk b i0 = i := by rw [← HP.out.2.2.2.2]; rw [hi] at hib ⊢; exact ss_stop dk b p (Or.inl hib)
        rw [HPI.out, ← HR.out.2.2.2.2, HT5.out, Sort.partialIns]
        simp only [hsc]
        rw [if_pos hie])
      have e1 : decide ((i : Int) = (b : Int)) = true := decide_eq_true (by omega)
      have e2 : decide (i = b) = true := decide_eq_true hie
      have e3 : ((i : Int) == (b : Int)) = true := beq_iff_eq.mpr (by omega)
      clear hib hi hie
      go_wp2
      go_ret
      rw [HE.out]
      exact ⟨rfl, HSp.out⟩
  · have c1 : decide ((t : Int) < (5 : Int)) = false := decide_eq_false (by omega)
    have c2 : decide (t < 5) = false := decide_eq_false ht
    have HE := Lib.hid (show Sort.partialInsertionSort ltE d a b = (dk, false) by rw [HPI.out, ← HR.out.2.2.2.2, show 5 - t = 0 by omega, Sort.partialIns])
    have HSe := Lib.hid HR.out.2.2.2.1
    clear ht
    go_wp2
    go_ret
    rw [HE.out]
    exact ⟨rfl, HSe.out⟩
end Go.Proofs.YtlbamdlegloieaaDoor
