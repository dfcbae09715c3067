/- The library's heap sort and the turning of a range, over the array, walked. -/
import Derived.Test.YtlbamdlegloieaaDoorExtIns
set_option linter.unusedVariables false
set_option linter.unusedSimpArgs false
namespace Go.Proofs.YtlbamdlegloieaaDoor
open Go Go.RowKit Go.Proofs.YtlbamdlegloieaaDoorW.PrintWords Go.Proofs.YtlbamdlegloieaaDoorW.PrintLast
theorem sift_end (hi first root : Nat) (d : Array El) (h : hi ≤ 2 * root + 1) : Sort.siftDown ltE hi first root d = d := by rw [Sort.siftDown, dif_pos h]
theorem sift_two (hi first root : Nat) (d : Array El) (h : 2 * root + 2 < hi) (hl : ltE d[first + (2 * root + 1)]! d[first + (2 * root + 1) + 1]! = true) :
    Sort.siftDown ltE hi first root d = if ltE d[first + root]! d[first + (2 * root + 2)]! = true then Sort.siftDown ltE hi first (2 * root + 2) (Sort.swp d (first + root) (first + (2 * root + 2))) else d := by
  rw [Sort.siftDown, dif_neg (by omega), if_pos (by rw [hl, decide_eq_true (show 2 * root + 1 + 1 < hi by omega)]; rfl)]
  by_cases h2 : ltE d[first + root]! d[first + (2 * root + 2)]! = true
  · rw [if_pos h2, if_neg (by rw [h2]; simp), dif_pos h]
  · rw [if_neg h2, if_pos (by rw [Bool.eq_false_iff.2 h2]; rfl)]
theorem sift_one (hi first root : Nat) (d : Array El) (h : 2 * root + 1 < hi) (hl : ¬ (2 * root + 2 < hi ∧ ltE d[first + (2 * root + 1)]! d[first + (2 * root + 1) + 1]! = true)) :
    Sort.siftDown ltE hi first root d = if ltE d[first + root]! d[first + (2 * root + 1)]! = true then Sort.siftDown ltE hi first (2 * root + 1) (Sort.swp d (first + root) (first + (2 * root + 1))) else d := by
  rw [Sort.siftDown, dif_neg (by omega), if_neg (by
    intro hc
    rw [Bool.and_eq_true, decide_eq_true_eq] at hc
    exact hl ⟨by omega, hc.2⟩)]
  by_cases h2 : ltE d[first + root]! d[first + (2 * root + 1)]! = true
  · rw [if_pos h2, if_neg (by rw [h2]; simp)]
  · rw [if_neg h2, if_pos (by rw [Bool.eq_false_iff.2 h2]; rfl)]
set_option maxHeartbeats 8000000 in
set_option maxRecDepth 100000 in
theorem Sift.calls (w0 w : World) (g : Nat) (d : Array El) (lo hi first : Nat) (hlo : lo ≤ 64) (hf : first + hi ≤ 64) (h : SS w0 g d w) :
    Calls Tryd.prog 33 #[.iface 45 (.slice (some ⟨g, 0, none⟩) 64 64), .int .i64 (lo : Int), .int .i64 (hi : Int), .int .i64 (first : Int)] w fun e w' => e = .returned (.tuple #[]) ∧ SS w0 g (Sort.siftDown ltE hi first lo d) w' := by
  have HS := Lib.hid h
  have HF := Lib.hid hf
  have HLO := Lib.hid hlo
  clear h hf hlo
  go_enter Tryd.func33, Tryd.ntmps33
  go_wp2
  go_loopw [8, 9] (fun v8 v9 wr => ∃ (root : Nat) (dr : Array El), v8 = .int .i64 (root : Int) ∧ Hid (root ≤ 64 ∧ SS w0 g dr wr ∧ Sort.siftDown ltE hi first root dr = Sort.siftDown ltE hi first lo d)) (fun v8 _ _ => 64 - (intOf v8).toNat)
  case atStart => exact ⟨lo, d, rfl, Lib.hid ⟨HLO.out, HS.out, rfl⟩⟩
  obtain ⟨root, dr, rfl, HR⟩ := hrel
  have hR := HR.out.1
  have hF := HF.out
  obtain ⟨t2, ht2⟩ : ∃ t2, t2 = 2 * root := ⟨_, rfl⟩
  obtain ⟨c, hc⟩ : ∃ c, c = 2 * root + 1 := ⟨_, rfl⟩
  have W1 := Lib.hid (show wrap64 (2 * (root : Int)) = (t2 : Int) by rw [i64 _ (by omega) (by omega)]; omega)
  have W2 := Lib.hid (show wrap64 ((t2 : Int) + 1) = (c : Int) by rw [i64 _ (by omega) (by omega)]; omega)
  by_cases hce : hi ≤ c
  · have d1 : decide ((hi : Int) ≤ (c : Int)) = true := decide_eq_true (by omega)
    have d2 : decide (hi ≤ c) = true := decide_eq_true hce
    have HE := Lib.hid (show dr = Sort.siftDown ltE hi first lo d by rw [← HR.out.2.2, sift_end _ _ _ _ (by omega)])
    have HS9 := Lib.hid HR.out.2.1
    clear hce hc ht2 hR hF
    have w1 := W1.out
    have w2 := W2.out
    go_wp2
    refine bodyPost_end (results_none rfl _ _ _) rfl ⟨rfl, ?_⟩
    rw [← HE.out]
    exact HS9.out
  · have d1 : decide ((hi : Int) ≤ (c : Int)) = false := decide_eq_false (by omega)
    have d2 : decide (hi ≤ c) = false := decide_eq_false hce
    obtain ⟨c1, hc1⟩ : ∃ c1, c1 = c + 1 := ⟨_, rfl⟩
    obtain ⟨fc, hfc⟩ : ∃ fc, fc = first + c := ⟨_, rfl⟩
    obtain ⟨fc1, hfc1⟩ : ∃ fc1, fc1 = first + c1 := ⟨_, rfl⟩
    obtain ⟨fr, hfr⟩ : ∃ fr, fr = first + root := ⟨_, rfl⟩
    have W3 := Lib.hid (show wrap64 ((c : Int) + 1) = (c1 : Int) by rw [i64 _ (by omega) (by omega)]; omega)
    have W4 := Lib.hid (show wrap64 ((first : Int) + (c : Int)) = (fc : Int) by rw [i64 _ (by omega) (by omega)]; omega)
    have W5 := Lib.hid (show wrap64 ((fc : Int) + 1) = (fc1 : Int) by rw [i64 _ (by omega) (by omega)]; omega)
    have W6 := Lib.hid (show wrap64 ((first : Int) + (c1 : Int)) = (fc1 : Int) by rw [i64 _ (by omega) (by omega)]; omega)
    have W7 := Lib.hid (show wrap64 ((first : Int) + (root : Int)) = (fr : Int) by rw [i64 _ (by omega) (by omega)]; omega)
    have hfr64 : fr < 64 := by omega
    have hfc64 : fc < 64 := by omega
    have ef1 : fc = first + (2 * root + 1) := by omega
    have ef2 : fc1 = first + (2 * root + 2) := by omega
    have ef3 : fc1 = first + (2 * root + 1) + 1 := by omega
    have HS9 := Lib.hid HR.out.2.1
    have HRR := Lib.hid HR.out.2.2
    clear HR
    by_cases hc1h : c1 < hi
    · have d3 : decide ((c1 : Int) < (hi : Int)) = true := decide_eq_true (by omega)
      have d4 : decide (c1 < hi) = true := decide_eq_true hc1h
      have HL1 := Lib.hid (fun wz (hz : SS w0 g dr wz) => Less.calls w0 wz g dr fc fc1 hfc64 (by omega) hz)
      cases hL1 : ltE dr[fc]! dr[fc1]! with
      | true =>
        rw [hL1] at HL1
        have hchr : c1 = 2 * root + 2 := by omega
        have hch64 : fc1 < 64 := by omega
        have HL2 := Lib.hid (fun wz (hz : SS w0 g dr wz) => Less.calls w0 wz g dr fr fc1 hfr64 hch64 hz)
        have HSW := Lib.hid (fun wz (hz : SS w0 g dr wz) => Swap.calls w0 wz g dr fr fc1 hfr64 hch64 hz)
        have hstep := sift_two hi first root dr (by omega) (by rw [← ef3, ← ef1]; exact hL1)
        rw [← hfr, ← ef2, ← hchr] at hstep
        cases hL2 : ltE dr[fr]! dr[fc1]! with
        | true =>
          rw [hL2, if_pos rfl] at hstep
          rw [hL2] at HL2
          have HN := Lib.hid (show Sort.siftDown ltE hi first c1 (Sort.swp dr fr fc1) = Sort.siftDown ltE hi first lo d by rw [← HRR.out, hstep])
          have HM := Lib.hid (show c1 ≤ 64 ∧ 64 - c1 < 64 - root by omega)
          clear hstep hL2 hchr hch64 hce hc ht2 hR hF hc1 hfc hfc1 hfr hfr64 hfc64 ef1 ef2 ef3 hL1 hc1h
          have w1 := W1.out
          have w2 := W2.out
          have w3 := W3.out
          have w4 := W4.out
          have w5 := W5.out
          have w6 := W6.out
          have w7 := W7.out
          go_wp2_with (first | (go_at_call 59; (with_reducible refine (HSW.out _ HZ1.out).mono ?_); rintro e w10 ⟨rfl, hs⟩; have HZ2 := Lib.hid hs; clear hs) | (go_at_call 58; first | ((with_reducible refine (HL1.out _ HS9.out).mono ?_); rintro e w9 ⟨rfl, hs⟩; have HZ0 := Lib.hid hs; clear hs) | ((with_reducible refine (HL2.out _ HZ0.out).mono ?_); rintro e w9 ⟨rfl, hs⟩; have HZ1 := Lib.hid hs; clear hs)))
          refine ⟨⟨c1, Sort.swp dr fr fc1, rfl, Lib.hid ⟨HM.out.1, HZ2.out, HN.out⟩⟩, ?_⟩
          show 64 - ((c1 : Int)).toNat < 64 - ((root : Int)).toNat
          rw [Int.toNat_natCast, Int.toNat_natCast]
          exact HM.out.2
        | false =>
          rw [hL2, if_neg (by simp)] at hstep
          rw [hL2] at HL2
          have HN := Lib.hid (show dr = Sort.siftDown ltE hi first lo d by rw [← HRR.out, hstep])
          clear hstep hL2 hchr hch64 hce hc ht2 hR hF hc1 hfc hfc1 hfr hfr64 hfc64 ef1 ef2 ef3 hL1 hc1h HSW
          have w1 := W1.out
          have w2 := W2.out
          have w3 := W3.out
          have w4 := W4.out
          have w5 := W5.out
          have w6 := W6.out
          have w7 := W7.out
          go_wp2_with (first | (go_at_call 59; (with_reducible refine (HSW.out _ HZ1.out).mono ?_); rintro e w10 ⟨rfl, hs⟩; have HZ2 := Lib.hid hs; clear hs) | (go_at_call 58; first | ((with_reducible refine (HL1.out _ HS9.out).mono ?_); rintro e w9 ⟨rfl, hs⟩; have HZ0 := Lib.hid hs; clear hs) | ((with_reducible refine (HL2.out _ HZ0.out).mono ?_); rintro e w9 ⟨rfl, hs⟩; have HZ1 := Lib.hid hs; clear hs)))
          refine bodyPost_ret (results_none rfl _ _ _) rfl ⟨rfl, ?_⟩
          rw [← HN.out]
          exact HZ1.out
      | false =>
        rw [hL1] at HL1
        have hchr : c = 2 * root + 1 := by omega
        have hch64 : fc < 64 := by omega
        have HL2 := Lib.hid (fun wz (hz : SS w0 g dr wz) => Less.calls w0 wz g dr fr fc hfr64 hch64 hz)
        have HSW := Lib.hid (fun wz (hz : SS w0 g dr wz) => Swap.calls w0 wz g dr fr fc hfr64 hch64 hz)
        have hstep := sift_one hi first root dr (by omega) (by rw [← ef3, ← ef1, hL1]; simp)
        rw [← hfr, ← ef1, ← hchr] at hstep
        cases hL2 : ltE dr[fr]! dr[fc]! with
        | true =>
          rw [hL2, if_pos rfl] at hstep
          rw [hL2] at HL2
          have HN := Lib.hid (show Sort.siftDown ltE hi first c (Sort.swp dr fr fc) = Sort.siftDown ltE hi first lo d by rw [← HRR.out, hstep])
          have HM := Lib.hid (show c ≤ 64 ∧ 64 - c < 64 - root by omega)
          clear hstep hL2 hchr hch64 hce hc ht2 hR hF hc1 hfc hfc1 hfr hfr64 hfc64 ef1 ef2 ef3 hL1 hc1h
          have w1 := W1.out
          have w2 := W2.out
          have w3 := W3.out
          have w4 := W4.out
          have w5 := W5.out
          have w6 := W6.out
          have w7 := W7.out
          go_wp2_with (first | (go_at_call 59; (with_reducible refine (HSW.out _ HZ1.out).mono ?_); rintro e w10 ⟨rfl, hs⟩; have HZ2 := Lib.hid hs; clear hs) | (go_at_call 58; first | ((with_reducible refine (HL1.out _ HS9.out).mono ?_); rintro e w9 ⟨rfl, hs⟩; have HZ0 := Lib.hid hs; clear hs) | ((with_reducible refine (HL2.out _ HZ0.out).mono ?_); rintro e w9 ⟨rfl, hs⟩; have HZ1 := Lib.hid hs; clear hs)))
          refine ⟨⟨c, Sort.swp dr fr fc, rfl, Lib.hid ⟨HM.out.1, HZ2.out, HN.out⟩⟩, ?_⟩
          show 64 - ((c : Int)).toNat < 64 - ((root : Int)).toNat
          rw [Int.toNat_natCast, Int.toNat_natCast]
          exact HM.out.2
        | false =>
          rw [hL2, if_neg (by simp)] at hstep
          rw [hL2] at HL2
          have HN := Lib.hid (show dr = Sort.siftDown ltE hi first lo d by rw [← HRR.out, hstep])
          clear hstep hL2 hchr hch64 hce hc ht2 hR hF hc1 hfc hfc1 hfr hfr64 hfc64 ef1 ef2 ef3 hL1 hc1h HSW
          have w1 := W1.out
          have w2 := W2.out
          have w3 := W3.out
          have w4 := W4.out
          have w5 := W5.out
          have w6 := W6.out
          have w7 := W7.out
          go_wp2_with (first | (go_at_call 59; (with_reducible refine (HSW.out _ HZ1.out).mono ?_); rintro e w10 ⟨rfl, hs⟩; have HZ2 := Lib.hid hs; clear hs) | (go_at_call 58; first | ((with_reducible refine (HL1.out _ HS9.out).mono ?_); rintro e w9 ⟨rfl, hs⟩; have HZ0 := Lib.hid hs; clear hs) | ((with_reducible refine (HL2.out _ HZ0.out).mono ?_); rintro e w9 ⟨rfl, hs⟩; have HZ1 := Lib.hid hs; clear hs)))
          refine bodyPost_ret (results_none rfl _ _ _) rfl ⟨rfl, ?_⟩
          rw [← HN.out]
          exact HZ1.out
    · have d3 : decide ((c1 : Int) < (hi : Int)) = false := decide_eq_false (by omega)
      have d4 : decide (c1 < hi) = false := decide_eq_false hc1h
      have hchr : c = 2 * root + 1 := by omega
      have hch64 : fc < 64 := by omega
      have HL2 := Lib.hid (fun wz (hz : SS w0 g dr wz) => Less.calls w0 wz g dr fr fc hfr64 hch64 hz)
      have HSW := Lib.hid (fun wz (hz : SS w0 g dr wz) => Swap.calls w0 wz g dr fr fc hfr64 hch64 hz)
      have hstep := sift_one hi first root dr (by omega) (fun hh => hc1h (by omega))
      rw [← hfr, ← ef1, ← hchr] at hstep
      cases hL2 : ltE dr[fr]! dr[fc]! with
      | true =>
        rw [hL2, if_pos rfl] at hstep
        rw [hL2] at HL2
        have HN := Lib.hid (show Sort.siftDown ltE hi first c (Sort.swp dr fr fc) = Sort.siftDown ltE hi first lo d by rw [← HRR.out, hstep])
        have HM := Lib.hid (show c ≤ 64 ∧ 64 - c < 64 - root by omega)
        clear hstep hL2 hchr hch64 hce hc ht2 hR hF hc1 hfc hfc1 hfr hfr64 hfc64 ef1 ef2 ef3 hc1h
        have w1 := W1.out
        have w2 := W2.out
        have w3 := W3.out
        have w4 := W4.out
        have w5 := W5.out
        have w6 := W6.out
        have w7 := W7.out
        go_wp2_with (first | (go_at_call 59; (with_reducible refine (HSW.out _ HZ1.out).mono ?_); rintro e w10 ⟨rfl, hs⟩; have HZ2 := Lib.hid hs; clear hs) | (go_at_call 58; first | ((with_reducible refine (HL2.out _ HS9.out).mono ?_); rintro e w9 ⟨rfl, hs⟩; have HZ1 := Lib.hid hs; clear hs)))
        refine ⟨⟨c, Sort.swp dr fr fc, rfl, Lib.hid ⟨HM.out.1, HZ2.out, HN.out⟩⟩, ?_⟩
        show 64 - ((c : Int)).toNat < 64 - ((root : Int)).toNat
        rw [Int.toNat_natCast, Int.toNat_natCast]
        exact HM.out.2
      | false =>
        rw [hL2, if_neg (by simp)] at hstep
        rw [hL2] at HL2
        have HN := Lib.hid (show dr = Sort.siftDown ltE hi first lo d by rw [← HRR.out, hstep])
        clear hstep hL2 hchr hch64 hce hc ht2 hR hF hc1 hfc hfc1 hfr hfr64 hfc64 ef1 ef2 ef3 hc1h HSW
        have w1 := W1.out
        have w2 := W2.out
        have w3 := W3.out
        have w4 := W4.out
        have w5 := W5.out
        have w6 := W6.out
        have w7 := W7.out
        go_wp2_with (first | (go_at_call 59; (with_reducible refine (HSW.out _ HZ1.out).mono ?_); rintro e w10 ⟨rfl, hs⟩; have HZ2 := Lib.hid hs; clear hs) | (go_at_call 58; first | ((with_reducible refine (HL2.out _ HS9.out).mono ?_); rintro e w9 ⟨rfl, hs⟩; have HZ1 := Lib.hid hs; clear hs)))
        refine bodyPost_ret (results_none rfl _ _ _) rfl ⟨rfl, ?_⟩
        rw [← HN.out]
        exact HZ1.out
end Go.Proofs.YtlbamdlegloieaaDoor
