/- medianAdjacent and choosePivot, walked. -/
import Derived.Test.YtlbamdlegloieaaDoorExtPivot
set_option linter.unusedVariables false
set_option linter.unusedSimpArgs false
namespace Go.Proofs.YtlbamdlegloieaaDoor
open Go Go.RowKit Go.Proofs.YtlbamdlegloieaaDoorW.PrintWords Go.Proofs.YtlbamdlegloieaaDoorW.PrintLast
theorem median_lt (d : Array El) (a b c s : Nat) (ha : a < 64) (hb : b < 64) (hc : c < 64) : (Sort.median ltE d a b c s).1 < 64 ∧ (Sort.median ltE d a b c s).2 ≤ s + 3 := by
  obtain ⟨m1, m2, m3⟩ := order2_lt d a b s ha hb
  obtain ⟨n1, n2, n3⟩ := order2_lt d _ c (Sort.order2 ltE d a b s).2.2 m2 hc
  obtain ⟨k1, k2, k3⟩ := order2_lt d _ _ (Sort.order2 ltE d (Sort.order2 ltE d a b s).2.1 c (Sort.order2 ltE d a b s).2.2).2.2 m1 n1
  unfold Sort.median
  exact ⟨k2, Nat.le_trans k3 (Nat.succ_le_succ (Nat.le_trans n3 (Nat.succ_le_succ m3)))⟩
set_option maxHeartbeats 4000000 in
set_option maxRecDepth 100000 in
theorem MedianAdj.calls (w0 w : World) (g gs s : Nat) (d : Array El) (a : Nat) (ha : 1 ≤ a) (ha2 : a + 1 < 64) (hs : s < 900) (h : SW w0 g d gs s w) :
    Calls Tryd.prog 36 #[.iface 45 (.slice (some ⟨g, 0, none⟩) 64 64), .int .i64 (a : Int), .pointer (some ⟨gs, 0, none⟩)] w fun e w' =>
      e = .returned (.int .i64 ((Sort.medianAdjacent ltE d a s).1 : Int)) ∧ SW w0 g d gs (Sort.medianAdjacent ltE d a s).2 w' := by
  obtain ⟨m, hm⟩ : ∃ m, m = a - 1 := ⟨_, rfl⟩
  obtain ⟨p, hp⟩ : ∃ p, p = a + 1 := ⟨_, rfl⟩
  have HM := Lib.hid (Median.calls w0 w g gs s d m a p (by omega) (by omega) (by omega) hs h)
  have W1 := Lib.hid (show wrap64 ((a : Int) - 1) = (m : Int) by rw [i64 _ (by omega) (by omega)]; omega)
  have W2 := Lib.hid (show wrap64 ((a : Int) + 1) = (p : Int) by rw [i64 _ (by omega) (by omega)]; omega)
  unfold Sort.medianAdjacent
  rw [← hm, ← hp]
  clear h ha ha2 hs hm hp
  generalize Sort.median ltE d m a p s = r at *
  have w1 := W1.out
  have w2 := W2.out
  go_enter Tryd.func36, Tryd.ntmps36
  go_wp2_with (first | (go_at_call 37; (with_reducible refine HM.out.mono ?_); rintro e w9 ⟨rfl, hb⟩; have HW1 := Lib.hid hb; clear hb))
  go_ret
  exact ⟨rfl, HW1.out⟩
theorem madj_lt (d : Array El) (a s : Nat) (ha : 1 ≤ a) (ha2 : a + 1 < 64) : (Sort.medianAdjacent ltE d a s).1 < 64 ∧ (Sort.medianAdjacent ltE d a s).2 ≤ s + 3 := by
  unfold Sort.medianAdjacent
  exact median_lt d (a - 1) a (a + 1) s (by omega) (by omega) (by omega)
def hintV : Sort.Hint → Int
  | .unknown => 0
  | .increasing => 1
  | .decreasing => 2
set_option maxHeartbeats 8000000 in
set_option maxRecDepth 100000 in
theorem Pivot.calls (w0 w : World) (g : Nat) (d : Array El) (a b : Nat) (hab : a + 8 ≤ b) (hb : b ≤ 64) (h : SS w0 g d w) :
    Calls Tryd.prog 28 #[.iface 45 (.slice (some ⟨g, 0, none⟩) 64 64), .int .i64 (a : Int), .int .i64 (b : Int)] w fun e w' =>
      e = .returned (.tuple #[.int .i64 ((Sort.choosePivot ltE d a b).1 : Int), .int .i64 (hintV (Sort.choosePivot ltE d a b).2)]) ∧ SS w0 g d w' := by
  obtain ⟨l, hl⟩ : ∃ l, l = b - a := ⟨_, rfl⟩
  obtain ⟨q, hq⟩ : ∃ q, q = l / 4 := ⟨_, rfl⟩
  obtain ⟨q2, hq2⟩ : ∃ q2, q2 = q * 2 := ⟨_, rfl⟩
  obtain ⟨q3, hq3⟩ : ∃ q3, q3 = q * 3 := ⟨_, rfl⟩
  obtain ⟨i, hi⟩ : ∃ i, i = a + q := ⟨_, rfl⟩
  obtain ⟨j, hj⟩ : ∃ j, j = a + q2 := ⟨_, rfl⟩
  obtain ⟨k, hk⟩ : ∃ k, k = a + q3 := ⟨_, rfl⟩
  have hl8 : 8 ≤ l := by omega
  have hi64 : 1 ≤ i ∧ i + 1 < 64 := by omega
  have hj64 : 1 ≤ j ∧ j + 1 < 64 := by omega
  have hk64 : 1 ≤ k ∧ k + 1 < 64 := by omega
  have W1 := Lib.hid (show wrap64 ((b : Int) - (a : Int)) = (l : Int) by rw [i64 _ (by omega) (by omega)]; omega)
  have W2 := Lib.hid (show Int.tdiv (l : Int) 4 = (q : Int) by rw [Int.tdiv_eq_ediv_of_nonneg (by omega)]; omega)
  have W3 := Lib.hid (show wrap64 (q : Int) = (q : Int) by rw [i64 _ (by omega) (by omega)])
  have W4 := Lib.hid (show wrap64 ((q : Int) * 2) = (q2 : Int) by rw [i64 _ (by omega) (by omega)]; omega)
  have W5 := Lib.hid (show wrap64 ((q : Int) * 3) = (q3 : Int) by rw [i64 _ (by omega) (by omega)]; omega)
  have W6 := Lib.hid (show wrap64 ((a : Int) + (q : Int)) = (i : Int) by rw [i64 _ (by omega) (by omega)]; omega)
  have W7 := Lib.hid (show wrap64 ((a : Int) + (q2 : Int)) = (j : Int) by rw [i64 _ (by omega) (by omega)]; omega)
  have W8 := Lib.hid (show wrap64 ((a : Int) + (q3 : Int)) = (k : Int) by rw [i64 _ (by omega) (by omega)]; omega)
  have d1 : decide ((8 : Int) ≤ (l : Int)) = true := decide_eq_true (by omega)
  have d2 : decide (8 ≤ l) = true := decide_eq_true hl8
  have HS := Lib.hid h
  -- the median, in either way
  obtain ⟨r, hr⟩ : ∃ r : Nat × Nat, r = if l ≥ 50 then Sort.median ltE d (Sort.medianAdjacent ltE d i 0).1 (Sort.medianAdjacent ltE d j (Sort.medianAdjacent ltE d i 0).2).1 (Sort.medianAdjacent ltE d k (Sort.medianAdjacent ltE d j (Sort.medianAdjacent ltE d i 0).2).2).1 (Sort.medianAdjacent ltE d k (Sort.medianAdjacent ltE d j (Sort.medianAdjacent ltE d i 0).2).2).2 else Sort.median ltE d i j k 0 := ⟨_, rfl⟩
  have hcp : Sort.choosePivot ltE d a b = (r.1, if r.2 = 0 then .increasing else if r.2 = 12 then .decreasing else .unknown) := by
    unfold Sort.choosePivot
    simp only [← hl, ← hq]
    rw [show a + q * 1 = i from by omega, show a + q * 2 = j from by omega, show a + q * 3 = k from by omega, if_pos hl8, hr]
  rw [hcp]
  clear hcp
  obtain ⟨r1, s⟩ := r
  have hcase : (s = 0 ∧ ((s : Int) == 0) = true ∧ (if s = 0 then Sort.Hint.increasing else if s = 12 then .decreasing else .unknown) = .increasing) ∨ (((s : Int) == 0) = false ∧ ((s : Int) == 12) = true ∧ (if s = 0 then Sort.Hint.increasing else if s = 12 then .decreasing else .unknown) = .decreasing) ∨ (((s : Int) == 0) = false ∧ ((s : Int) == 12) = false ∧ (if s = 0 then Sort.Hint.increasing else if s = 12 then .decreasing else .unknown) = .unknown) := by
    by_cases s0 : s = 0
    · exact Or.inl ⟨s0, beq_iff_eq.2 (by omega), if_pos s0⟩
    · by_cases s12 : s = 12
      · exact Or.inr (Or.inl ⟨beq_eq_false_iff_ne.2 (by omega), beq_iff_eq.2 (by omega), by rw [if_neg s0, if_pos s12]⟩)
      · exact Or.inr (Or.inr ⟨beq_eq_false_iff_ne.2 (by omega), beq_eq_false_iff_ne.2 (by omega), by rw [if_neg s0, if_neg s12]⟩)
  by_cases h50 : 50 ≤ l
  · rw [if_pos h50] at hr
    have d3 : decide ((50 : Int) ≤ (l : Int)) = true := decide_eq_true (by omega)
    have d4 : decide (50 ≤ l) = true := decide_eq_true h50
    obtain ⟨m1, n1⟩ := madj_lt d i 0 hi64.1 hi64.2
    have A1 := fun wz gs (hz : SW w0 g d gs 0 wz) => MedianAdj.calls w0 wz g gs 0 d i hi64.1 hi64.2 (by omega) hz
    generalize Sort.medianAdjacent ltE d i 0 = ri at *
    obtain ⟨x1, s1⟩ := ri
    simp only at hr m1 n1 A1
    obtain ⟨m2, n2⟩ := madj_lt d j s1 hj64.1 hj64.2
    have A2 := fun wz gs (hz : SW w0 g d gs s1 wz) => MedianAdj.calls w0 wz g gs s1 d j hj64.1 hj64.2 (by omega) hz
    generalize Sort.medianAdjacent ltE d j s1 = rj at *
    obtain ⟨x2, s2⟩ := rj
    simp only at hr m2 n2 A2
    obtain ⟨m3, n3⟩ := madj_lt d k s2 hk64.1 hk64.2
    have A3 := fun wz gs (hz : SW w0 g d gs s2 wz) => MedianAdj.calls w0 wz g gs s2 d k hk64.1 hk64.2 (by omega) hz
    generalize Sort.medianAdjacent ltE d k s2 = rk at *
    obtain ⟨x3, s3⟩ := rk
    simp only at hr m3 n3 A3
    have A4 := fun wz gs (hz : SW w0 g d gs s3 wz) => Median.calls w0 wz g gs s3 d x1 x2 x3 m1 m2 m3 (by omega) hz
    rw [← hr] at A4
    have B1 := Lib.hid A1
    have B2 := Lib.hid A2
    have B3 := Lib.hid A3
    have B4 := Lib.hid A4
    clear A1 A2 A3 A4 hr m1 m2 m3 n1 n2 n3 hi64 hj64 hk64 hl hq hq2 hq3 hi hj hk hl8 h hab hb h50
    rcases hcase with ⟨hs0, e0, eh⟩ | ⟨e0, e12, eh⟩ | ⟨e0, e12, eh⟩
    all_goals
      simp only
      rw [eh]
      clear eh
      have w1 := W1.out
      have w2 := W2.out
      have w3 := W3.out
      have w4 := W4.out
      have w5 := W5.out
      have w6 := W6.out
      have w7 := W7.out
      have w8 := W8.out
      go_enter Tryd.func28, Tryd.ntmps28
      go_wp2_with (first | ((with_reducible refine gate_dst (N := 9) rfl ?_); refine box_event ?hg (N := 9) ?hd (cs := #[.int .i64 0]) (t := 3) ?hr ?_; (case hd => rfl); (case hg => rfl); (case hr => first | (go_simp; done) | (go_simp; rfl)); intro gs hg w7 hbox hb; have HW0 := Lib.hid (show SW w0 g d gs 0 w7 from ⟨HS.out.keep hb, hbox, by rw [hg]; exact HS.out.2.2.2⟩); clear hg hbox hb) | (go_at_call 36; first | ((with_reducible refine (B1.out _ _ HW0.out).mono ?_); rintro e w9 ⟨rfl, hb⟩; have HW1 := Lib.hid hb; clear hb) | ((with_reducible refine (B2.out _ _ HW1.out).mono ?_); rintro e w9 ⟨rfl, hb⟩; have HW2 := Lib.hid hb; clear hb) | ((with_reducible refine (B3.out _ _ HW2.out).mono ?_); rintro e w9 ⟨rfl, hb⟩; have HW3 := Lib.hid hb; clear hb)) | (go_at_call 37; (with_reducible refine (B4.out _ _ HW3.out).mono ?_); rintro e w9 ⟨rfl, hb⟩; have HW4 := Lib.hid hb; clear hb; have z0 := (blk_cell HW4.out.2.1 0).trans rfl))
      exact bodyPost_ret (results_tmp2 rfl _ _ _) rfl ⟨rfl, HW4.out.1⟩
  · rw [if_neg h50] at hr
    have d3 : decide ((50 : Int) ≤ (l : Int)) = false := decide_eq_false (by omega)
    have d4 : decide (50 ≤ l) = false := decide_eq_false h50
    have A4 := fun wz gs (hz : SW w0 g d gs 0 wz) => Median.calls w0 wz g gs 0 d i j k (by omega) (by omega) (by omega) (by omega) hz
    rw [← hr] at A4
    have B4 := Lib.hid A4
    clear A4 hr hi64 hj64 hk64 hl hq hq2 hq3 hi hj hk hl8 h hab hb h50
    rcases hcase with ⟨hs0, e0, eh⟩ | ⟨e0, e12, eh⟩ | ⟨e0, e12, eh⟩
    all_goals
      simp only
      rw [eh]
      clear eh
      have w1 := W1.out
      have w2 := W2.out
      have w3 := W3.out
      have w4 := W4.out
      have w5 := W5.out
      have w6 := W6.out
      have w7 := W7.out
      have w8 := W8.out
      go_enter Tryd.func28, Tryd.ntmps28
      go_wp2_with (first | ((with_reducible refine gate_dst (N := 9) rfl ?_); refine box_event ?hg (N := 9) ?hd (cs := #[.int .i64 0]) (t := 3) ?hr ?_; (case hd => rfl); (case hg => rfl); (case hr => first | (go_simp; done) | (go_simp; rfl)); intro gs hg w7 hbox hb; have HW0 := Lib.hid (show SW w0 g d gs 0 w7 from ⟨HS.out.keep hb, hbox, by rw [hg]; exact HS.out.2.2.2⟩); clear hg hbox hb) | (go_at_call 37; (with_reducible refine (B4.out _ _ HW0.out).mono ?_); rintro e w9 ⟨rfl, hb⟩; have HW4 := Lib.hid hb; clear hb; have z0 := (blk_cell HW4.out.2.1 0).trans rfl))
      exact bodyPost_ret (results_tmp2 rfl _ _ _) rfl ⟨rfl, HW4.out.1⟩
end Go.Proofs.YtlbamdlegloieaaDoor
