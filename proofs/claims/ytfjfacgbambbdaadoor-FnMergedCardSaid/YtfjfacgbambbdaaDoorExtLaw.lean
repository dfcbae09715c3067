/- merged (the little example), walked; numbersBelow and zzFits1 told. -/
import Derived.Test.YtfjfacgbambbdaaDoorExtMerged
set_option linter.unusedVariables false
set_option linter.unusedSimpArgs false
namespace Go.Proofs.YtfjfacgbambbdaaDoor
open Go.RowKit Go.Proofs.YtfjfacgbambbdaaDoorW.PrintWords Go.Proofs.YtfjfacgbambbdaaDoorW.PrintLast Go.Proofs.YtfjfacgbambbdaaDoorW.PrintMore Go.Proofs.YtfjfacgbambbdaaDoor.PFnMerged
theorem C_of_heap {α : Type} {d : Kd α} {e g : Nat} {w : World} {xs : List α} {inner : List Value} (h : w.heap[g]? = some (.cells inner.toArray e (0, 0))) (hn : xs.length ≤ 1000) (hrep : Reps (d.M w 0 (fun k => True ∧ some k ≠ (Value.slice (some ⟨g, 0, none⟩) xs.length xs.length).ownBlock)) d.sz xs inner) : Kd.C d w (some ⟨g, 0, none⟩) xs.length xs := by
  have hR : d.R e w 0 (fun _ => True) (.slice (some ⟨g, 0, none⟩) xs.length xs.length) xs :=
    ⟨fun _ _ => trivial, inner, ⟨hrep.1, .inr ⟨g, xs.length, inner.toArray, rfl, Nat.zero_le _, h, Nat.le_refl _, by unfold maxLen; omega, by simpa using hrep.1, by rw [← hrep.1]; simp⟩⟩, hrep⟩
  exact (Kd.R_reads' hR).2.2
def exL : List S35 := [⟨⟨#[97]⟩, 0, 0, 0⟩, ⟨⟨#[98]⟩, 0, 0, 0⟩]
theorem ex_rep (w : World) (ok : Nat → Prop) : Reps (k35.M w 0 ok) k35.sz exL [.string ⟨#[97]⟩, .int .u32 0, .int .i64 0, .int .i64 0, .string ⟨#[98]⟩, .int .u32 0, .int .i64 0, .int .i64 0] := by
  refine ⟨rfl, fun j p hj => ?_⟩
  match j, hj with
  | 0, hj =>
    cases hj
    exact k35_mkM w 0 ok ⟨⟨#[97]⟩, 0, 0, 0⟩
  | 1, hj =>
    cases hj
    exact k35_mkM w 0 ok ⟨⟨#[98]⟩, 0, 0, 0⟩
  | j + 2, hj => simp [exL] at hj
theorem exP_rep (w : World) (ok : Nat → Prop) : Reps (kP.M w 0 ok) kP.sz [((0 : Int), (1 : Int))] [.int .i64 0, .int .i64 1] := by
  refine ⟨rfl, fun j p hj => ?_⟩
  match j, hj with
  | 0, hj =>
    cases hj
    rfl
  | j + 1, hj => simp at hj
theorem exA_rep (w : World) (ok : Nat → Prop) : Reps ((Kd.int .i64).M w 0 ok) (Kd.int .i64).sz [(0 : Int), 1] [.int .i64 0, .int .i64 1] := by
  refine ⟨rfl, fun j p hj => ?_⟩
  match j, hj with
  | 0, hj =>
    cases hj
    rfl
  | 1, hj =>
    cases hj
    rfl
  | j + 2, hj => simp at hj
set_option maxHeartbeats 4000000 in
set_option maxRecDepth 100000 in
theorem Example.calls (w : World) (hinv : Inv w) : Calls Tryd.prog 6 #[] w fun e w' => e = .returned (.bool true) ∧ Below w.heap.size w w' := by
  obtain ⟨hB, h1, h2, h3, hsz⟩ := alloc3' w (.cells #[.string ⟨#[97]⟩, .int .u32 0, .int .i64 0, .int .i64 0, .string ⟨#[98]⟩, .int .u32 0, .int .i64 0, .int .i64 0] 35 (0, 0)) (.cells #[.int .i64 0, .int .i64 1] 37 (0, 0)) (.cells #[.int .i64 0, .int .i64 1] 3 (0, 0))
  generalize hWW : World.alloc (World.alloc (World.alloc w _) _) _ = W at hB h1 h2 h3 hsz
  have HWW := Lib.hid hWW
  have HW := Lib.hid hB
  have HCall := Lib.hid (show Calls Tryd.prog 7 #[.slice (some ⟨w.heap.size, 0, none⟩) 2 2, .slice (some ⟨w.heap.size + 1, 0, none⟩) 1 1, .slice (some ⟨w.heap.size + 1 + 1, 0, none⟩) 2 2] W fun e w' => ∃ (A : Option Addr) (c : Nat) (V : Value), (Kd.C (Kd.int .i64) w' A 2 [1, 1] ∧ 2 ≤ c ∧ Below W.heap.size W w') ∧ e = .returned (.tuple #[.slice A 2 c, V]) from ImplMerged.calls (some ⟨w.heap.size, 0, none⟩) (some ⟨w.heap.size + 1, 0, none⟩) (some ⟨w.heap.size + 1 + 1, 0, none⟩) 2 1 2 exL [((0 : Int), (1 : Int))] [(0 : Int), 1] W (C_of_heap h1 (by decide) (ex_rep W _)) (by decide) (by decide) (C_of_heap h2 (by decide) (exP_rep W _)) (by decide) (C_of_heap h3 (by decide) (exA_rep W _)) (by decide)
    (fun i hi => by obtain rfl : i = 0 := by simp at hi; exact hi
                    decide) (fun i hi => by
      match i, hi with
      | 0, _ => decide
      | 1, _ => decide) (Inv.via (hB.block 0 (Inv.lt hinv)) hinv))
  clear hWW hB h1 h2 h3 hsz hinv
  go_enter Tryd.func6, Tryd.ntmps6
  go_wp2_with (first | (go_at_call 7; rw [HWW.out]; (with_reducible refine HCall.out.mono ?_); rintro e w2 ⟨A, c, V, hq, rfl⟩; have HQ := Lib.hid hq; clear hq; obtain ⟨ad, e1, x0⟩ := Kd.at_int HQ.out.1 0 (by decide) (by decide); cases e1; obtain ⟨ad2, e2, x1⟩ := Kd.at_int HQ.out.1 1 (by decide) (by decide); cases e2; have x0' : w2.cell? ad = some (.int .i64 1) := x0; have x1' : w2.cell? ⟨ad.block, ad.off + 1, none⟩ = some (.int .i64 1) := x1; clear x0 x1))
  go_ret
  exact ⟨rfl, HW.out.trans (HQ.out.2.2.mono HW.out.size)⟩
theorem nb_go (a : Int) (l : List Int) (hl : l.length ≤ 2147483647) : ∀ (m i : Nat), l.length = i + m → ∃ r, laws_numbersBelow.l0 (m + 1) a l (l.length : Int) (i : Int) = some r ∧ (r = true → ∀ j : Nat, i ≤ j → j < l.length → 0 ≤ rd l j ∧ rd l j < a) := by
  intro m
  induction m with
  | zero =>
    intro i hi
    exact ⟨true, by unfold laws_numbersBelow.l0; rw [if_neg (by omega)], fun _ j h1 h2 => by omega⟩
  | succ m ih =>
    intro i hi
    have ew : wrap64 ((i : Int) + 1) = ((i + 1 : Nat) : Int) := by unfold wrap64; omega
    obtain ⟨r, hr, hx⟩ := ih (i + 1) (by omega)
    unfold laws_numbersBelow.l0
    rw [if_pos (by omega), if_pos (by omega), if_pos (by omega), ew, hr]
    by_cases c1 : rd l i < 0
    · exact ⟨false, by rw [if_pos c1], fun h => by cases h⟩
    · by_cases c2 : rd l i ≥ a
      · exact ⟨false, by rw [if_neg c1, if_pos c2], fun h => by cases h⟩
      · refine ⟨r, by rw [if_neg c1, if_neg c2], fun h j h1 h2 => ?_⟩
        by_cases e : j = i
        · rw [e]; omega
        · exact hx h j (by omega) h2
theorem nb_calls (A0 : Option Addr) (c0 : Nat) (l : List Int) (a : Int) (hl : l.length ≤ 2147483647) (hc0 : l.length ≤ c0) :
    ∃ r : Bool, (∀ u : World, Kd.C (Kd.int .i64) u A0 l.length l → Calls Tryd.prog 5 #[.slice A0 l.length c0, .int .i64 a] u fun e w' => e = .returned (.bool r) ∧ Below u.heap.size u w') ∧ (r = true → ∀ j : Nat, j < l.length → 0 ≤ rd l j ∧ rd l j < a) := by
  obtain ⟨r, hr, hx⟩ := nb_go a l hl l.length 0 (by omega)
  refine ⟨r, fun u hu => (laws_numbersBelow.calls (l.length + 1) A0 c0 l a r u hu hc0 hr).mono ?_, fun h j hj => hx h j (Nat.zero_le _) hj⟩
  rintro e w' ⟨rfl, n, rfl⟩
  exact ⟨rfl, pw_below_drewN (Below.refl _ _) _⟩
theorem fits1_total (l : List S35) : ∃ k r, laws_zzFits1.f k l = some r := by
  by_cases hl : (l.length : Int) > 2147483647
  · exact ⟨0, false, by unfold laws_zzFits1.f; rw [if_pos hl]⟩
  · suffices h : ∀ (m i : Nat), l.length = i + m → ∃ r, laws_zzFits1.l0 (m + 1) l (l.length : Int) (i : Int) = some r by
      obtain ⟨r, hr⟩ := h l.length 0 (by omega)
      exact ⟨l.length + 1, r, by unfold laws_zzFits1.f; rw [if_neg hl]; exact hr⟩
    intro m
    induction m with
    | zero =>
      intro i hi
      exact ⟨true, by unfold laws_zzFits1.l0; rw [if_neg (by omega)]⟩
    | succ m ih =>
      intro i hi
      have ew : wrap64 ((i : Int) + 1) = ((i + 1 : Nat) : Int) := by unfold wrap64; omega
      obtain ⟨r, hr⟩ := ih (i + 1) (by omega)
      unfold laws_zzFits1.l0
      rw [if_pos (by omega), if_pos (by omega), if_pos (by omega), ew, hr]
      unfold laws_zzFits2.f
      split
      · exact ⟨false, rfl⟩
      · exact ⟨r, rfl⟩
theorem rdP_pairs (l : List Int) (k i : Nat) (h : i < k) : rdP (pairsN l k) i = (rd l ((2 * i : Nat) : Int), rd l ((2 * i + 1 : Nat) : Int)) := by
  unfold rdP pairsN
  rw [Int.toNat_natCast, List.getD_eq_getElem?_getD, List.getElem?_map, List.getElem?_eq_getElem (by rw [List.length_range]; exact h)]
  simp
theorem rd_map_int (l : List Int) (f : Int → Int) (x : Nat) (h : x < l.length) : rd (l.map f) x = f (rd l x) := rd_map l f x h
set_option maxHeartbeats 4000000 in
set_option maxRecDepth 100000 in
theorem Law.calls (A0 A1 A2 : Option Addr) (c0 c1 c2 : Nat) (l0 : List S35) (l1 l2 : List Int) (w : World) (hr0 : Kd.C k35 w A0 l0.length l0) (hc0 : l0.length ≤ c0) (hr1 : Kd.C (Kd.int .i64) w A1 l1.length l1) (hc1 : l1.length ≤ c1) (hr2 : Kd.C (Kd.int .i64) w A2 l2.length l2) (hc2 : l2.length ≤ c2)
    (hinv : Inv w) :
    Calls Tryd.prog 3 #[.slice A0 l0.length c0, .slice A1 l1.length c1, .slice A2 l2.length c2] w fun e w' => e = .returned (.bool true) ∧ Below w.heap.size w w' := by
  obtain ⟨kf, r1, hf⟩ := fits1_total l0
  have H4 := Lib.hid (laws_zzFits1.calls kf A0 c0 l0 r1 w hr0 hc0 hf)
  have HR0 := Lib.hid hr0
  have HR1 := Lib.hid hr1
  have HR2 := Lib.hid hr2
  have HC0 := Lib.hid hc0
  have HC1 := Lib.hid hc1
  have HC2 := Lib.hid hc2
  have HI := Lib.hid hinv
  clear hf hr0 hr1 hr2 hc0 hc1 hc2 hinv
  by_cases hr : r1 = true
  · subst hr
    by_cases m1 : 2147483647 < l1.length
    · have d1 : decide (2147483647 < (l1.length : Int)) = true := decide_eq_true (by omega)
      have d2 : decide (2147483647 < l1.length) = true := decide_eq_true m1
      clear m1
      go_enter Tryd.func3, Tryd.ntmps3
      go_wp2_with (first | (go_at_call 4; (with_reducible refine H4.out.mono ?_); rintro e w2 ⟨rfl, hb⟩; have HB2 := Lib.hid hb; clear hb))
      go_ret
      exact ⟨rfl, HB2.out⟩
    · have d1 : decide (2147483647 < (l1.length : Int)) = false := decide_eq_false (by omega)
      have d2 : decide (2147483647 < l1.length) = false := decide_eq_false m1
      by_cases m2 : 2147483647 < l2.length
      · have d3 : decide (2147483647 < (l2.length : Int)) = true := decide_eq_true (by omega)
        have d4 : decide (2147483647 < l2.length) = true := decide_eq_true m2
        clear m1 m2
        go_enter Tryd.func3, Tryd.ntmps3
        go_wp2_with (first | (go_at_call 4; (with_reducible refine H4.out.mono ?_); rintro e w2 ⟨rfl, hb⟩; have HB2 := Lib.hid hb; clear hb))
        go_ret
        exact ⟨rfl, HB2.out⟩
      · have d3 : decide (2147483647 < (l2.length : Int)) = false := decide_eq_false (by omega)
        have d4 : decide (2147483647 < l2.length) = false := decide_eq_false m2
        have HM1 := Lib.hid (show l1.length ≤ 2147483647 by omega)
        have HM2 := Lib.hid (show l2.length ≤ 2147483647 by omega)
        clear m1 m2
        by_cases m3 : 200 < l0.length
        · have d5 : decide (200 < (l0.length : Int)) = true := decide_eq_true (by omega)
          have d6 : decide (200 < l0.length) = true := decide_eq_true m3
          clear m3
          go_enter Tryd.func3, Tryd.ntmps3
          go_wp2_with (first | (go_at_call 4; (with_reducible refine H4.out.mono ?_); rintro e w2 ⟨rfl, hb⟩; have HB2 := Lib.hid hb; clear hb) | (go_at_call 6; (with_reducible refine (Example.calls w2 (Inv.via (HB2.out.block 0 (Inv.lt HI.out)) HI.out)).mono ?_); rintro e wx ⟨rfl, hb⟩; have HBx := Lib.hid (HB2.out.trans (hb.mono HB2.out.size)); clear hb))
          go_ret
          exact ⟨rfl, HBx.out⟩
        · have d5 : decide (200 < (l0.length : Int)) = false := decide_eq_false (by omega)
          have d6 : decide (200 < l0.length) = false := decide_eq_false m3
          by_cases m4 : 800 < l1.length
          · have d7 : decide (800 < (l1.length : Int)) = true := decide_eq_true (by omega)
            have d8 : decide (800 < l1.length) = true := decide_eq_true m4
            clear m3 m4
            go_enter Tryd.func3, Tryd.ntmps3
            go_wp2_with (first | (go_at_call 4; (with_reducible refine H4.out.mono ?_); rintro e w2 ⟨rfl, hb⟩; have HB2 := Lib.hid hb; clear hb) | (go_at_call 6; (with_reducible refine (Example.calls w2 (Inv.via (HB2.out.block 0 (Inv.lt HI.out)) HI.out)).mono ?_); rintro e wx ⟨rfl, hb⟩; have HBx := Lib.hid (HB2.out.trans (hb.mono HB2.out.size)); clear hb))
            go_ret
            exact ⟨rfl, HBx.out⟩
          · have d7 : decide (800 < (l1.length : Int)) = false := decide_eq_false (by omega)
            have d8 : decide (800 < l1.length) = false := decide_eq_false m4
            have HL0 := Lib.hid (show l0.length ≤ 200 by omega)
            have HL1 := Lib.hid (show l1.length ≤ 800 by omega)
            clear m3 m4
            obtain ⟨n1, g1, t1⟩ := nb_calls A1 c1 l1 (l0.length : Int) HM1.out HC1.out
            obtain ⟨n2, g2, t2⟩ := nb_calls A2 c2 l2 (l0.length : Int) HM2.out HC2.out
            have G1 := Lib.hid g1
            have G2 := Lib.hid g2
            have T1 := Lib.hid t1
            have T2 := Lib.hid t2
            clear g1 g2 t1 t2
            by_cases e1 : n1 = true
            · subst e1
              by_cases e2 : n2 = true
              · subst e2
                have hX1 : ∀ i : Nat, i < l1.length / 2 → (0 ≤ (rdP (pairsN l1 (l1.length / 2)) i).1 ∧ (rdP (pairsN l1 (l1.length / 2)) i).1 < l0.length) ∧ (0 ≤ (rdP (pairsN l1 (l1.length / 2)) i).2 ∧ (rdP (pairsN l1 (l1.length / 2)) i).2 < l0.length) := fun i hi => by
                  rw [rdP_pairs l1 _ i hi]
                  exact ⟨T1.out rfl (2 * i) (by omega), T1.out rfl (2 * i + 1) (by omega)⟩
                have HX1 := Lib.hid hX1
                clear hX1
                have HX2 := Lib.hid (T2.out rfl)
                have HMrg := Lib.hid (show ∀ (Ap : Option Addr) (cp : Nat) (u : World), Kd.C kP u Ap (l1.length / 2) (pairsN l1 (l1.length / 2)) → Below w.heap.size w u → Calls Tryd.prog 7 #[.slice A0 l0.length c0, .slice Ap (l1.length / 2) cp, .slice A2 l2.length c2] u fun e w' => ∃ (A : Option Addr) (c : Nat) (V : Value), (Kd.C (Kd.int .i64) w' A l2.length (l2.map fun x => rd (symM l0.length (pairsN l1 (l1.length / 2))) x) ∧ l2.length ≤ c ∧ Below u.heap.size u w') ∧ e = .returned (.tuple #[.slice A l2.length c, V]) from fun Ap cp u hp hb => by
                  have h := ImplMerged.calls A0 Ap A2 c0 cp c2 l0 (pairsN l1 (l1.length / 2)) l2 u (Kd.C_below HR0.out hb) HC0.out HL0.out (by rw [pairsN_length]; exact hp) (by rw [pairsN_length]; have := HL1.out; omega) (Kd.C_below HR2.out hb) HM2.out (by rw [pairsN_length]; exact HX1.out) HX2.out (Inv.via (hb.block 0 (Inv.lt HI.out)) HI.out)
                  rw [pairsN_length] at h
                  exact h)
                have HSym := Lib.hid (show ∀ (Ap : Option Addr) (cp : Nat) (u : World), Kd.C kP u Ap (l1.length / 2) (pairsN l1 (l1.length / 2)) → Calls Tryd.prog 9 #[.int .i64 (l0.length : Int), .slice Ap (l1.length / 2) cp] u fun e w' => ∃ (A : Option Addr) (c : Nat), (Kd.C (Kd.int .i64) w' A l0.length (symM l0.length (pairsN l1 (l1.length / 2))) ∧ l0.length ≤ c ∧ Below u.heap.size u w') ∧ e = .returned (.slice A l0.length c) from fun Ap cp u hp => by
                  have h := SymM.calls l0.length Ap cp (pairsN l1 (l1.length / 2)) u (by rw [pairsN_length]; exact hp) HL0.out (by rw [pairsN_length]; have := HL1.out; omega) (by rw [pairsN_length]; exact HX1.out)
                  rw [pairsN_length] at h
                  exact h)
                have HLen := Lib.hid (symM_length l0.length (pairsN l1 (l1.length / 2)))
                go_enter Tryd.func3, Tryd.ntmps3
                go_wp2_with (first | (go_at_call 4; (with_reducible refine H4.out.mono ?_); rintro e w2 ⟨rfl, hb⟩; have HB2 := Lib.hid hb; clear hb) | (go_at_call 5; (with_reducible refine (G1.out w2 (Kd.C_below HR1.out HB2.out)).mono ?_); rintro e w3 ⟨rfl, hb⟩; have HB3 := Lib.hid (HB2.out.trans (hb.mono HB2.out.size)); clear hb) | (go_at_call 5; (with_reducible refine (G2.out w3 (Kd.C_below HR2.out HB3.out)).mono ?_); rintro e w4 ⟨rfl, hb⟩; have HB4 := Lib.hid (HB3.out.trans (hb.mono HB3.out.size)); clear hb) | (go_at_call 8; (with_reducible refine (Pairs.calls A1 c1 l1 w4 (Kd.C_below HR1.out HB4.out) HL1.out).mono ?_); rintro e w5 ⟨Ap, cp, hq, rfl⟩; have HQ5 := Lib.hid hq; clear hq; have HB5 := Lib.hid (HB4.out.trans (HQ5.out.2.2.mono HB4.out.size))) | (go_at_call 7; (with_reducible refine (HMrg.out Ap cp w5 HQ5.out.1 HB5.out).mono ?_); rintro e w6 ⟨Ar, cr, Vr, hq, rfl⟩; have HQ6 := Lib.hid hq; clear hq; have HB6 := Lib.hid (HB5.out.trans (HQ6.out.2.2.mono HB5.out.size))) | (go_at_call 8; (with_reducible refine (Pairs.calls A1 c1 l1 w6 (Kd.C_below HR1.out HB6.out) HL1.out).mono ?_); rintro e w7 ⟨Aq, cq, hq, rfl⟩; have HQ7 := Lib.hid hq; clear hq; have HB7 := Lib.hid (HB6.out.trans (HQ7.out.2.2.mono HB6.out.size))) | (go_at_call 9; (with_reducible refine (HSym.out Aq cq w7 HQ7.out.1).mono ?_); rintro e w8 ⟨As, cs, hq, rfl⟩; have HQ8 := Lib.hid hq; clear hq; have HB8 := Lib.hid (HB7.out.trans (HQ8.out.2.2.mono HB7.out.size))))
                generalize symM l0.length (pairsN l1 (l1.length / 2)) = o at *
                have HOut := Lib.hid (Kd.C_below HQ6.out.1 (HQ7.out.2.2.trans (HQ8.out.2.2.mono HQ7.out.2.2.size)))
                have HSt := Lib.hid HQ8.out.1
                clear HQ5 HQ6 HQ7 HQ8 HB2 HB3 HB4 HB5 HB6 HB7 d1 d2 d3 d4 d5 d6 d7 d8
                go_loopw [68] (fun v68 wr => ∃ (i : Nat), v68 = .int .i64 (i : Int) ∧ i ≤ l2.length ∧ Hid (Below w8.heap.size w8 wr)) (fun v68 _ => l2.length - (intOf v68).toNat)
                case atStart => exact ⟨0, rfl, Nat.zero_le _, Lib.hid (Below.refl _ _)⟩
                obtain ⟨i, rfl, hi, HW8⟩ := hrel
                have hw : wrap64 ((i : Int) + 1) = ((i + 1 : Nat) : Int) := by have := HM2.out; unfold wrap64; omega
                have HF := Lib.hid (show Below w.heap.size w wr from HB8.out.trans (HW8.out.mono HB8.out.size))
                by_cases hlt : i < l2.length
                · have p1 : (0 : Int) ≤ (i : Int) := by omega
                  have q1 : (i : Int) < (l2.length : Int) := by omega
                  have d1 : decide ((i : Int) < (l2.length : Int)) = true := decide_eq_true q1
                  have d2 : decide (i < l2.length) = true := decide_eq_true hlt
                  obtain ⟨ad, e1, x0⟩ := Kd.at_int HR2.out i p1 q1
                  cases e1
                  rw [Int.toNat_natCast] at x0
                  replace x0 := (HF.out.cell (World.block_lt_of_cell? w _ x0)).trans x0
                  obtain ⟨a7, e7, x7⟩ := Kd.at_int HOut.out i p1 q1
                  cases e7
                  rw [Int.toNat_natCast, rd_map_int l2 (fun x => rd o x) i hlt] at x7
                  replace x7 := (HW8.out.cell (World.block_lt_of_cell? w8 _ x7)).trans x7
                  obtain ⟨a0, a1⟩ := HX2.out i hlt
                  obtain ⟨a9, e9, x9⟩ := Kd.at_int HSt.out (rd l2 i) a0 a1
                  cases e9
                  replace x9 := (HW8.out.cell (World.block_lt_of_cell? w8 _ x9)).trans x9
                  generalize rd l2 i = ci at *
                  have HLi := Lib.hid hlt
                  clear hi hlt
                  replace p1 := eq_true p1
                  replace q1 := eq_true q1
                  replace a0 := eq_true a0
                  replace a1 := eq_true a1
                  go_wp2
                  go_quiet (fail)
                  go_wp2
                  go_roundw
                  case rel => exact ⟨i + 1, by rw [hw], HLi.out, Lib.hid (HW8.out.trans (pw_below_drewN (Below.refl _ _) _))⟩
                  case measure =>
                    rw [hw]
                    have hm := HLi.out
                    show l2.length - ((i + 1 : Nat) : Int).toNat < l2.length - ((i : Int)).toNat
                    rw [Int.toNat_natCast, Int.toNat_natCast]
                    omega
                · have d1 : decide ((i : Int) < (l2.length : Int)) = false := decide_eq_false (by omega)
                  have d2 : decide (i < l2.length) = false := decide_eq_false hlt
                  clear hi hlt
                  go_wp2_with (first | (go_at_call 6; (with_reducible refine (Example.calls wr (Inv.via (HF.out.block 0 (Inv.lt HI.out)) HI.out)).mono ?_); rintro e wx ⟨rfl, hb⟩; have HBx := Lib.hid (HF.out.trans (hb.mono HF.out.size)); clear hb))
                  go_ret
                  exact ⟨rfl, HBx.out⟩
              · have e2' : n2 = false := Bool.eq_false_iff.2 e2
                subst e2'
                clear e2
                go_enter Tryd.func3, Tryd.ntmps3
                go_wp2_with (first | (go_at_call 4; (with_reducible refine H4.out.mono ?_); rintro e w2 ⟨rfl, hb⟩; have HB2 := Lib.hid hb; clear hb) | (go_at_call 5; (with_reducible refine (G1.out w2 (Kd.C_below HR1.out HB2.out)).mono ?_); rintro e w3 ⟨rfl, hb⟩; have HB3 := Lib.hid (HB2.out.trans (hb.mono HB2.out.size)); clear hb) | (go_at_call 5; (with_reducible refine (G2.out w3 (Kd.C_below HR2.out HB3.out)).mono ?_); rintro e w4 ⟨rfl, hb⟩; have HB4 := Lib.hid (HB3.out.trans (hb.mono HB3.out.size)); clear hb) | (go_at_call 6; (with_reducible refine (Example.calls w4 (Inv.via (HB4.out.block 0 (Inv.lt HI.out)) HI.out)).mono ?_); rintro e wx ⟨rfl, hb⟩; have HBx := Lib.hid (HB4.out.trans (hb.mono HB4.out.size)); clear hb))
                go_ret
                exact ⟨rfl, HBx.out⟩
            · have e1' : n1 = false := Bool.eq_false_iff.2 e1
              subst e1'
              clear e1
              go_enter Tryd.func3, Tryd.ntmps3
              go_wp2_with (first | (go_at_call 4; (with_reducible refine H4.out.mono ?_); rintro e w2 ⟨rfl, hb⟩; have HB2 := Lib.hid hb; clear hb) | (go_at_call 5; (with_reducible refine (G1.out w2 (Kd.C_below HR1.out HB2.out)).mono ?_); rintro e w3 ⟨rfl, hb⟩; have HB3 := Lib.hid (HB2.out.trans (hb.mono HB2.out.size)); clear hb) | (go_at_call 6; (with_reducible refine (Example.calls w3 (Inv.via (HB3.out.block 0 (Inv.lt HI.out)) HI.out)).mono ?_); rintro e wx ⟨rfl, hb⟩; have HBx := Lib.hid (HB3.out.trans (hb.mono HB3.out.size)); clear hb))
              go_ret
              exact ⟨rfl, HBx.out⟩
  · have hr' : r1 = false := Bool.eq_false_iff.2 hr
    subst hr'
    clear hr
    go_enter Tryd.func3, Tryd.ntmps3
    go_wp2_with (first | (go_at_call 4; (with_reducible refine H4.out.mono ?_); rintro e w2 ⟨rfl, hb⟩; have HB2 := Lib.hid hb; clear hb))
    go_ret
    exact ⟨rfl, HB2.out⟩
end Go.Proofs.YtfjfacgbambbdaaDoor
