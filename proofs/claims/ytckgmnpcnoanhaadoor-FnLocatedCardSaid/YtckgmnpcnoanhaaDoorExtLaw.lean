/- The law FnLocated, walked: it answers true, whatever its input. -/
import Derived.Test.YtckgmnpcnoanhaaDoorExtTell
set_option linter.unusedVariables false
set_option linter.unusedSimpArgs false
namespace Go.Proofs.YtckgmnpcnoanhaaDoor
open Go Go.RowKit Go.Proofs.YtckgmnpcnoanhaaDoorW.PrintWords Go.Proofs.YtckgmnpcnoanhaaDoorW.PrintLast Go.Proofs.YtckgmnpcnoanhaaDoorW.PrintMore Go.Proofs.YtckgmnpcnoanhaaDoor.PFnLocated
theorem C_of_heap {α : Type} {d : Kd α} {e g : Nat} {w : World} {xs : List α} {inner : List Value} (h : w.heap[g]? = some (.cells inner.toArray e (0, 0))) (hn : xs.length ≤ 1000) (hrep : Reps (d.M w 0 (fun k => True ∧ some k ≠ (Value.slice (some ⟨g, 0, none⟩) xs.length xs.length).ownBlock)) d.sz xs inner) : Kd.C d w (some ⟨g, 0, none⟩) xs.length xs := by
  have hR : d.R e w 0 (fun _ => True) (.slice (some ⟨g, 0, none⟩) xs.length xs.length) xs :=
    ⟨fun _ _ => trivial, inner, ⟨hrep.1, .inr ⟨g, xs.length, inner.toArray, rfl, Nat.zero_le _, h, Nat.le_refl _, by unfold maxLen; omega, by simpa using hrep.1, by rw [← hrep.1]; simp⟩⟩, hrep⟩
  exact (Kd.R_reads' hR).2.2
/-- The little example. -/
def ab : ByteArray := ⟨#[97, 98]⟩
theorem ab_rn0 : Rn ab 0 97 1 := ⟨by decide +kernel, by decide⟩
theorem ab_rn1 : Rn ab 1 98 1 := ⟨by decide +kernel, by decide⟩
theorem ab_tr1 : Tr ab 1 0 0 := .next 0 0 0 1 97 .zero ab_rn0
theorem ab_end1 : EndAt ab 1 2 := .next 1 1 2 98 ab_rn1 (by decide) .last
theorem ab_wf : Wf ab := by
  intro i l ls ht hi
  have h2 : ab.size = 2 := rfl
  have : i = 0 ∨ i = 1 := by omega
  rcases this with rfl | rfl
  · exact ⟨_, _, ab_rn0⟩
  · exact ⟨_, _, ab_rn1⟩
theorem ab_asked : Asked ab (1, 1) := ⟨1, rfl, ⟨by decide, fun _ => by decide +kernel⟩, by decide, by decide⟩
theorem ab_loc {x : Lc} (h : LocOf ab (1, 1) x) : x = ⟨1, 1, 1, ab⟩ := by
  obtain ⟨j, l, ls, le, e, ht, he, rfl⟩ := h
  obtain rfl : j = 1 := by simp at e; omega
  obtain ⟨rfl, rfl⟩ := ht.inj ab_tr1
  obtain rfl := he.inj ab_end1
  rfl
theorem abP_rep (w : World) (ok : Nat → Prop) : Reps (kP.M w 0 ok) kP.sz [((1 : Int), (1 : Int))] [.int .i64 1, .int .i64 1] := by
  refine ⟨rfl, fun j p hj => ?_⟩
  match j, hj with
  | 0, hj =>
    cases hj
    rfl
  | j + 1, hj => simp at hj
theorem add_zero_ (ad : Addr) : ad.add (0 * 4) = ad := by unfold Addr.add; split <;> simp_all
theorem ab_calls (w : World) (hT : GTab w) : Calls Tryd.prog 4 #[.string ⟨#[97, 98]⟩, .slice (some ⟨w.heap.size, 0, none⟩) 1 1] (w.alloc (.cells #[.int .i64 1, .int .i64 1] 26 (0, 0))) fun e w' => ∃ (ad : Addr) (c : Nat), ((w'.cell? ad = some (.int .i64 1) ∧ w'.cell? ⟨ad.block, ad.off + 1, none⟩ = some (.int .i64 1) ∧ w'.cell? ⟨ad.block, ad.off + 2, none⟩ = some (.int .i64 1) ∧ w'.cell? ⟨ad.block, ad.off + 3, none⟩ = some (.string ⟨#[97, 98]⟩)) ∧ Below w.heap.size w w') ∧ e = .returned (.tuple #[.slice (some ad) 1 c, .bool true]) := by
  have hb := below_alloc (Below.refl w.heap.size w) (.cells #[.int .i64 1, .int .i64 1] 26 (0, 0))
  have hx := heap_alloc_new w (.cells #[.int .i64 1, .int .i64 1] 26 (0, 0))
  generalize World.alloc w _ = W at *
  have hC : Kd.C kP W (some ⟨w.heap.size, 0, none⟩) [((1 : Int), (1 : Int))].length [((1 : Int), (1 : Int))] := C_of_heap hx (by decide) (abP_rep W _)
  refine (Impl.calls ab (some ⟨w.heap.size, 0, none⟩) 1 [((1 : Int), (1 : Int))] W ab_wf (by decide) (hT.below hb) hC (by decide) (fun i hi => ?_)).mono ?_
  · obtain rfl : i = 0 := by simp at hi; exact hi
    exact ab_asked
  · rintro e w' ⟨A, c, xs, ⟨hto, hC2, hc, hb2⟩, rfl⟩
    obtain ⟨ad, rfl, x0, x1, x2, x3⟩ := at_L hC2 0 (by decide)
    have hl := ab_loc (hto.2 0 (by decide))
    rw [hl] at x0 x1 x2 x3
    rw [add_zero_] at x0 x1 x2 x3
    exact ⟨ad, c, ⟨⟨x0, x1, x2, x3⟩, hb.trans (hb2.mono hb.size)⟩, rfl⟩
/-- A range that may be asked, not from within CR LF. -/
def AskedQ (s : ByteArray) (r : Int × Int) : Prop := Asked s r ∧ ∀ j : Nat, r.1 = (j : Int) → ¬ Mid s j
set_option maxHeartbeats 8000000 in
set_option maxRecDepth 100000 in
theorem Law.calls (s : ByteArray) (A1 : Option Addr) (c1 : Nat) (ps : List (Int × Int)) (w : World) (hs : s.size ≤ 140737488351232) (hr1 : Kd.C kP w A1 ps.length ps) (hT : GTab w) :
    Calls Tryd.prog 3 #[.string s, .slice A1 ps.length c1] w fun e w' => e = .returned (.bool true) ∧ Below w.heap.size w w' := by
  have HR := Lib.hid hr1
  have HT := Lib.hid hT
  clear hr1 hT
  go_enter Tryd.func3, Tryd.ntmps3
  by_cases m0 : 2147483647 < s.size
  · have d1 : decide (2147483647 < (s.size : Int)) = true := decide_eq_true (by omega)
    have d2 : decide (2147483647 < s.size) = true := decide_eq_true m0
    clear m0 hs
    go_wp2
    go_ret
    exact ⟨rfl, Below.refl _ _⟩
  · have d1 : decide (2147483647 < (s.size : Int)) = false := decide_eq_false (by omega)
    have d2 : decide (2147483647 < s.size) = false := decide_eq_false m0
    by_cases m1 : 2147483647 < ps.length
    · have d3 : decide (2147483647 < (ps.length : Int)) = true := decide_eq_true (by omega)
      have d4 : decide (2147483647 < ps.length) = true := decide_eq_true m1
      clear m0 m1 hs
      go_wp2
      go_ret
      exact ⟨rfl, Below.refl _ _⟩
    · have d3 : decide (2147483647 < (ps.length : Int)) = false := decide_eq_false (by omega)
      have d4 : decide (2147483647 < ps.length) = false := decide_eq_false m1
      have HS := Lib.hid (show s.size ≤ 2147483647 by omega)
      have HP := Lib.hid (show ps.length ≤ 2147483647 by omega)
      clear m0 m1 hs
      go_upto_region 4 with (first | (go_at_call 4; (with_reducible refine (ab_calls w HT.out).mono ?_); rintro e w2 ⟨ad, c, ⟨⟨x0, x1, x2, x3⟩, hb⟩, rfl⟩; have HB2 := Lib.hid hb; clear hb))
      clear d1 d2 d3 d4
      go_upto_region 5 with (fail)
      by_cases m2 : 4096 < s.size
      · have d1 : decide (4096 < (s.size : Int)) = true := decide_eq_true (by omega)
        have d2 : decide (4096 < s.size) = true := decide_eq_true m2
        clear m2
        go_wp2
        go_ret
        exact ⟨rfl, HB2.out⟩
      · have d1 : decide (4096 < (s.size : Int)) = false := decide_eq_false (by omega)
        have d2 : decide (4096 < s.size) = false := decide_eq_false m2
        have HZ := Lib.hid (show s.size ≤ 4096 by omega)
        clear m2
        by_cases m3 : 50 < ps.length
        · have d3 : decide (50 < (ps.length : Int)) = true := decide_eq_true (by omega)
          have d4 : decide (50 < ps.length) = true := decide_eq_true m3
          clear m3
          go_wp2
          go_ret
          exact ⟨rfl, HB2.out⟩
        · have d3 : decide (50 < (ps.length : Int)) = false := decide_eq_false (by omega)
          have d4 : decide (50 < ps.length) = false := decide_eq_false m3
          have HL := Lib.hid (show ps.length ≤ 50 by omega)
          clear m3
          obtain ⟨kw, rw_, hwk, hwf⟩ := wf_tells s HZ.out
          have HWK := Lib.hid hwk
          have HWF := Lib.hid hwf
          clear hwk hwf
          by_cases m4 : rw_ = true
          · subst m4
            have HW := Lib.hid (HWF.out rfl)
            go_upto_region 7 with (first | (go_at_call 5; (with_reducible refine (spec_WellFormed.calls kw s true _ HWK.out).mono ?_); rintro e w3 ⟨rfl, hd⟩; have HB3 := Lib.hid (show Below w.heap.size w w3 from HB2.out.trans (hd.below.mono HB2.out.size)); clear hd))
            clear HWK HWF d1 d2 d3 d4 HB2 x0 x1 x2 x3
            go_wp2
            go_loopw [59] (fun v59 wr => ∃ k : Nat, v59 = .int .i64 (k : Int) ∧ k ≤ ps.length ∧ Hid (∀ i : Nat, i < k → AskedQ s (rdP ps i)) ∧ Hid (Below w.heap.size w wr)) (fun v59 _ => ps.length - (intOf v59).toNat)
            case atStart => exact ⟨0, rfl, Nat.zero_le _, Lib.hid (fun i hi => by omega), HB3⟩
            clear HB3
            obtain ⟨k, rfl, hk, HQ, HBw⟩ := hrel
            have hw : wrap64 ((k : Int) + 1) = ((k + 1 : Nat) : Int) := by have := HL.out; unfold wrap64; omega
            by_cases hlt : k < ps.length
            · have p1 : (0 : Int) ≤ (k : Int) := by omega
              have q1 : (k : Int) < (ps.length : Int) := by omega
              have d1 : decide ((k : Int) < (ps.length : Int)) = true := decide_eq_true q1
              have d2 : decide (k < ps.length) = true := decide_eq_true hlt
              obtain ⟨ad1, e1, x0, x1⟩ := at_P HR.out k hlt
              cases e1
              replace x0 := (HBw.out.cell (World.block_lt_of_cell? w _ x0)).trans x0
              replace x1 := (HBw.out.cell (World.block_lt_of_cell? w _ x1)).trans x1
              have HLk := Lib.hid hlt
              generalize hpr : rdP ps (k : Int) = pr at x0 x1
              have HPr := Lib.hid hpr
              obtain ⟨a, b⟩ := pr
              obtain ⟨rr, hrr, hrt⟩ := rounded_tells s HZ.out a
              have HRr := Lib.hid hrr
              have HRt := Lib.hid hrt
              clear hk hlt hpr hrr hrt
              replace p1 := eq_true p1
              replace q1 := eq_true q1
              change wr.cell? (ad1.add (k * 2)) = some (.int .i64 a) at x0
              change wr.cell? _ = some (.int .i64 b) at x1
              go_upto_region 10 with (first | ((with_reducible refine gate_dst (N := 8) rfl ?_); refine box_event ?hg (N := 8) ?hd (cs := #[.int .i64 0, .int .i64 0]) (t := 26) ?hr ?_; (case hd => rfl); (case hg => rfl); (case hr => first | (go_simp; done) | (go_simp; rfl)); intro gb hg w7 hbox hb; have HG := Lib.hid hg; have HY := Lib.hid hb; have HX7 := Lib.hid hbox; clear hg hbox hb; have z0 := (blk_cell HX7.out 0).trans rfl; have z1 := (blk_cell HX7.out 1).trans rfl; have fz0 := blk_frozen HX7.out 0; have fz1 := blk_frozen HX7.out 1))
              have hb8 := (HY.out.setCell (p := ⟨gb, 0, none⟩) (Nat.le_of_eq HG.out.symm) (.int .i64 a)).setCell (p := ⟨gb, 1, none⟩) (Nat.le_of_eq HG.out.symm) (.int .i64 b)
              have hx8 := blk_put (blk_put HX7.out 0 (.int .i64 a) rfl) 1 (.int .i64 b) rfl
              generalize World.setCell (World.setCell w7 _ _) _ _ = w8 at *
              clear x0 x1 z0 z1 fz0 fz1 HX7 HY
              have x0 : w8.cell? ⟨gb, 0, none⟩ = some (.int .i64 a) := (blk_cell hx8 0).trans rfl
              have x1 : w8.cell? ⟨gb, 1, none⟩ = some (.int .i64 b) := (blk_cell hx8 1).trans rfl
              have HX8 := Lib.hid hx8
              have HB8 := Lib.hid (HBw.out.trans (hb8.mono HBw.out.size))
              clear hx8 hb8 HBw HG
              by_cases m5 : rr = true
              · subst m5
                obtain ⟨j, ej, hsp, hnm⟩ := HRt.out rfl
                subst ej
                have hjs := hsp.1
                have ew : wrap64 ((s.size : Int) - (j : Int)) = (s.size : Int) - (j : Int) := by have := HZ.out; unfold wrap64; omega
                have HSp := Lib.hid hsp
                have HNm := Lib.hid hnm
                clear hsp hnm hjs HRt
                by_cases m6 : b < 0
                · have d3 : decide (b < 0) = true := decide_eq_true m6
                  go_wp2_with (first | (go_at_call 6; (with_reducible refine (spec_Rounded.calls s (j : Int) true _ HRr.out).mono ?_); rintro e w9 ⟨rfl, hd⟩; have HB9 := Lib.hid (show Below w.heap.size w w9 from HB8.out.trans (hd.below.mono HB8.out.size)); have y0 : w9.cell? ⟨gb, 0, none⟩ = some (.int .i64 (j : Int)) := (blk_cell (blk_below HX8.out hd.below) 0).trans rfl; have y1 : w9.cell? ⟨gb, 1, none⟩ = some (.int .i64 b) := (blk_cell (blk_below HX8.out hd.below) 1).trans rfl; clear hd))
                  go_ret
                  exact ⟨rfl, HB9.out⟩
                · have d3 : decide (b < 0) = false := decide_eq_false m6
                  by_cases m7 : (s.size : Int) - (j : Int) < b
                  · have d4 : decide ((s.size : Int) - (j : Int) < b) = true := decide_eq_true m7
                    clear m6 m7
                    go_wp2_with (first | (go_at_call 6; (with_reducible refine (spec_Rounded.calls s (j : Int) true _ HRr.out).mono ?_); rintro e w9 ⟨rfl, hd⟩; have HB9 := Lib.hid (show Below w.heap.size w w9 from HB8.out.trans (hd.below.mono HB8.out.size)); have y0 : w9.cell? ⟨gb, 0, none⟩ = some (.int .i64 (j : Int)) := (blk_cell (blk_below HX8.out hd.below) 0).trans rfl; have y1 : w9.cell? ⟨gb, 1, none⟩ = some (.int .i64 b) := (blk_cell (blk_below HX8.out hd.below) 1).trans rfl; clear hd))
                    go_ret
                    exact ⟨rfl, HB9.out⟩
                  · have d4 : decide ((s.size : Int) - (j : Int) < b) = false := decide_eq_false m7
                    have HA := Lib.hid (show AskedQ s ((j : Int), b) from ⟨⟨j, rfl, HSp.out, by show (0 : Int) ≤ b; omega, by show b ≤ (s.size : Int) - (j : Int); omega⟩, fun j' e => by obtain rfl : j = j' := Int.ofNat.inj e; exact HNm.out⟩)
                    clear m6 m7
                    go_wp2_with (first | (go_at_call 6; (with_reducible refine (spec_Rounded.calls s (j : Int) true _ HRr.out).mono ?_); rintro e w9 ⟨rfl, hd⟩; have HB9 := Lib.hid (show Below w.heap.size w w9 from HB8.out.trans (hd.below.mono HB8.out.size)); have y0 : w9.cell? ⟨gb, 0, none⟩ = some (.int .i64 (j : Int)) := (blk_cell (blk_below HX8.out hd.below) 0).trans rfl; have y1 : w9.cell? ⟨gb, 1, none⟩ = some (.int .i64 b) := (blk_cell (blk_below HX8.out hd.below) 1).trans rfl; clear hd))
                    go_roundw
                    case rel => exact ⟨k + 1, by rw [hw], HLk.out, Lib.hid (fun i hi => by
                      by_cases e : i = k
                      · subst e; rw [HPr.out]; exact HA.out
                      · exact HQ.out i (by omega)), HB9⟩
                    case measure =>
                      rw [hw]
                      have hm := HLk.out
                      show ps.length - ((k + 1 : Nat) : Int).toNat < ps.length - ((k : Int)).toNat
                      rw [Int.toNat_natCast, Int.toNat_natCast]
                      omega
              · have m5' : rr = false := Bool.eq_false_iff.2 m5
                subst m5'
                clear m5 HRt
                go_wp2_with (first | (go_at_call 6; (with_reducible refine (spec_Rounded.calls s a false _ HRr.out).mono ?_); rintro e w9 ⟨rfl, hd⟩; have HB9 := Lib.hid (show Below w.heap.size w w9 from HB8.out.trans (hd.below.mono HB8.out.size)); clear hd))
                go_ret
                exact ⟨rfl, HB9.out⟩
            · have d1 : decide ((k : Int) < (ps.length : Int)) = false := decide_eq_false (by omega)
              have d2 : decide (k < ps.length) = false := decide_eq_false hlt
              obtain rfl : k = ps.length := by omega
              clear hk hlt hw
              have HCall := Lib.hid (Impl.calls s A1 c1 ps wr HW.out HZ.out (HT.out.below HBw.out) (Kd.C_below HR.out HBw.out) HL.out (fun i hi => (HQ.out i hi).1))

              go_upto_region 14 with (first | (go_at_call 4; (with_reducible refine HCall.out.mono ?_); rintro e w9 ⟨A2, c2, xs, ⟨hto, hC2, hc2, hb9⟩, rfl⟩; have HTo := Lib.hid hto; have HC2 := Lib.hid hC2; have HB9 := Lib.hid (show Below w.heap.size w w9 from HBw.out.trans (hb9.mono HBw.out.size)); clear hto hC2 hc2 hb9))
              clear d1 d2 HCall HBw HT
              go_wp2
              clear wr
              go_loopw [102] (fun v102 wr => ∃ k : Nat, v102 = .int .i64 (k : Int) ∧ k ≤ ps.length ∧ Hid (Below w9.heap.size w9 wr)) (fun v102 _ => ps.length - (intOf v102).toNat)
              case atStart => exact ⟨0, rfl, Nat.zero_le _, Lib.hid (Below.refl _ _)⟩
              obtain ⟨k, rfl, hk, HW9⟩ := hrel
              have hw : wrap64 ((k : Int) + 1) = ((k + 1 : Nat) : Int) := by have := HL.out; unfold wrap64; omega
              have HF := Lib.hid (show Below w.heap.size w wr from HB9.out.trans (HW9.out.mono HB9.out.size))
              by_cases hlt : k < ps.length
              · have p1 : (0 : Int) ≤ (k : Int) := by omega
                have q1 : (k : Int) < (ps.length : Int) := by omega
                have d1 : decide ((k : Int) < (ps.length : Int)) = true := decide_eq_true q1
                have d2 : decide (k < ps.length) = true := decide_eq_true hlt
                obtain ⟨ad1, e1, x0, x1⟩ := at_P HR.out k hlt
                cases e1
                replace x0 := (HF.out.cell (World.block_lt_of_cell? w _ x0)).trans x0
                replace x1 := (HF.out.cell (World.block_lt_of_cell? w _ x1)).trans x1
                obtain ⟨ad2, e2, t0, t1, t2, t3⟩ := at_L HC2.out k hlt
                cases e2
                replace t0 := (HW9.out.cell (World.block_lt_of_cell? w9 _ t0)).trans t0
                replace t1 := (HW9.out.cell (World.block_lt_of_cell? w9 _ t1)).trans t1
                replace t2 := (HW9.out.cell (World.block_lt_of_cell? w9 _ t2)).trans t2
                replace t3 := (HW9.out.cell (World.block_lt_of_cell? w9 _ t3)).trans t3
                obtain ⟨j, l, ls, le, ej, htr, hen, ex⟩ := HTo.out.2 k hlt
                obtain ⟨⟨j', ej', hsp, hb1, hb2⟩, hnm⟩ := HQ.out k hlt
                rw [ex] at t0 t1 t2 t3
                generalize hpr : rdP ps (k : Int) = pr at x0 x1 t0 t1 t2 t3 ej ej' hnm hb1 hb2
                obtain ⟨a, b⟩ := pr
                change a = (j : Int) at ej
                change a = (j' : Int) at ej'
                have hnm2 := hnm j' ej'
                obtain rfl : j = j' := by omega
                subst ej
                obtain ⟨kl, hkl⟩ := line_tells HZ.out HW.out hsp hnm2 htr hen
                have HKl := Lib.hid hkl
                change (0 : Int) ≤ b at hb1
                change b ≤ (s.size : Int) - (j : Int) at hb2
                have hbs := htr.bounds
                have wb : wrap64 ((j : Int) - (ls : Int) + b) = (j : Int) - (ls : Int) + b := by have := HZ.out; unfold wrap64; omega
                clear hk hpr hsp hnm hnm2 htr hen ex ej' hb1 hb2 hbs hkl
                have HLk := Lib.hid hlt
                clear hlt
                replace p1 := eq_true p1
                replace q1 := eq_true q1
                change wr.cell? (ad1.add (k * 2)) = some (.int .i64 (j : Int)) at x0
                change wr.cell? _ = some (.int .i64 b) at x1
                change wr.cell? _ = some (.int .i64 ((l : Int) + 1)) at t0
                change wr.cell? _ = some (.int .i64 ((j : Int) - (ls : Int))) at t1
                change wr.cell? _ = some (.int .i64 b) at t2
                change wr.cell? _ = some (.string (s.extract ls le)) at t3
                generalize s.extract ls le = t at *
                generalize (j : Int) - (ls : Int) = col at *
                generalize (l : Int) + 1 = line at *
                go_upto_region 19 with (first | ((with_reducible refine gate_dst (N := 12) rfl ?_); refine box_event ?hg (N := 12) ?hd (cs := #[.int .i64 0, .int .i64 0]) (t := 26) ?hr ?_; (case hd => rfl); (case hg => rfl); (case hr => first | (go_simp; done) | (go_simp; rfl)); intro gb hg w7 hbox hb; have HG := Lib.hid hg; have HY := Lib.hid hb; have HX7 := Lib.hid hbox; clear hg hbox hb; have z0 := (blk_cell HX7.out 0).trans rfl; have z1 := (blk_cell HX7.out 1).trans rfl; have fz0 := blk_frozen HX7.out 0; have fz1 := blk_frozen HX7.out 1))
                have hb8 := (HY.out.setCell (p := ⟨gb, 0, none⟩) (Nat.le_of_eq HG.out.symm) (.int .i64 (j : Int))).setCell (p := ⟨gb, 1, none⟩) (Nat.le_of_eq HG.out.symm) (.int .i64 b)
                have hx8 := blk_put (blk_put HX7.out 0 (.int .i64 (j : Int)) rfl) 1 (.int .i64 b) rfl
                generalize World.setCell (World.setCell w7 _ _) _ _ = w8 at *
                clear x0 x1 z0 z1 fz0 fz1 HX7 HY HG
                have x0 : w8.cell? ⟨gb, 0, none⟩ = some (.int .i64 (j : Int)) := (blk_cell hx8 0).trans rfl
                have x1 : w8.cell? ⟨gb, 1, none⟩ = some (.int .i64 b) := (blk_cell hx8 1).trans rfl
                replace t0 := (hb8.cell (World.block_lt_of_cell? _ _ t0)).trans t0
                replace t1 := (hb8.cell (World.block_lt_of_cell? _ _ t1)).trans t1
                replace t2 := (hb8.cell (World.block_lt_of_cell? _ _ t2)).trans t2
                replace t3 := (hb8.cell (World.block_lt_of_cell? _ _ t3)).trans t3
                have HB8 := Lib.hid (HW9.out.trans (hb8.mono HW9.out.size))
                clear hx8 hb8 HW9 HF
                by_cases m5 : col + b ≤ (t.size : Int)
                · have d3 : decide (col + b ≤ (t.size : Int)) = true := decide_eq_true m5
                  clear m5
                  go_upto_region 22 with (first | (go_at_call 7; (with_reducible refine (spec_LineOf.calls kl s (j : Int) line col t _ HKl.out).mono ?_); rintro e w11 ⟨rfl, hd⟩; have HB11 := Lib.hid (show Below w9.heap.size w9 w11 from HB8.out.trans (hd.below.mono HB8.out.size)); have y1 := (hd.below.cell (World.block_lt_of_cell? _ _ x1)).trans x1; have v0 := (hd.below.cell (World.block_lt_of_cell? _ _ t0)).trans t0; have v1 := (hd.below.cell (World.block_lt_of_cell? _ _ t1)).trans t1; have v2 := (hd.below.cell (World.block_lt_of_cell? _ _ t2)).trans t2; have v3 := (hd.below.cell (World.block_lt_of_cell? _ _ t3)).trans t3; clear hd t0 t1 t2 t3 x0 x1))
                  go_wp2
                  go_quiet (fail)
                  go_wp2
                  go_roundw
                  case rel => exact ⟨k + 1, by rw [hw], HLk.out, Lib.hid (HB11.out.trans (pw_below_drewN (Below.refl _ _) _))⟩
                  case measure =>
                    rw [hw]
                    have hm := HLk.out
                    show ps.length - ((k + 1 : Nat) : Int).toNat < ps.length - ((k : Int)).toNat
                    rw [Int.toNat_natCast, Int.toNat_natCast]
                    omega
                · have d3 : decide (col + b ≤ (t.size : Int)) = false := decide_eq_false m5
                  clear m5
                  go_upto_region 22 with (first | (go_at_call 7; (with_reducible refine (spec_LineOf.calls kl s (j : Int) line col t _ HKl.out).mono ?_); rintro e w11 ⟨rfl, hd⟩; have HB11 := Lib.hid (show Below w9.heap.size w9 w11 from HB8.out.trans (hd.below.mono HB8.out.size)); have y1 := (hd.below.cell (World.block_lt_of_cell? _ _ x1)).trans x1; have v0 := (hd.below.cell (World.block_lt_of_cell? _ _ t0)).trans t0; have v1 := (hd.below.cell (World.block_lt_of_cell? _ _ t1)).trans t1; have v2 := (hd.below.cell (World.block_lt_of_cell? _ _ t2)).trans t2; have v3 := (hd.below.cell (World.block_lt_of_cell? _ _ t3)).trans t3; clear hd t0 t1 t2 t3 x0 x1))
                  go_wp2
                  go_quiet (fail)
                  go_wp2
                  go_roundw
                  case rel => exact ⟨k + 1, by rw [hw], HLk.out, Lib.hid (HB11.out.trans (pw_below_drewN (Below.refl _ _) _))⟩
                  case measure =>
                    rw [hw]
                    have hm := HLk.out
                    show ps.length - ((k + 1 : Nat) : Int).toNat < ps.length - ((k : Int)).toNat
                    rw [Int.toNat_natCast, Int.toNat_natCast]
                    omega
              · have d1 : decide ((k : Int) < (ps.length : Int)) = false := decide_eq_false (by omega)
                have d2 : decide (k < ps.length) = false := decide_eq_false hlt
                clear hk hlt hw
                go_wp2
                go_ret
                exact ⟨rfl, HF.out⟩
          · have m4' : rw_ = false := Bool.eq_false_iff.2 m4
            subst m4'
            clear m4 HWF
            go_wp2_with (first | (go_at_call 5; (with_reducible refine (spec_WellFormed.calls kw s false _ HWK.out).mono ?_); rintro e w3 ⟨rfl, hd⟩; have HB3 := Lib.hid (show Below w.heap.size w w3 from HB2.out.trans (hd.below.mono HB2.out.size)); clear hd))
            go_ret
            exact ⟨rfl, HB3.out⟩
end Go.Proofs.YtckgmnpcnoanhaaDoor
