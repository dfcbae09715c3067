/- MergeSymbols, walked. -/
import Derived.Test.YtfjfacgbambbdaaDoorExtFollow
set_option linter.unusedVariables false
namespace Go.Proofs.YtfjfacgbambbdaaDoor
open Go.RowKit Go.Proofs.YtfjfacgbambbdaaDoorW.PrintWords Go.Proofs.YtfjfacgbambbdaaDoorW.PrintMore Go.Proofs.YtfjfacgbambbdaaDoor.PFnMerged
theorem alloc4' (w : World) (o1 o2 o3 o4 : Obj) : Below w.heap.size w ((((w.alloc o1).alloc o2).alloc o3).alloc o4) ∧ ((((w.alloc o1).alloc o2).alloc o3).alloc o4).heap[w.heap.size]? = some o1 ∧ ((((w.alloc o1).alloc o2).alloc o3).alloc o4).heap[w.heap.size + 1]? = some o2 ∧ ((((w.alloc o1).alloc o2).alloc o3).alloc o4).heap[w.heap.size + 1 + 1]? = some o3 ∧ ((((w.alloc o1).alloc o2).alloc o3).alloc o4).heap[w.heap.size + 1 + 1 + 1]? = some o4 := by
  obtain ⟨hb, h1, h2, h3, hs⟩ := alloc3' w o1 o2 o3
  have f4 := heap_alloc_new (((w.alloc o1).alloc o2).alloc o3) o4
  rw [hs] at f4
  have hb4 : Below (((w.alloc o1).alloc o2).alloc o3).heap.size (((w.alloc o1).alloc o2).alloc o3) ((((w.alloc o1).alloc o2).alloc o3).alloc o4) := below_alloc (Below.refl _ _) o4
  exact ⟨hb.trans (hb4.mono hb.size), (hb4.block _ (blk_lt h1)).trans h1, (hb4.block _ (blk_lt h2)).trans h2, (hb4.block _ (blk_lt h3)).trans h3, f4⟩
/-- What MergeSymbols answers and leaves. -/
def MergePost (w : World) (gO g cap : Nat) (xs : List Sy) (ρ d : Nat → Nat) (i j : Nat) (e : Ending) (w' : World) : Prop := ∃ (r : Nat) (ys : List Sy) (ρ' d' : Nat → Nat), e = .returned (.agg #[.int .u32 0, .int .u32 (r : Int)]) ∧ St w' gO g cap ys ∧ ys.length = xs.length ∧ Merged (lk ys) xs.length ρ d ρ' d' i j r ∧ w.grownBy w' (some g)
theorem MergePost.mk {w : World} {gO g cap : Nat} {xs : List Sy} {ρ d : Nat → Nat} {i j : Nat} {e : Ending} {w' : World} (r : Nat) (ys : List Sy) (ρ' d' : Nat → Nat) (h1 : e = .returned (.agg #[.int .u32 0, .int .u32 (r : Int)])) (h2 : St w' gO g cap ys) (h3 : ys.length = xs.length) (h4 : Merged (lk ys) xs.length ρ d ρ' d' i j r) (h5 : w.grownBy w' (some g)) : MergePost w gO g cap xs ρ d i j e w' := ⟨r, ys, ρ', d', h1, h2, h3, h4, h5⟩
theorem MergePost.out {w : World} {gO g cap : Nat} {xs : List Sy} {ρ d : Nat → Nat} {i j : Nat} {e : Ending} {w' : World} (h : MergePost w gO g cap xs ρ d i j e w') : ∃ (r : Nat) (ys : List Sy) (ρ' d' : Nat → Nat), e = .returned (.agg #[.int .u32 0, .int .u32 (r : Int)]) ∧ St w' gO g cap ys ∧ ys.length = xs.length ∧ Merged (lk ys) xs.length ρ d ρ' d' i j r ∧ w.grownBy w' (some g) := h
def MergeSays (m : Nat) : Prop := ∀ (gO g cap : Nat) (xs : List Sy) (ρ d : Nat → Nat) (i j : Nat) (w : World), St w gO g cap xs → xs.length ≤ 200 → Forest (lk xs) xs.length ρ d → i < xs.length → j < xs.length → d i + d j ≤ m →
  Calls Tryd.prog 16 #[.agg #[.slice (some ⟨gO, 0, none⟩) 1 1], .agg #[.int .u32 0, .int .u32 (i : Int)], .agg #[.int .u32 0, .int .u32 (j : Int)]] w fun e w' => MergePost w gO g cap xs ρ d i j e w'
set_option maxHeartbeats 8000000 in
set_option maxRecDepth 100000 in
theorem merge_step (m : Nat) (ih : ∀ m', m' < m → MergeSays m') : MergeSays m := by
  intro gO g cap xs ρ d i j w h h200 hF hi hj hm
  obtain ⟨hB, h1, h2, h3, h4⟩ := alloc4' w (.cells #[.slice (some ⟨gO, 0, none⟩) 1 1] 44 (0, 0)) (.cells #[.int .u32 0, .int .u32 (i : Int)] 47 (0, 0)) (.cells #[.int .u32 0, .int .u32 (j : Int)] 47 (0, 0)) (.cells #[.int .u32 0, .int .u32 0] 47 (0, 0))
  generalize hWW : World.alloc (World.alloc (World.alloc (World.alloc w _) _) _) _ = W at hB h1 h2 h3 h4
  have HWW := Lib.hid hWW
  have HW := Lib.hid hB
  have HA := Lib.hid h1
  have HB := Lib.hid h2
  have HC := Lib.hid h3
  have HD := Lib.hid h4
  have HS := Lib.hid (h.below hB)
  have HF := Lib.hid hF
  have HI := Lib.hid hi
  have HJ := Lib.hid hj
  have HM := Lib.hid hm
  have H2 := Lib.hid h200
  have HG0 := Lib.hid (show g < w.heap.size ∧ gO < w.heap.size ∧ 0 < w.heap.size from ⟨h.lt, h.ltO.1, h.ltO.2⟩)
  have HIH := Lib.hid ih
  have hl4 : w.heap.size ≤ w.heap.size + 1 + 1 + 1 := by omega
  have HL4 := Lib.hid hl4
  clear hWW hB h1 h2 h3 h4 hF hi hj hm h200 h ih hl4
  have a1 := (blk_cell HA.out 0).trans rfl; have b1 := (blk_cell HB.out 0).trans rfl; have b2 := (blk_cell HB.out 1).trans rfl; have c1 := (blk_cell HC.out 0).trans rfl; have c2 := (blk_cell HC.out 1).trans rfl; have e1 := (blk_cell HD.out 0).trans rfl; have e2 := (blk_cell HD.out 1).trans rfl; have ef1 := blk_frozen HD.out 0; have ef2 := blk_frozen HD.out 1
  by_cases hij : i = j
  · subst hij
    go_enter Tryd.func16, Tryd.ntmps16
    go_upto_region 1 with (fail)
    rw [HWW.out]
    go_wp2
    have hD := ends HS.out (grown_below (grown_refl w g) HW.out) HD.out HL4.out HG0.out.1 HG0.out.2.1 HG0.out.2.2 (.int .u32 0) (.int .u32 (i : Int))
    refine bodyPost_ret (results_cell_row rfl _ _ (w.heap.size + 1 + 1 + 1) 47 _ (0, 0) _ rfl hD.2.2 Tryd.underlying47 rfl (by kernel_rfl)) rfl ?_
    exact MergePost.mk i xs ρ d rfl hD.1 rfl (merged_same HF.out HI.out) hD.2.1
  · have hne : (i : Int) ≠ (j : Int) := by omega
    have q1 : ((i : Int) == (j : Int)) = false := beq_eq_false_iff_ne.mpr hne
    have q2 : ((i : Int) = (j : Int)) = False := eq_false hne
    have q3 : (i = j) = False := eq_false hij
    have HIJ := Lib.hid hij
    clear hij hne
    cases hli : lk xs i with
    | some k =>
      have HX := Lib.hid (HF.out.some_next HI.out hli)
      have HLi := Lib.hid (show (rdS xs i).link = some k from hli)
      clear hli
      have HCall := Lib.hid (fun (u : World) (hs : St u gO g cap xs) => HIH.out (d k + d j) (by have := HX.out.2.2.1; have := HM.out; omega) gO g cap xs ρ d k j u hs H2.out HF.out HX.out.1 HJ.out (Nat.le_refl _))
      go_enter Tryd.func16, Tryd.ntmps16
      go_upto_region 1 with (fail)
      rw [HWW.out]
      go_wp2_with (first | (go_at_call 22; (with_reducible refine (Get.calls gO g cap xs i W HS.out HI.out H2.out).mono ?_); rintro e w1 ⟨rfl, hb⟩; have HW1 := Lib.hid (show Below w.heap.size w w1 from HW.out.trans (hb.mono HW.out.size)); have HS1 := Lib.hid (HS.out.below hb); have PA := Lib.hid ((hb.block _ (blk_lt HA.out)).trans HA.out); have PB := Lib.hid ((hb.block _ (blk_lt HB.out)).trans HB.out); have PC := Lib.hid ((hb.block _ (blk_lt HC.out)).trans HC.out); have PD := Lib.hid ((hb.block _ (blk_lt HD.out)).trans HD.out); clear hb; obtain ⟨xx, xf⟩ := HS1.out.elem i HI.out; have x2 : w1.cell? ⟨g, i * 10 + 2, none⟩ = some (.int .u32 0) := (xx 2 _ rfl).trans (by rw [HLi.out]; rfl); have x3 : w1.cell? ⟨g, i * 10 + 2 + 1, none⟩ = some (.int .u32 (k : Int)) := (xx 3 _ rfl).trans (by rw [HLi.out]; rfl); have xf2 := xf 2; have xf3 : w1.frozen? ⟨g, i * 10 + 2 + 1, none⟩ = false := xf 3; clear xx xf; have z0 := Inv.c0 HS1.out.inv; have z1 := Inv.c1 HS1.out.inv; have a1 := (blk_cell PA.out 0).trans rfl; have b1 := (blk_cell PB.out 0).trans rfl; have b2 := (blk_cell PB.out 1).trans rfl; have c1 := (blk_cell PC.out 0).trans rfl; have c2 := (blk_cell PC.out 1).trans rfl; have e1 := (blk_cell PD.out 0).trans rfl; have e2 := (blk_cell PD.out 1).trans rfl; have ef1 := blk_frozen PD.out 0; have ef2 := blk_frozen PD.out 1))
      go_quiet (fail)
      generalize hw : w1.drewN _ = w2
      have hb : Below w1.heap.size w1 w2 := by rw [← hw]; exact pw_below_drewN (Below.refl _ _) _
      have HS2 := Lib.hid (HS1.out.below hb)
      have HW2 := Lib.hid (show Below w.heap.size w w2 from HW1.out.trans (hb.mono HW1.out.size))
      have QA := Lib.hid ((hb.block _ (blk_lt PA.out)).trans PA.out); have QB := Lib.hid ((hb.block _ (blk_lt PB.out)).trans PB.out); have QC := Lib.hid ((hb.block _ (blk_lt PC.out)).trans PC.out); have QD := Lib.hid ((hb.block _ (blk_lt PD.out)).trans PD.out)
      clear a1 b1 b2 c1 c2 e1 e2 ef1 ef2
      clear x2 x3 xf2 xf3 z0 z1
      obtain ⟨xx, xf⟩ := HS2.out.elem i HI.out; have x2 : w2.cell? ⟨g, i * 10 + 2, none⟩ = some (.int .u32 0) := (xx 2 _ rfl).trans (by rw [HLi.out]; rfl); have x3 : w2.cell? ⟨g, i * 10 + 2 + 1, none⟩ = some (.int .u32 (k : Int)) := (xx 3 _ rfl).trans (by rw [HLi.out]; rfl); have xf2 := xf 2; have xf3 : w2.frozen? ⟨g, i * 10 + 2 + 1, none⟩ = false := xf 3; clear xx xf
      have z0 := Inv.c0 HS2.out.inv; have z1 := Inv.c1 HS2.out.inv
      have a1 := (blk_cell QA.out 0).trans rfl; have b1 := (blk_cell QB.out 0).trans rfl; have b2 := (blk_cell QB.out 1).trans rfl; have c1 := (blk_cell QC.out 0).trans rfl; have c2 := (blk_cell QC.out 1).trans rfl; have e1 := (blk_cell QD.out 0).trans rfl; have e2 := (blk_cell QD.out 1).trans rfl; have ef1 := blk_frozen QD.out 0; have ef2 := blk_frozen QD.out 1
      go_wp2
      go_region_with (go_at_call 16; (with_reducible refine (HCall.out _ ?s).mono ?_); (case s => exact HS2.out.below (Below.refl _ _).drew); rintro e w4 hp; obtain ⟨r, ys, ρ1, d1, rfl, hS, hlen, hMg, hG⟩ := hp.out; clear hp; have HS4 := Lib.hid hS; have HN4 := Lib.hid hlen; have HM4 := Lib.hid hMg; have HG4 := Lib.hid (show w2.grownBy w4 (some g) from below_grown (Below.refl _ _).drew hG); clear hS hlen hMg hG; have TA := Lib.hid (blk_grown HG4.out QA.out (by have := HG0.out; omega)); have TB := Lib.hid (blk_grown HG4.out QB.out (by have := HG0.out; omega)); have TC := Lib.hid (blk_grown HG4.out QC.out (by have := HG0.out; omega)); have TD := Lib.hid (blk_grown HG4.out QD.out (by have := HG0.out; omega)); obtain ⟨xx, xf⟩ := HS4.out.elem i (by rw [HN4.out]; exact HI.out); have v2 := xx 2 _ rfl; have v3 : w4.cell? ⟨g, i * 10 + 2 + 1, none⟩ = _ := xx 3 _ rfl; have vf2 := xf 2; have vf3 : w4.frozen? ⟨g, i * 10 + 2 + 1, none⟩ = false := xf 3; clear xx xf; have d2 := (blk_cell TD.out 0).trans rfl; have d3 := (blk_cell TD.out 1).trans rfl; have df2 := blk_frozen TD.out 0; have df3 := blk_frozen TD.out 1)
      all_goals
        have hiy : i < ys.length := by rw [HN4.out]; exact HI.out
        have hn0 := HG0.out
        have hgl : g < w.heap.size + 1 + 1 + 1 := by omega
        have hD := ends (HS4.out.link i hiy r) (grown_set (below_grown HW2.out HG4.out) (i * 10 + 2) [.int .u32 0, .int .u32 (r : Int)]) (w4 := (w4.setCell ⟨g, i * 10 + 2, none⟩ (.int .u32 0)).setCell ⟨g, i * 10 + 2 + 1, none⟩ (.int .u32 (r : Int))) (by rw [Below.heap_setCell _ _ _ _ (by show w.heap.size + 1 + 1 + 1 ≠ g; omega), Below.heap_setCell _ _ _ _ (by show w.heap.size + 1 + 1 + 1 ≠ g; omega)]; exact TD.out) HL4.out hn0.1 hn0.2.1 hn0.2.2 (.int .u32 0) (.int .u32 (r : Int))
        have HDD := Lib.hid hD
        have HR := Lib.hid (merged_old HF.out HI.out HJ.out (show lk xs i = some k from HLi.out) HM4.out (fun x => lk_set ys i hiy { rdS ys i with link := some r } x))
        clear hD
        go_wp2
        refine bodyPost_ret (results_cell_row rfl _ _ (w.heap.size + 1 + 1 + 1) 47 _ (0, 0) _ rfl HDD.out.2.2 Tryd.underlying47 rfl (by kernel_rfl)) rfl ?_
        exact MergePost.mk r _ ρ1 d1 rfl HDD.out.1 (by rw [List.length_set]; exact HN4.out) HR.out HDD.out.2.1
    | none =>
      have HLi := Lib.hid (show (rdS xs i).link = none from hli)
      clear hli
      cases hlj : lk xs j with
      | some k =>
        have HX := Lib.hid (HF.out.some_next HJ.out hlj)
        have HLj := Lib.hid (show (rdS xs j).link = some k from hlj)
        clear hlj
        have HCall := Lib.hid (fun (u : World) (hs : St u gO g cap xs) => HIH.out (d i + d k) (by have := HX.out.2.2.1; have := HM.out; omega) gO g cap xs ρ d i k u hs H2.out HF.out HI.out HX.out.1 (Nat.le_refl _))
        go_enter Tryd.func16, Tryd.ntmps16
        go_upto_region 1 with (fail)
        rw [HWW.out]
        go_wp2_with (first | (go_at_call 22; (with_reducible refine (Get.calls gO g cap xs i W HS.out HI.out H2.out).mono ?_); rintro e w1 ⟨rfl, hb⟩; have HW1 := Lib.hid (show Below w.heap.size w w1 from HW.out.trans (hb.mono HW.out.size)); have HS1 := Lib.hid (HS.out.below hb); have PA := Lib.hid ((hb.block _ (blk_lt HA.out)).trans HA.out); have PB := Lib.hid ((hb.block _ (blk_lt HB.out)).trans HB.out); have PC := Lib.hid ((hb.block _ (blk_lt HC.out)).trans HC.out); have PD := Lib.hid ((hb.block _ (blk_lt HD.out)).trans HD.out); clear hb; obtain ⟨xx, xf⟩ := HS1.out.elem i HI.out; have x2 : w1.cell? ⟨g, i * 10 + 2, none⟩ = some (.int .u32 4294967295) := (xx 2 _ rfl).trans (by rw [HLi.out]; rfl); have x3 : w1.cell? ⟨g, i * 10 + 2 + 1, none⟩ = some (.int .u32 4294967295) := (xx 3 _ rfl).trans (by rw [HLi.out]; rfl); have xf2 := xf 2; have xf3 : w1.frozen? ⟨g, i * 10 + 2 + 1, none⟩ = false := xf 3; clear xx xf; have z0 := Inv.c0 HS1.out.inv; have z1 := Inv.c1 HS1.out.inv; have a1 := (blk_cell PA.out 0).trans rfl; have b1 := (blk_cell PB.out 0).trans rfl; have b2 := (blk_cell PB.out 1).trans rfl; have c1 := (blk_cell PC.out 0).trans rfl; have c2 := (blk_cell PC.out 1).trans rfl; have e1 := (blk_cell PD.out 0).trans rfl; have e2 := (blk_cell PD.out 1).trans rfl; have ef1 := blk_frozen PD.out 0; have ef2 := blk_frozen PD.out 1))
        go_quiet (fail)
        generalize hw : w1.drewN _ = w2
        have hb : Below w1.heap.size w1 w2 := by rw [← hw]; exact pw_below_drewN (Below.refl _ _) _
        have HS2 := Lib.hid (HS1.out.below hb)
        have HW2 := Lib.hid (show Below w.heap.size w w2 from HW1.out.trans (hb.mono HW1.out.size))
        have QA := Lib.hid ((hb.block _ (blk_lt PA.out)).trans PA.out); have QB := Lib.hid ((hb.block _ (blk_lt PB.out)).trans PB.out); have QC := Lib.hid ((hb.block _ (blk_lt PC.out)).trans PC.out); have QD := Lib.hid ((hb.block _ (blk_lt PD.out)).trans PD.out)
        clear a1 b1 b2 c1 c2 e1 e2 ef1 ef2
        clear x2 x3 xf2 xf3 z0 z1
        have a1 := (blk_cell QA.out 0).trans rfl; have b1 := (blk_cell QB.out 0).trans rfl; have b2 := (blk_cell QB.out 1).trans rfl; have c1 := (blk_cell QC.out 0).trans rfl; have c2 := (blk_cell QC.out 1).trans rfl; have e1 := (blk_cell QD.out 0).trans rfl; have e2 := (blk_cell QD.out 1).trans rfl; have ef1 := blk_frozen QD.out 0; have ef2 := blk_frozen QD.out 1
        go_wp2_with (first | (go_at_call 22; (with_reducible refine (Get.calls gO g cap xs j w2 HS2.out HJ.out H2.out).mono ?_); rintro e w3 ⟨rfl, hb⟩; have HW3 := Lib.hid (show Below w.heap.size w w3 from HW2.out.trans (hb.mono HW2.out.size)); have HS3 := Lib.hid (HS2.out.below hb); have RA := Lib.hid ((hb.block _ (blk_lt QA.out)).trans QA.out); have RB := Lib.hid ((hb.block _ (blk_lt QB.out)).trans QB.out); have RC := Lib.hid ((hb.block _ (blk_lt QC.out)).trans QC.out); have RD := Lib.hid ((hb.block _ (blk_lt QD.out)).trans QD.out); clear hb; obtain ⟨xx, xf⟩ := HS3.out.elem j HJ.out; have y2 : w3.cell? ⟨g, j * 10 + 2, none⟩ = some (.int .u32 0) := (xx 2 _ rfl).trans (by rw [HLj.out]; rfl); have y3 : w3.cell? ⟨g, j * 10 + 2 + 1, none⟩ = some (.int .u32 (k : Int)) := (xx 3 _ rfl).trans (by rw [HLj.out]; rfl); have yf2 := xf 2; have yf3 : w3.frozen? ⟨g, j * 10 + 2 + 1, none⟩ = false := xf 3; clear xx xf; have z0 := Inv.c0 HS3.out.inv; have z1 := Inv.c1 HS3.out.inv; have a1 := (blk_cell RA.out 0).trans rfl; have b1 := (blk_cell RB.out 0).trans rfl; have b2 := (blk_cell RB.out 1).trans rfl; have c1 := (blk_cell RC.out 0).trans rfl; have c2 := (blk_cell RC.out 1).trans rfl; have e1 := (blk_cell RD.out 0).trans rfl; have e2 := (blk_cell RD.out 1).trans rfl; have ef1 := blk_frozen RD.out 0; have ef2 := blk_frozen RD.out 1))
        go_quiet (fail)
        generalize hw : w3.drewN _ = w4
        have hb : Below w3.heap.size w3 w4 := by rw [← hw]; exact pw_below_drewN (Below.refl _ _) _
        have HS4 := Lib.hid (HS3.out.below hb)
        have HW4 := Lib.hid (show Below w.heap.size w w4 from HW3.out.trans (hb.mono HW3.out.size))
        have UA := Lib.hid ((hb.block _ (blk_lt RA.out)).trans RA.out); have UB := Lib.hid ((hb.block _ (blk_lt RB.out)).trans RB.out); have UC := Lib.hid ((hb.block _ (blk_lt RC.out)).trans RC.out); have UD := Lib.hid ((hb.block _ (blk_lt RD.out)).trans RD.out)
        clear a1 b1 b2 c1 c2 e1 e2 ef1 ef2
        clear y2 y3 yf2 yf3 z0 z1
        obtain ⟨xx, xf⟩ := HS4.out.elem j HJ.out; have y2 : w4.cell? ⟨g, j * 10 + 2, none⟩ = some (.int .u32 0) := (xx 2 _ rfl).trans (by rw [HLj.out]; rfl); have y3 : w4.cell? ⟨g, j * 10 + 2 + 1, none⟩ = some (.int .u32 (k : Int)) := (xx 3 _ rfl).trans (by rw [HLj.out]; rfl); have yf2 := xf 2; have yf3 : w4.frozen? ⟨g, j * 10 + 2 + 1, none⟩ = false := xf 3; clear xx xf
        have z0 := Inv.c0 HS4.out.inv; have z1 := Inv.c1 HS4.out.inv
        have a1 := (blk_cell UA.out 0).trans rfl; have b1 := (blk_cell UB.out 0).trans rfl; have b2 := (blk_cell UB.out 1).trans rfl; have c1 := (blk_cell UC.out 0).trans rfl; have c2 := (blk_cell UC.out 1).trans rfl; have e1 := (blk_cell UD.out 0).trans rfl; have e2 := (blk_cell UD.out 1).trans rfl; have ef1 := blk_frozen UD.out 0; have ef2 := blk_frozen UD.out 1
        go_wp2
        go_region_with (go_at_call 16; (with_reducible refine (HCall.out _ ?s).mono ?_); (case s => exact HS4.out.below (Below.refl _ _).drew); rintro e w5 hp; obtain ⟨r, ys, ρ1, d1, rfl, hS, hlen, hMg, hG⟩ := hp.out; clear hp; have HS5 := Lib.hid hS; have HN5 := Lib.hid hlen; have HM5 := Lib.hid hMg; have HG5 := Lib.hid (show w4.grownBy w5 (some g) from below_grown (Below.refl _ _).drew hG); clear hS hlen hMg hG; have TA := Lib.hid (blk_grown HG5.out UA.out (by have := HG0.out; omega)); have TB := Lib.hid (blk_grown HG5.out UB.out (by have := HG0.out; omega)); have TC := Lib.hid (blk_grown HG5.out UC.out (by have := HG0.out; omega)); have TD := Lib.hid (blk_grown HG5.out UD.out (by have := HG0.out; omega)); obtain ⟨xx, xf⟩ := HS5.out.elem j (by rw [HN5.out]; exact HJ.out); have v2 := xx 2 _ rfl; have v3 : w5.cell? ⟨g, j * 10 + 2 + 1, none⟩ = _ := xx 3 _ rfl; have vf2 := xf 2; have vf3 : w5.frozen? ⟨g, j * 10 + 2 + 1, none⟩ = false := xf 3; clear xx xf; have d2 := (blk_cell TD.out 0).trans rfl; have d3 := (blk_cell TD.out 1).trans rfl; have df2 := blk_frozen TD.out 0; have df3 := blk_frozen TD.out 1)
        all_goals
          have hiy : j < ys.length := by rw [HN5.out]; exact HJ.out
          have hn0 := HG0.out
          have hgl : g < w.heap.size + 1 + 1 + 1 := by omega
          have hD := ends (HS5.out.link j hiy r) (grown_set (below_grown HW4.out HG5.out) (j * 10 + 2) [.int .u32 0, .int .u32 (r : Int)]) (w4 := (w5.setCell ⟨g, j * 10 + 2, none⟩ (.int .u32 0)).setCell ⟨g, j * 10 + 2 + 1, none⟩ (.int .u32 (r : Int))) (by rw [Below.heap_setCell _ _ _ _ (by show w.heap.size + 1 + 1 + 1 ≠ g; omega), Below.heap_setCell _ _ _ _ (by show w.heap.size + 1 + 1 + 1 ≠ g; omega)]; exact TD.out) HL4.out hn0.1 hn0.2.1 hn0.2.2 (.int .u32 0) (.int .u32 (r : Int))
          have HDD := Lib.hid hD
          have HR := Lib.hid (merged_new HF.out HI.out HJ.out (show lk xs i = none from HLi.out) (show lk xs j = some k from HLj.out) HM5.out (fun x => lk_set ys j hiy { rdS ys j with link := some r } x))
          clear hD
          go_wp2
          refine bodyPost_ret (results_cell_row rfl _ _ (w.heap.size + 1 + 1 + 1) 47 _ (0, 0) _ rfl HDD.out.2.2 Tryd.underlying47 rfl (by kernel_rfl)) rfl ?_
          exact MergePost.mk r _ ρ1 d1 rfl HDD.out.1 (by rw [List.length_set]; exact HN5.out) HR.out HDD.out.2.1
      | none =>
        have HLj := Lib.hid (show (rdS xs j).link = none from hlj)
        clear hlj
        go_enter Tryd.func16, Tryd.ntmps16
        go_upto_region 1 with (fail)
        rw [HWW.out]
        go_wp2_with (first | (go_at_call 22; (with_reducible refine (Get.calls gO g cap xs i W HS.out HI.out H2.out).mono ?_); rintro e w1 ⟨rfl, hb⟩; have HW1 := Lib.hid (show Below w.heap.size w w1 from HW.out.trans (hb.mono HW.out.size)); have HS1 := Lib.hid (HS.out.below hb); have PA := Lib.hid ((hb.block _ (blk_lt HA.out)).trans HA.out); have PB := Lib.hid ((hb.block _ (blk_lt HB.out)).trans HB.out); have PC := Lib.hid ((hb.block _ (blk_lt HC.out)).trans HC.out); have PD := Lib.hid ((hb.block _ (blk_lt HD.out)).trans HD.out); clear hb; obtain ⟨xx, xf⟩ := HS1.out.elem i HI.out; have x2 : w1.cell? ⟨g, i * 10 + 2, none⟩ = some (.int .u32 4294967295) := (xx 2 _ rfl).trans (by rw [HLi.out]; rfl); have x3 : w1.cell? ⟨g, i * 10 + 2 + 1, none⟩ = some (.int .u32 4294967295) := (xx 3 _ rfl).trans (by rw [HLi.out]; rfl); have xf2 := xf 2; have xf3 : w1.frozen? ⟨g, i * 10 + 2 + 1, none⟩ = false := xf 3; clear xx xf; have z0 := Inv.c0 HS1.out.inv; have z1 := Inv.c1 HS1.out.inv; have a1 := (blk_cell PA.out 0).trans rfl; have b1 := (blk_cell PB.out 0).trans rfl; have b2 := (blk_cell PB.out 1).trans rfl; have c1 := (blk_cell PC.out 0).trans rfl; have c2 := (blk_cell PC.out 1).trans rfl; have e1 := (blk_cell PD.out 0).trans rfl; have e2 := (blk_cell PD.out 1).trans rfl; have ef1 := blk_frozen PD.out 0; have ef2 := blk_frozen PD.out 1))
        go_quiet (fail)
        generalize hw : w1.drewN _ = w2
        have hb : Below w1.heap.size w1 w2 := by rw [← hw]; exact pw_below_drewN (Below.refl _ _) _
        have HS2 := Lib.hid (HS1.out.below hb)
        have HW2 := Lib.hid (show Below w.heap.size w w2 from HW1.out.trans (hb.mono HW1.out.size))
        have QA := Lib.hid ((hb.block _ (blk_lt PA.out)).trans PA.out); have QB := Lib.hid ((hb.block _ (blk_lt PB.out)).trans PB.out); have QC := Lib.hid ((hb.block _ (blk_lt PC.out)).trans PC.out); have QD := Lib.hid ((hb.block _ (blk_lt PD.out)).trans PD.out)
        clear a1 b1 b2 c1 c2 e1 e2 ef1 ef2
        clear x2 x3 xf2 xf3 z0 z1
        have a1 := (blk_cell QA.out 0).trans rfl; have b1 := (blk_cell QB.out 0).trans rfl; have b2 := (blk_cell QB.out 1).trans rfl; have c1 := (blk_cell QC.out 0).trans rfl; have c2 := (blk_cell QC.out 1).trans rfl; have e1 := (blk_cell QD.out 0).trans rfl; have e2 := (blk_cell QD.out 1).trans rfl; have ef1 := blk_frozen QD.out 0; have ef2 := blk_frozen QD.out 1
        go_wp2_with (first | (go_at_call 22; (with_reducible refine (Get.calls gO g cap xs j w2 HS2.out HJ.out H2.out).mono ?_); rintro e w3 ⟨rfl, hb⟩; have HW3 := Lib.hid (show Below w.heap.size w w3 from HW2.out.trans (hb.mono HW2.out.size)); have HS3 := Lib.hid (HS2.out.below hb); have RA := Lib.hid ((hb.block _ (blk_lt QA.out)).trans QA.out); have RB := Lib.hid ((hb.block _ (blk_lt QB.out)).trans QB.out); have RC := Lib.hid ((hb.block _ (blk_lt QC.out)).trans QC.out); have RD := Lib.hid ((hb.block _ (blk_lt QD.out)).trans QD.out); clear hb; obtain ⟨xx, xf⟩ := HS3.out.elem j HJ.out; have y2 : w3.cell? ⟨g, j * 10 + 2, none⟩ = some (.int .u32 4294967295) := (xx 2 _ rfl).trans (by rw [HLj.out]; rfl); have y3 : w3.cell? ⟨g, j * 10 + 2 + 1, none⟩ = some (.int .u32 4294967295) := (xx 3 _ rfl).trans (by rw [HLj.out]; rfl); have yf2 := xf 2; have yf3 : w3.frozen? ⟨g, j * 10 + 2 + 1, none⟩ = false := xf 3; clear xx xf; have z0 := Inv.c0 HS3.out.inv; have z1 := Inv.c1 HS3.out.inv; have a1 := (blk_cell RA.out 0).trans rfl; have b1 := (blk_cell RB.out 0).trans rfl; have b2 := (blk_cell RB.out 1).trans rfl; have c1 := (blk_cell RC.out 0).trans rfl; have c2 := (blk_cell RC.out 1).trans rfl; have e1 := (blk_cell RD.out 0).trans rfl; have e2 := (blk_cell RD.out 1).trans rfl; have ef1 := blk_frozen RD.out 0; have ef2 := blk_frozen RD.out 1))
        go_quiet (fail)
        generalize hw : w3.drewN _ = w4
        have hb : Below w3.heap.size w3 w4 := by rw [← hw]; exact pw_below_drewN (Below.refl _ _) _
        have HS4 := Lib.hid (HS3.out.below hb)
        have HW4 := Lib.hid (show Below w.heap.size w w4 from HW3.out.trans (hb.mono HW3.out.size))
        have UA := Lib.hid ((hb.block _ (blk_lt RA.out)).trans RA.out); have UB := Lib.hid ((hb.block _ (blk_lt RB.out)).trans RB.out); have UC := Lib.hid ((hb.block _ (blk_lt RC.out)).trans RC.out); have UD := Lib.hid ((hb.block _ (blk_lt RD.out)).trans RD.out)
        clear a1 b1 b2 c1 c2 e1 e2 ef1 ef2
        clear y2 y3 yf2 yf3 z0 z1
        have a1 := (blk_cell UA.out 0).trans rfl; have b1 := (blk_cell UB.out 0).trans rfl; have b2 := (blk_cell UB.out 1).trans rfl; have c1 := (blk_cell UC.out 0).trans rfl; have c2 := (blk_cell UC.out 1).trans rfl; have e1 := (blk_cell UD.out 0).trans rfl; have e2 := (blk_cell UD.out 1).trans rfl; have ef1 := blk_frozen UD.out 0; have ef2 := blk_frozen UD.out 1
        obtain ⟨xx, xf⟩ := HS4.out.elem i HI.out; have x2 : w4.cell? ⟨g, i * 10 + 2, none⟩ = some (.int .u32 4294967295) := (xx 2 _ rfl).trans (by rw [HLi.out]; rfl); have x3 : w4.cell? ⟨g, i * 10 + 2 + 1, none⟩ = some (.int .u32 4294967295) := (xx 3 _ rfl).trans (by rw [HLi.out]; rfl); have xf2 := xf 2; have xf3 : w4.frozen? ⟨g, i * 10 + 2 + 1, none⟩ = false := xf 3; clear xx xf
        have hn0 := HG0.out
        have hgl : g < w.heap.size + 1 + 1 + 1 := by omega
        have hgc : g < w.heap.size + 1 + 1 := by omega
        go_wp2_with (first | (go_at_call 23; (with_reducible refine (Contents.calls gO g cap (xs.set i { rdS xs i with link := some j }) j i _ (HS4.out.link i HI.out j) ?h1 ?h2 HIJ.out).mono ?_); (case h1 => rw [List.length_set]; exact HI.out); (case h2 => rw [List.length_set]; exact HJ.out); rintro e w5 ⟨rfl, ys, hS, hL, hG⟩; have HS5 := Lib.hid hS; have HK5 := Lib.hid hL; have HG5 := Lib.hid (show w4.grownBy w5 (some g) from grown_trans (grown_set (grown_refl w4 g) (i * 10 + 2) [.int .u32 0, .int .u32 (j : Int)]) hG); clear hS hL hG; have TA := Lib.hid (blk_grown HG5.out UA.out (by have := HG0.out; omega)); have TB := Lib.hid (blk_grown HG5.out UB.out (by have := HG0.out; omega)); have TC := Lib.hid (blk_grown HG5.out UC.out (by have := HG0.out; omega)); have TD := Lib.hid (blk_grown HG5.out UD.out (by have := HG0.out; omega)); have u1 := (blk_cell TC.out 0).trans rfl; have u2 := (blk_cell TC.out 1).trans rfl; have d2 := (blk_cell TD.out 0).trans rfl; have d3 := (blk_cell TD.out 1).trans rfl; have df2 := blk_frozen TD.out 0; have df3 := blk_frozen TD.out 1))
        have hD := ends HS5.out (below_grown HW4.out HG5.out) TD.out HL4.out hn0.1 hn0.2.1 hn0.2.2 (.int .u32 0) (.int .u32 (j : Int))
        obtain ⟨ρ1, d1, hR⟩ := merged_join HF.out HI.out HJ.out HIJ.out (show lk xs i = none from HLi.out) (show lk xs j = none from HLj.out) (L' := lk ys) (fun x => by rw [HK5.out.2, lk_set xs i HI.out])
        refine bodyPost_ret (results_cell_row rfl _ _ (w.heap.size + 1 + 1 + 1) 47 _ (0, 0) _ rfl hD.2.2 Tryd.underlying47 rfl (by kernel_rfl)) rfl ?_
        exact MergePost.mk j ys ρ1 d1 rfl hD.1 (by rw [HK5.out.1, List.length_set]) hR hD.2.1
theorem Merge.calls (gO g cap : Nat) (xs : List Sy) (ρ d : Nat → Nat) (i j : Nat) (w : World) (h : St w gO g cap xs) (h200 : xs.length ≤ 200) (hF : Forest (lk xs) xs.length ρ d) (hi : i < xs.length) (hj : j < xs.length) :
    Calls Tryd.prog 16 #[.agg #[.slice (some ⟨gO, 0, none⟩) 1 1], .agg #[.int .u32 0, .int .u32 (i : Int)], .agg #[.int .u32 0, .int .u32 (j : Int)]] w fun e w' => MergePost w gO g cap xs ρ d i j e w' := by
  have h2 : ∀ m, MergeSays m := fun m => Nat.strongRecOn m merge_step
  exact h2 (d i + d j) gO g cap xs ρ d i j w h h200 hF hi hj (Nat.le_refl _)
end Go.Proofs.YtfjfacgbambbdaaDoor
