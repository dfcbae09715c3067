/- The law FnAttributes, walked: it answers true, whatever its input. -/
import Derived.Test.YthepcahgipglcaaExtFits
set_option linter.unusedVariables false
set_option linter.unusedSimpArgs false
namespace Go.Proofs.Ythepcahgipglcaa
open Go.RowKit Go.Maps Go.Sort Go.Proofs.YthepcahgipglcaaW.PrintWords Go.Proofs.YthepcahgipglcaaW.PrintLast
theorem C_of_heap {α : Type} {d : Kd α} {e g : Nat} {w : World} {xs : List α} {inner : List Value} (h : w.heap[g]? = some (.cells inner.toArray e (0, 0))) (hn : xs.length ≤ 1000) (hrep : Reps (d.M w 0 (fun k => True ∧ some k ≠ (Value.slice (some ⟨g, 0, none⟩) xs.length xs.length).ownBlock)) d.sz xs inner) : Kd.C d w (some ⟨g, 0, none⟩) xs.length xs := by
  have hR : d.R e w 0 (fun _ => True) (.slice (some ⟨g, 0, none⟩) xs.length xs.length) xs :=
    ⟨fun _ _ => trivial, inner, ⟨hrep.1, .inr ⟨g, xs.length, inner.toArray, rfl, Nat.zero_le _, h, Nat.le_refl _, by unfold maxLen; omega, by simpa using hrep.1, by rw [← hrep.1]; simp⟩⟩, hrep⟩
  exact (Kd.R_reads' hR).2.2
theorem ab_rep (w : World) (ok : Nat → Prop) : Reps (kP.M w 0 ok) kP.sz [((⟨#[97]⟩, ⟨#[98]⟩) : SP)] [.string ⟨#[97]⟩, .string ⟨#[98]⟩] := by
  refine ⟨rfl, fun j p hj => ?_⟩
  match j, hj with
  | 0, hj =>
    cases hj
    rfl
  | j + 1, hj => simp at hj
/-- The little example. -/
theorem ab_calls (w : World) : Calls Try.prog 5 #[.slice (some ⟨w.heap.size, 0, none⟩) 1 1] (w.alloc (.cells #[.string ⟨#[97]⟩, .string ⟨#[98]⟩] 24 (0, 0))) fun e w' => ∃ (A : Option Addr) (c : Nat), Below w.heap.size w w' ∧ e = .returned (.slice A 1 c) := by
  have hb := below_alloc (Below.refl w.heap.size w) (.cells #[.string ⟨#[97]⟩, .string ⟨#[98]⟩] 24 (0, 0))
  have hx := heap_alloc_new w (.cells #[.string ⟨#[97]⟩, .string ⟨#[98]⟩] 24 (0, 0))
  generalize World.alloc w _ = W at *
  have hC : Kd.C kP W (some ⟨w.heap.size, 0, none⟩) [((⟨#[97]⟩, ⟨#[98]⟩) : SP)].length [((⟨#[97]⟩, ⟨#[98]⟩) : SP)] := C_of_heap hx (by decide) (ab_rep W _)
  refine (Attr.calls (some ⟨w.heap.size, 0, none⟩) 1 [((⟨#[97]⟩, ⟨#[98]⟩) : SP)] W hC (by decide) (fun p hp => ?_) (by simp)).mono ?_
  · simp at hp
    subst hp
    exact ⟨by decide, by decide⟩
  · rintro e w' ⟨A, c, out, ⟨_, _, _, hb2⟩, rfl⟩
    exact ⟨A, c, hb.trans (hb2.mono hb.size), rfl⟩
theorem eq24 (s1 s2 t1 t2 : ByteArray) (u : World) : (Op.equalIn 10000 24 (.agg #[.string s1, .string s2]) (.agg #[.string t1, .string t2])).run Try.prog u = .ok ((s1.toList == t1.toList) && (s2.toList == t2.toList)) u := by
  obtain ⟨i9, hi9, _⟩ := Option.map_eq_some_iff.1 info9
  have hr : List.range 2 = [0, 1] := rfl
  have p0 : ∀ x y : ByteArray, (part 9 #[.string x, .string y] (0 * Try.prog.cellsOf 9)).run Try.prog u = .ok (.string x) u := fun x y => by kernel_rfl
  have p1 : ∀ x y : ByteArray, (part 9 #[.string x, .string y] (1 * Try.prog.cellsOf 9)).run Try.prog u = .ok (.string y) u := fun x y => by kernel_rfl
  rw [run_equalIn_array (P := Try.prog) (w := u) 9999 #[.string s1, .string s2] #[.string t1, .string t2] Try.underlying24 hi9, hr]
  simp only [Op.eqItems, Sem.run_bind, p0, p1, Result.andThen_ok, run_equalIn_string (P := Try.prog) u 9998 9 _ _ Try.underlying9]
  have p1b : ∀ x y : ByteArray, (part 9 #[.string x, .string y] (Try.prog.cellsOf 9)).run Try.prog u = .ok (.string y) u := fun x y => by kernel_rfl
  have he : (Op.equalIn 9999 9 (.string s2) (.string t2)).run Try.prog u = .ok (s2.toList == t2.toList) u := run_equalIn_string (P := Try.prog) u 9998 9 _ _ Try.underlying9
  cases (s1.toList == t1.toList)
  · simp
  · generalize (s2.toList == t2.toList) = q at he ⊢
    simp [p1b, he]
    cases q <;> simp
theorem str_beq_true {s t : ByteArray} (h : s = t) : (s.toList == t.toList) = true := by rw [h]; simp
theorem str_beq_false {s t : ByteArray} (h : ¬ s = t) : (s.toList == t.toList) = false := beq_eq_false_iff_ne.2 (fun e => h (ByteArray.ext (Array.toList_inj.1 (by rw [ByteArray.toList_eq, ByteArray.toList_eq] at e; exact e))))
/-- Unlike keys, told by places. -/
theorem nodup_of {ps : List SP} (h : ∀ i j : Nat, j < i → i < ps.length → (rdP ps i).1 ≠ (rdP ps j).1) : (ps.map key).Nodup := by
  refine List.pairwise_iff_getElem.2 fun i j hi hj hij e => ?_
  rw [List.length_map] at hi hj
  refine h j i hij hj ?_
  have e1 : ∀ (k : Nat) (hk : k < ps.length), rdP ps k = ps[k] := fun k hk => by
    unfold rdP
    rw [List.getD_eq_getElem?_getD, List.getElem?_eq_getElem hk]
    rfl
  rw [e1 i hi, e1 j hj]
  rw [List.getElem_map, List.getElem_map] at e
  unfold key at e
  exact (ByteArray.ext (Array.toList_inj.1 e)).symm
set_option maxHeartbeats 8000000 in
set_option maxRecDepth 100000 in
theorem Law.calls (A0 : Option Addr) (c0 : Nat) (ps : List SP) (w : World) (h0 : Kd.C kP w A0 ps.length ps) (hc : ps.length ≤ c0) :
    Calls Try.prog 3 #[.slice A0 ps.length c0] w fun e w' => e = .returned (.bool true) ∧ Below w.heap.size w w' := by
  have HC := Lib.hid h0
  have HCap := Lib.hid hc
  clear h0 hc
  go_enter Try.func3, Try.ntmps3
  by_cases hf : Fit8 ps
  · have HF := Lib.hid hf
    have HCall := Lib.hid (Fits8.calls A0 c0 ps true w HC.out ⟨fun _ => hf, fun _ => rfl⟩)
    clear hf
    go_upto_region 3 with (first | (go_at_call 4; (with_reducible refine HCall.out.mono ?_); rintro e w2 ⟨rfl, hb⟩; have HB2 := Lib.hid hb; clear hb))
    clear HCall
    by_cases m1 : 20 < ps.length
    · have d1 : decide (20 < (ps.length : Int)) = true := decide_eq_true (by omega)
      have d2 : decide (20 < ps.length) = true := decide_eq_true m1
      clear m1
      go_wp2
      go_ret
      exact ⟨rfl, HB2.out⟩
    · have d1 : decide (20 < (ps.length : Int)) = false := decide_eq_false (by omega)
      have d2 : decide (20 < ps.length) = false := decide_eq_false m1
      have HN := Lib.hid (show ps.length ≤ 20 by omega)
      clear m1
      go_wp2
      clear d1 d2
      go_loopw [21] (fun v21 wr => ∃ k : Nat, v21 = .int .i64 (k : Int) ∧ k ≤ ps.length ∧ Hid (∀ i j : Nat, j < i → i < k → (rdP ps i).1 ≠ (rdP ps j).1) ∧ Hid (Below w.heap.size w wr)) (fun v21 _ => ps.length - (intOf v21).toNat)
      case atStart => exact ⟨0, rfl, Nat.zero_le _, Lib.hid (fun i j hj hi => by omega), HB2⟩
      clear HB2
      obtain ⟨k, rfl, hk, HU, HBw⟩ := hrel
      have hw : wrap64 ((k : Int) + 1) = ((k + 1 : Nat) : Int) := by have := HN.out; unfold wrap64; omega
      by_cases hlt : k < ps.length
      · have p1 : (0 : Int) ≤ (k : Int) := by omega
        have q1 : (k : Int) < (ps.length : Int) := by omega
        have d1 : decide ((k : Int) < (ps.length : Int)) = true := decide_eq_true q1
        have d2 : decide (k < ps.length) = true := decide_eq_true hlt
        obtain ⟨ad, e1, x0, x1⟩ := at_P HC.out k hlt
        cases e1
        replace x0 := (HBw.out.cell (World.block_lt_of_cell? w _ x0)).trans x0
        replace x1 := (HBw.out.cell (World.block_lt_of_cell? w _ x1)).trans x1
        obtain ⟨i24, hi24, hz24⟩ := Option.map_eq_some_iff.1 info24
        have hcut : ∀ W : World, (Instr.slice 22 (.slice (some ad) ps.length c0) none (some (.int .i64 (k : Int))) none).run Try.prog W = .ok (.slice (some ad) k c0) W := fun W => (cut_to 22 24 .i64 Try.underlying22 hi24 (some ad) ps.length c0 (k : Int) p1 (by omega) HCap.out W).trans (by rw [Int.toNat_natCast])
        generalize hpr : rdP ps k = pr at x0 x1
        have HPr := Lib.hid hpr
        obtain ⟨s1, s2⟩ := pr
        change wr.cell? (ad.add (k * 2)) = some (.string s1) at x0
        change wr.cell? _ = some (.string s2) at x1
        have HLk := Lib.hid hlt
        clear hk hlt hpr hi24 hz24
        replace p1 := eq_true p1
        replace q1 := eq_true q1
        go_upto_region 8 with (first | ((with_reducible refine gate_dst (N := 4) rfl ?_); refine box_event ?hg (N := 4) ?hd (cs := #[.string ⟨#[]⟩, .string ⟨#[]⟩]) (t := 24) ?hr ?_; (case hd => rfl); (case hg => rfl); (case hr => first | (go_simp; done) | (go_simp; rfl)); intro gb hg w7 hbox hb; have HG := Lib.hid hg; have HY := Lib.hid hb; have HX7 := Lib.hid hbox; clear hg hbox hb; have z0 := (blk_cell HX7.out 0).trans rfl; have z1 := (blk_cell HX7.out 1).trans rfl; have fz0 := blk_frozen HX7.out 0; have fz1 := blk_frozen HX7.out 1))
        have hb8 := (HY.out.setCell (p := ⟨gb, 0, none⟩) (Nat.le_of_eq HG.out.symm) (.string s1)).setCell (p := ⟨gb, 1, none⟩) (Nat.le_of_eq HG.out.symm) (.string s2)
        have hx8 := blk_put (blk_put HX7.out 0 (.string s1) rfl) 1 (.string s2) rfl
        generalize World.setCell (World.setCell w7 _ _) _ _ = w8 at *
        clear x0 x1 z0 z1 fz0 fz1 HX7 HY HG
        have HX8 := Lib.hid (show w8.heap[gb]? = some (.cells #[.string s1, .string s2] 24 (0, 0)) from hx8)
        have HW8 := Lib.hid (HBw.out.trans (hb8.mono HBw.out.size))
        clear hx8 hb8 HBw d1 d2
        go_wp2
        clear wr
        go_loopw [30] (fun v30 wr => ∃ j : Nat, v30 = .int .i64 (j : Int) ∧ j ≤ k ∧ Hid (∀ i : Nat, i < j → s1 ≠ (rdP ps i).1) ∧ Hid (Below w8.heap.size w8 wr)) (fun v30 _ => k - (intOf v30).toNat)
        case atStart => exact ⟨0, rfl, Nat.zero_le _, Lib.hid (fun i hi => by omega), Lib.hid (Below.refl _ _)⟩
        obtain ⟨j, rfl, hj, HV, HW⟩ := hrel
        have hwj : wrap64 ((j : Int) + 1) = ((j + 1 : Nat) : Int) := by have := HN.out; have := HLk.out; unfold wrap64; omega
        by_cases hlj : j < k
        · have r1 : (0 : Int) ≤ (j : Int) := by omega
          have r2 : (j : Int) < (k : Int) := by omega
          have d1 : decide ((j : Int) < (k : Int)) = true := decide_eq_true r2
          have d2 : decide (j < k) = true := decide_eq_true hlj
          obtain ⟨ad2, e2, x0, x1⟩ := at_P HC.out j (Nat.lt_trans hlj HLk.out)
          cases e2
          replace x0 := (HW.out.cell (World.block_lt_of_cell? w8 _ ((HW8.out.cell (World.block_lt_of_cell? w _ x0)).trans x0))).trans ((HW8.out.cell (World.block_lt_of_cell? w _ x0)).trans x0)
          replace x1 := (HW.out.cell (World.block_lt_of_cell? w8 _ ((HW8.out.cell (World.block_lt_of_cell? w _ x1)).trans x1))).trans ((HW8.out.cell (World.block_lt_of_cell? w _ x1)).trans x1)
          generalize hpr2 : rdP ps j = pr2 at x0 x1
          have HPr2 := Lib.hid hpr2
          obtain ⟨t1, t2⟩ := pr2
          change wr.cell? (ad.add (j * 2)) = some (.string t1) at x0
          change wr.cell? _ = some (.string t2) at x1
          have HLj := Lib.hid hlj
          clear hj hlj hpr2
          replace r1 := eq_true r1
          replace r2 := eq_true r2
          go_upto_region 11 with (first | ((with_reducible refine gate_dst (N := 6) rfl ?_); refine box_event ?hg (N := 6) ?hd (cs := #[.string ⟨#[]⟩, .string ⟨#[]⟩]) (t := 24) ?hr ?_; (case hd => rfl); (case hg => rfl); (case hr => first | (go_simp; done) | (go_simp; rfl)); intro gc hg w7 hbox hb; have HG := Lib.hid hg; have HY := Lib.hid hb; have HX7 := Lib.hid hbox; clear hg hbox hb; have z0 := (blk_cell HX7.out 0).trans rfl; have z1 := (blk_cell HX7.out 1).trans rfl; have fz0 := blk_frozen HX7.out 0; have fz1 := blk_frozen HX7.out 1))
          have hb9 := (HY.out.setCell (p := ⟨gc, 0, none⟩) (Nat.le_of_eq HG.out.symm) (.string t1)).setCell (p := ⟨gc, 1, none⟩) (Nat.le_of_eq HG.out.symm) (.string t2)
          have hx9 := blk_put (blk_put HX7.out 0 (.string t1) rfl) 1 (.string t2) rfl
          generalize World.setCell (World.setCell w7 _ _) _ _ = w9 at *
          clear x0 x1 z0 z1 fz0 fz1 HX7 HY HG
          have x0 : w9.cell? ⟨gc, 0, none⟩ = some (.string t1) := (blk_cell hx9 0).trans rfl
          have HW9 := Lib.hid (HW.out.trans (hb9.mono HW.out.size))
          have hx4 := blk_below HX8.out HW9.out
          have y0 : w9.cell? ⟨gb, 0, none⟩ = some (.string s1) := (blk_cell hx4 0).trans rfl
          have y1 : w9.cell? ⟨gb, 1, none⟩ = some (.string s2) := (blk_cell hx4 1).trans rfl
          have HF9 := Lib.hid (show Below w.heap.size w w9 from HW8.out.trans (HW9.out.mono HW8.out.size))
          clear hx9 hb9 hx4 HW d1 d2
          by_cases m2 : s1 = t1
          · have d3 : (s1.toList == t1.toList) = true := str_beq_true m2
            clear m2
            go_wp2
            go_ret
            exact ⟨rfl, HF9.out⟩
          · have d3 : (s1.toList == t1.toList) = false := str_beq_false m2
            have HNe := Lib.hid m2
            have hfit := HF.out.2 _ (rdP_mem ps k HLk.out)
            rw [HPr.out] at hfit
            have hs1 : s1.size ≤ 2147483647 := hfit.1
            have hs2 : s2.size ≤ 2147483647 := hfit.2
            have ew : wrap64 ((s1.size : Int) + (s2.size : Int)) = (s1.size : Int) + (s2.size : Int) := by unfold wrap64; omega
            clear hfit hs1 hs2
            by_cases m3 : 1000 < (s1.size : Int) + (s2.size : Int)
            · have d4 : decide (1000 < (s1.size : Int) + (s2.size : Int)) = true := decide_eq_true m3
              clear m3
              go_wp2
              go_ret
              exact ⟨rfl, HF9.out⟩
            · have d4 : decide (1000 < (s1.size : Int) + (s2.size : Int)) = false := decide_eq_false m3
              clear m3
              go_wp2
              go_roundw
              case rel => exact ⟨j + 1, by rw [hwj], HLj.out, Lib.hid (fun i hi => by
                by_cases e : i = j
                · subst e; rw [HPr2.out]; exact HNe.out
                · exact HV.out i (by omega)), HW9⟩
              case measure =>
                rw [hwj]
                have hm := HLj.out
                show k - ((j + 1 : Nat) : Int).toNat < k - ((j : Int)).toNat
                rw [Int.toNat_natCast, Int.toNat_natCast]
                omega
        · have d1 : decide ((j : Int) < (k : Int)) = false := decide_eq_false (by omega)
          have d2 : decide (j < k) = false := decide_eq_false hlj
          obtain rfl : j = k := by omega
          clear hj hlj hwj
          go_wp2
          go_roundw
          case rel => exact ⟨j + 1, by rw [hw], HLk.out, Lib.hid (fun i i2 h1 h2 => by
            by_cases e : i = j
            · subst e; rw [HPr.out]; exact HV.out i2 h1
            · exact HU.out i i2 h1 (by omega)), Lib.hid (HW8.out.trans (HW.out.mono HW8.out.size))⟩
          case measure =>
            rw [hw]
            have hm := HLk.out
            show ps.length - ((j + 1 : Nat) : Int).toNat < ps.length - ((j : Int)).toNat
            rw [Int.toNat_natCast, Int.toNat_natCast]
            omega
      · have d1 : decide ((k : Int) < (ps.length : Int)) = false := decide_eq_false (by omega)
        have d2 : decide (k < ps.length) = false := decide_eq_false hlt
        obtain rfl : k = ps.length := by omega
        have HNd := Lib.hid (nodup_of HU.out)
        have HCall := Lib.hid (Attr.calls A0 c0 ps wr (Kd.C_below HC.out HBw.out) HN.out (fun p hp => HF.out.2 p hp) HNd.out)
        clear hk hlt hw
        go_upto_region 16 with (first | (go_at_call 5; (with_reducible refine HCall.out.mono ?_); rintro e w3 ⟨A2, c2, out, ⟨hto, hC2, hc2, hb⟩, rfl⟩; have HTo := Lib.hid hto; have HC2 := Lib.hid hC2; have HB3 := Lib.hid (show Below w.heap.size w w3 from HBw.out.trans (hb.mono HBw.out.size)); clear hto hC2 hc2 hb))
        clear d1 d2 HCall HU HBw HNd
        go_wp2
        clear wr
        have HOl := Lib.hid HTo.out.len
        go_loopw [60] (fun v60 wr => ∃ k : Nat, v60 = .int .i64 (k : Int) ∧ k ≤ ps.length ∧ Hid (Below w3.heap.size w3 wr)) (fun v60 _ => ps.length - (intOf v60).toNat)
        case atStart => exact ⟨0, rfl, Nat.zero_le _, Lib.hid (Below.refl _ _)⟩
        obtain ⟨k, rfl, hk, HW⟩ := hrel
        have hw : wrap64 ((k : Int) + 1) = ((k + 1 : Nat) : Int) := by have := HN.out; unfold wrap64; omega
        have HF3 := Lib.hid (show Below w.heap.size w wr from HB3.out.trans (HW.out.mono HB3.out.size))
        by_cases hlt : k < ps.length
        · have p1 : (0 : Int) ≤ (k : Int) := by omega
          have q1 : (k : Int) < (ps.length : Int) := by omega
          have d1 : decide ((k : Int) < (ps.length : Int)) = true := decide_eq_true q1
          have d2 : decide (k < ps.length) = true := decide_eq_true hlt
          obtain ⟨ad, e1, x0, x1⟩ := at_P HC2.out k hlt
          cases e1
          replace x0 := (HW.out.cell (World.block_lt_of_cell? w3 _ x0)).trans x0
          replace x1 := (HW.out.cell (World.block_lt_of_cell? w3 _ x1)).trans x1
          have HMem := Lib.hid (HTo.out.mem k (by rw [HOl.out]; exact hlt))
          generalize hpr : rdP out k = pr at x0 x1 HMem
          have HPr := Lib.hid hpr
          obtain ⟨s1, s2⟩ := pr
          change wr.cell? (ad.add (k * 2)) = some (.string s1) at x0
          change wr.cell? _ = some (.string s2) at x1
          have HLk := Lib.hid hlt
          clear hk hlt hpr
          replace p1 := eq_true p1
          replace q1 := eq_true q1
          go_upto_region 22 with (first | ((with_reducible refine gate_dst (N := 9) rfl ?_); refine box_event ?hg (N := 9) ?hd (cs := #[.string ⟨#[]⟩, .string ⟨#[]⟩]) (t := 24) ?hr ?_; (case hd => rfl); (case hg => rfl); (case hr => first | (go_simp; done) | (go_simp; rfl)); intro gb hg w7 hbox hb; have HG := Lib.hid hg; have HY := Lib.hid hb; have HX7 := Lib.hid hbox; clear hg hbox hb; have z0 := (blk_cell HX7.out 0).trans rfl; have z1 := (blk_cell HX7.out 1).trans rfl; have fz0 := blk_frozen HX7.out 0; have fz1 := blk_frozen HX7.out 1))
          have hb8 := (HY.out.setCell (p := ⟨gb, 0, none⟩) (Nat.le_of_eq HG.out.symm) (.string s1)).setCell (p := ⟨gb, 1, none⟩) (Nat.le_of_eq HG.out.symm) (.string s2)
          have hx8 := blk_put (blk_put HX7.out 0 (.string s1) rfl) 1 (.string s2) rfl
          generalize World.setCell (World.setCell w7 _ _) _ _ = w8 at *
          clear x0 x1 z0 z1 fz0 fz1 HX7 HY HG
          have HX8 := Lib.hid (show w8.heap[gb]? = some (.cells #[.string s1, .string s2] 24 (0, 0)) from hx8)
          have HW8 := Lib.hid (HW.out.trans (hb8.mono HW.out.size))
          have HF8 := Lib.hid (show Below w.heap.size w w8 from HF3.out.trans (hb8.mono HF3.out.size))
          clear hx8 hb8 HW HF3 d1 d2
          go_wp2
          clear wr
          go_loopw [67, 10, 12] (fun v67 v10 v12 wr => ∃ (j : Nat) (b : Bool), v67 = .int .i64 (j : Int) ∧ v10 = .bool b ∧ j ≤ ps.length ∧ Hid ((∃ i : Nat, i < j ∧ rdP ps i = (s1, s2)) → b = true) ∧ Hid (Below w8.heap.size w8 wr)) (fun v67 _ _ _ => ps.length - (intOf v67).toNat)
          case atStart => exact ⟨0, false, rfl, rfl, Nat.zero_le _, Lib.hid (fun h => by obtain ⟨i, hi, _⟩ := h; omega), Lib.hid (Below.refl _ _)⟩
          obtain ⟨j, b, rfl, rfl, hj, HV, HW⟩ := hrel
          have hwj : wrap64 ((j : Int) + 1) = ((j + 1 : Nat) : Int) := by have := HN.out; unfold wrap64; omega
          by_cases hlj : j < ps.length
          · have r1 : (0 : Int) ≤ (j : Int) := by omega
            have r2 : (j : Int) < (ps.length : Int) := by omega
            have d1 : decide ((j : Int) < (ps.length : Int)) = true := decide_eq_true r2
            have d2 : decide (j < ps.length) = true := decide_eq_true hlj
            obtain ⟨ad2, e2, x0, x1⟩ := at_P HC.out j hlj
            cases e2
            replace x0 := (HW.out.cell (World.block_lt_of_cell? w8 _ ((HF8.out.cell (World.block_lt_of_cell? w _ x0)).trans x0))).trans ((HF8.out.cell (World.block_lt_of_cell? w _ x0)).trans x0)
            replace x1 := (HW.out.cell (World.block_lt_of_cell? w8 _ ((HF8.out.cell (World.block_lt_of_cell? w _ x1)).trans x1))).trans ((HF8.out.cell (World.block_lt_of_cell? w _ x1)).trans x1)
            generalize hpr2 : rdP ps j = pr2 at x0 x1
            have HPr2 := Lib.hid hpr2
            obtain ⟨t1, t2⟩ := pr2
            change wr.cell? (ad2.add (j * 2)) = some (.string t1) at x0
            change wr.cell? _ = some (.string t2) at x1
            have HLj := Lib.hid hlj
            clear hj hlj hpr2
            replace r1 := eq_true r1
            replace r2 := eq_true r2
            go_upto_region 25 with (first | ((with_reducible refine gate_dst (N := 12) rfl ?_); refine box_event ?hg (N := 12) ?hd (cs := #[.string ⟨#[]⟩, .string ⟨#[]⟩]) (t := 24) ?hr ?_; (case hd => rfl); (case hg => rfl); (case hr => first | (go_simp; done) | (go_simp; rfl)); intro gc hg w7 hbox hb; have HG := Lib.hid hg; have HY := Lib.hid hb; have HX7 := Lib.hid hbox; clear hg hbox hb; have z0 := (blk_cell HX7.out 0).trans rfl; have z1 := (blk_cell HX7.out 1).trans rfl; have fz0 := blk_frozen HX7.out 0; have fz1 := blk_frozen HX7.out 1))
            have hb9 := (HY.out.setCell (p := ⟨gc, 0, none⟩) (Nat.le_of_eq HG.out.symm) (.string t1)).setCell (p := ⟨gc, 1, none⟩) (Nat.le_of_eq HG.out.symm) (.string t2)
            have hx9 := blk_put (blk_put HX7.out 0 (.string t1) rfl) 1 (.string t2) rfl
            generalize World.setCell (World.setCell w7 _ _) _ _ = w9 at *
            clear x0 x1 z0 z1 fz0 fz1 HX7 HY HG
            have x0 : w9.cell? ⟨gc, 0, none⟩ = some (.string t1) := (blk_cell hx9 0).trans rfl
            have x1 : w9.cell? ⟨gc, 1, none⟩ = some (.string t2) := (blk_cell hx9 1).trans rfl
            have HW9 := Lib.hid (HW.out.trans (hb9.mono HW.out.size))
            have hx4 := blk_below HX8.out HW9.out
            have y0 : w9.cell? ⟨gb, 0, none⟩ = some (.string s1) := (blk_cell hx4 0).trans rfl
            have y1 : w9.cell? ⟨gb, 1, none⟩ = some (.string s2) := (blk_cell hx4 1).trans rfl
            clear hx9 hb9 hx4 HW d1 d2
            cases b with
            | true =>
              go_wp2
              go_roundw
              case rel => exact ⟨j + 1, true, by rw [hwj], rfl, HLj.out, Lib.hid (fun _ => rfl), HW9⟩
              case measure =>
                rw [hwj]
                have hm := HLj.out
                show ps.length - ((j + 1 : Nat) : Int).toNat < ps.length - ((j : Int)).toNat
                rw [Int.toNat_natCast, Int.toNat_natCast]
                omega
            | false =>
              have hq := eq24 s1 s2 t1 t2
              by_cases m4 : s1 = t1 ∧ s2 = t2
              · have d3 : (s1.toList == t1.toList) = true := str_beq_true m4.1
                have d4 : (s2.toList == t2.toList) = true := str_beq_true m4.2
                clear m4
                go_wp2
                go_roundw
                case rel => exact ⟨j + 1, true, by rw [hwj], rfl, HLj.out, Lib.hid (fun _ => rfl), HW9⟩
                case measure =>
                  rw [hwj]
                  have hm := HLj.out
                  show ps.length - ((j + 1 : Nat) : Int).toNat < ps.length - ((j : Int)).toNat
                  rw [Int.toNat_natCast, Int.toNat_natCast]
                  omega
              · have d3 : ((s1.toList == t1.toList) && (s2.toList == t2.toList)) = false := by
                  by_cases e1 : s1 = t1
                  · rw [str_beq_false (s := s2) (t := t2) (fun e2 => m4 ⟨e1, e2⟩), Bool.and_false]
                  · rw [str_beq_false e1, Bool.false_and]
                have HNe := Lib.hid m4
                have hq2 : ∀ u, (Op.equalIn 10000 24 (.agg #[.string s1, .string s2]) (.agg #[.string t1, .string t2])).run Try.prog u = .ok false u := fun u => (hq u).trans (by rw [d3])
                clear m4 hq d3
                go_wp2
                go_roundw
                case rel => exact ⟨j + 1, false, by rw [hwj], rfl, HLj.out, Lib.hid (fun h => by
                  obtain ⟨i, hi, he⟩ := h
                  by_cases e : i = j
                  · subst e
                    rw [HPr2.out] at he
                    cases he
                    exact absurd ⟨rfl, rfl⟩ HNe.out
                  · exact HV.out ⟨i, by omega, he⟩), HW9⟩
                case measure =>
                  rw [hwj]
                  have hm := HLj.out
                  show ps.length - ((j + 1 : Nat) : Int).toNat < ps.length - ((j : Int)).toNat
                  rw [Int.toNat_natCast, Int.toNat_natCast]
                  omega
          · have d1 : decide ((j : Int) < (ps.length : Int)) = false := decide_eq_false (by omega)
            have d2 : decide (j < ps.length) = false := decide_eq_false hlj
            obtain rfl : j = ps.length := by omega
            have hb : b = true := HV.out (by
              obtain ⟨i, hi, e⟩ := List.getElem_of_mem HMem.out
              refine ⟨i, hi, ?_⟩
              unfold rdP
              rw [List.getD_eq_getElem?_getD, List.getElem?_eq_getElem hi, e]
              rfl)
            subst hb
            have hx4 := blk_below HX8.out HW.out
            have y0 : wr.cell? ⟨gb, 0, none⟩ = some (.string s1) := (blk_cell hx4 0).trans rfl
            have HW3 := Lib.hid (show Below w3.heap.size w3 wr from HW8.out.trans (HW.out.mono HW8.out.size))
            clear hj hlj hwj hx4 HV HMem
            have HI := Lib.hid HW3.out
            by_cases hk0 : k = 0
            · have d5 : decide (0 < (k : Int)) = false := decide_eq_false (by omega)
              have d6 : decide (0 < k) = false := decide_eq_false (by omega)
              clear hk0
              go_upto_region 27 with (fail)
              refine start_ (n := 17) (S := fun w' => True) (ds := []) #[false, false, false, false, false, false, false, false, false, false, false, false, false, false, false, false, false] (by kernel_rfl) rfl rfl trivial (fun hHeld => ?_)
              refine pure_ (i := 0) (N := some 78) (v := ?_) (a' := ?_) #[true, false, false, false, false, false, false, false, false, false, false, false, false, false, false, false, false] rfl rfl (by kernel_rfl) (fun _ _ _ h => h) (Or.inl ⟨by rfl, ?_⟩) ?_ ?_
              rotate_left
              · intro w'
                go_simp
                with_reducible rfl
              rotate_left
              · simp only [Act.put, List.setIfInBounds_toArray, List.set_cons_zero, List.set_cons_succ, i64_w, i32_w]
                rfl
              refine pure_ (i := 1) (N := some 79) (v := ?_) (a' := ?_) #[true, true, false, false, false, false, false, false, false, false, false, false, false, false, false, false, false] rfl rfl (by kernel_rfl) (fun _ _ _ h => h) (Or.inl ⟨by rfl, ?_⟩) ?_ ?_
              rotate_left
              · intro w'
                go_simp
                with_reducible rfl
              rotate_left
              · simp only [Act.put, List.setIfInBounds_toArray, List.set_cons_zero, List.set_cons_succ, i64_w, i32_w]
                rfl
              refine pure_ (i := 2) (N := some 80) (v := ?_) (a' := ?_) #[true, true, true, false, false, false, false, false, false, false, false, false, false, false, false, false, false] rfl rfl (by kernel_rfl) (fun _ _ _ h => h) (Or.inl ⟨by rfl, ?_⟩) ?_ ?_
              rotate_left
              · intro w'
                go_simp
                with_reducible rfl
              rotate_left
              · simp only [Act.put, List.setIfInBounds_toArray, List.set_cons_zero, List.set_cons_succ, i64_w, i32_w]
                rfl
              refine pure_ (i := 3) (N := some 81) (v := ?_) (a' := ?_) #[true, true, true, true, false, false, false, false, false, false, false, false, false, false, false, false, false] rfl rfl (by kernel_rfl) (fun _ _ _ h => h) (Or.inl ⟨by rfl, ?_⟩) ?_ ?_
              rotate_left
              · intro w'
                go_simp
                with_reducible rfl
              rotate_left
              · simp only [Act.put, List.setIfInBounds_toArray, List.set_cons_zero, List.set_cons_succ, i64_w, i32_w]
                rfl
              refine pure_ (i := 4) (N := some 82) (v := ?_) (a' := ?_) #[true, true, true, true, true, false, false, false, false, false, false, false, false, false, false, false, false] rfl rfl (by kernel_rfl) (fun _ _ _ h => h) (Or.inl ⟨by rfl, ?_⟩) ?_ ?_
              rotate_left
              · intro w'
                go_simp
                with_reducible rfl
              rotate_left
              · simp only [Act.put, List.setIfInBounds_toArray, List.set_cons_zero, List.set_cons_succ, i64_w, i32_w]
                rfl
              refine pure_ (i := 5) (N := some 83) (v := ?_) (a' := ?_) #[true, true, true, true, true, true, false, false, false, false, false, false, false, false, false, false, false] rfl rfl (by kernel_rfl) (fun _ _ _ h => h) (Or.inl ⟨by rfl, ?_⟩) ?_ ?_
              rotate_left
              · intro w'
                go_simp
                with_reducible rfl
              rotate_left
              · simp only [Act.put, List.setIfInBounds_toArray, List.set_cons_zero, List.set_cons_succ, i64_w, i32_w]
                rfl
              refine pure_ (i := 6) (N := some 84) (v := undef) (a' := ?_) #[true, true, true, true, true, true, true, false, false, false, false, false, false, false, false, false, false] rfl rfl (by kernel_rfl) (fun _ _ _ h => h) (Or.inr ⟨by rfl, rfl⟩) ?_ ?_
              rotate_left
              · simp only [Act.put, List.setIfInBounds_toArray, List.set_cons_zero, List.set_cons_succ, i64_w, i32_w]
                rfl
              refine pure_ (i := 7) (N := some 85) (v := undef) (a' := ?_) #[true, true, true, true, true, true, true, true, false, false, false, false, false, false, false, false, false] rfl rfl (by kernel_rfl) (fun _ _ _ h => h) (Or.inr ⟨by rfl, rfl⟩) ?_ ?_
              rotate_left
              · simp only [Act.put, List.setIfInBounds_toArray, List.set_cons_zero, List.set_cons_succ, i64_w, i32_w]
                rfl
              refine pure_ (i := 8) (N := some 86) (v := undef) (a' := ?_) #[true, true, true, true, true, true, true, true, true, false, false, false, false, false, false, false, false] rfl rfl (by kernel_rfl) (fun _ _ _ h => h) (Or.inr ⟨by rfl, rfl⟩) ?_ ?_
              rotate_left
              · simp only [Act.put, List.setIfInBounds_toArray, List.set_cons_zero, List.set_cons_succ, i64_w, i32_w]
                rfl
              refine pure_ (i := 9) (N := some 87) (v := undef) (a' := ?_) #[true, true, true, true, true, true, true, true, true, true, false, false, false, false, false, false, false] rfl rfl (by kernel_rfl) (fun _ _ _ h => h) (Or.inr ⟨by rfl, rfl⟩) ?_ ?_
              rotate_left
              · simp only [Act.put, List.setIfInBounds_toArray, List.set_cons_zero, List.set_cons_succ, i64_w, i32_w]
                rfl
              refine pure_ (i := 10) (N := some 88) (v := undef) (a' := ?_) #[true, true, true, true, true, true, true, true, true, true, true, false, false, false, false, false, false] rfl rfl (by kernel_rfl) (fun _ _ _ h => h) (Or.inr ⟨by rfl, rfl⟩) ?_ ?_
              rotate_left
              · simp only [Act.put, List.setIfInBounds_toArray, List.set_cons_zero, List.set_cons_succ, i64_w, i32_w]
                rfl
              refine pure_ (i := 11) (N := some 89) (v := undef) (a' := ?_) #[true, true, true, true, true, true, true, true, true, true, true, true, false, false, false, false, false] rfl rfl (by kernel_rfl) (fun _ _ _ h => h) (Or.inr ⟨by rfl, rfl⟩) ?_ ?_
              rotate_left
              · simp only [Act.put, List.setIfInBounds_toArray, List.set_cons_zero, List.set_cons_succ, i64_w, i32_w]
                rfl
              refine pure_ (i := 12) (N := some 90) (v := undef) (a' := ?_) #[true, true, true, true, true, true, true, true, true, true, true, true, true, false, false, false, false] rfl rfl (by kernel_rfl) (fun _ _ _ h => h) (Or.inr ⟨by rfl, rfl⟩) ?_ ?_
              rotate_left
              · simp only [Act.put, List.setIfInBounds_toArray, List.set_cons_zero, List.set_cons_succ, i64_w, i32_w]
                rfl
              refine pure_ (i := 13) (N := some 91) (v := undef) (a' := ?_) #[true, true, true, true, true, true, true, true, true, true, true, true, true, true, false, false, false] rfl rfl (by kernel_rfl) (fun _ _ _ h => h) (Or.inr ⟨by rfl, rfl⟩) ?_ ?_
              rotate_left
              · simp only [Act.put, List.setIfInBounds_toArray, List.set_cons_zero, List.set_cons_succ, i64_w, i32_w]
                rfl
              refine pure_ (i := 14) (N := some 92) (v := undef) (a' := ?_) #[true, true, true, true, true, true, true, true, true, true, true, true, true, true, true, false, false] rfl rfl (by kernel_rfl) (fun _ _ _ h => h) (Or.inr ⟨by rfl, rfl⟩) ?_ ?_
              rotate_left
              · simp only [Act.put, List.setIfInBounds_toArray, List.set_cons_zero, List.set_cons_succ, i64_w, i32_w]
                rfl
              refine pure_ (i := 15) (N := some 93) (v := ?_) (a' := ?_) #[true, true, true, true, true, true, true, true, true, true, true, true, true, true, true, true, false] rfl rfl (by kernel_rfl) (fun _ _ _ h => h) (Or.inl ⟨by rfl, ?_⟩) ?_ ?_
              rotate_left
              · intro w'
                go_simp
                with_reducible rfl
              rotate_left
              · simp only [Act.put, List.setIfInBounds_toArray, List.set_cons_zero, List.set_cons_succ, i64_w, i32_w]
                rfl
              refine pure_ (i := 16) (N := some 94) (v := ?_) (a' := ?_) #[true, true, true, true, true, true, true, true, true, true, true, true, true, true, true, true, true] rfl rfl (by kernel_rfl) (fun _ _ _ h => h) (Or.inl ⟨by rfl, ?_⟩) ?_ ?_
              rotate_left
              · intro w'
                go_simp
                with_reducible rfl
              rotate_left
              · simp only [Act.put, List.setIfInBounds_toArray, List.set_cons_zero, List.set_cons_succ, i64_w, i32_w]
                rfl
              refine done_ (by kernel_rfl) ?_
              go_wp2
              go_roundw
              case rel => exact ⟨k + 1, by rw [hw], HLk.out, Lib.hid (HW3.out.trans (Below.refl _ _).drew)⟩
              case measure =>
                rw [hw]
                have hm := HLk.out
                show ps.length - ((k + 1 : Nat) : Int).toNat < ps.length - ((k : Int)).toNat
                rw [Int.toNat_natCast, Int.toNat_natCast]
                omega
            · obtain ⟨m, rfl⟩ : ∃ m, k = m + 1 := ⟨k - 1, by omega⟩
              have d5 : decide (0 < ((m + 1 : Nat) : Int)) = true := decide_eq_true (by omega)
              have wm : wrap64 (((m + 1 : Nat) : Int) - 1) = (m : Int) := by have := HN.out; have := HLk.out; unfold wrap64; omega
              have hw2 : wrap64 ((m : Int) + 1 + 1) = ((m + 1 + 1 : Nat) : Int) := hw
              have wm2 : wrap64 (m : Int) = (m : Int) := by have := HN.out; have := HLk.out; unfold wrap64; omega
              obtain ⟨ad3, e3, z0, _⟩ := at_P HC2.out m (by have := HLk.out; omega)
              cases e3
              replace z0 := (HW3.out.cell (World.block_lt_of_cell? w3 _ z0)).trans z0
              have HInc := Lib.hid (HTo.out.inc m (by rw [HOl.out]; exact HLk.out))
              generalize rdP out m = pm at z0 HInc
              obtain ⟨u1, u2⟩ := pm
              change wr.cell? (ad.add (m * 2)) = some (.string u1) at z0
              have r3 : (0 ≤ (m : Int)) = True := eq_true (by omega)
              have r4 : ((m : Int) < (ps.length : Int)) = True := eq_true (by have := HLk.out; omega)
              have r5 : decide ((m : Int) < (ps.length : Int)) = true := decide_eq_true (by have := HLk.out; omega)
              have dB : Op.bytesLess u1.toList s1.toList = true := by
                have h := HInc.out
                rw [HPr.out] at h
                rw [Go.Proofs.bytesLess_eq, ByteArray.toList_eq, ByteArray.toList_eq]
                exact decide_eq_true h
              have hge : ∀ u, (binOp .geq 9 (.string u1) (.string s1)).run Try.prog u = .ok (.bool false) u := fun u => by simp [binOp, Op.stringOp, dB]
              clear hk0
              go_upto_region 27 with (fail)
              refine start_ (n := 17) (S := fun w' => w'.cell? (ad.add (m * 2)) = some (.string u1) ∧ w'.cell? ⟨gb, 0, none⟩ = some (.string s1)) (ds := []) #[false, false, false, false, false, false, false, false, false, false, false, false, false, false, false, false, false] (by kernel_rfl) rfl rfl ⟨z0, y0⟩ (fun hHeld => ?_)
              refine pure_ (i := 0) (N := some 78) (v := ?_) (a' := ?_) #[true, false, false, false, false, false, false, false, false, false, false, false, false, false, false, false, false] rfl rfl (by kernel_rfl) (fun _ _ _ h => h) (Or.inl ⟨by rfl, ?_⟩) ?_ ?_
              rotate_left
              · intro w'
                go_simp
                with_reducible rfl
              rotate_left
              · simp only [Act.put, List.setIfInBounds_toArray, List.set_cons_zero, List.set_cons_succ, i64_w, i32_w]
                rfl
              refine pure_ (i := 1) (N := some 79) (v := ?_) (a' := ?_) #[true, true, false, false, false, false, false, false, false, false, false, false, false, false, false, false, false] rfl rfl (by kernel_rfl) (fun _ _ _ h => h) (Or.inl ⟨by rfl, ?_⟩) ?_ ?_
              rotate_left
              · intro w'
                go_simp
                with_reducible rfl
              rotate_left
              · simp only [Act.put, List.setIfInBounds_toArray, List.set_cons_zero, List.set_cons_succ, i64_w, i32_w]
                rfl
              refine pure_ (i := 2) (N := some 80) (v := ?_) (a' := ?_) #[true, true, true, false, false, false, false, false, false, false, false, false, false, false, false, false, false] rfl rfl (by kernel_rfl) (fun _ _ _ h => h) (Or.inl ⟨by rfl, ?_⟩) ?_ ?_
              rotate_left
              · intro w'
                go_simp
                with_reducible rfl
              rotate_left
              · simp only [Act.put, List.setIfInBounds_toArray, List.set_cons_zero, List.set_cons_succ, i64_w, i32_w]
                rfl
              refine pure_ (i := 3) (N := some 81) (v := ?_) (a' := ?_) #[true, true, true, true, false, false, false, false, false, false, false, false, false, false, false, false, false] rfl rfl (by kernel_rfl) (fun _ _ _ h => h) (Or.inl ⟨by rfl, ?_⟩) ?_ ?_
              rotate_left
              · intro w'
                go_simp
                with_reducible rfl
              rotate_left
              · simp only [Act.put, List.setIfInBounds_toArray, List.set_cons_zero, List.set_cons_succ, i64_w, i32_w]
                rfl
              refine pure_ (i := 4) (N := some 82) (v := ?_) (a' := ?_) #[true, true, true, true, true, false, false, false, false, false, false, false, false, false, false, false, false] rfl rfl (by kernel_rfl) (fun _ _ _ h => h) (Or.inl ⟨by rfl, ?_⟩) ?_ ?_
              rotate_left
              · intro w'
                go_simp
                with_reducible rfl
              rotate_left
              · simp only [Act.put, List.setIfInBounds_toArray, List.set_cons_zero, List.set_cons_succ, i64_w, i32_w]
                rfl
              refine pure_ (i := 5) (N := some 83) (v := ?_) (a' := ?_) #[true, true, true, true, true, true, false, false, false, false, false, false, false, false, false, false, false] rfl rfl (by kernel_rfl) (fun _ _ _ h => h) (Or.inl ⟨by rfl, ?_⟩) ?_ ?_
              rotate_left
              · intro w'
                go_simp
                with_reducible rfl
              rotate_left
              · simp only [Act.put, List.setIfInBounds_toArray, List.set_cons_zero, List.set_cons_succ, i64_w, i32_w]
                rfl
              refine pure_ (i := 6) (N := some 84) (v := ?_) (a' := ?_) #[true, true, true, true, true, true, true, false, false, false, false, false, false, false, false, false, false] rfl rfl (by kernel_rfl) (fun _ _ _ h => h) (Or.inl ⟨by rfl, ?_⟩) ?_ ?_
              rotate_left
              · intro w'
                go_simp
                with_reducible rfl
              rotate_left
              · simp only [Act.put, List.setIfInBounds_toArray, List.set_cons_zero, List.set_cons_succ, i64_w, i32_w]
                rfl
              refine pure_ (i := 7) (N := some 85) (v := ?_) (a' := ?_) #[true, true, true, true, true, true, true, true, false, false, false, false, false, false, false, false, false] rfl rfl (by kernel_rfl) (fun _ _ _ h => h) (Or.inl ⟨by rfl, ?_⟩) ?_ ?_
              rotate_left
              · intro w'
                go_simp
                with_reducible rfl
              rotate_left
              · simp only [Act.put, List.setIfInBounds_toArray, List.set_cons_zero, List.set_cons_succ, i64_w, i32_w]
                rfl
              refine pure_ (i := 8) (N := some 86) (v := ?_) (a' := ?_) #[true, true, true, true, true, true, true, true, true, false, false, false, false, false, false, false, false] rfl rfl (by kernel_rfl) (fun _ _ _ h => h) (Or.inl ⟨by rfl, ?_⟩) ?_ ?_
              rotate_left
              · intro w'
                go_simp
                with_reducible rfl
              rotate_left
              · simp only [Act.put, List.setIfInBounds_toArray, List.set_cons_zero, List.set_cons_succ, i64_w, i32_w]
                rfl
              refine pure_ (i := 9) (N := some 87) (v := ?_) (a' := ?_) #[true, true, true, true, true, true, true, true, true, true, false, false, false, false, false, false, false] rfl rfl (by kernel_rfl) (fun _ _ _ h => h) (Or.inl ⟨by rfl, ?_⟩) ?_ ?_
              rotate_left
              · intro w'
                go_simp
                with_reducible rfl
              rotate_left
              · simp only [Act.put, List.setIfInBounds_toArray, List.set_cons_zero, List.set_cons_succ, i64_w, i32_w]
                rfl
              refine pure_ (i := 10) (N := some 88) (v := ?_) (a' := ?_) #[true, true, true, true, true, true, true, true, true, true, true, false, false, false, false, false, false] rfl rfl (by kernel_rfl) (fun _ _ _ h => h) (Or.inl ⟨by rfl, ?_⟩) ?_ ?_
              rotate_left
              · intro w'
                go_simp
                with_reducible rfl
              rotate_left
              · simp only [Act.put, List.setIfInBounds_toArray, List.set_cons_zero, List.set_cons_succ, i64_w, i32_w]
                rfl
              refine pure_ (i := 12) (N := some 90) (v := ?_) (a' := ?_) #[true, true, true, true, true, true, true, true, true, true, true, false, true, false, false, false, false] rfl rfl (by kernel_rfl) (fun _ _ _ h => h) (Or.inl ⟨by rfl, ?_⟩) ?_ ?_
              rotate_left
              · intro w'
                go_simp
                with_reducible rfl
              rotate_left
              · simp only [Act.put, List.setIfInBounds_toArray, List.set_cons_zero, List.set_cons_succ, i64_w, i32_w]
                rfl
              refine take_ (i := 11) (N := some 89) (v := ?_) (a' := ?_) #[true, true, true, true, true, true, true, true, true, true, true, true, true, false, false, false, false] rfl rfl (by kernel_rfl) (fun _ _ _ h => h) (Or.inl ⟨by rfl, ?_⟩) hHeld ?_ ?_
              rotate_left
              · rintro w' ⟨s0, s1⟩
                go_simp
                with_reducible rfl
              rotate_left
              · simp only [Act.put, List.setIfInBounds_toArray, List.set_cons_zero, List.set_cons_succ, i64_w, i32_w]
                rfl
              refine take_ (i := 13) (N := some 91) (v := ?_) (a' := ?_) #[true, true, true, true, true, true, true, true, true, true, true, true, true, true, false, false, false] rfl rfl (by kernel_rfl) (fun _ _ _ h => h) (Or.inl ⟨by rfl, ?_⟩) hHeld ?_ ?_
              rotate_left
              · rintro w' ⟨s0, s1⟩
                go_simp
                with_reducible rfl
              rotate_left
              · simp only [Act.put, List.setIfInBounds_toArray, List.set_cons_zero, List.set_cons_succ, i64_w, i32_w]
                rfl
              refine pure_ (i := 14) (N := some 92) (v := ?_) (a' := ?_) #[true, true, true, true, true, true, true, true, true, true, true, true, true, true, true, false, false] rfl rfl (by kernel_rfl) (fun _ _ _ h => h) (Or.inl ⟨by rfl, ?_⟩) ?_ ?_
              rotate_left
              · intro w'
                go_simp
                with_reducible rfl
              rotate_left
              · simp only [Act.put, List.setIfInBounds_toArray, List.set_cons_zero, List.set_cons_succ, i64_w, i32_w]
                rfl
              refine pure_ (i := 15) (N := some 93) (v := ?_) (a' := ?_) #[true, true, true, true, true, true, true, true, true, true, true, true, true, true, true, true, false] rfl rfl (by kernel_rfl) (fun _ _ _ h => h) (Or.inl ⟨by rfl, ?_⟩) ?_ ?_
              rotate_left
              · intro w'
                go_simp
                with_reducible rfl
              rotate_left
              · simp only [Act.put, List.setIfInBounds_toArray, List.set_cons_zero, List.set_cons_succ, i64_w, i32_w]
                rfl
              refine pure_ (i := 16) (N := some 94) (v := ?_) (a' := ?_) #[true, true, true, true, true, true, true, true, true, true, true, true, true, true, true, true, true] rfl rfl (by kernel_rfl) (fun _ _ _ h => h) (Or.inl ⟨by rfl, ?_⟩) ?_ ?_
              rotate_left
              · intro w'
                go_simp
                with_reducible rfl
              rotate_left
              · simp only [Act.put, List.setIfInBounds_toArray, List.set_cons_zero, List.set_cons_succ, i64_w, i32_w]
                rfl
              refine done_ (by kernel_rfl) ?_
              go_wp2
              go_roundw
              case rel => exact ⟨m + 1 + 1, by rw [hw2], HLk.out, Lib.hid (HW3.out.trans (Below.refl _ _).drew)⟩
              case measure =>
                rw [hw2]
                have hm := HLk.out
                show ps.length - ((m + 1 + 1 : Nat) : Int).toNat < ps.length - (((m + 1 : Nat) : Int)).toNat
                rw [Int.toNat_natCast, Int.toNat_natCast]
                omega
        · have d1 : decide ((k : Int) < (ps.length : Int)) = false := decide_eq_false (by omega)
          have d2 : decide (k < ps.length) = false := decide_eq_false hlt
          clear hk hlt hw
          go_wp2_with (first | (go_at_call 5; (with_reducible refine (ab_calls wr).mono ?_); rintro e wx ⟨Ax, cx, hb, rfl⟩; have HBx := Lib.hid (show Below w.heap.size w wx from HF3.out.trans (hb.mono HF3.out.size)); clear hb))
          go_ret
          exact ⟨rfl, HBx.out⟩
  · have HCall := Lib.hid (Fits8.calls A0 c0 ps false w HC.out ⟨fun h => (by cases h), fun h => absurd h hf⟩)
    clear hf
    go_wp2_with (first | (go_at_call 4; (with_reducible refine HCall.out.mono ?_); rintro e w2 ⟨rfl, hb⟩; have HB2 := Lib.hid hb; clear hb))
    go_ret
    exact ⟨rfl, HB2.out⟩
end Go.Proofs.Ythepcahgipglcaa
