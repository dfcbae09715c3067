/- NewSymbolMap, table, walked: the table that is made of a list of symbols. -/
import Derived.Test.YtfjfacgbambbdaaDoorExtFollow
import Derived.Deep.RegionLaw
import Derived.StillTailTactics
set_option linter.unusedVariables false
set_option linter.unusedSimpArgs false
namespace Go.Proofs.YtfjfacgbambbdaaDoor
open Go.RowKit Go.Proofs.YtfjfacgbambbdaaDoorW.PrintWords Go.Proofs.YtfjfacgbambbdaaDoorW.PrintLast Go.Proofs.YtfjfacgbambbdaaDoorW.PrintMore Go.Proofs.YtfjfacgbambbdaaDoor.PFnMerged
theorem grown_cell {w w1 : World} {row : Option Nat} {p : Addr} {v : Value} (h : w.grownBy w1 row) (hne : some p.block ≠ row) (hc : w.cell? p = some v) : w1.cell? p = some v :=
  (World.cell?_of_block (h.block p.block (World.block_lt_of_cell? w _ hc) hne)).trans hc
theorem alloc2' (w : World) (o1 o2 : Obj) : Below w.heap.size w ((w.alloc o1).alloc o2) ∧ ((w.alloc o1).alloc o2).heap[w.heap.size]? = some o1 ∧ ((w.alloc o1).alloc o2).heap[w.heap.size + 1]? = some o2 := by
  have e1 : (w.alloc o1).heap.size = w.heap.size + 1 := by simp
  have f2 := heap_alloc_new (w.alloc o1) o2
  rw [e1] at f2
  exact ⟨below_alloc (below_alloc (Below.refl _ _) _) _, by rw [Below.heap_alloc _ _ _ (by omega)]; exact heap_alloc_new w _, f2⟩
set_option maxHeartbeats 4000000 in
set_option maxRecDepth 100000 in
theorem NewMap.calls (w : World) : Calls Tryd.prog 21 #[.int .i64 1] w fun e w' => ∃ gO : Nat, (w.heap.size ≤ gO ∧ w'.heap[gO]? = some (.cells #[.slice none 0 0] 51 (0, 0)) ∧ Below w.heap.size w w') ∧ e = .returned (.agg #[.slice (some ⟨gO, 0, none⟩) 1 1]) := by
  have hmk : ∀ u : World, (Instr.makeSlice 42 (.int .i64 1) (.int .i64 1)).run Tryd.prog u = .ok (.slice (some ⟨u.heap.size, 0, none⟩) 1 1) (u.alloc (.cells #[.slice none 0 0] 51 (0, 0))) := fun u => by kernel_rfl
  go_enter Tryd.func21, Tryd.ntmps21
  go_wp2
  have h := alloc2' w (.cells #[.slice (some ⟨w.heap.size + 1, 0, none⟩) 1 1] 44 (0, 0)) (.cells #[.slice none 0 0] 51 (0, 0))
  refine bodyPost_ret (results_cell_row rfl _ _ w.heap.size 44 _ (0, 0) _ rfl h.2.1 Tryd.underlying44 rfl (by kernel_rfl)) rfl ?_
  exact ⟨w.heap.size + 1, ⟨by omega, h.2.2, h.1⟩, rfl⟩
def toSy (x : S35) : Sy := ⟨x.f0, none, x.f1, IntKind.u16.wrap x.f2, IntKind.u8.wrap x.f3⟩
theorem map_take_succ (l : List S35) (i : Nat) (h : i < l.length) : (l.map toSy).take (i + 1) = (l.map toSy).take i ++ [toSy (rd_T35 l i)] := by
  have e : rd_T35 l i = l[i] := by
    unfold rd_T35
    rw [Int.toNat_natCast, List.getD_eq_getElem?_getD, List.getElem?_eq_getElem h]
    rfl
  rw [List.take_succ_eq_append_getElem (by rw [List.length_map]; exact h), e]
  simp
set_option maxHeartbeats 4000000 in
set_option maxRecDepth 100000 in
theorem Table.calls (A0 : Option Addr) (c0 : Nat) (l0 : List S35) (w : World) (hr0 : Kd.C k35 w A0 l0.length l0) (hc0 : l0.length ≤ c0) (hll : l0.length ≤ 200) (hinv : Inv w) :
    Calls Tryd.prog 15 #[.slice A0 l0.length c0] w fun e w' => ∃ (gO : Nat) (V : Value), (w.heap.size ≤ gO ∧ w'.heap[gO]? = some (.cells #[V] 51 (0, 0)) ∧ kSy.R 60 w' w.heap.size (fun k => k ≠ 0 ∧ k ≠ gO) V (l0.map toSy) ∧ Below w.heap.size w w') ∧ e = .returned (.agg #[.slice (some ⟨gO, 0, none⟩) 1 1]) := by
  have HR0 := Lib.hid hr0
  have HL := Lib.hid hll
  have HI := Lib.hid hinv
  have HP := Lib.hid (Inv.lt hinv)
  clear hr0 hc0 hll hinv
  have hbW := below_alloc (Below.refl w.heap.size w) (.cells #[.slice none 0 0] 44 (0, 0))
  have hx2 := heap_alloc_new w (.cells #[.slice none 0 0] 44 (0, 0))
  generalize hWW : w.alloc _ = W at hbW hx2
  have HWW := Lib.hid hWW
  have HW := Lib.hid hbW
  have HX2 := Lib.hid hx2
  clear hWW hbW hx2
  go_enter Tryd.func15, Tryd.ntmps15
  go_wp2_with (first | (go_at_call 21; rw [HWW.out]; (with_reducible refine (NewMap.calls W).mono ?_); rintro e w1 ⟨gO, hq, rfl⟩; have HQ1 := Lib.hid hq; clear hq))
  have hb3 := below_alloc (Below.refl w1.heap.size w1) (.cells #[.slice (some ⟨gO, 0, none⟩) 1 1] 44 (0, 0))
  have hx3 := heap_alloc_new w1 (.cells #[.slice (some ⟨gO, 0, none⟩) 1 1] 44 (0, 0))
  have hOlt : gO < w1.heap.size := blk_lt HQ1.out.2.1
  have h2lt : w.heap.size < W.heap.size := blk_lt HX2.out
  generalize w1.alloc _ = W3 at *
  have HX3 := Lib.hid hx3
  have HO3 := Lib.hid ((hb3.block gO hOlt).trans HQ1.out.2.1)
  have H23 := Lib.hid ((hb3.block w.heap.size (Nat.lt_of_lt_of_le h2lt HQ1.out.2.2.size)).trans ((HQ1.out.2.2.block w.heap.size h2lt).trans HX2.out))
  have HF3 := Lib.hid (HW.out.trans ((HQ1.out.2.2.mono HW.out.size).trans (hb3.mono (Nat.le_trans HW.out.size HQ1.out.2.2.size))))
  have HN := Lib.hid (show w.heap.size < gO ∧ gO < w1.heap.size from ⟨Nat.lt_of_lt_of_le h2lt HQ1.out.1, hOlt⟩)
  generalize w1.heap.size = g3 at *
  clear hb3 hx3 hOlt h2lt HQ1 HX2 HW HWW
  go_loopw [9] (fun v9 wr => ∃ (i : Nat) (V : Value), v9 = .int .i64 (i : Int) ∧ i ≤ l0.length ∧ Hid (wr.heap[w.heap.size]? = some (.cells #[.slice none 0 0] 44 (0, 0))) ∧ Hid (wr.heap[g3]? = some (.cells #[.slice (some ⟨gO, 0, none⟩) 1 1] 44 (0, 0))) ∧ Hid (wr.heap[gO]? = some (.cells #[V] 51 (0, 0))) ∧ Hid (kSy.R 60 wr w.heap.size (fun k => k ≠ 0 ∧ k ≠ gO ∧ k ≠ w.heap.size ∧ k ≠ g3) V ((l0.map toSy).take i)) ∧ Hid (Below w.heap.size w wr)) (fun v9 _ => l0.length - (intOf v9).toNat)
  case atStart => exact ⟨0, .slice none 0 0, rfl, Nat.zero_le _, H23, HX3, HO3, Lib.hid (Kd.R_nil _ _ _ _ _), HF3⟩
  clear H23 HX3 HO3 HF3
  obtain ⟨i, V, rfl, hi, H2, H3, HO, HRow, HB⟩ := hrel
  by_cases hlt : i < l0.length
  · have p1 : (0 : Int) ≤ (i : Int) := by omega
    have q1 : (i : Int) < (l0.length : Int) := by omega
    have d1 : decide ((i : Int) < (l0.length : Int)) = true := decide_eq_true q1
    have d2 : decide (i < l0.length) = true := decide_eq_true hlt
    have hw : wrap64 ((i : Int) + 1) = ((i + 1 : Nat) : Int) := by have := HL.out; unfold wrap64; omega
    obtain ⟨ad, e1, x0, x1, x2, x3⟩ := at_T35 HR0.out i p1 q1
    cases e1
    rw [Int.toNat_natCast] at x0 x1 x2 x3
    replace x0 := (HB.out.cell (World.block_lt_of_cell? w _ x0)).trans x0
    replace x1 := (HB.out.cell (World.block_lt_of_cell? w _ x1)).trans x1
    replace x2 := (HB.out.cell (World.block_lt_of_cell? w _ x2)).trans x2
    replace x3 := (HB.out.cell (World.block_lt_of_cell? w _ x3)).trans x3
    have HE := Lib.hid (map_take_succ l0 i hlt)
    have HQ := Lib.hid (show ((l0.map toSy).take i).length ≤ 200 from by have := HL.out; rw [List.length_take, List.length_map]; omega)
    generalize rd_T35 l0 i = x at *
    obtain ⟨s, u, fl, kd⟩ := x
    have HM := Lib.hid hlt
    clear hi hlt
    replace p1 := eq_true p1
    replace q1 := eq_true q1
    go_wp2_with (first | ((with_reducible refine gate_dst (N := 5) rfl ?_); refine box_event ?hg (N := 5) ?hd (cs := #[.string (⟨#[]⟩ : ByteArray), .int .u32 0, .int .i64 0, .int .i64 0]) (t := 35) ?hr ?_; (case hd => rfl); (case hg => rfl); (case hr => first | (go_simp; done) | (go_simp; rfl)); intro gb hg w7 hbox hb; have HG := Lib.hid hg; have HY := Lib.hid hb; have HX7 := Lib.hid hbox; clear hg hbox hb; have z0 := (blk_cell HX7.out 0).trans rfl; have z1 := (blk_cell HX7.out 1).trans rfl; have z2 := (blk_cell HX7.out 2).trans rfl; have z3 := (blk_cell HX7.out 3).trans rfl; have fz0 := blk_frozen HX7.out 0; have fz1 := blk_frozen HX7.out 1; have fz2 := blk_frozen HX7.out 2; have fz3 := blk_frozen HX7.out 3))
    have hb8 := (((HY.out.setCell (p := ⟨gb, 0, none⟩) (Nat.le_of_eq HG.out.symm) (.string s)).setCell (p := ⟨gb, 1, none⟩) (Nat.le_of_eq HG.out.symm) (.int .u32 u)).setCell (p := ⟨gb, 2, none⟩) (Nat.le_of_eq HG.out.symm) (.int .i64 fl)).setCell (p := ⟨gb, 3, none⟩) (Nat.le_of_eq HG.out.symm) (.int .i64 kd)
    have hx8 := blk_put (blk_put (blk_put (blk_put HX7.out 0 (.string s) rfl) 1 (.int .u32 u) rfl) 2 (.int .i64 fl) rfl) 3 (.int .i64 kd) rfl
    generalize World.setCell (World.setCell (World.setCell (World.setCell w7 _ _) _ _) _ _) _ _ = w8 at *
    clear x0 x1 x2 x3 z0 z1 z2 z3 fz0 fz1 fz2 fz3 HX7 HY
    have x0 := (blk_cell hx8 0).trans rfl
    have x1 := (blk_cell hx8 1).trans rfl
    have x2 := (blk_cell hx8 2).trans rfl
    have x3 := (blk_cell hx8 3).trans rfl
    have H28 := Lib.hid ((hb8.block _ (blk_lt H2.out)).trans H2.out)
    have H38 := Lib.hid ((hb8.block _ (blk_lt H3.out)).trans H3.out)
    have HO8 := Lib.hid ((hb8.block _ (blk_lt HO.out)).trans HO.out)
    have HI8 := Lib.hid (Inv.via (hb8.block 0 (Nat.lt_of_lt_of_le HP.out HB.out.size)) (Inv.via (HB.out.block 0 HP.out) HI.out))
    have HR8 := Lib.hid (Kd.R_below HRow.out hb8)
    have HB8 := Lib.hid (HB.out.trans (hb8.mono HB.out.size))
    have y0 := (blk_cell H38.out 0).trans rfl
    have y1 := (blk_cell HO8.out 0).trans rfl
    have z0 := Inv.c0 HI8.out
    have z1 := Inv.c1 HI8.out
    clear hx8 hb8 H2 H3 HO HB
    have HOK := Lib.hid (show ∀ k, w8.drew.heap.size ≤ k → k ≠ 0 ∧ k ≠ gO ∧ k ≠ w.heap.size ∧ k ≠ g3 from fun k hk => by
      have a1 := blk_lt HO8.out
      have a2 := blk_lt H28.out
      have a3 := blk_lt H38.out
      have a4 := Inv.lt HI8.out
      have hk' : w8.heap.size ≤ k := hk
      omega)
    have HNE := Lib.hid (show some g3 ≠ V.ownBlock ∧ some gO ≠ V.ownBlock ∧ some gb ≠ V.ownBlock ∧ some 0 ≠ V.ownBlock ∧ some w.heap.size ≠ V.ownBlock from ⟨fun e => (HR8.out.1 g3 e.symm).2.2.2 rfl, fun e => (HR8.out.1 gO e.symm).2.1 rfl, fun e => by have := Kd.R_lt HRow.out gb e.symm; have := HG.out; omega, fun e => (HR8.out.1 0 e.symm).1 rfl, fun e => (HR8.out.1 _ e.symm).2.2.1 rfl⟩)
    refine start_ (n := 22) (S := fun w' => w'.cell? ⟨g3, 0, none⟩ = some (.slice (some ⟨gO, 0, none⟩) 1 1) ∧ w'.cell? ⟨gO, 0, none⟩ = some V ∧ w'.cell? ⟨gb, 0, none⟩ = some (.string s) ∧ w'.cell? ⟨gb, 1, none⟩ = some (.int .u32 u) ∧ w'.cell? ⟨gb, 2, none⟩ = some (.int .i64 fl) ∧ w'.cell? ⟨gb, 3, none⟩ = some (.int .i64 kd) ∧ w'.cell? ⟨0, 0, none⟩ = some (.int .u32 4294967295) ∧ w'.cell? ⟨0, 1, none⟩ = some (.int .u32 4294967295)) (ds := [21]) #[false, false, false, false, false, false, false, false, false, false, false, false, false, false, false, false, false, false, false, false, false, false] (by kernel_rfl) rfl rfl ⟨y0, y1, x0, x1, x2, x3, z0, z1⟩ (fun hHeld => ?_)
    refine pure_ (i := 0) (N := some 13) (v := ?_) (a' := ?_) #[true, false, false, false, false, false, false, false, false, false, false, false, false, false, false, false, false, false, false, false, false, false] rfl rfl (by kernel_rfl) (fun _ _ _ h => h) (Or.inl ⟨by rfl, ?_⟩) ?_ ?_
    rotate_left
    · intro w'
      go_simp
      with_reducible rfl
    rotate_left
    · simp only [Act.put, List.setIfInBounds_toArray, List.set_cons_zero, List.set_cons_succ, i64_w, i32_w]
      rfl
    refine pure_ (i := 2) (N := some 15) (v := ?_) (a' := ?_) #[true, false, true, false, false, false, false, false, false, false, false, false, false, false, false, false, false, false, false, false, false, false] rfl rfl (by kernel_rfl) (fun _ _ _ h => h) (Or.inl ⟨by rfl, ?_⟩) ?_ ?_
    rotate_left
    · intro w'
      go_simp
      with_reducible rfl
    rotate_left
    · simp only [Act.put, List.setIfInBounds_toArray, List.set_cons_zero, List.set_cons_succ, i64_w, i32_w]
      rfl
    refine pure_ (i := 6) (N := some 19) (v := ?_) (a' := ?_) #[true, false, true, false, false, false, true, false, false, false, false, false, false, false, false, false, false, false, false, false, false, false] rfl rfl (by kernel_rfl) (fun _ _ _ h => h) (Or.inl ⟨by rfl, ?_⟩) ?_ ?_
    rotate_left
    · intro w'
      go_simp
      with_reducible rfl
    rotate_left
    · simp only [Act.put, List.setIfInBounds_toArray, List.set_cons_zero, List.set_cons_succ, i64_w, i32_w]
      rfl
    refine pure_ (i := 9) (N := some 22) (v := ?_) (a' := ?_) #[true, false, true, false, false, false, true, false, false, true, false, false, false, false, false, false, false, false, false, false, false, false] rfl rfl (by kernel_rfl) (fun _ _ _ h => h) (Or.inl ⟨by rfl, ?_⟩) ?_ ?_
    rotate_left
    · intro w'
      go_simp
      with_reducible rfl
    rotate_left
    · simp only [Act.put, List.setIfInBounds_toArray, List.set_cons_zero, List.set_cons_succ, i64_w, i32_w]
      rfl
    refine pure_ (i := 11) (N := some 24) (v := ?_) (a' := ?_) #[true, false, true, false, false, false, true, false, false, true, false, true, false, false, false, false, false, false, false, false, false, false] rfl rfl (by kernel_rfl) (fun _ _ _ h => h) (Or.inl ⟨by rfl, ?_⟩) ?_ ?_
    rotate_left
    · intro w'
      go_simp
      with_reducible rfl
    rotate_left
    · simp only [Act.put, List.setIfInBounds_toArray, List.set_cons_zero, List.set_cons_succ, i64_w, i32_w]
      rfl
    refine pure_ (i := 14) (N := some 27) (v := ?_) (a' := ?_) #[true, false, true, false, false, false, true, false, false, true, false, true, false, false, true, false, false, false, false, false, false, false] rfl rfl (by kernel_rfl) (fun _ _ _ h => h) (Or.inl ⟨by rfl, ?_⟩) ?_ ?_
    rotate_left
    · intro w'
      go_simp
      with_reducible rfl
    rotate_left
    · simp only [Act.put, List.setIfInBounds_toArray, List.set_cons_zero, List.set_cons_succ, i64_w, i32_w]
      rfl
    refine take_ (i := 1) (N := some 14) (v := ?_) (a' := ?_) #[true, true, true, false, false, false, true, false, false, true, false, true, false, false, true, false, false, false, false, false, false, false] rfl rfl (by kernel_rfl) (fun _ _ _ h => h) (Or.inl ⟨by rfl, ?_⟩) hHeld ?_ ?_
    rotate_left
    · rintro w' ⟨s0, s1, s2, s3, s4, s5, s6, s7⟩
      go_simp
      with_reducible rfl
    rotate_left
    · simp only [Act.put, List.setIfInBounds_toArray, List.set_cons_zero, List.set_cons_succ, i64_w, i32_w]
      rfl
    refine take_ (i := 3) (N := some 16) (v := ?_) (a' := ?_) #[true, true, true, true, false, false, true, false, false, true, false, true, false, false, true, false, false, false, false, false, false, false] rfl rfl (by kernel_rfl) (fun _ _ _ h => h) (Or.inl ⟨by rfl, ?_⟩) hHeld ?_ ?_
    rotate_left
    · rintro w' ⟨s0, s1, s2, s3, s4, s5, s6, s7⟩
      go_simp
      with_reducible rfl
    rotate_left
    · simp only [Act.put, List.setIfInBounds_toArray, List.set_cons_zero, List.set_cons_succ, i64_w, i32_w]
      rfl
    refine pure_ (i := 4) (N := some 17) (v := ?_) (a' := ?_) #[true, true, true, true, true, false, true, false, false, true, false, true, false, false, true, false, false, false, false, false, false, false] rfl rfl (by kernel_rfl) (fun _ _ _ h => h) (Or.inl ⟨by rfl, ?_⟩) ?_ ?_
    rotate_left
    · intro w'
      go_simp
      with_reducible rfl
    rotate_left
    · simp only [Act.put, List.setIfInBounds_toArray, List.set_cons_zero, List.set_cons_succ, i64_w, i32_w]
      rfl
    refine take_ (i := 5) (N := some 18) (v := ?_) (a' := ?_) #[true, true, true, true, true, true, true, false, false, true, false, true, false, false, true, false, false, false, false, false, false, false] rfl rfl (by kernel_rfl) (fun _ _ _ h => h) (Or.inl ⟨by rfl, ?_⟩) hHeld ?_ ?_
    rotate_left
    · rintro w' ⟨s0, s1, s2, s3, s4, s5, s6, s7⟩
      go_simp
      with_reducible rfl
    rotate_left
    · simp only [Act.put, List.setIfInBounds_toArray, List.set_cons_zero, List.set_cons_succ, i64_w, i32_w]
      rfl
    refine take_ (i := 7) (N := some 20) (v := ?_) (a' := ?_) #[true, true, true, true, true, true, true, true, false, true, false, true, false, false, true, false, false, false, false, false, false, false] rfl rfl (by kernel_rfl) (fun _ _ _ h => h) (Or.inl ⟨by rfl, ?_⟩) hHeld ?_ ?_
    rotate_left
    · rintro w' ⟨s0, s1, s2, s3, s4, s5, s6, s7⟩
      go_simp
      with_reducible rfl
    rotate_left
    · simp only [Act.put, List.setIfInBounds_toArray, List.set_cons_zero, List.set_cons_succ, i64_w, i32_w]
      rfl
    refine take_ (i := 8) (N := some 21) (v := ?_) (a' := ?_) #[true, true, true, true, true, true, true, true, true, true, false, true, false, false, true, false, false, false, false, false, false, false] rfl rfl (by kernel_rfl) (fun _ _ _ h => h) (Or.inl ⟨by rfl, ?_⟩) hHeld ?_ ?_
    rotate_left
    · rintro w' ⟨s0, s1, s2, s3, s4, s5, s6, s7⟩
      go_simp
      with_reducible rfl
    rotate_left
    · simp only [Act.put, List.setIfInBounds_toArray, List.set_cons_zero, List.set_cons_succ, i64_w, i32_w]
      rfl
    refine take_ (i := 10) (N := some 23) (v := ?_) (a' := ?_) #[true, true, true, true, true, true, true, true, true, true, true, true, false, false, true, false, false, false, false, false, false, false] rfl rfl (by kernel_rfl) (fun _ _ _ h => h) (Or.inl ⟨by rfl, ?_⟩) hHeld ?_ ?_
    rotate_left
    · rintro w' ⟨s0, s1, s2, s3, s4, s5, s6, s7⟩
      go_simp
      with_reducible rfl
    rotate_left
    · simp only [Act.put, List.setIfInBounds_toArray, List.set_cons_zero, List.set_cons_succ, i64_w, i32_w]
      rfl
    refine take_ (i := 12) (N := some 25) (v := ?_) (a' := ?_) #[true, true, true, true, true, true, true, true, true, true, true, true, true, false, true, false, false, false, false, false, false, false] rfl rfl (by kernel_rfl) (fun _ _ _ h => h) (Or.inl ⟨by rfl, ?_⟩) hHeld ?_ ?_
    rotate_left
    · rintro w' ⟨s0, s1, s2, s3, s4, s5, s6, s7⟩
      go_simp
      with_reducible rfl
    rotate_left
    · simp only [Act.put, List.setIfInBounds_toArray, List.set_cons_zero, List.set_cons_succ, i64_w, i32_w]
      rfl
    refine pure_ (i := 13) (N := some 26) (v := ?_) (a' := ?_) #[true, true, true, true, true, true, true, true, true, true, true, true, true, true, true, false, false, false, false, false, false, false] rfl rfl (by kernel_rfl) (fun _ _ _ h => h) (Or.inl ⟨by rfl, ?_⟩) ?_ ?_
    rotate_left
    · intro w'
      go_simp
      with_reducible rfl
    rotate_left
    · simp only [Act.put, List.setIfInBounds_toArray, List.set_cons_zero, List.set_cons_succ, i64_w, i32_w]
      rfl
    refine take_ (i := 15) (N := some 28) (v := ?_) (a' := ?_) #[true, true, true, true, true, true, true, true, true, true, true, true, true, true, true, true, false, false, false, false, false, false] rfl rfl (by kernel_rfl) (fun _ _ _ h => h) (Or.inl ⟨by rfl, ?_⟩) hHeld ?_ ?_
    rotate_left
    · rintro w' ⟨s0, s1, s2, s3, s4, s5, s6, s7⟩
      go_simp
      with_reducible rfl
    rotate_left
    · simp only [Act.put, List.setIfInBounds_toArray, List.set_cons_zero, List.set_cons_succ, i64_w, i32_w]
      rfl
    refine pure_ (i := 16) (N := some 29) (v := ?_) (a' := ?_) #[true, true, true, true, true, true, true, true, true, true, true, true, true, true, true, true, true, false, false, false, false, false] rfl rfl (by kernel_rfl) (fun _ _ _ h => h) (Or.inl ⟨by rfl, ?_⟩) ?_ ?_
    rotate_left
    · intro w'
      go_simp
      with_reducible rfl
    rotate_left
    · simp only [Act.put, List.setIfInBounds_toArray, List.set_cons_zero, List.set_cons_succ, i64_w, i32_w]
      rfl
    refine pure_ (i := 17) (N := some 30) (v := ?_) (a' := ?_) #[true, true, true, true, true, true, true, true, true, true, true, true, true, true, true, true, true, true, false, false, false, false] rfl rfl (by kernel_rfl) (fun _ _ _ h => h) (Or.inl ⟨by rfl, ?_⟩) ?_ ?_
    rotate_left
    · intro w'
      go_simp
      with_reducible rfl
    rotate_left
    · simp only [Act.put, List.setIfInBounds_toArray, List.set_cons_zero, List.set_cons_succ, i64_w, i32_w]
      rfl
    refine one_ (i := 18) (N := some 31) #[true, true, true, true, true, true, true, true, true, true, true, true, true, true, true, true, true, true, true, false, false, false] rfl rfl (by kernel_rfl) (by decide) (fun K hK => ?_)
    refine value_ (w1 := ?_) (v := ?_) (by rfl) rfl ?_ ?_
    rotate_left 2
    · go_simp
      constructor
      · rfl
      · rfl
    refine hK.out _ _ ⟨(((below_alloc (Below.refl _ _) _).cell (World.block_lt_of_cell? _ _ (y0))).trans (y0)), (((below_alloc (Below.refl _ _) _).cell (World.block_lt_of_cell? _ _ (y1))).trans (y1)), (((below_alloc (Below.refl _ _) _).cell (World.block_lt_of_cell? _ _ (x0))).trans (x0)), (((below_alloc (Below.refl _ _) _).cell (World.block_lt_of_cell? _ _ (x1))).trans (x1)), (((below_alloc (Below.refl _ _) _).cell (World.block_lt_of_cell? _ _ (x2))).trans (x2)), (((below_alloc (Below.refl _ _) _).cell (World.block_lt_of_cell? _ _ (x3))).trans (x3)), (((below_alloc (Below.refl _ _) _).cell (World.block_lt_of_cell? _ _ (z0))).trans (z0)), (((below_alloc (Below.refl _ _) _).cell (World.block_lt_of_cell? _ _ (z1))).trans (z1))⟩ (fun hHeld => ?_)
    clear hK K
    refine norm_ (a' := ?_) ?_ ?_
    rotate_left
    · show Act.put _ (some 31) _ = _
      simp only [Act.put, List.setIfInBounds_toArray, List.set_cons_zero, List.set_cons_succ, i64_w, i32_w]
      rfl
    refine one_ (i := 19) (N := some 32) #[true, true, true, true, true, true, true, true, true, true, true, true, true, true, true, true, true, true, true, true, false, false] rfl rfl (by kernel_rfl) (by decide) (fun K hK => ?_)
    refine Kd.R_append_step kSy (w0 := w) (W := w8.drew) w.heap.size (by rfl) (.tmp 18) (.tmp 31) 51 60 _ 48 rfl Tryd.underlying51 info60 rfl (by decide) (by omega) V ((l0.map toSy).take i) (toSy ⟨s, u, fl, kd⟩) (encSy (toSy ⟨s, u, fl, kd⟩)) (fun k => k ≠ 0 ∧ k ≠ gO ∧ k ≠ w.heap.size ∧ k ≠ g3) (fun _ => False) rfl rfl rfl (fun _ hk => hk.elim) ?aF ?aO ?aB ?aS ?aL ?_
    case aF => exact fun k hk => HOK.out k hk
    case aO => exact Kd.R_drew HR8.out
    case aB => exact HB8.out.drew
    case aS => exact HB8.out.size
    case aL => (have := HQ.out; omega)
    intro v9 w12 ho hb hg hat
    obtain ⟨A9, c9, hv9⟩ := Kd.R_slice ho
    generalize List.length _ = n9 at hv9
    subst hv9
    have HO12 := Lib.hid ho
    have HB12 := Lib.hid hb
    have HG12 := Lib.hid (show w8.grownBy w12 V.ownBlock from ⟨hg.os, hg.tape, hg.output, hg.size, hg.block⟩)
    clear ho hb hg hat
    have HOO := Lib.hid ((HG12.out.block gO (blk_lt HO8.out) HNE.out.2.1).trans HO8.out)
    have hcO := (blk_cell HOO.out 0).trans rfl
    have hfO := blk_frozen HOO.out 0
    refine hK.out _ _ ⟨(grown_cell HG12.out HNE.out.1 (y0)), (grown_cell HG12.out HNE.out.2.1 (y1)), (grown_cell HG12.out HNE.out.2.2.1 (x0)), (grown_cell HG12.out HNE.out.2.2.1 (x1)), (grown_cell HG12.out HNE.out.2.2.1 (x2)), (grown_cell HG12.out HNE.out.2.2.1 (x3)), (grown_cell HG12.out HNE.out.2.2.2.1 (z0)), (grown_cell HG12.out HNE.out.2.2.2.1 (z1))⟩ (fun hHeld => ?_)
    clear hK K
    refine norm_ (a' := ?_) ?_ ?_
    rotate_left
    · show Act.put _ (some 32) _ = _
      simp only [Act.put, List.setIfInBounds_toArray, List.set_cons_zero, List.set_cons_succ, i64_w, i32_w]
      rfl
    refine pure_ (i := 20) (N := some 33) (v := ?_) (a' := ?_) #[true, true, true, true, true, true, true, true, true, true, true, true, true, true, true, true, true, true, true, true, true, false] rfl rfl (by kernel_rfl) (fun _ _ _ h => h) (Or.inl ⟨by rfl, ?_⟩) ?_ ?_
    rotate_left
    · intro w'
      go_simp
      with_reducible rfl
    rotate_left
    · simp only [Act.put, List.setIfInBounds_toArray, List.set_cons_zero, List.set_cons_succ, i64_w, i32_w]
      rfl
    refine last_ (i := 21) (N := none) #[true, true, true, true, true, true, true, true, true, true, true, true, true, true, true, true, true, true, true, true, true, true] rfl rfl (by kernel_rfl) (by decide) (fun K hK => ?_)
    refine skip_ (w1 := ?_) (by rfl) rfl ?_ ?_
    rotate_left
    · go_simp
      rfl
    refine hK.out _ _ ?_
    clear hK K
    refine done_ (by kernel_rfl) ?_
    go_wp2
    go_roundw
    case rel => exact ⟨i + 1, _, by rw [hw], HM.out, Lib.hid ((Below.heap_setCell _ _ _ _ (by have := HN.out; show w.heap.size ≠ gO; omega)).trans ((HG12.out.block _ (blk_lt H28.out) HNE.out.2.2.2.2).trans H28.out)), Lib.hid ((Below.heap_setCell _ _ _ _ (by have := HN.out; show g3 ≠ gO; omega)).trans ((HG12.out.block _ (blk_lt H38.out) HNE.out.1).trans H38.out)), Lib.hid (blk_put HOO.out 0 _ rfl), Lib.hid (by rw [HE.out]; exact Kd.R_far (p := ⟨gO, 0, none⟩) HO12.out (fun k hk => hk.2.1) _), Lib.hid (HB12.out.setCell (p := ⟨gO, 0, none⟩) (Nat.le_of_lt HN.out.1) _)⟩
    case measure =>
      rw [hw]
      have hm := HM.out
      show l0.length - ((i + 1 : Nat) : Int).toNat < l0.length - ((i : Int)).toNat
      rw [Int.toNat_natCast, Int.toNat_natCast]
      omega
  · have d1 : decide ((i : Int) < (l0.length : Int)) = false := decide_eq_false (by omega)
    have d2 : decide (i < l0.length) = false := decide_eq_false hlt
    have e3 : (l0.map toSy).take i = l0.map toSy := List.take_of_length_le (by rw [List.length_map]; omega)
    rw [e3] at HRow
    have y0 := (blk_cell H3.out 0).trans rfl
    have y1 := (blk_cell H2.out 0).trans rfl
    have yf := blk_frozen H2.out 0
    clear hi hlt e3
    go_wp2
    refine bodyPost_ret (results_cell_row rfl _ _ w.heap.size 44 _ (0, 0) _ rfl (blk_put H2.out 0 (.slice (some ⟨gO, 0, none⟩) 1 1) rfl) Tryd.underlying44 rfl (by kernel_rfl)) rfl ?_
    exact ⟨gO, V, ⟨Nat.le_of_lt HN.out.1, (Below.heap_setCell _ _ _ _ (by have := HN.out; show gO ≠ w.heap.size; omega)).trans HO.out, Kd.R_mono (Kd.R_far (p := ⟨w.heap.size, 0, none⟩) HRow.out (fun k hk => hk.2.2.1) _) (fun k hk => ⟨hk.1, hk.2.1⟩), HB.out.setCell (p := ⟨w.heap.size, 0, none⟩) (Nat.le_refl _) _⟩, rfl⟩
end Go.Proofs.YtfjfacgbambbdaaDoor
