/- impl.Merged, walked: what stands for what, after the pairs were merged one after the other. -/
import Derived.Test.YtfjfacgbambbdaaDoorExtMerge
import Derived.Test.YtfjfacgbambbdaaDoorExtTable
import Derived.Test.YtfjfacgbambbdaaDoorExtPairs
import Derived.Laws.EntriesVeiled
set_option linter.unusedVariables false
set_option linter.unusedSimpArgs false
namespace Go.Proofs.YtfjfacgbambbdaaDoor
open Go.RowKit Go.Proofs.YtfjfacgbambbdaaDoorW.PrintWords Go.Proofs.YtfjfacgbambbdaaDoorW.PrintLast Go.Proofs.YtfjfacgbambbdaaDoorW.PrintMore Go.Proofs.YtfjfacgbambbdaaDoor.PFnMerged
theorem info35' : (Tryd.prog.info? 35).map (fun i => (i.zero, i.size, i.bytes)) = some (some (.agg #[.string ⟨#[]⟩, .int .u32 0, .int .i64 0, .int .i64 0]), 4, 40) := by kernel_rfl
/-- The table, its row nil or not. -/
structure Tb (w : World) (gO : Nat) (V : Value) (xs : List Sy) : Prop where
  inv : Inv w
  out : w.heap[gO]? = some (.cells #[V] 51 (0, 0))
  row : kSy.R 60 w 0 (fun k => k ≠ 0 ∧ k ≠ gO) V xs
theorem Tb.below {w w' : World} {gO : Nat} {V : Value} {xs : List Sy} (h : Tb w gO V xs) (hb : Below w.heap.size w w') : Tb w' gO V xs :=
  ⟨Inv.via (hb.block 0 (Inv.lt h.inv)) h.inv, (hb.block gO (blk_lt h.out)).trans h.out, Kd.R_below h.row hb⟩
theorem Tb.St {w : World} {gO g cap : Nat} {xs : List Sy} (h : Tb w gO (.slice (some ⟨g, 0, none⟩) xs.length cap) xs) : St w gO g cap xs := ⟨h.inv, h.out, h.row⟩
theorem St.Tb {w : World} {gO g cap : Nat} {xs : List Sy} (h : St w gO g cap xs) : Tb w gO (.slice (some ⟨g, 0, none⟩) xs.length cap) xs := ⟨h.inv, h.out, h.row⟩
/-- Where impl.Merged stands: the table, and what stands for what. -/
def MS (w0 w : World) (gO g9 : Nat) (V : Value) (n : Nat) (o : List Int) : Prop := ∃ (xs : List Sy) (ρ d : Nat → Nat), Tb w gO V xs ∧ xs.length = n ∧ Forest (lk xs) n ρ d ∧ (∀ x : Nat, x < n → (ρ x : Int) = rd o x) ∧ w.heap[g9]? = some (.cells #[.slice (some ⟨gO, 0, none⟩) 1 1] 44 (0, 0)) ∧ Below w0.heap.size w0 w
theorem MS.out {w0 w : World} {gO g9 : Nat} {V : Value} {n : Nat} {o : List Int} (h : MS w0 w gO g9 V n o) : ∃ (xs : List Sy) (ρ d : Nat → Nat), Tb w gO V xs ∧ xs.length = n ∧ Forest (lk xs) n ρ d ∧ (∀ x : Nat, x < n → (ρ x : Int) = rd o x) ∧ w.heap[g9]? = some (.cells #[.slice (some ⟨gO, 0, none⟩) 1 1] 44 (0, 0)) ∧ Below w0.heap.size w0 w := h
theorem MS.below {w0 w w' : World} {gO g9 : Nat} {V : Value} {n : Nat} {o : List Int} (h : MS w0 w gO g9 V n o) (hb : Below w.heap.size w w') : MS w0 w' gO g9 V n o := by
  obtain ⟨xs, ρ, d, h1, h2, h3, h4, h5, h6⟩ := h
  exact ⟨xs, ρ, d, h1.below hb, h2, h3, h4, (hb.block _ (blk_lt h5)).trans h5, h6.trans (hb.mono h6.size)⟩
theorem rd_map (o : List Int) (f : Int → Int) (x : Nat) (h : x < o.length) : rd (o.map f) x = f (rd o x) := by
  unfold rd
  rw [Int.toNat_natCast, List.getD_eq_getElem?_getD, List.getD_eq_getElem?_getD, List.getElem?_map, List.getElem?_eq_getElem h]
  rfl
/-- A step of the forest is a step of the reference. -/
theorem step_told {n : Nat} {ρ ρ' : Nat → Nat} {o : List Int} {a b : Nat} (ho : o.length = n) (hρ : ∀ x : Nat, x < n → (ρ x : Int) = rd o x) (ha : a < n) (hb : b < n) (h : ∀ x, x < n → ρ' x = if ρ x = ρ a then ρ b else ρ x) :
    ∀ x : Nat, x < n → (ρ' x : Int) = rd (stepM o ((a : Int), (b : Int))) x := by
  intro x hx
  unfold stepM
  rw [rd_map _ _ _ (by rw [ho]; exact hx), h x hx]
  show _ = sw (rd o a) (rd o b) (rd o x)
  rw [← hρ x hx, ← hρ a ha, ← hρ b hb]
  unfold sw
  by_cases e : ρ x = ρ a
  · rw [if_pos e, if_pos (by omega)]
  · rw [if_neg e, if_neg (by omega)]
theorem lk_new (l : List S35) : Forest (lk (l.map toSy)) l.length id (fun _ => 0) := by
  intro i hi
  refine .inl ⟨?_, rfl⟩
  unfold lk rdS
  rw [List.getD_eq_getElem?_getD, List.getElem?_map, List.getElem?_eq_getElem hi]
  rfl
theorem symM_zero (n x : Nat) (h : x < n) : rd (symM n []) x = (x : Int) := by
  unfold symM rd
  rw [Int.toNat_natCast, List.foldl_nil, List.getD_eq_getElem?_getD, List.getElem?_map, List.getElem?_eq_getElem (by rw [List.length_range]; exact h)]
  simp
theorem ref_calls' (a : Nat) (ha : a < 200) (w : World) : Calls Tryd.prog 17 #[.int .i64 (a : Int)] w fun e w' => e = .returned (.agg #[.int .u32 0, .int .u32 (a : Int)]) ∧ Below w.heap.size w w' := by
  have e : (a : Int) % 4294967296 = (a : Int) := by omega
  exact impl_ref.calls (a : Int) 0 (a : Int) w (by unfold impl_ref.f; rw [e])
theorem below_of_grown {w0 w w1 : World} {g : Nat} (hb : Below w0.heap.size w0 w) (hg : w.grownBy w1 (some g)) (h : w0.heap.size ≤ g) : Below w0.heap.size w0 w1 :=
  ⟨hg.os.trans hb.os, hg.tape.trans hb.tape, hg.output.trans hb.output, Nat.le_trans hb.size hg.size, fun k hk => (hg.block k (Nat.lt_of_lt_of_le hk hb.size) (by simp; omega)).trans (hb.block k hk)⟩
theorem map_take_int (f : Int → Int) (l : List Int) (i : Nat) (h : i < l.length) : (l.map f).take (i + 1) = (l.map f).take i ++ [f (rd l i)] := by
  have e : rd l i = l[i] := by
    unfold rd
    rw [Int.toNat_natCast, List.getD_eq_getElem?_getD, List.getElem?_eq_getElem h]
    rfl
  rw [List.take_succ_eq_append_getElem (by rw [List.length_map]; exact h), e]
  simp
theorem ty60 : ∀ q, q ∈ 60 :: kSy.E → q ≠ 35 := by
  intro q hq
  rcases List.mem_cons.1 hq with rfl | hq
  · decide
  · cases hq
theorem ty3 : ∀ q, q ∈ 3 :: (Kd.int .i64).E → q ≠ 35 := by
  intro q hq
  rcases List.mem_cons.1 hq with rfl | hq
  · decide
  · cases hq
set_option maxHeartbeats 8000000 in
set_option maxRecDepth 100000 in
theorem ImplMerged.calls (A0 A1 A2 : Option Addr) (c0 c1 c2 : Nat) (l0 : List S35) (ps : List (Int × Int)) (l2 : List Int) (w : World) (hr0 : Kd.C k35 w A0 l0.length l0) (hc0 : l0.length ≤ c0) (hll : l0.length ≤ 200) (hr1 : Kd.C kP w A1 ps.length ps) (hl1 : ps.length ≤ 400) (hr2 : Kd.C (Kd.int .i64) w A2 l2.length l2) (hl2 : l2.length ≤ 2147483647)
    (hx1 : ∀ i : Nat, i < ps.length → (0 ≤ (rdP ps i).1 ∧ (rdP ps i).1 < l0.length) ∧ (0 ≤ (rdP ps i).2 ∧ (rdP ps i).2 < l0.length)) (hx2 : ∀ i : Nat, i < l2.length → 0 ≤ rd l2 i ∧ rd l2 i < l0.length)
    (hinv : Inv w) :
    Calls Tryd.prog 7 #[.slice A0 l0.length c0, .slice A1 ps.length c1, .slice A2 l2.length c2] w fun e w' => ∃ (A : Option Addr) (c : Nat) (V : Value), (Kd.C (Kd.int .i64) w' A l2.length (l2.map fun x => rd (symM l0.length ps) x) ∧ l2.length ≤ c ∧ Below w.heap.size w w') ∧ e = .returned (.tuple #[.slice A l2.length c, V]) := by
  obtain ⟨hB, h1, h2⟩ := alloc2' w (.cells #[.slice A0 l0.length c0] 22 (0, 0)) (.cells #[.func (.func 11) #[] #[.pointer (some ⟨w.heap.size, 0, none⟩)]] 38 (0, 0))
  generalize hWW : World.alloc (World.alloc w _) _ = W at hB h1 h2
  have HWW := Lib.hid hWW
  have HW := Lib.hid hB
  have HB1 := Lib.hid h1
  have HB2 := Lib.hid h2
  have HP1 := Lib.hid hr1
  have HP2 := Lib.hid hr2
  have HR0 := Lib.hid (Kd.C_below hr0 hB)
  have HR1 := Lib.hid (Kd.C_below hr1 hB)
  have HR2 := Lib.hid (Kd.C_below hr2 hB)
  have HI := Lib.hid (Inv.via (hB.block 0 (Inv.lt hinv)) hinv)
  have HC0 := Lib.hid hc0
  have HL0 := Lib.hid hll
  have HL1 := Lib.hid hl1
  have HL2 := Lib.hid hl2
  have HX1 := Lib.hid hx1
  have HX2 := Lib.hid hx2
  clear hWW hB h1 h2 hr0 hr1 hr2 hinv hc0 hll hl1 hl2 hx1 hx2
  go_enter Tryd.func7, Tryd.ntmps7
  go_upto_region 2 with (fail)
  rw [HWW.out]
  have y1 := (blk_cell HB2.out 0).trans rfl
  go_wp2_with (first | (go_at_call 12; (with_reducible refine (Contains1.calls w.heap.size (w.heap.size + 1) A0 A1 l0.length c0 c1 ps W HB1.out HB2.out HR1.out (Nat.le_trans HL1.out (by decide)) HX1.out).mono ?_); rintro e w1 ⟨rfl, hb⟩; have HW1 := Lib.hid (show Below w.heap.size w w1 from HW.out.trans (hb.mono HW.out.size)); have HV1 := Lib.hid hb; have z1 := (blk_cell ((hb.block _ (blk_lt HB2.out)).trans HB2.out) 0).trans rfl; clear hb) | (go_at_call 14; (with_reducible refine (Contains2.calls w.heap.size A0 A2 l0.length c0 c2 l2 w1 ((HV1.out.block _ (blk_lt HB1.out)).trans HB1.out) (Kd.C_below HR2.out HV1.out) HL2.out HX2.out).mono ?_); rintro e w2 ⟨rfl, hb⟩; have HV2 := Lib.hid (show Below W.heap.size W w2 from HV1.out.trans (hb.mono HV1.out.size)); clear hb; have z0 := (blk_cell ((HV2.out.block _ (blk_lt HB1.out)).trans HB1.out) 0).trans rfl) | (go_at_call 15; (with_reducible refine (Table.calls A0 c0 l0 w2 (Kd.C_below HR0.out HV2.out) HC0.out HL0.out (Inv.via (HV2.out.block 0 (Inv.lt HI.out)) HI.out)).mono ?_); rintro e w3 ⟨gO, V, ht, rfl⟩; have HT := Lib.hid ht; clear ht))
  have hF3 : Below w.heap.size w w3 := HW.out.trans ((HV2.out.mono HW.out.size).trans (HT.out.2.2.2.mono (Nat.le_trans HW.out.size HV2.out.size)))
  have hT3 : Tb w3 gO V (l0.map toSy) := ⟨Inv.via (HT.out.2.2.2.block 0 (Nat.lt_of_lt_of_le (Inv.lt HI.out) HV2.out.size)) (Inv.via (HV2.out.block 0 (Inv.lt HI.out)) HI.out), HT.out.2.1, Kd.R_lower HT.out.2.2.1 (Nat.zero_le _)⟩
  have hVF : 0 < l0.length → ∃ g cap, V = .slice (some ⟨g, 0, none⟩) l0.length cap ∧ w.heap.size ≤ g ∧ g < w3.heap.size := fun hp => by
    obtain ⟨g, cap, hv, hg, hl, _⟩ := Kd.R_form HT.out.2.2.1 (by rw [List.length_map]; exact hp)
    rw [List.length_map] at hv
    exact ⟨g, cap, hv, Nat.le_trans (Nat.le_trans HW.out.size HV2.out.size) hg, hl⟩
  have hb4 := below_alloc (Below.refl w3.heap.size w3) (.cells #[.slice (some ⟨gO, 0, none⟩) 1 1] 44 (0, 0))
  have hx4 := heap_alloc_new w3 (.cells #[.slice (some ⟨gO, 0, none⟩) 1 1] 44 (0, 0))
  generalize w3.alloc _ = W4 at *
  have hlt9 : gO < w3.heap.size := blk_lt HT.out.2.1
  have HMS := Lib.hid (show MS w W4 gO w3.heap.size V l0.length (symM l0.length []) from ⟨l0.map toSy, id, fun _ => 0, hT3.below hb4, by rw [List.length_map], lk_new l0, fun x hx => (symM_zero l0.length x hx).symm, hx4, hF3.trans (hb4.mono hF3.size)⟩)
  have HVF := Lib.hid hVF
  have HN9 := Lib.hid (show gO < w3.heap.size ∧ w.heap.size ≤ w3.heap.size from ⟨hlt9, hF3.size⟩)
  generalize w3.heap.size = g9 at *
  clear hF3 hT3 hVF hb4 hx4 hlt9 HT HV1 HV2 HW1 z0 z1 y1 HB1 HB2 HR0 HR1 HR2 HI HWW HW
  go_loopw [29] (fun v29 wr => ∃ (j : Nat), v29 = .int .i64 (j : Int) ∧ j ≤ ps.length ∧ Hid (MS w wr gO g9 V l0.length (symM l0.length (ps.take j)))) (fun v29 _ => ps.length - (intOf v29).toNat)
  case atStart => exact ⟨0, rfl, Nat.zero_le _, HMS⟩
  clear HMS
  obtain ⟨j, rfl, hj, HMS⟩ := hrel
  have hw : wrap64 ((j : Int) + 1) = ((j + 1 : Nat) : Int) := by have := HL1.out; unfold wrap64; omega
  by_cases hlt : j < ps.length
  · have p1 : (0 : Int) ≤ (j : Int) := by omega
    have q1 : (j : Int) < (ps.length : Int) := by omega
    have d1 : decide ((j : Int) < (ps.length : Int)) = true := decide_eq_true q1
    have d2 : decide (j < ps.length) = true := decide_eq_true hlt
    obtain ⟨xs, ρ, d, hTb, hxn, hFo, hto, h9, hBw⟩ := HMS.out.out
    obtain ⟨ad, e1, x0, x1⟩ := at_P HP1.out j hlt
    cases e1
    replace x0 := (hBw.cell (World.block_lt_of_cell? w _ x0)).trans x0
    replace x1 := (hBw.cell (World.block_lt_of_cell? w _ x1)).trans x1
    have HE := Lib.hid (symM_take l0.length ps j hlt)
    have HLj := Lib.hid hlt
    obtain ⟨⟨a0, a1⟩, b0, b1⟩ := HX1.out j hlt
    generalize rdP ps j = pr at *
    obtain ⟨ai, bi⟩ := pr
    change 0 ≤ ai at a0
    change ai < (l0.length : Int) at a1
    change 0 ≤ bi at b0
    change bi < (l0.length : Int) at b1
    obtain ⟨a, rfl⟩ := Int.eq_ofNat_of_zero_le a0
    obtain ⟨b, rfl⟩ := Int.eq_ofNat_of_zero_le b0
    have Ha := Lib.hid (show a < l0.length by omega)
    have Hb := Lib.hid (show b < l0.length by omega)
    have Ha2 := Lib.hid (show a < 200 by have := HL0.out; omega)
    have Hb2 := Lib.hid (show b < 200 by have := HL0.out; omega)
    obtain ⟨g, cap, hV, hg, hg9⟩ := HVF.out (Nat.lt_of_le_of_lt (Nat.zero_le _) Ha.out)
    have hSt : St wr gO g cap xs := by
      have h := hTb
      rw [hV, ← hxn] at h
      exact h.St
    have HS := Lib.hid hSt
    have HXN := Lib.hid hxn
    have HFo := Lib.hid hFo
    have HTo := Lib.hid hto
    have H9 := Lib.hid h9
    have HBw := Lib.hid hBw
    have HV := Lib.hid hV
    have Hg := Lib.hid (show w.heap.size ≤ g ∧ g < g9 from ⟨hg, hg9⟩)
    have HLen := Lib.hid (symM_length l0.length (ps.take j))
    clear hSt hxn hFo hto h9 hBw hV hg hg9 hTb a0 a1 b0 b1 hj hlt
    replace p1 := eq_true p1
    replace q1 := eq_true q1
    go_wp2_with (first | ((with_reducible refine gate_dst (N := 11) rfl ?_); refine box_event ?hg (N := 11) ?hd (cs := #[.int .i64 0, .int .i64 0]) (t := 37) ?hr ?_; (case hd => rfl); (case hg => rfl); (case hr => first | (go_simp; done) | (go_simp; rfl)); intro gb hg w7 hbox hb; have HG := Lib.hid hg; have HY := Lib.hid hb; have HX7 := Lib.hid hbox; clear hg hbox hb; have z0 := (blk_cell HX7.out 0).trans rfl; have z1 := (blk_cell HX7.out 1).trans rfl; have fz0 := blk_frozen HX7.out 0; have fz1 := blk_frozen HX7.out 1))
    have hb8 := (HY.out.setCell (p := ⟨gb, 0, none⟩) (Nat.le_of_eq HG.out.symm) (.int .i64 (a : Int))).setCell (p := ⟨gb, 1, none⟩) (Nat.le_of_eq HG.out.symm) (.int .i64 (b : Int))
    have hx8 := blk_put (blk_put HX7.out 0 (.int .i64 (a : Int)) rfl) 1 (.int .i64 (b : Int)) rfl
    generalize World.setCell (World.setCell w7 _ _) _ _ = w8 at *
    clear x0 x1 z0 z1 fz0 fz1 HX7 HY HG
    have x0 := (blk_cell hx8 0).trans rfl
    have x1 := (blk_cell hx8 1).trans rfl
    have HS8 := Lib.hid (HS.out.below hb8)
    have H98 := Lib.hid ((hb8.block _ (blk_lt H9.out)).trans H9.out)
    have HB8 := Lib.hid (HBw.out.trans (hb8.mono HBw.out.size))
    have y0 := (blk_cell H98.out 0).trans rfl
    clear hx8 hb8 HS H9 HBw
    refine start_ (n := 8) (S := fun w' => w'.cell? ⟨g9, 0, none⟩ = some (.slice (some ⟨gO, 0, none⟩) 1 1) ∧ w'.cell? ⟨gb, 0, none⟩ = some (.int .i64 (a : Int)) ∧ w'.cell? ⟨gb, 1, none⟩ = some (.int .i64 (b : Int))) (ds := [7]) #[false, false, false, false, false, false, false, false] (by kernel_rfl) rfl rfl ⟨y0, x0, x1⟩ (fun hHeld => ?_)
    refine pure_ (i := 1) (N := some 34) (v := ?_) (a' := ?_) #[false, true, false, false, false, false, false, false] rfl rfl (by kernel_rfl) (fun _ _ _ h => h) (Or.inl ⟨by rfl, ?_⟩) ?_ ?_
    rotate_left
    · intro w'
      go_simp
      with_reducible rfl
    rotate_left
    · simp only [Act.put, List.setIfInBounds_toArray, List.set_cons_zero, List.set_cons_succ, i64_w, i32_w]
      rfl
    refine pure_ (i := 4) (N := some 37) (v := ?_) (a' := ?_) #[false, true, false, false, true, false, false, false] rfl rfl (by kernel_rfl) (fun _ _ _ h => h) (Or.inl ⟨by rfl, ?_⟩) ?_ ?_
    rotate_left
    · intro w'
      go_simp
      with_reducible rfl
    rotate_left
    · simp only [Act.put, List.setIfInBounds_toArray, List.set_cons_zero, List.set_cons_succ, i64_w, i32_w]
      rfl
    refine take_ (i := 0) (N := some 33) (v := ?_) (a' := ?_) #[true, true, false, false, true, false, false, false] rfl rfl (by kernel_rfl) (fun _ _ _ h => h) (Or.inl ⟨by rfl, ?_⟩) hHeld ?_ ?_
    rotate_left
    · rintro w' ⟨s0, s1, s2⟩
      go_simp
      with_reducible rfl
    rotate_left
    · simp only [Act.put, List.setIfInBounds_toArray, List.set_cons_zero, List.set_cons_succ, i64_w, i32_w]
      rfl
    refine take_ (i := 2) (N := some 35) (v := ?_) (a' := ?_) #[true, true, true, false, true, false, false, false] rfl rfl (by kernel_rfl) (fun _ _ _ h => h) (Or.inl ⟨by rfl, ?_⟩) hHeld ?_ ?_
    rotate_left
    · rintro w' ⟨s0, s1, s2⟩
      go_simp
      with_reducible rfl
    rotate_left
    · simp only [Act.put, List.setIfInBounds_toArray, List.set_cons_zero, List.set_cons_succ, i64_w, i32_w]
      rfl
    refine take_ (i := 5) (N := some 38) (v := ?_) (a' := ?_) #[true, true, true, false, true, true, false, false] rfl rfl (by kernel_rfl) (fun _ _ _ h => h) (Or.inl ⟨by rfl, ?_⟩) hHeld ?_ ?_
    rotate_left
    · rintro w' ⟨s0, s1, s2⟩
      go_simp
      with_reducible rfl
    rotate_left
    · simp only [Act.put, List.setIfInBounds_toArray, List.set_cons_zero, List.set_cons_succ, i64_w, i32_w]
      rfl
    refine one_ (i := 3) (N := some 36) #[true, true, true, true, true, true, false, false] rfl rfl (by kernel_rfl) (by decide) (fun K hK => ?_)
    refine goes_ Tryd.func17 (by kernel_rfl) rfl #[.int .i64 (a : Int)] (by rfl) rfl rfl (by simp only [List.map_toArray, List.map_cons, List.map_nil]; rfl) ?_
    with_reducible refine (ref_calls' a Ha2.out _).mono ?_
    rintro e wa ⟨rfl, hb⟩
    refine ⟨_, rfl, ?_⟩
    have HBa := Lib.hid (show Below w8.heap.size w8 wa from (Below.refl w8.heap.size w8).drew.trans hb)
    clear hb
    refine hK.out _ _ ⟨((HBa.out.cell (World.block_lt_of_cell? _ _ y0)).trans y0), ((HBa.out.cell (World.block_lt_of_cell? _ _ x0)).trans x0), ((HBa.out.cell (World.block_lt_of_cell? _ _ x1)).trans x1)⟩ (fun hHeld => ?_)
    clear hK K
    refine norm_ (a' := ?_) ?_ ?_
    rotate_left
    · show Act.put _ (some 36) _ = _
      simp only [Act.put, List.setIfInBounds_toArray, List.set_cons_zero, List.set_cons_succ, i64_w, i32_w]
      rfl
    refine one_ (i := 6) (N := some 39) #[true, true, true, true, true, true, true, false] rfl rfl (by kernel_rfl) (by decide) (fun K hK => ?_)
    refine goes_ Tryd.func17 (by kernel_rfl) rfl #[.int .i64 (b : Int)] (by rfl) rfl rfl (by simp only [List.map_toArray, List.map_cons, List.map_nil]; rfl) ?_
    with_reducible refine (ref_calls' b Hb2.out _).mono ?_
    rintro e wb ⟨rfl, hb⟩
    refine ⟨_, rfl, ?_⟩
    have HBb := Lib.hid (show Below w8.heap.size w8 wb from HBa.out.trans (hb.mono HBa.out.size))
    clear hb
    refine hK.out _ _ ⟨((HBb.out.cell (World.block_lt_of_cell? _ _ y0)).trans y0), ((HBb.out.cell (World.block_lt_of_cell? _ _ x0)).trans x0), ((HBb.out.cell (World.block_lt_of_cell? _ _ x1)).trans x1)⟩ (fun hHeld => ?_)
    clear hK K
    refine norm_ (a' := ?_) ?_ ?_
    rotate_left
    · show Act.put _ (some 39) _ = _
      simp only [Act.put, List.setIfInBounds_toArray, List.set_cons_zero, List.set_cons_succ, i64_w, i32_w]
      rfl
    refine last_ (i := 7) (N := some 40) #[true, true, true, true, true, true, true, true] rfl rfl (by kernel_rfl) (by decide) (fun K hK => ?_)
    refine goes_ Tryd.func16 (by kernel_rfl) rfl #[.agg #[.slice (some ⟨gO, 0, none⟩) 1 1], .agg #[.int .u32 0, .int .u32 (a : Int)], .agg #[.int .u32 0, .int .u32 (b : Int)]] (by rfl) rfl rfl (by simp only [List.map_toArray, List.map_cons, List.map_nil]; rfl) ?_
    with_reducible refine (Merge.calls gO g cap xs ρ d a b wb (HS8.out.below HBb.out) (by rw [HXN.out]; exact HL0.out) (by rw [HXN.out]; exact HFo.out) (by rw [HXN.out]; exact Ha.out) (by rw [HXN.out]; exact Hb.out)).mono ?_
    intro e w5 hp
    obtain ⟨r, ys, ρ1, d1, rfl, hS, hlen, hMg, hG⟩ := hp.out
    refine ⟨_, rfl, ?_⟩
    have HS5 := Lib.hid hS
    have HN5 := Lib.hid hlen
    have HM5 := Lib.hid hMg
    have HG5 := Lib.hid hG
    clear hp hS hlen hMg hG
    refine hK.out _ _ ?_
    clear hK K
    refine norm_ (a' := ?_) ?_ ?_
    rotate_left
    · show Act.put _ (some 40) _ = _
      simp only [Act.put, List.setIfInBounds_toArray, List.set_cons_zero, List.set_cons_succ, i64_w, i32_w]
      rfl
    refine done_ (by kernel_rfl) ?_
    have hn : ys.length = l0.length := by rw [HN5.out, HXN.out]
    have hBn := below_of_grown (HB8.out.trans (HBb.out.mono HB8.out.size)) HG5.out Hg.out.1
    have h9n := blk_grown HG5.out ((HBb.out.block _ (blk_lt H98.out)).trans H98.out) (by have := Hg.out; omega)
    have hTn : Tb w5 gO V ys := by
      have h := HS5.out.Tb
      rw [hn, ← HV.out] at h
      exact h
    have hM := HM5.out
    rw [HXN.out] at hM
    have HMS2 := Lib.hid (show MS w w5 gO g9 V l0.length (symM l0.length (ps.take (j + 1))) from ⟨ys, ρ1, d1, hTn, hn, hM.1, by rw [HE.out]; exact step_told HLen.out HTo.out Ha.out Hb.out hM.2.2.1, h9n, hBn⟩)
    clear hn hBn h9n hTn hM
    go_wp2
    go_roundw
    case rel => exact ⟨j + 1, by rw [hw], HLj.out, HMS2⟩
    case measure =>
      rw [hw]
      have hm := HLj.out
      show ps.length - ((j + 1 : Nat) : Int).toNat < ps.length - ((j : Int)).toNat
      rw [Int.toNat_natCast, Int.toNat_natCast]
      omega
  · have d1 : decide ((j : Int) < (ps.length : Int)) = false := decide_eq_false (by omega)
    have d2 : decide (j < ps.length) = false := decide_eq_false hlt
    have e3 : ps.take j = ps := List.take_of_length_le (by omega)
    rw [e3] at HMS
    clear hj hlt e3 hw
    go_wp2
    go_loopw [44, 6] (fun v44 v6 wr => ∃ (k : Nat), v44 = .int .i64 (k : Int) ∧ k ≤ l2.length ∧ Hid (MS w wr gO g9 V l0.length (symM l0.length ps)) ∧ Hid ((Kd.int .i64).R 3 wr w.heap.size (fun k => some k ≠ V.ownBlock ∧ k ≠ gO ∧ k ≠ 0 ∧ k ≠ g9) v6 ((l2.map fun x => rd (symM l0.length ps) x).take k))) (fun v44 _ _ => l2.length - (intOf v44).toNat)
    case atStart => exact ⟨0, rfl, Nat.zero_le _, HMS, Lib.hid (Kd.R_nil _ _ _ _ _)⟩
    clear HMS
    obtain ⟨k, rfl, hk, HMS, HO⟩ := hrel
    have hw : wrap64 ((k : Int) + 1) = ((k + 1 : Nat) : Int) := by have := HL2.out; unfold wrap64; omega
    by_cases hlt : k < l2.length
    · have p1 : (0 : Int) ≤ (k : Int) := by omega
      have q1 : (k : Int) < (l2.length : Int) := by omega
      have d1 : decide ((k : Int) < (l2.length : Int)) = true := decide_eq_true q1
      have d2 : decide (k < l2.length) = true := decide_eq_true hlt
      obtain ⟨xs, ρ, d, hTb, hxn, hFo, hto, h9, hBw⟩ := HMS.out.out
      obtain ⟨ad, e1, x0⟩ := Kd.at_int HP2.out k p1 q1
      cases e1
      rw [Int.toNat_natCast] at x0
      replace x0 := (hBw.cell (World.block_lt_of_cell? w _ x0)).trans x0
      have HE := Lib.hid (map_take_int (fun x => rd (symM l0.length ps) x) l2 k hlt)
      have HQ := Lib.hid (show ((l2.map fun x => rd (symM l0.length ps) x).take k).length ≤ 2147483647 from by have := HL2.out; rw [List.length_take, List.length_map]; omega)
      have HLk := Lib.hid hlt
      obtain ⟨a0, a1⟩ := HX2.out k hlt
      generalize rd l2 k = ci at *
      obtain ⟨c, rfl⟩ := Int.eq_ofNat_of_zero_le a0
      have Ha := Lib.hid (show c < l0.length by omega)
      have Ha2 := Lib.hid (show c < 200 by have := HL0.out; omega)
      obtain ⟨g, cap, hV, hg, hg9⟩ := HVF.out (Nat.lt_of_le_of_lt (Nat.zero_le _) Ha.out)
      have hSt : St wr gO g cap xs := by
        have h := hTb
        rw [hV, ← hxn] at h
        exact h.St
      have HVo := Lib.hid (show V.ownBlock = some g from by rw [hV]; rfl)
      have HS := Lib.hid hSt
      have HXN := Lib.hid hxn
      have HFo := Lib.hid hFo
      have HTo := Lib.hid hto
      have H9 := Lib.hid h9
      have HBw := Lib.hid hBw
      have HV := Lib.hid hV
      have Hg := Lib.hid (show w.heap.size ≤ g ∧ g < g9 from ⟨hg, hg9⟩)
      have y0 := (blk_cell H9.out 0).trans rfl
      have hρ : ρ c < 200 := Nat.lt_of_lt_of_le (HFo.out.lt Ha.out) HL0.out
      have hwr : IntKind.i64.wrap (ρ c : Int) = (ρ c : Int) := by rw [IntKind.wrap_i64]; omega
      have hfd : ∀ u, (Instr.field 47 (.agg #[.int .u32 0, .int .u32 (ρ c : Int)]) 1).run Tryd.prog u = .ok (.int .u32 (ρ c : Int)) u := fun u => by kernel_rfl
      clear hSt hxn hFo hto h9 hBw hV hg hg9 hTb a0 a1 hk hlt hρ
      replace p1 := eq_true p1
      replace q1 := eq_true q1
      go_wp2
      refine start_ (n := 10) (S := fun w' => w'.cell? ⟨g9, 0, none⟩ = some (.slice (some ⟨gO, 0, none⟩) 1 1)) (ds := [8]) #[false, false, false, false, false, false, false, false, false, false] (by kernel_rfl) rfl rfl (y0) (fun hHeld => ?_)
      refine pure_ (i := 0) (N := some 48) (v := ?_) (a' := ?_) #[true, false, false, false, false, false, false, false, false, false] rfl rfl (by kernel_rfl) (fun _ _ _ h => h) (Or.inl ⟨by rfl, ?_⟩) ?_ ?_
      rotate_left
      · intro w'
        go_simp
        with_reducible rfl
      rotate_left
      · simp only [Act.put, List.setIfInBounds_toArray, List.set_cons_zero, List.set_cons_succ, i64_w, i32_w]
        rfl
      refine pure_ (i := 2) (N := some 50) (v := ?_) (a' := ?_) #[true, false, true, false, false, false, false, false, false, false] rfl rfl (by kernel_rfl) (fun _ _ _ h => h) (Or.inl ⟨by rfl, ?_⟩) ?_ ?_
      rotate_left
      · intro w'
        go_simp
        with_reducible rfl
      rotate_left
      · simp only [Act.put, List.setIfInBounds_toArray, List.set_cons_zero, List.set_cons_succ, i64_w, i32_w]
        rfl
      refine take_ (i := 1) (N := some 49) (v := ?_) (a' := ?_) #[true, true, true, false, false, false, false, false, false, false] rfl rfl (by kernel_rfl) (fun _ _ _ h => h) (Or.inl ⟨by rfl, ?_⟩) hHeld ?_ ?_
      rotate_left
      · intro w' s0
        go_simp
        with_reducible rfl
      rotate_left
      · simp only [Act.put, List.setIfInBounds_toArray, List.set_cons_zero, List.set_cons_succ, i64_w, i32_w]
        rfl
      refine one_ (i := 3) (N := some 51) #[true, true, true, true, false, false, false, false, false, false] rfl rfl (by kernel_rfl) (by decide) (fun K hK => ?_)
      refine goes_ Tryd.func17 (by kernel_rfl) rfl #[.int .i64 (c : Int)] (by rfl) rfl rfl (by simp only [List.map_toArray, List.map_cons, List.map_nil]; rfl) ?_
      with_reducible refine (ref_calls' c Ha2.out _).mono ?_
      rintro e wa ⟨rfl, hb⟩
      refine ⟨_, rfl, ?_⟩
      have HBa := Lib.hid (show Below wr.heap.size wr wa from (Below.refl wr.heap.size wr).drew.trans hb)
      clear hb
      refine hK.out _ _ (((HBa.out.cell (World.block_lt_of_cell? _ _ y0)).trans y0)) (fun hHeld => ?_)
      clear hK K
      refine norm_ (a' := ?_) ?_ ?_
      rotate_left
      · show Act.put _ (some 51) _ = _
        simp only [Act.put, List.setIfInBounds_toArray, List.set_cons_zero, List.set_cons_succ, i64_w, i32_w]
        rfl
      refine one_ (i := 4) (N := some 52) #[true, true, true, true, true, false, false, false, false, false] rfl rfl (by kernel_rfl) (by decide) (fun K hK => ?_)
      refine goes_ Tryd.func18 (by kernel_rfl) rfl #[.agg #[.slice (some ⟨gO, 0, none⟩) 1 1], .agg #[.int .u32 0, .int .u32 (c : Int)]] (by rfl) rfl rfl (by simp only [List.map_toArray, List.map_cons, List.map_nil]; rfl) ?_
      with_reducible refine (Follow.calls gO g cap xs ρ d c wa (HS.out.below HBa.out) (by rw [HXN.out]; exact HL0.out) (by rw [HXN.out]; exact HFo.out) (by rw [HXN.out]; exact Ha.out)).mono ?_
      rintro e w5 ⟨rfl, ys, hS, hlen, hF, hG⟩
      refine ⟨_, rfl, ?_⟩
      have HS5 := Lib.hid hS
      have HN5 := Lib.hid hlen
      have HF5 := Lib.hid hF
      have HG5 := Lib.hid hG
      clear hS hlen hF hG
      have H95 := Lib.hid (blk_grown HG5.out ((HBa.out.block _ (blk_lt H9.out)).trans H9.out) (by have := Hg.out; omega))
      have HB5 := Lib.hid (below_of_grown (HBw.out.trans (HBa.out.mono HBw.out.size)) HG5.out Hg.out.1)
      have HO5 := Lib.hid (Kd.R_grown (Kd.R_below HO.out HBa.out) HG5.out (fun k hk => by have := hk.1; rw [HVo.out] at this; exact this))
      refine hK.out _ _ (((blk_cell H95.out 0).trans rfl)) (fun hHeld => ?_)
      clear hK K
      refine norm_ (a' := ?_) ?_ ?_
      rotate_left
      · show Act.put _ (some 52) _ = _
        simp only [Act.put, List.setIfInBounds_toArray, List.set_cons_zero, List.set_cons_succ, i64_w, i32_w]
        rfl
      refine pure_ (i := 5) (N := some 53) (v := ?_) (a' := ?_) #[true, true, true, true, true, true, false, false, false, false] rfl rfl (by kernel_rfl) (fun _ _ _ h => h) (Or.inl ⟨by rfl, ?_⟩) ?_ ?_
      rotate_left
      · intro w'
        go_simp
        with_reducible rfl
      rotate_left
      · simp only [Act.put, List.setIfInBounds_toArray, List.set_cons_zero, List.set_cons_succ, i64_w, i32_w]
        rfl
      refine pure_ (i := 6) (N := some 54) (v := ?_) (a' := ?_) #[true, true, true, true, true, true, true, false, false, false] rfl rfl (by kernel_rfl) (fun _ _ _ h => h) (Or.inl ⟨by rfl, ?_⟩) ?_ ?_
      rotate_left
      · intro w'
        go_simp
        with_reducible rfl
      rotate_left
      · simp only [Act.put, List.setIfInBounds_toArray, List.set_cons_zero, List.set_cons_succ, i64_w, i32_w]
        rfl
      refine one_ (i := 7) (N := some 55) #[true, true, true, true, true, true, true, true, false, false] rfl rfl (by kernel_rfl) (by decide) (fun K hK => ?_)
      refine value_ (w1 := ?_) (v := ?_) (by rfl) rfl ?_ ?_
      rotate_left 2
      · go_simp
        constructor
        · rfl
        · rfl
      refine hK.out _ _ ((((below_alloc (Below.refl _ _) _).cell (World.block_lt_of_cell? _ _ ((blk_cell H95.out 0).trans rfl))).trans ((blk_cell H95.out 0).trans rfl))) (fun hHeld => ?_)
      clear hK K
      refine norm_ (a' := ?_) ?_ ?_
      rotate_left
      · show Act.put _ (some 55) _ = _
        simp only [Act.put, List.setIfInBounds_toArray, List.set_cons_zero, List.set_cons_succ, i64_w, i32_w]
        rfl
      refine last_ (i := 8) (N := some 56) #[true, true, true, true, true, true, true, true, true, false] rfl rfl (by kernel_rfl) (by decide) (fun K hK => ?_)
      refine Kd.R_append_step (Kd.int .i64) (w0 := w) (W := w5) w.heap.size (by rfl) (.tmp 48) (.tmp 55) 23 3 (.int .i64 0) 8 rfl Tryd.underlying23 info3 rfl (by decide) (by omega) u6 ((l2.map fun x => rd (symM l0.length ps) x).take k) (ρ c : Int) [.int .i64 (ρ c : Int)] (fun k => some k ≠ V.ownBlock ∧ k ≠ gO ∧ k ≠ 0 ∧ k ≠ g9) (fun _ => False) rfl rfl rfl (fun _ hk => hk.elim) ?aF ?aO ?aB ?aS ?aL ?_
      case aF => exact fun k hk => ⟨by rw [HVo.out]; intro e; have := HS5.out.lt; injection e with e; omega, by have := HS5.out.ltO; omega, by have := HS5.out.ltO; omega, by have := blk_lt H95.out; omega⟩
      case aO => exact HO5.out
      case aB => exact HB5.out
      case aS => exact HB5.out.size
      case aL => (have := HQ.out; omega)
      intro v9 w12 ho hb hg hat
      have HO12 := Lib.hid ho
      have HB12 := Lib.hid hb
      have HG12 := Lib.hid hg
      clear ho hb hg hat
      refine hK.out _ _ ?_
      clear hK K
      refine norm_ (a' := ?_) ?_ ?_
      rotate_left
      · show Act.put _ (some 56) _ = _
        simp only [Act.put, List.setIfInBounds_toArray, List.set_cons_zero, List.set_cons_succ, i64_w, i32_w]
        rfl
      refine pure_ (i := 9) (N := some 6) (v := ?_) (a' := ?_) #[true, true, true, true, true, true, true, true, true, true] rfl rfl (by kernel_rfl) (fun _ _ _ h => h) (Or.inl ⟨by rfl, ?_⟩) ?_ ?_
      rotate_left
      · intro w'
        go_simp
        with_reducible rfl
      rotate_left
      · simp only [Act.put, List.setIfInBounds_toArray, List.set_cons_zero, List.set_cons_succ, i64_w, i32_w]
        rfl
      refine done_ (by kernel_rfl) ?_
      have hOK := HO5.out.1
      have hne : ∀ q, (q = 0 ∨ q = gO ∨ q = g ∨ q = g9) → some q ≠ u6.ownBlock := fun q hq e => by
        have h := hOK q e.symm
        rw [HVo.out] at h
        rcases hq with rfl | rfl | rfl | rfl
        · exact h.2.2.1 rfl
        · exact h.2.1 rfl
        · exact h.1 rfl
        · exact h.2.2.2 rfl
      have hS12 : St w12 gO g cap ys := HS5.out.keep (HG12.out.block 0 HS5.out.ltO.2 (hne 0 (.inl rfl))) (HG12.out.block gO HS5.out.ltO.1 (hne gO (.inr (.inl rfl)))) (HG12.out.block g HS5.out.lt (hne g (.inr (.inr (.inl rfl)))))
      have h912 := (HG12.out.block g9 (blk_lt H95.out) (hne g9 (.inr (.inr (.inr rfl))))).trans H95.out
      have hn : ys.length = l0.length := by rw [HN5.out, HXN.out]
      have hT12 : Tb w12 gO V ys := by
        have h := hS12.Tb
        rw [hn, ← HV.out] at h
        exact h
      have hF12 := HF5.out
      rw [HXN.out] at hF12
      have HMS2 := Lib.hid (show MS w w12 gO g9 V l0.length (symM l0.length ps) from ⟨ys, ρ, d, hT12, hn, hF12, HTo.out, h912, HB12.out⟩)
      have HRS := Lib.hid (show (l2.map fun x => rd (symM l0.length ps) x).take (k + 1) = (l2.map fun x => rd (symM l0.length ps) x).take k ++ [(ρ c : Int)] from by rw [HE.out, HTo.out c Ha.out])
      clear hOK hne hS12 h912 hn hT12 hF12
      go_wp2
      go_roundw
      case rel => exact ⟨k + 1, by rw [hw], HLk.out, HMS2, Lib.hid (by rw [HRS.out]; exact HO12.out)⟩
      case measure =>
        rw [hw]
        have hm := HLk.out
        show l2.length - ((k + 1 : Nat) : Int).toNat < l2.length - ((k : Int)).toNat
        rw [Int.toNat_natCast, Int.toNat_natCast]
        omega
    · have d1 : decide ((k : Int) < (l2.length : Int)) = false := decide_eq_false (by omega)
      have d2 : decide (k < l2.length) = false := decide_eq_false hlt
      have e3 : (l2.map fun x => rd (symM l0.length ps) x).take k = l2.map fun x => rd (symM l0.length ps) x := List.take_of_length_le (by rw [List.length_map]; omega)
      rw [e3] at HO
      clear hk hlt e3 hw
      obtain ⟨xs, ρ, d, hTb, hxn, hFo, hto, h9, hBw⟩ := HMS.out.out
      obtain ⟨A3, c3, hV⟩ := Kd.R_slice hTb.row
      rw [hxn] at hV
      obtain ⟨A6, c6, hv6, hc6, hC6⟩ := Kd.R_reads HO.out
      rw [List.length_map] at hv6 hc6
      subst hV
      subst hv6
      have HXN := Lib.hid hxn
      have HRow := Lib.hid hTb.row
      have HBw := Lib.hid hBw
      have HC6 := Lib.hid hc6
      have y0 := (blk_cell h9 0).trans rfl
      have y1 := (blk_cell hTb.out 0).trans rfl
      clear hTb hxn hFo hto h9 hBw hc6 hC6 HMS
      go_wp2
      go_loopw [63, 7] (fun v63 v7 wr => ∃ (i : Nat) (zs : List S35), v63 = .int .i64 (i : Int) ∧ Hid (zs.length = i) ∧ i ≤ l0.length ∧ Hid (kSy.R 60 wr 0 (fun k => k ≠ 0 ∧ k ≠ gO) (.slice A3 l0.length c3) xs) ∧ Hid ((Kd.int .i64).R 3 wr w.heap.size (fun k => some k ≠ (Value.slice A3 l0.length c3).ownBlock ∧ k ≠ gO ∧ k ≠ 0 ∧ k ≠ g9) (.slice A6 l2.length c6) (l2.map fun x => rd (symM l0.length ps) x)) ∧ Hid (k35.R 35 wr w.heap.size (fun _ => True) v7 zs) ∧ Hid (Below w.heap.size w wr)) (fun v63 _ _ => l0.length - (intOf v63).toNat)
      case atStart => exact ⟨0, [], rfl, Lib.hid rfl, Nat.zero_le _, HRow, HO, Lib.hid (Kd.R_nil _ _ _ _ _), HBw⟩
      clear HRow HO HBw y0 y1
      obtain ⟨i, zs, rfl, HZ, hi, HRow, HO, HZs, HBw⟩ := hrel
      have hw : wrap64 ((i : Int) + 1) = ((i + 1 : Nat) : Int) := by have := HL0.out; unfold wrap64; omega
      by_cases hlt : i < l0.length
      · have p1 : (0 : Int) ≤ (i : Int) := by omega
        have q1 : (i : Int) < (l0.length : Int) := by omega
        have d1 : decide ((i : Int) < (l0.length : Int)) = true := decide_eq_true q1
        have d2 : decide (i < l0.length) = true := decide_eq_true hlt
        obtain ⟨g, cap, hV, _, hgl, _, _⟩ := Kd.R_form HRow.out (by rw [HXN.out]; omega)
        rw [HXN.out] at hV
        injection hV with hA3 _ hc3
        subst hA3
        subst hc3
        obtain ⟨cc, _, hM, hcc, _⟩ := Kd.R_elem HRow.out zSy (i : Int) p1 q1
        rw [Int.toNat_natCast] at hcc hM
        have hM' : cc = encSy (rdS xs i) := hM
        subst hM'
        have xx : ∀ (j : Nat) (u : Value), (encSy (rdS xs i))[j]? = some u → wr.cell? ⟨g, i * 10 + j, none⟩ = some u := hcc
        have x0 : wr.cell? ⟨g, i * 10, none⟩ = some (.pointer none) := xx 0 _ rfl
        have x1 := xx 1 _ rfl; have x2 := xx 2 _ rfl; have x3 := xx 3 _ rfl; have x4 := xx 4 _ rfl; have x5 := xx 5 _ rfl; have x6 := xx 6 _ rfl; have x7 := xx 7 _ rfl; have x8 := xx 8 _ rfl; have x9 := xx 9 _ rfl
        have HLi := Lib.hid hlt
        have HQ := Lib.hid (show zs.length ≤ 200 from by rw [HZ.out]; have := HL0.out; omega)
        generalize (rdS xs i).name = nm at *
        generalize lsrc (rdS xs i).link = ls at *
        generalize lidx (rdS xs i).link = li at *
        generalize (rdS xs i).uses = us at *
        generalize (rdS xs i).flags = fg at *
        generalize (rdS xs i).kind = kd at *
        obtain ⟨fg', hfg⟩ : ∃ q, IntKind.i64.wrap fg = q := ⟨_, rfl⟩
        obtain ⟨kd', hkd⟩ : ∃ q, IntKind.i64.wrap kd = q := ⟨_, rfl⟩
        clear hM hcc xx hi hlt hgl
        replace p1 := eq_true p1
        replace q1 := eq_true q1
        go_wp2_with (first | ((with_reducible refine gate_dst (N := 15) rfl ?_); refine box_event ?hg (N := 15) ?hd (cs := #[.pointer none, .string ⟨#[]⟩, .int .u32 0, .int .u32 0, .int .u32 0, .int .u32 0, .int .u32 0, .int .u16 0, .int .u8 0, .int .u8 0]) (t := 60) ?hr ?_; (case hd => rfl); (case hg => rfl); (case hr => first | (go_simp; done) | (go_simp; rfl)); intro gb hg w7 hbox hb; have HG := Lib.hid hg; have HY := Lib.hid hb; have HX7 := Lib.hid hbox; clear hg hbox hb; have z0 := (blk_cell HX7.out 0).trans rfl; have fz0 := blk_frozen HX7.out 0; have z1 := (blk_cell HX7.out 1).trans rfl; have fz1 := blk_frozen HX7.out 1; have z2 := (blk_cell HX7.out 2).trans rfl; have fz2 := blk_frozen HX7.out 2; have z3 := (blk_cell HX7.out 3).trans rfl; have fz3 := blk_frozen HX7.out 3; have z4 := (blk_cell HX7.out 4).trans rfl; have fz4 := blk_frozen HX7.out 4; have z5 := (blk_cell HX7.out 5).trans rfl; have fz5 := blk_frozen HX7.out 5; have z6 := (blk_cell HX7.out 6).trans rfl; have fz6 := blk_frozen HX7.out 6; have z7 := (blk_cell HX7.out 7).trans rfl; have fz7 := blk_frozen HX7.out 7; have z8 := (blk_cell HX7.out 8).trans rfl; have fz8 := blk_frozen HX7.out 8; have z9 := (blk_cell HX7.out 9).trans rfl; have fz9 := blk_frozen HX7.out 9; have HB8 := Lib.hid ((((((((((HY.out.setCell (p := ⟨gb, 0, none⟩) (Nat.le_of_eq HG.out.symm) (.pointer none)).setCell (p := ⟨gb, 1, none⟩) (Nat.le_of_eq HG.out.symm) (.string nm)).setCell (p := ⟨gb, 2, none⟩) (Nat.le_of_eq HG.out.symm) (.int .u32 ls)).setCell (p := ⟨gb, 3, none⟩) (Nat.le_of_eq HG.out.symm) (.int .u32 li)).setCell (p := ⟨gb, 4, none⟩) (Nat.le_of_eq HG.out.symm) (.int .u32 us)).setCell (p := ⟨gb, 5, none⟩) (Nat.le_of_eq HG.out.symm) (.int .u32 0)).setCell (p := ⟨gb, 6, none⟩) (Nat.le_of_eq HG.out.symm) (.int .u32 0)).setCell (p := ⟨gb, 7, none⟩) (Nat.le_of_eq HG.out.symm) (.int .u16 fg)).setCell (p := ⟨gb, 8, none⟩) (Nat.le_of_eq HG.out.symm) (.int .u8 kd)).setCell (p := ⟨gb, 9, none⟩) (Nat.le_of_eq HG.out.symm) (.int .u8 0))) | ((with_reducible refine gate_builtin (b := .append) (xs := #[.tmp 67, .tmp 79]) rfl ?_); at_builtin; refine Kd.R_append k35 (w0 := w) w.heap.size rfl (.tmp 67) (.tmp 79) 22 35 (.agg #[.string ⟨#[]⟩, .int .u32 0, .int .i64 0, .int .i64 0]) 40 rfl Tryd.underlying22 info35' rfl (by decide) (by omega) u7 zs (⟨nm, us, fg', kd'⟩ : S35) [.string nm, .int .u32 us, .int .i64 fg', .int .i64 kd'] (fun _ => True) (fun _ => False) rfl ?aX ?aP (fun _ hk => hk.elim) ?aF ?aO ?aB ?aS ?aL ?_; (case aX => simp only [World.size_setCell]; rfl); (case aP => exact k35_mkM _ _ _ (⟨nm, us, fg', kd'⟩ : S35)); (case aF => exact (fun _ _ => trivial)); (case aO => exact Kd.R_below HZs.out HB8.out); (case aB => exact HBw.out.trans (HB8.out.mono HBw.out.size)); (case aS => exact Nat.le_trans HBw.out.size HB8.out.size); (case aL => have := HQ.out; omega); intro v9 w12 ho hb hg hat; have HO12 := Lib.hid ho; have HB12 := Lib.hid hb; have HR12 := Lib.hid (Kd.R_over (Kd.R_below HRow.out HB8.out) (Kd.R_below HZs.out HB8.out) ty60 hg); have HF12 := Lib.hid (Kd.R_over (Kd.R_below HO.out HB8.out) (Kd.R_below HZs.out HB8.out) ty3 hg); clear ho hb hg hat))
        go_roundw
        case rel => exact ⟨i + 1, zs ++ [⟨nm, us, fg', kd'⟩], by rw [hw], Lib.hid (by rw [List.length_append, HZ.out]; rfl), HLi.out, HR12, HF12, HO12, HB12⟩
        case measure =>
          rw [hw]
          have hm := HLi.out
          show l0.length - ((i + 1 : Nat) : Int).toNat < l0.length - ((i : Int)).toNat
          rw [Int.toNat_natCast, Int.toNat_natCast]
          omega
      · have d1 : decide ((i : Int) < (l0.length : Int)) = false := decide_eq_false (by omega)
        have d2 : decide (i < l0.length) = false := decide_eq_false hlt
        obtain ⟨_, _, hC⟩ := Kd.R_reads' HO.out
        rw [List.length_map] at hC
        have HC := Lib.hid hC
        clear hi hlt hC
        go_wp2
        go_ret2
        exact ⟨A6, c6, u7, ⟨HC.out, HC6.out, HBw.out⟩, rfl⟩
end Go.Proofs.YtfjfacgbambbdaaDoor
