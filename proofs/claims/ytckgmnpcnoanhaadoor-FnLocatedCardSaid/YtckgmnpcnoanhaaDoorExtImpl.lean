/- impl.Located, walked: it tells each range of a text with its line, its column and the line's text. -/
import Derived.Test.YtckgmnpcnoanhaaDoorExtKinds
set_option linter.unusedVariables false
set_option linter.unusedSimpArgs false
namespace Go.Proofs.YtckgmnpcnoanhaaDoor
open Go Go.RowKit Go.Proofs.YtckgmnpcnoanhaaDoorW.PrintWords Go.Proofs.YtckgmnpcnoanhaaDoorW.PrintLast Go.Proofs.YtckgmnpcnoanhaaDoorW.PrintMore Go.Proofs.YtckgmnpcnoanhaaDoor.PFnLocated
def srcCells (s : ByteArray) : Array Value := #[.string ⟨#[]⟩, .string ⟨#[]⟩, .string ⟨#[]⟩, .string s, .string ⟨#[]⟩, .string ⟨#[]⟩, .string ⟨#[]⟩, .string ⟨#[]⟩, .int .u8 0, .int .u32 0]
theorem Make.calls' (gs : Nat) (s : ByteArray) (w : World) (h0 : w.cell? ⟨gs, 0, none⟩ = some (.string ⟨#[]⟩)) (h1 : w.cell? ⟨gs, 1, none⟩ = some (.string ⟨#[]⟩)) (h3 : w.cell? ⟨gs, 3, none⟩ = some (.string s)) :
    Calls Tryd.prog 8 #[.pointer (some ⟨gs, 0, none⟩)] w fun e w' => e = .returned (.agg #[.string s, .string ⟨#[]⟩, .string ⟨#[]⟩, .int .i32 0, .int .i32 0, .int .i32 0, .int .i32 0, .bool true, .bool false, .bool true]) ∧ Below w.heap.size w w' := Make.calls gs s w h0 h1 h3
theorem below_of_grown {w0 w w1 : World} {g : Nat} (hb : Below w0.heap.size w0 w) (hg : w.grownBy w1 (some g)) (h : w0.heap.size ≤ g) : Below w0.heap.size w0 w1 :=
  ⟨hg.os.trans hb.os, hg.tape.trans hb.tape, hg.output.trans hb.output, Nat.le_trans hb.size hg.size, fun k hk => (hg.block k (Nat.lt_of_lt_of_le hk hb.size) (by simp; omega)).trans (hb.block k hk)⟩
theorem below_of_row {w0 w w1 : World} {V : Value} (hb : Below w0.heap.size w0 w) (h : Below w0.heap.size w0 w1) : Below w0.heap.size w0 w1 := h
/-- The range may be asked: what impl.within says. -/
theorem within_asked {s : ByteArray} {r : Int × Int} (hz : s.size ≤ 4096) (h : Asked s r) : impl_within.f s r.1 r.2 = some true := by
  obtain ⟨j, e, h1, h2, h3⟩ := h
  have hj := h1.1
  have ew : wrap64 ((s.size : Int) - r.1) = (s.size : Int) - r.1 := by unfold wrap64; omega
  unfold impl_within.f
  rw [if_pos (by omega), if_pos (by omega), if_pos (by omega), ew, decide_eq_true (by omega)]
theorem trk_new (w : World) (nt : Nat) (s : ByteArray) (h : w.heap[nt]? = some (.cells #[.string s, .string ⟨#[]⟩, .string ⟨#[]⟩, .int .i32 0, .int .i32 0, .int .i32 0, .int .i32 0, .bool true, .bool false, .bool true] 45 (0, 0))) (hT : GTab w) : SS w w nt s 0 0 :=
  ⟨0, 0, 0, true, false, ⟨Nat.zero_le _, Nat.zero_le _, 0, .zero, fun _ => rfl, fun h => by cases h⟩, h, hT, grown_refl w nt⟩
theorem GTab.two {w : World} (h : GTab w) : 2 ≤ w.heap.size := by
  have h1 := (h.2 0 (by decide)).1
  have := block_lt_of_cell h1
  exact this
theorem GTab.keep {w w1 : World} (h : GTab w) (h0 : w1.heap[0]? = w.heap[0]?) (h1 : w1.heap[1]? = w.heap[1]?) : GTab w1 := by
  have hh : ∀ (b o : Nat), b < 2 → w1.cell? ⟨b, o, none⟩ = w.cell? ⟨b, o, none⟩ := fun b o hb => by
    unfold World.cell?
    match b, hb with
    | 0, _ => rw [h0]
    | 1, _ => rw [h1]
  exact ⟨fun c hc => (hh 0 _ (by decide)).trans (h.1 c hc), fun i hi => ⟨(hh 1 _ (by decide)).trans (h.2 i hi).1, (hh 1 _ (by decide)).trans (h.2 i hi).2⟩⟩
theorem SS.row {w w1 : World} {nt : Nat} {s : ByteArray} {o q : Nat} {row : Option Nat} (h : SS w w nt s o q) (hg : w.grownBy w1 row) (h0 : some nt ≠ row) (h2 : ∀ k, some k = row → 2 ≤ k) : SS w1 w1 nt s o q := by
  obtain ⟨l, ls, le, hs, he, hG, hT, hU, hK⟩ := h
  have hz := hU.two
  exact ⟨l, ls, le, hs, he, hG, blk_grown hT hg h0, hU.keep (hg.block 0 (by omega) (fun e => by have := h2 0 e; omega)) (hg.block 1 (by omega) (fun e => by have := h2 1 e; omega)), grown_refl w1 nt⟩
def told (s : ByteArray) (ps : List (Int × Int)) (xs : List Lc) (k : Nat) : Prop := xs.length = k ∧ ∀ i : Nat, i < k → LocOf s (rdP ps i) (rdL xs i)
theorem told.push {s : ByteArray} {ps : List (Int × Int)} {xs : List Lc} {k : Nat} {x : Lc} (h : told s ps xs k) (hx : LocOf s (rdP ps k) x) : told s ps (xs ++ [x]) (k + 1) := by
  refine ⟨by rw [List.length_append, h.1]; rfl, fun i hi => ?_⟩
  have hl := h.1
  by_cases e : i = k
  · subst e
    have : rdL (xs ++ [x]) i = x := by
      unfold rdL
      rw [List.getD_eq_getElem?_getD, List.getElem?_append_right (by omega), hl, Nat.sub_self]
      rfl
    rw [this]
    exact hx
  · have : rdL (xs ++ [x]) i = rdL xs i := by
      unfold rdL
      rw [List.getD_eq_getElem?_getD, List.getD_eq_getElem?_getD, List.getElem?_append_left (by omega)]
    rw [this]
    exact h.2 i (by omega)
set_option maxHeartbeats 8000000 in
set_option maxRecDepth 100000 in
theorem Impl.calls (s : ByteArray) (A0 : Option Addr) (c0 : Nat) (ps : List (Int × Int)) (w : World) (hW : Wf s) (hz : s.size ≤ 4096) (hT : GTab w) (hr0 : Kd.C kP w A0 ps.length ps) (hll : ps.length ≤ 50) (hx : ∀ i : Nat, i < ps.length → Asked s (rdP ps i)) :
    Calls Tryd.prog 4 #[.string s, .slice A0 ps.length c0] w fun e w' => ∃ (A : Option Addr) (c : Nat) (xs : List Lc), (told s ps xs ps.length ∧ Kd.C kL w' A ps.length xs ∧ ps.length ≤ c ∧ Below w.heap.size w w') ∧ e = .returned (.tuple #[.slice A ps.length c, .bool true]) := by
  have Hr := Lib.hid hr0
  have HT := Lib.hid hT
  have HWf := Lib.hid hW
  have HZ := Lib.hid hz
  have HL := Lib.hid hll
  have HA := Lib.hid hx
  clear hr0 hT hW hz hll hx
  go_enter Tryd.func4, Tryd.ntmps4
  go_upto_region 2 with (fail)
  have hb := below_alloc (Below.refl w.heap.size w) (.cells (srcCells s) 43 (0, 0))
  have hx := heap_alloc_new w (.cells (srcCells s) 43 (0, 0))
  change Code.wp _ _ _ _ (World.alloc w (.cells (srcCells s) 43 (0, 0)))
  generalize World.alloc w _ = W at *
  have HB := Lib.hid hb
  have HX := Lib.hid hx
  clear hb hx
  go_upto_region 3 with (first | (go_at_call 8; (with_reducible refine (Make.calls' w.heap.size s W ?q0 ?q1 ?q3).mono ?_); (case q0 => exact (blk_cell HX.out 0).trans rfl); (case q1 => exact (blk_cell HX.out 1).trans rfl); (case q3 => exact (blk_cell HX.out 3).trans rfl); rintro e w2 ⟨rfl, hb⟩; have HM := Lib.hid hb; clear hb))
  have hb2 : Below w.heap.size w w2 := HB.out.trans (HM.out.mono HB.out.size)
  have hb3 := below_alloc hb2 (.cells #[.string s, .string ⟨#[]⟩, .string ⟨#[]⟩, .int .i32 0, .int .i32 0, .int .i32 0, .int .i32 0, .bool true, .bool false, .bool true] 45 (0, 0))
  have hx3 := heap_alloc_new w2 (.cells #[.string s, .string ⟨#[]⟩, .string ⟨#[]⟩, .int .i32 0, .int .i32 0, .int .i32 0, .int .i32 0, .bool true, .bool false, .bool true] 45 (0, 0))
  generalize World.alloc w2 _ = W3 at *
  have HS := Lib.hid (trk_new W3 w2.heap.size s hx3 (HT.out.below hb3))
  have HNt := Lib.hid (show 2 ≤ w2.heap.size ∧ w.heap.size ≤ w2.heap.size from ⟨Nat.le_trans HT.out.two hb2.size, hb2.size⟩)
  have HB3 := Lib.hid hb3
  generalize w2.heap.size = nt at *
  clear hb2 hb3 hx3 HB HX HM
  go_wp2
  go_loopw [16, 4] (fun v16 v4 wr => ∃ (k i : Nat) (xs : List Lc), v16 = .int .i64 (k : Int) ∧ k ≤ ps.length ∧ Hid (told s ps xs k) ∧ Hid (kL.R 28 wr w.heap.size (fun q => q ≠ nt ∧ 2 ≤ q) v4 xs) ∧ Hid (SS wr wr nt s i i) ∧ Hid (Below w.heap.size w wr)) (fun v16 _ _ => ps.length - (intOf v16).toNat)
  case atStart => exact ⟨0, 0, [], rfl, Nat.zero_le _, Lib.hid ⟨rfl, fun i hi => by omega⟩, Lib.hid (Kd.R_nil _ _ _ _ _), HS, HB3⟩
  clear HS HB3
  obtain ⟨k, i0, xs, rfl, hk, HTo, HO, HS, HBw⟩ := hrel
  have hw : wrap64 ((k : Int) + 1) = ((k + 1 : Nat) : Int) := by have := HL.out; unfold wrap64; omega
  by_cases hlt : k < ps.length
  · have p1 : (0 : Int) ≤ (k : Int) := by omega
    have q1 : (k : Int) < (ps.length : Int) := by omega
    have d1 : decide ((k : Int) < (ps.length : Int)) = true := decide_eq_true q1
    have d2 : decide (k < ps.length) = true := decide_eq_true hlt
    obtain ⟨ad, e1, x0, x1⟩ := at_P Hr.out k hlt
    cases e1
    replace x0 := (HBw.out.cell (World.block_lt_of_cell? w _ x0)).trans x0
    replace x1 := (HBw.out.cell (World.block_lt_of_cell? w _ x1)).trans x1
    have HLk := Lib.hid hlt
    have HAk := Lib.hid (HA.out k hlt)
    have HE := Lib.hid (show rdP ps (k : Int) = rdP ps (k : Int) from rfl)
    generalize hpr : rdP ps (k : Int) = pr at x0 x1 HAk HE
    have HPr := Lib.hid hpr
    have HWi := Lib.hid (within_asked HZ.out HAk.out)
    have Hj := HAk.out
    obtain ⟨a, b⟩ := pr
    obtain ⟨j, ej, hj1, hj2, hj3⟩ := Hj
    change a = (j : Int) at ej
    subst ej
    have HJ := Lib.hid hj1
    have HN := Lib.hid (show 0 ≤ b ∧ b ≤ 4096 from ⟨hj2, by have := HZ.out; change b ≤ (s.size : Int) - (j : Int) at hj3; omega⟩)
    clear hj1 hj2 hj3 hk hlt hpr HAk HE
    replace p1 := eq_true p1
    replace q1 := eq_true q1
    change wr.cell? (ad.add (k * 2)) = some (.int .i64 (j : Int)) at x0
    change wr.cell? _ = some (.int .i64 b) at x1
    go_upto_region 6 with (first | ((with_reducible refine gate_dst (N := 9) rfl ?_); refine box_event ?hg (N := 9) ?hd (cs := #[.int .i64 0, .int .i64 0]) (t := 26) ?hr ?_; (case hd => rfl); (case hg => rfl); (case hr => first | (go_simp; done) | (go_simp; rfl)); intro gb hg w7 hbox hb; have HG := Lib.hid hg; have HY := Lib.hid hb; have HX7 := Lib.hid hbox; clear hg hbox hb; have z0 := (blk_cell HX7.out 0).trans rfl; have z1 := (blk_cell HX7.out 1).trans rfl; have fz0 := blk_frozen HX7.out 0; have fz1 := blk_frozen HX7.out 1))
    have hb8 := (HY.out.setCell (p := ⟨gb, 0, none⟩) (Nat.le_of_eq HG.out.symm) (.int .i64 (j : Int))).setCell (p := ⟨gb, 1, none⟩) (Nat.le_of_eq HG.out.symm) (.int .i64 b)
    have hx8 := blk_put (blk_put HX7.out 0 (.int .i64 (j : Int)) rfl) 1 (.int .i64 b) rfl
    generalize World.setCell (World.setCell w7 _ _) _ _ = w8 at *
    clear x0 x1 z0 z1 fz0 fz1 HX7 HY
    have x0 := (blk_cell hx8 0).trans rfl
    have x1 := (blk_cell hx8 1).trans rfl
    have HX8 := Lib.hid hx8
    have HS8 := Lib.hid (HS.out.below hb8).self
    have HB8 := Lib.hid (HBw.out.trans (hb8.mono HBw.out.size))
    have HO8 := Lib.hid (Kd.R_below HO.out hb8)
    clear hx8 hb8 HS HBw HO HG
    go_upto_region 8 with (first | (go_at_call 9; (with_reducible refine (impl_within.calls s (j : Int) b true _ HWi.out).mono ?_); rintro e w5 ⟨rfl, hd5⟩; have HD5 := Lib.hid hd5; clear hd5))
    replace x0 : w8.cell? ⟨gb, 0, none⟩ = some (.int .i64 (j : Int)) := x0
    replace x1 : w8.cell? ⟨gb, 1, none⟩ = some (.int .i64 b) := x1
    have hb5 : Below w8.heap.size w8 w5 := HD5.out.below
    have HX5 := Lib.hid (blk_below HX8.out hb5)
    have HS5 := Lib.hid (HS8.out.below hb5).self
    have HB5 := Lib.hid (HB8.out.trans (hb5.mono HB8.out.size))
    have HO5 := Lib.hid (Kd.R_below HO8.out hb5)
    clear x0 x1 hb5 HX8 HS8 HB8 HO8 HD5
    go_upto_region 9 with (first | ((with_reducible refine gate_dst (N := 10) rfl ?_); refine box_event ?hg (N := 10) ?hd (cs := #[.pointer none]) (t := 49) ?hr ?_; (case hd => rfl); (case hg => rfl); (case hr => first | (go_simp; done) | (go_simp; rfl)); intro gl hg w9 hbox hb; have HGl := Lib.hid hg; have HY := Lib.hid hb; have HX9 := Lib.hid hbox; clear hg hbox hb))
    have HCall := Lib.hid (Calm.calls nt gb gl s i0 j b w5 w9 HWf.out HJ.out HZ.out (HS5.out.below HY.out) HNt.out.1 HN.out (blk_below HX5.out HY.out) HX9.out (Nat.le_of_eq HGl.out.symm) HS5.out.lt)
    go_upto_region 11 with (first | (go_at_call 10; (with_reducible refine HCall.out.mono ?_); rintro e w11 ⟨rfl, hq⟩; obtain ⟨bb, l, ls, le, hb1, hb2, hTr, hE, hS⟩ := hq.out; have HB1 := Lib.hid hb1; have HTr := Lib.hid hTr; have HE := Lib.hid hE; have HS11 := Lib.hid hS; have y0 := (blk_cell hb2 0).trans rfl; clear hb1 hb2 hTr hE hS hq))
    replace y0 : w11.cell? ⟨gl, 0, none⟩ = some (.pointer (some ⟨bb, 0, none⟩)) := y0
    have y1 : w11.cell? ⟨bb, 5, none⟩ = some (.int .i64 ((l : Int) + 1)) := (blk_cell HB1.out 5).trans rfl
    have y2 : w11.cell? ⟨bb, 6, none⟩ = some (.int .i64 ((j : Int) - (ls : Int))) := (blk_cell HB1.out 6).trans rfl
    have y3 : w11.cell? ⟨bb, 7, none⟩ = some (.int .i64 b) := (blk_cell HB1.out 7).trans rfl
    have y4 : w11.cell? ⟨bb, 3, none⟩ = some (.string (s.extract ls le)) := (blk_cell HB1.out 3).trans rfl
    have HO11 := Lib.hid (Kd.R_grown HO5.out HS11.out.grown (fun q hq e => hq.1 (Option.some.inj e)))
    have HB11 := Lib.hid (below_of_grown HB5.out HS11.out.grown HNt.out.2)
    have HQ := Lib.hid (show xs.length ≤ 50 from by rw [HTo.out.1]; exact Nat.le_of_lt (Nat.lt_of_lt_of_le HLk.out HL.out))
    clear HX5 HS5 HB5 HO5 HGl HY HX9 HCall HB1
    refine start_ (n := 21) (S := fun w' => w'.cell? ⟨gl, 0, none⟩ = some (.pointer (some ⟨bb, 0, none⟩)) ∧ w'.cell? ⟨bb, 5, none⟩ = some (.int .i64 ((l : Int) + 1)) ∧ w'.cell? ⟨bb, 6, none⟩ = some (.int .i64 ((j : Int) - (ls : Int))) ∧ w'.cell? ⟨bb, 7, none⟩ = some (.int .i64 b) ∧ w'.cell? ⟨bb, 3, none⟩ = some (.string (s.extract ls le))) (ds := [19]) #[false, false, false, false, false, false, false, false, false, false, false, false, false, false, false, false, false, false, false, false, false] (by kernel_rfl) rfl rfl ⟨y0, y1, y2, y3, y4⟩ (fun hHeld => ?_)
    refine pure_ (i := 0) (N := some 34) (v := ?_) (a' := ?_) #[true, false, false, false, false, false, false, false, false, false, false, false, false, false, false, false, false, false, false, false, false] rfl rfl (by kernel_rfl) (fun _ _ _ h => h) (Or.inl ⟨by rfl, ?_⟩) ?_ ?_
    rotate_left
    · intro w'
      go_simp
      with_reducible rfl
    rotate_left
    · simp only [Act.put, List.setIfInBounds_toArray, List.set_cons_zero, List.set_cons_succ, i64_w, i32_w]
      rfl
    refine take_ (i := 1) (N := some 35) (v := ?_) (a' := ?_) #[true, true, false, false, false, false, false, false, false, false, false, false, false, false, false, false, false, false, false, false, false] rfl rfl (by kernel_rfl) (fun _ _ _ h => h) (Or.inl ⟨by rfl, ?_⟩) hHeld ?_ ?_
    rotate_left
    · rintro w' ⟨s0, s1, s2, s3, s4⟩
      go_simp
      with_reducible rfl
    rotate_left
    · simp only [Act.put, List.setIfInBounds_toArray, List.set_cons_zero, List.set_cons_succ, i64_w, i32_w]
      rfl
    refine pure_ (i := 2) (N := some 36) (v := ?_) (a' := ?_) #[true, true, true, false, false, false, false, false, false, false, false, false, false, false, false, false, false, false, false, false, false] rfl rfl (by kernel_rfl) (fun _ _ _ h => h) (Or.inl ⟨by rfl, ?_⟩) ?_ ?_
    rotate_left
    · intro w'
      go_simp
      with_reducible rfl
    rotate_left
    · simp only [Act.put, List.setIfInBounds_toArray, List.set_cons_zero, List.set_cons_succ, i64_w, i32_w]
      rfl
    refine pure_ (i := 3) (N := some 37) (v := ?_) (a' := ?_) #[true, true, true, true, false, false, false, false, false, false, false, false, false, false, false, false, false, false, false, false, false] rfl rfl (by kernel_rfl) (fun _ _ _ h => h) (Or.inl ⟨by rfl, ?_⟩) ?_ ?_
    rotate_left
    · intro w'
      go_simp
      with_reducible rfl
    rotate_left
    · simp only [Act.put, List.setIfInBounds_toArray, List.set_cons_zero, List.set_cons_succ, i64_w, i32_w]
      rfl
    refine take_ (i := 4) (N := some 38) (v := ?_) (a' := ?_) #[true, true, true, true, true, false, false, false, false, false, false, false, false, false, false, false, false, false, false, false, false] rfl rfl (by kernel_rfl) (fun _ _ _ h => h) (Or.inl ⟨by rfl, ?_⟩) hHeld ?_ ?_
    rotate_left
    · rintro w' ⟨s0, s1, s2, s3, s4⟩
      go_simp
      with_reducible rfl
    rotate_left
    · simp only [Act.put, List.setIfInBounds_toArray, List.set_cons_zero, List.set_cons_succ, i64_w, i32_w]
      rfl
    refine take_ (i := 5) (N := some 39) (v := ?_) (a' := ?_) #[true, true, true, true, true, true, false, false, false, false, false, false, false, false, false, false, false, false, false, false, false] rfl rfl (by kernel_rfl) (fun _ _ _ h => h) (Or.inl ⟨by rfl, ?_⟩) hHeld ?_ ?_
    rotate_left
    · rintro w' ⟨s0, s1, s2, s3, s4⟩
      go_simp
      with_reducible rfl
    rotate_left
    · simp only [Act.put, List.setIfInBounds_toArray, List.set_cons_zero, List.set_cons_succ, i64_w, i32_w]
      rfl
    refine pure_ (i := 6) (N := some 40) (v := ?_) (a' := ?_) #[true, true, true, true, true, true, true, false, false, false, false, false, false, false, false, false, false, false, false, false, false] rfl rfl (by kernel_rfl) (fun _ _ _ h => h) (Or.inl ⟨by rfl, ?_⟩) ?_ ?_
    rotate_left
    · intro w'
      go_simp
      with_reducible rfl
    rotate_left
    · simp only [Act.put, List.setIfInBounds_toArray, List.set_cons_zero, List.set_cons_succ, i64_w, i32_w]
      rfl
    refine pure_ (i := 7) (N := some 41) (v := ?_) (a' := ?_) #[true, true, true, true, true, true, true, true, false, false, false, false, false, false, false, false, false, false, false, false, false] rfl rfl (by kernel_rfl) (fun _ _ _ h => h) (Or.inl ⟨by rfl, ?_⟩) ?_ ?_
    rotate_left
    · intro w'
      go_simp
      with_reducible rfl
    rotate_left
    · simp only [Act.put, List.setIfInBounds_toArray, List.set_cons_zero, List.set_cons_succ, i64_w, i32_w]
      rfl
    refine take_ (i := 8) (N := some 42) (v := ?_) (a' := ?_) #[true, true, true, true, true, true, true, true, true, false, false, false, false, false, false, false, false, false, false, false, false] rfl rfl (by kernel_rfl) (fun _ _ _ h => h) (Or.inl ⟨by rfl, ?_⟩) hHeld ?_ ?_
    rotate_left
    · rintro w' ⟨s0, s1, s2, s3, s4⟩
      go_simp
      with_reducible rfl
    rotate_left
    · simp only [Act.put, List.setIfInBounds_toArray, List.set_cons_zero, List.set_cons_succ, i64_w, i32_w]
      rfl
    refine take_ (i := 9) (N := some 43) (v := ?_) (a' := ?_) #[true, true, true, true, true, true, true, true, true, true, false, false, false, false, false, false, false, false, false, false, false] rfl rfl (by kernel_rfl) (fun _ _ _ h => h) (Or.inl ⟨by rfl, ?_⟩) hHeld ?_ ?_
    rotate_left
    · rintro w' ⟨s0, s1, s2, s3, s4⟩
      go_simp
      with_reducible rfl
    rotate_left
    · simp only [Act.put, List.setIfInBounds_toArray, List.set_cons_zero, List.set_cons_succ, i64_w, i32_w]
      rfl
    refine pure_ (i := 10) (N := some 44) (v := ?_) (a' := ?_) #[true, true, true, true, true, true, true, true, true, true, true, false, false, false, false, false, false, false, false, false, false] rfl rfl (by kernel_rfl) (fun _ _ _ h => h) (Or.inl ⟨by rfl, ?_⟩) ?_ ?_
    rotate_left
    · intro w'
      go_simp
      with_reducible rfl
    rotate_left
    · simp only [Act.put, List.setIfInBounds_toArray, List.set_cons_zero, List.set_cons_succ, i64_w, i32_w]
      rfl
    refine pure_ (i := 11) (N := some 45) (v := ?_) (a' := ?_) #[true, true, true, true, true, true, true, true, true, true, true, true, false, false, false, false, false, false, false, false, false] rfl rfl (by kernel_rfl) (fun _ _ _ h => h) (Or.inl ⟨by rfl, ?_⟩) ?_ ?_
    rotate_left
    · intro w'
      go_simp
      with_reducible rfl
    rotate_left
    · simp only [Act.put, List.setIfInBounds_toArray, List.set_cons_zero, List.set_cons_succ, i64_w, i32_w]
      rfl
    refine take_ (i := 12) (N := some 46) (v := ?_) (a' := ?_) #[true, true, true, true, true, true, true, true, true, true, true, true, true, false, false, false, false, false, false, false, false] rfl rfl (by kernel_rfl) (fun _ _ _ h => h) (Or.inl ⟨by rfl, ?_⟩) hHeld ?_ ?_
    rotate_left
    · rintro w' ⟨s0, s1, s2, s3, s4⟩
      go_simp
      with_reducible rfl
    rotate_left
    · simp only [Act.put, List.setIfInBounds_toArray, List.set_cons_zero, List.set_cons_succ, i64_w, i32_w]
      rfl
    refine take_ (i := 13) (N := some 47) (v := ?_) (a' := ?_) #[true, true, true, true, true, true, true, true, true, true, true, true, true, true, false, false, false, false, false, false, false] rfl rfl (by kernel_rfl) (fun _ _ _ h => h) (Or.inl ⟨by rfl, ?_⟩) hHeld ?_ ?_
    rotate_left
    · rintro w' ⟨s0, s1, s2, s3, s4⟩
      go_simp
      with_reducible rfl
    rotate_left
    · simp only [Act.put, List.setIfInBounds_toArray, List.set_cons_zero, List.set_cons_succ, i64_w, i32_w]
      rfl
    refine pure_ (i := 14) (N := some 48) (v := ?_) (a' := ?_) #[true, true, true, true, true, true, true, true, true, true, true, true, true, true, true, false, false, false, false, false, false] rfl rfl (by kernel_rfl) (fun _ _ _ h => h) (Or.inl ⟨by rfl, ?_⟩) ?_ ?_
    rotate_left
    · intro w'
      go_simp
      with_reducible rfl
    rotate_left
    · simp only [Act.put, List.setIfInBounds_toArray, List.set_cons_zero, List.set_cons_succ, i64_w, i32_w]
      rfl
    refine pure_ (i := 15) (N := some 49) (v := ?_) (a' := ?_) #[true, true, true, true, true, true, true, true, true, true, true, true, true, true, true, true, false, false, false, false, false] rfl rfl (by kernel_rfl) (fun _ _ _ h => h) (Or.inl ⟨by rfl, ?_⟩) ?_ ?_
    rotate_left
    · intro w'
      go_simp
      with_reducible rfl
    rotate_left
    · simp only [Act.put, List.setIfInBounds_toArray, List.set_cons_zero, List.set_cons_succ, i64_w, i32_w]
      rfl
    refine take_ (i := 16) (N := some 50) (v := ?_) (a' := ?_) #[true, true, true, true, true, true, true, true, true, true, true, true, true, true, true, true, true, false, false, false, false] rfl rfl (by kernel_rfl) (fun _ _ _ h => h) (Or.inl ⟨by rfl, ?_⟩) hHeld ?_ ?_
    rotate_left
    · rintro w' ⟨s0, s1, s2, s3, s4⟩
      go_simp
      with_reducible rfl
    rotate_left
    · simp only [Act.put, List.setIfInBounds_toArray, List.set_cons_zero, List.set_cons_succ, i64_w, i32_w]
      rfl
    refine pure_ (i := 17) (N := some 51) (v := ?_) (a' := ?_) #[true, true, true, true, true, true, true, true, true, true, true, true, true, true, true, true, true, true, false, false, false] rfl rfl (by kernel_rfl) (fun _ _ _ h => h) (Or.inl ⟨by rfl, ?_⟩) ?_ ?_
    rotate_left
    · intro w'
      go_simp
      with_reducible rfl
    rotate_left
    · simp only [Act.put, List.setIfInBounds_toArray, List.set_cons_zero, List.set_cons_succ, i64_w, i32_w]
      rfl
    refine one_ (i := 18) (N := some 52) #[true, true, true, true, true, true, true, true, true, true, true, true, true, true, true, true, true, true, true, false, false] rfl rfl (by kernel_rfl) (by decide) (fun K hK => ?_)
    refine value_ (w1 := ?_) (v := ?_) (by rfl) rfl ?_ ?_
    rotate_left 2
    · go_simp
      constructor
      · rfl
      · rfl
    refine hK.out _ _ ⟨(((below_alloc (Below.refl _ _) _).cell (World.block_lt_of_cell? _ _ y0)).trans y0), (((below_alloc (Below.refl _ _) _).cell (World.block_lt_of_cell? _ _ y1)).trans y1), (((below_alloc (Below.refl _ _) _).cell (World.block_lt_of_cell? _ _ y2)).trans y2), (((below_alloc (Below.refl _ _) _).cell (World.block_lt_of_cell? _ _ y3)).trans y3), (((below_alloc (Below.refl _ _) _).cell (World.block_lt_of_cell? _ _ y4)).trans y4)⟩ (fun hHeld => ?_)
    clear hK K
    refine norm_ (a' := ?_) ?_ ?_
    rotate_left
    · show Act.put _ (some 52) _ = _
      simp only [Act.put, List.setIfInBounds_toArray, List.set_cons_zero, List.set_cons_succ, i64_w, i32_w]
      rfl
    refine last_ (i := 19) (N := some 53) #[true, true, true, true, true, true, true, true, true, true, true, true, true, true, true, true, true, true, true, true, false] rfl rfl (by kernel_rfl) (by decide) (fun K hK => ?_)
    refine Kd.R_append_step kL (w0 := w) (W := w11.drew) w.heap.size (by rfl) (.tmp 34) (.tmp 52) 23 28 (.agg #[.int .i64 0, .int .i64 0, .int .i64 0, .string ⟨#[]⟩]) 40 rfl Tryd.underlying23 info28 rfl (by decide) (by omega) u4 xs ⟨(l : Int) + 1, (j : Int) - (ls : Int), b, s.extract ls le⟩ [.int .i64 ((l : Int) + 1), .int .i64 ((j : Int) - (ls : Int)), .int .i64 b, .string (s.extract ls le)] (fun q => q ≠ nt ∧ 2 ≤ q) (fun _ => False) rfl rfl ?aP (fun _ hk => hk.elim) ?aF ?aO ?aB ?aS ?aL ?_
    case aP => exact rfl
    case aF => exact fun q hq => ⟨by have := HS11.out.self.lt; simp at hq; omega, by have := HNt.out.1; have := HS11.out.self.lt; simp at hq; omega⟩
    case aO => exact Kd.R_drew HO11.out
    case aB => exact HB11.out.drew
    case aS => exact HB11.out.size
    case aL => (have := HQ.out; omega)
    intro v9 w12 ho hb hg hat
    have HO12 := Lib.hid ho
    have HB12 := Lib.hid hb
    have HG12 := Lib.hid hg
    clear ho hb hg hat
    refine hK.out _ _ ?_
    clear hK K
    refine norm_ (a' := ?_) ?_ ?_
    rotate_left
    · show Act.put _ (some 53) _ = _
      simp only [Act.put, List.setIfInBounds_toArray, List.set_cons_zero, List.set_cons_succ, i64_w, i32_w]
      rfl
    refine pure_ (i := 20) (N := some 4) (v := ?_) (a' := ?_) #[true, true, true, true, true, true, true, true, true, true, true, true, true, true, true, true, true, true, true, true, true] rfl rfl (by kernel_rfl) (fun _ _ _ h => h) (Or.inl ⟨by rfl, ?_⟩) ?_ ?_
    rotate_left
    · intro w'
      go_simp
      with_reducible rfl
    rotate_left
    · simp only [Act.put, List.setIfInBounds_toArray, List.set_cons_zero, List.set_cons_succ, i64_w, i32_w]
      rfl
    refine done_ (by kernel_rfl) ?_
    have hOK := HO11.out.1
    have hS12 : SS w12 w12 nt s j j := SS.row (SS.below HS11.out (Below.refl _ _).drew).self HG12.out (fun e => (hOK nt e.symm).1 rfl) (fun q e => (hOK q e.symm).2)
    have HS12 := Lib.hid hS12
    have HT12 := Lib.hid (HTo.out.push (x := ⟨(l : Int) + 1, (j : Int) - (ls : Int), b, s.extract ls le⟩) (by rw [HPr.out]; exact ⟨j, l, ls, le, rfl, HTr.out, HE.out, rfl⟩))
    clear hOK hS12
    go_wp2
    go_roundw
    case rel => exact ⟨k + 1, j, _, by rw [hw], HLk.out, HT12, HO12, HS12, HB12⟩
    case measure =>
      rw [hw]
      have hm := HLk.out
      show ps.length - ((k + 1 : Nat) : Int).toNat < ps.length - ((k : Int)).toNat
      rw [Int.toNat_natCast, Int.toNat_natCast]
      omega
  · have d1 : decide ((k : Int) < (ps.length : Int)) = false := decide_eq_false (by omega)
    have d2 : decide (k < ps.length) = false := decide_eq_false hlt
    obtain rfl : k = ps.length := by omega
    obtain ⟨A2, c2, hv2, hlc, hC⟩ := Kd.R_reads HO.out
    rw [HTo.out.1] at hv2 hlc hC
    subst hv2
    have HC2 := Lib.hid hC
    have HL2 := Lib.hid hlc
    clear hC hlc hk hlt HO hw
    go_wp2
    exact bodyPost_ret (results_tmp2 rfl _ _ _) rfl ⟨A2, c2, xs, ⟨HTo.out, HC2.out, HL2.out, HBw.out⟩, rfl⟩
end Go.Proofs.YtckgmnpcnoanhaaDoor
