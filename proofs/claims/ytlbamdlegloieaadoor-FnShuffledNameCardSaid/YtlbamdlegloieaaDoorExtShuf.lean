/- ShuffleByCharFreq, walked. -/
import Derived.Test.YtlbamdlegloieaaDoorExtSort
import Derived.Test.YtlbamdlegloieaaDoorExtCounts
import Derived.Test.YtlbamdlegloieaaDoorExtMini
import Derived.Laws.Cover1
set_option linter.unusedVariables false
set_option linter.unusedSimpArgs false
namespace Go.Proofs.YtlbamdlegloieaaDoor
open Go Go.RowKit Go.Proofs.YtlbamdlegloieaaDoorW.PrintWords Go.Proofs.YtlbamdlegloieaaDoorW.PrintLast Go.Proofs.YtlbamdlegloieaaDoorW.PrintMore
def zcell (k : Nat) : Value := if k % 3 = 0 then .string ⟨#[]⟩ else if k % 3 = 1 then .int .i32 0 else .int .u8 0
def zcells : Array Value := ((List.range 192).map zcell).toArray
theorem zcells_get (k : Nat) (h : k < 192) : zcells[k]? = some (zcell k) := by
  unfold zcells
  simp [List.getElem?_range h]
theorem zcells_size : zcells.size = 192 := by simp [zcells]
def El0 : El := ⟨⟨#[]⟩, 0, 0⟩
set_option maxRecDepth 100000 in
theorem make_zero : ∀ u : World, (Instr.makeSlice 45 (.int .i64 64) (.int .i64 64)).run Tryd.prog u = .ok (.slice (some ⟨u.heap.size, 0, none⟩) 64 64) (u.alloc (.cells zcells 47 (0, 0))) := fun u => by kernel_rfl
theorem SS.zero {w0 w1 : World} {g : Nat} (hg : g = w0.heap.size) (hx : w1.heap[g]? = some (.cells zcells 47 (0, 0))) (hb : Below w0.heap.size w0 w1) : SS w0 g (Array.replicate 64 El0) w1 := by
  refine ⟨⟨47, zcells, hx, zcells_size, by simp, fun j hj => ?_⟩, hb, Nat.le_of_eq hg.symm, blk_lt hx⟩
  have e : (Array.replicate 64 El0)[j]! = El0 := by rw [getElem!_pos _ _ (by simp; omega)]; simp
  rw [e, zcells_get _ (by omega), zcells_get _ (by omega), zcells_get _ (by omega)]
  unfold zcell
  rw [if_pos (by omega), if_neg (by omega), if_pos (by omega), if_neg (by omega), if_neg (by omega)]
  exact ⟨rfl, rfl, rfl⟩
section
variable {P : Program} {ops : Array Oper} {rest : List Oper} {o : Oper} {a : Act} {Q : Exit → Act → World → Prop}
theorem make_event {W : World} (hgd : o.guard = none) {N : Tmp} (_hd : o.dst = some N) {cs : Array Value} {t : TypeId} {n : Nat}
    (hrun : (execOp a.eval o).run P W = .ok (.value (.slice (some ⟨W.heap.size, 0, none⟩) n n)) (W.alloc (.cells cs t (0, 0))))
    (h : ∀ g, g = W.heap.size → ∀ w1, w1.heap[g]? = some (.cells cs t (0, 0)) → Below W.heap.size W w1 → wpList P ops Q rest (a.put o.dst (.slice (some ⟨g, 0, none⟩) n n)) w1) : wpList P ops Q (o :: rest) a W :=
  Kd.event_run hgd hrun (h _ rfl _ (blk_new W _) (below_alloc (Below.refl _ _) _))
end
/-- The sign at j, its count, its number. -/
def elOf (t : ByteArray) (l : List Int) (j : Nat) : El := ⟨t.extract j (j + 1), l.getD j 0, j⟩
theorem nums_get (l : List Int) (j : Nat) (h : j < l.length) : (nums l)[j]? = some (.int .i32 (l.getD j 0)) := by
  simp [nums, List.getD_eq_getElem?_getD, h]
/-- The first i elements are laid. -/
def Filled (t : ByteArray) (l : List Int) (i : Nat) (d : Array El) : Prop := ∀ j, j < 64 → d[j]! = if j < i then elOf t l j else El0
theorem Filled.zero (t : ByteArray) (l : List Int) : Filled t l 0 (Array.replicate 64 El0) := fun j hj => by
  rw [getElem!_pos _ _ (by simp; omega)]
  simp
theorem Filled.next {t : ByteArray} {l : List Int} {i : Nat} {d : Array El} (h : Filled t l i d) (hd : d.size = 64) (hi : i < 64) : Filled t l (i + 1) (d.setIfInBounds i (elOf t l i)) := fun j hj => by
  by_cases e : i = j
  · subst e
    rw [if_pos (by omega), getElem!_pos _ _ (by rw [Array.size_setIfInBounds]; omega)]
    exact Array.getElem_setIfInBounds_self _
  · rw [getElem!_pos _ _ (by rw [Array.size_setIfInBounds]; omega), Array.getElem_setIfInBounds_ne (by omega) e, ← getElem!_pos d j (by omega), h j hj]
    by_cases e2 : j < i
    · rw [if_pos e2, if_pos (by omega)]
    · rw [if_neg e2, if_neg (by omega)]
def elems (t : ByteArray) (l : List Int) : Array El := ((List.range 64).map (elOf t l)).toArray
theorem Filled.all {t : ByteArray} {l : List Int} {d : Array El} (h : Filled t l 64 d) (hd : d.size = 64) : d = elems t l := by
  apply Array.ext
  · rw [hd]; simp [elems]
  · intro j h1 h2
    have := h j (by omega)
    rw [if_pos (by omega), getElem!_pos d j h1] at this
    rw [this]
    simp [elems]
/-- The sorted array, and the new minifier's two texts beside it. -/
def FW (w3 : World) (gs gm : Nat) (d : Array El) (hb tb : ByteArray) (w : World) : Prop := SS w3 gs d w ∧ w.heap[gm]? = some (.cells #[.string hb, .string tb] 30 (0, 0)) ∧ gs < gm
theorem FW.keep {w3 w w' : World} {gs gm : Nat} {d : Array El} {hb tb : ByteArray} (h : FW w3 gs gm d hb tb w) (hbl : Below w.heap.size w w') : FW w3 gs gm d hb tb w' := ⟨h.1.keep hbl, blk_below h.2.1 hbl, h.2.2⟩
theorem SS.far {w3 w : World} {gs : Nat} {d : Array El} (h : SS w3 gs d w) (g k : Nat) (v : Value) (hg : gs < g) : SS w3 gs d (w.setCell ⟨g, k, none⟩ v) := by
  obtain ⟨⟨T, cs, h1, h2⟩, h3, h4, h5⟩ := h
  exact ⟨⟨T, cs, (Below.heap_setCell w ⟨g, k, none⟩ v gs (by show gs ≠ g; omega)).trans h1, h2⟩, h3.setCell (p := ⟨g, k, none⟩) (by show w3.heap.size ≤ g; omega) v, h4, by simpa [World.setCell] using h5⟩
theorem FW.putH {w3 w : World} {gs gm : Nat} {d : Array El} {hb tb : ByteArray} (h : FW w3 gs gm d hb tb w) (s : ByteArray) : FW w3 gs gm d s tb (w.setCell ⟨gm, 0, none⟩ (.string s)) :=
  ⟨h.1.far gm 0 _ h.2.2, blk_put h.2.1 0 (.string s) rfl, h.2.2⟩
theorem FW.putT {w3 w : World} {gs gm : Nat} {d : Array El} {hb tb : ByteArray} (h : FW w3 gs gm d hb tb w) (s : ByteArray) : FW w3 gs gm d hb s (w.setCell ⟨gm, 1, none⟩ (.string s)) :=
  ⟨h.1.far gm 1 _ h.2.2, blk_put h.2.1 1 (.string s) rfl, h.2.2⟩
/-- A text that is no digit (as a text of one sign). -/
def numS (c : ByteArray) : Bool := Op.bytesLess c.toList [48] || !(Op.bytesLess c.toList [57] || c.toList == [57])
def headB (L : List El) : ByteArray := L.foldl (fun s x => if numS x.c then s ++ x.c else s) ⟨#[]⟩
def tailB (L : List El) : ByteArray := L.foldl (fun s x => s ++ x.c) ⟨#[]⟩
theorem take_next (ds : Array El) (k : Nat) (h : k < ds.size) : ds.toList.take (k + 1) = ds.toList.take k ++ [ds[k]!] := by
  rw [List.take_succ_eq_append_getElem (by simpa using h), getElem!_pos ds k h]
  simp
theorem headB_next (ds : Array El) (k : Nat) (h : k < ds.size) : headB (ds.toList.take (k + 1)) = if numS ds[k]!.c then headB (ds.toList.take k) ++ ds[k]!.c else headB (ds.toList.take k) := by
  unfold headB
  rw [take_next ds k h, List.foldl_append]
  rfl
theorem tailB_next (ds : Array El) (k : Nat) (h : k < ds.size) : tailB (ds.toList.take (k + 1)) = tailB (ds.toList.take k) ++ ds[k]!.c := by
  unfold tailB
  rw [take_next ds k h, List.foldl_append]
  rfl
theorem sort_from (d : Array El) (hd : d.size = 64) : ∀ k, k < 64 → (Go.Sort.sort ltE d)[k]! ∈ d.toList := by
  intro k hk
  obtain ⟨⟨h1, _, h2⟩, _⟩ := sortE swoE d
  rw [hd] at h1 h2
  have e1 : (Go.Sort.sort ltE d).extract 0 64 = Go.Sort.sort ltE d := by rw [← h1]; exact Array.extract_size
  have e2 : d.extract 0 64 = d := by rw [← hd]; exact Array.extract_size
  rw [e1, e2] at h2
  refine h2.mem_iff.1 ?_
  rw [getElem!_pos _ _ (by omega)]
  exact Array.getElem_mem_toList _
theorem sign_size (t : ByteArray) (l : List Int) (ht : t.size = 64) : ∀ k, k < 64 → (Go.Sort.sort ltE (elems t l))[k]!.c.size = 1 := by
  intro k hk
  have h := sort_from (elems t l) (by simp [elems]) k hk
  have h2 : ∃ j, j < 64 ∧ elOf t l j = (Go.Sort.sort ltE (elems t l))[k]! := by simpa [elems] using h
  obtain ⟨j, hj, e⟩ := h2
  rw [← e]
  exact one_size t j (j + 1) rfl (by omega)
theorem size_add (a b : ByteArray) : (a ++ b).size = a.size + b.size := ByteArray.size_append
set_option maxHeartbeats 8000000 in
set_option maxRecDepth 100000 in
theorem Shuf.calls (w : World) (h t : ByteArray) (l : List Int) (ht : t.size = 64) (hl : l.length = 64) :
    Calls Tryd.prog 10 #[.agg #[.string h, .string t], .agg (nums l)] w fun e w' => e = .returned (.agg #[.string (headB (Go.Sort.sort ltE (elems t l)).toList), .string (tailB (Go.Sort.sort ltE (elems t l)).toList)]) ∧ Below w.heap.size w w' := by
  have hmk := make_zero
  go_enter Tryd.func10, Tryd.ntmps10
  go_wp2_with (first
    | ((with_reducible refine gate_dst (N := 2) rfl ?_); refine box_event ?hg (N := 2) ?hd (cs := #[.string h, .string t]) (t := 30) ?hr ?_; (case hd => rfl); (case hg => rfl); (case hr => first | (go_simp; done) | (go_simp; rfl)); intro ga hga wq1 hbox1 hb1; have HA1 := Lib.hid hbox1; have HB1 := Lib.hid hb1; have HGA := Lib.hid hga; clear hbox1 hb1 hga)
    | ((with_reducible refine gate_dst (N := 3) rfl ?_); refine box_event ?hg (N := 3) ?hd (cs := nums l) (t := 33) ?hr ?_; (case hd => rfl); (case hg => rfl); (case hr => first | (go_simp; done) | (go_simp; rfl)); intro gf hgf wq2 hbox2 hb2; have HX2 := Lib.hid hbox2; have HB2 := Lib.hid hb2; have HGB := Lib.hid hgf; clear hbox2 hb2 hgf)
    | ((with_reducible refine gate_dst (N := 4) rfl ?_); refine box_event ?hg (N := 4) ?hd (cs := #[.string ⟨#[]⟩, .string ⟨#[]⟩]) (t := 30) ?hr ?_; (case hd => rfl); (case hg => rfl); (case hr => first | (go_simp; done) | (go_simp; rfl)); intro gr hgr wq3 hbox3 hb3; have HX3 := Lib.hid hbox3; have HB3 := Lib.hid hb3; have HGR := Lib.hid hgr; clear hbox3 hb3 hgr)
    | ((with_reducible refine gate_dst (N := 10) rfl ?_); refine make_event ?hg (N := 10) ?hd (n := 64) (cs := zcells) (t := 47) ?hr ?_; (case hd => rfl); (case hg => rfl); (case hr => first | (go_simp; done) | (go_simp; rfl)); intro gs hgs wq4 hbox4 hb4; have HX4 := Lib.hid hbox4; have HB4 := Lib.hid hb4; have HGS := Lib.hid hgs; clear hbox4 hb4 hgs))
  have HS0 := Lib.hid (SS.zero HGS.out HX4.out HB4.out)
  have HA3 := Lib.hid (blk_below (blk_below HA1.out HB2.out) HB3.out)
  have HF3 := Lib.hid (blk_below HX2.out HB3.out)
  have HL := Lib.hid hl
  have HGR2 := Lib.hid (show w.heap.size ≤ gr by have := HGR.out; have := HB1.out.size; have := HB2.out.size; omega)
  have HBel := Lib.hid ((HB1.out.trans (HB2.out.mono HB1.out.size)).trans (HB3.out.mono (Nat.le_trans HB1.out.size HB2.out.size)))
  clear hmk hl HX4 HB4 HA1 HX2 HB1 HB2 HB3
  go_loopw [6] (fun v6 wr => ∃ (i : Nat) (dk : Array El), v6 = .int .i64 (i : Int) ∧ Hid (i ≤ 64 ∧ SS wq3 gs dk wr ∧ Filled t l i dk)) (fun v6 _ => 64 - (intOf v6).toNat)
  case atStart => exact ⟨0, _, rfl, Lib.hid ⟨by omega, HS0.out, Filled.zero t l⟩⟩
  obtain ⟨i, dk, rfl, HR⟩ := hrel
  clear HS0
  have hAr := blk_below HA3.out HR.out.2.1.2.1
  have hFr := blk_below HF3.out HR.out.2.1.2.1
  by_cases hi : i < 64
  · have d1 : decide ((i : Int) < 64) = true := decide_eq_true (by omega)
    have d2 : decide (i < 64) = true := decide_eq_true hi
    obtain ⟨i1, hi1⟩ : ∃ i1, i1 = i + 1 := ⟨_, rfl⟩
    have W1 := Lib.hid (show wrap64 ((i : Int) + 1) = (i1 : Int) by rw [i64 _ (by omega) (by omega)]; omega)
    have W2 := Lib.hid (show IntKind.u8.wrap (i : Int) = (i : Int) by simp [IntKind.wrap, IntKind.bits, IntKind.signed]; omega)
    have p1 : (0 : Int) ≤ (i : Int) := by omega
    have p2 : (i1 : Int) ≤ 64 := by omega
    have p3 : (i : Int) ≤ (i1 : Int) := by omega
    have p4 : (i : Int) < 64 := by omega
    have z1 := (blk_cell hAr 1).trans rfl
    obtain ⟨n, hn⟩ : ∃ n, n = l.getD i 0 := ⟨_, rfl⟩
    have zf : wr.cell? ⟨gf, i, none⟩ = some (.int .i32 n) := by rw [blk_cell hFr i, nums_get l i (by have := HL.out; omega), hn]
    have f0 := HR.out.2.1.frozen (i * 3)
    have f1 := HR.out.2.1.frozen (i * 3 + 1)
    have f2 := HR.out.2.1.frozen (i * 3 + 2)
    have y0 := (HR.out.2.1.cells i hi).1
    have y1 := (HR.out.2.1.cells i hi).2.1
    have y2 := (HR.out.2.1.cells i hi).2.2
    have HI := Lib.hid hi
    have HI1 := Lib.hid hi1
    have HN := Lib.hid hn
    clear hAr hFr hi hi1 hn
    replace p1 := eq_true p1
    replace p2 := eq_true p2
    replace p3 := eq_true p3
    replace p4 := eq_true p4
    have w1 := W1.out
    have w2 := W2.out
    go_wp2
    go_region
    have HNew := Lib.hid (show i1 ≤ 64 ∧ SS wq3 gs (dk.setIfInBounds i (elOf t l i)) (((wr.setCell ⟨gs, i * 3, none⟩ (.string (t.extract i i1))).setCell ⟨gs, i * 3 + 1, none⟩ (.int .i32 n)).setCell ⟨gs, i * 3 + 2, none⟩ (.int .u8 (i : Int))).drew ∧ Filled t l i1 (dk.setIfInBounds i (elOf t l i)) by
      have e := HI1.out
      have e2 := HN.out
      subst e e2
      exact ⟨HI.out, ((HR.out.2.1.put i HI.out (elOf t l i))).drew1, HR.out.2.2.next HR.out.2.1.size HI.out⟩)
    generalize World.drew _ = wz at *
    go_wp2
    go_roundw
    case rel => exact ⟨i1, _, by first | rfl | rw [w1], HNew⟩
    case measure =>
      (try rw [w1])
      show 64 - ((i1 : Int)).toNat < 64 - ((i : Int)).toNat
      rw [Int.toNat_natCast, Int.toNat_natCast, HI1.out]
      have := HI.out
      clear w1 w2
      omega
  · have d1 : decide ((i : Int) < 64) = false := decide_eq_false (by omega)
    have d2 : decide (i < 64) = false := decide_eq_false hi
    have z1 := (blk_cell hAr 1).trans rfl
    have HS := Lib.hid (show SS wq3 gs (elems t l) wr by
      have e : i = 64 := by have := HR.out.1; omega
      have h2 := HR.out.2.2
      rw [e] at h2
      rw [← h2.all HR.out.2.1.size]
      exact HR.out.2.1)
    have HSo := Lib.hid (fun wz (hz : SS wq3 gs (elems t l) wz) => SortAll.calls wq3 wz gs (elems t l) hz)
    clear HR hAr hFr hi
    go_wp2_with (first
      | (go_at_call 16; (with_reducible refine (HSo.out _ HS.out).mono ?_); rintro e wq5 ⟨rfl, hs⟩; have HS5 := Lib.hid hs; clear hs)
      | ((with_reducible refine gate_dst (N := 7) rfl ?_); refine box_event ?hg (N := 7) ?hd (cs := #[.string ⟨#[]⟩, .string ⟨#[]⟩]) (t := 30) ?hr ?_; (case hd => rfl); (case hg => rfl); (case hr => first | (go_simp; done) | (go_simp; rfl)); intro gm hgm wq6 hbox6 hb6; have HS6 := Lib.hid (HS5.out.keep hb6); have HX6 := Lib.hid hbox6; have HGM := Lib.hid (show gs < gm by rw [hgm]; exact HS5.out.2.2.2); have zm0 := (blk_cell hbox6 0).trans rfl; have zm1 := (blk_cell hbox6 1).trans rfl; have fm0 := blk_frozen hbox6 0; have fm1 := blk_frozen hbox6 1; clear hbox6 hb6 hgm))
    have HFW := Lib.hid (show FW wq3 gs gm (Go.Sort.sort ltE (elems t l)) ⟨#[]⟩ ⟨#[]⟩ ((wq6.setCell ⟨gm, 0, none⟩ (.string ⟨#[]⟩)).setCell ⟨gm, 1, none⟩ (.string ⟨#[]⟩)) from (FW.putH ⟨HS6.out, HX6.out, HGM.out⟩ _).putT _)
    clear zm0 zm1 fm0 fm1 HS5 HS HSo HX6 d1 d2 z1
    have HD := Lib.hid (show (Go.Sort.sort ltE (elems t l)).size = 64 ∧ ∀ k, k < 64 → (Go.Sort.sort ltE (elems t l))[k]!.c.size = 1 from ⟨HS6.out.size, sign_size t l ht⟩)
    generalize hds : Go.Sort.sort ltE (elems t l) = ds at *
    have HDS := Lib.hid hds
    clear hds
    generalize World.setCell (World.setCell wq6 _ _) _ _ = wq7 at *
    go_loopw [39] (fun v39 wr => ∃ (k : Nat), v39 = .int .i64 (k : Int) ∧ Hid (k ≤ 64 ∧ ∃ hb tb, FW wq3 gs gm ds hb tb wr ∧ hb = headB (ds.toList.take k) ∧ tb = tailB (ds.toList.take k) ∧ hb.size ≤ k ∧ tb.size = k)) (fun v39 _ => 64 - (intOf v39).toNat)
    case atStart => exact ⟨0, rfl, Lib.hid ⟨by omega, _, _, HFW.out, rfl, rfl, Nat.le_refl _, rfl⟩⟩
    obtain ⟨k, rfl, HR⟩ := hrel
    clear HFW
    obtain ⟨hk64, hb, tb, hF, hE1, hE2, hE3, hE4⟩ := HR.out
    clear HR
    by_cases hk : k < 64
    · have d1 : decide ((k : Int) < 64) = true := decide_eq_true (by omega)
      have d2 : decide (k < 64) = true := decide_eq_true hk
      have p1 : (0 : Int) ≤ (k : Int) := by omega
      have p4 : (k : Int) < 64 := by omega
      obtain ⟨y0, y1, y2⟩ := hF.1.cells k hk
      have HF := Lib.hid hF
      have HK := Lib.hid hk
      have hc1 := HD.out.2 k hk
      have hkd : k < ds.size := by rw [HD.out.1]; exact hk
      have HN := Lib.hid (show (numS ds[k]!.c = true → hb ++ ds[k]!.c = headB (ds.toList.take (k + 1))) ∧ (numS ds[k]!.c = false → hb = headB (ds.toList.take (k + 1))) ∧ tb ++ ds[k]!.c = tailB (ds.toList.take (k + 1)) ∧ (hb ++ ds[k]!.c).size ≤ k + 1 ∧ hb.size ≤ k + 1 ∧ (tb ++ ds[k]!.c).size = k + 1 by
        refine ⟨fun e => ?_, fun e => ?_, ?_, ?_, by omega, ?_⟩
        · rw [headB_next ds k hkd, e, hE1]; rfl
        · rw [headB_next ds k hkd, e, hE1]; rfl
        · rw [tailB_next ds k hkd, hE2]
        · rw [size_add]; omega
        · rw [size_add]; omega)
      have hs1 : (9223372036854775807 < hb.size + ds[k]!.c.size) = False := eq_false (by omega)
      have hs2 : (9223372036854775807 < tb.size + ds[k]!.c.size) = False := eq_false (by omega)
      obtain ⟨k1, hk1⟩ : ∃ k1, k1 = k + 1 := ⟨_, rfl⟩
      have W1 := Lib.hid (show wrap64 ((k : Int) + 1) = (k1 : Int) by rw [i64 _ (by omega) (by omega)]; omega)
      have HK1 := Lib.hid hk1
      rw [← hk1] at HN
      clear hE1 hE2 hE3 hE4 hc1 hkd hk1
      generalize hx : ds[k]! = x at *
      obtain ⟨xc, xn, xi⟩ := x
      change wr.cell? _ = some (.string xc) at y0
      change wr.cell? _ = some (.int .i32 xn) at y1
      change wr.cell? _ = some (.int .u8 (xi : Int)) at y2
      change (9223372036854775807 < hb.size + xc.size) = False at hs1
      change (9223372036854775807 < tb.size + xc.size) = False at hs2
      clear hx hF hk hk64
      replace p1 := eq_true p1
      replace p4 := eq_true p4
      go_upto_region 11 with (first | ((with_reducible refine gate_dst (N := 9) rfl ?_); refine box_event ?hg (N := 9) ?hd (cs := #[.string ⟨#[]⟩, .int .i32 0, .int .u8 0]) (t := 47) ?hr ?_; (case hd => rfl); (case hg => rfl); (case hr => first | (go_simp; done) | (go_simp; rfl)); intro gi hgi wz7 hbox7 hb7; have HX7 := Lib.hid hbox7; have HB7 := Lib.hid hb7; have HGI := Lib.hid hgi; have zi0 := (blk_cell hbox7 0).trans rfl; have zi1 := (blk_cell hbox7 1).trans rfl; have zi2 := (blk_cell hbox7 2).trans rfl; have fi0 := blk_frozen hbox7 0; have fi1 := blk_frozen hbox7 1; have fi2 := blk_frozen hbox7 2; clear hbox7 hb7 hgi))
      have hb8 := ((HB7.out.setCell (p := ⟨gi, 0, none⟩) (Nat.le_of_eq HGI.out.symm) (.string xc)).setCell (p := ⟨gi, 1, none⟩) (Nat.le_of_eq HGI.out.symm) (.int .i32 xn)).setCell (p := ⟨gi, 2, none⟩) (Nat.le_of_eq HGI.out.symm) (.int .u8 (xi : Int))
      have hx8 := blk_put (blk_put (blk_put HX7.out 0 (.string xc) rfl) 1 (.int .i32 xn) rfl) 2 (.int .u8 (xi : Int)) rfl
      generalize World.setCell (World.setCell (World.setCell wz7 _ _) _ _) _ _ = w8 at *
      have HF8 := Lib.hid (HF.out.keep hb8)
      have HI8 := Lib.hid hx8
      have hne : gi ≠ gm := by have := HGI.out; have := blk_lt HF.out.2.1; omega
      have ne1 : (gi = gm) = False := eq_false hne
      have ne2 : (gm = gi) = False := eq_false (fun e => hne e.symm)
      have i0 := (blk_cell HI8.out 0).trans rfl
      have m0 := (blk_cell HF8.out.2.1 0).trans rfl
      have m1 := (blk_cell HF8.out.2.1 1).trans rfl
      have fm0 := blk_frozen HF8.out.2.1 0
      have fm1 := blk_frozen HF8.out.2.1 1
      clear y0 y1 y2 zi0 zi1 zi2 fi0 fi1 fi2 HX7 HB7 hb8 hx8 HF hne
      have HMeas := Lib.hid (show 64 - k1 < 64 - k by have := HK.out; have := HK1.out; omega)
      have w1 := W1.out
      cases hb1 : Op.bytesLess xc.toList [48]
      · cases hb2 : Op.bytesLess xc.toList [57]
        · cases hb3 : (xc.toList == [57])
          · have hnum : numS xc = true := by unfold numS; rw [hb1, hb2, hb3]; rfl
            have HNm := Lib.hid hnum
            have HZ := Lib.hid ((HF8.out.putH (hb ++ xc)).putT (tb ++ xc))
            clear hnum
            go_wp2
            refine ⟨⟨k1, by first | rfl | rw [w1], Lib.hid ⟨by rw [HK1.out]; exact HK.out, _, _, HZ.out, HN.out.1 HNm.out, HN.out.2.2.1, HN.out.2.2.2.1, HN.out.2.2.2.2.2⟩⟩, ?_⟩
            (try rw [w1])
            show 64 - ((k1 : Int)).toNat < 64 - ((k : Int)).toNat
            rw [Int.toNat_natCast, Int.toNat_natCast]
            exact HMeas.out
          · have hnum : numS xc = false := by unfold numS; rw [hb1, hb2, hb3]; rfl
            have HNm := Lib.hid hnum
            have HZ := Lib.hid (HF8.out.putT (tb ++ xc))
            clear hnum
            go_wp2
            refine ⟨⟨k1, by first | rfl | rw [w1], Lib.hid ⟨by rw [HK1.out]; exact HK.out, _, _, HZ.out, HN.out.2.1 HNm.out, HN.out.2.2.1, HN.out.2.2.2.2.1, HN.out.2.2.2.2.2⟩⟩, ?_⟩
            (try rw [w1])
            show 64 - ((k1 : Int)).toNat < 64 - ((k : Int)).toNat
            rw [Int.toNat_natCast, Int.toNat_natCast]
            exact HMeas.out
        · have hnum : numS xc = false := by unfold numS; rw [hb1, hb2]; rfl
          have HNm := Lib.hid hnum
          have HZ := Lib.hid (HF8.out.putT (tb ++ xc))
          clear hnum
          go_wp2
          refine ⟨⟨k1, by first | rfl | rw [w1], Lib.hid ⟨by rw [HK1.out]; exact HK.out, _, _, HZ.out, HN.out.2.1 HNm.out, HN.out.2.2.1, HN.out.2.2.2.2.1, HN.out.2.2.2.2.2⟩⟩, ?_⟩
          (try rw [w1])
          show 64 - ((k1 : Int)).toNat < 64 - ((k : Int)).toNat
          rw [Int.toNat_natCast, Int.toNat_natCast]
          exact HMeas.out
      · have hnum : numS xc = true := by unfold numS; rw [hb1]; rfl
        have HNm := Lib.hid hnum
        have HZ := Lib.hid ((HF8.out.putH (hb ++ xc)).putT (tb ++ xc))
        clear hnum
        go_wp2
        refine ⟨⟨k1, by first | rfl | rw [w1], Lib.hid ⟨by rw [HK1.out]; exact HK.out, _, _, HZ.out, HN.out.1 HNm.out, HN.out.2.2.1, HN.out.2.2.2.1, HN.out.2.2.2.2.2⟩⟩, ?_⟩
        (try rw [w1])
        show 64 - ((k1 : Int)).toNat < 64 - ((k : Int)).toNat
        rw [Int.toNat_natCast, Int.toNat_natCast]
        exact HMeas.out
    · have d1 : decide ((k : Int) < 64) = false := decide_eq_false (by omega)
      have d2 : decide (k < 64) = false := decide_eq_false hk
      have HF := Lib.hid (show FW wq3 gs gm ds (headB ds.toList) (tailB ds.toList) wr by
        have e : k = 64 := by omega
        have e2 : ds.toList.take 64 = ds.toList := List.take_of_length_le (by rw [Array.length_toList, HD.out.1]; exact Nat.le_refl _)
        rw [hE1, hE2, e, e2] at hF
        exact hF)
      have m0 := (blk_cell HF.out.2.1 0).trans rfl
      have m1 := (blk_cell HF.out.2.1 1).trans rfl
      have hr := blk_below HX3.out HF.out.1.2.1
      have HRR := Lib.hid hr
      have fr0 := blk_frozen hr 0
      have fr1 := blk_frozen hr 1
      have r0 := (blk_cell hr 0).trans rfl
      have r1 := (blk_cell hr 1).trans rfl
      clear hk hE1 hE2 hE3 hE4 hF hk64 hr
      go_wp2
      have hx := blk_put (blk_put HRR.out 0 (.string (headB ds.toList)) rfl) 1 (.string (tailB ds.toList)) rfl
      have hbl := (((HBel.out.trans (HF.out.1.2.1.mono HBel.out.size)).setCell (p := ⟨gr, 0, none⟩) HGR2.out (.string (headB ds.toList))).setCell (p := ⟨gr, 1, none⟩) HGR2.out (.string (tailB ds.toList)))
      refine bodyPost_ret (results_cell_row rfl _ _ gr 30 #[.string (headB ds.toList), .string (tailB ds.toList)] (0, 0) _ rfl hx Tryd.underlying30 rfl (by kernel_rfl)) rfl ⟨?_, hbl⟩
      rw [HDS.out]
end Go.Proofs.YtlbamdlegloieaaDoor
