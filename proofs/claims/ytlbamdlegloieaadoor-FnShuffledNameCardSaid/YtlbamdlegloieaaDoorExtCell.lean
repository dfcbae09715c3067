/- The array of signs, counts and numbers: its state, Len, Less and Swap. -/
import Derived.Test.YtlbamdlegloieaaDoorWMore
import Derived.Test.YtlbamdlegloieaaDoorProg
import Derived.Sort.LotA
import Derived.Handy
import Derived.Lib.Hide
import Derived.WalkKit
import Derived.KernelRfl
import Derived.RegionTactic
import Derived.BigRegion
import Derived.BigQuiet
import Derived.LoopTactic
import Derived.Outline
import Derived.OwnWalk
import Derived.Deep.RegionLaw
set_option linter.unusedVariables false
set_option linter.unusedSimpArgs false
namespace Go.Proofs.YtlbamdlegloieaaDoor
open Go Go.RowKit Go.Proofs.YtlbamdlegloieaaDoorW.PrintWords Go.Proofs.YtlbamdlegloieaaDoorW.PrintLast
/-- A sign, its count, its number. -/
structure El where
  c : ByteArray
  n : Int
  i : Nat
deriving Inhabited
/-- The sort's order: the greater count first, then the lesser number. -/
def ltE (x y : El) : Bool := decide (y.n < x.n) || (decide (x.n = y.n) && decide (x.i < y.i))
/-- The array at block g holds d. -/
def Arr (g : Nat) (d : Array El) (w : World) : Prop :=
  ∃ (T : TypeId) (cs : Array Value), w.heap[g]? = some (.cells cs T (0, 0)) ∧ cs.size = 192 ∧ d.size = 64 ∧ ∀ j : Nat, j < 64 → cs[j * 3]? = some (.string d[j]!.c) ∧ cs[j * 3 + 1]? = some (.int .i32 d[j]!.n) ∧ cs[j * 3 + 2]? = some (.int .u8 (d[j]!.i : Int))
/-- .. and nothing that was there before has turned. -/
def SS (w0 : World) (g : Nat) (d : Array El) (w : World) : Prop := Arr g d w ∧ Below w0.heap.size w0 w ∧ w0.heap.size ≤ g ∧ g < w.heap.size
theorem SS.keep {w0 w w' : World} {g : Nat} {d : Array El} (h : SS w0 g d w) (hb : Below w.heap.size w w') : SS w0 g d w' := by
  obtain ⟨⟨T, cs, h1, h2⟩, h3, h4, h5⟩ := h
  exact ⟨⟨T, cs, blk_below h1 hb, h2⟩, h3.trans (hb.mono h3.size), h4, Nat.lt_of_lt_of_le h5 hb.size⟩
theorem SS.cells {w0 w : World} {g : Nat} {d : Array El} (h : SS w0 g d w) (j : Nat) (hj : j < 64) : w.cell? ⟨g, j * 3, none⟩ = some (.string d[j]!.c) ∧ w.cell? ⟨g, j * 3 + 1, none⟩ = some (.int .i32 d[j]!.n) ∧ w.cell? ⟨g, j * 3 + 2, none⟩ = some (.int .u8 (d[j]!.i : Int)) := by
  obtain ⟨⟨T, cs, h1, h2, h3, h4⟩, _⟩ := h
  obtain ⟨a, b, c⟩ := h4 j hj
  exact ⟨by rw [blk_cell h1, a], by rw [blk_cell h1, b], by rw [blk_cell h1, c]⟩
theorem SS.frozen {w0 w : World} {g : Nat} {d : Array El} (h : SS w0 g d w) (j : Nat) : w.frozen? ⟨g, j, none⟩ = false := by
  obtain ⟨⟨T, cs, h1, _⟩, _⟩ := h
  exact blk_frozen h1 j
set_option maxHeartbeats 4000000 in
set_option maxRecDepth 100000 in
theorem LessB.calls (w0 w : World) (g : Nat) (d : Array El) (i j : Nat) (hi : i < 64) (hj : j < 64) (h : SS w0 g d w) :
    Calls Tryd.prog 58 #[.slice (some ⟨g, 0, none⟩) 64 64, .int .i64 (i : Int), .int .i64 (j : Int)] w fun e w' => e = .returned (.bool (ltE d[i]! d[j]!)) ∧ Below w.heap.size w w' := by
  obtain ⟨x0, x1, x2⟩ := h.cells i hi
  obtain ⟨y0, y1, y2⟩ := h.cells j hj
  have HS := Lib.hid h
  have p1 : (0 : Int) ≤ (i : Int) := by omega
  have p2 : (i : Int) < 64 := by omega
  have q1 : (0 : Int) ≤ (j : Int) := by omega
  have q2 : (j : Int) < 64 := by omega
  clear h
  generalize hx : d[i]! = x at *
  generalize hy : d[j]! = y at *
  obtain ⟨xc, xn, xi⟩ := x
  obtain ⟨yc, yn, yi⟩ := y
  change w.cell? _ = some (.string xc) at x0
  change w.cell? _ = some (.int .i32 xn) at x1
  change w.cell? _ = some (.int .u8 (xi : Int)) at x2
  change w.cell? _ = some (.string yc) at y0
  change w.cell? _ = some (.int .i32 yn) at y1
  change w.cell? _ = some (.int .u8 (yi : Int)) at y2
  clear hx hy
  replace p1 := eq_true p1
  replace p2 := eq_true p2
  replace q1 := eq_true q1
  replace q2 := eq_true q2
  go_enter Tryd.func58, Tryd.ntmps58
  go_upto_region 2 with (first | ((with_reducible refine gate_dst (N := 7) rfl ?_); refine box_event ?hg (N := 7) ?hd (cs := #[.string ⟨#[]⟩, .int .i32 0, .int .u8 0]) (t := 47) ?hr ?_; (case hd => rfl); (case hg => rfl); (case hr => first | (go_simp; done) | (go_simp; rfl)); intro ga hg w7 hbox hb; have HG := Lib.hid hg; have HY := Lib.hid hb; have HX7 := Lib.hid hbox; clear hg hbox hb; have z0 := (blk_cell HX7.out 0).trans rfl; have z1 := (blk_cell HX7.out 1).trans rfl; have z2 := (blk_cell HX7.out 2).trans rfl; have fz0 := blk_frozen HX7.out 0; have fz1 := blk_frozen HX7.out 1; have fz2 := blk_frozen HX7.out 2))
  have hb8 := ((HY.out.setCell (p := ⟨ga, 0, none⟩) (Nat.le_of_eq HG.out.symm) (.string xc)).setCell (p := ⟨ga, 1, none⟩) (Nat.le_of_eq HG.out.symm) (.int .i32 xn)).setCell (p := ⟨ga, 2, none⟩) (Nat.le_of_eq HG.out.symm) (.int .u8 (xi : Int))
  have hx8 := blk_put (blk_put (blk_put HX7.out 0 (.string xc) rfl) 1 (.int .i32 xn) rfl) 2 (.int .u8 (xi : Int)) rfl
  generalize World.setCell (World.setCell (World.setCell w7 _ _) _ _) _ _ = w8 at *
  replace y0 := (hb8.cell (World.block_lt_of_cell? w _ y0)).trans y0
  replace y1 := (hb8.cell (World.block_lt_of_cell? w _ y1)).trans y1
  replace y2 := (hb8.cell (World.block_lt_of_cell? w _ y2)).trans y2
  have HB8 := Lib.hid hb8
  have HX8 := Lib.hid hx8
  clear x0 x1 x2 z0 z1 z2 fz0 fz1 fz2 HX7 HY HG hb8 hx8
  go_upto_region 3 with (first | ((with_reducible refine gate_dst (N := 8) rfl ?_); refine box_event ?hg (N := 8) ?hd (cs := #[.string ⟨#[]⟩, .int .i32 0, .int .u8 0]) (t := 47) ?hr ?_; (case hd => rfl); (case hg => rfl); (case hr => first | (go_simp; done) | (go_simp; rfl)); intro gb hg w7 hbox hb; have HG := Lib.hid hg; have HY := Lib.hid hb; have HX7 := Lib.hid hbox; clear hg hbox hb; have z0 := (blk_cell HX7.out 0).trans rfl; have z1 := (blk_cell HX7.out 1).trans rfl; have z2 := (blk_cell HX7.out 2).trans rfl; have fz0 := blk_frozen HX7.out 0; have fz1 := blk_frozen HX7.out 1; have fz2 := blk_frozen HX7.out 2))
  have hb9 := ((HY.out.setCell (p := ⟨gb, 0, none⟩) (Nat.le_of_eq HG.out.symm) (.string yc)).setCell (p := ⟨gb, 1, none⟩) (Nat.le_of_eq HG.out.symm) (.int .i32 yn)).setCell (p := ⟨gb, 2, none⟩) (Nat.le_of_eq HG.out.symm) (.int .u8 (yi : Int))
  have hx9 := blk_put (blk_put (blk_put HX7.out 0 (.string yc) rfl) 1 (.int .i32 yn) rfl) 2 (.int .u8 (yi : Int)) rfl
  generalize World.setCell (World.setCell (World.setCell w7 _ _) _ _) _ _ = w9 at *
  have hxa := blk_below HX8.out hb9
  clear y0 y1 y2 z0 z1 z2 fz0 fz1 fz2 HX7 HY HG
  have a1 : w9.cell? ⟨ga, 1, none⟩ = some (.int .i32 xn) := (blk_cell hxa 1).trans rfl
  have a2 : w9.cell? ⟨ga, 2, none⟩ = some (.int .u8 (xi : Int)) := (blk_cell hxa 2).trans rfl
  have b1 : w9.cell? ⟨gb, 1, none⟩ = some (.int .i32 yn) := (blk_cell hx9 1).trans rfl
  have b2 : w9.cell? ⟨gb, 2, none⟩ = some (.int .u8 (yi : Int)) := (blk_cell hx9 2).trans rfl
  have HE := Lib.hid (HB8.out.trans (hb9.mono HB8.out.size))
  clear hb9 hx9 hxa HB8 HX8 HS p1 p2 q1 q2
  go_wp2
  all_goals
    go_ret
    refine ⟨congrArg (fun b => Ending.returned (.bool b)) ?_, HE.out⟩
    unfold ltE
    simp_all
theorem Less.calls (w0 w : World) (g : Nat) (d : Array El) (i j : Nat) (hi : i < 64) (hj : j < 64) (h : SS w0 g d w) :
    Calls Tryd.prog 58 #[.slice (some ⟨g, 0, none⟩) 64 64, .int .i64 (i : Int), .int .i64 (j : Int)] w fun e w' => e = .returned (.bool (ltE d[i]! d[j]!)) ∧ SS w0 g d w' :=
  (LessB.calls w0 w g d i j hi hj h).mono fun e w' ⟨he, hb⟩ => ⟨he, h.keep hb⟩
theorem SS.put {w0 w : World} {g : Nat} {d : Array El} (h : SS w0 g d w) (i : Nat) (hi : i < 64) (x : El) :
    SS w0 g (d.setIfInBounds i x) (((w.setCell ⟨g, i * 3, none⟩ (.string x.c)).setCell ⟨g, i * 3 + 1, none⟩ (.int .i32 x.n)).setCell ⟨g, i * 3 + 2, none⟩ (.int .u8 (x.i : Int))) := by
  obtain ⟨⟨T, cs, h1, h2, h3, h4⟩, h5, h6, h7⟩ := h
  have k1 := blk_put h1 (i * 3) (.string x.c) rfl
  have k2 := blk_put k1 (i * 3 + 1) (.int .i32 x.n) rfl
  have k3 := blk_put k2 (i * 3 + 2) (.int .u8 (x.i : Int)) rfl
  refine ⟨⟨T, _, k3, by simp [h2], by simp [h3], fun j hj => ?_⟩, ((h5.setCell (p := ⟨g, i * 3, none⟩) h6 _).setCell (p := ⟨g, i * 3 + 1, none⟩) h6 _).setCell (p := ⟨g, i * 3 + 2, none⟩) h6 _, h6, by simpa [World.setCell] using h7⟩
  have hs1 : (cs.setIfInBounds (i * 3) (.string x.c)).size = 192 := by simp [h2]
  have hs2 : ((cs.setIfInBounds (i * 3) (.string x.c)).setIfInBounds (i * 3 + 1) (.int .i32 x.n)).size = 192 := by simp [h2]
  by_cases e : i = j
  · subst e
    have hx : (d.setIfInBounds i x)[i]! = x := by
      rw [getElem!_pos _ _ (by rw [Array.size_setIfInBounds]; omega)]
      exact Array.getElem_setIfInBounds_self _
    rw [hx]
    refine ⟨?_, ?_, ?_⟩
    · rw [Array.getElem?_setIfInBounds_ne (by omega), Array.getElem?_setIfInBounds_ne (by omega), Array.getElem?_setIfInBounds_self_of_lt (by omega)]
    · rw [Array.getElem?_setIfInBounds_ne (by omega), Array.getElem?_setIfInBounds_self_of_lt (by omega)]
    · rw [Array.getElem?_setIfInBounds_self_of_lt (by omega)]
  · have hx : (d.setIfInBounds i x)[j]! = d[j]! := by
      rw [getElem!_pos _ _ (by rw [Array.size_setIfInBounds]; omega), getElem!_pos _ _ (by omega)]
      exact Array.getElem_setIfInBounds_ne _ e
    rw [hx]
    obtain ⟨a, b, c⟩ := h4 j hj
    refine ⟨?_, ?_, ?_⟩
    · rw [Array.getElem?_setIfInBounds_ne (by omega), Array.getElem?_setIfInBounds_ne (by omega), Array.getElem?_setIfInBounds_ne (by omega)]; exact a
    · rw [Array.getElem?_setIfInBounds_ne (by omega), Array.getElem?_setIfInBounds_ne (by omega), Array.getElem?_setIfInBounds_ne (by omega)]; exact b
    · rw [Array.getElem?_setIfInBounds_ne (by omega), Array.getElem?_setIfInBounds_ne (by omega), Array.getElem?_setIfInBounds_ne (by omega)]; exact c
theorem SS.drew {w0 w : World} {g : Nat} {d : Array El} (h : SS w0 g d w) (n : Nat) : SS w0 g d (w.drewN n) := by
  refine h.keep ⟨rfl, rfl, rfl, Nat.le_refl _, fun _ _ => rfl⟩
theorem SS.drew1 {w0 w : World} {g : Nat} {d : Array El} (h : SS w0 g d w) : SS w0 g d w.drew := h.keep ⟨rfl, rfl, rfl, Nat.le_refl _, fun _ _ => rfl⟩
theorem SS.size {w0 w : World} {g : Nat} {d : Array El} (h : SS w0 g d w) : d.size = 64 := by
  obtain ⟨⟨T, cs, h1, h2, h3, h4⟩, _⟩ := h
  exact h3
set_option maxHeartbeats 4000000 in
set_option maxRecDepth 100000 in
theorem Swap.calls (w0 w : World) (g : Nat) (d : Array El) (i j : Nat) (hi : i < 64) (hj : j < 64) (h : SS w0 g d w) :
    Calls Tryd.prog 59 #[.slice (some ⟨g, 0, none⟩) 64 64, .int .i64 (i : Int), .int .i64 (j : Int)] w fun e w' => e = .returned (.tuple #[]) ∧ SS w0 g (Sort.swp d i j) w' := by
  obtain ⟨x0, x1, x2⟩ := h.cells i hi
  obtain ⟨y0, y1, y2⟩ := h.cells j hj
  have f0 := h.frozen (i * 3)
  have f1 := h.frozen (i * 3 + 1)
  have f2 := h.frozen (i * 3 + 2)
  have g0 := h.frozen (j * 3)
  have g1 := h.frozen (j * 3 + 1)
  have g2 := h.frozen (j * 3 + 2)
  have HS := Lib.hid h
  have p1 : (0 : Int) ≤ (i : Int) := by omega
  have p2 : (i : Int) < 64 := by omega
  have q1 : (0 : Int) ≤ (j : Int) := by omega
  have q2 : (j : Int) < 64 := by omega
  have HI := Lib.hid hi
  have HJ := Lib.hid hj
  by_cases hij : i = j
  · subst hij
    clear h hi hj
    replace p1 := eq_true p1
    replace p2 := eq_true p2
    go_enter Tryd.func59, Tryd.ntmps59
    go_region
    all_goals
      refine bodyPost_end (results_none rfl _ _ _) rfl ⟨rfl, ?_⟩
      exact (((HS.out.put i HI.out d[i]!).put i HI.out d[i]!).drew1)
  have n0 : (i * 3 = j * 3) = False := eq_false (by omega)
  have m0 : (j * 3 = i * 3) = False := eq_false (by omega)
  have n1 : (i * 3 = j * 3 + 1) = False := eq_false (by omega)
  have m1 : (j * 3 + 1 = i * 3) = False := eq_false (by omega)
  have n2 : (i * 3 = j * 3 + 2) = False := eq_false (by omega)
  have m2 : (j * 3 + 2 = i * 3) = False := eq_false (by omega)
  have n3 : (i * 3 + 1 = j * 3) = False := eq_false (by omega)
  have m3 : (j * 3 = i * 3 + 1) = False := eq_false (by omega)
  have n4 : (i * 3 + 1 = j * 3 + 1) = False := eq_false (by omega)
  have m4 : (j * 3 + 1 = i * 3 + 1) = False := eq_false (by omega)
  have n5 : (i * 3 + 1 = j * 3 + 2) = False := eq_false (by omega)
  have m5 : (j * 3 + 2 = i * 3 + 1) = False := eq_false (by omega)
  have n6 : (i * 3 + 2 = j * 3) = False := eq_false (by omega)
  have m6 : (j * 3 = i * 3 + 2) = False := eq_false (by omega)
  have n7 : (i * 3 + 2 = j * 3 + 1) = False := eq_false (by omega)
  have m7 : (j * 3 + 1 = i * 3 + 2) = False := eq_false (by omega)
  have n8 : (i * 3 + 2 = j * 3 + 2) = False := eq_false (by omega)
  have m8 : (j * 3 + 2 = i * 3 + 2) = False := eq_false (by omega)
  clear h hi hj
  replace p1 := eq_true p1
  replace p2 := eq_true p2
  replace q1 := eq_true q1
  replace q2 := eq_true q2
  go_enter Tryd.func59, Tryd.ntmps59
  go_region
  all_goals
    refine bodyPost_end (results_none rfl _ _ _) rfl ⟨rfl, ?_⟩
    exact (((HS.out.put i HI.out d[j]!).put j HJ.out d[i]!).drew1)
set_option maxHeartbeats 4000000 in
set_option maxRecDepth 100000 in
theorem Len.calls (w : World) (g : Nat) : Calls Tryd.prog 57 #[.slice (some ⟨g, 0, none⟩) 64 64] w fun e w' => e = .returned (.int .i64 64) ∧ w' = w := by
  go_enter Tryd.func57, Tryd.ntmps57
  go_wp2
  go_ret
  exact ⟨rfl, rfl⟩
/-- The array, as the sort sees it. -/
def ifc (g : Nat) : Value := .iface 45 (.slice (some ⟨g, 0, none⟩) 64 64)
end Go.Proofs.YtlbamdlegloieaaDoor
