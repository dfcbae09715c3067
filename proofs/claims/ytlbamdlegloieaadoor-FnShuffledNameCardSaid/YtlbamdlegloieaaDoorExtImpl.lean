/- MinifiedName and ShuffledName, walked. -/
import Derived.Test.YtlbamdlegloieaaDoorExtShuf
set_option linter.unusedVariables false
set_option linter.unusedSimpArgs false
namespace Go.Proofs.YtlbamdlegloieaaDoor
open Go Go.RowKit Go.Proofs.YtlbamdlegloieaaDoorW.PrintWords Go.Proofs.YtlbamdlegloieaaDoorW.PrintLast Go.Proofs.YtlbamdlegloieaaDoorW.PrintMore
/-- The signs that begin a name. -/
def abcH : ByteArray := ⟨#[97, 98, 99, 100, 101, 102, 103, 104, 105, 106, 107, 108, 109, 110, 111, 112, 113, 114, 115, 116, 117, 118, 119, 120, 121, 122, 65, 66, 67, 68, 69, 70, 71, 72, 73, 74, 75, 76, 77, 78, 79, 80, 81, 82, 83, 84, 85, 86, 87, 88, 89, 90, 95, 36]⟩
/-- The signs that stand behind. -/
def abcT : ByteArray := ⟨#[97, 98, 99, 100, 101, 102, 103, 104, 105, 106, 107, 108, 109, 110, 111, 112, 113, 114, 115, 116, 117, 118, 119, 120, 121, 122, 65, 66, 67, 68, 69, 70, 71, 72, 73, 74, 75, 76, 77, 78, 79, 80, 81, 82, 83, 84, 85, 86, 87, 88, 89, 90, 48, 49, 50, 51, 52, 53, 54, 55, 56, 57, 95, 36]⟩
theorem abcH_size : abcH.size = 54 := by decide
theorem abcT_size : abcT.size = 64 := by decide
/-- The variable DefaultNameMinifierJS, as its initialiser lays it. -/
def Inv (w : World) : Prop := ∃ t : TypeId, w.heap[0]? = some (.cells #[.string abcH, .string abcT] t (0, 0))
theorem Inv.lt {w : World} (h : Inv w) : 0 < w.heap.size := by
  obtain ⟨t, h⟩ := h
  exact blk_lt h
theorem Inv.c0 {w : World} (h : Inv w) : w.cell? ⟨0, 0, none⟩ = some (.string abcH) := by
  obtain ⟨t, h⟩ := h
  exact (blk_cell h 0).trans rfl
theorem Inv.c1 {w : World} (h : Inv w) : w.cell? ⟨0, 1, none⟩ = some (.string abcT) := by
  obtain ⟨t, h⟩ := h
  exact (blk_cell h 1).trans rfl
theorem Inv.below {w w' : World} (h : Inv w) (hb : Below w.heap.size w w') : Inv w' := by
  obtain ⟨t, h⟩ := h
  exact ⟨t, blk_below h hb⟩
set_option maxHeartbeats 4000000 in
set_option maxRecDepth 100000 in
theorem MinName.calls (w : World) (i : Nat) (hi : i ≤ 1073741824) (hI : Inv w) :
    Calls Tryd.prog 4 #[.int .i64 (i : Int)] w fun e w' => e = .returned (.string ⟨(mini abcH abcT i).toArray⟩) ∧ Below w.heap.size w w' := by
  have HM := Lib.hid (Mini.calls w abcH abcT i 54 64 abcH_size abcT_size (by omega) (by omega) (by omega) (by omega) hi)
  have z0 := hI.c0
  have z1 := hI.c1
  clear hi hI
  go_enter Tryd.func4, Tryd.ntmps4
  go_wp2_with (first | (go_at_call 9; (with_reducible refine HM.out.mono ?_); rintro e w9 ⟨rfl, hb⟩; have HB := Lib.hid hb; clear hb))
  go_ret
  exact ⟨rfl, HB.out⟩
/-- The signs in the order that the counts make. -/
def shuf (l : List Int) : List El := (Go.Sort.sort ltE (elems abcT l)).toList
set_option maxHeartbeats 4000000 in
set_option maxRecDepth 100000 in
theorem ShufName.calls (w : World) (A : Option Addr) (c : Nat) (l : List Int) (i : Nat) (hi : i ≤ 1073741824) (hr : (Kd.int .i32).C w A 64 l) (hl : l.length = 64) (hI : Inv w)
    (hh : (headB (shuf l)).size = 54) (htl : (tailB (shuf l)).size = 64) :
    Calls Tryd.prog 7 #[.slice A 64 c, .int .i64 (i : Int)] w fun e w' => e = .returned (.string ⟨(mini (headB (shuf l)) (tailB (shuf l)) i).toArray⟩) ∧ Below w.heap.size w w' := by
  have HC := Lib.hid (show Calls Tryd.prog 11 #[.slice A 64 c] w.drew fun e w' => e = .returned (.agg (nums l)) ∧ Below w.heap.size w w' from (Counts.calls w.drew A c l (Kd.C_drew hr) hl).mono fun e w' ⟨he, hb⟩ => ⟨he, (below_drew (Below.refl _ _)).trans (hb.mono (Nat.le_refl _))⟩)
  have HS := Lib.hid (fun wz => Shuf.calls wz abcH abcT l abcT_size hl)
  have HM := Lib.hid (fun wz => Mini.calls wz (headB (shuf l)) (tailB (shuf l)) i 54 64 hh htl (by omega) (by omega) (by omega) (by omega) hi)
  have HI := Lib.hid hI
  have z0 := hI.c0
  have z1 := hI.c1
  clear hi hI hr hl hh htl
  go_enter Tryd.func7, Tryd.ntmps7
  go_wp2
  go_region_with (first
    | (go_at_call 11; (with_reducible refine HC.out.mono ?_); rintro e wq1 ⟨rfl, hb⟩; have y0 := (HI.out.below hb).c0; have y1 := (HI.out.below hb).c1; have HB1 := Lib.hid hb; clear hb)
    | (go_at_call 10; (refine (HS.out _).mono ?_); rintro e wq2 ⟨rfl, hb⟩; have HB2 := Lib.hid hb; clear hb)
    | (go_at_call 9; (refine (HM.out _).mono ?_); rintro e wq3 ⟨rfl, hb⟩; have HB3 := Lib.hid hb; clear hb))
  all_goals
    go_wp2
    go_ret
    have h12 := HB1.out.trans (HB2.out.mono HB1.out.size)
    exact ⟨rfl, h12.trans (HB3.out.mono h12.size)⟩
end Go.Proofs.YtlbamdlegloieaaDoor
