/- The closure of impl.Located, walked: it asks the tracker and keeps what it tells. -/
import Derived.Test.YtckgmnpcnoanhaaDoorExtMsg
import Derived.Test.YtckgmnpcnoanhaaDoorExtCalm
set_option linter.unusedVariables false
set_option linter.unusedSimpArgs false
namespace Go.Proofs.YtckgmnpcnoanhaaDoor
open Go Go.RowKit Go.Proofs.YtckgmnpcnoanhaaDoorW.PrintWords Go.Proofs.YtckgmnpcnoanhaaDoorW.PrintLast Go.Proofs.YtckgmnpcnoanhaaDoorW.PrintMore Go.Proofs.YtckgmnpcnoanhaaDoor.PFnLocated
/-- What the closure leaves. -/
def CP (w : World) (nt gl : Nat) (s : ByteArray) (j : Nat) (n : Int) (w' : World) : Prop := ∃ (w2 : World) (b l ls le : Nat), w.heap.size ≤ b ∧ w2.heap[b]? = some (.cells (msgCells s l ls le j n) 57 (0, 0)) ∧ Tr s j l ls ∧ EndAt s j le ∧ SS w w2 nt s j j ∧ w' = w2.setCell ⟨gl, 0, none⟩ (.pointer (some ⟨b, 0, none⟩))
set_option maxHeartbeats 8000000 in
set_option maxRecDepth 100000 in
theorem Clos.calls (nt gr gl : Nat) (s : ByteArray) (i j : Nat) (n : Int) (w : World) (hW : Wf s) (hj : Sp s j) (hz : s.size ≤ 4096) (h : SS w w nt s i i) (hnt : 2 ≤ nt) (hn : 0 ≤ n ∧ n ≤ 4096)
    (hr : w.heap[gr]? = some (.cells #[.int .i64 (j : Int), .int .i64 n] 26 (0, 0))) (hl : w.heap[gl]? = some (.cells #[.pointer none] 49 (0, 0))) (hne : gl ≠ nt) :
    Calls Tryd.prog 11 #[.pointer (some ⟨nt, 0, none⟩), .pointer (some ⟨gr, 0, none⟩), .pointer (some ⟨gl, 0, none⟩)] w fun e w' => e = .returned (.tuple #[]) ∧ CP w nt gl s j n w' := by
  have r0 := (blk_cell hr 0).trans rfl
  have r1 := (blk_cell hr 1).trans rfl
  have l0 := blk_frozen hl 0
  have e1 : IntKind.i32.wrap (j : Int) = (j : Int) := by rw [i32_w]; exact s32 j (Nat.le_trans hj.1 (Nat.le_trans hz (by decide)))
  have e2 : IntKind.i32.wrap n = n := by rw [i32_w]; exact w32 hn.1 (by omega)
  have e1' : wrap32 (j : Int) = (j : Int) := s32 j (Nat.le_trans hj.1 (Nat.le_trans hz (by decide)))
  have e2' : wrap32 n = n := w32 hn.1 (by omega)
  have HZ := Lib.hid hz
  have HW := Lib.hid hW
  have HN := Lib.hid hnt
  have HJ := Lib.hid hj
  have HS := Lib.hid h
  have HL := Lib.hid hl
  have Hn := Lib.hid hn
  have Hne := Lib.hid hne
  clear hW hj hz hnt h hl hn hr hne
  go_enter Tryd.func11, Tryd.ntmps11
  go_wp2_with (first | (go_at_call 12; (with_reducible refine (Msg.calls nt s i j n _ HW.out HJ.out HZ.out HS.out HN.out Hn.out).mono ?_); rintro e w2 ⟨b, l, ls, le, ⟨hb1, hb2, hTr, hE, hS⟩, rfl⟩; have HB1 := Lib.hid hb1; have HB2 := Lib.hid hb2; have HTr := Lib.hid hTr; have HE := Lib.hid hE; have HS3 := Lib.hid hS; have z0 := blk_frozen (blk_grown HL.out hS.out.choose_spec.choose_spec.choose_spec.choose_spec.choose_spec.2.2.2 (by have := Hne.out; simp; omega)) 0; have z1 := (blk_cell (blk_grown HL.out hS.out.choose_spec.choose_spec.choose_spec.choose_spec.choose_spec.2.2.2 (by have := Hne.out; simp; omega)) 0).trans rfl; clear hb1 hb2 hTr hE hS))
  exact bodyPost_end (results_none rfl _ _ _) rfl ⟨rfl, w2, b, l, ls, le, HB1.out, HB2.out, HTr.out, HE.out, HS3.out, rfl⟩
end Go.Proofs.YtckgmnpcnoanhaaDoor
