/- calm over the closure of impl.Located. -/
import Derived.Test.YtckgmnpcnoanhaaDoorExtMake
set_option linter.unusedVariables false
set_option linter.unusedSimpArgs false
namespace Go.Proofs.YtckgmnpcnoanhaaDoor
open Go Go.RowKit Go.Proofs.YtckgmnpcnoanhaaDoorW.PrintWords Go.Proofs.YtckgmnpcnoanhaaDoorW.PrintLast Go.Proofs.YtckgmnpcnoanhaaDoorW.PrintMore Go.Proofs.YtckgmnpcnoanhaaDoor.PFnLocated
/-- What calm leaves: what the tracker told lies at b, and the variable points there. -/
def CQ (w0 : World) (nt gl : Nat) (s : ByteArray) (j : Nat) (n : Int) (w' : World) : Prop := ∃ (b l ls le : Nat), w'.heap[b]? = some (.cells (msgCells s l ls le j n) 57 (0, 0)) ∧ w'.heap[gl]? = some (.cells #[.pointer (some ⟨b, 0, none⟩)] 49 (0, 0)) ∧ Tr s j l ls ∧ EndAt s j le ∧ SS w0 w' nt s j j
theorem CQ.out {w0 : World} {nt gl : Nat} {s : ByteArray} {j : Nat} {n : Int} {w' : World} (h : CQ w0 nt gl s j n w') : ∃ (b l ls le : Nat), w'.heap[b]? = some (.cells (msgCells s l ls le j n) 57 (0, 0)) ∧ w'.heap[gl]? = some (.cells #[.pointer (some ⟨b, 0, none⟩)] 49 (0, 0)) ∧ Tr s j l ls ∧ EndAt s j le ∧ SS w0 w' nt s j j := h
theorem SS.grown {w0 w : World} {nt : Nat} {s : ByteArray} {o q : Nat} (h : SS w0 w nt s o q) : w0.grownBy w (some nt) := by
  obtain ⟨_, _, _, _, _, _, _, _, hK⟩ := h
  exact hK
theorem SS.lt {w0 w : World} {nt : Nat} {s : ByteArray} {o q : Nat} (h : SS w0 w nt s o q) : nt < w.heap.size := by
  obtain ⟨_, _, _, _, _, _, hT, _, _⟩ := h
  exact blk_lt hT
theorem far_cell {w : World} {k : Nat} {p : Addr} {u : Value} {o : Obj} (h : w.heap[k]? = some o) (hp : k ≠ p.block) : (w.setCell p u).heap[k]? = some o := (Below.heap_setCell w p u k hp).trans h
/-- A cell behind what is kept is set. -/
theorem SS.far {w0 w : World} {nt : Nat} {s : ByteArray} {o q : Nat} (h : SS w0 w nt s o q) (p : Addr) (u : Value) (h1 : w0.heap.size ≤ p.block) (h2 : nt ≠ p.block) (h3 : 2 ≤ p.block) : SS w0 (w.setCell p u) nt s o q := by
  obtain ⟨l, ls, le, hs, he, hG, hT, hU, hK⟩ := h
  exact ⟨l, ls, le, hs, he, hG, far_cell hT h2, hU.put p u h3, ⟨hK.os, hK.tape, hK.output, by simpa [World.setCell] using hK.size, fun k hk hne => (Below.heap_setCell w p u k (by omega)).trans (hK.block k hk hne)⟩⟩
/-- From an earlier world on. -/
theorem SS.trans {w0 w w1 : World} {nt : Nat} {s : ByteArray} {o q : Nat} (hg : w0.grownBy w (some nt)) (h : SS w w1 nt s o q) : SS w0 w1 nt s o q := by
  obtain ⟨l, ls, le, hs, he, hG, hT, hU, hK⟩ := h
  exact ⟨l, ls, le, hs, he, hG, hT, hU, ⟨hK.os.trans hg.os, hK.tape.trans hg.tape, hK.output.trans hg.output, Nat.le_trans hg.size hK.size, fun k hk hne => (hK.block k (Nat.lt_of_lt_of_le hk hg.size) hne).trans (hg.block k hk hne)⟩⟩
theorem Calm.calls (nt gr gl : Nat) (s : ByteArray) (i j : Nat) (n : Int) (w0 w : World) (hW : Wf s) (hj : Sp s j) (hz : s.size ≤ 4096) (h : SS w0 w nt s i i) (hnt : 2 ≤ nt) (hn : 0 ≤ n ∧ n ≤ 4096)
    (hr : w.heap[gr]? = some (.cells #[.int .i64 (j : Int), .int .i64 n] 26 (0, 0))) (hl : w.heap[gl]? = some (.cells #[.pointer none] 49 (0, 0))) (hgl : w0.heap.size ≤ gl) (hnl : nt < w0.heap.size) :
    Calls Tryd.prog 10 #[.func (.func 11) #[] #[.pointer (some ⟨nt, 0, none⟩), .pointer (some ⟨gr, 0, none⟩), .pointer (some ⟨gl, 0, none⟩)]] w fun e w' => e = .returned (.bool true) ∧ CQ w0 nt gl s j n w' := by
  have hne : gl ≠ nt := by omega
  have hlt := blk_lt hl
  have hb := below_alloc (Below.refl w.heap.size w) (.cells #[.bool false] 4 (0, 0))
  have hx := heap_alloc_new w (.cells #[.bool false] 4 (0, 0))
  have hsz : w0.heap.size ≤ w.heap.size := h.grown.size
  have key : ∀ w', CP (w.alloc (.cells #[.bool false] 4 (0, 0))) nt gl s j n w' → w'.heap[w.heap.size]? = some (.cells #[.bool false] 4 (0, 0)) := by
    rintro w' ⟨w2, b, l, ls, le, _, _, _, _, hS, rfl⟩
    exact far_cell (blk_grown hx hS.grown (by simp; omega)) (by simp; omega)
  refine (calm_calls _ (CP (w.alloc (.cells #[.bool false] 4 (0, 0))) nt gl s j n) w key (Clos.calls nt gr gl s i j n _ hW hj hz (h.below hb).self hnt hn (blk_below hr hb) (blk_below hl hb) hne)).mono ?_
  rintro e w3 ⟨rfl, w', hP, rfl⟩
  refine ⟨rfl, ?_⟩
  have hk := key _ hP
  obtain ⟨w2, b, l, ls, le, hb1, hb2, hTr, hE, hS, rfl⟩ := hP
  have hs1 : (w.alloc (.cells #[.bool false] 4 (0, 0))).heap.size = w.heap.size + 1 := by simp
  have hgl2 : w2.heap[gl]? = some (.cells #[.pointer none] 49 (0, 0)) := blk_grown (blk_below hl hb) hS.grown (by simp; omega)
  rw [hs1] at hb1
  refine ⟨b, l, ls, le, far_cell (far_cell hb2 (by simp; omega)) (by simp; omega), far_cell (blk_put hgl2 0 (.pointer (some ⟨b, 0, none⟩)) rfl) (by simp; omega), hTr, hE, ?_⟩
  exact ((SS.trans (grown_below h.grown hb) hS).far _ _ hgl (by simp; omega) (by simp; omega)).far _ _ hsz (by simp; omega) (by simp; omega)
end Go.Proofs.YtckgmnpcnoanhaaDoor
