/- MsgLocationOrNil, walked: the message's place of a range of a text. -/
import Derived.Test.YtckgmnpcnoanhaaDoorExtComp
import Derived.Laws.EntriesVeiled
set_option linter.unusedVariables false
set_option linter.unusedSimpArgs false
namespace Go.Proofs.YtckgmnpcnoanhaaDoor
open Go Go.RowKit Go.Proofs.YtckgmnpcnoanhaaDoorW.PrintWords Go.Proofs.YtckgmnpcnoanhaaDoorW.PrintLast Go.Proofs.YtckgmnpcnoanhaaDoorW.PrintMore Go.Proofs.YtckgmnpcnoanhaaDoor.PFnLocated
theorem SS.below {w0 w w1 : World} {nt : Nat} {s : ByteArray} {o q : Nat} (h : SS w0 w nt s o q) (hb : Below w.heap.size w w1) : SS w0 w1 nt s o q := by
  obtain ⟨l, ls, le, hs, he, hG, hT, hU, hK⟩ := h
  exact ⟨l, ls, le, hs, he, hG, blk_below hT hb, hU.below hb, grown_below hK hb⟩
theorem SS.from {w0 w w1 : World} {nt : Nat} {s : ByteArray} {o q : Nat} (hb : Below w0.heap.size w0 w) (hnt : nt < w0.heap.size) (h : SS w w1 nt s o q) : SS w0 w1 nt s o q := by
  obtain ⟨l, ls, le, hs, he, hG, hT, hU, hK⟩ := h
  exact ⟨l, ls, le, hs, he, hG, hT, hU, ⟨hK.os.trans hb.os, hK.tape.trans hb.tape, hK.output.trans hb.output, Nat.le_trans hb.size hK.size, fun k hk hne => (hK.block k (Nat.lt_of_lt_of_le hk hb.size) hne).trans (hb.block k hk)⟩⟩
theorem SS.self {w0 w : World} {nt : Nat} {s : ByteArray} {o q : Nat} (h : SS w0 w nt s o q) : SS w w nt s o q := by
  obtain ⟨l, ls, le, hs, he, hG, hT, hU, hK⟩ := h
  exact ⟨l, ls, le, hs, he, hG, hT, hU, grown_refl w nt⟩
/-- The message's place. -/
def msgCells (s : ByteArray) (l ls le j : Nat) (n : Int) : Array Value := #[.string ⟨#[]⟩, .string ⟨#[]⟩, .string ⟨#[]⟩, .string (s.extract ls le), .string ⟨#[]⟩, .int .i64 ((l : Int) + 1), .int .i64 ((j : Int) - (ls : Int)), .int .i64 n]
set_option maxHeartbeats 8000000 in
set_option maxRecDepth 100000 in
theorem Msg.calls (nt : Nat) (s : ByteArray) (i j : Nat) (n : Int) (w : World) (hW : Wf s) (hj : Sp s j) (hz : s.size ≤ 4096) (h : SS w w nt s i i) (hnt : 2 ≤ nt) (hn : 0 ≤ n ∧ n ≤ 4096) :
    Calls Tryd.prog 12 #[.pointer (some ⟨nt, 0, none⟩), .agg #[.int .i32 (j : Int), .int .i32 n]] w fun e w' => ∃ b l ls le : Nat, (w.heap.size ≤ b ∧ w'.heap[b]? = some (.cells (msgCells s l ls le j n) 57 (0, 0)) ∧ Tr s j l ls ∧ EndAt s j le ∧ SS w w' nt s j j) ∧ e = .returned (.pointer (some ⟨b, 0, none⟩)) := by
  obtain ⟨l0, ls0, le0, hs0, he0, hG0, hT0, hU0, hN0⟩ := h.out
  have hlt : nt < w.heap.size := blk_lt hT0
  have HZ := Lib.hid hz
  have HW := Lib.hid hW
  have HN := Lib.hid hnt
  have HJ := Lib.hid hj
  have HS := Lib.hid h
  have HL := Lib.hid hlt
  have HT0 := Lib.hid hT0
  clear hW hj hz hnt h hlt hG0 hT0 hU0 hN0
  go_enter Tryd.func12, Tryd.ntmps12
  go_upto_region 1 with (fail)
  generalize hA : World.alloc w _ = W
  have HB0 := Lib.hid (show Below w.heap.size w W from by rw [← hA]; exact below_alloc (Below.refl w.heap.size w) _)
  have hn1 : W.heap[w.heap.size]? = some (.cells #[.int .i32 (j : Int), .int .i32 n] 55 (0, 0)) := by rw [← hA]; exact heap_alloc_new w _
  have HR := Lib.hid hn1
  have r0 := (blk_cell hn1 0).trans rfl
  have r1 := (blk_cell hn1 1).trans rfl
  have HS2 := Lib.hid (HS.out.below HB0.out)
  have hT2 := blk_below HT0.out HB0.out
  have x9 := (blk_cell hT2 9).trans rfl
  have ew : IntKind.i64.wrap (j : Int) = (j : Int) := wr64 j (Nat.le_trans HJ.out.1 (Nat.le_trans HZ.out (by decide)))
  clear hn1 hT2 hA
  go_upto_region 4 with (first | (go_at_call 16; (with_reducible refine (Comp.calls nt s i j W HW.out HJ.out HZ.out HS2.out.self HN.out).mono ?_); rintro e w2 ⟨l, ls, le, ⟨hTr, hE, hS⟩, rfl⟩; have HTr := Lib.hid hTr; have HE := Lib.hid hE; have HS3 := Lib.hid hS; clear hTr hE hS))
  obtain ⟨l3, ls3, le3, hs3, he3, hG3, hT3, hU3, hK3⟩ := HS3.out.out
  have hR3 := blk_grown HR.out hK3 (by have := HL.out; simp; omega)
  clear r0 r1 x9
  have r1 := (blk_cell hR3 1).trans rfl
  have x0 := (blk_cell hT3 0).trans rfl
  have x1 := (blk_cell hT3 1).trans rfl
  have x2 := (blk_cell hT3 2).trans rfl
  have b1 := HTr.out.bounds
  have b2 := HE.out.bounds
  have HB1 := Lib.hid b1
  have p1 : (0 : Int) ≤ (ls : Int) := Int.natCast_nonneg ls
  have p2 : (ls : Int) ≤ (le : Int) := by omega
  have p3 : (le : Int) ≤ (s.size : Int) := by omega
  have p4 : (0 : Int) ≤ (le : Int) := Int.natCast_nonneg le
  have e1 : wrap64 ((l : Int) + 1) = (l : Int) + 1 := w64 (by omega) (by have := HZ.out; omega)
  have e2 : IntKind.i64.wrap n = n := by rw [IntKind.wrap_i64]; omega
  clear hG3 hT3 hU3 hK3 hR3 b1 b2
  refine start_ (n := 20) (S := fun w' => w'.cell? ⟨nt, 0, none⟩ = some (.string s) ∧ w'.cell? ⟨nt, 1, none⟩ = some (.string ⟨#[]⟩) ∧ w'.cell? ⟨nt, 2, none⟩ = some (.string ⟨#[]⟩) ∧ w'.cell? ⟨w.heap.size, 1, none⟩ = some (.int .i32 n)) (ds := [18]) #[false, false, false, false, false, false, false, false, false, false, false, false, false, false, false, false, false, false, false, false] (by kernel_rfl) rfl rfl ⟨x0, x1, x2, r1⟩ (fun hHeld => ?_)
  refine pure_ (i := 0) (N := some 29) (v := ?_) (a' := ?_) #[true, false, false, false, false, false, false, false, false, false, false, false, false, false, false, false, false, false, false, false] rfl rfl (by kernel_rfl) (fun _ _ _ h => h) (Or.inl ⟨by rfl, ?_⟩) ?_ ?_
  rotate_left
  · intro w'
    go_simp
    with_reducible rfl
  rotate_left
  · simp only [Act.put, List.setIfInBounds_toArray, List.set_cons_zero, List.set_cons_succ, i64_w, i32_w]
    rfl
  refine pure_ (i := 1) (N := some 30) (v := ?_) (a' := ?_) #[true, true, false, false, false, false, false, false, false, false, false, false, false, false, false, false, false, false, false, false] rfl rfl (by kernel_rfl) (fun _ _ _ h => h) (Or.inl ⟨by rfl, ?_⟩) ?_ ?_
  rotate_left
  · intro w'
    go_simp
    with_reducible rfl
  rotate_left
  · simp only [Act.put, List.setIfInBounds_toArray, List.set_cons_zero, List.set_cons_succ, i64_w, i32_w]
    rfl
  refine pure_ (i := 2) (N := some 31) (v := ?_) (a' := ?_) #[true, true, true, false, false, false, false, false, false, false, false, false, false, false, false, false, false, false, false, false] rfl rfl (by kernel_rfl) (fun _ _ _ h => h) (Or.inl ⟨by rfl, ?_⟩) ?_ ?_
  rotate_left
  · intro w'
    go_simp
    with_reducible rfl
  rotate_left
  · simp only [Act.put, List.setIfInBounds_toArray, List.set_cons_zero, List.set_cons_succ, i64_w, i32_w]
    rfl
  refine pure_ (i := 4) (N := some 33) (v := ?_) (a' := ?_) #[true, true, true, false, true, false, false, false, false, false, false, false, false, false, false, false, false, false, false, false] rfl rfl (by kernel_rfl) (fun _ _ _ h => h) (Or.inl ⟨by rfl, ?_⟩) ?_ ?_
  rotate_left
  · intro w'
    go_simp
    with_reducible rfl
  rotate_left
  · simp only [Act.put, List.setIfInBounds_toArray, List.set_cons_zero, List.set_cons_succ, i64_w, i32_w]
    rfl
  refine pure_ (i := 5) (N := some 34) (v := ?_) (a' := ?_) #[true, true, true, false, true, true, false, false, false, false, false, false, false, false, false, false, false, false, false, false] rfl rfl (by kernel_rfl) (fun _ _ _ h => h) (Or.inl ⟨by rfl, ?_⟩) ?_ ?_
  rotate_left
  · intro w'
    go_simp
    with_reducible rfl
  rotate_left
  · simp only [Act.put, List.setIfInBounds_toArray, List.set_cons_zero, List.set_cons_succ, i64_w, i32_w]
    rfl
  refine pure_ (i := 6) (N := some 35) (v := ?_) (a' := ?_) #[true, true, true, false, true, true, true, false, false, false, false, false, false, false, false, false, false, false, false, false] rfl rfl (by kernel_rfl) (fun _ _ _ h => h) (Or.inl ⟨by rfl, ?_⟩) ?_ ?_
  rotate_left
  · intro w'
    go_simp
    with_reducible rfl
  rotate_left
  · simp only [Act.put, List.setIfInBounds_toArray, List.set_cons_zero, List.set_cons_succ, i64_w, i32_w]
    rfl
  refine pure_ (i := 7) (N := some 36) (v := ?_) (a' := ?_) #[true, true, true, false, true, true, true, true, false, false, false, false, false, false, false, false, false, false, false, false] rfl rfl (by kernel_rfl) (fun _ _ _ h => h) (Or.inl ⟨by rfl, ?_⟩) ?_ ?_
  rotate_left
  · intro w'
    go_simp
    with_reducible rfl
  rotate_left
  · simp only [Act.put, List.setIfInBounds_toArray, List.set_cons_zero, List.set_cons_succ, i64_w, i32_w]
    rfl
  refine pure_ (i := 10) (N := some 39) (v := ?_) (a' := ?_) #[true, true, true, false, true, true, true, true, false, false, true, false, false, false, false, false, false, false, false, false] rfl rfl (by kernel_rfl) (fun _ _ _ h => h) (Or.inl ⟨by rfl, ?_⟩) ?_ ?_
  rotate_left
  · intro w'
    go_simp
    with_reducible rfl
  rotate_left
  · simp only [Act.put, List.setIfInBounds_toArray, List.set_cons_zero, List.set_cons_succ, i64_w, i32_w]
    rfl
  refine pure_ (i := 11) (N := some 40) (v := ?_) (a' := ?_) #[true, true, true, false, true, true, true, true, false, false, true, true, false, false, false, false, false, false, false, false] rfl rfl (by kernel_rfl) (fun _ _ _ h => h) (Or.inl ⟨by rfl, ?_⟩) ?_ ?_
  rotate_left
  · intro w'
    go_simp
    with_reducible rfl
  rotate_left
  · simp only [Act.put, List.setIfInBounds_toArray, List.set_cons_zero, List.set_cons_succ, i64_w, i32_w]
    rfl
  refine pure_ (i := 12) (N := some 41) (v := ?_) (a' := ?_) #[true, true, true, false, true, true, true, true, false, false, true, true, true, false, false, false, false, false, false, false] rfl rfl (by kernel_rfl) (fun _ _ _ h => h) (Or.inl ⟨by rfl, ?_⟩) ?_ ?_
  rotate_left
  · intro w'
    go_simp
    with_reducible rfl
  rotate_left
  · simp only [Act.put, List.setIfInBounds_toArray, List.set_cons_zero, List.set_cons_succ, i64_w, i32_w]
    rfl
  refine pure_ (i := 14) (N := some 43) (v := ?_) (a' := ?_) #[true, true, true, false, true, true, true, true, false, false, true, true, true, false, true, false, false, false, false, false] rfl rfl (by kernel_rfl) (fun _ _ _ h => h) (Or.inl ⟨by rfl, ?_⟩) ?_ ?_
  rotate_left
  · intro w'
    go_simp
    with_reducible rfl
  rotate_left
  · simp only [Act.put, List.setIfInBounds_toArray, List.set_cons_zero, List.set_cons_succ, i64_w, i32_w]
    rfl
  refine pure_ (i := 15) (N := some 44) (v := ?_) (a' := ?_) #[true, true, true, false, true, true, true, true, false, false, true, true, true, false, true, true, false, false, false, false] rfl rfl (by kernel_rfl) (fun _ _ _ h => h) (Or.inl ⟨by rfl, ?_⟩) ?_ ?_
  rotate_left
  · intro w'
    go_simp
    with_reducible rfl
  rotate_left
  · simp only [Act.put, List.setIfInBounds_toArray, List.set_cons_zero, List.set_cons_succ, i64_w, i32_w]
    rfl
  refine take_ (i := 3) (N := some 32) (v := ?_) (a' := ?_) #[true, true, true, true, true, true, true, true, false, false, true, true, true, false, true, true, false, false, false, false] rfl rfl (by kernel_rfl) (fun _ _ _ h => h) (Or.inl ⟨by rfl, ?_⟩) hHeld ?_ ?_
  rotate_left
  · rintro w' ⟨s0, s1, s2, s3⟩
    go_simp
    with_reducible rfl
  rotate_left
  · simp only [Act.put, List.setIfInBounds_toArray, List.set_cons_zero, List.set_cons_succ, i64_w, i32_w]
    rfl
  refine take_ (i := 8) (N := some 37) (v := ?_) (a' := ?_) #[true, true, true, true, true, true, true, true, true, false, true, true, true, false, true, true, false, false, false, false] rfl rfl (by kernel_rfl) (fun _ _ _ h => h) (Or.inl ⟨by rfl, ?_⟩) hHeld ?_ ?_
  rotate_left
  · rintro w' ⟨s0, s1, s2, s3⟩
    go_simp
    with_reducible rfl
  rotate_left
  · simp only [Act.put, List.setIfInBounds_toArray, List.set_cons_zero, List.set_cons_succ, i64_w, i32_w]
    rfl
  refine pure_ (i := 9) (N := some 38) (v := ?_) (a' := ?_) #[true, true, true, true, true, true, true, true, true, true, true, true, true, false, true, true, false, false, false, false] rfl rfl (by kernel_rfl) (fun _ _ _ h => h) (Or.inl ⟨by rfl, ?_⟩) ?_ ?_
  rotate_left
  · intro w'
    go_simp
    with_reducible rfl
  rotate_left
  · simp only [Act.put, List.setIfInBounds_toArray, List.set_cons_zero, List.set_cons_succ, i64_w, i32_w]
    rfl
  refine take_ (i := 13) (N := some 42) (v := ?_) (a' := ?_) #[true, true, true, true, true, true, true, true, true, true, true, true, true, true, true, true, false, false, false, false] rfl rfl (by kernel_rfl) (fun _ _ _ h => h) (Or.inl ⟨by rfl, ?_⟩) hHeld ?_ ?_
  rotate_left
  · rintro w' ⟨s0, s1, s2, s3⟩
    go_simp
    with_reducible rfl
  rotate_left
  · simp only [Act.put, List.setIfInBounds_toArray, List.set_cons_zero, List.set_cons_succ, i64_w, i32_w]
    rfl
  refine pure_ (i := 16) (N := some 45) (v := ?_) (a' := ?_) #[true, true, true, true, true, true, true, true, true, true, true, true, true, true, true, true, true, false, false, false] rfl rfl (by kernel_rfl) (fun _ _ _ h => h) (Or.inl ⟨by rfl, ?_⟩) ?_ ?_
  rotate_left
  · intro w'
    go_simp
    with_reducible rfl
  rotate_left
  · simp only [Act.put, List.setIfInBounds_toArray, List.set_cons_zero, List.set_cons_succ, i64_w, i32_w]
    rfl
  refine pure_ (i := 17) (N := some 46) (v := ?_) (a' := ?_) #[true, true, true, true, true, true, true, true, true, true, true, true, true, true, true, true, true, true, false, false] rfl rfl (by kernel_rfl) (fun _ _ _ h => h) (Or.inl ⟨by rfl, ?_⟩) ?_ ?_
  rotate_left
  · intro w'
    go_simp
    with_reducible rfl
  rotate_left
  · simp only [Act.put, List.setIfInBounds_toArray, List.set_cons_zero, List.set_cons_succ, i64_w, i32_w]
    rfl
  refine last_ (i := 18) (N := some 47) #[true, true, true, true, true, true, true, true, true, true, true, true, true, true, true, true, true, true, true, false] rfl rfl (by kernel_rfl) (by decide) (fun K hK => ?_)
  refine value_ (w1 := ?_) (v := ?_) (by rfl) rfl ?_ ?_
  rotate_left 2
  · go_simp
    constructor
    · rfl
    · rfl
  refine hK.out _ _ ?_
  clear hK K
  refine norm_ (a' := ?_) ?_ ?_
  rotate_left
  · show Act.put _ (some 47) _ = _
    simp only [Act.put, List.setIfInBounds_toArray, List.set_cons_zero, List.set_cons_succ, i64_w, i32_w]
    rfl
  refine pure_ (i := 19) (N := some 4) (v := ?_) (a' := ?_) #[true, true, true, true, true, true, true, true, true, true, true, true, true, true, true, true, true, true, true, true] rfl rfl (by kernel_rfl) (fun _ _ _ h => h) (Or.inl ⟨by rfl, ?_⟩) ?_ ?_
  rotate_left
  · intro w'
    go_simp
    with_reducible rfl
  rotate_left
  · simp only [Act.put, List.setIfInBounds_toArray, List.set_cons_zero, List.set_cons_succ, i64_w, i32_w]
    rfl
  refine done_ (by kernel_rfl) ?_
  generalize hA4 : World.drew (World.alloc w2 _) = W4
  have hb4 : Below w2.heap.size w2 W4 := by rw [← hA4]; exact (below_alloc (Below.refl w2.heap.size w2) _).drew
  have hx4 : W4.heap[w2.heap.size]? = some (.cells (msgCells s l ls le j n) 57 (0, 0)) := by rw [← hA4]; exact heap_alloc_new w2 _
  have hSz : w.heap.size ≤ w2.heap.size := by
    obtain ⟨_, _, _, _, _, _, _, _, hk⟩ := HS3.out.out
    exact Nat.le_trans HB0.out.size hk.size
  have HF := Lib.hid (show SS w W4 nt s j j from (SS.from HB0.out HL.out HS3.out).below hb4)
  have HX4 := Lib.hid hx4
  have HSz := Lib.hid hSz
  clear hA4 hb4 hx4 hSz
  go_wp2
  go_ret
  exact ⟨w2.heap.size, l, ls, le, ⟨HSz.out, HX4.out, HTr.out, HE.out, HF.out⟩, rfl⟩
end Go.Proofs.YtckgmnpcnoanhaaDoor
