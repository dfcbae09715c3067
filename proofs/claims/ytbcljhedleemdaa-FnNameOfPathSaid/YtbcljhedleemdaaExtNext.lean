/- The contract of spec.Next at the beginning of a text that is a plain name. -/
import Derived.Test.YtbcljhedleemdaaExtToken
namespace Go.Proofs.Ytbcljhedleemdaa
open Go.RowKit Go.Proofs.YtbcljhedleemdaaW.PrintWords Go.Proofs.YtbcljhedleemdaaW.PrintMore Go.Proofs.Ytbcljhedleemdaa.Ppass

def plainB (s : ByteArray) : Bool := decide (0 < s.size) && (decide (s.size ≤ 2147483647) && (startB (bt s 0) && (List.range s.size).all fun j => nameB (bt s (j : Int))))
theorem plainB_iff (s : ByteArray) : plainB s = true ↔ Plain s := by
  unfold plainB Plain
  simp only [Bool.and_eq_true, decide_eq_true_eq, List.all_eq_true, List.mem_range]
def spec_Next.f (s : ByteArray) (at_ goal : Int) (script : Bool) : Option (Int × ByteArray × ByteArray × Int × Int × Int × Bool × Bool × Bool) :=
  if at_ = 0 ∧ goal = 0 ∧ script = false ∧ plainB s = true then some (3, s, ⟨#[]⟩, 0, 0, (s.size : Int), false, false, false) else none

set_option maxHeartbeats 4000000 in
set_option maxRecDepth 100000 in
theorem next_calls (s : ByteArray) (w : World) (hP : Plain s) :
    Calls Try.prog 11 #[.string s, .int .i64 0, .int .i64 0, .bool false] w fun e w' => e = .returned (.agg (tokCells 3 s 0 (s.size : Int))) ∧ Below w.heap.size w w' := by
  have H1 := Lib.hid (pass_tells 0 s hP.2.1 hP.1 hP.2.2.1)
  have HS : Hid (Sc w ((w.alloc (.cells (tokCells 0 ⟨#[]⟩ 0 0) 31)).alloc (.cells #[.string s, .int .i64 0, .bool false, .bool false, .int .i64 0] 37)) ((w.alloc (.cells (tokCells 0 ⟨#[]⟩ 0 0) 31)).alloc (.cells #[.string s, .int .i64 0, .bool false, .bool false, .int .i64 0] 37)) (w.heap.size + 1) s 0) :=
    Lib.hid (Sc.refl ⟨heap_alloc2_new w _ _, by omega⟩ (((Below.refl w.heap.size w).alloc (Nat.le_refl _) _).alloc (by simp) _))
  have HZ : Hid (((w.alloc (.cells (tokCells 0 ⟨#[]⟩ 0 0) 31)).alloc (.cells #[.string s, .int .i64 0, .bool false, .bool false, .int .i64 0] 37)).heap[w.heap.size]? = some (.cells (tokCells 0 ⟨#[]⟩ 0 0) 31 (0, 0))) := Lib.hid (heap_alloc2_old w _ _)
  have HP := Lib.hid hP
  have hpos : (0 : Int) < (s.size : Int) := by have := hP.1; omega
  clear hP
  go_enter Try.func11, Try.ntmps11
  go_wp2_with (first
    | (go_at_call 15; (refine (spec_scan_pass.calls (0 + 1 + 1 + 1 + 1 + 1 + 1) (w.heap.size + 1) s 0 false false 0 s 0 false false 0 w _ ?q1 ?q2 H1.out).mono ?_); (case q1 => exact HS.out.1); (case q2 => exact HS.out.2.1); rintro e w2 ⟨rfl, hi2, hb2, hk2⟩; have HS2 := Lib.hid (Sc.call HS.out hi2 hb2 hk2); have HZ2 := Lib.hid (KeepBut.blk hk2 HZ.out (by omega) (by simp)); obtain ⟨c20, c21, c24, f21⟩ := HS2.out.cells; clear hi2 hb2 hk2)
    | (refine wpList_store_row rfl 31 (.tmp 11) (.tmp 23) rfl w2.heap.size (tokCells 0 ⟨#[]⟩ 0 0) ?s1 ?s2 31 (tokCells 0 ⟨#[]⟩ 0 0) ?sg ?si ?s3 ?s4 ?_
       (case s1 => rfl)
       (case s2 => rfl)
       (case sg => exact heap_alloc_new w2 _)
       (case si => rw [info31]; rfl)
       (case s3 => rfl)
       (case s4 => exact tokOne _ _ _ _)
       generalize hW3 : (World.setRow (World.alloc w2 _) w2.heap.size (tokCells 0 ⟨#[]⟩ 0 0)) = W3
       have HS3 := Lib.hid (show Sc w _ W3 (w.heap.size + 1) s 0 by rw [← hW3]; exact Sc.row (Sc.below HS2.out (below_alloc (Below.refl _ _) _)) _ HS2.out.2.2.1 (by simp) (by simp; omega) _)
       have HT3 := Lib.hid (show W3.heap[w2.heap.size]? = some (.cells (tokCells 0 ⟨#[]⟩ 0 0) 31 (0, 0)) by rw [← hW3]; exact setRow_heap _ _ _ _ _ _ (heap_alloc_new w2 _))
       have HZ3 := Lib.hid (show W3.heap[w.heap.size]? = some (.cells (tokCells 0 ⟨#[]⟩ 0 0) 31 (0, 0)) by rw [← hW3, setRow_other _ _ _ _ (Nat.ne_of_lt (blk_lt HZ2.out))]; exact blk_alloc HZ2.out _)
       have HL3 := Lib.hid (show w.heap.size + 1 < w2.heap.size from blk_lt HS2.out.1.1)
       obtain ⟨c30, c31, c34, f31⟩ := HS3.out.cells
       clear c20 c21 c24 f21 hW3)
    | (go_at_call 16; (refine (token_calls (w.heap.size + 1) s w _ ?q1 ?q2 HP.out).mono ?_); (case q1 => exact HS3.out.1); (case q2 => first | exact HS3.out.2.1 | exact pw_below_drewN HS3.out.2.1 _); rintro e w5 ⟨rfl, hs5⟩; have HS5 := Lib.hid (Sc.trans HS3.out hs5); have HZ5 := Lib.hid (KeepBut.blk hs5.2.2 HZ3.out (by omega) (by simp)); have HT5 := Lib.hid (KeepBut.blk hs5.2.2 HT3.out (Nat.ne_of_gt HL3.out) (by simp)); clear hs5)
    | (refine wpList_store_row rfl 31 (.tmp 11) (.tmp 40) rfl w2.heap.size (tokCells 3 s 0 0) ?s1 ?s2 31 (tokCells 0 ⟨#[]⟩ 0 0) ?sg ?si ?s3 ?s4 ?_
       (case s1 => rfl)
       (case s2 => rfl)
       (case sg => exact HT5.out)
       (case si => rw [info31]; rfl)
       (case s3 => rfl)
       (case s4 => exact tokOne _ _ _ _)
       generalize hW6 : (World.setRow w5 w2.heap.size (tokCells 3 s 0 0)) = W6
       have HT6 := Lib.hid (show W6.heap[w2.heap.size]? = some (.cells (tokCells 3 s 0 0) 31 (0, 0)) by rw [← hW6]; exact setRow_heap _ _ _ _ _ _ HT5.out)
       have HZ6 := Lib.hid (show W6.heap[w.heap.size]? = some (.cells (tokCells 0 ⟨#[]⟩ 0 0) 31 (0, 0)) by rw [← hW6, setRow_other _ _ _ _ (by have := HL3.out; omega)]; exact HZ5.out)
       have HS6 := Lib.hid (show Sc w _ W6 (w.heap.size + 1) s (s.size : Int) by rw [← hW6]; exact Sc.row HS5.out _ HS2.out.2.2.1 (by simp) (by simp; omega) _)
       obtain ⟨c60, c61, c64, f61⟩ := HS6.out.cells
       clear c30 c31 c34 f31 hW6))
  have c63 := cellS37_3 HS6.out.1.1
  have t4 := blk_cell HT6.out 4
  have t5 := blk_cell HT6.out 5
  have t6 := blk_cell HT6.out 6
  have ft4 := blk_frozen HT6.out 4
  have ft5 := blk_frozen HT6.out 5
  have ft6 := blk_frozen HT6.out 6
  have hne : w2.heap.size ≠ w.heap.size + 1 := by have := HL3.out; omega
  have e4 : (tokCells 3 s 0 0)[4]? = some (.int .i64 0) := rfl
  have e5 : (tokCells 3 s 0 0)[5]? = some (.int .i64 0) := rfl
  have e6 : (tokCells 3 s 0 0)[6]? = some (.bool false) := rfl
  rw [e4] at t4
  rw [e5] at t5
  rw [e6] at t6
  clear e4 e5 e6
  go_region
  generalize hW7 : World.drew _ = W7
  have HT7 := Lib.hid (show W7.heap[w2.heap.size]? = some (.cells (tokCells 3 s 0 (s.size : Int)) 31 (0, 0)) by rw [← hW7]; exact blk_drew (blk_put (blk_put (blk_put HT6.out 4 _ rfl) 5 _ rfl) 6 _ rfl))
  have HZ7 := Lib.hid (show W7.heap[w.heap.size]? = some (.cells (tokCells 0 ⟨#[]⟩ 0 0) 31 (0, 0)) by
    have hl := HL3.out
    rw [← hW7]; exact blk_drew (blk_far (blk_far (blk_far HZ6.out (by simp; omega) _) (by simp; omega) _) (by simp; omega) _))
  have HB7 := Lib.hid (show Below w.heap.size w W7 by
    have hl := HL3.out
    rw [← hW7]; exact (((HS6.out.2.1.setCell (p := ⟨w2.heap.size, 4, none⟩) (by simp; omega) _).setCell (p := ⟨w2.heap.size, 5, none⟩) (by simp; omega) _).setCell (p := ⟨w2.heap.size, 6, none⟩) (by simp; omega) _).drew)
  clear hW7 t4 t5 t6 ft4 ft5 ft6 c60 c61 c63 c64 f61
  go_wp2_with (first
    | (refine wpList_load_row rfl 31 (.tmp 11) rfl w2.heap.size rfl 31 (tokCells 3 s 0 (s.size : Int)) (0, 0) _ ?lg Try.underlying31 rfl ?li ?_
       (case lg => exact HT7.out)
       (case li => rw [info31]; rfl))
    | (refine wpList_store_row rfl 31 (.tmp 8) (.tmp 63) rfl w.heap.size (tokCells 3 s 0 (s.size : Int)) ?s1 ?s2 31 (tokCells 0 ⟨#[]⟩ 0 0) ?sg ?si ?s3 ?s4 ?_
       (case s1 => rfl)
       (case s2 => rfl)
       (case sg => exact HZ7.out)
       (case si => rw [info31]; rfl)
       (case s3 => rfl)
       (case s4 => exact tokOne _ _ _ _)))
  refine bodyPost_ret (v := .agg (tokCells 3 s 0 (s.size : Int))) ?_ rfl ⟨rfl, ?_⟩
  · refine results_cell_row rfl _ _ w.heap.size 31 (tokCells 3 s 0 (s.size : Int)) (0, 0) _ rfl ?_ Try.underlying31 rfl ?_
    · exact setRow_heap _ _ _ _ _ _ HZ7.out
    · rw [info31]; rfl
  · exact below_setRow HB7.out (Nat.le_refl _) _

theorem spec_Next.calls (a0 : ByteArray) (a1 a2 : Int) (a3 : Bool) (r1 : Int) (r2 r3 : ByteArray) (r4 r5 r6 : Int) (r7 r8 r9 : Bool) (w : World) (h : spec_Next.f a0 a1 a2 a3 = some (r1, r2, r3, r4, r5, r6, r7, r8, r9)) :
    Calls Try.prog 11 #[.string a0, .int .i64 a1, .int .i64 a2, .bool a3] w fun e w' => e = .returned (.agg #[.int .i64 r1, .string r2, .string r3, .int .u64 r4, .int .i64 r5, .int .i64 r6, .bool r7, .bool r8, .bool r9]) ∧ Below w.heap.size w w' := by
  unfold spec_Next.f at h
  by_cases hc : a1 = 0 ∧ a2 = 0 ∧ a3 = false ∧ plainB a0 = true
  · rw [if_pos hc] at h
    obtain ⟨rfl, rfl, rfl, hP⟩ := hc
    simp only [Option.some.injEq, Prod.mk.injEq] at h
    obtain ⟨rfl, rfl, rfl, rfl, rfl, rfl, rfl, rfl, rfl⟩ := h
    exact next_calls a0 w ((plainB_iff a0).1 hP)
  · rw [if_neg hc] at h; cases h
end Go.Proofs.Ytbcljhedleemdaa
