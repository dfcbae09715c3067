/- The contract of (*scan).token on a text that is a plain name. -/
import Derived.Test.YtbcljhedleemdaaExtName
import Derived.Test.YtbcljhedleemdaaExtQuiet
import Derived.Laws.CopyOwn
namespace Go.Proofs.Ytbcljhedleemdaa
open Go.RowKit Go.Proofs.YtbcljhedleemdaaW.PrintWords Go.Proofs.YtbcljhedleemdaaW.PrintMore Go.Proofs.Ytbcljhedleemdaa.Ppass

def tokCells (k : Int) (s : ByteArray) (from_ to_ : Int) : Array Value := #[.int .i64 k, .string s, .string ⟨#[]⟩, .int .u64 0, .int .i64 from_, .int .i64 to_, .bool false, .bool false, .bool false]
theorem tokOne (k : Int) (s : ByteArray) (f t : Int) : (tokCells k s f t).all (·.oneCell') = true := by simp [tokCells, Value.oneCell']
theorem info31 : (Try.prog.info? 31).map (·.size) = some 9 := by kernel_rfl
theorem Sc.row {w0 w wr : World} {g : Nat} {s : ByteArray} {i : Int} (h : Sc w0 w wr g s i) (b : Nat) (hb : w.heap.size ≤ b) (hg : g < w.heap.size) (h0 : w0.heap.size ≤ w.heap.size) (cs : Array Value) : Sc w0 w (wr.setRow b cs) g s i := by
  refine ⟨⟨?_, h.1.2⟩, below_setRow h.2.1 (by omega) cs, ⟨?_, ?_⟩⟩
  · rw [setRow_other _ _ _ _ (by omega)]; exact h.1.1
  · have := h.2.2.1
    simpa [World.setRow] using this
  · intro j hj hne hr
    rw [setRow_other _ _ _ _ (by omega)]
    exact h.2.2.2 j hj hne hr

set_option maxHeartbeats 4000000 in
set_option maxRecDepth 100000 in
theorem token_calls (g : Nat) (s : ByteArray) (w0 w : World) (hI : IsS37 w0 w g s 0 false false 0) (hB : Below w0.heap.size w0 w) (hP : Plain s) :
    Calls Try.prog 16 #[.pointer (some ⟨g, 0, none⟩), .int .i64 0] w fun e w' => e = .returned (.agg (tokCells 3 s 0 0)) ∧ Sc w0 w w' g s (s.size : Int) := by
  have hS := Sc.refl hI hB
  have HG := Lib.hid (blk_lt hI.1)
  have H0 := Lib.hid hB.size
  obtain ⟨wa, hwa⟩ : ∃ wa, wa = w.alloc (.cells (tokCells 0 ⟨#[]⟩ 0 0) 31) := ⟨_, rfl⟩
  have HS := Lib.hid (show Sc w0 w wa g s 0 by rw [hwa]; exact Sc.below hS (below_alloc (Below.refl _ _) _))
  have HZ := Lib.hid (show wa.heap[w.heap.size]? = some (.cells (tokCells 0 ⟨#[]⟩ 0 0) 31 (0, 0)) by rw [hwa]; exact heap_alloc_new w _)
  have hst := startB_iff hP.2.2.1
  have h128 : bt s ((0 : Nat) : Int) < 128 := by show bt s 0 < 128; omega
  have h46 : bt s ((0 : Nat) : Int) ≠ 46 := by show bt s 0 ≠ 46; omega
  have H1 : Hid (spec_scan_rune.f (0 + 1) s 0 false false 0 = some (bt s 0, 1, s, 0, false, false, 0)) := Lib.hid (rune_at 0 s 0 false false 0 hP.1 h128)
  have H2 : Hid (spec_scan_is.f s 0 false false 0 ⟨#[46]⟩ = some (false, s, 0, false, false, 0)) := Lib.hid (is_not s 0 false false 0 46 [] hP.1 hP.2.1 (by decide) (by simpa using h46))
  have H3 : Hid (PDigit.spec_Digit.f (bt s 0) = some false) := Lib.hid (by rw [Digit_tells, decide_eq_false (by omega)])
  have hne : s.toList.isEmpty = false := by
    rw [ByteArray.toList_eq, List.isEmpty_eq_false_iff]
    intro e
    have h1 := congrArg List.length e
    rw [Array.length_toList] at h1
    have h2 : s.size = 0 := h1
    have := hP.1
    omega
  have HP := Lib.hid hP
  have b34 : (bt s 0 == 34) = false := by rw [beq_eq_false_iff_ne]; omega
  have b39 : (bt s 0 == 39) = false := by rw [beq_eq_false_iff_ne]; omega
  have b96 : (bt s 0 == 96) = false := by rw [beq_eq_false_iff_ne]; omega
  have b47 : (bt s 0 == 47) = false := by rw [beq_eq_false_iff_ne]; omega
  have b35 : (bt s 0 == 35) = false := by rw [beq_eq_false_iff_ne]; omega
  generalize bt s 0 = c at H1 H3 b34 b39 b96 b47 b35
  clear hS hI hB hP hst h128 h46
  go_enter Try.func16, Try.ntmps16
  go_wp2_with (first
    | (go_at_call 21; (refine (spec_scan_rune.calls (0 + 1) g s 0 false false 0 c 1 s 0 false false 0 w0 _ ?q1 ?q2 H1.out).mono ?_); (case q1 => exact (hwa ▸ HS.out : Sc w0 w (w.alloc (.cells (tokCells 0 ⟨#[]⟩ 0 0) 31)) g s 0).1); (case q2 => exact (hwa ▸ HS.out : Sc w0 w (w.alloc (.cells (tokCells 0 ⟨#[]⟩ 0 0) 31)) g s 0).2.1); rintro e w2 ⟨rfl, hi2, hb2, hk2⟩; have HS2 := Lib.hid (Sc.call (hwa ▸ HS.out : Sc w0 w (w.alloc (.cells (tokCells 0 ⟨#[]⟩ 0 0) 31)) g s 0) hi2 hb2 hk2); have HZ2 := Lib.hid (KeepBut.blk hk2 (hwa ▸ HZ.out : (w.alloc (.cells (tokCells 0 ⟨#[]⟩ 0 0) 31)).heap[w.heap.size]? = _) (Nat.ne_of_gt HG.out) (by simp)); obtain ⟨c20, c21, c24, f21⟩ := HS2.out.cells; clear hi2 hb2 hk2))
  clear hwa
  go_quiet (first | (go_at_call 19; (refine (is_quiet g s 0 false false 0 ⟨#[46]⟩ false s 0 false false 0 w0 _ ?q1 ?q2 H2.out).mono ?_); (case q1 => exact HS2.out.1); (case q2 => first | exact HS2.out.2.1 | exact (HS2.out.2.1).drew | exact pw_below_drewN HS2.out.2.1 _); rintro e w' ⟨rfl, ⟨nd, rfl⟩⟩; (try first | exact ⟨rfl, _, World.drewN_drewN _ _ _⟩ | exact ⟨rfl, _, Eq.trans (World.drewN_drewN _ _ _) (congrArg (World.drewN _) (Nat.add_assoc _ _ _))⟩)))
  all_goals
    go_wp2_with (first
      | (go_at_call 26; (refine (PDigit.spec_Digit.calls c false _ H3.out).mono ?_); rintro e w4 ⟨rfl, ⟨nd, rfl⟩⟩)
      | (go_at_call 32; (refine (name_calls g s w0 _ ?q1 ?q2 HP.out).mono ?_); (case q1 => exact HS2.out.1); (case q2 => first | exact HS2.out.2.1 | exact pw_below_drewN HS2.out.2.1 _); rintro e w5 ⟨rfl, hs5⟩; have HS5 := Lib.hid (Sc.trans (HS2.out.drewN _) hs5); have HZ5 := Lib.hid (KeepBut.blk hs5.2.2 HZ2.out (Nat.ne_of_gt HG.out) (by simp)); clear hs5)
      | (refine wpList_store_row rfl 31 (.tmp 4) (.tmp 157) rfl w.heap.size (tokCells 3 s 0 0) ?s1 ?s2 31 (tokCells 0 ⟨#[]⟩ 0 0) ?sg ?si ?s3 ?s4 ?_
         (case s1 => rfl)
         (case s2 => rfl)
         (case sg => exact HZ5.out)
         (case si => rw [info31]; rfl)
         (case s3 => rfl)
         (case s4 => exact tokOne _ _ _ _)))
    refine bodyPost_ret (v := .agg (tokCells 3 s 0 0)) ?_ rfl ⟨rfl, ?_⟩
    · refine results_cell_row rfl _ _ w.heap.size 31 (tokCells 3 s 0 0) (0, 0) _ rfl ?_ Try.underlying31 rfl ?_
      · exact setRow_heap _ _ _ _ _ _ HZ5.out
      · rw [info31]; rfl
    · exact Sc.row HS5.out _ (Nat.le_refl _) HG.out H0.out _
end Go.Proofs.Ytbcljhedleemdaa
