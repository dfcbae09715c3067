/- computeLineAndColumn, walked: the line, the column, and where the line begins and ends. -/
import Derived.Test.YtckgmnpcnoanhaaDoorExtScanFwd
import Derived.Test.YtckgmnpcnoanhaaDoorExtScanBack
set_option linter.unusedVariables false
set_option linter.unusedSimpArgs false
namespace Go.Proofs.YtckgmnpcnoanhaaDoor
open Go Go.RowKit Go.Proofs.YtckgmnpcnoanhaaDoorW.PrintWords Go.Proofs.YtckgmnpcnoanhaaDoorW.PrintLast Go.Proofs.YtckgmnpcnoanhaaDoorW.PrintMore Go.Proofs.YtckgmnpcnoanhaaDoor.PFnLocated
set_option maxRecDepth 100000 in
theorem Scan.calls (nt : Nat) (s : ByteArray) (i j : Nat) (w : World) (hW : Wf s) (hj : Sp s j) (hz : s.size ≤ 4096) (h : SS w w nt s i i) (hnt : 2 ≤ nt) :
    Calls Tryd.prog 17 #[.pointer (some ⟨nt, 0, none⟩), .int .i32 (j : Int)] w fun e w' => e = .returned (.tuple #[]) ∧ SS w w' nt s j j := by
  rcases Nat.lt_trichotomy i j with h1 | h1 | h1
  · exact Scan.fwd nt s i j w hW hj hz h hnt (by omega)
  · subst h1
    have HS := Lib.hid h
    obtain ⟨l0, ls0, le0, hs0, he0, hG0, hT0, hU0, hN0⟩ := h.out
    have y0 := (blk_cell hT0 0).trans rfl
    have y3 := (blk_cell hT0 3).trans rfl
    have d1 : decide ((i : Int) < (i : Int)) = false := decide_eq_false (by omega)
    clear h hG0 hT0 hU0 hN0
    go_enter Tryd.func17, Tryd.ntmps17
    go_wp2
    exact bodyPost_end (results_none rfl _ _ _) rfl ⟨rfl, HS.out⟩
  · exact Scan.back nt s i j w hW hj hz h hnt (by omega)
/-- Where the line of a place begins, as long as no line ended since. -/
theorem Tr.begin_end {s : ByteArray} {m q l ls w : Nat} {c : Int} (h : Tr s m l ls) (hr : Rn s q c w) (hm : m = q + w) (hc : isEnd c = true) : ls = m := by
  have hf := hr.facts.2.2.1
  obtain ⟨i, l', ls', w', c', t, hr', e, e1, e2⟩ := h.back (by omega)
  obtain ⟨rfl, rfl, rfl⟩ := hr.same hr' (by omega)
  rw [e2, if_pos hc, e]
theorem Tr.begin_on {s : ByteArray} {m l ls : Nat} (h : Tr s m l ls) (hm : 0 < m) : ∃ q w c, Rn s q c w ∧ m = q + w ∧ (isEnd c = false → ∃ l', Tr s q l' ls) := by
  obtain ⟨i, l', ls', w', c', t, hr', e, e1, e2⟩ := h.back hm
  refine ⟨i, w', c', hr', e, fun hc => ⟨l', ?_⟩⟩
  rw [hc] at e2
  have : ls = ls' := by simpa using e2
  rw [this]; exact t
theorem wr64 (x : Nat) (h : x ≤ 8192) : IntKind.i64.wrap (x : Int) = (x : Int) := by rw [IntKind.wrap_i64]; omega
theorem ws64 (x y : Nat) (h : x ≤ 8192) (h2 : y ≤ x) : wrap64 ((x : Int) - (y : Int)) = (x : Int) - (y : Int) := w64 (by omega) (by omega)
theorem results_tmp4 {fn : Func} {t u v x : Tmp} (h : fn.results = #[.tmp t, .tmp u, .tmp v, .tmp x]) (tmps : Array Value) (P : Program) (w : World) :
    (results fn tmps).run P w = .ok (.tuple #[tmps.getD t undef, tmps.getD u undef, tmps.getD v undef, tmps.getD x undef]) w := by
  simp [results, h]
theorem SS.drewN {w0 w : World} {nt : Nat} {s : ByteArray} {o q : Nat} (h : SS w0 w nt s o q) (n : Nat) : SS w0 (w.drewN n) nt s o q := by
  obtain ⟨l, ls, le, hs, he, hG, hT, hU, hK⟩ := h
  exact ⟨l, ls, le, hs, he, hG, hT, hU, ⟨hK.os, hK.tape, hK.output, hK.size, hK.block⟩⟩
theorem SS.of {w0 w : World} {nt : Nat} {s : ByteArray} {j l ls le : Nat} {hs he : Bool} (hTr : Tr s j l ls) (hT : Trk w nt s j l ls le hs he) (hl : le ≤ s.size) (hE : he = true → EndAt s j le) (hU : GTab w) (hK : w0.grownBy w (some nt)) : SS w0 w nt s j j :=
  ⟨l, ls, le, hs, he, ⟨by have := hTr.bounds; omega, hl, ls, hTr, fun _ => rfl, hE⟩, hT, hU, hK⟩
theorem Trk.seen {w : World} {nt : Nat} {s : ByteArray} {j l ls le : Nat} {hs he : Bool} (hT : Trk w nt s j l ls le hs he) {v : Int} {e : Nat} (hv : v = (e : Int)) : Trk ((w.setCell ⟨nt, 8, none⟩ (.bool true)).setCell ⟨nt, 6, none⟩ (.int .i32 v)) nt s j l ls e hs true := by
  subst hv
  exact blk_put (blk_put hT 8 (.bool true) rfl) 6 (.int .i32 (e : Int)) rfl
theorem Trk.began {w : World} {nt : Nat} {s : ByteArray} {j l ls le : Nat} {hs he : Bool} (hT : Trk w nt s j l ls le hs he) {v : Int} {e : Nat} (hv : v = (e : Int)) : Trk ((w.setCell ⟨nt, 7, none⟩ (.bool true)).setCell ⟨nt, 5, none⟩ (.int .i32 v)) nt s j l e le true he := by
  subst hv
  exact blk_put (blk_put hT 7 (.bool true) rfl) 5 (.int .i32 (e : Int)) rfl
theorem Wf.cont {s : ByteArray} (hW : Wf s) {q : Nat} (h : ∃ a b, Tr s q a b) (hq : q < s.size) : ∃ c n, Rn s q c n ∧ (∃ a b, Tr s (q + n) a b) ∧ 0 < n ∧ q + n ≤ s.size := by
  obtain ⟨a, b, h⟩ := h
  obtain ⟨c, n, hr⟩ := hW q a b h hq
  exact ⟨c, n, hr, ⟨_, _, .next q a b n c h hr⟩, hr.facts.2.2.1, hr.facts.2.2.2.2.1⟩
theorem meas_eW {q n z : Nat} {x : Int} (e : x = ((q + n : Nat) : Int)) (h : q < z) (h2 : 0 < n) : z - x.toNat < z - (q : Int).toNat := by omega
theorem meas_eN {q n z : Nat} (h : q < z) (h2 : 0 < n) : z - ((q + n : Nat) : Int).toNat < z - (q : Int).toNat := by omega
theorem meas_e (q n z : Nat) (h : q < z) (h2 : 0 < n) : z - ((q : Int) + (n : Int)).toNat < z - (q : Int).toNat := by omega
theorem Tr.at_zero {s : ByteArray} {l ls : Nat} (h : Tr s 0 l ls) : ls = 0 := (h.inj .zero).2
set_option maxHeartbeats 8000000 in
set_option maxRecDepth 100000 in
/-- The first half: the line's beginning. -/
theorem Comp.calls (nt : Nat) (s : ByteArray) (i j : Nat) (w : World) (hW : Wf s) (hj : Sp s j) (hz : s.size ≤ 4096) (h : SS w w nt s i i) (hnt : 2 ≤ nt) :
    Calls Tryd.prog 16 #[.pointer (some ⟨nt, 0, none⟩), .int .i64 (j : Int)] w fun e w' => ∃ l ls le : Nat, (Tr s j l ls ∧ EndAt s j le ∧ SS w w' nt s j j) ∧ e = .returned (.tuple #[.int .i64 (l : Int), .int .i64 ((j : Int) - (ls : Int)), .int .i64 (ls : Int), .int .i64 (le : Int)]) := by
  have HS := Lib.hid (Scan.calls nt s i j w hW hj hz h hnt)
  have HZ := Lib.hid hz
  have HW := Lib.hid hW
  have HN := Lib.hid hnt
  have hj1 : j ≤ s.size := hj.1
  have hj8 : j ≤ 8192 := by omega
  have hjw : wrap32 (j : Int) = (j : Int) := s32 j hj8
  clear hW hj hz hnt h
  go_enter Tryd.func16, Tryd.ntmps16
  go_upto_region 2 with (first | (go_at_call 17; (with_reducible refine HS.out.mono ?_); rintro e w1 ⟨rfl, hb⟩; have HX := Lib.hid hb; clear hb))
  obtain ⟨l, ls, le, hs, he, hG, hT, hU, hK⟩ := HX.out.out
  obtain ⟨hls, hle, ls0, hTr, hh1, hh2⟩ := hG
  have HTr := Lib.hid hTr
  have Hb := Lib.hid hTr.bounds
  obtain ⟨le0, hE⟩ := HW.out.end_of _ j l ls0 rfl hTr
  have HE := Lib.hid hE
  have x0 := (blk_cell hT 0).trans rfl
  have x3 := (blk_cell hT 3).trans rfl
  have x4 := (blk_cell hT 4).trans rfl
  have x5 := (blk_cell hT 5).trans rfl
  have x6 := (blk_cell hT 6).trans rfl
  have x7 := (blk_cell hT 7).trans rfl
  have x8 := (blk_cell hT 8).trans rfl
  have HT := Lib.hid hT
  have HU := Lib.hid hU
  have HK := Lib.hid hK
  have Hls := Lib.hid hls
  have Hle := Lib.hid hle
  have Hh1 := Lib.hid hh1
  have Hh2 := Lib.hid hh2
  have hl8 : l ≤ 8192 := Nat.le_trans Hb.out.1 hj8
  have hlw : wrap32 (l : Int) = (l : Int) := s32 l hl8
  clear hls hle hTr hh1 hh2 hE hT hU hK
  cases hs with
  | true =>
    obtain rfl : ls = ls0 := Hh1.out rfl
    cases he with
    | true =>
      obtain rfl : le = le0 := (Hh2.out rfl).inj HE.out
      go_wp2
      have e1 : IntKind.i64.wrap (l : Int) = (l : Int) := wr64 l hl8
      have e2 : IntKind.i64.wrap (ls : Int) = (ls : Int) := wr64 ls (Nat.le_trans Hls.out (Nat.le_trans HZ.out (by decide)))
      have e3 : IntKind.i64.wrap (le : Int) = (le : Int) := wr64 le (Nat.le_trans Hle.out (Nat.le_trans HZ.out (by decide)))
      have e4 : wrap64 ((j : Int) - (ls : Int)) = (j : Int) - (ls : Int) := ws64 j ls hj8 Hb.out.2.1
      go_quiet (fail)
      go_wp2
      (try simp only [Exit.inBlock, Exit.then])
      refine bodyPost_ret (results_tmp4 rfl _ _ _) rfl ⟨l, ls, le, ⟨HTr.out, HE.out, (HX.out).drewN _⟩, ?_⟩
      show Ending.returned (.tuple #[.int .i64 (l : Int), .int .i64 (wrap64 ((j : Int) - (ls : Int))), .int .i64 (ls : Int), .int .i64 (le : Int)]) = _
      rw [e4]
    | false =>
      have h14 : wrap32 (s.size : Int) = (s.size : Int) := s32 s.size (Nat.le_trans HZ.out (by decide))
      go_wp2
      (try rw [h14])
      go_loopw [13] (fun v13 wr => ∃ (q : Nat), v13 = .int .i32 (q : Int) ∧ q ≤ s.size ∧ Hid (∃ a b, Tr s q a b) ∧ Hid (EndAt s q le0) ∧ Hid (Below w1.heap.size w1 wr)) (fun v13 _ => s.size - (intOf v13).toNat)
      case atStart => exact ⟨j, rfl, hj1, Lib.hid ⟨_, _, HTr.out⟩, HE, Lib.hid (Below.refl _ _)⟩
      obtain ⟨q, rfl, hq, HTq, HEq, HBq⟩ := hrel
      clear x0 x3 x4 x5 x6 x7 x8
      by_cases hlt : q < s.size
      · have dlt : decide ((q : Int) < (s.size : Int)) = true := decide_eq_true (Int.ofNat_lt.2 hlt)
        have dlt2 : decide (q < s.size) = true := decide_eq_true hlt
        obtain ⟨c, n, hR, hTn, hn0, hqn⟩ := HW.out.cont HTq.out hlt
        have HR := Lib.hid hR
        have HTn := Lib.hid hTn
        have Hn0 := Lib.hid hn0
        have p1 : (0 : Int) ≤ (q : Int) := Int.natCast_nonneg q
        have q1 : (q : Int) ≤ (s.size : Int) := Int.ofNat_le.2 hq
        have Hlt := Lib.hid hlt
        have Hqn := Lib.hid hqn
        have hqn8 : q + n ≤ 8192 := Nat.le_trans hqn (Nat.le_trans HZ.out (by decide))
        have en : wrap32 (n : Int) = (n : Int) := s32 n (Nat.le_trans (Nat.le_add_left n q) hqn8)
        have eq : wrap32 ((q : Int) + (n : Int)) = ((q + n : Nat) : Int) := s32a q n hqn8
        clear hR hTn hn0 hq hqn hqn8 HTq
        by_cases hc : isEnd c = true
        · have hcc := (isEnd_iff c).1 hc
          obtain rfl : q = le0 := (EndAt.stop q n c HR.out hc).inj HEq.out
          clear hc
          rcases hcc with rfl | rfl | rfl | rfl
          all_goals (
            go_wp2_with (first | (go_at_call 19; (with_reducible refine (first_calls HR.out wr (HU.out.below HBq.out)).mono ?_); rintro e w3 ⟨rfl, hb⟩; have HB2 := Lib.hid hb; have hX := blk_below (blk_below HT.out HBq.out) hb; have z3 := (blk_cell hX 3).trans rfl; have g3 := blk_frozen hX 3; have z4 := (blk_cell hX 4).trans rfl; have g4 := blk_frozen hX 4; have z5 := (blk_cell hX 5).trans rfl; have g5 := blk_frozen hX 5; have z6 := (blk_cell hX 6).trans rfl; have g6 := blk_frozen hX 6; have z7 := (blk_cell hX 7).trans rfl; have g7 := blk_frozen hX 7; have z8 := (blk_cell hX 8).trans rfl; have g8 := blk_frozen hX 8; clear hb hX))
            generalize hG4 : World.setCell (World.setCell w3 _ _) _ _ = w4
            have hT4 : Trk w4 nt s j l ls q true true := by rw [← hG4]; exact Trk.seen (blk_below (blk_below HT.out HBq.out) HB2.out) rfl
            have HU4 := Lib.hid (show GTab w4 from by rw [← hG4]; exact (((HU.out.below HBq.out).below HB2.out).put _ _ HN.out).put _ _ HN.out)
            have HK4 := Lib.hid (show w.grownBy w4 (some nt) from by rw [← hG4]; exact put_grown (put_grown (grown_below (grown_below HK.out HBq.out) HB2.out) 8 _) 6 _)
            have HT4 := Lib.hid hT4
            clear z3 z4 z5 z6 z7 z8 g3 g4 g5 g6 g7 g8 hG4
            have y3 := (blk_cell hT4 3).trans rfl
            have y4 := (blk_cell hT4 4).trans rfl
            have y5 := (blk_cell hT4 5).trans rfl
            have y6 := (blk_cell hT4 6).trans rfl
            clear hT4
            have e1 : IntKind.i64.wrap (l : Int) = (l : Int) := wr64 l hl8
            have e2 : IntKind.i64.wrap (ls : Int) = (ls : Int) := wr64 ls (Nat.le_trans Hls.out (Nat.le_trans HZ.out (by decide)))
            have e3 : IntKind.i64.wrap (q : Int) = (q : Int) := wr64 q (Nat.le_trans HE.out.bounds.2 (Nat.le_trans HZ.out (by decide)))
            have e4 : wrap64 ((j : Int) - (ls : Int)) = (j : Int) - (ls : Int) := ws64 j ls hj8 Hb.out.2.1
            go_quiet (fail)
            go_wp2
            (try simp only [Exit.inBlock, Exit.then])
            refine bodyPost_ret (results_tmp4 rfl _ _ _) rfl ⟨l, ls, q, ⟨HTr.out, HE.out, (SS.of HTr.out HT4.out HE.out.bounds.2 (fun _ => HE.out) HU4.out HK4.out).drewN _⟩, ?_⟩
            show Ending.returned (.tuple #[.int .i64 (l : Int), .int .i64 (wrap64 ((j : Int) - (ls : Int))), .int .i64 (ls : Int), .int .i64 (q : Int)]) = _
            rw [e4])
        · have hc2 : isEnd c = false := by simpa using hc
          have hn := (isEnd_not c).1 hc2
          have k1 : (c == 10) = false := beq_eq_false_iff_ne.mpr (fun h => hn (Or.inl h))
          have k2 : (c == 13) = false := beq_eq_false_iff_ne.mpr (fun h => hn (Or.inr (Or.inl h)))
          have k3 : (c == 8232) = false := beq_eq_false_iff_ne.mpr (fun h => hn (Or.inr (Or.inr (Or.inl h))))
          have k4 : (c == 8233) = false := beq_eq_false_iff_ne.mpr (fun h => hn (Or.inr (Or.inr (Or.inr h))))
          clear hc hn
          go_wp2_with (first | (go_at_call 19; (with_reducible refine (first_calls HR.out wr (HU.out.below HBq.out)).mono ?_); rintro e w3 ⟨rfl, hb⟩; have HB2 := Lib.hid hb; have hX := blk_below (blk_below HT.out HBq.out) hb; have z3 := (blk_cell hX 3).trans rfl; have g3 := blk_frozen hX 3; have z4 := (blk_cell hX 4).trans rfl; have g4 := blk_frozen hX 4; have z5 := (blk_cell hX 5).trans rfl; have g5 := blk_frozen hX 5; have z6 := (blk_cell hX 6).trans rfl; have g6 := blk_frozen hX 6; have z7 := (blk_cell hX 7).trans rfl; have g7 := blk_frozen hX 7; have z8 := (blk_cell hX 8).trans rfl; have g8 := blk_frozen hX 8; clear hb hX))
          rw [eq]
          go_roundw
          case rel => exact ⟨q + n, rfl, Hqn.out, HTn, Lib.hid (HEq.out.fwd HR.out hc2), Lib.hid (HBq.out.trans (HB2.out.mono HBq.out.size))⟩
          case measure => exact meas_eN Hlt.out Hn0.out
      · have dlt : decide ((q : Int) < (s.size : Int)) = false := decide_eq_false (fun h => hlt (Int.ofNat_lt.1 h))
        obtain rfl : q = s.size := Nat.le_antisymm hq (Nat.le_of_not_lt hlt)
        have dlt2 : decide (s.size < s.size) = false := decide_eq_false hlt
        obtain rfl : s.size = le0 := EndAt.last.inj HEq.out
        have hX := blk_below HT.out HBq.out
        have z3 := (blk_cell hX 3).trans rfl
        have g3 := blk_frozen hX 3
        have z4 := (blk_cell hX 4).trans rfl
        have g4 := blk_frozen hX 4
        have z5 := (blk_cell hX 5).trans rfl
        have g5 := blk_frozen hX 5
        have z6 := (blk_cell hX 6).trans rfl
        have g6 := blk_frozen hX 6
        have z7 := (blk_cell hX 7).trans rfl
        have g7 := blk_frozen hX 7
        have z8 := (blk_cell hX 8).trans rfl
        have g8 := blk_frozen hX 8
        clear hX hlt hq
        go_wp2
        generalize hG4 : World.setCell (World.setCell wr _ _) _ _ = w4
        have hT4 : Trk w4 nt s j l ls s.size true true := by rw [← hG4]; exact Trk.seen (blk_below HT.out HBq.out) rfl
        have HU4 := Lib.hid (show GTab w4 from by rw [← hG4]; exact ((HU.out.below HBq.out).put _ _ HN.out).put _ _ HN.out)
        have HK4 := Lib.hid (show w.grownBy w4 (some nt) from by rw [← hG4]; exact put_grown (put_grown (grown_below HK.out HBq.out) 8 _) 6 _)
        have HT4 := Lib.hid hT4
        clear z3 z4 z5 z6 z7 z8 g3 g4 g5 g6 g7 g8 hG4
        have y3 := (blk_cell hT4 3).trans rfl
        have y4 := (blk_cell hT4 4).trans rfl
        have y5 := (blk_cell hT4 5).trans rfl
        have y6 := (blk_cell hT4 6).trans rfl
        clear hT4
        have e1 : IntKind.i64.wrap (l : Int) = (l : Int) := wr64 l hl8
        have e2 : IntKind.i64.wrap (ls : Int) = (ls : Int) := wr64 ls (Nat.le_trans Hls.out (Nat.le_trans HZ.out (by decide)))
        have e3 : IntKind.i64.wrap (s.size : Int) = (s.size : Int) := wr64 s.size (Nat.le_trans (Nat.le_refl _) (Nat.le_trans HZ.out (by decide)))
        have e4 : wrap64 ((j : Int) - (ls : Int)) = (j : Int) - (ls : Int) := ws64 j ls hj8 Hb.out.2.1
        go_quiet (fail)
        go_wp2
        (try simp only [Exit.inBlock, Exit.then])
        refine bodyPost_ret (results_tmp4 rfl _ _ _) rfl ⟨l, ls, s.size, ⟨HTr.out, HE.out, (SS.of HTr.out HT4.out (Nat.le_refl _) (fun _ => HE.out) HU4.out HK4.out).drewN _⟩, ?_⟩
        show Ending.returned (.tuple #[.int .i64 (l : Int), .int .i64 (wrap64 ((j : Int) - (ls : Int))), .int .i64 (ls : Int), .int .i64 (s.size : Int)]) = _
        rw [e4]
  | false =>
    go_wp2
    go_loopw [9] (fun v9 wr => ∃ (m : Nat), v9 = .int .i32 (m : Int) ∧ m ≤ j ∧ Hid (∃ a, Tr s m a ls0) ∧ Hid (Below w1.heap.size w1 wr)) (fun v9 _ => (intOf v9).toNat)
    case atStart => exact ⟨j, rfl, Nat.le_refl _, Lib.hid ⟨_, HTr.out⟩, Lib.hid (Below.refl _ _)⟩
    obtain ⟨m, rfl, hmj, HTm, HBm⟩ := hrel
    clear x0 x3 x4 x5 x6 x7 x8
    by_cases hlt : 0 < m
    · have dlt : decide ((0 : Int) < (m : Int)) = true := decide_eq_true (Int.ofNat_lt.2 hlt)
      have dlt2 : decide (0 < m) = true := decide_eq_true hlt
      obtain ⟨a, hTa⟩ := HTm.out
      obtain ⟨q, n, c, hR, hm, hgo⟩ := hTa.begin_on hlt
      have HTa := Lib.hid hTa
      have HR := Lib.hid hR
      have HM := Lib.hid hm
      have Hgo := Lib.hid hgo
      have Hn0 := Lib.hid hR.facts.2.2.1
      have p1 : (0 : Int) ≤ (m : Int) := Int.natCast_nonneg m
      have q1 : (m : Int) ≤ (s.size : Int) := Int.ofNat_le.2 (Nat.le_trans hmj hj1)
      have hq8 : q ≤ 8191 := Nat.le_trans (Nat.le_add_right q n) (hm ▸ Nat.le_trans hmj (Nat.le_trans hj1 (Nat.le_trans HZ.out (by decide))))
      have en : wrap32 (n : Int) = (n : Int) := s32 n (Nat.le_trans (Nat.le_add_left n q) (hm ▸ Nat.le_trans hmj hj8))
      have eq : wrap32 ((m : Int) - (n : Int)) = (q : Int) := by rw [hm]; exact s32e q n hq8
      have Hqj := Lib.hid (show q ≤ j from Nat.le_trans (Nat.le_add_right q n) (hm ▸ hmj))
      clear hTa hR hm hgo hlt hmj hq8
      by_cases hc : isEnd c = true
      · have hcc := (isEnd_iff c).1 hc
        obtain rfl : ls0 = m := HTa.out.begin_end HR.out HM.out hc
        clear hc
        rcases hcc with rfl | rfl | rfl | rfl
        all_goals (
          go_upto_region 11 with (first | (go_at_call 18; (with_reducible refine (last_callsM HM.out HR.out HZ.out wr (HU.out.below HBm.out)).mono ?_); rintro e w3 ⟨rfl, hb⟩; have HB1 := Lib.hid hb; have hX := blk_below (blk_below HT.out HBm.out) hb; have z3 := (blk_cell hX 3).trans rfl; have g3 := blk_frozen hX 3; have z4 := (blk_cell hX 4).trans rfl; have g4 := blk_frozen hX 4; have z5 := (blk_cell hX 5).trans rfl; have g5 := blk_frozen hX 5; have z6 := (blk_cell hX 6).trans rfl; have g6 := blk_frozen hX 6; have z7 := (blk_cell hX 7).trans rfl; have g7 := blk_frozen hX 7; have z8 := (blk_cell hX 8).trans rfl; have g8 := blk_frozen hX 8; clear hb hX))
          generalize hG2 : World.setCell (World.setCell w3 _ _) _ _ = w2
          have hT2 : Trk w2 nt s j l ls0 le true he := by rw [← hG2]; exact Trk.began (blk_below (blk_below HT.out HBm.out) HB1.out) rfl
          have HU := Lib.hid (show GTab w2 from by rw [← hG2]; exact (((HU.out.below HBm.out).below HB1.out).put _ _ HN.out).put _ _ HN.out)
          have HK := Lib.hid (show w.grownBy w2 (some nt) from by rw [← hG2]; exact put_grown (put_grown (grown_below (grown_below HK.out HBm.out) HB1.out) 7 _) 5 _)
          have HT := Lib.hid hT2
          clear z3 z4 z5 z6 z7 z8 g3 g4 g5 g6 g7 g8 hG2
          have x0 := (blk_cell hT2 0).trans rfl
          have x3 := (blk_cell hT2 3).trans rfl
          have x4 := (blk_cell hT2 4).trans rfl
          have x5 := (blk_cell hT2 5).trans rfl
          have x6 := (blk_cell hT2 6).trans rfl
          have x7 := (blk_cell hT2 7).trans rfl
          have x8 := (blk_cell hT2 8).trans rfl
          clear hT2
          cases he with
          | true =>
            obtain rfl : le = le0 := (Hh2.out rfl).inj HE.out
            go_wp2
            have e1 : IntKind.i64.wrap (l : Int) = (l : Int) := wr64 l hl8
            have e2 : IntKind.i64.wrap (ls0 : Int) = (ls0 : Int) := wr64 ls0 (Nat.le_trans (Nat.le_trans Hb.out.2.1 Hb.out.2.2) (Nat.le_trans HZ.out (by decide)))
            have e3 : IntKind.i64.wrap (le : Int) = (le : Int) := wr64 le (Nat.le_trans HE.out.bounds.2 (Nat.le_trans HZ.out (by decide)))
            have e4 : wrap64 ((j : Int) - (ls0 : Int)) = (j : Int) - (ls0 : Int) := ws64 j ls0 hj8 Hb.out.2.1
            go_quiet (fail)
            go_wp2
            (try simp only [Exit.inBlock, Exit.then])
            refine bodyPost_ret (results_tmp4 rfl _ _ _) rfl ⟨l, ls0, le, ⟨HTr.out, HE.out, (SS.of HTr.out HT.out HE.out.bounds.2 (fun _ => HE.out) HU.out HK.out).drewN _⟩, ?_⟩
            show Ending.returned (.tuple #[.int .i64 (l : Int), .int .i64 (wrap64 ((j : Int) - (ls0 : Int))), .int .i64 (ls0 : Int), .int .i64 (le : Int)]) = _
            rw [e4]
          | false =>
            go_wp2
            have h14 : wrap32 (s.size : Int) = (s.size : Int) := s32 s.size (Nat.le_trans HZ.out (by decide))
            go_wp2
            (try rw [h14])
            go_loopw [13] (fun v13 wr => ∃ (q : Nat), v13 = .int .i32 (q : Int) ∧ q ≤ s.size ∧ Hid (∃ a b, Tr s q a b) ∧ Hid (EndAt s q le0) ∧ Hid (Below w2.heap.size w2 wr)) (fun v13 _ => s.size - (intOf v13).toNat)
            case atStart => exact ⟨j, rfl, hj1, Lib.hid ⟨_, _, HTr.out⟩, HE, Lib.hid (Below.refl _ _)⟩
            obtain ⟨q, rfl, hq, HTq, HEq, HBq⟩ := hrel
            clear x0 x3 x4 x5 x6 x7 x8
            by_cases hlt : q < s.size
            · have dlt : decide ((q : Int) < (s.size : Int)) = true := decide_eq_true (Int.ofNat_lt.2 hlt)
              have dlt2 : decide (q < s.size) = true := decide_eq_true hlt
              obtain ⟨c, n, hR, hTn, hn0, hqn⟩ := HW.out.cont HTq.out hlt
              have HR := Lib.hid hR
              have HTn := Lib.hid hTn
              have Hn0 := Lib.hid hn0
              have p1 : (0 : Int) ≤ (q : Int) := Int.natCast_nonneg q
              have q1 : (q : Int) ≤ (s.size : Int) := Int.ofNat_le.2 hq
              have Hlt := Lib.hid hlt
              have Hqn := Lib.hid hqn
              have hqn8 : q + n ≤ 8192 := Nat.le_trans hqn (Nat.le_trans HZ.out (by decide))
              have en : wrap32 (n : Int) = (n : Int) := s32 n (Nat.le_trans (Nat.le_add_left n q) hqn8)
              have eq : wrap32 ((q : Int) + (n : Int)) = ((q + n : Nat) : Int) := s32a q n hqn8
              clear hR hTn hn0 hq hqn hqn8 HTq
              by_cases hc : isEnd c = true
              · have hcc := (isEnd_iff c).1 hc
                obtain rfl : q = le0 := (EndAt.stop q n c HR.out hc).inj HEq.out
                clear hc
                rcases hcc with rfl | rfl | rfl | rfl
                all_goals (
                  go_wp2_with (first | (go_at_call 19; (with_reducible refine (first_calls HR.out wr (HU.out.below HBq.out)).mono ?_); rintro e w3 ⟨rfl, hb⟩; have HB2 := Lib.hid hb; have hX := blk_below (blk_below HT.out HBq.out) hb; have z3 := (blk_cell hX 3).trans rfl; have g3 := blk_frozen hX 3; have z4 := (blk_cell hX 4).trans rfl; have g4 := blk_frozen hX 4; have z5 := (blk_cell hX 5).trans rfl; have g5 := blk_frozen hX 5; have z6 := (blk_cell hX 6).trans rfl; have g6 := blk_frozen hX 6; have z7 := (blk_cell hX 7).trans rfl; have g7 := blk_frozen hX 7; have z8 := (blk_cell hX 8).trans rfl; have g8 := blk_frozen hX 8; clear hb hX))
                  generalize hG4 : World.setCell (World.setCell w3 _ _) _ _ = w4
                  have hT4 : Trk w4 nt s j l ls0 q true true := by rw [← hG4]; exact Trk.seen (blk_below (blk_below HT.out HBq.out) HB2.out) rfl
                  have HU4 := Lib.hid (show GTab w4 from by rw [← hG4]; exact (((HU.out.below HBq.out).below HB2.out).put _ _ HN.out).put _ _ HN.out)
                  have HK4 := Lib.hid (show w.grownBy w4 (some nt) from by rw [← hG4]; exact put_grown (put_grown (grown_below (grown_below HK.out HBq.out) HB2.out) 8 _) 6 _)
                  have HT4 := Lib.hid hT4
                  clear z3 z4 z5 z6 z7 z8 g3 g4 g5 g6 g7 g8 hG4
                  have y3 := (blk_cell hT4 3).trans rfl
                  have y4 := (blk_cell hT4 4).trans rfl
                  have y5 := (blk_cell hT4 5).trans rfl
                  have y6 := (blk_cell hT4 6).trans rfl
                  clear hT4
                  have e1 : IntKind.i64.wrap (l : Int) = (l : Int) := wr64 l hl8
                  have e2 : IntKind.i64.wrap (ls0 : Int) = (ls0 : Int) := wr64 ls0 (Nat.le_trans (Nat.le_trans Hb.out.2.1 Hb.out.2.2) (Nat.le_trans HZ.out (by decide)))
                  have e3 : IntKind.i64.wrap (q : Int) = (q : Int) := wr64 q (Nat.le_trans HE.out.bounds.2 (Nat.le_trans HZ.out (by decide)))
                  have e4 : wrap64 ((j : Int) - (ls0 : Int)) = (j : Int) - (ls0 : Int) := ws64 j ls0 hj8 Hb.out.2.1
                  go_quiet (fail)
                  go_wp2
                  (try simp only [Exit.inBlock, Exit.then])
                  refine bodyPost_ret (results_tmp4 rfl _ _ _) rfl ⟨l, ls0, q, ⟨HTr.out, HE.out, (SS.of HTr.out HT4.out HE.out.bounds.2 (fun _ => HE.out) HU4.out HK4.out).drewN _⟩, ?_⟩
                  show Ending.returned (.tuple #[.int .i64 (l : Int), .int .i64 (wrap64 ((j : Int) - (ls0 : Int))), .int .i64 (ls0 : Int), .int .i64 (q : Int)]) = _
                  rw [e4])
              · have hc2 : isEnd c = false := by simpa using hc
                have hn := (isEnd_not c).1 hc2
                have k1 : (c == 10) = false := beq_eq_false_iff_ne.mpr (fun h => hn (Or.inl h))
                have k2 : (c == 13) = false := beq_eq_false_iff_ne.mpr (fun h => hn (Or.inr (Or.inl h)))
                have k3 : (c == 8232) = false := beq_eq_false_iff_ne.mpr (fun h => hn (Or.inr (Or.inr (Or.inl h))))
                have k4 : (c == 8233) = false := beq_eq_false_iff_ne.mpr (fun h => hn (Or.inr (Or.inr (Or.inr h))))
                clear hc hn
                go_wp2_with (first | (go_at_call 19; (with_reducible refine (first_calls HR.out wr (HU.out.below HBq.out)).mono ?_); rintro e w3 ⟨rfl, hb⟩; have HB2 := Lib.hid hb; have hX := blk_below (blk_below HT.out HBq.out) hb; have z3 := (blk_cell hX 3).trans rfl; have g3 := blk_frozen hX 3; have z4 := (blk_cell hX 4).trans rfl; have g4 := blk_frozen hX 4; have z5 := (blk_cell hX 5).trans rfl; have g5 := blk_frozen hX 5; have z6 := (blk_cell hX 6).trans rfl; have g6 := blk_frozen hX 6; have z7 := (blk_cell hX 7).trans rfl; have g7 := blk_frozen hX 7; have z8 := (blk_cell hX 8).trans rfl; have g8 := blk_frozen hX 8; clear hb hX))
                rw [eq]
                go_roundw
                case rel => exact ⟨q + n, rfl, Hqn.out, HTn, Lib.hid (HEq.out.fwd HR.out hc2), Lib.hid (HBq.out.trans (HB2.out.mono HBq.out.size))⟩
                case measure => exact meas_eN Hlt.out Hn0.out
            · have dlt : decide ((q : Int) < (s.size : Int)) = false := decide_eq_false (fun h => hlt (Int.ofNat_lt.1 h))
              obtain rfl : q = s.size := Nat.le_antisymm hq (Nat.le_of_not_lt hlt)
              have dlt2 : decide (s.size < s.size) = false := decide_eq_false hlt
              obtain rfl : s.size = le0 := EndAt.last.inj HEq.out
              have hX := blk_below HT.out HBq.out
              have z3 := (blk_cell hX 3).trans rfl
              have g3 := blk_frozen hX 3
              have z4 := (blk_cell hX 4).trans rfl
              have g4 := blk_frozen hX 4
              have z5 := (blk_cell hX 5).trans rfl
              have g5 := blk_frozen hX 5
              have z6 := (blk_cell hX 6).trans rfl
              have g6 := blk_frozen hX 6
              have z7 := (blk_cell hX 7).trans rfl
              have g7 := blk_frozen hX 7
              have z8 := (blk_cell hX 8).trans rfl
              have g8 := blk_frozen hX 8
              clear hX hlt hq
              go_wp2
              generalize hG4 : World.setCell (World.setCell wr _ _) _ _ = w4
              have hT4 : Trk w4 nt s j l ls0 s.size true true := by rw [← hG4]; exact Trk.seen (blk_below HT.out HBq.out) rfl
              have HU4 := Lib.hid (show GTab w4 from by rw [← hG4]; exact ((HU.out.below HBq.out).put _ _ HN.out).put _ _ HN.out)
              have HK4 := Lib.hid (show w.grownBy w4 (some nt) from by rw [← hG4]; exact put_grown (put_grown (grown_below HK.out HBq.out) 8 _) 6 _)
              have HT4 := Lib.hid hT4
              clear z3 z4 z5 z6 z7 z8 g3 g4 g5 g6 g7 g8 hG4
              have y3 := (blk_cell hT4 3).trans rfl
              have y4 := (blk_cell hT4 4).trans rfl
              have y5 := (blk_cell hT4 5).trans rfl
              have y6 := (blk_cell hT4 6).trans rfl
              clear hT4
              have e1 : IntKind.i64.wrap (l : Int) = (l : Int) := wr64 l hl8
              have e2 : IntKind.i64.wrap (ls0 : Int) = (ls0 : Int) := wr64 ls0 (Nat.le_trans (Nat.le_trans Hb.out.2.1 Hb.out.2.2) (Nat.le_trans HZ.out (by decide)))
              have e3 : IntKind.i64.wrap (s.size : Int) = (s.size : Int) := wr64 s.size (Nat.le_trans (Nat.le_refl _) (Nat.le_trans HZ.out (by decide)))
              have e4 : wrap64 ((j : Int) - (ls0 : Int)) = (j : Int) - (ls0 : Int) := ws64 j ls0 hj8 Hb.out.2.1
              go_quiet (fail)
              go_wp2
              (try simp only [Exit.inBlock, Exit.then])
              refine bodyPost_ret (results_tmp4 rfl _ _ _) rfl ⟨l, ls0, s.size, ⟨HTr.out, HE.out, (SS.of HTr.out HT4.out (Nat.le_refl _) (fun _ => HE.out) HU4.out HK4.out).drewN _⟩, ?_⟩
              show Ending.returned (.tuple #[.int .i64 (l : Int), .int .i64 (wrap64 ((j : Int) - (ls0 : Int))), .int .i64 (ls0 : Int), .int .i64 (s.size : Int)]) = _
              rw [e4])
      · have hc2 : isEnd c = false := by simpa using hc
        have hn := (isEnd_not c).1 hc2
        have k1 : (c == 10) = false := beq_eq_false_iff_ne.mpr (fun h => hn (Or.inl h))
        have k2 : (c == 13) = false := beq_eq_false_iff_ne.mpr (fun h => hn (Or.inr (Or.inl h)))
        have k3 : (c == 8232) = false := beq_eq_false_iff_ne.mpr (fun h => hn (Or.inr (Or.inr (Or.inl h))))
        have k4 : (c == 8233) = false := beq_eq_false_iff_ne.mpr (fun h => hn (Or.inr (Or.inr (Or.inr h))))
        clear hc hn
        go_wp2_with (first | (go_at_call 18; (with_reducible refine (last_callsM HM.out HR.out HZ.out wr (HU.out.below HBm.out)).mono ?_); rintro e w3 ⟨rfl, hb⟩; have HB1 := Lib.hid hb; have hX := blk_below (blk_below HT.out HBm.out) hb; have z3 := (blk_cell hX 3).trans rfl; have g3 := blk_frozen hX 3; have z4 := (blk_cell hX 4).trans rfl; have g4 := blk_frozen hX 4; have z5 := (blk_cell hX 5).trans rfl; have g5 := blk_frozen hX 5; have z6 := (blk_cell hX 6).trans rfl; have g6 := blk_frozen hX 6; have z7 := (blk_cell hX 7).trans rfl; have g7 := blk_frozen hX 7; have z8 := (blk_cell hX 8).trans rfl; have g8 := blk_frozen hX 8; clear hb hX))
        rw [eq]
        go_roundw
        case rel => exact ⟨q, rfl, Hqj.out, Lib.hid (Hgo.out hc2), Lib.hid (HBm.out.trans (HB1.out.mono HBm.out.size))⟩
        case measure => exact meas_bM HM.out Hn0.out
    · have hm0 : m = 0 := Nat.eq_zero_of_not_pos hlt
      obtain rfl : m = ls0 := by
        obtain ⟨a, hTa⟩ := HTm.out
        subst hm0
        exact hTa.at_zero.symm
      have dlt : decide ((0 : Int) < (m : Int)) = false := decide_eq_false (fun h => hlt (Int.ofNat_lt.1 h))
      have dlt2 : decide (0 < m) = false := decide_eq_false hlt
      have hX := blk_below HT.out HBm.out
      have z3 := (blk_cell hX 3).trans rfl
      have g3 := blk_frozen hX 3
      have z4 := (blk_cell hX 4).trans rfl
      have g4 := blk_frozen hX 4
      have z5 := (blk_cell hX 5).trans rfl
      have g5 := blk_frozen hX 5
      have z6 := (blk_cell hX 6).trans rfl
      have g6 := blk_frozen hX 6
      have z7 := (blk_cell hX 7).trans rfl
      have g7 := blk_frozen hX 7
      have z8 := (blk_cell hX 8).trans rfl
      have g8 := blk_frozen hX 8
      clear hX hlt hm0 hmj
      go_upto_region 11 with (fail)
      generalize hG2 : World.setCell (World.setCell wr _ _) _ _ = w2
      have hT2 : Trk w2 nt s j l m le true he := by rw [← hG2]; exact Trk.began (blk_below HT.out HBm.out) rfl
      have HU := Lib.hid (show GTab w2 from by rw [← hG2]; exact ((HU.out.below HBm.out).put _ _ HN.out).put _ _ HN.out)
      have HK := Lib.hid (show w.grownBy w2 (some nt) from by rw [← hG2]; exact put_grown (put_grown (grown_below HK.out HBm.out) 7 _) 5 _)
      have HT := Lib.hid hT2
      clear z3 z4 z5 z6 z7 z8 g3 g4 g5 g6 g7 g8 hG2
      have x0 := (blk_cell hT2 0).trans rfl
      have x3 := (blk_cell hT2 3).trans rfl
      have x4 := (blk_cell hT2 4).trans rfl
      have x5 := (blk_cell hT2 5).trans rfl
      have x6 := (blk_cell hT2 6).trans rfl
      have x7 := (blk_cell hT2 7).trans rfl
      have x8 := (blk_cell hT2 8).trans rfl
      clear hT2
      cases he with
      | true =>
        obtain rfl : le = le0 := (Hh2.out rfl).inj HE.out
        go_wp2
        have e1 : IntKind.i64.wrap (l : Int) = (l : Int) := wr64 l hl8
        have e2 : IntKind.i64.wrap (m : Int) = (m : Int) := wr64 m (Nat.le_trans (Nat.le_trans Hb.out.2.1 Hb.out.2.2) (Nat.le_trans HZ.out (by decide)))
        have e3 : IntKind.i64.wrap (le : Int) = (le : Int) := wr64 le (Nat.le_trans HE.out.bounds.2 (Nat.le_trans HZ.out (by decide)))
        have e4 : wrap64 ((j : Int) - (m : Int)) = (j : Int) - (m : Int) := ws64 j m hj8 Hb.out.2.1
        go_quiet (fail)
        go_wp2
        (try simp only [Exit.inBlock, Exit.then])
        refine bodyPost_ret (results_tmp4 rfl _ _ _) rfl ⟨l, m, le, ⟨HTr.out, HE.out, (SS.of HTr.out HT.out HE.out.bounds.2 (fun _ => HE.out) HU.out HK.out).drewN _⟩, ?_⟩
        show Ending.returned (.tuple #[.int .i64 (l : Int), .int .i64 (wrap64 ((j : Int) - (m : Int))), .int .i64 (m : Int), .int .i64 (le : Int)]) = _
        rw [e4]
      | false =>
        go_wp2
        have h14 : wrap32 (s.size : Int) = (s.size : Int) := s32 s.size (Nat.le_trans HZ.out (by decide))
        go_wp2
        (try rw [h14])
        go_loopw [13] (fun v13 wr => ∃ (q : Nat), v13 = .int .i32 (q : Int) ∧ q ≤ s.size ∧ Hid (∃ a b, Tr s q a b) ∧ Hid (EndAt s q le0) ∧ Hid (Below w2.heap.size w2 wr)) (fun v13 _ => s.size - (intOf v13).toNat)
        case atStart => exact ⟨j, rfl, hj1, Lib.hid ⟨_, _, HTr.out⟩, HE, Lib.hid (Below.refl _ _)⟩
        obtain ⟨q, rfl, hq, HTq, HEq, HBq⟩ := hrel
        clear x0 x3 x4 x5 x6 x7 x8
        by_cases hlt : q < s.size
        · have dlt : decide ((q : Int) < (s.size : Int)) = true := decide_eq_true (Int.ofNat_lt.2 hlt)
          have dlt2 : decide (q < s.size) = true := decide_eq_true hlt
          obtain ⟨c, n, hR, hTn, hn0, hqn⟩ := HW.out.cont HTq.out hlt
          have HR := Lib.hid hR
          have HTn := Lib.hid hTn
          have Hn0 := Lib.hid hn0
          have p1 : (0 : Int) ≤ (q : Int) := Int.natCast_nonneg q
          have q1 : (q : Int) ≤ (s.size : Int) := Int.ofNat_le.2 hq
          have Hlt := Lib.hid hlt
          have Hqn := Lib.hid hqn
          have hqn8 : q + n ≤ 8192 := Nat.le_trans hqn (Nat.le_trans HZ.out (by decide))
          have en : wrap32 (n : Int) = (n : Int) := s32 n (Nat.le_trans (Nat.le_add_left n q) hqn8)
          have eq : wrap32 ((q : Int) + (n : Int)) = ((q + n : Nat) : Int) := s32a q n hqn8
          clear hR hTn hn0 hq hqn hqn8 HTq
          by_cases hc : isEnd c = true
          · have hcc := (isEnd_iff c).1 hc
            obtain rfl : q = le0 := (EndAt.stop q n c HR.out hc).inj HEq.out
            clear hc
            rcases hcc with rfl | rfl | rfl | rfl
            all_goals (
              go_wp2_with (first | (go_at_call 19; (with_reducible refine (first_calls HR.out wr (HU.out.below HBq.out)).mono ?_); rintro e w3 ⟨rfl, hb⟩; have HB2 := Lib.hid hb; have hX := blk_below (blk_below HT.out HBq.out) hb; have z3 := (blk_cell hX 3).trans rfl; have g3 := blk_frozen hX 3; have z4 := (blk_cell hX 4).trans rfl; have g4 := blk_frozen hX 4; have z5 := (blk_cell hX 5).trans rfl; have g5 := blk_frozen hX 5; have z6 := (blk_cell hX 6).trans rfl; have g6 := blk_frozen hX 6; have z7 := (blk_cell hX 7).trans rfl; have g7 := blk_frozen hX 7; have z8 := (blk_cell hX 8).trans rfl; have g8 := blk_frozen hX 8; clear hb hX))
              generalize hG4 : World.setCell (World.setCell w3 _ _) _ _ = w4
              have hT4 : Trk w4 nt s j l m q true true := by rw [← hG4]; exact Trk.seen (blk_below (blk_below HT.out HBq.out) HB2.out) rfl
              have HU4 := Lib.hid (show GTab w4 from by rw [← hG4]; exact (((HU.out.below HBq.out).below HB2.out).put _ _ HN.out).put _ _ HN.out)
              have HK4 := Lib.hid (show w.grownBy w4 (some nt) from by rw [← hG4]; exact put_grown (put_grown (grown_below (grown_below HK.out HBq.out) HB2.out) 8 _) 6 _)
              have HT4 := Lib.hid hT4
              clear z3 z4 z5 z6 z7 z8 g3 g4 g5 g6 g7 g8 hG4
              have y3 := (blk_cell hT4 3).trans rfl
              have y4 := (blk_cell hT4 4).trans rfl
              have y5 := (blk_cell hT4 5).trans rfl
              have y6 := (blk_cell hT4 6).trans rfl
              clear hT4
              have e1 : IntKind.i64.wrap (l : Int) = (l : Int) := wr64 l hl8
              have e2 : IntKind.i64.wrap (m : Int) = (m : Int) := wr64 m (Nat.le_trans (Nat.le_trans Hb.out.2.1 Hb.out.2.2) (Nat.le_trans HZ.out (by decide)))
              have e3 : IntKind.i64.wrap (q : Int) = (q : Int) := wr64 q (Nat.le_trans HE.out.bounds.2 (Nat.le_trans HZ.out (by decide)))
              have e4 : wrap64 ((j : Int) - (m : Int)) = (j : Int) - (m : Int) := ws64 j m hj8 Hb.out.2.1
              go_quiet (fail)
              go_wp2
              (try simp only [Exit.inBlock, Exit.then])
              refine bodyPost_ret (results_tmp4 rfl _ _ _) rfl ⟨l, m, q, ⟨HTr.out, HE.out, (SS.of HTr.out HT4.out HE.out.bounds.2 (fun _ => HE.out) HU4.out HK4.out).drewN _⟩, ?_⟩
              show Ending.returned (.tuple #[.int .i64 (l : Int), .int .i64 (wrap64 ((j : Int) - (m : Int))), .int .i64 (m : Int), .int .i64 (q : Int)]) = _
              rw [e4])
          · have hc2 : isEnd c = false := by simpa using hc
            have hn := (isEnd_not c).1 hc2
            have k1 : (c == 10) = false := beq_eq_false_iff_ne.mpr (fun h => hn (Or.inl h))
            have k2 : (c == 13) = false := beq_eq_false_iff_ne.mpr (fun h => hn (Or.inr (Or.inl h)))
            have k3 : (c == 8232) = false := beq_eq_false_iff_ne.mpr (fun h => hn (Or.inr (Or.inr (Or.inl h))))
            have k4 : (c == 8233) = false := beq_eq_false_iff_ne.mpr (fun h => hn (Or.inr (Or.inr (Or.inr h))))
            clear hc hn
            go_wp2_with (first | (go_at_call 19; (with_reducible refine (first_calls HR.out wr (HU.out.below HBq.out)).mono ?_); rintro e w3 ⟨rfl, hb⟩; have HB2 := Lib.hid hb; have hX := blk_below (blk_below HT.out HBq.out) hb; have z3 := (blk_cell hX 3).trans rfl; have g3 := blk_frozen hX 3; have z4 := (blk_cell hX 4).trans rfl; have g4 := blk_frozen hX 4; have z5 := (blk_cell hX 5).trans rfl; have g5 := blk_frozen hX 5; have z6 := (blk_cell hX 6).trans rfl; have g6 := blk_frozen hX 6; have z7 := (blk_cell hX 7).trans rfl; have g7 := blk_frozen hX 7; have z8 := (blk_cell hX 8).trans rfl; have g8 := blk_frozen hX 8; clear hb hX))
            rw [eq]
            go_roundw
            case rel => exact ⟨q + n, rfl, Hqn.out, HTn, Lib.hid (HEq.out.fwd HR.out hc2), Lib.hid (HBq.out.trans (HB2.out.mono HBq.out.size))⟩
            case measure => exact meas_eN Hlt.out Hn0.out
        · have dlt : decide ((q : Int) < (s.size : Int)) = false := decide_eq_false (fun h => hlt (Int.ofNat_lt.1 h))
          obtain rfl : q = s.size := Nat.le_antisymm hq (Nat.le_of_not_lt hlt)
          have dlt2 : decide (s.size < s.size) = false := decide_eq_false hlt
          obtain rfl : s.size = le0 := EndAt.last.inj HEq.out
          have hX := blk_below HT.out HBq.out
          have z3 := (blk_cell hX 3).trans rfl
          have g3 := blk_frozen hX 3
          have z4 := (blk_cell hX 4).trans rfl
          have g4 := blk_frozen hX 4
          have z5 := (blk_cell hX 5).trans rfl
          have g5 := blk_frozen hX 5
          have z6 := (blk_cell hX 6).trans rfl
          have g6 := blk_frozen hX 6
          have z7 := (blk_cell hX 7).trans rfl
          have g7 := blk_frozen hX 7
          have z8 := (blk_cell hX 8).trans rfl
          have g8 := blk_frozen hX 8
          clear hX hlt hq
          go_wp2
          generalize hG4 : World.setCell (World.setCell wr _ _) _ _ = w4
          have hT4 : Trk w4 nt s j l m s.size true true := by rw [← hG4]; exact Trk.seen (blk_below HT.out HBq.out) rfl
          have HU4 := Lib.hid (show GTab w4 from by rw [← hG4]; exact ((HU.out.below HBq.out).put _ _ HN.out).put _ _ HN.out)
          have HK4 := Lib.hid (show w.grownBy w4 (some nt) from by rw [← hG4]; exact put_grown (put_grown (grown_below HK.out HBq.out) 8 _) 6 _)
          have HT4 := Lib.hid hT4
          clear z3 z4 z5 z6 z7 z8 g3 g4 g5 g6 g7 g8 hG4
          have y3 := (blk_cell hT4 3).trans rfl
          have y4 := (blk_cell hT4 4).trans rfl
          have y5 := (blk_cell hT4 5).trans rfl
          have y6 := (blk_cell hT4 6).trans rfl
          clear hT4
          have e1 : IntKind.i64.wrap (l : Int) = (l : Int) := wr64 l hl8
          have e2 : IntKind.i64.wrap (m : Int) = (m : Int) := wr64 m (Nat.le_trans (Nat.le_trans Hb.out.2.1 Hb.out.2.2) (Nat.le_trans HZ.out (by decide)))
          have e3 : IntKind.i64.wrap (s.size : Int) = (s.size : Int) := wr64 s.size (Nat.le_trans (Nat.le_refl _) (Nat.le_trans HZ.out (by decide)))
          have e4 : wrap64 ((j : Int) - (m : Int)) = (j : Int) - (m : Int) := ws64 j m hj8 Hb.out.2.1
          go_quiet (fail)
          go_wp2
          (try simp only [Exit.inBlock, Exit.then])
          refine bodyPost_ret (results_tmp4 rfl _ _ _) rfl ⟨l, m, s.size, ⟨HTr.out, HE.out, (SS.of HTr.out HT4.out (Nat.le_refl _) (fun _ => HE.out) HU4.out HK4.out).drewN _⟩, ?_⟩
          show Ending.returned (.tuple #[.int .i64 (l : Int), .int .i64 (wrap64 ((j : Int) - (m : Int))), .int .i64 (m : Int), .int .i64 (s.size : Int)]) = _
          rw [e4]
end Go.Proofs.YtckgmnpcnoanhaaDoor
