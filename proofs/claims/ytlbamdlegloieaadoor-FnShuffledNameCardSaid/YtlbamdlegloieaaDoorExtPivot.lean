/- order2, median, medianAdjacent and choosePivot, walked. -/
import Derived.Test.YtlbamdlegloieaaDoorExtIns
set_option linter.unusedVariables false
set_option linter.unusedSimpArgs false
namespace Go.Proofs.YtlbamdlegloieaaDoor
open Go Go.RowKit Go.Proofs.YtlbamdlegloieaaDoorW.PrintWords Go.Proofs.YtlbamdlegloieaaDoorW.PrintLast
/-- The array, and the count of swaps beside it. -/
def SW (w0 : World) (g : Nat) (d : Array El) (gs s : Nat) (w : World) : Prop := SS w0 g d w ∧ w.heap[gs]? = some (.cells #[.int .i64 (s : Int)] 3 (0, 0)) ∧ g < gs
theorem SW.keep {w0 w w' : World} {g gs s : Nat} {d : Array El} (h : SW w0 g d gs s w) (hb : Below w.heap.size w w') : SW w0 g d gs s w' := ⟨h.1.keep hb, blk_below h.2.1 hb, h.2.2⟩
theorem SW.inc {w0 w : World} {g gs s : Nat} {d : Array El} (h : SW w0 g d gs s w) (s' : Nat) : SW w0 g d gs s' (w.setCell ⟨gs, 0, none⟩ (.int .i64 (s' : Int))) := by
  obtain ⟨⟨⟨T, cs, h1, h2⟩, h3, h4, h5⟩, h6, h7⟩ := h
  refine ⟨⟨⟨T, cs, ?_, h2⟩, h3.setCell (p := ⟨gs, 0, none⟩) (by show w0.heap.size ≤ gs; omega) _, h4, by simpa [World.setCell] using h5⟩, blk_put h6 0 _ rfl, h7⟩
  exact (Below.heap_setCell w ⟨gs, 0, none⟩ _ g (by show g ≠ gs; omega)).trans h1
set_option maxHeartbeats 4000000 in
set_option maxRecDepth 100000 in
theorem Order2.calls (w0 w : World) (g gs s : Nat) (d : Array El) (a b : Nat) (ha : a < 64) (hb : b < 64) (hs : s < 1000) (h : SW w0 g d gs s w) :
    Calls Tryd.prog 38 #[.iface 45 (.slice (some ⟨g, 0, none⟩) 64 64), .int .i64 (a : Int), .int .i64 (b : Int), .pointer (some ⟨gs, 0, none⟩)] w fun e w' =>
      e = .returned (.tuple #[.int .i64 ((Sort.order2 ltE d a b s).1 : Int), .int .i64 ((Sort.order2 ltE d a b s).2.1 : Int)]) ∧ SW w0 g d gs (Sort.order2 ltE d a b s).2.2 w' := by
  have HS := Lib.hid h
  have hle := LessB.calls w0 w g d b a hb ha h.1
  obtain ⟨s1, hs1⟩ : ∃ s1, s1 = s + 1 := ⟨_, rfl⟩
  have W1 := Lib.hid (show wrap64 ((s : Int) + 1) = (s1 : Int) by rw [i64 _ (by omega) (by omega)]; omega)
  unfold Sort.order2
  cases hL : ltE d[b]! d[a]! with
  | true =>
    rw [hL] at hle
    have HL := Lib.hid hle
    have e1 : (if true = true then (b, a, s + 1) else (a, b, s)) = (b, a, s1) := by rw [if_pos rfl, hs1]
    rw [e1]
    clear hle h ha hb hs hs1 hL e1
    have w1 := W1.out
    go_enter Tryd.func38, Tryd.ntmps38
    go_wp2_with (first | (go_at_call 58; (with_reducible refine HL.out.mono ?_); rintro e w9 ⟨rfl, hb⟩; have HW := Lib.hid (HS.out.keep hb); clear hb; have z0 := (blk_cell HW.out.2.1 0).trans rfl; have fz0 := blk_frozen HW.out.2.1 0))
    exact bodyPost_ret (results_tmp2 rfl _ _ _) rfl ⟨rfl, HW.out.inc s1⟩
  | false =>
    rw [hL] at hle
    have HL := Lib.hid hle
    have e1 : (if false = true then (b, a, s + 1) else (a, b, s)) = (a, b, s) := if_neg (by decide)
    rw [e1]
    clear hle h ha hb hs hs1 hL e1
    go_enter Tryd.func38, Tryd.ntmps38
    go_wp2_with (first | (go_at_call 58; (with_reducible refine HL.out.mono ?_); rintro e w9 ⟨rfl, hb⟩; have HW := Lib.hid (HS.out.keep hb); clear hb))
    exact bodyPost_ret (results_tmp2 rfl _ _ _) rfl ⟨rfl, HW.out⟩
theorem order2_lt (d : Array El) (a b s : Nat) (ha : a < 64) (hb : b < 64) : (Sort.order2 ltE d a b s).1 < 64 ∧ (Sort.order2 ltE d a b s).2.1 < 64 ∧ (Sort.order2 ltE d a b s).2.2 ≤ s + 1 := by
  unfold Sort.order2
  split
  · exact ⟨hb, ha, Nat.le_refl _⟩
  · exact ⟨ha, hb, Nat.le_succ _⟩
set_option maxHeartbeats 4000000 in
set_option maxRecDepth 100000 in
theorem Median.calls (w0 w : World) (g gs s : Nat) (d : Array El) (a b c : Nat) (ha : a < 64) (hb : b < 64) (hc : c < 64) (hs : s < 900) (h : SW w0 g d gs s w) :
    Calls Tryd.prog 37 #[.iface 45 (.slice (some ⟨g, 0, none⟩) 64 64), .int .i64 (a : Int), .int .i64 (b : Int), .int .i64 (c : Int), .pointer (some ⟨gs, 0, none⟩)] w fun e w' =>
      e = .returned (.int .i64 ((Sort.median ltE d a b c s).1 : Int)) ∧ SW w0 g d gs (Sort.median ltE d a b c s).2 w' := by
  have HS := Lib.hid h
  obtain ⟨m1, m2, m3⟩ := order2_lt d a b s ha hb
  obtain ⟨r1, hr1⟩ : ∃ r1, r1 = Sort.order2 ltE d a b s := ⟨_, rfl⟩
  have H1 := Order2.calls w0 w g gs s d a b ha hb (by omega) h
  rw [← hr1] at m1 m2 m3 H1
  obtain ⟨x1, y1, s1⟩ := r1
  obtain ⟨n1, n2, n3⟩ := order2_lt d y1 c s1 m2 hc
  obtain ⟨r2, hr2⟩ : ∃ r2, r2 = Sort.order2 ltE d y1 c s1 := ⟨_, rfl⟩
  have H2 := fun wz (hz : SW w0 g d gs s1 wz) => Order2.calls w0 wz g gs s1 d y1 c m2 hc (by simp only at m3; omega) hz
  rw [← hr2] at n1 n2 n3 H2
  obtain ⟨x2, y2, s2⟩ := r2
  obtain ⟨r3, hr3⟩ : ∃ r3, r3 = Sort.order2 ltE d x1 x2 s2 := ⟨_, rfl⟩
  have H3 := fun wz (hz : SW w0 g d gs s2 wz) => Order2.calls w0 wz g gs s2 d x1 x2 m1 n1 (by simp only at m3 n3; omega) hz
  rw [← hr3] at H3
  obtain ⟨x3, y3, s3⟩ := r3
  have e1 : Sort.median ltE d a b c s = (y3, s3) := by
    unfold Sort.median
    rw [← hr1]
    simp only
    rw [← hr2]
    simp only
    rw [← hr3]
  rw [e1]
  have G1 := Lib.hid H1
  have G2 := Lib.hid H2
  have G3 := Lib.hid H3
  clear H1 H2 H3 hr1 hr2 hr3 m1 m2 m3 n1 n2 n3 e1 h ha hb hc hs
  go_enter Tryd.func37, Tryd.ntmps37
  go_wp2_with (first | (go_at_call 38; first | ((with_reducible refine G1.out.mono ?_); rintro e w9 ⟨rfl, hb⟩; have HW1 := Lib.hid hb; clear hb) | ((with_reducible refine (G2.out _ HW1.out).mono ?_); rintro e w10 ⟨rfl, hb⟩; have HW2 := Lib.hid hb; clear hb) | ((with_reducible refine (G3.out _ HW2.out).mono ?_); rintro e w11 ⟨rfl, hb⟩; have HW3 := Lib.hid hb; clear hb)))
  go_ret
  exact ⟨rfl, HW3.out⟩
end Go.Proofs.YtlbamdlegloieaaDoor
