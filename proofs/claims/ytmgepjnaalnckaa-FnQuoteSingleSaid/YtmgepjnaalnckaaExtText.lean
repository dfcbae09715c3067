/- The contract of (*scan).text on a string literal whose pieces are told (TR). -/
import Derived.Test.YtmgepjnaalnckaaExtQuiet
import Derived.WalkKit
import Derived.KernelRfl
import Derived.Below
import Derived.Laws.Rows
import Derived.Laws.CopyOwn
import Derived.LoopTactic
import Derived.RegionTactic
import Derived.BigRegion
import Derived.BigQuiet
import Derived.Deep.QuietTactic
import Derived.Deep.RegionWith
import Derived.Deep.LoopGhost
import Derived.Outline
import Derived.Lib.Hide
namespace Go.Proofs.Ytmgepjnaalnckaa
open Go.RowKit Go.Proofs.YtmgepjnaalnckaaW.PrintWords Go.Proofs.YtmgepjnaalnckaaW.PrintMore Go.Proofs.Ytmgepjnaalnckaa.PJsString

/-- A scanner's state beside what it leaves alone. -/
def Sc (w0 w wr : World) (g : Nat) (s : ByteArray) (i : Int) : Prop := IsS61 w0 wr g s i false false 0 ∧ Below w0.heap.size w0 wr ∧ KeepBut w wr g none
theorem Sc.cells {w0 w wr : World} {g : Nat} {s : ByteArray} {i : Int} (h : Sc w0 w wr g s i) : wr.cell? ⟨g, 0, none⟩ = some (.string s) ∧ wr.cell? ⟨g, 1, none⟩ = some (.int .i64 i) ∧ wr.cell? ⟨g, 4, none⟩ = some (.int .i64 0) ∧ wr.frozen? ⟨g, 1, none⟩ = false := by
  obtain ⟨⟨h1, h2⟩, _⟩ := h
  exact ⟨cellS61_0 h1, cellS61_1 h1, cellS61_4 h1, blk_frozen h1 1⟩
theorem Sc.call {w0 w wr w2 : World} {g : Nat} {s : ByteArray} {i j : Int} (h : Sc w0 w wr g s i) (h1 : IsS61 w0 w2 g s j false false 0) (h2 : Below w0.heap.size w0 w2) (h3 : KeepBut wr w2 g none) : Sc w0 w w2 g s j :=
  ⟨h1, h2, h.2.2.trans h3 (.inl rfl)⟩
theorem Sc.drewN {w0 w wr : World} {g : Nat} {s : ByteArray} {i : Int} (h : Sc w0 w wr g s i) (n : Nat) : Sc w0 w (wr.drewN n) g s i := ⟨IsS61.drewN h.1 n, pw_below_drewN h.2.1 n, keep_drewN h.2.2 n⟩
theorem Sc.set {w0 w wr : World} {g : Nat} {s : ByteArray} {i : Int} (h : Sc w0 w wr g s i) (j : Int) : Sc w0 w (wr.setCell ⟨g, 1, none⟩ (.int .i64 j)) g s j :=
  ⟨IsS61.set_1 h.1 j, below_set h.2.1 (IsS61.ge h.1), KeepBut.set_ h.2.2 1 _⟩
theorem Sc.cast {w0 w wr : World} {g : Nat} {s : ByteArray} {i j : Int} (e : i = j) (h : Sc w0 w wr g s i) : Sc w0 w wr g s j := e ▸ h
theorem Sc.refl {w0 w : World} {g : Nat} {s : ByteArray} {i : Int} (h : IsS61 w0 w g s i false false 0) (hb : Below w0.heap.size w0 w) : Sc w0 w w g s i := ⟨h, hb, KeepBut.refl w g none⟩
theorem Sc.trans {w0 w wr w2 : World} {g : Nat} {s : ByteArray} {i j : Int} (h : Sc w0 w wr g s i) (k : Sc w0 wr w2 g s j) : Sc w0 w w2 g s j := ⟨k.1, k.2.1, h.2.2.trans k.2.2 (.inl rfl)⟩
theorem Sc.below {w0 w wr w2 : World} {g : Nat} {s : ByteArray} {i : Int} (h : Sc w0 w wr g s i) (hb : Below wr.heap.size wr w2) : Sc w0 w w2 g s i :=
  ⟨IsS61.below h.1 hb, h.2.1.trans (hb.mono h.2.1.size), h.2.2.trans (KeepBut.of_below hb g none) (.inl rfl)⟩
theorem Sc.row {w0 w wr : World} {g : Nat} {s : ByteArray} {i : Int} (h : Sc w0 w wr g s i) (b : Nat) (hb : w.heap.size ≤ b) (hg : g < w.heap.size) (h0 : w0.heap.size ≤ w.heap.size) (cs : Array Value) : Sc w0 w (wr.setRow b cs) g s i := by
  refine ⟨⟨?_, h.1.2⟩, below_setRow h.2.1 (by omega) cs, ⟨?_, ?_⟩⟩
  · rw [setRow_other _ _ _ _ (by omega)]; exact h.1.1
  · have := h.2.2.1
    simpa [World.setRow] using this
  · intro j hj hne hr
    rw [setRow_other _ _ _ _ (by omega)]
    exact h.2.2.2 j hj hne hr
theorem Sc.cell {w0 w wr : World} {g : Nat} {s : ByteArray} {i : Int} (h : Sc w0 w wr g s i) (p : Addr) (hb : w.heap.size ≤ p.block) (hg : g < w.heap.size) (h0 : w0.heap.size ≤ w.heap.size) (v : Value) : Sc w0 w (wr.setCell p v) g s i := by
  have hne : p.block ≠ g := by omega
  refine ⟨⟨?_, h.1.2⟩, h.2.1.setCell (p := p) (by omega) v, ⟨?_, ?_⟩⟩
  · rw [heap_setCell_other _ _ _ _ (by omega)]; exact h.1.1
  · have := h.2.2.1
    simpa [World.setCell] using this
  · intro j hj hne2 hr
    rw [heap_setCell_other _ _ _ _ (by omega)]
    exact h.2.2.2 j hj hne2 hr

/-- A token's cells: its kind, its text, what it has more, its ends, whether it is old. -/
def tokC (k : Int) (T M : ByteArray) (f t : Int) (old : Bool) : Array Value := #[.int .i64 k, .string T, .string M, .int .u64 0, .int .i64 f, .int .i64 t, .bool false, .bool false, .bool old]
theorem tokT_set (k : Int) (T M T2 : ByteArray) (f t : Int) (old : Bool) : (tokC k T M f t old).setIfInBounds 1 (.string T2) = tokC k T2 M f t old := rfl
theorem tokM_set (k : Int) (T M M2 : ByteArray) (f t : Int) (old : Bool) : (tokC k T M f t old).setIfInBounds 2 (.string M2) = tokC k T M2 f t old := rfl
theorem tokO_set (k : Int) (T M : ByteArray) (f t : Int) (old o2 : Bool) : (tokC k T M f t old).setIfInBounds 8 (.bool o2) = tokC k T M f t o2 := rfl
theorem tokOne (k : Int) (T M : ByteArray) (f t : Int) (o : Bool) : (tokC k T M f t o).all (·.oneCell') = true := by simp [tokC, Value.oneCell']
theorem info45 : (Try.prog.info? 45).map (·.size) = some 9 := by kernel_rfl

/-- The pieces of a string in single quotes, from place i on with what was read before: m pieces to the end j. -/
inductive TR (s : ByteArray) (j : Nat) (U : ByteArray) : Nat → Nat → ByteArray → Prop
  | stop : j < s.size → spec_scan_is.f s (j : Int) false false 0 ⟨#[39]⟩ = some (true, s, (j : Int), false, false, 0) → TR s j U 0 j U
  | plain (m i i2 k : Nat) (T u : ByteArray) (c n : Int) : i < s.size → spec_scan_is.f s (i : Int) false false 0 ⟨#[39]⟩ = some (false, s, (i : Int), false, false, 0) →
      spec_scan_rune.f k s (i : Int) false false 0 = some (c, n, s, (i : Int), false, false, 0) → n ≠ 0 → c ≠ 10 → c ≠ 13 → c ≠ 92 → wrap64 ((i : Int) + n) = (i2 : Int) → spec_Units.f k c = some u → T.size + u.size ≤ 9223372036854775807 → TR s j U m i2 (T ++ u) → TR s j U (m + 1) i T
  | esc (m i i2 k : Nat) (T u : ByteArray) : i < s.size → spec_scan_is.f s (i : Int) false false 0 ⟨#[39]⟩ = some (false, s, (i : Int), false, false, 0) →
      spec_scan_rune.f k s (i : Int) false false 0 = some (92, 1, s, (i : Int), false, false, 0) → spec_scan_escape.f k s (wrap64 ((i : Int) + 1)) false false 0 false = some (u, false, true, s, (i2 : Int), false, false, 0) → T.size + u.size ≤ 9223372036854775807 → TR s j U m i2 (T ++ u) → TR s j U (m + 1) i T

/-- Where the reading stands: the scanner's state, the token under way, the result's variable. -/
def TS (w0 w wr : World) (g : Nat) (s : ByteArray) (i : Int) (T : ByteArray) : Prop :=
  Sc w0 w wr g s i ∧ wr.heap[w.heap.size + 1]? = some (.cells (tokC 8 T ⟨#[]⟩ 0 0 false) 45 (0, 0)) ∧ wr.heap[w.heap.size]? = some (.cells (tokC 0 ⟨#[]⟩ ⟨#[]⟩ 0 0 false) 45 (0, 0))

theorem TS.drewN {w0 w wr : World} {g : Nat} {s : ByteArray} {i : Int} {T : ByteArray} (h : TS w0 w wr g s i T) (n : Nat) : TS w0 w (wr.drewN n) g s i T := ⟨h.1.drewN n, h.2.1, h.2.2⟩
theorem TS.drew {w0 w wr : World} {g : Nat} {s : ByteArray} {i : Int} {T : ByteArray} (h : TS w0 w wr g s i T) : TS w0 w wr.drew g s i T := h.drewN 1
theorem TS.call {w0 w wr w2 : World} {g : Nat} {s : ByteArray} {i j : Int} {T : ByteArray} (h : TS w0 w wr g s i T) (hg : g < w.heap.size) (h1 : IsS61 w0 w2 g s j false false 0) (h2 : Below w0.heap.size w0 w2) (h3 : KeepBut wr w2 g none) : TS w0 w w2 g s j T :=
  ⟨h.1.call h1 h2 h3, KeepBut.blk h3 h.2.1 (by omega) (by simp), KeepBut.blk h3 h.2.2 (by omega) (by simp)⟩
theorem TS.below {w0 w wr w2 : World} {g : Nat} {s : ByteArray} {i : Int} {T : ByteArray} (h : TS w0 w wr g s i T) (hb : Below wr.heap.size wr w2) : TS w0 w w2 g s i T :=
  ⟨h.1.below hb, (hb.block _ (blk_lt h.2.1)).trans h.2.1, (hb.block _ (blk_lt h.2.2)).trans h.2.2⟩
theorem TS.at_ {w0 w wr : World} {g : Nat} {s : ByteArray} {i : Int} {T : ByteArray} (h : TS w0 w wr g s i T) (hg : g < w.heap.size) (j : Int) : TS w0 w (wr.setCell ⟨g, 1, none⟩ (.int .i64 j)) g s j T :=
  ⟨h.1.set j, blk_far h.2.1 (by simp; omega) _, blk_far h.2.2 (by simp; omega) _⟩
theorem TS.put {w0 w wr : World} {g : Nat} {s : ByteArray} {i : Int} {T : ByteArray} (h : TS w0 w wr g s i T) (hg : g < w.heap.size) (h0 : w0.heap.size ≤ w.heap.size) (T2 : ByteArray) : TS w0 w (wr.setCell ⟨w.heap.size + 1, 1, none⟩ (.string T2)) g s i T2 :=
  ⟨h.1.cell _ (by simp) hg h0 _, blk_put h.2.1 1 _ (tokT_set _ _ _ _ _ _ _), blk_far h.2.2 (by simp) _⟩
theorem TS.old {w0 w wr : World} {g : Nat} {s : ByteArray} {i : Int} {T : ByteArray} (h : TS w0 w wr g s i T) (hg : g < w.heap.size) (h0 : w0.heap.size ≤ w.heap.size) : TS w0 w (wr.setCell ⟨w.heap.size + 1, 8, none⟩ (.bool false)) g s i T :=
  ⟨h.1.cell _ (by simp) hg h0 _, blk_put h.2.1 8 _ (tokO_set _ _ _ _ _ _ _), blk_far h.2.2 (by simp) _⟩
theorem TS.cast {w0 w wr : World} {g : Nat} {s : ByteArray} {i j : Int} {T : ByteArray} (e : i = j) (h : TS w0 w wr g s i T) : TS w0 w wr g s j T := e ▸ h
theorem TS.facts {w0 w wr : World} {g : Nat} {s : ByteArray} {i : Int} {T : ByteArray} (h : TS w0 w wr g s i T) :
    wr.cell? ⟨g, 0, none⟩ = some (.string s) ∧ wr.cell? ⟨g, 1, none⟩ = some (.int .i64 i) ∧ wr.frozen? ⟨g, 1, none⟩ = false ∧ wr.cell? ⟨w.heap.size + 1, 1, none⟩ = some (.string T) ∧ wr.frozen? ⟨w.heap.size + 1, 1, none⟩ = false ∧ wr.cell? ⟨w.heap.size + 1, 8, none⟩ = some (.bool false) ∧ wr.frozen? ⟨w.heap.size + 1, 8, none⟩ = false := by
  obtain ⟨c0, c1, c4, f1⟩ := h.1.cells
  exact ⟨c0, c1, f1, (blk_cell h.2.1 1).trans rfl, blk_frozen h.2.1 1, (blk_cell h.2.1 8).trans rfl, blk_frozen h.2.1 8⟩

set_option maxHeartbeats 4000000 in
set_option maxRecDepth 100000 in
theorem text_calls (g : Nat) (s : ByteArray) (p j m : Nat) (U : ByteArray) (w0 w : World) (hI : IsS61 w0 w g s (p : Int) false false 0) (hB : Below w0.heap.size w0 w) (hp : p < s.size) (hs : s.size ≤ 1099511627776)
    (hq : s.extract p (p + 1) = ⟨#[39]⟩) (hT : TR s j U m (p + 1) ⟨#[]⟩) (hpj : p + 1 ≤ j) (hj : j < s.size) :
    Calls Try.prog 48 #[.pointer (some ⟨g, 0, none⟩)] w fun e w' => e = .returned (.agg (tokC 8 U (s.extract (p + 1) j) 0 0 false)) ∧ Sc w0 w w' g s ((j : Int) + 1) := by
  have HS := Lib.hid (Sc.refl hI hB)
  have HT := Lib.hid hT
  have HG := Lib.hid (blk_lt hI.1)
  have H0 := Lib.hid hB.size
  have HJ := Lib.hid (And.intro hpj hj)
  have hw1 : wrap64 ((p : Int) + 1) = ((p + 1 : Nat) : Int) := by unfold wrap64; omega
  have b1 := eq_true (show (0 : Int) ≤ (p : Int) by omega)
  have b2 := eq_true (show (p : Int) ≤ wrap64 ((p : Int) + 1) by omega)
  have b3 := eq_true (show wrap64 ((p : Int) + 1) ≤ (s.size : Int) by omega)
  have HW := Lib.hid hw1
  have HQ := Lib.hid (show s.extract p (wrap64 ((p : Int) + 1)).toNat = ⟨#[39]⟩ by rw [hw1]; exact hq)
  clear hI hB hT hpj hj hp hw1 hq
  go_enter Try.func48, Try.ntmps48
  go_wp2
  generalize hW1 : (World.alloc (World.alloc w _) _) = W1
  have HS1 := Lib.hid (show TS w0 w W1 g s (p : Int) ⟨#[]⟩ by
    rw [← hW1]
    exact ⟨Sc.below (Sc.below HS.out (below_alloc (Below.refl _ _) _)) (below_alloc (Below.refl _ _) _), heap_alloc2_new w _ _, heap_alloc2_old w _ _⟩)
  clear hW1
  obtain ⟨c0, c1, f1, tt1, ft1, tt8, ft8⟩ := HS1.out.facts
  go_region
  rw [HQ.out]
  clear c0 c1 f1 tt1 ft1 tt8 ft8 b1 b2 b3
  generalize hW2 : W1.drew = W2
  have HS2 := Lib.hid (show TS w0 w W2 g s (p : Int) ⟨#[]⟩ by rw [← hW2]; exact HS1.out.drew)
  clear hW2
  obtain ⟨c0, c1, f1, tt1, ft1, tt8, ft8⟩ := HS2.out.facts
  go_wp2
  go_loopg [] m (fun kq wr => ∃ (i : Nat) (T : ByteArray), Hid (TR s j U kq i T) ∧ Hid (kq ≤ m) ∧ Hid (TS w0 w wr g s (i : Int) T))
  case atStart => exact ⟨p + 1, ⟨#[]⟩, HT, Lib.hid (Nat.le_refl _), Lib.hid (TS.cast HW.out (HS2.out.at_ HG.out _))⟩
  case round =>
    clear c0 c1 f1 tt1 ft1 tt8 ft8
    obtain ⟨i, T, HR, HM, HS3⟩ := hrel
    obtain ⟨c0, c1, f1, tt1, ft1, tt8, ft8⟩ := HS3.out.facts
    have hr := HR.out
    cases hr with
    | stop h1 h2 =>
      have lt := decide_eq_true h1
      have H1 := Lib.hid h1
      have H2 := Lib.hid h2
      clear h1 h2
      go_wp2
      go_quiet (first | (go_at_call 38; (refine (is_quiet g s (j : Int) false false 0 ⟨#[39]⟩ true s (j : Int) false false 0 w0 _ ?q1 ?q2 H2.out).mono ?_); (case q1 => exact HS3.out.1.1); (case q2 => first | exact HS3.out.1.2.1 | exact (HS3.out.1.2.1).drew | exact pw_below_drewN HS3.out.1.2.1 _); rintro e w' ⟨rfl, ⟨nd, rfl⟩⟩; (try first | exact ⟨rfl, _, World.drewN_drewN _ _ _⟩ | exact ⟨rfl, _, Eq.trans (World.drewN_drewN _ _ _) (congrArg (World.drewN _) (Nat.add_assoc _ _ _))⟩)))
      generalize hW4 : World.drewN wr _ = W4
      have HS4 := Lib.hid (show TS w0 w W4 g s (j : Int) U by rw [← hW4]; exact HS3.out.drewN _)
      clear hW4 c0 c1 f1 tt1 ft1 tt8 ft8
      obtain ⟨c0, c1, f1, tt1, ft1, tt8, ft8⟩ := HS4.out.facts
      go_wp2_with (go_at_call 38; (refine (is_quiet g s (j : Int) false false 0 ⟨#[39]⟩ true s (j : Int) false false 0 w0 _ ?q1 ?q2 H2.out).mono ?_); (case q1 => exact HS4.out.1.1); (case q2 => exact HS4.out.1.2.1); rintro e w' ⟨rfl, ⟨nd, rfl⟩⟩)
      generalize hW5 : World.drewN W4 _ = W5
      have HS5 := Lib.hid (show TS w0 w W5 g s (j : Int) U by rw [← hW5]; exact HS4.out.drewN _)
      clear hW5 c0 c1 f1 tt1 ft1 tt8 ft8
      obtain ⟨c0, c1, f1, tt1, ft1, tt8, ft8⟩ := HS5.out.facts
      have b1 := eq_true (show (0 : Int) ≤ wrap64 ((p : Int) + 1) by rw [HW.out]; omega)
      have b2 := eq_true (show wrap64 ((p : Int) + 1) ≤ (j : Int) by rw [HW.out]; have := HJ.out.1; omega)
      have b3 := eq_true (show j ≤ s.size by have := HJ.out.2; omega)
      have m2 := (blk_cell HS5.out.2.1 2).trans (show (tokC 8 U ⟨#[]⟩ 0 0 false)[2]? = some (.string ⟨#[]⟩) from rfl)
      have f2 := blk_frozen HS5.out.2.1 2
      go_region
      rw [show (wrap64 ((p : Int) + 1)).toNat = p + 1 by rw [HW.out]; rfl]
      generalize hW6 : World.drew _ = W6
      have HS6 := Lib.hid (show Sc w0 w W6 g s (j : Int) by rw [← hW6]; exact (HS5.out.1.cell _ (by simp) HG.out H0.out _).drewN 1)
      have HT6 := Lib.hid (show W6.heap[w.heap.size + 1]? = some (.cells (tokC 8 U (s.extract (p + 1) j) 0 0 false) 45 (0, 0)) by rw [← hW6]; exact blk_drew (blk_put HS5.out.2.1 2 _ (tokM_set _ _ _ _ _ _ _)))
      have HZ6 := Lib.hid (show W6.heap[w.heap.size]? = some (.cells (tokC 0 ⟨#[]⟩ ⟨#[]⟩ 0 0 false) 45 (0, 0)) by rw [← hW6]; exact blk_drew (blk_far HS5.out.2.2 (by simp) _))
      clear hW6 c0 c1 f1 tt1 ft1 tt8 ft8 m2 f2 b1 b2 b3
      obtain ⟨c0, c1, c4, f1⟩ := HS6.out.cells
      have hwj : wrap64 ((j : Int) + 1) = (j : Int) + 1 := by have := HJ.out.2; unfold wrap64; omega
      have HWJ := Lib.hid hwj
      clear hwj
      go_wp2_with (first
        | (refine wpList_load_row rfl 45 (.tmp 3) rfl (w.heap.size + 1) rfl 45 (tokC 8 U (s.extract (p + 1) j) 0 0 false) (0, 0) _ ?lg Try.underlying45 rfl ?li ?_
           (case lg => exact blk_far HT6.out (by have := HG.out; simp; omega) _)
           (case li => rw [info45]; rfl))
        | (refine wpList_store_row rfl 45 (.tmp 2) (.tmp 131) rfl w.heap.size (tokC 8 U (s.extract (p + 1) j) 0 0 false) ?s1 ?s2 45 (tokC 0 ⟨#[]⟩ ⟨#[]⟩ 0 0 false) ?sg ?si ?s3 ?s4 ?_
           (case s1 => rfl)
           (case s2 => rfl)
           (case sg => exact blk_far HZ6.out (by have := HG.out; simp; omega) _)
           (case si => rw [info45]; rfl)
           (case s3 => rfl)
           (case s4 => exact tokOne _ _ _ _ _ _)))
      refine bodyPost_ret (v := .agg (tokC 8 U (s.extract (p + 1) j) 0 0 false)) ?_ rfl ⟨rfl, ?_⟩
      · refine results_cell_row rfl _ _ w.heap.size 45 (tokC 8 U (s.extract (p + 1) j) 0 0 false) (0, 0) _ rfl ?_ Try.underlying45 rfl ?_
        · exact setRow_heap _ _ _ _ _ _ (blk_far HZ6.out (by have := HG.out; simp; omega) _)
        · rw [info45]; rfl
      · exact Sc.row (Sc.cast HWJ.out (HS6.out.set _)) _ (Nat.le_refl _) HG.out H0.out _
    | plain m2 i i2 k T u c n h1 h2 h3 h4 h5 h6 h7 h8 h9 z0 h10 =>
      have z1 := eq_true z0
      have z2 := decide_eq_true z0
      have z3 : (9223372036854775807 < T.size + u.size) = False := eq_false (Nat.not_lt.2 z0)
      clear z0
      have lt := decide_eq_true h1
      have H1 := Lib.hid h1
      have H2 := Lib.hid h2
      have H3 := Lib.hid h3
      have H8 := Lib.hid h8
      have H9 := Lib.hid h9
      have H10 := Lib.hid h10
      have q4 : (n == 0) = false := beq_eq_false_iff_ne.mpr h4
      have q5 : (c == 10) = false := beq_eq_false_iff_ne.mpr h5
      have q6 : (c == 13) = false := beq_eq_false_iff_ne.mpr h6
      have q7 : (c == 92) = false := beq_eq_false_iff_ne.mpr h7
      clear h1 h2 h3 h4 h5 h6 h7 h8 h9 h10
      go_wp2
      go_quiet (first | (go_at_call 38; (refine (is_quiet g s (i : Int) false false 0 ⟨#[39]⟩ false s (i : Int) false false 0 w0 _ ?q1 ?q2 H2.out).mono ?_); (case q1 => exact HS3.out.1.1); (case q2 => first | exact HS3.out.1.2.1 | exact (HS3.out.1.2.1).drew | exact pw_below_drewN HS3.out.1.2.1 _); rintro e w' ⟨rfl, ⟨nd, rfl⟩⟩; (try first | exact ⟨rfl, _, World.drewN_drewN _ _ _⟩ | exact ⟨rfl, _, Eq.trans (World.drewN_drewN _ _ _) (congrArg (World.drewN _) (Nat.add_assoc _ _ _))⟩)))
      generalize hW4 : World.drewN wr _ = W4
      have HS4 := Lib.hid (show TS w0 w W4 g s (i : Int) T by rw [← hW4]; exact HS3.out.drewN _)
      clear hW4 c0 c1 f1 tt1 ft1 tt8 ft8
      obtain ⟨c0, c1, f1, tt1, ft1, tt8, ft8⟩ := HS4.out.facts
      go_wp2_with (first
        | (go_at_call 40; (refine (spec_scan_rune.calls k g s (i : Int) false false 0 c n s (i : Int) false false 0 w0 _ ?q1 ?q2 H3.out).mono ?_); (case q1 => exact HS4.out.1.1); (case q2 => exact HS4.out.1.2.1); rintro e w5 ⟨rfl, hi5, hb5, hk5⟩; have HS5 := Lib.hid (HS4.out.call HG.out hi5 hb5 hk5); clear hi5 hb5 hk5 c0 c1 f1 tt1 ft1 tt8 ft8; obtain ⟨c0, c1, f1, tt1, ft1, tt8, ft8⟩ := HS5.out.facts))
      generalize hW6 : World.setCell w5 _ _ = W6
      have HS6 := Lib.hid (show TS w0 w W6 g s (i2 : Int) T by rw [← hW6]; exact TS.cast H8.out (HS5.out.at_ HG.out _))
      clear hW6 c0 c1 f1 tt1 ft1 tt8 ft8
      obtain ⟨c0, c1, f1, tt1, ft1, tt8, ft8⟩ := HS6.out.facts
      go_region_with (go_at_call 64; (refine (spec_Units.calls k c u _ H9.out).mono ?_); rintro e w7 ⟨rfl, hb7⟩; have HS7 := Lib.hid (TS.below (by first | exact HS6.out | exact HS6.out.drew | exact HS6.out.drewN _) hb7); obtain ⟨d0, d1, e1, td1, fd1, td8, fd8⟩ := HS7.out.facts; clear hb7)
      all_goals
        go_wp2
        go_roundg m2
        case measure => have := HM.out; omega
        case rel => exact ⟨i2, T ++ u, H10, Lib.hid (by have := HM.out; omega), Lib.hid (by first | exact HS7.out.put HG.out H0.out _ | exact (HS7.out.put HG.out H0.out _).drew | exact (HS7.out.put HG.out H0.out _).drewN _)⟩
    | esc m2 i i2 k T u h1 h2 h3 h4 z0 h5 =>
      have z1 := eq_true z0
      have z2 := decide_eq_true z0
      have z3 : (9223372036854775807 < T.size + u.size) = False := eq_false (Nat.not_lt.2 z0)
      have lt := decide_eq_true h1
      have H2 := Lib.hid h2
      have H3 := Lib.hid h3
      have H4 := Lib.hid h4
      have H5 := Lib.hid h5
      clear z0 h1 h2 h3 h4 h5
      go_wp2
      go_quiet (first | (go_at_call 38; (refine (is_quiet g s (i : Int) false false 0 ⟨#[39]⟩ false s (i : Int) false false 0 w0 _ ?q1 ?q2 H2.out).mono ?_); (case q1 => exact HS3.out.1.1); (case q2 => first | exact HS3.out.1.2.1 | exact (HS3.out.1.2.1).drew | exact pw_below_drewN HS3.out.1.2.1 _); rintro e w' ⟨rfl, ⟨nd, rfl⟩⟩; (try first | exact ⟨rfl, _, World.drewN_drewN _ _ _⟩ | exact ⟨rfl, _, Eq.trans (World.drewN_drewN _ _ _) (congrArg (World.drewN _) (Nat.add_assoc _ _ _))⟩)))
      generalize hW4 : World.drewN wr _ = W4
      have HS4 := Lib.hid (show TS w0 w W4 g s (i : Int) T by rw [← hW4]; exact HS3.out.drewN _)
      clear hW4 c0 c1 f1 tt1 ft1 tt8 ft8
      obtain ⟨c0, c1, f1, tt1, ft1, tt8, ft8⟩ := HS4.out.facts
      go_wp2_with (first
        | (go_at_call 40; (refine (spec_scan_rune.calls k g s (i : Int) false false 0 92 1 s (i : Int) false false 0 w0 _ ?q1 ?q2 H3.out).mono ?_); (case q1 => exact HS4.out.1.1); (case q2 => exact HS4.out.1.2.1); rintro e w5 ⟨rfl, hi5, hb5, hk5⟩; have HS5 := Lib.hid (HS4.out.call HG.out hi5 hb5 hk5); clear hi5 hb5 hk5 c0 c1 f1 tt1 ft1 tt8 ft8; obtain ⟨c0, c1, f1, tt1, ft1, tt8, ft8⟩ := HS5.out.facts)
        | (go_at_call 65; (refine (spec_scan_escape.calls k g s (wrap64 ((i : Int) + 1)) false false 0 false u false true s (i2 : Int) false false 0 w0 _ ?q1 ?q2 H4.out).mono ?_); (case q1 => exact (HS5.out.at_ HG.out _).1.1); (case q2 => exact (HS5.out.at_ HG.out _).1.2.1); rintro e w6 ⟨rfl, hi6, hb6, hk6⟩; have HS6 := Lib.hid ((HS5.out.at_ HG.out _).call HG.out hi6 hb6 hk6); clear hi6 hb6 hk6 c0 c1 f1 tt1 ft1 tt8 ft8; obtain ⟨c0, c1, f1, tt1, ft1, tt8, ft8⟩ := HS6.out.facts))
      go_roundg m2
      case measure => have := HM.out; omega
      case rel => exact ⟨i2, T ++ u, H5, Lib.hid (by have := HM.out; omega), Lib.hid ((HS6.out.put HG.out H0.out _).old HG.out H0.out)⟩
end Go.Proofs.Ytmgepjnaalnckaa
