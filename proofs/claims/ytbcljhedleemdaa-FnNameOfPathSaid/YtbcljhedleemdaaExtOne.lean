/- The contract of (*scan).one on the bytes of a plain name, and at the text's end. -/
import Derived.Test.YtbcljhedleemdaaExtScanPure
import Derived.WalkKit
import Derived.KernelRfl
import Derived.Below
import Derived.Laws.Rows
import Derived.LoopTactic
import Derived.RegionTactic
import Derived.BigRegion
import Derived.BigQuiet
import Derived.Deep.QuietTactic
import Derived.Deep.RegionWith
import Derived.Outline
import Derived.Lib.Hide
namespace Go.Proofs.Ytbcljhedleemdaa
open Go.RowKit Go.Proofs.YtbcljhedleemdaaW.PrintWords Go.Proofs.YtbcljhedleemdaaW.PrintMore Go.Proofs.Ytbcljhedleemdaa.Ppass

/-- A scanner's state beside what it leaves alone. -/
def Sc (w0 w wr : World) (g : Nat) (s : ByteArray) (i : Int) : Prop := IsS37 w0 wr g s i false false 0 ∧ Below w0.heap.size w0 wr ∧ KeepBut w wr g none
theorem Sc.cells {w0 w wr : World} {g : Nat} {s : ByteArray} {i : Int} (h : Sc w0 w wr g s i) : wr.cell? ⟨g, 0, none⟩ = some (.string s) ∧ wr.cell? ⟨g, 1, none⟩ = some (.int .i64 i) ∧ wr.cell? ⟨g, 4, none⟩ = some (.int .i64 0) ∧ wr.frozen? ⟨g, 1, none⟩ = false := by
  obtain ⟨⟨h1, h2⟩, _⟩ := h
  exact ⟨cellS37_0 h1, cellS37_1 h1, cellS37_4 h1, blk_frozen h1 1⟩
theorem Sc.call {w0 w wr w2 : World} {g : Nat} {s : ByteArray} {i j : Int} (h : Sc w0 w wr g s i) (h1 : IsS37 w0 w2 g s j false false 0) (h2 : Below w0.heap.size w0 w2) (h3 : KeepBut wr w2 g none) : Sc w0 w w2 g s j :=
  ⟨h1, h2, h.2.2.trans h3 (.inl rfl)⟩
theorem Sc.drewN {w0 w wr : World} {g : Nat} {s : ByteArray} {i : Int} (h : Sc w0 w wr g s i) (n : Nat) : Sc w0 w (wr.drewN n) g s i := ⟨IsS37.drewN h.1 n, pw_below_drewN h.2.1 n, keep_drewN h.2.2 n⟩
theorem Sc.set {w0 w wr : World} {g : Nat} {s : ByteArray} {i : Int} (h : Sc w0 w wr g s i) (j : Int) : Sc w0 w (wr.setCell ⟨g, 1, none⟩ (.int .i64 j)) g s j :=
  ⟨IsS37.set_1 h.1 j, below_set h.2.1 (IsS37.ge h.1), KeepBut.set_ h.2.2 1 _⟩
theorem Sc.cast {w0 w wr : World} {g : Nat} {s : ByteArray} {i j : Int} (e : i = j) (h : Sc w0 w wr g s i) : Sc w0 w wr g s j := e ▸ h
theorem Sc.refl {w0 w : World} {g : Nat} {s : ByteArray} {i : Int} (h : IsS37 w0 w g s i false false 0) (hb : Below w0.heap.size w0 w) : Sc w0 w w g s i := ⟨h, hb, KeepBut.refl w g none⟩

set_option maxHeartbeats 4000000 in
set_option maxRecDepth 100000 in
theorem one_end (g : Nat) (s : ByteArray) (first : Bool) (w0 w : World) (hI : IsS37 w0 w g s (s.size : Int) false false 0) (hB : Below w0.heap.size w0 w) :
    Calls Try.prog 49 #[.pointer (some ⟨g, 0, none⟩), .bool first] w fun e w' => e = .returned (.tuple #[.int .i64 (-1), .bool false]) ∧ Sc w0 w w' g s (s.size : Int) := by
  have HS := Lib.hid (Sc.refl hI hB)
  have H1 := Lib.hid (rune_end 0 s false false 0)
  clear hI hB
  go_enter Try.func49, Try.ntmps49
  go_wp2_with (go_at_call 21; (refine (spec_scan_rune.calls (0 + 1) g s (s.size : Int) false false 0 0 0 s (s.size : Int) false false 0 w0 _ HS.out.1 HS.out.2.1 H1.out).mono ?_); rintro e w2 ⟨rfl, hi2, hb2, hk2⟩; have HS2 := Lib.hid (Sc.call HS.out hi2 hb2 hk2); clear hi2 hb2 hk2)
  go_ret2
  exact ⟨rfl, HS2.out⟩

set_option maxHeartbeats 4000000 in
set_option maxRecDepth 100000 in
theorem one_at (g : Nat) (s : ByteArray) (i : Nat) (first : Bool) (w0 w : World) (hI : IsS37 w0 w g s (i : Int) false false 0) (hB : Below w0.heap.size w0 w) (hi : i < s.size) (hs : s.size ≤ 2147483647)
    (hb : startB (bt s (i : Int)) = true ∨ (48 ≤ bt s (i : Int) ∧ bt s (i : Int) ≤ 57) ∧ first = false) :
    Calls Try.prog 49 #[.pointer (some ⟨g, 0, none⟩), .bool first] w fun e w' => e = .returned (.tuple #[.int .i64 (bt s (i : Int)), .bool false]) ∧ Sc w0 w w' g s ((i : Int) + 1) := by
  have hr := bt_range s (i : Int)
  have h128 : bt s (i : Int) < 128 := by
    rcases hb with h | h
    · rcases startB_iff h with h | h | h <;> omega
    · omega
  have h92 : bt s (i : Int) ≠ 92 := by
    rcases hb with h | h
    · rcases startB_iff h with h | h | h <;> omega
    · omega
  obtain ⟨cls, hcls, hc⟩ : ∃ cls : Int, PInName.spec_InName.f 1 (bt s (i : Int)) = some cls ∧ (cls = 2 ∨ cls = 1 ∧ first = false) := by
    rcases hb with h | h
    · exact ⟨2, InName_start 0 _ h, .inl rfl⟩
    · exact ⟨1, InName_digit 0 _ h.1, .inr ⟨rfl, h.2⟩⟩
  have HS := Lib.hid (Sc.refl hI hB)
  have H1 := Lib.hid (rune_at 0 s i false false 0 hi h128)
  have H2 := Lib.hid (is_not s i false false 0 92 [117] hi hs (by decide) (by simpa using h92))
  have H3 := Lib.hid hcls
  have hw : wrap64 ((i : Int) + 1) = (i : Int) + 1 := w64' (by omega) (by omega)
  have HW := Lib.hid hw
  generalize bt s (i : Int) = c at *
  clear hI hB hcls hb hi hs h128 h92 hw
  go_enter Try.func49, Try.ntmps49
  go_wp2_with (go_at_call 21; (refine (spec_scan_rune.calls (0 + 1) g s (i : Int) false false 0 c 1 s (i : Int) false false 0 w0 _ HS.out.1 HS.out.2.1 H1.out).mono ?_); rintro e w2 ⟨rfl, hi2, hb2, hk2⟩; have HS2 := Lib.hid (Sc.call HS.out hi2 hb2 hk2); obtain ⟨c20, c21, c24, f21⟩ := HS2.out.cells; clear hi2 hb2 hk2)
  go_region_with (go_at_call 19; (refine (spec_scan_is.calls g s (i : Int) false false 0 ⟨#[92, 117]⟩ false s (i : Int) false false 0 w0 _ ?q1 ?q2 H2.out).mono ?_); (case q1 => exact HS2.out.1); (case q2 => first | exact HS2.out.2.1 | exact (HS2.out.2.1).drew); rintro e w3 ⟨rfl, hi3, hb3, hk3⟩; have HS3 := Lib.hid (Sc.call HS2.out hi3 hb3 hk3); obtain ⟨c30, c31, c34, f31⟩ := HS3.out.cells; clear hi3 hb3 hk3)
  all_goals
    rcases hc with rfl | ⟨rfl, rfl⟩
    all_goals
      go_wp2_with (go_at_call 28; (refine (PInName.spec_InName.calls 1 c _ _ H3.out).mono ?_); rintro e w4 ⟨rfl, ⟨nd, rfl⟩⟩)
      all_goals
        go_ret2
        exact ⟨rfl, Sc.cast HW.out (by first | exact (HS3.out.set _).drewN _ | exact HS3.out.set _)⟩
end Go.Proofs.Ytbcljhedleemdaa
