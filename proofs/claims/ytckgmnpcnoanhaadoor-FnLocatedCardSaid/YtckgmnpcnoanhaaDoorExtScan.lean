/- scanTo, walked: the tracker of lines and columns goes on, or back, to a place. -/
import Derived.Test.YtckgmnpcnoanhaaDoorExtLine
import Derived.Test.YtckgmnpcnoanhaaDoorShelfU
import Derived.WalkKit
import Derived.KernelRfl
import Derived.RegionTactic
import Derived.BigRegion
import Derived.BigQuiet
import Derived.LoopTactic
import Derived.Outline
import Derived.OwnWalk
import Derived.Deep.RegionLaw
import Derived.Lib.Hide
set_option linter.unusedVariables false
set_option linter.unusedSimpArgs false
namespace Go.Proofs.YtckgmnpcnoanhaaDoor
open Go Go.RowKit Go.Proofs.YtckgmnpcnoanhaaDoorW.PrintWords Go.Proofs.YtckgmnpcnoanhaaDoorW.PrintLast Go.Proofs.YtckgmnpcnoanhaaDoorW.PrintMore Go.Proofs.YtckgmnpcnoanhaaDoor.PFnLocated
/-- The two tables of package utf8 lie as their initialisers lay them. -/
def GTab (w : World) : Prop := Lib.Utf8Tabs 0 1 w
theorem GTab.below {w w' : World} (h : GTab w) (hb : Below w.heap.size w w') : GTab w' := by
  refine ⟨fun c hc => ?_, fun i hi => ?_⟩
  · have := h.1 c hc
    exact (hb.cell (block_lt_of_cell this)).trans this
  · obtain ⟨h1, h2⟩ := h.2 i hi
    exact ⟨(hb.cell (block_lt_of_cell h1)).trans h1, (hb.cell (block_lt_of_cell h2)).trans h2⟩
theorem GTab.put {w : World} (h : GTab w) (p : Addr) (u : Value) (hp : 2 ≤ p.block) : GTab (w.setCell p u) := by
  have hh : ∀ (b o : Nat), b < 2 → (w.setCell p u).cell? ⟨b, o, none⟩ = w.cell? ⟨b, o, none⟩ := fun b o hb => by
    unfold World.cell?
    rw [Below.heap_setCell w p u b (by omega)]
  exact ⟨fun c hc => (hh 0 _ (by decide)).trans (h.1 c hc), fun i hi => ⟨(hh 1 _ (by decide)).trans (h.2 i hi).1, (hh 1 _ (by decide)).trans (h.2 i hi).2⟩⟩
/-- The tracker's block. -/
def Trk (w : World) (nt : Nat) (s : ByteArray) (o l ls le : Nat) (hs he : Bool) : Prop :=
  w.heap[nt]? = some (.cells #[.string s, .string ⟨#[]⟩, .string ⟨#[]⟩, .int .i32 (o : Int), .int .i32 (l : Int), .int .i32 (ls : Int), .int .i32 (le : Int), .bool hs, .bool he, .bool true] 45 (0, 0))
theorem first_calls {s : ByteArray} {i w : Nat} {c : Int} (hr : Rn s i c w) (W : World) (hT : GTab W) :
    Calls Tryd.prog 19 #[.string (s.extract i s.size)] W fun e w' => e = .returned (.tuple #[.int .i32 c, .int .i64 (w : Int)]) ∧ Below W.heap.size W w' := by
  have h := Tryd.utf8_DecodeRuneInString (s.extract i s.size) W hT
  rw [hr.first] at h
  have hc := hr.facts.1
  have e : ((c.toNat : Nat) : Int) = c := by omega
  simp only [e] at h
  exact h
theorem last_calls {s : ByteArray} {i w : Nat} {c : Int} (hr : Rn s i c w) (hz : s.size ≤ 4096) (W : World) (hT : GTab W) :
    Calls Tryd.prog 18 #[.string (s.extract 0 (i + w))] W fun e w' => e = .returned (.tuple #[.int .i32 c, .int .i64 (w : Int)]) ∧ Below W.heap.size W w' := by
  have h := Tryd.utf8_DecodeLastRuneInString (s.extract 0 (i + w)) W (by simp; omega) hT
  rw [hr.last] at h
  have hc := hr.facts.1
  have e : ((c.toNat : Nat) : Int) = c := by omega
  simp only [e] at h
  exact h
theorem put_grown {w0 w : World} {g : Nat} (h : w0.grownBy w (some g)) (i : Nat) (u : Value) : w0.grownBy (w.setCell ⟨g, i, none⟩ u) (some g) :=
  ⟨h.os, h.tape, h.output, by simpa [World.setCell] using h.size, fun k hk hne => (Below.heap_setCell _ _ _ _ (by simpa using fun e => hne (by rw [e]))).trans (h.block k hk hne)⟩
theorem grown_below {w0 w w1 : World} {g : Nat} (h : w0.grownBy w (some g)) (hb : Below w.heap.size w w1) : w0.grownBy w1 (some g) :=
  ⟨hb.os.trans h.os, hb.tape.trans h.tape, hb.output.trans h.output, Nat.le_trans h.size hb.size, fun k hk hne => (hb.block k (Nat.lt_of_lt_of_le hk h.size)).trans (h.block k hk hne)⟩
theorem grown_refl (w : World) (g : Nat) : w.grownBy w (some g) := ⟨rfl, rfl, rfl, Nat.le_refl _, fun _ _ _ => rfl⟩
/-- Where a loop of scanTo stands. -/
def SS (w0 w : World) (nt : Nat) (s : ByteArray) (o i : Nat) : Prop := ∃ (l ls le : Nat) (hs he : Bool), Good s i l ls le hs he ∧ Trk w nt s o l ls le hs he ∧ GTab w ∧ w0.grownBy w (some nt)
theorem SS.out {w0 w : World} {nt : Nat} {s : ByteArray} {o i : Nat} (h : SS w0 w nt s o i) : ∃ (l ls le : Nat) (hs he : Bool), Good s i l ls le hs he ∧ Trk w nt s o l ls le hs he ∧ GTab w ∧ w0.grownBy w (some nt) := h
theorem SS.plain {w0 w w1 : World} {nt : Nat} {s : ByteArray} {o q l ls le : Nat} {hs he : Bool} (hT : Trk w nt s o l ls le hs he) (hU : GTab w) (hK : w0.grownBy w (some nt)) (hb : Below w.heap.size w w1) (hG : Good s q l ls le hs he) : SS w0 w1 nt s o q :=
  ⟨l, ls, le, hs, he, hG, blk_below hT hb, hU.below hb, grown_below hK hb⟩
theorem SS.stop {w0 w : World} {nt : Nat} {s : ByteArray} {o q : Nat} {v : Int} (h : SS w0 w nt s o q) (hn : 2 ≤ nt) (hv : v = (q : Int)) : SS w0 (w.setCell ⟨nt, 3, none⟩ (.int .i32 v)) nt s q q := by
  subst hv
  obtain ⟨l, ls, le, hs, he, hG, hT, hU, hK⟩ := h
  exact ⟨l, ls, le, hs, he, hG, blk_put hT 3 _ rfl, hU.put _ _ hn, put_grown hK 3 _⟩
theorem SS.ended {w0 w w1 : World} {nt : Nat} {s : ByteArray} {o q l ls le : Nat} {hs he : Bool} (hT : Trk w nt s o l ls le hs he) (hU : GTab w) (hK : w0.grownBy w (some nt)) (hb : Below w.heap.size w w1) (hn : 2 ≤ nt) (hG : Good s q l q le true false) {v : Int} (hv : v = (q : Int)) :
    SS w0 (((w1.setCell ⟨nt, 7, none⟩ (.bool true)).setCell ⟨nt, 8, none⟩ (.bool false)).setCell ⟨nt, 5, none⟩ (.int .i32 v)) nt s o q := by
  subst hv
  exact ⟨l, q, le, true, false, hG, blk_put (blk_put (blk_put (blk_below hT hb) 7 (.bool true) rfl) 8 (.bool false) rfl) 5 (.int .i32 (q : Int)) rfl, (((hU.below hb).put _ _ hn).put _ _ hn).put _ _ hn, put_grown (put_grown (put_grown (grown_below hK hb) 7 _) 8 _) 5 _⟩
theorem SS.ended1 {w0 w w1 : World} {nt : Nat} {s : ByteArray} {o q l ls le : Nat} {hs he : Bool} (hT : Trk w nt s o l ls le hs he) (hU : GTab w) (hK : w0.grownBy w (some nt)) (hb : Below w.heap.size w w1) (hn : 2 ≤ nt) (hG : Good s q (l + 1) q le true false) {v v2 : Int} (hv : v = (q : Int)) (hv2 : v2 = (l : Int) + 1) :
    SS w0 ((((w1.setCell ⟨nt, 7, none⟩ (.bool true)).setCell ⟨nt, 8, none⟩ (.bool false)).setCell ⟨nt, 5, none⟩ (.int .i32 v)).setCell ⟨nt, 4, none⟩ (.int .i32 v2)) nt s o q := by
  subst hv
  obtain rfl : v2 = ((l + 1 : Nat) : Int) := by omega
  exact ⟨l + 1, q, le, true, false, hG, blk_put (blk_put (blk_put (blk_put (blk_below hT hb) 7 (.bool true) rfl) 8 (.bool false) rfl) 5 (.int .i32 (q : Int)) rfl) 4 (.int .i32 ((l + 1 : Nat) : Int)) rfl, ((((hU.below hb).put _ _ hn).put _ _ hn).put _ _ hn).put _ _ hn, put_grown (put_grown (put_grown (put_grown (grown_below hK hb) 7 _) 8 _) 5 _) 4 _⟩
theorem s32 (x : Nat) (h : x ≤ 8192) : wrap32 (x : Int) = (x : Int) := w32 (by omega) (by omega)
theorem meas_b (q n : Nat) (h : 0 < n) : (q : Int).toNat < (((q + n : Nat) : Int)).toNat := by omega
theorem meas_f (q n j : Nat) (h : q < j) (h2 : 0 < n) : j - ((q : Int) + (n : Int)).toNat < j - (q : Int).toNat := by omega
theorem lt_of_not_le' {q j : Nat} (h : ¬ q ≤ j) : j < q := by omega
theorem lt_of_not_le'' {q n j : Nat} (h : ¬ j ≤ q + n) : q + n < j := by omega
theorem sub1_lt {q n z : Nat} (h : q + n ≤ z) (h2 : 0 < n) : q - 1 < z := by omega
theorem int_ne0 {q : Nat} (h : ¬ q = 0) : ¬ ((q : Int) = 0) := by omega
theorem int_sub1 {q : Nat} (h : ¬ q = 0) : (0 : Int) ≤ (q : Int) - 1 := by omega
theorem int_sub1_lt {q n z : Nat} (h : q + n ≤ z) : (q : Int) - 1 < (z : Int) := by omega
theorem meas_bM {q n m : Nat} (e : m = q + n) (h : 0 < n) : (q : Int).toNat < (m : Int).toNat := by omega
theorem meas_bW {q n m : Nat} {x : Int} (e0 : x = (q : Int)) (e : m = q + n) (h : 0 < n) : x.toNat < (m : Int).toNat := by omega
theorem last_callsM {s : ByteArray} {i w m : Nat} {c : Int} (e : m = i + w) (hr : Rn s i c w) (hz : s.size ≤ 4096) (W : World) (hT : GTab W) :
    Calls Tryd.prog 18 #[.string (s.extract 0 m)] W fun e w' => e = .returned (.tuple #[.int .i32 c, .int .i64 (w : Int)]) ∧ Below W.heap.size W w' := by
  subst e
  exact last_calls hr hz W hT
theorem le_adds {l l' : Nat} {b : Prop} [Decidable b] (h : l = if b then l' + 1 else l') : l' ≤ l := by subst h; split <;> omega
theorem s32a (x y : Nat) (h : x + y ≤ 8192) : wrap32 ((x : Int) + (y : Int)) = ((x + y : Nat) : Int) := by rw [← Int.natCast_add]; exact s32 _ h
theorem s32b (x : Nat) (h : x ≤ 8191) : wrap32 ((x : Int) + 1) = (x : Int) + 1 := s32a x 1 (by omega)
theorem s32c (x : Nat) (h : x ≤ 8191) : wrap32 ((x : Int) + 1 - 1) = (x : Int) := by rw [Int.add_sub_cancel]; exact s32 x (by omega)
theorem s32d (x y : Nat) (h : x ≤ 8191) : wrap32 ((x : Int) + (y : Int) - (y : Int)) = (x : Int) := by rw [Int.add_sub_cancel]; exact s32 x (by omega)
theorem s32e (x y : Nat) (h : x ≤ 8191) : wrap32 (((x + y : Nat) : Int) - (y : Int)) = (x : Int) := by rw [Int.natCast_add]; exact s32d x y h
theorem s32f (x : Nat) (h : x ≤ 8191) (h0 : 0 < x) : wrap32 ((x : Int) - 1) = (x : Int) - 1 := w32 (by omega) (by omega)
theorem last_calls0 {s : ByteArray} {c : Int} (hr : Rn s 0 c 1) (hz : s.size ≤ 4096) (W : World) (hT : GTab W) :
    Calls Tryd.prog 18 #[.string (s.extract 0 1)] W fun e w' => e = .returned (.tuple #[.int .i32 c, .int .i64 1]) ∧ Below W.heap.size W w' := last_calls hr hz W hT
theorem first_calls0 {s : ByteArray} {w : Nat} {c : Int} (hr : Rn s 0 c w) (W : World) (hT : GTab W) :
    Calls Tryd.prog 19 #[.string s] W fun e w' => e = .returned (.tuple #[.int .i32 c, .int .i64 (w : Int)]) ∧ Below W.heap.size W w' := by
  have h := first_calls hr W hT
  rwa [ByteArray.extract_zero_size] at h
theorem SS.back0 {w0 w w1 : World} {nt : Nat} {s : ByteArray} {o q l ls le : Nat} {hs he : Bool} (hT : Trk w nt s o l ls le hs he) (hU : GTab w) (hK : w0.grownBy w (some nt)) (hb : Below w.heap.size w w1) (hn : 2 ≤ nt) (hG : Good s q l ls q false true) {v : Int} (hv : v = (q : Int)) :
    SS w0 (((w1.setCell ⟨nt, 7, none⟩ (.bool false)).setCell ⟨nt, 8, none⟩ (.bool true)).setCell ⟨nt, 6, none⟩ (.int .i32 v)) nt s o q := by
  subst hv
  exact ⟨l, ls, q, false, true, hG, blk_put (blk_put (blk_put (blk_below hT hb) 7 (.bool false) rfl) 8 (.bool true) rfl) 6 (.int .i32 (q : Int)) rfl, (((hU.below hb).put _ _ hn).put _ _ hn).put _ _ hn, put_grown (put_grown (put_grown (grown_below hK hb) 7 _) 8 _) 6 _⟩
theorem SS.back1 {w0 w w1 : World} {nt : Nat} {s : ByteArray} {o q l l0 ls le : Nat} {hs he : Bool} (hT : Trk w nt s o l0 ls le hs he) (hU : GTab w) (hK : w0.grownBy w (some nt)) (hb : Below w.heap.size w w1) (hn : 2 ≤ nt) (hG : Good s q l ls q false true) {v v2 : Int} (hv : v = (q : Int)) (hv2 : v2 = (l : Int)) :
    SS w0 ((((w1.setCell ⟨nt, 7, none⟩ (.bool false)).setCell ⟨nt, 8, none⟩ (.bool true)).setCell ⟨nt, 6, none⟩ (.int .i32 v)).setCell ⟨nt, 4, none⟩ (.int .i32 v2)) nt s o q := by
  subst hv
  subst hv2
  exact ⟨l, ls, q, false, true, hG, blk_put (blk_put (blk_put (blk_put (blk_below hT hb) 7 (.bool false) rfl) 8 (.bool true) rfl) 6 (.int .i32 (q : Int)) rfl) 4 (.int .i32 (l : Int)) rfl, ((((hU.below hb).put _ _ hn).put _ _ hn).put _ _ hn).put _ _ hn, put_grown (put_grown (put_grown (put_grown (grown_below hK hb) 7 _) 8 _) 6 _) 4 _⟩
theorem prev_byte (s : ByteArray) (q : Nat) (h : 0 < q) (h2 : q - 1 < s.size) : bt s ((q : Int) - 1) = ((s[q - 1]'h2).toNat : Int) := by
  have e : ((q : Int) - 1) = ((q - 1 : Nat) : Int) := by omega
  rw [e, bt_get, Utf8W.get!_of_lt s _ h2]
end Go.Proofs.YtckgmnpcnoanhaaDoor
