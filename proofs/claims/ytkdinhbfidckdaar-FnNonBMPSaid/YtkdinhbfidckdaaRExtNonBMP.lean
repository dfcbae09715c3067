/- The contract of helpers.ContainsNonBMPCodePoint: it tells whether Go's own decoder meets a code point above U+FFFF. -/
import Derived.Test.YtkdinhbfidckdaaRProg
import Derived.Test.YtkdinhbfidckdaaRWWords
import Derived.WalkKit
import Derived.Below
import Derived.Laws.RangeAny
import Derived.Laws.RangeString
import Derived.Laws.Runes
import Derived.LoopTactic
import Derived.Outline
import Derived.Lib.Hide
namespace Go.Proofs.YtkdinhbfidckdaaR
open Go.RowKit

/-- From byte i on, in at most b steps of Go's decoder: is there a code point above U+FFFF? -/
def above (s : ByteArray) : Nat → Nat → Bool
  | 0, _ => false
  | b + 1, i => if i < s.size then (if 65535 < ((Utf8.decode s i).1 : Int) then true else above s b (i + (Utf8.decode s i).2)) else false

def helpers_ContainsNonBMPCodePoint.f (a0 : ByteArray) : Option Bool := some (above a0 a0.size 0)

theorem width_pos (s : ByteArray) (pos : Nat) (h : pos < s.size) : 1 ≤ (Utf8.decode s pos).2 := by
  by_cases ha : (s[pos]'h).toNat < 128
  · rw [decode_ascii s pos h ha]
    exact Nat.le_refl _
  · exact (decode_high s pos h (by omega)).2

theorem above_end (s : ByteArray) (b pos : Nat) (h : ¬ pos < s.size) : above s b pos = false := by
  cases b with
  | zero => rfl
  | succ b => simp [above, h]

theorem below_iter (w : World) (s : ByteArray) (pos : Nat) : Below w.heap.size w (w.iter s pos) := (Below.refl _ _).alloc (Nat.le_refl _) _

set_option maxRecDepth 100000 in
theorem helpers_ContainsNonBMPCodePoint.calls (s : ByteArray) (r : Bool) (w : World) (h : helpers_ContainsNonBMPCodePoint.f s = some r) :
    Calls Try.prog 34 #[.string s] w fun e w' => e = .returned (.bool r) ∧ Below w.heap.size w w' := by
  obtain rfl : above s s.size 0 = r := Option.some.inj h
  clear h
  go_enter Try.func34, Try.ntmps34
  go_wp2
  go_loopw [] (fun w' => ∃ pos b : Nat, w' = w.iter s pos ∧ above s b pos = above s s.size 0 ∧ s.size ≤ pos + b) (fun w' => s.size - w'.iterPos w.heap.size)
  case atStart => exact ⟨0, s.size, rfl, rfl, by omega⟩
  case round =>
    obtain ⟨pos, b, rfl, hc, hb⟩ := hrel
    by_cases hp : pos < s.size
    · have hnx : ∀ ty, (Instr.next (.pointer (some ⟨w.heap.size, 0, none⟩)) true ty).run Try.prog (w.iter s pos) = _ := fun ty => run_next_any w s pos ty hp
      have hwd := width_pos s pos hp
      obtain ⟨b, rfl⟩ : ∃ m, b = m + 1 := ⟨b - 1, by omega⟩
      by_cases hbig : 65535 < ((Utf8.decode s pos).1 : Int)
      · have hr : above s s.size 0 = true := by rw [← hc]; simp only [above]; rw [if_pos hp, if_pos hbig]
        have HR := Lib.hid hr
        clear hc hr
        go_wp2
        go_ret
        exact ⟨by rw [HR.out]; rfl, below_iter w s _⟩
      · have hr : above s b (pos + (Utf8.decode s pos).2) = above s s.size 0 := by rw [← hc]; simp only [above]; rw [if_pos hp, if_neg hbig]
        have HR := Lib.hid hr
        clear hc hr
        go_wp2
        go_roundw
        case rel => exact ⟨pos + (Utf8.decode s pos).2, b, rfl, HR.out, by omega⟩
        case measure => simp; omega
    · have hnx : ∀ ty, (Instr.next (.pointer (some ⟨w.heap.size, 0, none⟩)) true ty).run Try.prog (w.iter s pos) = _ := fun ty => run_next_end w s pos ty hp
      rw [above_end s b pos hp] at hc
      have HR := Lib.hid hc
      clear hc
      go_wp2
      go_ret
      exact ⟨by rw [← HR.out]; rfl, below_iter w s _⟩
end Go.Proofs.YtkdinhbfidckdaaR
