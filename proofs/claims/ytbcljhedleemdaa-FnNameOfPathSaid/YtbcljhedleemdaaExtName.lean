/- The contract of (*scan).name on a text that is a plain name. -/
import Derived.Test.YtbcljhedleemdaaExtOne
namespace Go.Proofs.Ytbcljhedleemdaa
open Go.RowKit Go.Proofs.YtbcljhedleemdaaW.PrintWords Go.Proofs.YtbcljhedleemdaaW.PrintMore Go.Proofs.Ytbcljhedleemdaa.Ppass

/-- A text that is a plain name. -/
def Plain (s : ByteArray) : Prop := 0 < s.size ∧ s.size ≤ 2147483647 ∧ startB (bt s 0) = true ∧ ∀ j : Nat, j < s.size → nameB (bt s (j : Int)) = true

theorem grow (s : ByteArray) (i : Nat) (h : i < s.size) : s.extract 0 i ++ ⟨#[UInt8.ofNat (bt s (i : Int)).toNat]⟩ = s.extract 0 (i + 1) := by
  rw [bt_get s i h, Int.toNat_natCast, UInt8.ofNat_toNat]
  apply ByteArray.ext
  apply Array.ext'
  have e : s.size = s.data.size := rfl
  rw [ByteArray.data_append, Array.toList_append, ByteArray.data_extract, ByteArray.data_extract, Array.toList_extract, Array.toList_extract, List.extract_eq_take_drop, List.extract_eq_take_drop]
  simp only [List.drop_zero, Nat.sub_zero]
  rw [List.take_succ_eq_append_getElem (by rw [Array.length_toList]; omega)]
  rfl
theorem all_of (s : ByteArray) : s.extract 0 s.size = s := by
  apply ByteArray.ext
  simp

theorem none_of (s : ByteArray) : s.extract 0 0 = ⟨#[]⟩ := by
  apply ByteArray.ext
  simp

theorem Sc.trans {w0 w wr w2 : World} {g : Nat} {s : ByteArray} {i j : Int} (h : Sc w0 w wr g s i) (k : Sc w0 wr w2 g s j) : Sc w0 w w2 g s j := ⟨k.1, k.2.1, h.2.2.trans k.2.2 (.inl rfl)⟩
theorem Sc.below {w0 w wr w2 : World} {g : Nat} {s : ByteArray} {i : Int} (h : Sc w0 w wr g s i) (hb : Below wr.heap.size wr w2) : Sc w0 w w2 g s i :=
  ⟨IsS37.below h.1 hb, h.2.1.trans (hb.mono h.2.1.size), h.2.2.trans (KeepBut.of_below hb g none) (.inl rfl)⟩
def lenOf : Value → Nat
  | .string x => x.size
  | _ => 0

set_option maxHeartbeats 4000000 in
set_option maxRecDepth 100000 in
theorem name_calls (g : Nat) (s : ByteArray) (w0 w : World) (hI : IsS37 w0 w g s 0 false false 0) (hB : Below w0.heap.size w0 w) (hP : Plain s) :
    Calls Try.prog 32 #[.pointer (some ⟨g, 0, none⟩)] w fun e w' => e = .returned (.tuple #[.string s, .bool false]) ∧ Sc w0 w w' g s (s.size : Int) := by
  have HS := Lib.hid (Sc.refl hI hB)
  have HP := Lib.hid hP
  clear hI hB hP
  go_enter Try.func32, Try.ntmps32
  go_wp2
  go_loopw [4, 5] (fun v4 v5 wr => ∃ i : Nat, i ≤ s.size ∧ v4 = .string (s.extract 0 i) ∧ v5 = .bool false ∧ Hid (Sc w0 w wr g s (i : Int))) (fun v4 _ _ => s.size - lenOf v4)
  case atStart => exact ⟨0, by omega, by rw [none_of], rfl, HS⟩
  case round =>
    obtain ⟨i, hi, rfl, rfl, HC⟩ := hrel
    obtain ⟨c0, c1, c4, f1⟩ := HC.out.cells
    by_cases hlt : i < s.size
    · have hn := HP.out.2.2.2 i hlt
      have hsz := HP.out.2.1
      have hb : startB (bt s (i : Int)) = true ∨ (48 ≤ bt s (i : Int) ∧ bt s (i : Int) ≤ 57) ∧ (s.extract 0 i).toList.isEmpty = false := by
        by_cases h0 : i = 0
        · subst h0; exact .inl HP.out.2.2.1
        · rcases nameB_iff hn with h | h | h | h
          · exact .inl (decide_eq_true (by omega))
          · exact .inl (decide_eq_true (by omega))
          · refine .inr ⟨h, ?_⟩
            rw [ByteArray.toList_eq, List.isEmpty_eq_false_iff]
            intro e
            have := congrArg List.length e
            rw [Array.length_toList] at this
            have h2 : (s.extract 0 i).size = 0 := this
            rw [ByteArray.size_extract] at h2
            omega
          · exact .inl (decide_eq_true (by omega))
      have hr := bt_range s (i : Int)
      have h128 : bt s (i : Int) < 128 := by
        rcases nameB_iff hn with h | h | h | h <;> omega
      have H4 := Lib.hid (UTF8_one 0 (bt s (i : Int)) hr.1 h128)
      have HB := Lib.hid hb
      have HG := Lib.hid (grow s i hlt)
      have hneg : decide (bt s (i : Int) < 0) = false := decide_eq_false (by omega)
      clear hb hn h128 hr
      go_wp2_with (first
        | (go_at_call 49; (refine (one_at g s i _ w0 _ HC.out.1 HC.out.2.1 hlt hsz HB.out).mono ?_); rintro e w2 ⟨rfl, hs2⟩; have HC2 := Lib.hid (Sc.trans HC.out hs2); clear hs2)
        | (go_at_call 50; (refine (PUTF8.spec_UTF8.calls _ (bt s (i : Int)) _ _ H4.out).mono ?_); rintro e w3 ⟨rfl, hb3⟩; have HC3 := Lib.hid (Sc.below HC2.out hb3); clear hb3))
      go_roundw
      case rel => exact ⟨i + 1, by omega, by rw [HG.out], rfl, Lib.hid (Sc.cast (by omega) HC3.out)⟩
      case measure => rw [HG.out]; simp [lenOf]; omega
    · obtain rfl : i = s.size := by omega
      go_wp2_with (go_at_call 49; (refine (one_end g s _ w0 _ HC.out.1 HC.out.2.1).mono ?_); rintro e w2 ⟨rfl, hs2⟩; have HC2 := Lib.hid (Sc.trans HC.out hs2); clear hs2)
      go_ret2
      exact ⟨rfl, HC2.out⟩
end Go.Proofs.Ytbcljhedleemdaa
