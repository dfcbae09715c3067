/- decimalText, walked, at texts of digits alone and at texts that begin with neither a digit nor a dot. -/
import Derived.Test.YtheichpmhfledaaDoorPFnNumberBackx7
import Derived.Lib.Hide
import Derived.WalkSpells
set_option linter.unusedVariables false
set_option linter.unusedSimpArgs false
namespace Go.Proofs.YtheichpmhfledaaDoor
open Go Go.RowKit Go.Proofs.YtheichpmhfledaaDoorW.PrintWords Go.Proofs.YtheichpmhfledaaDoorW.PrintLast Go.Proofs.YtheichpmhfledaaDoor.PFnNumberBack
theorem ext_all (a : ByteArray) (b : Int) (h : b = (a.size : Int)) : a.extract 0 b.toNat = a := by
  subst h
  rw [Int.toNat_natCast]
  apply ByteArray.ext
  rw [ByteArray.data_extract]
  exact Array.extract_size
theorem drawn_below' {w u u' : World} (hb : Below w.heap.size w u) (h : Drawn0 u u') : Below w.heap.size w u' := by
  obtain ⟨n, rfl⟩ := h.out
  exact hb.trans ⟨rfl, rfl, rfl, Nat.le_refl _, fun _ _ => rfl⟩
set_option maxHeartbeats 4000000 in
set_option maxRecDepth 100000 in
theorem DecText.digits (a0 : ByteArray) (w : World) (h0 : 0 < a0.size) (h1 : a0.size ≤ 1000) (hd : ∀ (i : Nat) (h : i < a0.size), spec_Digit.f (wrap64 ((a0[i]'h).toNat : Int)) = some true) :
    Calls Tryd.prog 35 #[.string a0] w fun e w' => e = .returned (.tuple #[.string a0, .int .i64 0, .bool true]) ∧ Below w.heap.size w w' := by
  have HD := Lib.hid hd
  have H0 := Lib.hid h0
  have H1 := Lib.hid h1
  clear hd h0 h1
  go_enter Tryd.func35, Tryd.ntmps35
  go_wp2
  go_loopw [5] (fun v5 wr => ∃ k : Nat, v5 = .int .i64 (k : Int) ∧ k ≤ a0.size ∧ Hid (Below w.heap.size w wr)) (fun v5 _ => a0.size - (intOf v5).toNat)
  case atStart => exact ⟨0, rfl, Nat.zero_le _, Lib.hid (Below.refl _ _)⟩
  obtain ⟨k, rfl, hk, HB⟩ := hrel
  have hw : wrap64 ((k : Int) + 1) = ((k + 1 : Nat) : Int) := by have := H1.out; unfold wrap64; omega
  by_cases hlt : k < a0.size
  · have p1 : (0 : Int) ≤ (k : Int) := by omega
    have q1 : (k : Int) < (a0.size : Int) := by omega
    have d1 : decide ((k : Int) < (a0.size : Int)) = true := decide_eq_true q1
    have d2 : decide (k < a0.size) = true := decide_eq_true hlt
    have HC := Lib.hid (spec_Digit.calls (wrap64 ((a0[k]'hlt).toNat : Int)) true)
    have HDk := Lib.hid (HD.out k hlt)
    have HLk := Lib.hid hlt
    clear hk
    replace p1 := eq_true p1
    replace q1 := eq_true q1
    go_wp2_with (first | (go_at_call 52; (with_reducible refine (HC.out _ HDk.out).mono ?_); rintro e w9 ⟨rfl, hb⟩; have HB9 := Lib.hid (drawn_below' HB.out hb); clear hb))
    go_roundw
    case rel => exact ⟨k + 1, by rw [hw], HLk.out, HB9⟩
    case measure =>
      rw [hw]
      have hm := HLk.out
      show a0.size - ((k + 1 : Nat) : Int).toNat < a0.size - ((k : Int)).toNat
      rw [Int.toNat_natCast, Int.toNat_natCast]
      omega
  · have d1 : decide ((k : Int) < (a0.size : Int)) = false := decide_eq_false (by omega)
    obtain rfl : k = a0.size := by omega
    have d2 : decide (a0.size < a0.size) = false := decide_eq_false hlt
    have p1 : (0 : Int) ≤ (a0.size : Int) := by omega
    have q1 : (a0.size : Int) ≤ (a0.size : Int) := by omega
    have HX := Lib.hid (ext_all a0 (a0.size : Int) rfl)
    have HN : (a0.toList == ([] : List UInt8)) = false := by
      have := H0.out
      apply beq_eq_false_iff_ne.2
      intro he
      have h2 : a0.toList.length = 0 := by rw [he]; rfl
      rw [ByteArray.toList_eq] at h2
      have : a0.data.toList.length = a0.size := rfl
      omega
    clear hk hlt
    replace p1 := eq_true p1
    replace q1 := eq_true q1
    go_wp2
    exact bodyPost_ret (results_tmp3 rfl _ _ _) rfl ⟨rfl, HB.out⟩
set_option maxHeartbeats 4000000 in
set_option maxRecDepth 100000 in
theorem DecText.none (a0 : ByteArray) (w : World) (h0 : 0 < a0.size) (h1 : a0.size ≤ 1000) (hd : spec_Digit.f (wrap64 ((a0[0]'h0).toNat : Int)) = some false) (hp : (((a0[0]'h0).toNat : Int) == 46) = false) :
    Calls Tryd.prog 35 #[.string a0] w fun e w' => e = .returned (.tuple #[.string ⟨#[]⟩, .int .i64 0, .bool false]) ∧ Below w.heap.size w w' := by
  have HD := Lib.hid hd
  have H1 := Lib.hid h1
  have q1 : (0 : Int) < (a0.size : Int) := by omega
  have d1 : decide ((0 : Int) < (a0.size : Int)) = true := decide_eq_true q1
  have d2 : decide (0 < a0.size) = true := decide_eq_true h0
  have HC := Lib.hid (spec_Digit.calls (wrap64 ((a0[0]'h0).toNat : Int)) false)
  have HE : a0.extract 0 0 = ⟨#[]⟩ := by
    apply ByteArray.ext
    rw [ByteArray.data_extract]
    exact Array.extract_empty_of_stop_le_start (Nat.le_refl _)
  clear hd h1
  go_enter Tryd.func35, Tryd.ntmps35
  go_wp2
  go_loopw [5] (fun v5 wr => v5 = .int .i64 0 ∧ Hid (Below w.heap.size w wr)) (fun v5 _ => 0)
  case atStart => exact ⟨rfl, Lib.hid (Below.refl _ _)⟩
  obtain ⟨rfl, HB⟩ := hrel
  replace q1 := eq_true q1
  go_wp2_with (first | (go_at_call 52; (with_reducible refine (HC.out _ HD.out).mono ?_); rintro e w9 ⟨rfl, hb⟩; have HB9 := Lib.hid (drawn_below' HB.out hb); clear hb))
  exact bodyPost_ret (results_tmp3 rfl _ _ _) rfl ⟨rfl, HB9.out⟩
end Go.Proofs.YtheichpmhfledaaDoor
