/- The library's insertion sort over the array, walked. -/
import Derived.Test.YtlbamdlegloieaaDoorExtCell
set_option linter.unusedVariables false
set_option linter.unusedSimpArgs false
namespace Go.Proofs.YtlbamdlegloieaaDoor
open Go Go.RowKit Go.Proofs.YtlbamdlegloieaaDoorW.PrintWords Go.Proofs.YtlbamdlegloieaaDoorW.PrintLast
theorem i64 (n : Int) (h0 : -9223372036854775808 ≤ n) (h1 : n < 9223372036854775808) : wrap64 n = n := by unfold wrap64; omega
theorem ins_go (a j : Nat) (d : Array El) (hj : a ≤ j) (hl : ltE d[j + 1]! d[j]! = true) : Sort.insInner ltE a (j + 1) d = Sort.insInner ltE a j (Sort.swp d (j + 1) j) := by
  rw [Sort.insInner, if_pos (by rw [hl, decide_eq_true (show j + 1 > a by omega)]; rfl)]
theorem ins_stop (a j : Nat) (d : Array El) (h : j ≤ a ∨ ltE d[j]! d[j - 1]! = false) : Sort.insInner ltE a j d = d := by
  cases j with
  | zero => rw [Sort.insInner]
  | succ k =>
    rw [Sort.insInner]
    rcases h with h | h
    · rw [if_neg (by rw [decide_eq_false (show ¬ k + 1 > a by omega)]; simp)]
    · rw [Nat.add_sub_cancel] at h
      rw [if_neg (by rw [h, Bool.and_false]; simp)]
theorem out_go (a b i : Nat) (d : Array El) (h : i < b) : Sort.insOuter ltE a b i d = Sort.insOuter ltE a b (i + 1) (Sort.insInner ltE a i d) := by rw [Sort.insOuter, if_pos h]
theorem out_stop (a b i : Nat) (d : Array El) (h : ¬ i < b) : Sort.insOuter ltE a b i d = d := by rw [Sort.insOuter, if_neg h]
set_option maxHeartbeats 4000000 in
set_option maxRecDepth 100000 in
theorem InsSort.calls (w0 w : World) (g : Nat) (d : Array El) (a b : Nat) (hab : a ≤ b) (hb : b ≤ 64) (h : SS w0 g d w) :
    Calls Tryd.prog 25 #[.iface 45 (.slice (some ⟨g, 0, none⟩) 64 64), .int .i64 (a : Int), .int .i64 (b : Int)] w fun e w' => e = .returned (.tuple #[]) ∧ SS w0 g (Sort.insertionSort ltE d a b) w' := by
  have HS := Lib.hid h
  have HAB := Lib.hid hab
  have HB := Lib.hid hb
  obtain ⟨a1, ha1⟩ : ∃ a1, a1 = a + 1 := ⟨_, rfl⟩
  have wa : wrap64 ((a : Int) + 1) = (a1 : Int) := by rw [i64 _ (by omega) (by omega)]; omega
  have HA1 := Lib.hid ha1
  clear h hab hb ha1
  go_enter Tryd.func25, Tryd.ntmps25
  go_wp2
  rw [wa]
  clear wa
  go_loopw [6] (fun v6 wr => ∃ (i : Nat) (dk : Array El), v6 = .int .i64 (i : Int) ∧ Hid (a < i ∧ i ≤ b + 1 ∧ SS w0 g dk wr ∧ Sort.insOuter ltE a b i dk = Sort.insOuter ltE a b a1 d)) (fun v6 _ => b + 1 - (intOf v6).toNat)
  case atStart => exact ⟨a1, d, rfl, Lib.hid ⟨by have := HA1.out; omega, by have := HA1.out; have := HAB.out; omega, HS.out, rfl⟩⟩
  obtain ⟨i, dk, rfl, HR⟩ := hrel
  clear HS
  by_cases hib : i < b
  · have d1 : decide ((i : Int) < (b : Int)) = true := decide_eq_true (by omega)
    have d2 : decide (i < b) = true := decide_eq_true hib
    have HIB := Lib.hid hib
    clear hib
    go_wp2
    go_loopw [7] (fun v7 wr2 => ∃ (j : Nat) (dj : Array El), v7 = .int .i64 (j : Int) ∧ Hid (a ≤ j ∧ j ≤ i ∧ SS w0 g dj wr2 ∧ Sort.insInner ltE a j dj = Sort.insInner ltE a i dk)) (fun v7 _ => (intOf v7).toNat)
    case atStart => exact ⟨i, dk, rfl, Lib.hid ⟨Nat.le_of_lt HR.out.1, Nat.le_refl _, HR.out.2.2.1, rfl⟩⟩
    obtain ⟨j, dj, rfl, HJ⟩ := hrel
    have hw2 : wrap64 ((i : Int) + 1) = ((i + 1 : Nat) : Int) := by have := HIB.out; have := HB.out; rw [i64 _ (by omega) (by omega)]; rfl
    have hout : (j ≤ a ∨ ltE dj[j]! dj[j - 1]! = false) → Sort.insOuter ltE a b (i + 1) dj = Sort.insOuter ltE a b a1 d := fun hs => by
      rw [← HR.out.2.2.2, out_go _ _ _ _ HIB.out, ← HJ.out.2.2.2, ins_stop _ _ _ hs]
    have hmeas : b + 1 - (((i + 1 : Nat) : Int)).toNat < b + 1 - ((i : Int)).toNat := by rw [Int.toNat_natCast, Int.toNat_natCast]; have := HIB.out; omega
    by_cases haj : a < j
    · obtain ⟨j1, rfl⟩ : ∃ j1, j = j1 + 1 := ⟨j - 1, by omega⟩
      obtain ⟨j2, hj2⟩ : ∃ j2, j2 = j1 + 1 := ⟨_, rfl⟩
      rw [← hj2] at haj HJ hout
      have hb64 : j2 < 64 := by have := HJ.out.2.1; have := HIB.out; have := HB.out; omega
      have wj : wrap64 ((j2 : Int) - 1) = (j1 : Int) := by rw [i64 _ (by omega) (by omega)]; omega
      have d3 : decide ((a : Int) < (j2 : Int)) = true := decide_eq_true (by omega)
      have d4 : decide (a < j2) = true := decide_eq_true haj
      have hle := Less.calls w0 wr g dj j2 j1 hb64 (by omega) HJ.out.2.2.1
      have e1 : j2 - 1 = j1 := by omega
      rw [e1] at hout
      rw [← hj2]
      cases hL : ltE dj[j2]! dj[j1]! with
      | true =>
        rw [hL] at hle
        have HLe := Lib.hid hle
        have HSw := Lib.hid (fun wz (hz : SS w0 g dj wz) => Swap.calls w0 wz g dj j2 j1 hb64 (by omega) hz)
        have HNew := Lib.hid (show Sort.insInner ltE a j1 (Sort.swp dj j2 j1) = Sort.insInner ltE a i dk by
          rw [← HJ.out.2.2.2, hj2]
          rw [hj2] at hL
          exact (ins_go a j1 dj (by omega) hL).symm)
        have HA := Lib.hid (show a ≤ j1 ∧ j1 ≤ i by have := HJ.out.2.1; omega)
        have HJ2 := Lib.hid hj2
        clear hle hout hmeas haj hb64 hL hj2 e1
        go_wp2_with (first | (go_at_call 58; (with_reducible refine HLe.out.mono ?_); rintro e w9 ⟨rfl, hs⟩; have HS9 := Lib.hid hs; clear hs) | (go_at_call 59; (with_reducible refine (HSw.out _ HS9.out).mono ?_); rintro e w10 ⟨rfl, hs⟩; have HS10 := Lib.hid hs; clear hs))
        go_roundw
        case rel => exact ⟨j1, Sort.swp dj j2 j1, by rw [wj], Lib.hid ⟨HA.out.1, HA.out.2, HS10.out, HNew.out⟩⟩
        case measure =>
          rw [wj]
          have := HJ2.out
          show ((j1 : Int)).toNat < ((j2 : Int)).toNat
          rw [Int.toNat_natCast, Int.toNat_natCast]
          omega
      | false =>
        rw [hL] at hle hout
        have HLe := Lib.hid hle
        have HOut := Lib.hid (hout (Or.inr rfl))
        have HM := Lib.hid hmeas
        have HI2 := Lib.hid (show a < i + 1 ∧ i + 1 ≤ b + 1 by have := HR.out.1; have := HIB.out; omega)
        clear hle hout hmeas haj hb64 hL hj2 e1
        go_wp2_with (first | (go_at_call 58; (with_reducible refine HLe.out.mono ?_); rintro e w9 ⟨rfl, hs⟩; have HS9 := Lib.hid hs; clear hs))
        go_roundw
        case rel => exact ⟨i + 1, dj, by rw [hw2], Lib.hid ⟨HI2.out.1, HI2.out.2, HS9.out, HOut.out⟩⟩
        case measure =>
          rw [hw2]
          exact HM.out
    · have d3 : decide ((a : Int) < (j : Int)) = false := decide_eq_false (by omega)
      have d4 : decide (a < j) = false := decide_eq_false haj
      have HOut := Lib.hid (hout (Or.inl (by omega)))
      have HM := Lib.hid hmeas
      have HI2 := Lib.hid (show a < i + 1 ∧ i + 1 ≤ b + 1 by have := HR.out.1; have := HIB.out; omega)
      have HS9 := Lib.hid HJ.out.2.2.1
      clear hout hmeas haj
      go_wp2
      go_roundw
      case rel => exact ⟨i + 1, dj, by rw [hw2], Lib.hid ⟨HI2.out.1, HI2.out.2, HS9.out, HOut.out⟩⟩
      case measure =>
        rw [hw2]
        exact HM.out
  · have d1 : decide ((i : Int) < (b : Int)) = false := decide_eq_false (by omega)
    have d2 : decide (i < b) = false := decide_eq_false hib
    have HEnd := Lib.hid (show Sort.insertionSort ltE d a b = dk by
      unfold Sort.insertionSort
      rw [← HA1.out, ← HR.out.2.2.2, out_stop _ _ _ _ hib])
    have HS9 := Lib.hid HR.out.2.2.1
    clear hib
    go_wp2
    refine bodyPost_end (results_none rfl _ _ _) rfl ⟨rfl, ?_⟩
    rw [HEnd.out]
    exact HS9.out
end Go.Proofs.YtlbamdlegloieaaDoor
