/- heapSort and reverseRange, walked. -/
import Derived.Test.YtlbamdlegloieaaDoorExtHeap
set_option linter.unusedVariables false
set_option linter.unusedSimpArgs false
namespace Go.Proofs.YtlbamdlegloieaaDoor
open Go Go.RowKit Go.Proofs.YtlbamdlegloieaaDoorW.PrintWords Go.Proofs.YtlbamdlegloieaaDoorW.PrintLast
theorem Sift0.calls (w0 w : World) (g : Nat) (d : Array El) (hi first : Nat) (hf : first + hi ≤ 64) (h : SS w0 g d w) :
    Calls Tryd.prog 33 #[.iface 45 (.slice (some ⟨g, 0, none⟩) 64 64), .int .i64 0, .int .i64 (hi : Int), .int .i64 (first : Int)] w fun e w' => e = .returned (.tuple #[]) ∧ SS w0 g (Sort.siftDown ltE hi first 0 d) w' :=
  Sift.calls w0 w g d 0 hi first (by omega) hf h
set_option maxHeartbeats 8000000 in
set_option maxRecDepth 100000 in
theorem Heap.calls (w0 w : World) (g : Nat) (d : Array El) (a b : Nat) (hab : a ≤ b) (hb : b ≤ 64) (h : SS w0 g d w) :
    Calls Tryd.prog 26 #[.iface 45 (.slice (some ⟨g, 0, none⟩) 64 64), .int .i64 (a : Int), .int .i64 (b : Int)] w fun e w' => e = .returned (.tuple #[]) ∧ SS w0 g (Sort.heapSort ltE d a b) w' := by
  have HS := Lib.hid h
  obtain ⟨hi, hhi⟩ : ∃ hi, hi = b - a := ⟨_, rfl⟩
  have hah : a + hi ≤ 64 := by omega
  have W1 := Lib.hid (show wrap64 ((b : Int) - (a : Int)) = (hi : Int) by rw [i64 _ (by omega) (by omega)]; omega)
  obtain ⟨h1, hh1⟩ : ∃ h1 : Int, h1 = (hi : Int) - 1 := ⟨_, rfl⟩
  obtain ⟨k0, hk0⟩ : ∃ k0, k0 = (hi - 1) / 2 + 1 := ⟨_, rfl⟩
  obtain ⟨x0, hx0⟩ : ∃ x0 : Int, x0 = (k0 : Int) - 1 := ⟨_, rfl⟩
  have W2 := Lib.hid (show wrap64 ((hi : Int) - 1) = h1 by rw [i64 _ (by omega) (by omega)]; exact hh1.symm)
  have ht : Int.tdiv h1 2 = x0 := by
    rcases Nat.eq_zero_or_pos hi with hz | hz
    · have e1 : h1 = -1 := by omega
      have e2 : x0 = 0 := by subst hz; simp at hk0; omega
      rw [e1, e2]; decide
    · rw [Int.tdiv_eq_ediv_of_nonneg (by omega)]; omega
  have hx64 : -9223372036854775808 ≤ x0 ∧ x0 < 9223372036854775808 := by omega
  have W4 := Lib.hid ht
  have W3 := Lib.hid (show wrap64 (Int.tdiv h1 2) = x0 by rw [ht]; exact i64 _ hx64.1 hx64.2)
  have HX0 := Lib.hid hx0
  have HK0 := Lib.hid (show k0 ≤ 64 by omega)
  have HAH := Lib.hid hah
  have HH1 := Lib.hid hh1
  have HEq := Lib.hid (show Sort.heapSort ltE d a b = Sort.heapPop ltE a hi (Sort.heapBuild ltE hi a k0 d) by unfold Sort.heapSort; rw [← hhi, ← hk0])
  clear h hab hb hhi hah hh1 hk0 hx0 ht hx64
  go_enter Tryd.func26, Tryd.ntmps26
  go_wp2
  (try rw [W1.out]); (try rw [W2.out]); (try rw [W3.out]); (try rw [W4.out])
  go_loopw [9] (fun v9 wr => ∃ (k : Nat) (x : Int) (dk : Array El), v9 = .int .i64 x ∧ Hid (x = (k : Int) - 1 ∧ k ≤ 64 ∧ SS w0 g dk wr ∧ Sort.heapBuild ltE hi a k dk = Sort.heapBuild ltE hi a k0 d)) (fun v9 _ => (intOf v9 + 1).toNat)
  case atStart => exact ⟨k0, x0, d, rfl, Lib.hid ⟨HX0.out, HK0.out, HS.out, rfl⟩⟩
  obtain ⟨k, x, dk, rfl, HR⟩ := hrel
  rcases Nat.eq_zero_or_pos k with hk | hk
  · subst hk
    obtain rfl : x = -1 := by have := HR.out.1; omega
    have HE := Lib.hid (show dk = Sort.heapBuild ltE hi a k0 d by rw [← HR.out.2.2.2]; rfl)
    have HS2 := Lib.hid HR.out.2.2.1
    clear HR HS
    go_wp2
    (try rw [W2.out])
    go_loopw [10] (fun v10 wr2 => ∃ (j : Nat) (y : Int) (dj : Array El), v10 = .int .i64 y ∧ Hid (y = (j : Int) - 1 ∧ j ≤ hi ∧ SS w0 g dj wr2 ∧ Sort.heapPop ltE a j dj = Sort.heapPop ltE a hi dk)) (fun v10 _ => (intOf v10 + 1).toNat)
    case atStart => exact ⟨hi, h1, dk, rfl, Lib.hid ⟨HH1.out, Nat.le_refl _, HS2.out, rfl⟩⟩
    obtain ⟨j, y, dj, rfl, HJ⟩ := hrel
    rcases Nat.eq_zero_or_pos j with hj | hj
    · subst hj
      obtain rfl : y = -1 := by have := HJ.out.1; omega
      have HE2 := Lib.hid (show dj = Sort.heapSort ltE d a b by rw [HEq.out, ← HE.out, ← HJ.out.2.2.2]; rfl)
      have HS3 := Lib.hid HJ.out.2.2.1
      go_wp2
      refine bodyPost_end (results_none rfl _ _ _) rfl ⟨rfl, ?_⟩
      rw [← HE2.out]
      exact HS3.out
    · obtain ⟨j1, rfl⟩ : ∃ j1, j = j1 + 1 := ⟨j - 1, by omega⟩
      obtain rfl : y = (j1 : Int) := by have := HJ.out.1; omega
      have hjh := HJ.out.2.1
      have hah := HAH.out
      obtain ⟨aj, haj⟩ : ∃ aj, aj = a + j1 := ⟨_, rfl⟩
      have W5 := Lib.hid (show wrap64 ((a : Int) + (j1 : Int)) = (aj : Int) by rw [i64 _ (by omega) (by omega)]; omega)
      obtain ⟨y1, hy1⟩ : ∃ y1 : Int, y1 = (j1 : Int) - 1 := ⟨_, rfl⟩
      have W6 := Lib.hid (show wrap64 ((j1 : Int) - 1) = y1 by rw [i64 _ (by omega) (by omega)]; omega)
      have d1 : decide ((0 : Int) ≤ (j1 : Int)) = true := decide_eq_true (by omega)
      have HSw := Lib.hid (fun wz (hz : SS w0 g dj wz) => Swap.calls w0 wz g dj a aj (by omega) (by omega) hz)
      have HSi := Lib.hid (fun wz (hz : SS w0 g (Sort.swp dj a aj) wz) => Sift0.calls w0 wz g (Sort.swp dj a aj) j1 a (by omega) hz)
      have HN := Lib.hid (show y1 = (j1 : Int) - 1 ∧ j1 ≤ hi ∧ Sort.heapPop ltE a j1 (Sort.siftDown ltE j1 a 0 (Sort.swp dj a aj)) = Sort.heapPop ltE a hi dk by
        refine ⟨hy1, by omega, ?_⟩
        rw [← HJ.out.2.2.2, haj]
        rfl)
      have HS3 := Lib.hid HJ.out.2.2.1
      clear HJ hj hjh hah haj hy1
      have w5 := W5.out
      have w6 := W6.out
      go_wp2_with (first | (go_at_call 59; (with_reducible refine (HSw.out _ HS3.out).mono ?_); rintro e w9 ⟨rfl, hs⟩; have HZ1 := Lib.hid hs; clear hs) | (go_at_call 33; (with_reducible refine (HSi.out _ HZ1.out).mono ?_); rintro e w10 ⟨rfl, hs⟩; have HZ2 := Lib.hid hs; clear hs))
      go_roundw
      case rel => exact ⟨j1, y1, _, by rw [w6], Lib.hid ⟨HN.out.1, HN.out.2.1, HZ2.out, HN.out.2.2⟩⟩
      case measure =>
        rw [w6]
        have := HN.out.1
        show (y1 + 1).toNat < ((j1 : Int) + 1).toNat
        omega
  · obtain ⟨k1, rfl⟩ : ∃ k1, k = k1 + 1 := ⟨k - 1, by omega⟩
    obtain rfl : x = (k1 : Int) := by have := HR.out.1; omega
    obtain ⟨x1, hx1⟩ : ∃ x1 : Int, x1 = (k1 : Int) - 1 := ⟨_, rfl⟩
    have hk64 := HR.out.2.1
    have hah := HAH.out
    have W6 := Lib.hid (show wrap64 ((k1 : Int) - 1) = x1 by rw [i64 _ (by omega) (by omega)]; omega)
    have d1 : decide ((0 : Int) ≤ (k1 : Int)) = true := decide_eq_true (by omega)
    have HSi := Lib.hid (fun wz (hz : SS w0 g dk wz) => Sift.calls w0 wz g dk k1 hi a (by omega) (by omega) hz)
    have HN := Lib.hid (show x1 = (k1 : Int) - 1 ∧ k1 ≤ 64 ∧ Sort.heapBuild ltE hi a k1 (Sort.siftDown ltE hi a k1 dk) = Sort.heapBuild ltE hi a k0 d from ⟨hx1, by omega, by rw [← HR.out.2.2.2]; rfl⟩)
    have HS3 := Lib.hid HR.out.2.2.1
    clear HR hk hk64 hah hx1 HS
    have w6 := W6.out
    go_wp2_with (first | (go_at_call 33; (with_reducible refine (HSi.out _ HS3.out).mono ?_); rintro e w10 ⟨rfl, hs⟩; have HZ2 := Lib.hid hs; clear hs))
    go_roundw
    case rel => exact ⟨k1, x1, _, by rw [w6], Lib.hid ⟨HN.out.1, HN.out.2.1, HZ2.out, HN.out.2.2⟩⟩
    case measure =>
      rw [w6]
      have := HN.out.1
      show (x1 + 1).toNat < ((k1 : Int) + 1).toNat
      omega
set_option maxHeartbeats 8000000 in
set_option maxRecDepth 100000 in
theorem Rev.calls (w0 w : World) (g : Nat) (d : Array El) (a b : Nat) (hab : a < b) (hb : b ≤ 64) (h : SS w0 g d w) :
    Calls Tryd.prog 29 #[.iface 45 (.slice (some ⟨g, 0, none⟩) 64 64), .int .i64 (a : Int), .int .i64 (b : Int)] w fun e w' => e = .returned (.tuple #[]) ∧ SS w0 g (Sort.reverseRange d a b) w' := by
  have HS := Lib.hid h
  obtain ⟨b1, hb1⟩ : ∃ b1, b1 = b - 1 := ⟨_, rfl⟩
  have W1 := Lib.hid (show wrap64 ((b : Int) - 1) = (b1 : Int) by rw [i64 _ (by omega) (by omega)]; omega)
  have HA := Lib.hid (show a ≤ 64 ∧ b1 ≤ 63 by omega)
  have HEq := Lib.hid (show Sort.reverseRange d a b = Sort.reverseLoop a b1 d by unfold Sort.reverseRange; rw [hb1])
  clear h hab hb hb1
  go_enter Tryd.func29, Tryd.ntmps29
  go_wp2
  (try rw [W1.out])
  go_loopw [6, 7] (fun v6 v7 wr => ∃ (i j : Nat) (dk : Array El), v6 = .int .i64 (i : Int) ∧ v7 = .int .i64 (j : Int) ∧ Hid (i ≤ 64 ∧ j ≤ 63 ∧ SS w0 g dk wr ∧ Sort.reverseLoop i j dk = Sort.reverseLoop a b1 d)) (fun _ v7 _ => (intOf v7).toNat)
  case atStart => exact ⟨a, b1, d, rfl, rfl, Lib.hid ⟨HA.out.1, HA.out.2, HS.out, rfl⟩⟩
  obtain ⟨i, j, dk, rfl, rfl, HR⟩ := hrel
  have hi64 := HR.out.1
  have hj64 := HR.out.2.1
  by_cases hij : i < j
  · obtain ⟨i1, hi1⟩ : ∃ i1, i1 = i + 1 := ⟨_, rfl⟩
    obtain ⟨j1, hj1⟩ : ∃ j1, j1 = j - 1 := ⟨_, rfl⟩
    have W2 := Lib.hid (show wrap64 ((i : Int) + 1) = (i1 : Int) by rw [i64 _ (by omega) (by omega)]; omega)
    have W3 := Lib.hid (show wrap64 ((j : Int) - 1) = (j1 : Int) by rw [i64 _ (by omega) (by omega)]; omega)
    have d1 : decide ((i : Int) < (j : Int)) = true := decide_eq_true (by omega)
    have d2 : decide (i < j) = true := decide_eq_true hij
    have HSw := Lib.hid (fun wz (hz : SS w0 g dk wz) => Swap.calls w0 wz g dk i j (by omega) (by omega) hz)
    have HN := Lib.hid (show i1 ≤ 64 ∧ j1 ≤ 63 ∧ j1 < j ∧ Sort.reverseLoop i1 j1 (Sort.swp dk i j) = Sort.reverseLoop a b1 d by
      refine ⟨by omega, by omega, by omega, ?_⟩
      have h4 := HR.out.2.2.2
      rw [Sort.reverseLoop, if_pos hij, ← hi1, ← hj1] at h4
      exact h4)
    have HS3 := Lib.hid HR.out.2.2.1
    clear HR hi64 hj64 hij hi1 hj1 HS
    have w2 := W2.out
    have w3 := W3.out
    go_wp2_with (first | (go_at_call 59; (with_reducible refine (HSw.out _ HS3.out).mono ?_); rintro e w9 ⟨rfl, hs⟩; have HZ1 := Lib.hid hs; clear hs))
    refine ⟨⟨i1, j1, _, by first | rfl | rw [w2], by first | rfl | rw [w3], Lib.hid ⟨HN.out.1, HN.out.2.1, HZ1.out, HN.out.2.2.2⟩⟩, ?_⟩
    (try rw [w3])
    have := HN.out.2.2.1
    show ((j1 : Int)).toNat < ((j : Int)).toNat
    rw [Int.toNat_natCast, Int.toNat_natCast]
    exact this
  · have d1 : decide ((i : Int) < (j : Int)) = false := decide_eq_false (by omega)
    have d2 : decide (i < j) = false := decide_eq_false hij
    have HE := Lib.hid (show dk = Sort.reverseRange d a b by
      have h4 := HR.out.2.2.2
      rw [Sort.reverseLoop, if_neg hij] at h4
      rw [HEq.out, ← h4])
    have HS3 := Lib.hid HR.out.2.2.1
    clear HR hi64 hj64 hij HS
    go_wp2
    refine bodyPost_end (results_none rfl _ _ _) rfl ⟨rfl, ?_⟩
    rw [← HE.out]
    exact HS3.out
end Go.Proofs.YtlbamdlegloieaaDoor
