/- breakPatterns, walked. -/
import Derived.Test.YtlbamdlegloieaaDoorExtXor
import Derived.Test.YtlbamdlegloieaaDoorExtBits
import Derived.Laws.Bits64b
set_option linter.unusedVariables false
set_option linter.unusedSimpArgs false
namespace Go.Proofs.YtlbamdlegloieaaDoor
open Go Go.RowKit Go.Proofs.YtlbamdlegloieaaDoorW.PrintWords Go.Proofs.YtlbamdlegloieaaDoorW.PrintLast
/-- So many rounds are left; t have been made. -/
def bpRest (a L M i0 : Nat) : Nat → Nat → UInt64 × Array El → Array El
  | 0, _, st => st.2
  | k + 1, t, st => bpRest a L M i0 k (t + 1) (Sort.breakStep a L M st (i0 + t))
theorem bp_eq (d : Array El) (a b L : Nat) (hL : L = b - a) (h8 : 8 ≤ L) : Sort.breakPatterns d a b = bpRest a L (1 <<< Sort.bitsLen L) (a + L / 4 * 2 - 1) 3 0 (UInt64.ofNat L, d) := by
  unfold Sort.breakPatterns
  simp only [← hL]
  rw [if_pos h8]
  rfl
theorem bp_step (a L M i0 t : Nat) (r : UInt64) (d : Array El) (o : Nat) (ht : t < 3) (ho : (if (Sort.xorNext r).toNat &&& (M - 1) ≥ L then ((Sort.xorNext r).toNat &&& (M - 1)) - L else (Sort.xorNext r).toNat &&& (M - 1)) = o) :
    bpRest a L M i0 (3 - t) t (r, d) = bpRest a L M i0 (3 - (t + 1)) (t + 1) (Sort.xorNext r, Sort.swp d (i0 + t) (a + o)) := by
  rw [show 3 - t = (3 - (t + 1)) + 1 by omega, bpRest]
  unfold Sort.breakStep
  simp only [ho]
theorem setCell_heap_ne (w : World) (p : Addr) (v : Value) (n : Nat) (h : n ≠ p.block) : (w.setCell p v).heap[n]? = w.heap[n]? := Below.heap_setCell w p v n h
set_option maxHeartbeats 4000000 in
set_option maxRecDepth 100000 in
/-- Swap turns no other block. -/
theorem SwapO.calls (w0 w : World) (g : Nat) (d : Array El) (i j : Nat) (hi : i < 64) (hj : j < 64) (h : SS w0 g d w) :
    Calls Tryd.prog 59 #[.slice (some ⟨g, 0, none⟩) 64 64, .int .i64 (i : Int), .int .i64 (j : Int)] w fun e w' => e = .returned (.tuple #[]) ∧ SS w0 g (Sort.swp d i j) w' ∧ ∀ n, n ≠ g → w'.heap[n]? = w.heap[n]? := by
  obtain ⟨x0, x1, x2⟩ := h.cells i hi
  obtain ⟨y0, y1, y2⟩ := h.cells j hj
  have f0 := h.frozen (i * 3)
  have f1 := h.frozen (i * 3 + 1)
  have f2 := h.frozen (i * 3 + 2)
  have g0 := h.frozen (j * 3)
  have g1 := h.frozen (j * 3 + 1)
  have g2 := h.frozen (j * 3 + 2)
  have HS := Lib.hid h
  have p1 : (0 : Int) ≤ (i : Int) := by omega
  have p2 : (i : Int) < 64 := by omega
  have q1 : (0 : Int) ≤ (j : Int) := by omega
  have q2 : (j : Int) < 64 := by omega
  have HI := Lib.hid hi
  have HJ := Lib.hid hj
  have HK : ∀ (p q r s t u : Addr) (a b c x y z : Value), p.block = g → q.block = g → r.block = g → s.block = g → t.block = g → u.block = g → ∀ n, n ≠ g → (((((((w.setCell p a).setCell q b).setCell r c).setCell s x).setCell t y).setCell u z).drew).heap[n]? = w.heap[n]? := by
    intro p q r s t u a b c x y z e1 e2 e3 e4 e5 e6 n hn
    show (((((((w.setCell p a).setCell q b).setCell r c).setCell s x).setCell t y).setCell u z)).heap[n]? = w.heap[n]?
    rw [setCell_heap_ne _ _ _ _ (by rw [e6]; exact hn), setCell_heap_ne _ _ _ _ (by rw [e5]; exact hn), setCell_heap_ne _ _ _ _ (by rw [e4]; exact hn), setCell_heap_ne _ _ _ _ (by rw [e3]; exact hn), setCell_heap_ne _ _ _ _ (by rw [e2]; exact hn), setCell_heap_ne _ _ _ _ (by rw [e1]; exact hn)]
  have HKK := Lib.hid HK
  clear HK
  by_cases hij : i = j
  · subst hij
    clear h hi hj
    replace p1 := eq_true p1
    replace p2 := eq_true p2
    go_enter Tryd.func59, Tryd.ntmps59
    go_region
    all_goals
      refine bodyPost_end (results_none rfl _ _ _) rfl ⟨rfl, ?_, ?_⟩
      · exact (((HS.out.put i HI.out d[i]!).put i HI.out d[i]!).drew1)
      · exact HKK.out _ _ _ _ _ _ _ _ _ _ _ _ rfl rfl rfl rfl rfl rfl
  have n0 : (i * 3 = j * 3) = False := eq_false (by omega)
  have m0 : (j * 3 = i * 3) = False := eq_false (by omega)
  have n1 : (i * 3 = j * 3 + 1) = False := eq_false (by omega)
  have m1 : (j * 3 + 1 = i * 3) = False := eq_false (by omega)
  have n2 : (i * 3 = j * 3 + 2) = False := eq_false (by omega)
  have m2 : (j * 3 + 2 = i * 3) = False := eq_false (by omega)
  have n3 : (i * 3 + 1 = j * 3) = False := eq_false (by omega)
  have m3 : (j * 3 = i * 3 + 1) = False := eq_false (by omega)
  have n4 : (i * 3 + 1 = j * 3 + 1) = False := eq_false (by omega)
  have m4 : (j * 3 + 1 = i * 3 + 1) = False := eq_false (by omega)
  have n5 : (i * 3 + 1 = j * 3 + 2) = False := eq_false (by omega)
  have m5 : (j * 3 + 2 = i * 3 + 1) = False := eq_false (by omega)
  have n6 : (i * 3 + 2 = j * 3) = False := eq_false (by omega)
  have m6 : (j * 3 = i * 3 + 2) = False := eq_false (by omega)
  have n7 : (i * 3 + 2 = j * 3 + 1) = False := eq_false (by omega)
  have m7 : (j * 3 + 1 = i * 3 + 2) = False := eq_false (by omega)
  have n8 : (i * 3 + 2 = j * 3 + 2) = False := eq_false (by omega)
  have m8 : (j * 3 + 2 = i * 3 + 2) = False := eq_false (by omega)
  clear h hi hj
  replace p1 := eq_true p1
  replace p2 := eq_true p2
  replace q1 := eq_true q1
  replace q2 := eq_true q2
  go_enter Tryd.func59, Tryd.ntmps59
  go_region
  all_goals
    refine bodyPost_end (results_none rfl _ _ _) rfl ⟨rfl, ?_, ?_⟩
    · exact (((HS.out.put i HI.out d[j]!).put j HJ.out d[i]!).drew1)
    · exact HKK.out _ _ _ _ _ _ _ _ _ _ _ _ rfl rfl rfl rfl rfl rfl
theorem SwapX.calls (w0 w : World) (g gs r : Nat) (d : Array El) (i j : Nat) (hi : i < 64) (hj : j < 64) (h : XW w0 g d gs r w) :
    Calls Tryd.prog 59 #[.slice (some ⟨g, 0, none⟩) 64 64, .int .i64 (i : Int), .int .i64 (j : Int)] w fun e w' => e = .returned (.tuple #[]) ∧ XW w0 g (Sort.swp d i j) gs r w' :=
  (SwapO.calls w0 w g d i j hi hj h.1).mono fun e w' ⟨he, h1, h2⟩ => ⟨he, h1, (h2 gs (Nat.ne_of_gt h.2.2)).trans h.2.1, h.2.2⟩
theorem blen_le (L : Nat) (h : L ≤ 64) : Sort.bitsLen L ≤ 7 := by
  have : ∀ L : Fin 65, Sort.bitsLen L.1 ≤ 7 := by decide +kernel
  exact this ⟨L, by omega⟩
theorem blen_pow (L : Nat) (h1 : 1 ≤ L) (h : L ≤ 64) : 1 <<< Sort.bitsLen L ≤ 2 * L := by
  have : ∀ L : Fin 65, 1 ≤ L.1 → 1 <<< Sort.bitsLen L.1 ≤ 2 * L.1 := by decide +kernel
  exact this ⟨L, by omega⟩ h1
set_option maxHeartbeats 8000000 in
set_option maxRecDepth 100000 in
theorem Break.calls (w0 w : World) (g : Nat) (d : Array El) (a b : Nat) (hab : a ≤ b) (hb : b ≤ 64) (h : SS w0 g d w) :
    Calls Tryd.prog 27 #[.iface 45 (.slice (some ⟨g, 0, none⟩) 64 64), .int .i64 (a : Int), .int .i64 (b : Int)] w fun e w' => e = .returned (.tuple #[]) ∧ SS w0 g (Sort.breakPatterns d a b) w' := by
  obtain ⟨L, hL⟩ : ∃ L, L = b - a := ⟨_, rfl⟩
  have W1 := Lib.hid (show wrap64 ((b : Int) - (a : Int)) = (L : Int) by rw [i64 _ (by omega) (by omega)]; omega)
  have HS := Lib.hid h
  by_cases h8 : 8 ≤ L
  · have d1 : decide ((8 : Int) ≤ (L : Int)) = true := decide_eq_true (by omega)
    have d2 : decide (8 ≤ L) = true := decide_eq_true h8
    obtain ⟨q, hq⟩ : ∃ q, q = L / 4 := ⟨_, rfl⟩
    obtain ⟨q2, hq2⟩ : ∃ q2, q2 = q * 2 := ⟨_, rfl⟩
    obtain ⟨i9, hi9⟩ : ∃ i9, i9 = a + q2 := ⟨_, rfl⟩
    obtain ⟨i0, hi0⟩ : ∃ i0, i0 = i9 - 1 := ⟨_, rfl⟩
    obtain ⟨i1, hi1⟩ : ∃ i1, i1 = i9 + 1 := ⟨_, rfl⟩
    obtain ⟨M, hM⟩ : ∃ M : Nat, M = 1 <<< Sort.bitsLen L := ⟨_, rfl⟩
    have hM1 : 1 ≤ M := by rw [hM, Nat.one_shiftLeft]; exact Nat.two_pow_pos _
    have hM2 : M ≤ 2 * L := by rw [hM]; exact blen_pow L (by omega) (by omega)
    obtain ⟨M1, hM3⟩ : ∃ M1, M1 = M - 1 := ⟨_, rfl⟩
    have hNP := fun wz => Pow2.calls wz L (by omega)
    rw [← hM] at hNP
    rw [bp_eq d a b L hL h8, ← hM, ← hq, ← hq2, ← hi9, ← hi0]
    have HNP := Lib.hid hNP
    have W2 := Lib.hid (show IntKind.u64.wrap (L : Int) = (L : Int) by rw [IntKind.wrap_u64]; omega)
    have W3 := Lib.hid (show Int.tdiv (L : Int) 4 = (q : Int) by rw [Int.tdiv_eq_ediv_of_nonneg (by omega)]; omega)
    have W4 := Lib.hid (show wrap64 (q : Int) = (q : Int) by rw [i64 _ (by omega) (by omega)])
    have W5 := Lib.hid (show wrap64 ((q : Int) * 2) = (q2 : Int) by rw [i64 _ (by omega) (by omega)]; omega)
    have W6 := Lib.hid (show wrap64 ((a : Int) + (q2 : Int)) = (i9 : Int) by rw [i64 _ (by omega) (by omega)]; omega)
    have W7 := Lib.hid (show wrap64 ((i9 : Int) - 1) = (i0 : Int) by rw [i64 _ (by omega) (by omega)]; omega)
    have W8 := Lib.hid (show wrap64 ((i9 : Int) + 1) = (i1 : Int) by rw [i64 _ (by omega) (by omega)]; omega)
    have W9 := Lib.hid (show IntKind.u64.wrap ((M : Int) - 1) = (M1 : Int) by rw [IntKind.wrap_u64]; omega)
    have HF := Lib.hid (show i1 = i0 + 2 ∧ i0 + 2 < b ∧ a ≤ i0 ∧ b = a + L ∧ 8 ≤ L ∧ b ≤ 64 ∧ M1 = M - 1 ∧ M1 < 2 * L ∧ M ≤ 129 by omega)
    have HR0 := Lib.hid (show (UInt64.ofNat L).toNat = L by simp; omega)
    clear hNP hM hM1 hM2 hM3 hi0 hi1 hi9 hq hq2 h8 hL hab hb h
    have w1 := W1.out
    have w2 := W2.out
    have w3 := W3.out
    have w4 := W4.out
    have w5 := W5.out
    have w6 := W6.out
    have w7 := W7.out
    have w8 := W8.out
    go_enter Tryd.func27, Tryd.ntmps27
    go_wp2_with (first | (go_at_call 34; (with_reducible refine (HNP.out _).mono ?_); rintro e w9 ⟨rfl, rfl⟩) | ((with_reducible refine gate_dst (N := 7) rfl ?_); refine box_event ?hg (N := 7) ?hd (cs := #[.int .u64 0]) (t := 73) ?hr ?_; (case hd => rfl); (case hg => rfl); (case hr => first | (go_simp; done) | (go_simp; rfl)); intro gs hg wq7 hbox hb; have HX0 := Lib.hid (show XW w0 g d gs 0 wq7 from ⟨HS.out.keep hb, hbox, by rw [hg]; exact HS.out.2.2.2⟩); have z0 := (blk_cell hbox 0).trans rfl; have fz0 := blk_frozen hbox 0; clear hg hbox hb))
    have hx0 := HX0.out.put L
    generalize World.setCell wq7 _ _ = wq8 at *
    have HX := Lib.hid hx0
    clear z0 fz0 HX0 hx0
    (try rw [W1.out])
    (try rw [W2.out])
    (try rw [W3.out])
    (try rw [W4.out])
    (try rw [W5.out])
    (try rw [W6.out])
    (try rw [W7.out])
    clear w1 w2 w3 w4 w5 w6 w7 w8
    go_loopw [9] (fun v9 wr => ∃ (i : Nat) (dk : Array El), v9 = .int .i64 (i : Int) ∧ Hid (∃ (t : Nat) (r : UInt64), i = i0 + t ∧ t ≤ 3 ∧ XW w0 g dk gs r.toNat wr ∧ bpRest a L M i0 (3 - t) t (r, dk) = bpRest a L M i0 3 0 (UInt64.ofNat L, d))) (fun v9 _ => i0 + 3 - (intOf v9).toNat)
    case atStart => exact ⟨i0, d, rfl, Lib.hid ⟨0, UInt64.ofNat L, rfl, by omega, by rw [HR0.out]; exact HX.out, rfl⟩⟩
    obtain ⟨i, dk, rfl, HR⟩ := hrel
    obtain ⟨t, r, hit, ht, hX, hE⟩ := HR.out
    have hF := HF.out
    clear HR HX HS
    by_cases hi : i ≤ i1
    · have d3 : decide ((i : Int) ≤ (i1 : Int)) = true := decide_eq_true (by omega)
      have d4 : decide (i ≤ i1) = true := decide_eq_true hi
      obtain ⟨R, hR⟩ : ∃ R : Nat, R = (Sort.xorNext r).toNat := ⟨_, rfl⟩
      have hRlt : R < 18446744073709551616 := by rw [hR]; exact (Sort.xorNext r).toNat_lt
      have hRN : Sort.xorNextN r.toNat = R := by rw [hR, Sort.xorNext_toNat]
      have hNx := Next.calls w0 wr g gs r.toNat dk r.toNat_lt hX
      rw [hRN] at hNx
      have HNx := Lib.hid hNx
      obtain ⟨O, hO⟩ : ∃ O : Nat, O = R &&& M1 := ⟨_, rfl⟩
      have lO : O ≤ M1 := by rw [hO]; exact Nat.and_le_right
      have eA : bits .and .u64 (R : Int) (M1 : Int) = (O : Int) := by rw [bits_and_u64_nat _ _ hRlt (by omega), hO]
      obtain ⟨ii, hii⟩ : ∃ ii, ii = i + 1 := ⟨_, rfl⟩
      have WO := Lib.hid (show wrap64 (O : Int) = (O : Int) by rw [i64 _ (by omega) (by omega)])
      have WI := Lib.hid (show wrap64 ((i : Int) + 1) = (ii : Int) by rw [i64 _ (by omega) (by omega)]; omega)
      have hmeas : i0 + 3 - ii < i0 + 3 - i := by omega
      by_cases hLO : L ≤ O
      · obtain ⟨o, ho⟩ : ∃ o, o = O - L := ⟨_, rfl⟩
        obtain ⟨ao, hao⟩ : ∃ ao, ao = a + o := ⟨_, rfl⟩
        have d5 : decide ((L : Int) ≤ (O : Int)) = true := decide_eq_true (by omega)
        have d6 : decide (L ≤ O) = true := decide_eq_true hLO
        have Wo := Lib.hid (show wrap64 ((O : Int) - (L : Int)) = (o : Int) by rw [i64 _ (by omega) (by omega)]; omega)
        have Wa := Lib.hid (show wrap64 ((a : Int) + (o : Int)) = (ao : Int) by rw [i64 _ (by omega) (by omega)]; omega)
        have HSw := Lib.hid (fun wz (hz : XW w0 g dk gs R wz) => SwapX.calls w0 wz g gs R dk i ao (by omega) (by omega) hz)
        have HN := Lib.hid (show ii = i0 + (t + 1) ∧ t + 1 ≤ 3 ∧ bpRest a L M i0 (3 - (t + 1)) (t + 1) (Sort.xorNext r, Sort.swp dk i ao) = bpRest a L M i0 3 0 (UInt64.ofNat L, d) by
          refine ⟨by omega, by omega, ?_⟩
          rw [← hE, bp_step a L M i0 t r dk o (by omega) (by rw [← hR, ← hF.2.2.2.2.2.2.1, ← hO, if_pos hLO, ho]), hao, hit])
        have HRR := Lib.hid hR
        have HM := Lib.hid hmeas
        clear hit ht hX hE hF hi hR hRlt hRN hNx hO lO hii hmeas hLO ho hao
        have w1 := W1.out
        have w2 := W2.out
        have w3 := W3.out
        have w4 := W4.out
        have w5 := W5.out
        have w6 := W6.out
        have w8 := W8.out
        have w9 := W9.out
        have wO := WO.out
        have wI := WI.out
        have wa := Wa.out
        have wo := Wo.out
        go_wp2_with (first | (go_at_call 35; (with_reducible refine HNx.out.mono ?_); rintro e w10 ⟨rfl, hs⟩; have HZ1 := Lib.hid hs; clear hs) | (go_at_call 59; (with_reducible refine (HSw.out _ HZ1.out).mono ?_); rintro e w11 ⟨rfl, hs⟩; have HZ2 := Lib.hid hs; clear hs))
        go_roundw
        case rel => exact ⟨ii, _, by rw [wI], Lib.hid ⟨t + 1, Sort.xorNext r, HN.out.1, HN.out.2.1, by rw [← HRR.out]; exact HZ2.out, HN.out.2.2⟩⟩
        case measure =>
          rw [wI]
          show i0 + 3 - ((ii : Int)).toNat < i0 + 3 - ((i : Int)).toNat
          rw [Int.toNat_natCast, Int.toNat_natCast]
          exact HM.out
      · obtain ⟨ao, hao⟩ : ∃ ao, ao = a + O := ⟨_, rfl⟩
        have d5 : decide ((L : Int) ≤ (O : Int)) = false := decide_eq_false (by omega)
        have d6 : decide (L ≤ O) = false := decide_eq_false hLO
        have Wa := Lib.hid (show wrap64 ((a : Int) + (O : Int)) = (ao : Int) by rw [i64 _ (by omega) (by omega)]; omega)
        have HSw := Lib.hid (fun wz (hz : XW w0 g dk gs R wz) => SwapX.calls w0 wz g gs R dk i ao (by omega) (by omega) hz)
        have HN := Lib.hid (show ii = i0 + (t + 1) ∧ t + 1 ≤ 3 ∧ bpRest a L M i0 (3 - (t + 1)) (t + 1) (Sort.xorNext r, Sort.swp dk i ao) = bpRest a L M i0 3 0 (UInt64.ofNat L, d) by
          refine ⟨by omega, by omega, ?_⟩
          rw [← hE, bp_step a L M i0 t r dk O (by omega) (by rw [← hR, ← hF.2.2.2.2.2.2.1, ← hO, if_neg hLO]), hao, hit])
        have HRR := Lib.hid hR
        have HM := Lib.hid hmeas
        clear hit ht hX hE hF hi hR hRlt hRN hNx hO lO hii hmeas hLO hao
        have w1 := W1.out
        have w2 := W2.out
        have w3 := W3.out
        have w4 := W4.out
        have w5 := W5.out
        have w6 := W6.out
        have w8 := W8.out
        have w9 := W9.out
        have wO := WO.out
        have wI := WI.out
        have wa := Wa.out
        go_wp2_with (first | (go_at_call 35; (with_reducible refine HNx.out.mono ?_); rintro e w10 ⟨rfl, hs⟩; have HZ1 := Lib.hid hs; clear hs) | (go_at_call 59; (with_reducible refine (HSw.out _ HZ1.out).mono ?_); rintro e w11 ⟨rfl, hs⟩; have HZ2 := Lib.hid hs; clear hs))
        go_roundw
        case rel => exact ⟨ii, _, by rw [wI], Lib.hid ⟨t + 1, Sort.xorNext r, HN.out.1, HN.out.2.1, by rw [← HRR.out]; exact HZ2.out, HN.out.2.2⟩⟩
        case measure =>
          rw [wI]
          show i0 + 3 - ((ii : Int)).toNat < i0 + 3 - ((i : Int)).toNat
          rw [Int.toNat_natCast, Int.toNat_natCast]
          exact HM.out
    · have d3 : decide ((i : Int) ≤ (i1 : Int)) = false := decide_eq_false (by omega)
      have d4 : decide (i ≤ i1) = false := decide_eq_false hi
      have HEnd := Lib.hid (show SS w0 g (bpRest a L M i0 3 0 (UInt64.ofNat L, d)) wr by
        obtain rfl : t = 3 := by omega
        rw [← hE]
        exact hX.1)
      clear hit ht hX hE hF hi
      have w1 := W1.out
      have w2 := W2.out
      have w3 := W3.out
      have w4 := W4.out
      have w5 := W5.out
      have w6 := W6.out
      have w8 := W8.out
      go_wp2
      refine bodyPost_end (results_none rfl _ _ _) rfl ⟨rfl, ?_⟩
      exact HEnd.out
  · have d1 : decide ((8 : Int) ≤ (L : Int)) = false := decide_eq_false (by omega)
    have d2 : decide (8 ≤ L) = false := decide_eq_false h8
    have HE := Lib.hid (show Sort.breakPatterns d a b = d by unfold Sort.breakPatterns; simp only [← hL]; rw [if_neg h8])
    clear h8 hL hab hb h
    have w1 := W1.out
    go_enter Tryd.func27, Tryd.ntmps27
    go_wp2
    refine bodyPost_end (results_none rfl _ _ _) rfl ⟨rfl, ?_⟩
    rw [HE.out]
    exact HS.out
end Go.Proofs.YtlbamdlegloieaaDoor
