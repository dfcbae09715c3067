/- partition, walked. -/
import Derived.Test.YtlbamdlegloieaaDoorExtPartEq
import Derived.Sort.LotC
set_option linter.unusedVariables false
set_option linter.unusedSimpArgs false
namespace Go.Proofs.YtlbamdlegloieaaDoor
open Go Go.RowKit Go.Proofs.YtlbamdlegloieaaDoorW.PrintWords Go.Proofs.YtlbamdlegloieaaDoorW.PrintLast
set_option maxHeartbeats 32000000 in
set_option maxRecDepth 100000 in
theorem Part.calls (w0 w : World) (g : Nat) (d : Array El) (a b pivot : Nat) (hap : a ≤ pivot) (hpb : pivot < b) (hb : b ≤ 64) (h : SS w0 g d w) :
    Calls Tryd.prog 32 #[.iface 45 (.slice (some ⟨g, 0, none⟩) 64 64), .int .i64 (a : Int), .int .i64 (b : Int), .int .i64 (pivot : Int)] w fun e w' =>
      e = .returned (.tuple #[.int .i64 ((Sort.partition ltE d a b pivot).1 : Int), .bool (Sort.partition ltE d a b pivot).2.1]) ∧ SS w0 g (Sort.partition ltE d a b pivot).2.2 w' := by
  obtain ⟨b0, hb0⟩ : ∃ b0, b0 = a + 1 := ⟨_, rfl⟩
  obtain ⟨b1, hb1⟩ : ∃ b1, b1 = b - 1 := ⟨_, rfl⟩
  have W1 := Lib.hid (show wrap64 ((a : Int) + 1) = (b0 : Int) by rw [i64 _ (by omega) (by omega)]; omega)
  have W2 := Lib.hid (show wrap64 ((b : Int) - 1) = (b1 : Int) by rw [i64 _ (by omega) (by omega)]; omega)
  have HSw0 := Lib.hid (Swap.calls w0 w g d a pivot (by omega) (by omega) h)
  have HBd := Lib.hid (show a < b0 ∧ b0 ≤ b1 + 1 ∧ b1 < 64 by omega)
  have HA := Lib.hid (show a < 64 by omega)
  obtain ⟨d0, hd0⟩ : ∃ d0, d0 = Sort.swp d a pivot := ⟨_, rfl⟩
  have HP := Lib.hid (show Sort.partition ltE d a b pivot = if Sort.scanUp (fun x => ltE x d0[a]!) d0 b1 b0 > Sort.scanDown (fun x => !ltE x d0[a]!) d0 (Sort.scanUp (fun x => ltE x d0[a]!) d0 b1 b0) b1 then (Sort.scanDown (fun x => !ltE x d0[a]!) d0 (Sort.scanUp (fun x => ltE x d0[a]!) d0 b1 b0) b1, true, Sort.swp d0 (Sort.scanDown (fun x => !ltE x d0[a]!) d0 (Sort.scanUp (fun x => ltE x d0[a]!) d0 b1 b0) b1) a) else ((Sort.partLoop ltE a (Sort.scanUp (fun x => ltE x d0[a]!) d0 b1 b0 + 1) (Sort.scanDown (fun x => !ltE x d0[a]!) d0 (Sort.scanUp (fun x => ltE x d0[a]!) d0 b1 b0) b1 - 1) (Sort.swp d0 (Sort.scanUp (fun x => ltE x d0[a]!) d0 b1 b0) (Sort.scanDown (fun x => !ltE x d0[a]!) d0 (Sort.scanUp (fun x => ltE x d0[a]!) d0 b1 b0) b1))).1, false, Sort.swp (Sort.partLoop ltE a (Sort.scanUp (fun x => ltE x d0[a]!) d0 b1 b0 + 1) (Sort.scanDown (fun x => !ltE x d0[a]!) d0 (Sort.scanUp (fun x => ltE x d0[a]!) d0 b1 b0) b1 - 1) (Sort.swp d0 (Sort.scanUp (fun x => ltE x d0[a]!) d0 b1 b0) (Sort.scanDown (fun x => !ltE x d0[a]!) d0 (Sort.scanUp (fun x => ltE x d0[a]!) d0 b1 b0) b1))).2 (Sort.partLoop ltE a (Sort.scanUp (fun x => ltE x d0[a]!) d0 b1 b0 + 1) (Sort.scanDown (fun x => !ltE x d0[a]!) d0 (Sort.scanUp (fun x => ltE x d0[a]!) d0 b1 b0) b1 - 1) (Sort.swp d0 (Sort.scanUp (fun x => ltE x d0[a]!) d0 b1 b0) (Sort.scanDown (fun x => !ltE x d0[a]!) d0 (Sort.scanUp (fun x => ltE x d0[a]!) d0 b1 b0) b1))).1 a) by
    rw [Sort.partition, hb0, hb1, hd0])
  rw [← hd0] at HSw0
  clear h hap hpb hb hb0 hb1 hd0
  go_enter Tryd.func32, Tryd.ntmps32
  go_wp2_with (first | (go_at_call 59; (with_reducible refine HSw0.out.mono ?_); rintro e w9 ⟨rfl, hs⟩; have HSk := Lib.hid hs; clear hs))
  (try rw [W1.out]); (try rw [W2.out])
  clear W1 W2
  go_loopw [10] (fun v wr2 => ∃ (i : Nat), v = .int .i64 (i : Int) ∧ Hid (b0 ≤ i ∧ i ≤ b1 + 1 ∧ SS w0 g d0 wr2 ∧ Sort.scanUp (fun x => ltE x d0[a]!) d0 b1 i = Sort.scanUp (fun x => ltE x d0[a]!) d0 b1 b0)) (fun v _ => b1 + 1 - (intOf v).toNat)
  case atStart => exact ⟨b0, rfl, Lib.hid ⟨Nat.le_refl _, HBd.out.2.1, HSk.out, rfl⟩⟩
  obtain ⟨i, rfl, HU⟩ := hrel
  have HSc := Lib.hid HU.out.2.2.1
  by_cases hij : i ≤ b1
  · have hbd := HBd.out
    have hi64 : i < 64 := by omega
    have ha64 : a < 64 := by have := HU.out.1; omega
    have d1 : decide ((i : Int) ≤ (b1 : Int)) = true := decide_eq_true (by omega)
    have d2 : decide (i ≤ b1) = true := decide_eq_true hij
    obtain ⟨i1, hi1⟩ : ∃ i1, i1 = i + 1 := ⟨_, rfl⟩
    have W := Lib.hid (show wrap64 ((i : Int) + 1) = (i1 : Int) by rw [i64 _ (by omega) (by omega)]; omega)
    have hle := fun wz (hz : SS w0 g d0 wz) => Less.calls w0 wz g d0 i a hi64 ha64 hz
    cases hL : ltE d0[i]! d0[a]! with
    | true =>
      rw [hL] at hle
      have HLe := Lib.hid hle
      have HN := Lib.hid (show b0 ≤ i1 ∧ i1 ≤ b1 + 1 ∧ b1 + 1 - i1 < b1 + 1 - i ∧ Sort.scanUp (fun x => ltE x d0[a]!) d0 b1 i1 = Sort.scanUp (fun x => ltE x d0[a]!) d0 b1 b0 from
        ⟨by have := HU.out.1; omega, by omega, by omega, by rw [hi1, ← up_go (fun x => ltE x d0[a]!) d0 i b1 hij (by simp [hL])]; exact HU.out.2.2.2⟩)
      clear hle hL hij hi1 hi64 ha64 hbd
      have w := W.out
      go_wp2_with (first | (go_at_call 58; (with_reducible refine (HLe.out _ HSc.out).mono ?_); rintro e w9 ⟨rfl, hs⟩; have HZ := Lib.hid hs; clear hs))
      go_roundw
      case rel => exact ⟨i1, by first | rfl | rw [w], Lib.hid ⟨HN.out.1, HN.out.2.1, HZ.out, HN.out.2.2.2⟩⟩
      case measure =>
        (try rw [w])
        show b1 + 1 - ((i1 : Int)).toNat < b1 + 1 - ((i : Int)).toNat
        rw [Int.toNat_natCast, Int.toNat_natCast]
        exact HN.out.2.2.1
    | false =>
      rw [hL] at hle
      have HLe := Lib.hid hle
      have HUp := Lib.hid (show b0 ≤ i ∧ i ≤ b1 + 1 ∧ Sort.scanUp (fun x => ltE x d0[a]!) d0 b1 b0 = i ∧ (i ≤ b1 → (fun x => ltE x d0[a]!) d0[i]! = false) from ⟨HU.out.1, HU.out.2.1, by rw [← HU.out.2.2.2, up_stop (fun x => ltE x d0[a]!) d0 i b1 (Or.inr (by simp [hL]))], fun _ => by simp [hL]⟩)
      clear hle hL hij hi1 hi64 ha64 hbd W
      go_wp2_with (first | (go_at_call 58; (with_reducible refine (HLe.out _ HSc.out).mono ?_); rintro e w9 ⟨rfl, hs⟩; have HZ := Lib.hid hs; clear hs))
      clear HSc d1 d2
      have HSc := HZ
      clear HZ
      have HSk2 := HSc
      clear HSc
      go_loopw [11] (fun v wr2 => ∃ (jj : Nat), v = .int .i64 (jj : Int) ∧ Hid (i ≤ jj + 1 ∧ jj ≤ b1 ∧ SS w0 g d0 wr2 ∧ Sort.scanDown (fun x => !ltE x d0[a]!) d0 i jj = Sort.scanDown (fun x => !ltE x d0[a]!) d0 i b1)) (fun v _ => (intOf v).toNat)
      case atStart => exact ⟨b1, rfl, Lib.hid ⟨HUp.out.2.1, Nat.le_refl _, HSk2.out, rfl⟩⟩
      obtain ⟨jj, rfl, HD⟩ := hrel
      have HSc := Lib.hid HD.out.2.2.1
      by_cases hij : i ≤ jj
      · have hbd := HBd.out
        have hup := HUp.out.1
        have hj64 : jj < 64 := by have := HD.out.2.1; omega
        have ha64 : a < 64 := by omega
        have d1 : decide ((i : Int) ≤ (jj : Int)) = true := decide_eq_true (by omega)
        have d2 : decide (i ≤ jj) = true := decide_eq_true hij
        obtain ⟨j1, hj1⟩ : ∃ j1, jj = j1 + 1 := ⟨jj - 1, by omega⟩
        have W := Lib.hid (show wrap64 ((jj : Int) - 1) = (j1 : Int) by rw [i64 _ (by omega) (by omega)]; omega)
        have hle := fun wz (hz : SS w0 g d0 wz) => Less.calls w0 wz g d0 jj a hj64 ha64 hz
        cases hL : ltE d0[jj]! d0[a]! with
        | false =>
          rw [hL] at hle
          have HLe := Lib.hid hle
          have HN := Lib.hid (show i ≤ j1 + 1 ∧ j1 ≤ b1 ∧ j1 < jj ∧ Sort.scanDown (fun x => !ltE x d0[a]!) d0 i j1 = Sort.scanDown (fun x => !ltE x d0[a]!) d0 i b1 from
            ⟨by omega, by have := HD.out.2.1; omega, by omega, by rw [← down_go (fun x => !ltE x d0[a]!) d0 i jj j1 hj1 hij (by simp [hL])]; exact HD.out.2.2.2⟩)
          clear hle hL hij hj1 hj64 ha64 hbd hup
          have w := W.out
          go_wp2_with (first | (go_at_call 58; (with_reducible refine (HLe.out _ HSc.out).mono ?_); rintro e w9 ⟨rfl, hs⟩; have HZ := Lib.hid hs; clear hs))
          go_roundw
          case rel => exact ⟨j1, by first | rfl | rw [w], Lib.hid ⟨HN.out.1, HN.out.2.1, HZ.out, HN.out.2.2.2⟩⟩
          case measure =>
            (try rw [w])
            show ((j1 : Int)).toNat < ((jj : Int)).toNat
            rw [Int.toNat_natCast, Int.toNat_natCast]
            exact HN.out.2.2.1
        | true =>
          rw [hL] at hle
          have HLe := Lib.hid hle
          have HDn := Lib.hid (show i ≤ jj + 1 ∧ jj ≤ b1 ∧ Sort.scanDown (fun x => !ltE x d0[a]!) d0 i b1 = jj from ⟨HD.out.1, HD.out.2.1, by rw [← HD.out.2.2.2, down_stop (fun x => !ltE x d0[a]!) d0 i jj (Or.inr (by simp [hL]))]⟩)
          have e3 : decide ((jj : Int) < (i : Int)) = false := decide_eq_false (by omega)
          have e4 : decide (jj < i) = false := decide_eq_false (by omega)
          have hij2 : ¬ jj < i := by omega
          have hij3 : i < jj := Nat.lt_of_le_of_ne hij (fun h => by have h5 := HUp.out.2.2.2 (by have := HD.out.2.1; omega); rw [h] at h5; simp [hL] at h5)
          clear hle hL hij hj1 hj64 ha64 hbd hup W
          obtain ⟨c0, hi1⟩ : ∃ c0, c0 = i + 1 := ⟨_, rfl⟩
          have hbd := HBd.out
          have hup := HUp.out
          have hdn := HDn.out
          obtain ⟨c1, hj1⟩ : ∃ c1, jj = c1 + 1 := ⟨jj - 1, by omega⟩
          have W1 := Lib.hid (show wrap64 ((i : Int) + 1) = (c0 : Int) by rw [i64 _ (by omega) (by omega)]; omega)
          have W2 := Lib.hid (show wrap64 ((jj : Int) - 1) = (c1 : Int) by rw [i64 _ (by omega) (by omega)]; omega)
          have HSw := Lib.hid (fun wz (hz : SS w0 g d0 wz) => Swap.calls w0 wz g d0 i jj (by omega) (by omega) hz)
          have HG := Lib.hid (show Sort.partition ltE d a b pivot = ((Sort.partLoop ltE a c0 c1 (Sort.swp d0 i jj)).1, false, Sort.swp (Sort.partLoop ltE a c0 c1 (Sort.swp d0 i jj)).2 (Sort.partLoop ltE a c0 c1 (Sort.swp d0 i jj)).1 a) by
            rw [HP.out]
            simp only [HUp.out.2.2.1, HDn.out.2.2]
            rw [if_neg hij2, show jj - 1 = c1 from by omega, ← hi1])
          have HB0 := Lib.hid (show a < c0 ∧ c0 ≤ c1 + 1 ∧ c1 < 64 by omega)
          clear hi1 hj1 hbd hup hdn hij2 hij3
          have w1 := W1.out
          have w2 := W2.out
          go_wp2_with (first | (go_at_call 58; (with_reducible refine (HLe.out _ HSc.out).mono ?_); rintro e w9 ⟨rfl, hs⟩; have HZ := Lib.hid hs; clear hs) | (go_at_call 59; (with_reducible refine (HSw.out _ HZ.out).mono ?_); rintro e w11 ⟨rfl, hs⟩; have HZ3 := Lib.hid hs; clear hs))
          (try rw [w1]); (try rw [w2])
          clear w1 w2 W1 W2 HUp HDn HBd HSw e3 e4 HLe HSc HZ HSk HSk2
          generalize Sort.swp d0 i jj = dm at *
          go_loopw [10, 11] (fun v9 v10 wr => ∃ (i0 j0 : Nat) (dk : Array El), v9 = .int .i64 (i0 : Int) ∧ v10 = .int .i64 (j0 : Int) ∧ Hid (a < i0 ∧ i0 ≤ j0 + 1 ∧ j0 < 64 ∧ SS w0 g dk wr ∧ Sort.partLoop ltE a i0 j0 dk = Sort.partLoop ltE a c0 c1 dm)) (fun v9 v10 _ => (intOf v10 + 1 - intOf v9).toNat)
          case atStart => exact ⟨c0, c1, dm, rfl, rfl, Lib.hid ⟨HB0.out.1, HB0.out.2.1, HB0.out.2.2, HZ3.out, rfl⟩⟩
          obtain ⟨i0, j0, dk, rfl, rfl, HR⟩ := hrel
          have HBd := Lib.hid (show a < i0 ∧ i0 ≤ j0 + 1 ∧ j0 < 64 from ⟨HR.out.1, HR.out.2.1, HR.out.2.2.1⟩)
          have HSk := Lib.hid HR.out.2.2.2.1
          clear HZ3
          go_wp2
          go_loopw [10] (fun v wr2 => ∃ (i : Nat), v = .int .i64 (i : Int) ∧ Hid (i0 ≤ i ∧ i ≤ j0 + 1 ∧ SS w0 g dk wr2 ∧ Sort.scanUp (fun x => ltE x dk[a]!) dk j0 i = Sort.scanUp (fun x => ltE x dk[a]!) dk j0 i0)) (fun v _ => j0 + 1 - (intOf v).toNat)
          case atStart => exact ⟨i0, rfl, Lib.hid ⟨Nat.le_refl _, HBd.out.2.1, HSk.out, rfl⟩⟩
          obtain ⟨i, rfl, HU⟩ := hrel
          have HSc := Lib.hid HU.out.2.2.1
          by_cases hij : i ≤ j0
          · have hbd := HBd.out
            have hi64 : i < 64 := by omega
            have ha64 : a < 64 := by have := HU.out.1; omega
            have d1 : decide ((i : Int) ≤ (j0 : Int)) = true := decide_eq_true (by omega)
            have d2 : decide (i ≤ j0) = true := decide_eq_true hij
            obtain ⟨i1, hi1⟩ : ∃ i1, i1 = i + 1 := ⟨_, rfl⟩
            have W := Lib.hid (show wrap64 ((i : Int) + 1) = (i1 : Int) by rw [i64 _ (by omega) (by omega)]; omega)
            have hle := fun wz (hz : SS w0 g dk wz) => Less.calls w0 wz g dk i a hi64 ha64 hz
            cases hL : ltE dk[i]! dk[a]! with
            | true =>
              rw [hL] at hle
              have HLe := Lib.hid hle
              have HN := Lib.hid (show i0 ≤ i1 ∧ i1 ≤ j0 + 1 ∧ j0 + 1 - i1 < j0 + 1 - i ∧ Sort.scanUp (fun x => ltE x dk[a]!) dk j0 i1 = Sort.scanUp (fun x => ltE x dk[a]!) dk j0 i0 from
                ⟨by have := HU.out.1; omega, by omega, by omega, by rw [hi1, ← up_go (fun x => ltE x dk[a]!) dk i j0 hij (by simp [hL])]; exact HU.out.2.2.2⟩)
              clear hle hL hij hi1 hi64 ha64 hbd
              have w := W.out
              go_wp2_with (first | (go_at_call 58; (with_reducible refine (HLe.out _ HSc.out).mono ?_); rintro e w9 ⟨rfl, hs⟩; have HZ := Lib.hid hs; clear hs))
              go_roundw
              case rel => exact ⟨i1, by first | rfl | rw [w], Lib.hid ⟨HN.out.1, HN.out.2.1, HZ.out, HN.out.2.2.2⟩⟩
              case measure =>
                (try rw [w])
                show j0 + 1 - ((i1 : Int)).toNat < j0 + 1 - ((i : Int)).toNat
                rw [Int.toNat_natCast, Int.toNat_natCast]
                exact HN.out.2.2.1
            | false =>
              rw [hL] at hle
              have HLe := Lib.hid hle
              have HUp := Lib.hid (show i0 ≤ i ∧ i ≤ j0 + 1 ∧ Sort.scanUp (fun x => ltE x dk[a]!) dk j0 i0 = i ∧ (i ≤ j0 → (fun x => ltE x dk[a]!) dk[i]! = false) from ⟨HU.out.1, HU.out.2.1, by rw [← HU.out.2.2.2, up_stop (fun x => ltE x dk[a]!) dk i j0 (Or.inr (by simp [hL]))], fun _ => by simp [hL]⟩)
              clear hle hL hij hi1 hi64 ha64 hbd W
              go_wp2_with (first | (go_at_call 58; (with_reducible refine (HLe.out _ HSc.out).mono ?_); rintro e w9 ⟨rfl, hs⟩; have HZ := Lib.hid hs; clear hs))
              clear HSc d1 d2
              have HSc := HZ
              clear HZ
              have HSk2 := HSc
              clear HSc
              go_loopw [11] (fun v wr2 => ∃ (jj : Nat), v = .int .i64 (jj : Int) ∧ Hid (i ≤ jj + 1 ∧ jj ≤ j0 ∧ SS w0 g dk wr2 ∧ Sort.scanDown (fun x => !ltE x dk[a]!) dk i jj = Sort.scanDown (fun x => !ltE x dk[a]!) dk i j0)) (fun v _ => (intOf v).toNat)
              case atStart => exact ⟨j0, rfl, Lib.hid ⟨HUp.out.2.1, Nat.le_refl _, HSk2.out, rfl⟩⟩
              obtain ⟨jj, rfl, HD⟩ := hrel
              have HSc := Lib.hid HD.out.2.2.1
              by_cases hij : i ≤ jj
              · have hbd := HBd.out
                have hup := HUp.out.1
                have hj64 : jj < 64 := by have := HD.out.2.1; omega
                have ha64 : a < 64 := by omega
                have d1 : decide ((i : Int) ≤ (jj : Int)) = true := decide_eq_true (by omega)
                have d2 : decide (i ≤ jj) = true := decide_eq_true hij
                obtain ⟨j1, hj1⟩ : ∃ j1, jj = j1 + 1 := ⟨jj - 1, by omega⟩
                have W := Lib.hid (show wrap64 ((jj : Int) - 1) = (j1 : Int) by rw [i64 _ (by omega) (by omega)]; omega)
                have hle := fun wz (hz : SS w0 g dk wz) => Less.calls w0 wz g dk jj a hj64 ha64 hz
                cases hL : ltE dk[jj]! dk[a]! with
                | false =>
                  rw [hL] at hle
                  have HLe := Lib.hid hle
                  have HN := Lib.hid (show i ≤ j1 + 1 ∧ j1 ≤ j0 ∧ j1 < jj ∧ Sort.scanDown (fun x => !ltE x dk[a]!) dk i j1 = Sort.scanDown (fun x => !ltE x dk[a]!) dk i j0 from
                    ⟨by omega, by have := HD.out.2.1; omega, by omega, by rw [← down_go (fun x => !ltE x dk[a]!) dk i jj j1 hj1 hij (by simp [hL])]; exact HD.out.2.2.2⟩)
                  clear hle hL hij hj1 hj64 ha64 hbd hup
                  have w := W.out
                  go_wp2_with (first | (go_at_call 58; (with_reducible refine (HLe.out _ HSc.out).mono ?_); rintro e w9 ⟨rfl, hs⟩; have HZ := Lib.hid hs; clear hs))
                  go_roundw
                  case rel => exact ⟨j1, by first | rfl | rw [w], Lib.hid ⟨HN.out.1, HN.out.2.1, HZ.out, HN.out.2.2.2⟩⟩
                  case measure =>
                    (try rw [w])
                    show ((j1 : Int)).toNat < ((jj : Int)).toNat
                    rw [Int.toNat_natCast, Int.toNat_natCast]
                    exact HN.out.2.2.1
                | true =>
                  rw [hL] at hle
                  have HLe := Lib.hid hle
                  have HDn := Lib.hid (show i ≤ jj + 1 ∧ jj ≤ j0 ∧ Sort.scanDown (fun x => !ltE x dk[a]!) dk i j0 = jj from ⟨HD.out.1, HD.out.2.1, by rw [← HD.out.2.2.2, down_stop (fun x => !ltE x dk[a]!) dk i jj (Or.inr (by simp [hL]))]⟩)
                  have e3 : decide ((jj : Int) < (i : Int)) = false := decide_eq_false (by omega)
                  have e4 : decide (jj < i) = false := decide_eq_false (by omega)
                  have hij2 : ¬ jj < i := by omega
                  have hij3 : i < jj := Nat.lt_of_le_of_ne hij (fun h => by have h5 := HUp.out.2.2.2 (by have := HD.out.2.1; omega); rw [h] at h5; simp [hL] at h5)
                  clear hle hL hij hj1 hj64 ha64 hbd hup W
                  obtain ⟨i1, hi1⟩ : ∃ i1, i1 = i + 1 := ⟨_, rfl⟩
                  have hbd := HBd.out
                  have hup := HUp.out
                  have hdn := HDn.out
                  obtain ⟨j1, hj1⟩ : ∃ j1, jj = j1 + 1 := ⟨jj - 1, by omega⟩
                  have W1 := Lib.hid (show wrap64 ((i : Int) + 1) = (i1 : Int) by rw [i64 _ (by omega) (by omega)]; omega)
                  have W2 := Lib.hid (show wrap64 ((jj : Int) - 1) = (j1 : Int) by rw [i64 _ (by omega) (by omega)]; omega)
                  have HSw := Lib.hid (fun wz (hz : SS w0 g dk wz) => Swap.calls w0 wz g dk i jj (by omega) (by omega) hz)
                  have HN := Lib.hid (show a < i1 ∧ i1 ≤ j1 + 1 ∧ j1 < 64 ∧ j1 + 1 - i1 < j0 + 1 - i0 ∧ Sort.partLoop ltE a i1 j1 (Sort.swp dk i jj) = Sort.partLoop ltE a c0 c1 dm by
                    refine ⟨by omega, by omega, by omega, by omega, ?_⟩
                    have h4 := HR.out.2.2.2.2
                    rw [Sort.partLoop_eq] at h4
                    simp only [HUp.out.2.2.1, HDn.out.2.2] at h4
                    rw [if_neg hij2, show jj - 1 = j1 from by omega, ← hi1] at h4
                    exact h4)
                  clear hi1 hj1 hbd hup hdn hij2 hij3
                  have w1 := W1.out
                  have w2 := W2.out
                  go_wp2_with (first | (go_at_call 58; (with_reducible refine (HLe.out _ HSc.out).mono ?_); rintro e w9 ⟨rfl, hs⟩; have HZ := Lib.hid hs; clear hs) | (go_at_call 59; (with_reducible refine (HSw.out _ HZ.out).mono ?_); rintro e w11 ⟨rfl, hs⟩; have HZ3 := Lib.hid hs; clear hs))
                  go_roundw
                  case rel => exact ⟨i1, j1, _, by first | rfl | rw [w1], by first | rfl | rw [w2], Lib.hid ⟨HN.out.1, HN.out.2.1, HN.out.2.2.1, HZ3.out, HN.out.2.2.2.2⟩⟩
                  case measure =>
                    (try rw [w1])
                    (try rw [w2])
                    show ((j1 : Int) + 1 - (i1 : Int)).toNat < ((j0 : Int) + 1 - (i0 : Int)).toNat
                    have := HN.out.2.2.2.1
                    omega
              · have d1 : decide ((i : Int) ≤ (jj : Int)) = false := decide_eq_false (by omega)
                have d2 : decide (i ≤ jj) = false := decide_eq_false hij
                have HDn := Lib.hid (show i ≤ jj + 1 ∧ jj ≤ j0 ∧ Sort.scanDown (fun x => !ltE x dk[a]!) dk i j0 = jj from ⟨HD.out.1, HD.out.2.1, by rw [← HD.out.2.2.2, down_stop (fun x => !ltE x dk[a]!) dk i jj (Or.inl hij)]⟩)
                have e3 : decide ((jj : Int) < (i : Int)) = true := decide_eq_true (by omega)
                have e4 : decide (jj < i) = true := decide_eq_true (by omega)
                have hij2 : jj < i := by omega
                clear hij
                have HE := Lib.hid (show Sort.partLoop ltE a c0 c1 dm = (jj, dk) by
                  rw [← HR.out.2.2.2.2, Sort.partLoop_eq]
                  simp only [HUp.out.2.2.1, HDn.out.2.2]
                  rw [if_pos hij2])
                have hbd := HBd.out
                have hdn := HDn.out
                have ha64 := HA.out
                have HSw := Lib.hid (fun wz (hz : SS w0 g dk wz) => Swap.calls w0 wz g dk jj a (by omega) (by omega) hz)
                clear hij2 hbd hdn ha64
                go_wp2_with (first | (go_at_call 59; (with_reducible refine (HSw.out _ HSc.out).mono ?_); rintro e w11 ⟨rfl, hs⟩; have HZ3 := Lib.hid hs; clear hs))
                refine bodyPost_ret (results_tmp2 rfl _ _ _) rfl ?_
                rw [HG.out, HE.out]
                exact ⟨rfl, HZ3.out⟩
          · have d1 : decide ((i : Int) ≤ (j0 : Int)) = false := decide_eq_false (by omega)
            have d2 : decide (i ≤ j0) = false := decide_eq_false hij
            have HUp := Lib.hid (show i0 ≤ i ∧ i ≤ j0 + 1 ∧ Sort.scanUp (fun x => ltE x dk[a]!) dk j0 i0 = i ∧ (i ≤ j0 → (fun x => ltE x dk[a]!) dk[i]! = false) from ⟨HU.out.1, HU.out.2.1, by rw [← HU.out.2.2.2, up_stop (fun x => ltE x dk[a]!) dk i j0 (Or.inl hij)], fun h => absurd h hij⟩)
            have HNo := Lib.hid hij
            clear hij
            go_wp2
            clear d1 d2
            have HSk2 := HSc
            clear HSc
            go_loopw [11] (fun v wr2 => ∃ (jj : Nat), v = .int .i64 (jj : Int) ∧ Hid (i ≤ jj + 1 ∧ jj ≤ j0 ∧ SS w0 g dk wr2 ∧ Sort.scanDown (fun x => !ltE x dk[a]!) dk i jj = Sort.scanDown (fun x => !ltE x dk[a]!) dk i j0)) (fun v _ => (intOf v).toNat)
            case atStart => exact ⟨j0, rfl, Lib.hid ⟨HUp.out.2.1, Nat.le_refl _, HSk2.out, rfl⟩⟩
            obtain ⟨jj, rfl, HD⟩ := hrel
            have HSc := Lib.hid HD.out.2.2.1
            by_cases hij : i ≤ jj
            · exact absurd (Nat.le_trans hij HD.out.2.1) HNo.out
            · have d1 : decide ((i : Int) ≤ (jj : Int)) = false := decide_eq_false (by omega)
              have d2 : decide (i ≤ jj) = false := decide_eq_false hij
              have HDn := Lib.hid (show i ≤ jj + 1 ∧ jj ≤ j0 ∧ Sort.scanDown (fun x => !ltE x dk[a]!) dk i j0 = jj from ⟨HD.out.1, HD.out.2.1, by rw [← HD.out.2.2.2, down_stop (fun x => !ltE x dk[a]!) dk i jj (Or.inl hij)]⟩)
              have e3 : decide ((jj : Int) < (i : Int)) = true := decide_eq_true (by omega)
              have e4 : decide (jj < i) = true := decide_eq_true (by omega)
              have hij2 : jj < i := by omega
              clear hij
              have HE := Lib.hid (show Sort.partLoop ltE a c0 c1 dm = (jj, dk) by
                rw [← HR.out.2.2.2.2, Sort.partLoop_eq]
                simp only [HUp.out.2.2.1, HDn.out.2.2]
                rw [if_pos hij2])
              have hbd := HBd.out
              have hdn := HDn.out
              have ha64 := HA.out
              have HSw := Lib.hid (fun wz (hz : SS w0 g dk wz) => Swap.calls w0 wz g dk jj a (by omega) (by omega) hz)
              clear hij2 hbd hdn ha64
              go_wp2_with (first | (go_at_call 59; (with_reducible refine (HSw.out _ HSc.out).mono ?_); rintro e w11 ⟨rfl, hs⟩; have HZ3 := Lib.hid hs; clear hs))
              refine bodyPost_ret (results_tmp2 rfl _ _ _) rfl ?_
              rw [HG.out, HE.out]
              exact ⟨rfl, HZ3.out⟩
      · have d1 : decide ((i : Int) ≤ (jj : Int)) = false := decide_eq_false (by omega)
        have d2 : decide (i ≤ jj) = false := decide_eq_false hij
        have HDn := Lib.hid (show i ≤ jj + 1 ∧ jj ≤ b1 ∧ Sort.scanDown (fun x => !ltE x d0[a]!) d0 i b1 = jj from ⟨HD.out.1, HD.out.2.1, by rw [← HD.out.2.2.2, down_stop (fun x => !ltE x d0[a]!) d0 i jj (Or.inl hij)]⟩)
        have e3 : decide ((jj : Int) < (i : Int)) = true := decide_eq_true (by omega)
        have e4 : decide (jj < i) = true := decide_eq_true (by omega)
        have hij2 : jj < i := by omega
        clear hij
        have HE := Lib.hid (show Sort.partition ltE d a b pivot = (jj, true, Sort.swp d0 jj a) by
          rw [HP.out]
          simp only [HUp.out.2.2.1, HDn.out.2.2]
          rw [if_pos hij2])
        have hbd := HBd.out
        have hdn := HDn.out
        have ha64 := HA.out
        have HSw := Lib.hid (fun wz (hz : SS w0 g d0 wz) => Swap.calls w0 wz g d0 jj a (by omega) (by omega) hz)
        clear hij2 hbd hdn ha64
        go_wp2_with (first | (go_at_call 59; (with_reducible refine (HSw.out _ HSc.out).mono ?_); rintro e w11 ⟨rfl, hs⟩; have HZ3 := Lib.hid hs; clear hs))
        refine bodyPost_ret (results_tmp2 rfl _ _ _) rfl ?_
        rw [HE.out]
        exact ⟨rfl, HZ3.out⟩
  · have d1 : decide ((i : Int) ≤ (b1 : Int)) = false := decide_eq_false (by omega)
    have d2 : decide (i ≤ b1) = false := decide_eq_false hij
    have HUp := Lib.hid (show b0 ≤ i ∧ i ≤ b1 + 1 ∧ Sort.scanUp (fun x => ltE x d0[a]!) d0 b1 b0 = i ∧ (i ≤ b1 → (fun x => ltE x d0[a]!) d0[i]! = false) from ⟨HU.out.1, HU.out.2.1, by rw [← HU.out.2.2.2, up_stop (fun x => ltE x d0[a]!) d0 i b1 (Or.inl hij)], fun h => absurd h hij⟩)
    have HNo := Lib.hid hij
    clear hij
    go_wp2
    clear d1 d2
    have HSk2 := HSc
    clear HSc
    go_loopw [11] (fun v wr2 => ∃ (jj : Nat), v = .int .i64 (jj : Int) ∧ Hid (i ≤ jj + 1 ∧ jj ≤ b1 ∧ SS w0 g d0 wr2 ∧ Sort.scanDown (fun x => !ltE x d0[a]!) d0 i jj = Sort.scanDown (fun x => !ltE x d0[a]!) d0 i b1)) (fun v _ => (intOf v).toNat)
    case atStart => exact ⟨b1, rfl, Lib.hid ⟨HUp.out.2.1, Nat.le_refl _, HSk2.out, rfl⟩⟩
    obtain ⟨jj, rfl, HD⟩ := hrel
    have HSc := Lib.hid HD.out.2.2.1
    by_cases hij : i ≤ jj
    · exact absurd (Nat.le_trans hij HD.out.2.1) HNo.out
    · have d1 : decide ((i : Int) ≤ (jj : Int)) = false := decide_eq_false (by omega)
      have d2 : decide (i ≤ jj) = false := decide_eq_false hij
      have HDn := Lib.hid (show i ≤ jj + 1 ∧ jj ≤ b1 ∧ Sort.scanDown (fun x => !ltE x d0[a]!) d0 i b1 = jj from ⟨HD.out.1, HD.out.2.1, by rw [← HD.out.2.2.2, down_stop (fun x => !ltE x d0[a]!) d0 i jj (Or.inl hij)]⟩)
      have e3 : decide ((jj : Int) < (i : Int)) = true := decide_eq_true (by omega)
      have e4 : decide (jj < i) = true := decide_eq_true (by omega)
      have hij2 : jj < i := by omega
      clear hij
      have HE := Lib.hid (show Sort.partition ltE d a b pivot = (jj, true, Sort.swp d0 jj a) by
        rw [HP.out]
        simp only [HUp.out.2.2.1, HDn.out.2.2]
        rw [if_pos hij2])
      have hbd := HBd.out
      have hdn := HDn.out
      have ha64 := HA.out
      have HSw := Lib.hid (fun wz (hz : SS w0 g d0 wz) => Swap.calls w0 wz g d0 jj a (by omega) (by omega) hz)
      clear hij2 hbd hdn ha64
      go_wp2_with (first | (go_at_call 59; (with_reducible refine (HSw.out _ HSc.out).mono ?_); rintro e w11 ⟨rfl, hs⟩; have HZ3 := Lib.hid hs; clear hs))
      refine bodyPost_ret (results_tmp2 rfl _ _ _) rfl ?_
      rw [HE.out]
      exact ⟨rfl, HZ3.out⟩
end Go.Proofs.YtlbamdlegloieaaDoor
