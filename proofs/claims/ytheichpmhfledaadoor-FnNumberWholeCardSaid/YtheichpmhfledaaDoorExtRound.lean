/- Round, of a whole number below 2^53 by 1, walked. -/
import Derived.Test.YtheichpmhfledaaDoorPRoundx2
import Derived.Handy
import Derived.Test.YtheichpmhfledaaDoorExtF
import Derived.Below
import Derived.Test.YtheichpmhfledaaDoorWMore
import Derived.Laws.FloatArith
import Derived.Laws.Cover2
import Derived.Laws.Cover3
import Derived.Lib.Hide
import Derived.Test.YtheichpmhfledaaDoorProg
import Derived.WalkKit
import Derived.KernelRfl
import Derived.RegionTactic
import Derived.BigRegion
import Derived.BigQuiet
import Derived.LoopTactic
import Derived.Outline
import Derived.OwnWalk
import Derived.Deep.RegionLaw
set_option linter.unusedVariables false
namespace Go.Proofs.YtheichpmhfledaaDoor
open Go Go.RowKit Go.Proofs.YtheichpmhfledaaDoorW.PrintWords Go.Proofs.YtheichpmhfledaaDoor.PRound
/-- A slice of limbs that lies whole. -/
def Limbs (A : Option Addr) (c : Nat) (xs : List Int) (u : World) : Prop := Kd.V (Kd.int .u64) 40 u u.heap.size (fun _ => True) (.slice A xs.length c) xs
theorem drawn_below {w u u' : World} (hb : Below w.heap.size w u) (h : Drawn0 u u') : Below w.heap.size w u' := by
  obtain ⟨n, rfl⟩ := h.out
  exact hb.trans ⟨rfl, rfl, rfl, Nat.le_refl _, fun _ _ => rfl⟩
theorem next_below {w u u' : World} (hb : Below w.heap.size w u) (h : Below u.heap.size u u') : Below w.heap.size w u' := hb.trans (h.mono hb.size)
theorem bits_w {w : World} {k : Nat} {A0 : Option Addr} {c0 : Nat} {l0 : List Int} {p : Int} (hr : Kd.C (Kd.int .u64) w A0 l0.length l0) (hc : l0.length ≤ c0) (h : spec_natBits.f k l0 = some p) (u : World) (hb : Below w.heap.size w u) :
    Calls Tryd.prog 64 #[.slice A0 l0.length c0] u fun e u' => e = .returned (.int .i64 p) ∧ Below w.heap.size w u' :=
  (spec_natBits.calls k A0 c0 l0 p u (Kd.C_below hr hb) hc h).mono fun e u' ⟨he, hd⟩ => ⟨he, drawn_below hb hd⟩
theorem shift_w {w : World} {k : Nat} {A0 : Option Addr} {c0 : Nat} {l0 r : List Int} {a : Int} (hr : Kd.C (Kd.int .u64) w A0 l0.length l0) (hc : l0.length ≤ c0) (h : spec_natShift.f k l0 a = some r) (u : World) (hb : Below w.heap.size w u) :
    Calls Tryd.prog 65 #[.slice A0 l0.length c0, .int .i64 a] u fun e u' => ∃ A c, e = .returned (.slice A r.length c) ∧ Limbs A c r u' ∧ Below w.heap.size w u' :=
  (spec_natShift.calls k A0 c0 l0 a r u (Kd.C_below hr hb) hc h).mono fun e u' ⟨v, he, hR, hb2⟩ => by
    obtain ⟨A, c, rfl⟩ := Kd.R_slice hR
    exact ⟨A, c, he, Kd.R_V hR, next_below hb hb2⟩
theorem shift_x {w : World} {k : Nat} {l0 r : List Int} {a : Int} (h : spec_natShift.f k l0 a = some r) (u : World) (A0 : Option Addr) (c0 : Nat) (hx : Limbs A0 c0 l0 u) (hb : Below w.heap.size w u) :
    Calls Tryd.prog 65 #[.slice A0 l0.length c0, .int .i64 a] u fun e u' => ∃ A c, e = .returned (.slice A r.length c) ∧ Limbs A c r u' ∧ Below w.heap.size w u' :=
  (spec_natShift.calls k A0 c0 l0 a r u (Kd.V_reads' hx).2.2 (Kd.V_reads' hx).2.1 h).mono fun e u' ⟨v, he, hR, hb2⟩ => by
    obtain ⟨A, c, rfl⟩ := Kd.R_slice hR
    exact ⟨A, c, he, Kd.R_V hR, next_below hb hb2⟩
theorem div_x {w : World} {k : Nat} {A1 : Option Addr} {c1 : Nat} {l0 l1 r : List Int} {q : Int} (hr : Kd.C (Kd.int .u64) w A1 l1.length l1) (hc : l1.length ≤ c1) (h : spec_natDiv.f k l0 l1 = some (q, r)) (u : World) (A0 : Option Addr) (c0 : Nat) (hx : Limbs A0 c0 l0 u) (hb : Below w.heap.size w u) :
    Calls Tryd.prog 66 #[.slice A0 l0.length c0, .slice A1 l1.length c1] u fun e u' => ∃ A c, e = .returned (.tuple #[.int .u64 q, .slice A r.length c]) ∧ Limbs A c r u' ∧ Below w.heap.size w u' :=
  (spec_natDiv.calls k (fun _ => True) A0 c0 l0 A1 c1 l1 q r u hx (Kd.C_below hr hb) hc h).mono fun e u' ⟨v, he, hV, hb2⟩ => by
    obtain ⟨A, c, rfl⟩ := Kd.V_slice hV
    exact ⟨A, c, he, Kd.V_mono hV (fun _ _ => trivial), next_below hb hb2⟩
theorem cmp_x {w : World} {k : Nat} {A1 : Option Addr} {c1 : Nat} {l0 l1 : List Int} {q : Int} (hr : Kd.C (Kd.int .u64) w A1 l1.length l1) (hc : l1.length ≤ c1) (h : spec_natCmp.f k l0 l1 = some q) (u : World) (A0 : Option Addr) (c0 : Nat) (hx : Limbs A0 c0 l0 u) (hb : Below w.heap.size w u) :
    Calls Tryd.prog 67 #[.slice A0 l0.length c0, .slice A1 l1.length c1] u fun e u' => e = .returned (.int .i64 q) ∧ Below w.heap.size w u' :=
  (spec_natCmp.calls k A0 c0 l0 A1 c1 l1 q u (Kd.V_reads' hx).2.2 (Kd.V_reads' hx).2.1 (Kd.C_below hr hb) hc h).mono fun e u' ⟨he, hd⟩ => ⟨he, drawn_below hb hd⟩
theorem round_word (p e q : Int) (hp0 : 1 ≤ p) (hp1 : p ≤ 53) (he : e = p - 53) (h0 : 4503599627370496 ≤ q) (h1 : q < 9007199254740992) :
    Go.bits .or .u64 ((e + 1075) * 4503599627370496) (Go.bits .and .u64 q 4503599627370495) = (p + 1022) * 4503599627370496 + (q - 4503599627370496) := by
  have e2 : ((2 : Int) ^ 52) = 4503599627370496 := by decide
  have hm := bits_mask .u64 64 (by decide) wraps_u64 52 (by decide) q (by omega) (by omega)
  have e3 : ((2 : Int) ^ 52 - 1) = 4503599627370495 := by decide
  rw [e3, e2] at hm
  have hm2 : q % 4503599627370496 = q - 4503599627370496 := by omega
  rw [hm, hm2, bits_join .u64 64 (by decide) wraps_u64 52 ((e + 1075) * 4503599627370496) (q - 4503599627370496) (by omega) (by rw [e2]; omega) (by omega) (by omega) (by rw [e2]; omega) (by omega)]
  omega
set_option maxHeartbeats 4000000 in
set_option maxRecDepth 100000 in
theorem Round.walk (k : Nat) (A0 : Option Addr) (c0 : Nat) (l0 : List Int) (A1 : Option Addr) (c1 : Nat) (l1 : List Int) (p q1 q2 c : Int) (x1 x2 d1 d2 z : List Int) (w : World)
    (hr0 : Kd.C (Kd.int .u64) w A0 l0.length l0) (hc0 : l0.length ≤ c0) (hr1 : Kd.C (Kd.int .u64) w A1 l1.length l1) (hc1 : l1.length ≤ c1)
    (hn : 0 < l0.length) (b0 : spec_natBits.f k l0 = some p) (b1 : spec_natBits.f k l1 = some 1) (hp : 1 ≤ p ∧ p ≤ 53)
    (s1 : spec_natShift.f k l0 (54 - p) = some x1) (v1 : spec_natDiv.f k x1 l1 = some (q1, d1)) (g1 : 9007199254740992 ≤ q1)
    (s2 : spec_natShift.f k l0 (53 - p) = some x2) (v2 : spec_natDiv.f k x2 l1 = some (q2, d2)) (g2 : 4503599627370496 ≤ q2 ∧ q2 < 9007199254740992)
    (s3 : spec_natShift.f k d2 1 = some z) (m : spec_natCmp.f k z l1 = some c) (hc : c < 0) :
    Calls Tryd.prog 48 #[.slice A0 l0.length c0, .slice A1 l1.length c1] w fun e w' => e = .returned (.int .u64 ((p + 1022) * 4503599627370496 + (q2 - 4503599627370496))) ∧ Below w.heap.size w w' := by
  have HB := Lib.hid (Below.refl w.heap.size w)
  have HB0 := Lib.hid (bits_w hr0 hc0 b0)
  have HB1 := Lib.hid (bits_w hr1 hc1 b1)
  have HS1 := Lib.hid (shift_w hr0 hc0 s1)
  have HV1 := Lib.hid (div_x hr1 hc1 v1)
  have HS2 := Lib.hid (shift_w hr0 hc0 s2)
  have HV2 := Lib.hid (div_x hr1 hc1 v2)
  have HS3 := Lib.hid (shift_x (w := w) s3)
  have HM := Lib.hid (cmp_x hr1 hc1 m)
  have hp0 := hp.1
  have hp1 := hp.2
  have hq0 := g2.1
  have hq1 := g2.2
  have hn0 : ((l0.length : Int) == 0) = false := beq_eq_false_iff_ne.mpr (by omega)
  clear hr0 hr1 hc0 hc1 b0 b1 s1 v1 s2 v2 s3 m hp g2 hn
  go_enter Tryd.func48, Tryd.ntmps48
  go_wp2_with (first | (go_at_call 64; first | ((with_reducible refine (HB0.out _ HB.out).mono ?_); rintro e w2 ⟨rfl, hb⟩; replace HB := Lib.hid hb; clear hb) | ((with_reducible refine (HB1.out _ HB.out).mono ?_); rintro e w2 ⟨rfl, hb⟩; replace HB := Lib.hid hb; clear hb)))
  go_loopw [5] (fun v5 wr => ∃ (e : Int), (e = p - 54 ∨ e = p - 53) ∧ v5 = .int .i64 e ∧ Hid (Below w.heap.size w wr)) (fun v5 _ => (p - 53 - intOf v5).toNat)
  case atStart => exact ⟨p - 1 - 53, Or.inl (by omega), rfl, HB⟩
  clear HB
  obtain ⟨e, he, rfl, HB⟩ := hrel
  have e0 : -53 ≤ e := by omega
  have e1 : e ≤ 0 := by omega
  rcases he with he | he
  · have h54 : 54 - p = -e := by omega
    have HE := Lib.hid he
    rw [h54] at HS1
    clear HS2 HV2 HS3 HM he h54
    go_wp2_with (first | (go_at_call 65; first | ((with_reducible refine (HS1.out _ HB.out).mono ?_); rintro e w2 ⟨A2, C2, rfl, hx, hb⟩; have HX := Lib.hid hx; replace HB := Lib.hid hb; clear hb hx) | ((with_reducible refine (HS2.out _ HB.out).mono ?_); rintro e w2 ⟨A2, C2, rfl, hx, hb⟩; have HX := Lib.hid hx; replace HB := Lib.hid hb; clear hb hx) | ((with_reducible refine (HS3.out _ _ _ HY.out HB.out).mono ?_); rintro e w2 ⟨A4, C4, rfl, hx, hb⟩; have HZ := Lib.hid hx; replace HB := Lib.hid hb; clear hb hx)) | (go_at_call 66; first | ((with_reducible refine (HV1.out _ _ _ HX.out HB.out).mono ?_); rintro e w2 ⟨A3, C3, rfl, hx, hb⟩; have HY := Lib.hid hx; replace HB := Lib.hid hb; clear hb hx) | ((with_reducible refine (HV2.out _ _ _ HX.out HB.out).mono ?_); rintro e w2 ⟨A3, C3, rfl, hx, hb⟩; have HY := Lib.hid hx; replace HB := Lib.hid hb; clear hb hx)) | (go_at_call 67; (with_reducible refine (HM.out _ _ _ HZ.out HB.out).mono ?_); rintro e w2 ⟨rfl, hb⟩; replace HB := Lib.hid hb; clear hb))
    refine ⟨⟨e + 1, Or.inr (by have := HE.out; omega), rfl, HB⟩, ?_⟩
    have := HE.out
    show (p - 53 - (e + 1)).toNat < (p - 53 - e).toNat
    omega
  · have h53 : 53 - p = -e := by omega
    have HE := Lib.hid he
    rw [h53] at HS2
    clear HS1 HV1 he h53
    go_wp2_with (first | (go_at_call 65; first | ((with_reducible refine (HS1.out _ HB.out).mono ?_); rintro e w2 ⟨A2, C2, rfl, hx, hb⟩; have HX := Lib.hid hx; replace HB := Lib.hid hb; clear hb hx) | ((with_reducible refine (HS2.out _ HB.out).mono ?_); rintro e w2 ⟨A2, C2, rfl, hx, hb⟩; have HX := Lib.hid hx; replace HB := Lib.hid hb; clear hb hx) | ((with_reducible refine (HS3.out _ _ _ HY.out HB.out).mono ?_); rintro e w2 ⟨A4, C4, rfl, hx, hb⟩; have HZ := Lib.hid hx; replace HB := Lib.hid hb; clear hb hx)) | (go_at_call 66; first | ((with_reducible refine (HV1.out _ _ _ HX.out HB.out).mono ?_); rintro e w2 ⟨A3, C3, rfl, hx, hb⟩; have HY := Lib.hid hx; replace HB := Lib.hid hb; clear hb hx) | ((with_reducible refine (HV2.out _ _ _ HX.out HB.out).mono ?_); rintro e w2 ⟨A3, C3, rfl, hx, hb⟩; have HY := Lib.hid hx; replace HB := Lib.hid hb; clear hb hx)) | (go_at_call 67; (with_reducible refine (HM.out _ _ _ HZ.out HB.out).mono ?_); rintro e w2 ⟨rfl, hb⟩; replace HB := Lib.hid hb; clear hb))
    have hv := round_word p e q2 hp0 hp1 HE.out hq0 hq1
    go_ret
    exact ⟨congrArg (fun n => Ending.returned (Value.int IntKind.u64 n)) hv, HB.out⟩
end Go.Proofs.YtheichpmhfledaaDoor
