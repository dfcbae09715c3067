/- The law, walked. -/
import Derived.Test.YtlbamdlegloieaaDoorExtPlain
set_option linter.unusedVariables false
set_option linter.unusedSimpArgs false
namespace Go.Proofs.YtlbamdlegloieaaDoor
open Go Go.RowKit Go.Proofs.YtlbamdlegloieaaDoorW.PrintWords Go.Proofs.YtlbamdlegloieaaDoorW.PrintLast Go.Proofs.YtlbamdlegloieaaDoorW.PrintMore Go.Proofs.YtlbamdlegloieaaDoor.PFnShuffledName
theorem zero_name : (⟨(mini abcH abcT 0).toArray⟩ : ByteArray) = ⟨#[97]⟩ := by
  have e : mini abcH abcT 0 = [97] := by
    unfold mini
    rw [show 0 / abcH.size = 0 by decide, tails_zero]
    decide +kernel
  rw [e]
theorem step_d {B : Nat} {w wz w' : World} (hb : Below B w wz) (h : Drawn0 wz w') : Below B w w' := by
  obtain ⟨nd, rfl⟩ := h
  exact pw_below_drewN hb nd
theorem step_b {w wz w' : World} (hb : Below w.heap.size w wz) (h : Below wz.heap.size wz w') : Below w.heap.size w w' := hb.trans (h.mono hb.size)
def shortB (i : Int) : Bool := decide (0 ≤ i ∧ i ≤ 1073741824)
theorem short_f (i : Int) : laws_short.f i = some (shortB i) := by
  unfold laws_short.f shortB
  by_cases h : i ≥ 0
  · rw [if_pos h]
    have : decide (0 ≤ i ∧ i ≤ 1073741824) = decide (i ≤ 1073741824) := decide_eq_decide.2 ⟨fun x => x.2, fun x => ⟨h, x⟩⟩
    rw [this]
  · rw [if_neg h]
    have : decide (0 ≤ i ∧ i ≤ 1073741824) = false := decide_eq_false (fun x => h x.1)
    rw [this]
theorem c_short (i : Int) (w wz : World) (hz : Below w.heap.size w wz) : Calls Tryd.prog 5 #[.int .i64 i] wz fun e w' => e = .returned (.bool (shortB i)) ∧ Below w.heap.size w w' :=
  (laws_short.calls i _ wz (short_f i)).mono fun e w' ⟨he, hd⟩ => ⟨he, step_d hz hd⟩
theorem c_freq (A : Option Addr) (c : Nat) (l : List Int) (w wz : World) (hr : (Kd.int .i32).C w A l.length l) (hc : l.length ≤ c) (hz : Below w.heap.size w wz) :
    Calls Tryd.prog 6 #[.slice A l.length c] wz fun e w' => e = .returned (.bool ((l.length : Int) == 64)) ∧ Below w.heap.size w w' :=
  (laws_frequencies.calls A c l _ wz (Kd.C_below hr hz) hc rfl).mono fun e w' ⟨he, hd⟩ => ⟨he, step_d hz hd⟩
theorem c_shuf (A : Option Addr) (c : Nat) (l : List Int) (i : Nat) (hi : i ≤ 1073741824) (w wz : World) (hr : (Kd.int .i32).C w A 64 l) (hl : l.length = 64) (hI : Inv w) (hz : Below w.heap.size w wz) :
    Calls Tryd.prog 7 #[.slice A 64 c, .int .i64 (i : Int)] wz fun e w' => e = .returned (.string ⟨(mini (headB (shuf l)) (tailB (shuf l)) i).toArray⟩) ∧ Below w.heap.size w w' :=
  (ShufName.calls wz A c l i hi (Kd.C_below hr hz) hl (hI.below hz) (head_size l) (tail_size l)).mono fun e w' ⟨he, hb⟩ => ⟨he, step_b hz hb⟩
theorem c_name (l : List Int) (i : Nat) (hi : i ≤ 1073741824) (w wz : World) (hz : Below w.heap.size w wz) :
    Calls Tryd.prog 8 #[.string ⟨(mini (headB (shuf l)) (tailB (shuf l)) i).toArray⟩] wz fun e w' => e = .returned (.bool true) ∧ Below w.heap.size w w' := by
  obtain ⟨k, hk⟩ := mini_name l i hi
  exact (spec_NameAscii.calls k _ _ wz hk).mono fun e w' ⟨he, hd⟩ => ⟨he, step_d hz hd⟩
theorem c_min (i : Nat) (hi : i ≤ 1073741824) (w wz : World) (hI : Inv w) (hz : Below w.heap.size w wz) :
    Calls Tryd.prog 4 #[.int .i64 (i : Int)] wz fun e w' => e = .returned (.string ⟨(mini abcH abcT i).toArray⟩) ∧ Below w.heap.size w w' :=
  (MinName.calls wz i hi (hI.below hz)).mono fun e w' ⟨he, hb⟩ => ⟨he, step_b hz hb⟩
set_option maxHeartbeats 8000000 in
set_option maxRecDepth 100000 in
theorem Law.calls (w : World) (A : Option Addr) (c : Nat) (l : List Int) (i k : Int) (hr : (Kd.int .i32).C w A l.length l) (hc : l.length ≤ c) (hI : Inv w) :
    Calls Tryd.prog 3 #[.slice A l.length c, .int .i64 i, .int .i64 k] w fun e w' => e = .returned (.bool true) ∧ Below w.heap.size w w' := by
  have HB0 := Lib.hid (Below.refl w.heap.size w)
  by_cases hbig : l.length > 2147483647
  · have d1 : decide ((l.length : Int) > 2147483647) = true := decide_eq_true (by omega)
    have d2 : decide (2147483647 < (l.length : Int)) = true := decide_eq_true (by omega)
    have d3 : decide (2147483647 < l.length) = true := decide_eq_true (by omega)
    generalize l.length = n at *
    clear hbig hr hc hI
    go_enter Tryd.func3, Tryd.ntmps3
    go_wp2
    go_ret
    exact ⟨rfl, HB0.out⟩
  · have d1 : decide ((l.length : Int) > 2147483647) = false := decide_eq_false (by omega)
    have d2 : decide (2147483647 < (l.length : Int)) = false := decide_eq_false (by omega)
    have d3 : decide (2147483647 < l.length) = false := decide_eq_false (by omega)
    have C0 := Lib.hid (show Calls Tryd.prog 4 #[.int .i64 0] w fun e w' => e = .returned (.string ⟨#[97]⟩) ∧ Below w.heap.size w w' from zero_name ▸ MinName.calls w 0 (by omega) hI)
    have Ci := Lib.hid (fun wz hz => c_short i w wz hz)
    have Ck := Lib.hid (fun wz hz => c_short k w wz hz)
    have Cf := Lib.hid (fun wz hz => c_freq A c l w wz hr hc hz)
    by_cases hall : shortB i = true ∧ shortB k = true ∧ ((l.length : Int) == 64) = true
    · obtain ⟨h1, h2, h3⟩ := hall
      have hl : l.length = 64 := by have := eq_of_beq h3; omega
      have hi2 : 0 ≤ i ∧ i ≤ 1073741824 := of_decide_eq_true h1
      have hk2 : 0 ≤ k ∧ k ≤ 1073741824 := of_decide_eq_true h2
      obtain ⟨x, rfl⟩ : ∃ x : Nat, i = (x : Int) := ⟨i.toNat, by omega⟩
      obtain ⟨y, rfl⟩ : ∃ y : Nat, k = (y : Int) := ⟨k.toNat, by omega⟩
      have hx : x ≤ 1073741824 := by omega
      have hy : y ≤ 1073741824 := by omega
      rw [h1] at Ci
      rw [h2] at Ck
      rw [h3] at Cf
      rw [hl] at Cf hr hc d1 d2 d3 ⊢
      have Cx := Lib.hid (fun wz hz => c_shuf A c l x hx w wz hr hl hI hz)
      have Cy := Lib.hid (fun wz hz => c_shuf A c l y hy w wz hr hl hI hz)
      have Nx := Lib.hid (fun wz hz => c_name l x hx w wz hz)
      have Ny := Lib.hid (fun wz hz => c_name l y hy w wz hz)
      have Mx := Lib.hid (fun wz hz => c_min x hx w wz hI hz)
      have hlen : (⟨(mini (headB (shuf l)) (tailB (shuf l)) x).toArray⟩ : ByteArray).size = (⟨(mini abcH abcT x).toArray⟩ : ByteArray).size :=
        mini_len_eq _ _ _ _ ((head_size l).trans abcH_size.symm) ((tail_size l).trans abcT_size.symm) x
      have hinj : (⟨(mini (headB (shuf l)) (tailB (shuf l)) x).toArray⟩ : ByteArray).toList = (⟨(mini (headB (shuf l)) (tailB (shuf l)) y).toArray⟩ : ByteArray).toList ↔ x = y := by
        rw [Lib.toList_data, Lib.toList_data]
        refine ⟨fun e => ?_, fun e => by rw [e]⟩
        have e2 : mini (headB (shuf l)) (tailB (shuf l)) x = mini (headB (shuf l)) (tailB (shuf l)) y := by simpa using e
        exact mini_inj _ _ (head_nodup l) (tail_nodup l) (by rw [head_size l]; omega) (by rw [tail_size l]; omega) x y e2
      generalize (⟨(mini (headB (shuf l)) (tailB (shuf l)) x).toArray⟩ : ByteArray) = sx at *
      generalize (⟨(mini (headB (shuf l)) (tailB (shuf l)) y).toArray⟩ : ByteArray) = sy at *
      generalize (⟨(mini abcH abcT x).toArray⟩ : ByteArray) = sm at *
      have hsz : ∃ z : Nat, sx.size = z ∧ sm.size = z := ⟨_, rfl, hlen.symm⟩
      obtain ⟨z, z1, z2⟩ := hsz
      have hcase : ((sx.toList == sy.toList) = true ∧ ((x : Int) == (y : Int)) = true) ∨ ((sx.toList == sy.toList) = false ∧ ((x : Int) == (y : Int)) = false) := by
        by_cases e : x = y
        · exact Or.inl ⟨beq_iff_eq.2 (hinj.2 e), beq_iff_eq.2 (by omega)⟩
        · exact Or.inr ⟨beq_eq_false_iff_ne.2 (fun h => e (hinj.1 h)), beq_eq_false_iff_ne.2 (by omega)⟩
      clear hinj hlen hx hy hi2 hk2 h1 h2 h3 hl hr hc hI hbig
      rcases hcase with ⟨e1, e2⟩ | ⟨e1, e2⟩
      all_goals
        go_enter Tryd.func3, Tryd.ntmps3
        go_wp2_with (first
          | (go_at_call 4; first | ((with_reducible refine C0.out.mono ?_); rintro e wq1 ⟨rfl, hb⟩; have HB1 := Lib.hid hb; clear hb) | ((with_reducible refine (Mx.out _ HB8.out).mono ?_); rintro e wq9 ⟨rfl, hb⟩; have HB9 := Lib.hid hb; clear hb))
          | (go_at_call 5; first | ((with_reducible refine (Ci.out _ HB1.out).mono ?_); rintro e wq2 ⟨rfl, hb⟩; have HB2 := Lib.hid hb; clear hb) | ((with_reducible refine (Ck.out _ HB2.out).mono ?_); rintro e wq3 ⟨rfl, hb⟩; have HB3 := Lib.hid hb; clear hb))
          | (go_at_call 6; (with_reducible refine (Cf.out _ HB3.out).mono ?_); rintro e wq4 ⟨rfl, hb⟩; have HB4 := Lib.hid hb; clear hb)
          | (go_at_call 7; first | ((with_reducible refine (Cx.out _ HB4.out).mono ?_); rintro e wq5 ⟨rfl, hb⟩; have HB5 := Lib.hid hb; clear hb) | ((with_reducible refine (Cy.out _ HB5.out).mono ?_); rintro e wq6 ⟨rfl, hb⟩; have HB6 := Lib.hid hb; clear hb))
          | (go_at_call 8; first | ((with_reducible refine (Nx.out _ HB6.out).mono ?_); rintro e wq7 ⟨rfl, hb⟩; have HB7 := Lib.hid hb; clear hb) | ((with_reducible refine (Ny.out _ HB7.out).mono ?_); rintro e wq8 ⟨rfl, hb⟩; have HB8 := Lib.hid hb; clear hb)))
        go_ret
        exact ⟨rfl, HB9.out⟩
    · have hcase : shortB i = false ∨ (shortB i = true ∧ shortB k = false) ∨ (shortB i = true ∧ shortB k = true ∧ ((l.length : Int) == 64) = false) := by
        cases h1 : shortB i
        · exact Or.inl rfl
        · cases h2 : shortB k
          · exact Or.inr (Or.inl ⟨rfl, rfl⟩)
          · cases h3 : ((l.length : Int) == 64)
            · exact Or.inr (Or.inr ⟨rfl, rfl, rfl⟩)
            · exact absurd ⟨h1, h2, h3⟩ hall
      clear hall hbig hr hc hI
      generalize hb3 : ((l.length : Int) == 64) = b3 at *
      generalize shortB i = b1 at *
      generalize shortB k = b2 at *
      clear hb3
      rcases hcase with rfl | ⟨rfl, rfl⟩ | ⟨rfl, rfl, rfl⟩
      all_goals
        go_enter Tryd.func3, Tryd.ntmps3
        go_wp2_with (first
          | (go_at_call 4; (with_reducible refine C0.out.mono ?_); rintro e wq1 ⟨rfl, hb⟩; have HB1 := Lib.hid hb; clear hb)
          | (go_at_call 5; first | ((with_reducible refine (Ci.out _ HB1.out).mono ?_); rintro e wq2 ⟨rfl, hb⟩; have HB2 := Lib.hid hb; clear hb) | ((with_reducible refine (Ck.out _ HB2.out).mono ?_); rintro e wq3 ⟨rfl, hb⟩; have HB3 := Lib.hid hb; clear hb))
          | (go_at_call 6; (with_reducible refine (Cf.out _ HB3.out).mono ?_); rintro e wq4 ⟨rfl, hb⟩; have HB4 := Lib.hid hb; clear hb))
        go_ret
        exact ⟨rfl, by first | exact HB4.out | exact HB3.out | exact HB2.out⟩
end Go.Proofs.YtlbamdlegloieaaDoor
