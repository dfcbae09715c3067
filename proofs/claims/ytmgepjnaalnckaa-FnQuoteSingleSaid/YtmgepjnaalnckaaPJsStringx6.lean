-- Written by printx.py of this session, over the kit's print, with contracts of this session for some functions; of (*scan).point what stands behind '{' is left open
import Derived.Test.YtmgepjnaalnckaaPJsStringx0
import Derived.Test.YtmgepjnaalnckaaPJsStringx1
import Derived.Test.YtmgepjnaalnckaaPJsStringx5
import Derived.Test.YtmgepjnaalnckaaExtRest
namespace Go.Proofs.Ytmgepjnaalnckaa.PJsString
open Go.RowKit Go.Proofs.YtmgepjnaalnckaaW.PrintWords Go.Proofs.YtmgepjnaalnckaaW.PrintLast Go.Proofs.YtmgepjnaalnckaaW.PrintMore
attribute [local go_sem] max2_int min2_int max_two min_two max_three min_three max_four min_four   -- for this text's walks alone
set_option linter.unusedVariables false
set_option linter.unusedSimpArgs false

/-! ### spec_scan_point: function 83 -/
def spec_scan_point.l0 : Nat → Int → Int → ByteArray → Int → Bool → Bool → Int → Option (Int × Bool × ByteArray × Int × Bool × Bool × Int)
  | 0, _, _, _, _, _, _, _ => none
  | _ + 1, _, _, _, _, _, _, _ => none   -- cut down: see the head
def spec_scan_point.f (k : Nat) (s0_0 : ByteArray) (s0_1 : Int) (s0_2 : Bool) (s0_3 : Bool) (s0_4 : Int) : Option (Int × Bool × ByteArray × Int × Bool × Bool × Int) := (spec_scan_is.f s0_0 s0_1 s0_2 s0_3 s0_4 (⟨#[123]⟩ : ByteArray)).bind fun bt202 => (if bt202.1 = true then (spec_scan_point.l0 k 0 0 bt202.2.1 (wrap64 (bt202.2.2.1 + 1)) bt202.2.2.2.1 bt202.2.2.2.2.1 bt202.2.2.2.2.2) else ((spec_scan_hex.f k bt202.2.1 bt202.2.2.1 bt202.2.2.2.1 bt202.2.2.2.2.1 bt202.2.2.2.2.2 4).bind fun bt208 => (some (bt208.1, bt208.2.1, bt208.2.2.1, bt208.2.2.2.1, bt208.2.2.2.2.1, bt208.2.2.2.2.2.1, bt208.2.2.2.2.2.2))))
theorem spec_scan_point.mono_l : ∀ k, (∀ y0 y1 y2 y3 y4 y5 y6, LeO (spec_scan_point.l0 k y0 y1 y2 y3 y4 y5 y6) (spec_scan_point.l0 (k + 1) y0 y1 y2 y3 y4 y5 y6))
  | 0 => fun _ _ _ _ _ _ _ r h => by simp [spec_scan_point.l0] at h
  | k + 1 => by
    have ih0 := spec_scan_point.mono_l k
    · intro y0 y1 y2 y3 y4 y5 y6
      unfold spec_scan_point.l0
      repeat' first
      | (with_reducible exact ih0 _ _ _ _ _ _ _)
      | (with_reducible exact spec_scan_hex.mono _ _ _ _ _ _ _)
      | (with_reducible exact LeO.refl _)
      | (with_reducible exact LeO.none _)
      | (with_reducible refine LeO.ite ?_ ?_)
      | (with_reducible refine LeO.bind ?_ (fun _ => ?_))
      | exact ih0 _ _ _ _ _ _ _
      | exact spec_scan_hex.mono _ _ _ _ _ _ _
      | exact LeO.none _
      | refine LeO.ite ?_ ?_
      | refine LeO.bind ?_ (fun _ => ?_)
theorem spec_scan_point.mono : ∀ a0 a1 a2 a3 a4 k, LeO (spec_scan_point.f k a0 a1 a2 a3 a4) (spec_scan_point.f (k + 1) a0 a1 a2 a3 a4) := by
  intro a0 a1 a2 a3 a4 k
  have ih0 := spec_scan_point.mono_l k
  unfold spec_scan_point.f
  repeat' first
      | (with_reducible exact ih0 _ _ _ _ _ _ _)
      | (with_reducible exact spec_scan_hex.mono _ _ _ _ _ _ _)
      | (with_reducible exact LeO.refl _)
      | (with_reducible exact LeO.none _)
      | (with_reducible refine LeO.ite ?_ ?_)
      | (with_reducible refine LeO.bind ?_ (fun _ => ?_))
      | exact ih0 _ _ _ _ _ _ _
      | exact spec_scan_hex.mono _ _ _ _ _ _ _
      | exact LeO.none _
      | refine LeO.ite ?_ ?_
      | refine LeO.bind ?_ (fun _ => ?_)
set_option maxHeartbeats 8000000 in
set_option maxRecDepth 100000 in
theorem spec_scan_point.calls (k : Nat) (g : Nat) (s0_0 : ByteArray) (s0_1 : Int) (s0_2 : Bool) (s0_3 : Bool) (s0_4 : Int) (r1 : Int) (r2 : Bool) (r3 : ByteArray) (r4 : Int) (r5 : Bool) (r6 : Bool) (r7 : Int) (w0 w : World) (hI : IsS61 w0 w g s0_0 s0_1 s0_2 s0_3 s0_4) (hB : Below w0.heap.size w0 w) (h : spec_scan_point.f k s0_0 s0_1 s0_2 s0_3 s0_4 = some (r1, r2, r3, r4, r5, r6, r7)) :
    Calls Try.prog 83 #[.pointer (some ⟨g, 0, none⟩)] w fun e w' => e = .returned (.tuple #[.int .i64 r1, .bool r2]) ∧ IsS61 w0 w' g r3 r4 r5 r6 r7 ∧ Below w0.heap.size w0 w' ∧ KeepBut w w' g none := by
  have HI0 := Aside0.mk hI
  have HK := Aside0.mk (KeepBut.refl w g none)
  have HL := Aside0.mk hB.size
  clear hI
  have HW0 := Aside0.mk hB.size
  have HB := Aside0.mk hB
  clear hB
  have H : ((spec_scan_is.f s0_0 s0_1 s0_2 s0_3 s0_4 (⟨#[123]⟩ : ByteArray)).bind fun bt202 => (if bt202.1 = true then (spec_scan_point.l0 k 0 0 bt202.2.1 (wrap64 (bt202.2.2.1 + 1)) bt202.2.2.2.1 bt202.2.2.2.2.1 bt202.2.2.2.2.2) else ((spec_scan_hex.f k bt202.2.1 bt202.2.2.1 bt202.2.2.2.1 bt202.2.2.2.2.1 bt202.2.2.2.2.2 4).bind fun bt208 => (some (bt208.1, bt208.2.1, bt208.2.2.1, bt208.2.2.2.1, bt208.2.2.2.2.1, bt208.2.2.2.2.2.1, bt208.2.2.2.2.2.2))))) = some (r1, r2, r3, r4, r5, r6, r7) := h
  clear h
  replace H := Option.bind_eq_some_iff.mp H
  obtain ⟨⟨t202, t203, t204, t205, t206, t207⟩, A20, H⟩ := H
  replace H : (if t202 = true then (spec_scan_point.l0 k 0 0 t203 (wrap64 (t204 + 1)) t205 t206 t207) else ((spec_scan_hex.f k t203 t204 t205 t206 t207 4).bind fun bt208 => (some (bt208.1, bt208.2.1, bt208.2.2.1, bt208.2.2.2.1, bt208.2.2.2.2.1, bt208.2.2.2.2.2.1, bt208.2.2.2.2.2.2)))) = some (r1, r2, r3, r4, r5, r6, r7) := H
  have A2 := Aside0.mk A20
  clear A20
  by_cases c3 : t202 = true
  · subst c3
    exact absurd ((if_pos rfl).symm.trans H) (by cases k <;> simp [spec_scan_point.l0])
  · replace c3 := Bool.eq_false_iff.mpr c3
    subst c3
    have H1 : ((spec_scan_hex.f k t203 t204 t205 t206 t207 4).bind fun bt208 => (some (bt208.1, bt208.2.1, bt208.2.2.1, bt208.2.2.2.1, bt208.2.2.2.2.1, bt208.2.2.2.2.2.1, bt208.2.2.2.2.2.2))) = some (r1, r2, r3, r4, r5, r6, r7) := by rw [if_neg (show ¬ (false = true) by decide)] at H; exact H
    clear H
    have H := H1
    clear H1
    replace H := Option.bind_eq_some_iff.mp H
    obtain ⟨⟨t208, t209, t210, t211, t212, t213, t214⟩, A370, H⟩ := H
    replace H : (some (t208, t209, t210, t211, t212, t213, t214)) = some (r1, r2, r3, r4, r5, r6, r7) := H
    have A37 := Aside0.mk A370
    clear A370
    simp only [Option.some.injEq, Prod.mk.injEq] at H
    obtain ⟨rfl, rfl, rfl, rfl, rfl, rfl, rfl⟩ := H
    go_enter Try.func83, Try.ntmps83
    go_wp2_with (first | (go_at_call 38; (with_reducible refine (spec_scan_is.calls g s0_0 s0_1 s0_2 s0_3 s0_4 (⟨#[123]⟩ : ByteArray) false t203 t204 t205 t206 t207 w0 _ ?side1 ?side2 A2.out).mono ?_); (case side1 => repeat (first | (with_reducible first | exact HI0.out | apply IsS61.alloc | apply IsS61.drewN | apply IsS61.drew | apply IsS61.set_0 | apply IsS61.set_1 | apply IsS61.set_2 | apply IsS61.set_3 | apply IsS61.set_4) | exact HI0.out)); (case side2 => repeat (first | (with_reducible first | exact HB.out | apply below_alloc | apply pw_below_drewN | apply below_drew1 | refine below_set ?_ (IsS61.ge HI0.out)) | exact HB.out)); rintro e w38 ⟨rfl, hi, hb, hk⟩; have n0_ := Aside0.mk (KeepBut.trans (by repeat (first | (with_reducible first | exact HK.out | apply KeepBut.set_ | apply keep_drewN | apply keep_drew | apply keep_alloc) | exact HK.out)) hk (.inl rfl)); have n1_ := Aside0.mk (hb); have n2_ := Aside0.mk (hi); clear HK; clear HB; clear HI0; have HK := n0_; have HB := n1_; have HI0 := n2_; clear n0_ n1_ n2_; (try clear hb); (try clear hb2); (try clear hk); (try clear hi)) | (go_at_call 82; (with_reducible refine (spec_scan_hex.calls k g t203 t204 t205 t206 t207 4 t208 t209 t210 t211 t212 t213 t214 w0 _ ?side1 ?side2 A37.out).mono ?_); (case side1 => repeat (first | (with_reducible first | exact HI0.out | apply IsS61.alloc | apply IsS61.drewN | apply IsS61.drew | apply IsS61.set_0 | apply IsS61.set_1 | apply IsS61.set_2 | apply IsS61.set_3 | apply IsS61.set_4) | exact HI0.out)); (case side2 => repeat (first | (with_reducible first | exact HB.out | apply below_alloc | apply pw_below_drewN | apply below_drew1 | refine below_set ?_ (IsS61.ge HI0.out)) | exact HB.out)); rintro e w39 ⟨rfl, hi, hb, hk⟩; have n0_ := Aside0.mk (KeepBut.trans (by repeat (first | (with_reducible first | exact HK.out | apply KeepBut.set_ | apply keep_drewN | apply keep_drew | apply keep_alloc) | exact HK.out)) hk (.inl rfl)); have n1_ := Aside0.mk (hb); have n2_ := Aside0.mk (hi); clear HK; clear HB; clear HI0; have HK := n0_; have HB := n1_; have HI0 := n2_; clear n0_ n1_ n2_; (try clear hb); (try clear hb2); (try clear hk); (try clear hi)))
    repeat (go_quiet (first | (go_at_call 38; (with_reducible refine (spec_scan_is.calls g s0_0 s0_1 s0_2 s0_3 s0_4 (⟨#[123]⟩ : ByteArray) false t203 t204 t205 t206 t207 w0 _ ?side1 ?side2 A2.out).mono ?_); (case side1 => repeat (first | (with_reducible first | exact HI0.out | apply IsS61.alloc | apply IsS61.drewN | apply IsS61.drew | apply IsS61.set_0 | apply IsS61.set_1 | apply IsS61.set_2 | apply IsS61.set_3 | apply IsS61.set_4) | exact HI0.out)); (case side2 => repeat (first | (with_reducible first | exact HB.out | apply below_alloc | apply pw_below_drewN | apply below_drew1 | refine below_set ?_ (IsS61.ge HI0.out)) | exact HB.out)); rintro e w38 ⟨rfl, hi, hb, hk⟩; have n0_ := Aside0.mk (KeepBut.trans (by repeat (first | (with_reducible first | exact HK.out | apply KeepBut.set_ | apply keep_drewN | apply keep_drew | apply keep_alloc) | exact HK.out)) hk (.inl rfl)); have n1_ := Aside0.mk (hb); have n2_ := Aside0.mk (hi); clear HK; clear HB; clear HI0; have HK := n0_; have HB := n1_; have HI0 := n2_; clear n0_ n1_ n2_; (try clear hb); (try clear hb2); (try clear hk); (try clear hi)) | (go_at_call 82; (with_reducible refine (spec_scan_hex.calls k g t203 t204 t205 t206 t207 4 t208 t209 t210 t211 t212 t213 t214 w0 _ ?side1 ?side2 A37.out).mono ?_); (case side1 => repeat (first | (with_reducible first | exact HI0.out | apply IsS61.alloc | apply IsS61.drewN | apply IsS61.drew | apply IsS61.set_0 | apply IsS61.set_1 | apply IsS61.set_2 | apply IsS61.set_3 | apply IsS61.set_4) | exact HI0.out)); (case side2 => repeat (first | (with_reducible first | exact HB.out | apply below_alloc | apply pw_below_drewN | apply below_drew1 | refine below_set ?_ (IsS61.ge HI0.out)) | exact HB.out)); rintro e w39 ⟨rfl, hi, hb, hk⟩; have n0_ := Aside0.mk (KeepBut.trans (by repeat (first | (with_reducible first | exact HK.out | apply KeepBut.set_ | apply keep_drewN | apply keep_drew | apply keep_alloc) | exact HK.out)) hk (.inl rfl)); have n1_ := Aside0.mk (hb); have n2_ := Aside0.mk (hi); clear HK; clear HB; clear HI0; have HK := n0_; have HB := n1_; have HI0 := n2_; clear n0_ n1_ n2_; (try clear hb); (try clear hb2); (try clear hk); (try clear hi))); try go_wp2_with (first | (go_at_call 38; (with_reducible refine (spec_scan_is.calls g s0_0 s0_1 s0_2 s0_3 s0_4 (⟨#[123]⟩ : ByteArray) false t203 t204 t205 t206 t207 w0 _ ?side1 ?side2 A2.out).mono ?_); (case side1 => repeat (first | (with_reducible first | exact HI0.out | apply IsS61.alloc | apply IsS61.drewN | apply IsS61.drew | apply IsS61.set_0 | apply IsS61.set_1 | apply IsS61.set_2 | apply IsS61.set_3 | apply IsS61.set_4) | exact HI0.out)); (case side2 => repeat (first | (with_reducible first | exact HB.out | apply below_alloc | apply pw_below_drewN | apply below_drew1 | refine below_set ?_ (IsS61.ge HI0.out)) | exact HB.out)); rintro e w38 ⟨rfl, hi, hb, hk⟩; have n0_ := Aside0.mk (KeepBut.trans (by repeat (first | (with_reducible first | exact HK.out | apply KeepBut.set_ | apply keep_drewN | apply keep_drew | apply keep_alloc) | exact HK.out)) hk (.inl rfl)); have n1_ := Aside0.mk (hb); have n2_ := Aside0.mk (hi); clear HK; clear HB; clear HI0; have HK := n0_; have HB := n1_; have HI0 := n2_; clear n0_ n1_ n2_; (try clear hb); (try clear hb2); (try clear hk); (try clear hi)) | (go_at_call 82; (with_reducible refine (spec_scan_hex.calls k g t203 t204 t205 t206 t207 4 t208 t209 t210 t211 t212 t213 t214 w0 _ ?side1 ?side2 A37.out).mono ?_); (case side1 => repeat (first | (with_reducible first | exact HI0.out | apply IsS61.alloc | apply IsS61.drewN | apply IsS61.drew | apply IsS61.set_0 | apply IsS61.set_1 | apply IsS61.set_2 | apply IsS61.set_3 | apply IsS61.set_4) | exact HI0.out)); (case side2 => repeat (first | (with_reducible first | exact HB.out | apply below_alloc | apply pw_below_drewN | apply below_drew1 | refine below_set ?_ (IsS61.ge HI0.out)) | exact HB.out)); rintro e w39 ⟨rfl, hi, hb, hk⟩; have n0_ := Aside0.mk (KeepBut.trans (by repeat (first | (with_reducible first | exact HK.out | apply KeepBut.set_ | apply keep_drewN | apply keep_drew | apply keep_alloc) | exact HK.out)) hk (.inl rfl)); have n1_ := Aside0.mk (hb); have n2_ := Aside0.mk (hi); clear HK; clear HB; clear HI0; have HK := n0_; have HB := n1_; have HI0 := n2_; clear n0_ n1_ n2_; (try clear hb); (try clear hb2); (try clear hk); (try clear hi))))
    go_ret2
    exact ⟨by first | rfl | (simp [errW_none, errW_some] <;> rfl) | (simp [*, errW_none, errW_some] <;> rfl), by repeat (first | (with_reducible first | exact HI0.out | apply IsS61.alloc | apply IsS61.drewN | apply IsS61.drew | apply IsS61.set_0 | apply IsS61.set_1 | apply IsS61.set_2 | apply IsS61.set_3 | apply IsS61.set_4) | exact HI0.out), by repeat (first | (with_reducible first | exact HB.out | apply below_alloc | apply pw_below_drewN | apply below_drew1 | refine below_set ?_ (IsS61.ge HI0.out)) | exact HB.out), by repeat (first | (with_reducible first | exact HK.out | apply KeepBut.set_ | apply keep_drewN | apply keep_drew | apply keep_alloc) | exact HK.out)⟩

-- function 84 (spec_scan_octal): its contract stands in YtmgepjnaalnckaaExtOctal

end Go.Proofs.Ytmgepjnaalnckaa.PJsString
