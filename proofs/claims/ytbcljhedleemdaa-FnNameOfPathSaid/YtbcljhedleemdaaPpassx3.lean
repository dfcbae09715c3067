-- Written by printx.py of this session, over the kit's print, with contracts of this session for some functions
import Derived.Test.YtbcljhedleemdaaPpassx0
import Derived.Test.YtbcljhedleemdaaPpassx1
import Derived.Test.YtbcljhedleemdaaPpassx2
namespace Go.Proofs.Ytbcljhedleemdaa.Ppass
open Go.RowKit Go.Proofs.YtbcljhedleemdaaW.PrintWords Go.Proofs.YtbcljhedleemdaaW.PrintLast Go.Proofs.YtbcljhedleemdaaW.PrintMore
attribute [local go_sem] max2_int min2_int max_two min_two max_three min_three max_four min_four   -- for this text's walks alone
set_option linter.unusedVariables false
set_option linter.unusedSimpArgs false

/-! ### spec_scan_rest: function 20 -/
def spec_scan_rest.l0 : Nat → ByteArray → Int → Bool → Bool → Int → Option (ByteArray × Int × Bool × Bool × Int)
  | 0, _, _, _, _, _ => none
  | k + 1, x1000, x1001, x1002, x1003, x1004 => if x1001 < (x1000.size : Int) then ((spec_scan_rune.f k x1000 x1001 x1002 x1003 x1004).bind fun bt103 => ((spec_LineEnd.f bt103.1).bind fun t110 => (if t110 = true then (some (bt103.2.2.1, bt103.2.2.2.1, bt103.2.2.2.2.1, bt103.2.2.2.2.2.1, bt103.2.2.2.2.2.2)) else (if bt103.2.1 = 0 then (some (bt103.2.2.1, bt103.2.2.2.1, bt103.2.2.2.2.1, bt103.2.2.2.2.2.1, bt103.2.2.2.2.2.2)) else (spec_scan_rest.l0 k bt103.2.2.1 (wrap64 (bt103.2.2.2.1 + bt103.2.1)) bt103.2.2.2.2.1 bt103.2.2.2.2.2.1 bt103.2.2.2.2.2.2))))) else (some (x1000, x1001, x1002, x1003, x1004))
def spec_scan_rest.f (k : Nat) (s0_0 : ByteArray) (s0_1 : Int) (s0_2 : Bool) (s0_3 : Bool) (s0_4 : Int) : Option (ByteArray × Int × Bool × Bool × Int) := spec_scan_rest.l0 k s0_0 s0_1 s0_2 s0_3 s0_4
theorem spec_scan_rest.mono_l : ∀ k, (∀ y0 y1 y2 y3 y4, LeO (spec_scan_rest.l0 k y0 y1 y2 y3 y4) (spec_scan_rest.l0 (k + 1) y0 y1 y2 y3 y4))
  | 0 => fun _ _ _ _ _ r h => by simp [spec_scan_rest.l0] at h
  | k + 1 => by
    have ih0 := spec_scan_rest.mono_l k
    · intro y0 y1 y2 y3 y4
      unfold spec_scan_rest.l0
      repeat' first
      | (with_reducible exact ih0 _ _ _ _ _)
      | (with_reducible exact spec_scan_rune.mono _ _ _ _ _ _)
      | (with_reducible exact LeO.refl _)
      | (with_reducible exact LeO.none _)
      | (with_reducible refine LeO.ite ?_ ?_)
      | (with_reducible refine LeO.bind ?_ (fun _ => ?_))
      | exact ih0 _ _ _ _ _
      | exact spec_scan_rune.mono _ _ _ _ _ _
      | exact LeO.none _
      | refine LeO.ite ?_ ?_
      | refine LeO.bind ?_ (fun _ => ?_)
theorem spec_scan_rest.mono : ∀ a0 a1 a2 a3 a4 k, LeO (spec_scan_rest.f k a0 a1 a2 a3 a4) (spec_scan_rest.f (k + 1) a0 a1 a2 a3 a4) := by
  intro a0 a1 a2 a3 a4 k
  have ih0 := spec_scan_rest.mono_l k
  unfold spec_scan_rest.f
  repeat' first
      | (with_reducible exact ih0 _ _ _ _ _)
      | (with_reducible exact spec_scan_rune.mono _ _ _ _ _ _)
      | (with_reducible exact LeO.refl _)
      | (with_reducible exact LeO.none _)
      | (with_reducible refine LeO.ite ?_ ?_)
      | (with_reducible refine LeO.bind ?_ (fun _ => ?_))
      | exact ih0 _ _ _ _ _
      | exact spec_scan_rune.mono _ _ _ _ _ _
      | exact LeO.none _
      | refine LeO.ite ?_ ?_
      | refine LeO.bind ?_ (fun _ => ?_)
set_option maxHeartbeats 8000000 in
set_option maxRecDepth 100000 in
theorem spec_scan_rest.calls (k : Nat) (g : Nat) (s0_0 : ByteArray) (s0_1 : Int) (s0_2 : Bool) (s0_3 : Bool) (s0_4 : Int) (r1 : ByteArray) (r2 : Int) (r3 : Bool) (r4 : Bool) (r5 : Int) (w0 w : World) (hI : IsS37 w0 w g s0_0 s0_1 s0_2 s0_3 s0_4) (hB : Below w0.heap.size w0 w) (h : spec_scan_rest.f k s0_0 s0_1 s0_2 s0_3 s0_4 = some (r1, r2, r3, r4, r5)) :
    Calls Try.prog 20 #[.pointer (some ⟨g, 0, none⟩)] w fun e w' => e = .returned (.tuple #[]) ∧ IsS37 w0 w' g r1 r2 r3 r4 r5 ∧ Below w0.heap.size w0 w' ∧ KeepBut w w' g none := by
  have HI0 := Aside0.mk hI
  have HK := Aside0.mk (KeepBut.refl w g none)
  have HL := Aside0.mk hB.size
  clear hI
  have HW0 := Aside0.mk hB.size
  have HB := Aside0.mk hB
  clear hB
  have H : (spec_scan_rest.l0 k s0_0 s0_1 s0_2 s0_3 s0_4) = some (r1, r2, r3, r4, r5) := h
  clear h
  have H' := Aside0.mk H
  clear H
  go_enter Try.func20, Try.ntmps20
  go_wp2
  repeat (go_quiet (fail); try go_wp2)
  go_loopg [] k (fun kq w' => ∃ (x1000_1 : ByteArray) (x1001_1 : Int) (x1002_1 : Bool) (x1003_1 : Bool) (x1004_1 : Int), Aside0 (spec_scan_rest.l0 kq x1000_1 x1001_1 x1002_1 x1003_1 x1004_1 = some (r1, r2, r3, r4, r5)) ∧ Aside0 (kq ≤ k) ∧ Aside0 (IsS37 w0 w' g x1000_1 x1001_1 x1002_1 x1003_1 x1004_1) ∧ Aside0 (KeepBut w w' g none) ∧ Aside0 (Below w0.heap.size w0 w'))
  case atStart => exact ⟨(s0_0), (s0_1), (s0_2), (s0_3), (s0_4), H', ⟨Nat.le_refl _⟩, ⟨by repeat (first | (with_reducible first | exact HI0.out | apply IsS37.alloc | apply IsS37.drewN | apply IsS37.drew | apply IsS37.set_0 | apply IsS37.set_1 | apply IsS37.set_2 | apply IsS37.set_3 | apply IsS37.set_4) | exact HI0.out)⟩, ⟨by repeat (first | (with_reducible first | exact HK.out | apply KeepBut.set_ | apply keep_drewN | apply keep_drew | apply keep_alloc) | exact HK.out)⟩, ⟨by repeat (first | (with_reducible first | exact HB.out | apply below_alloc | apply pw_below_drewN | apply below_drew1 | refine below_set ?_ (IsS37.ge HI0.out)) | exact HB.out)⟩⟩
  case round =>
    clear H'
    obtain ⟨x1000_1, x1001_1, x1002_1, x1003_1, x1004_1, HA, HK1, HI0, HK, HB⟩ := hrel
    cases gk with
    | zero => exact absurd HA.out (by simp [spec_scan_rest.l0])
    | succ k1 =>
      have H := HA.out
      clear HA
      simp only [spec_scan_rest.l0] at H
      by_cases c2 : x1001_1 < (x1000_1.size : Int)
      · rw [if_pos c2] at H
        have c2b0 : decide (x1001_1 < (x1000_1.size : Int)) = true := decide_eq_true c2
        clear c2
        replace H := Option.bind_eq_some_iff.mp H
        obtain ⟨⟨t103, t104, t105, t106, t107, t108, t109⟩, A30, H⟩ := H
        replace H : ((spec_LineEnd.f t103).bind fun t110 => (if t110 = true then (some (t105, t106, t107, t108, t109)) else (if t104 = 0 then (some (t105, t106, t107, t108, t109)) else (spec_scan_rest.l0 k1 t105 (wrap64 (t106 + t104)) t107 t108 t109)))) = some (r1, r2, r3, r4, r5) := H
        have A3 := Aside0.mk A30
        clear A30
        replace H := Option.bind_eq_some_iff.mp H
        obtain ⟨t110, A40, H⟩ := H
        replace H : (if t110 = true then (some (t105, t106, t107, t108, t109)) else (if t104 = 0 then (some (t105, t106, t107, t108, t109)) else (spec_scan_rest.l0 k1 t105 (wrap64 (t106 + t104)) t107 t108 t109))) = some (r1, r2, r3, r4, r5) := H
        have A4 := Aside0.mk A40
        clear A40
        by_cases c5 : t110 = true
        · subst c5
          have H1 : (some (t105, t106, t107, t108, t109)) = some (r1, r2, r3, r4, r5) := by rw [if_pos rfl] at H; exact H
          clear H
          have H := H1
          clear H1
          simp only [Option.some.injEq, Prod.mk.injEq] at H
          obtain ⟨rfl, rfl, rfl, rfl, rfl⟩ := H
          obtain ⟨HGz6, hgz6⟩ := HI0.out
          have hcz6_0 := cellS37_0 HGz6
          have hcz6_1 := cellS37_1 HGz6
          have hcz6_2 := cellS37_2 HGz6
          have hcz6_3 := cellS37_3 HGz6
          have hcz6_4 := cellS37_4 HGz6
          have hfz6_0 := blk_frozen HGz6 0
          have hfz6_1 := blk_frozen HGz6 1
          have hfz6_2 := blk_frozen HGz6 2
          have hfz6_3 := blk_frozen HGz6 3
          have hfz6_4 := blk_frozen HGz6 4
          clear HGz6 hgz6
          go_wp2_with (first | (go_at_call 21; (with_reducible refine (spec_scan_rune.calls k1 g x1000_1 x1001_1 x1002_1 x1003_1 x1004_1 t103 t104 t105 t106 t107 t108 t109 w0 _ ?side1 ?side2 A3.out).mono ?_); (case side1 => repeat (first | (with_reducible first | exact HI0.out | apply IsS37.alloc | apply IsS37.drewN | apply IsS37.drew | apply IsS37.set_0 | apply IsS37.set_1 | apply IsS37.set_2 | apply IsS37.set_3 | apply IsS37.set_4) | exact HI0.out)); (case side2 => repeat (first | (with_reducible first | exact HB.out | apply below_alloc | apply pw_below_drewN | apply below_drew1 | refine below_set ?_ (IsS37.ge HI0.out)) | exact HB.out)); rintro e w7 ⟨rfl, hi, hb, hk⟩; have n0_ := Aside0.mk (KeepBut.trans (by repeat (first | (with_reducible first | exact HK.out | apply KeepBut.set_ | apply keep_drewN | apply keep_drew | apply keep_alloc) | exact HK.out)) hk (.inl rfl)); have n1_ := Aside0.mk (hb); have n2_ := Aside0.mk (hi); clear HK; clear HB; clear HI0; have HK := n0_; have HB := n1_; have HI0 := n2_; clear n0_ n1_ n2_; (try clear hb); (try clear hb2); (try clear hk); (try clear hi)) | (go_at_call 23; (with_reducible refine (spec_LineEnd.calls t103 true _ A4.out).mono ?_); rintro e w' ⟨rfl, ⟨nd, rfl⟩⟩; (try first | exact ⟨rfl, _, World.drewN_drewN _ _ _⟩ | exact ⟨rfl, _, Eq.trans (World.drewN_drewN _ _ _) (congrArg (World.drewN _) (Nat.add_assoc _ _ _))⟩)))
          repeat (go_quiet (first | (go_at_call 21; (with_reducible refine (spec_scan_rune.calls k1 g x1000_1 x1001_1 x1002_1 x1003_1 x1004_1 t103 t104 t105 t106 t107 t108 t109 w0 _ ?side1 ?side2 A3.out).mono ?_); (case side1 => repeat (first | (with_reducible first | exact HI0.out | apply IsS37.alloc | apply IsS37.drewN | apply IsS37.drew | apply IsS37.set_0 | apply IsS37.set_1 | apply IsS37.set_2 | apply IsS37.set_3 | apply IsS37.set_4) | exact HI0.out)); (case side2 => repeat (first | (with_reducible first | exact HB.out | apply below_alloc | apply pw_below_drewN | apply below_drew1 | refine below_set ?_ (IsS37.ge HI0.out)) | exact HB.out)); rintro e w7 ⟨rfl, hi, hb, hk⟩; have n0_ := Aside0.mk (KeepBut.trans (by repeat (first | (with_reducible first | exact HK.out | apply KeepBut.set_ | apply keep_drewN | apply keep_drew | apply keep_alloc) | exact HK.out)) hk (.inl rfl)); have n1_ := Aside0.mk (hb); have n2_ := Aside0.mk (hi); clear HK; clear HB; clear HI0; have HK := n0_; have HB := n1_; have HI0 := n2_; clear n0_ n1_ n2_; (try clear hb); (try clear hb2); (try clear hk); (try clear hi)) | (go_at_call 23; (with_reducible refine (spec_LineEnd.calls t103 true _ A4.out).mono ?_); rintro e w' ⟨rfl, ⟨nd, rfl⟩⟩; (try first | exact ⟨rfl, _, World.drewN_drewN _ _ _⟩ | exact ⟨rfl, _, Eq.trans (World.drewN_drewN _ _ _) (congrArg (World.drewN _) (Nat.add_assoc _ _ _))⟩))); try go_wp2_with (first | (go_at_call 21; (with_reducible refine (spec_scan_rune.calls k1 g x1000_1 x1001_1 x1002_1 x1003_1 x1004_1 t103 t104 t105 t106 t107 t108 t109 w0 _ ?side1 ?side2 A3.out).mono ?_); (case side1 => repeat (first | (with_reducible first | exact HI0.out | apply IsS37.alloc | apply IsS37.drewN | apply IsS37.drew | apply IsS37.set_0 | apply IsS37.set_1 | apply IsS37.set_2 | apply IsS37.set_3 | apply IsS37.set_4) | exact HI0.out)); (case side2 => repeat (first | (with_reducible first | exact HB.out | apply below_alloc | apply pw_below_drewN | apply below_drew1 | refine below_set ?_ (IsS37.ge HI0.out)) | exact HB.out)); rintro e w7 ⟨rfl, hi, hb, hk⟩; have n0_ := Aside0.mk (KeepBut.trans (by repeat (first | (with_reducible first | exact HK.out | apply KeepBut.set_ | apply keep_drewN | apply keep_drew | apply keep_alloc) | exact HK.out)) hk (.inl rfl)); have n1_ := Aside0.mk (hb); have n2_ := Aside0.mk (hi); clear HK; clear HB; clear HI0; have HK := n0_; have HB := n1_; have HI0 := n2_; clear n0_ n1_ n2_; (try clear hb); (try clear hb2); (try clear hk); (try clear hi)) | (go_at_call 23; (with_reducible refine (spec_LineEnd.calls t103 true _ A4.out).mono ?_); rintro e w' ⟨rfl, ⟨nd, rfl⟩⟩; (try first | exact ⟨rfl, _, World.drewN_drewN _ _ _⟩ | exact ⟨rfl, _, Eq.trans (World.drewN_drewN _ _ _) (congrArg (World.drewN _) (Nat.add_assoc _ _ _))⟩))))
          first | go_end0 | ((try simp only [Exit.inBlock, Exit.then]); refine bodyPost_ret (results_none rfl _ _ _) rfl ?_)
          exact ⟨by first | rfl | (simp [errW_none, errW_some] <;> rfl) | (simp [*, errW_none, errW_some] <;> rfl), by repeat (first | (with_reducible first | exact HI0.out | apply IsS37.alloc | apply IsS37.drewN | apply IsS37.drew | apply IsS37.set_0 | apply IsS37.set_1 | apply IsS37.set_2 | apply IsS37.set_3 | apply IsS37.set_4) | exact HI0.out), by repeat (first | (with_reducible first | exact HB.out | apply below_alloc | apply pw_below_drewN | apply below_drew1 | refine below_set ?_ (IsS37.ge HI0.out)) | exact HB.out), by repeat (first | (with_reducible first | exact HK.out | apply KeepBut.set_ | apply keep_drewN | apply keep_drew | apply keep_alloc) | exact HK.out)⟩
        · replace c5 := Bool.eq_false_iff.mpr c5
          subst c5
          have H1 : (if t104 = 0 then (some (t105, t106, t107, t108, t109)) else (spec_scan_rest.l0 k1 t105 (wrap64 (t106 + t104)) t107 t108 t109)) = some (r1, r2, r3, r4, r5) := by rw [if_neg (show ¬ (false = true) by decide)] at H; exact H
          clear H
          have H := H1
          clear H1
          by_cases c8 : t104 = 0
          · rw [if_pos c8] at H
            have c8b0 : (t104 == 0) = true := beq_iff_eq.mpr c8
            have c8b1 : (t104 != 0) = false := bne_eq_false_iff_eq.mpr c8
            clear c8
            simp only [Option.some.injEq, Prod.mk.injEq] at H
            obtain ⟨rfl, rfl, rfl, rfl, rfl⟩ := H
            obtain ⟨HGz9, hgz9⟩ := HI0.out
            have hcz9_0 := cellS37_0 HGz9
            have hcz9_1 := cellS37_1 HGz9
            have hcz9_2 := cellS37_2 HGz9
            have hcz9_3 := cellS37_3 HGz9
            have hcz9_4 := cellS37_4 HGz9
            have hfz9_0 := blk_frozen HGz9 0
            have hfz9_1 := blk_frozen HGz9 1
            have hfz9_2 := blk_frozen HGz9 2
            have hfz9_3 := blk_frozen HGz9 3
            have hfz9_4 := blk_frozen HGz9 4
            clear HGz9 hgz9
            go_wp2_with (first | (go_at_call 21; (with_reducible refine (spec_scan_rune.calls k1 g x1000_1 x1001_1 x1002_1 x1003_1 x1004_1 t103 t104 t105 t106 t107 t108 t109 w0 _ ?side1 ?side2 A3.out).mono ?_); (case side1 => repeat (first | (with_reducible first | exact HI0.out | apply IsS37.alloc | apply IsS37.drewN | apply IsS37.drew | apply IsS37.set_0 | apply IsS37.set_1 | apply IsS37.set_2 | apply IsS37.set_3 | apply IsS37.set_4) | exact HI0.out)); (case side2 => repeat (first | (with_reducible first | exact HB.out | apply below_alloc | apply pw_below_drewN | apply below_drew1 | refine below_set ?_ (IsS37.ge HI0.out)) | exact HB.out)); rintro e w10 ⟨rfl, hi, hb, hk⟩; have n0_ := Aside0.mk (KeepBut.trans (by repeat (first | (with_reducible first | exact HK.out | apply KeepBut.set_ | apply keep_drewN | apply keep_drew | apply keep_alloc) | exact HK.out)) hk (.inl rfl)); have n1_ := Aside0.mk (hb); have n2_ := Aside0.mk (hi); clear HK; clear HB; clear HI0; have HK := n0_; have HB := n1_; have HI0 := n2_; clear n0_ n1_ n2_; (try clear hb); (try clear hb2); (try clear hk); (try clear hi)) | (go_at_call 23; (with_reducible refine (spec_LineEnd.calls t103 false _ A4.out).mono ?_); rintro e w' ⟨rfl, ⟨nd, rfl⟩⟩; (try first | exact ⟨rfl, _, World.drewN_drewN _ _ _⟩ | exact ⟨rfl, _, Eq.trans (World.drewN_drewN _ _ _) (congrArg (World.drewN _) (Nat.add_assoc _ _ _))⟩)))
            repeat (go_quiet (first | (go_at_call 21; (with_reducible refine (spec_scan_rune.calls k1 g x1000_1 x1001_1 x1002_1 x1003_1 x1004_1 t103 t104 t105 t106 t107 t108 t109 w0 _ ?side1 ?side2 A3.out).mono ?_); (case side1 => repeat (first | (with_reducible first | exact HI0.out | apply IsS37.alloc | apply IsS37.drewN | apply IsS37.drew | apply IsS37.set_0 | apply IsS37.set_1 | apply IsS37.set_2 | apply IsS37.set_3 | apply IsS37.set_4) | exact HI0.out)); (case side2 => repeat (first | (with_reducible first | exact HB.out | apply below_alloc | apply pw_below_drewN | apply below_drew1 | refine below_set ?_ (IsS37.ge HI0.out)) | exact HB.out)); rintro e w10 ⟨rfl, hi, hb, hk⟩; have n0_ := Aside0.mk (KeepBut.trans (by repeat (first | (with_reducible first | exact HK.out | apply KeepBut.set_ | apply keep_drewN | apply keep_drew | apply keep_alloc) | exact HK.out)) hk (.inl rfl)); have n1_ := Aside0.mk (hb); have n2_ := Aside0.mk (hi); clear HK; clear HB; clear HI0; have HK := n0_; have HB := n1_; have HI0 := n2_; clear n0_ n1_ n2_; (try clear hb); (try clear hb2); (try clear hk); (try clear hi)) | (go_at_call 23; (with_reducible refine (spec_LineEnd.calls t103 false _ A4.out).mono ?_); rintro e w' ⟨rfl, ⟨nd, rfl⟩⟩; (try first | exact ⟨rfl, _, World.drewN_drewN _ _ _⟩ | exact ⟨rfl, _, Eq.trans (World.drewN_drewN _ _ _) (congrArg (World.drewN _) (Nat.add_assoc _ _ _))⟩))); try go_wp2_with (first | (go_at_call 21; (with_reducible refine (spec_scan_rune.calls k1 g x1000_1 x1001_1 x1002_1 x1003_1 x1004_1 t103 t104 t105 t106 t107 t108 t109 w0 _ ?side1 ?side2 A3.out).mono ?_); (case side1 => repeat (first | (with_reducible first | exact HI0.out | apply IsS37.alloc | apply IsS37.drewN | apply IsS37.drew | apply IsS37.set_0 | apply IsS37.set_1 | apply IsS37.set_2 | apply IsS37.set_3 | apply IsS37.set_4) | exact HI0.out)); (case side2 => repeat (first | (with_reducible first | exact HB.out | apply below_alloc | apply pw_below_drewN | apply below_drew1 | refine below_set ?_ (IsS37.ge HI0.out)) | exact HB.out)); rintro e w10 ⟨rfl, hi, hb, hk⟩; have n0_ := Aside0.mk (KeepBut.trans (by repeat (first | (with_reducible first | exact HK.out | apply KeepBut.set_ | apply keep_drewN | apply keep_drew | apply keep_alloc) | exact HK.out)) hk (.inl rfl)); have n1_ := Aside0.mk (hb); have n2_ := Aside0.mk (hi); clear HK; clear HB; clear HI0; have HK := n0_; have HB := n1_; have HI0 := n2_; clear n0_ n1_ n2_; (try clear hb); (try clear hb2); (try clear hk); (try clear hi)) | (go_at_call 23; (with_reducible refine (spec_LineEnd.calls t103 false _ A4.out).mono ?_); rintro e w' ⟨rfl, ⟨nd, rfl⟩⟩; (try first | exact ⟨rfl, _, World.drewN_drewN _ _ _⟩ | exact ⟨rfl, _, Eq.trans (World.drewN_drewN _ _ _) (congrArg (World.drewN _) (Nat.add_assoc _ _ _))⟩))))
            first | go_end0 | ((try simp only [Exit.inBlock, Exit.then]); refine bodyPost_ret (results_none rfl _ _ _) rfl ?_)
            exact ⟨by first | rfl | (simp [errW_none, errW_some] <;> rfl) | (simp [*, errW_none, errW_some] <;> rfl), by repeat (first | (with_reducible first | exact HI0.out | apply IsS37.alloc | apply IsS37.drewN | apply IsS37.drew | apply IsS37.set_0 | apply IsS37.set_1 | apply IsS37.set_2 | apply IsS37.set_3 | apply IsS37.set_4) | exact HI0.out), by repeat (first | (with_reducible first | exact HB.out | apply below_alloc | apply pw_below_drewN | apply below_drew1 | refine below_set ?_ (IsS37.ge HI0.out)) | exact HB.out), by repeat (first | (with_reducible first | exact HK.out | apply KeepBut.set_ | apply keep_drewN | apply keep_drew | apply keep_alloc) | exact HK.out)⟩
          · rw [if_neg c8] at H
            have c8b0 : (t104 == 0) = false := beq_eq_false_iff_ne.mpr c8
            have c8b1 : (t104 != 0) = true := bne_iff_ne.mpr c8
            have H' := Aside0.mk H
            clear H
            obtain ⟨HGz11, hgz11⟩ := HI0.out
            have hcz11_0 := cellS37_0 HGz11
            have hcz11_1 := cellS37_1 HGz11
            have hcz11_2 := cellS37_2 HGz11
            have hcz11_3 := cellS37_3 HGz11
            have hcz11_4 := cellS37_4 HGz11
            have hfz11_0 := blk_frozen HGz11 0
            have hfz11_1 := blk_frozen HGz11 1
            have hfz11_2 := blk_frozen HGz11 2
            have hfz11_3 := blk_frozen HGz11 3
            have hfz11_4 := blk_frozen HGz11 4
            clear HGz11 hgz11
            go_wp2_with (first | (go_at_call 21; (with_reducible refine (spec_scan_rune.calls k1 g x1000_1 x1001_1 x1002_1 x1003_1 x1004_1 t103 t104 t105 t106 t107 t108 t109 w0 _ ?side1 ?side2 A3.out).mono ?_); (case side1 => repeat (first | (with_reducible first | exact HI0.out | apply IsS37.alloc | apply IsS37.drewN | apply IsS37.drew | apply IsS37.set_0 | apply IsS37.set_1 | apply IsS37.set_2 | apply IsS37.set_3 | apply IsS37.set_4) | exact HI0.out)); (case side2 => repeat (first | (with_reducible first | exact HB.out | apply below_alloc | apply pw_below_drewN | apply below_drew1 | refine below_set ?_ (IsS37.ge HI0.out)) | exact HB.out)); rintro e w12 ⟨rfl, hi, hb, hk⟩; have n0_ := Aside0.mk (KeepBut.trans (by repeat (first | (with_reducible first | exact HK.out | apply KeepBut.set_ | apply keep_drewN | apply keep_drew | apply keep_alloc) | exact HK.out)) hk (.inl rfl)); have n1_ := Aside0.mk (hb); have n2_ := Aside0.mk (hi); clear HK; clear HB; clear HI0; have HK := n0_; have HB := n1_; have HI0 := n2_; clear n0_ n1_ n2_; (try clear hb); (try clear hb2); (try clear hk); (try clear hi)) | (go_at_call 23; (with_reducible refine (spec_LineEnd.calls t103 false _ A4.out).mono ?_); rintro e w' ⟨rfl, ⟨nd, rfl⟩⟩; (try first | exact ⟨rfl, _, World.drewN_drewN _ _ _⟩ | exact ⟨rfl, _, Eq.trans (World.drewN_drewN _ _ _) (congrArg (World.drewN _) (Nat.add_assoc _ _ _))⟩); obtain ⟨HGz13, hgz13⟩ := HI0.out; have hcz13_0 := cellS37_0 HGz13; have hcz13_1 := cellS37_1 HGz13; have hcz13_2 := cellS37_2 HGz13; have hcz13_3 := cellS37_3 HGz13; have hcz13_4 := cellS37_4 HGz13; have hfz13_0 := blk_frozen HGz13 0; have hfz13_1 := blk_frozen HGz13 1; have hfz13_2 := blk_frozen HGz13 2; have hfz13_3 := blk_frozen HGz13 3; have hfz13_4 := blk_frozen HGz13 4; clear HGz13 hgz13))
            repeat (go_quiet (first | (go_at_call 21; (with_reducible refine (spec_scan_rune.calls k1 g x1000_1 x1001_1 x1002_1 x1003_1 x1004_1 t103 t104 t105 t106 t107 t108 t109 w0 _ ?side1 ?side2 A3.out).mono ?_); (case side1 => repeat (first | (with_reducible first | exact HI0.out | apply IsS37.alloc | apply IsS37.drewN | apply IsS37.drew | apply IsS37.set_0 | apply IsS37.set_1 | apply IsS37.set_2 | apply IsS37.set_3 | apply IsS37.set_4) | exact HI0.out)); (case side2 => repeat (first | (with_reducible first | exact HB.out | apply below_alloc | apply pw_below_drewN | apply below_drew1 | refine below_set ?_ (IsS37.ge HI0.out)) | exact HB.out)); rintro e w12 ⟨rfl, hi, hb, hk⟩; have n0_ := Aside0.mk (KeepBut.trans (by repeat (first | (with_reducible first | exact HK.out | apply KeepBut.set_ | apply keep_drewN | apply keep_drew | apply keep_alloc) | exact HK.out)) hk (.inl rfl)); have n1_ := Aside0.mk (hb); have n2_ := Aside0.mk (hi); clear HK; clear HB; clear HI0; have HK := n0_; have HB := n1_; have HI0 := n2_; clear n0_ n1_ n2_; (try clear hb); (try clear hb2); (try clear hk); (try clear hi)) | (go_at_call 23; (with_reducible refine (spec_LineEnd.calls t103 false _ A4.out).mono ?_); rintro e w' ⟨rfl, ⟨nd, rfl⟩⟩; (try first | exact ⟨rfl, _, World.drewN_drewN _ _ _⟩ | exact ⟨rfl, _, Eq.trans (World.drewN_drewN _ _ _) (congrArg (World.drewN _) (Nat.add_assoc _ _ _))⟩); obtain ⟨HGz13, hgz13⟩ := HI0.out; have hcz13_0 := cellS37_0 HGz13; have hcz13_1 := cellS37_1 HGz13; have hcz13_2 := cellS37_2 HGz13; have hcz13_3 := cellS37_3 HGz13; have hcz13_4 := cellS37_4 HGz13; have hfz13_0 := blk_frozen HGz13 0; have hfz13_1 := blk_frozen HGz13 1; have hfz13_2 := blk_frozen HGz13 2; have hfz13_3 := blk_frozen HGz13 3; have hfz13_4 := blk_frozen HGz13 4; clear HGz13 hgz13)); try go_wp2_with (first | (go_at_call 21; (with_reducible refine (spec_scan_rune.calls k1 g x1000_1 x1001_1 x1002_1 x1003_1 x1004_1 t103 t104 t105 t106 t107 t108 t109 w0 _ ?side1 ?side2 A3.out).mono ?_); (case side1 => repeat (first | (with_reducible first | exact HI0.out | apply IsS37.alloc | apply IsS37.drewN | apply IsS37.drew | apply IsS37.set_0 | apply IsS37.set_1 | apply IsS37.set_2 | apply IsS37.set_3 | apply IsS37.set_4) | exact HI0.out)); (case side2 => repeat (first | (with_reducible first | exact HB.out | apply below_alloc | apply pw_below_drewN | apply below_drew1 | refine below_set ?_ (IsS37.ge HI0.out)) | exact HB.out)); rintro e w12 ⟨rfl, hi, hb, hk⟩; have n0_ := Aside0.mk (KeepBut.trans (by repeat (first | (with_reducible first | exact HK.out | apply KeepBut.set_ | apply keep_drewN | apply keep_drew | apply keep_alloc) | exact HK.out)) hk (.inl rfl)); have n1_ := Aside0.mk (hb); have n2_ := Aside0.mk (hi); clear HK; clear HB; clear HI0; have HK := n0_; have HB := n1_; have HI0 := n2_; clear n0_ n1_ n2_; (try clear hb); (try clear hb2); (try clear hk); (try clear hi)) | (go_at_call 23; (with_reducible refine (spec_LineEnd.calls t103 false _ A4.out).mono ?_); rintro e w' ⟨rfl, ⟨nd, rfl⟩⟩; (try first | exact ⟨rfl, _, World.drewN_drewN _ _ _⟩ | exact ⟨rfl, _, Eq.trans (World.drewN_drewN _ _ _) (congrArg (World.drewN _) (Nat.add_assoc _ _ _))⟩); obtain ⟨HGz13, hgz13⟩ := HI0.out; have hcz13_0 := cellS37_0 HGz13; have hcz13_1 := cellS37_1 HGz13; have hcz13_2 := cellS37_2 HGz13; have hcz13_3 := cellS37_3 HGz13; have hcz13_4 := cellS37_4 HGz13; have hfz13_0 := blk_frozen HGz13 0; have hfz13_1 := blk_frozen HGz13 1; have hfz13_2 := blk_frozen HGz13 2; have hfz13_3 := blk_frozen HGz13 3; have hfz13_4 := blk_frozen HGz13 4; clear HGz13 hgz13)))
            go_roundg k1
            case measure => have := HK1.out; omega
            case rel => exact ⟨(t105), (wrap64 (t106 + t104)), (t107), (t108), (t109), H', ⟨by have := HK1.out; omega⟩, ⟨by repeat (first | (with_reducible first | exact HI0.out | apply IsS37.alloc | apply IsS37.drewN | apply IsS37.drew | apply IsS37.set_0 | apply IsS37.set_1 | apply IsS37.set_2 | apply IsS37.set_3 | apply IsS37.set_4) | exact HI0.out)⟩, ⟨by repeat (first | (with_reducible first | exact HK.out | apply KeepBut.set_ | apply keep_drewN | apply keep_drew | apply keep_alloc) | exact HK.out)⟩, ⟨by repeat (first | (with_reducible first | exact HB.out | apply below_alloc | apply pw_below_drewN | apply below_drew1 | refine below_set ?_ (IsS37.ge HI0.out)) | exact HB.out)⟩⟩
      · rw [if_neg c2] at H
        have c2b0 : decide (x1001_1 < (x1000_1.size : Int)) = false := decide_eq_false c2
        clear c2
        simp only [Option.some.injEq, Prod.mk.injEq] at H
        obtain ⟨rfl, rfl, rfl, rfl, rfl⟩ := H
        obtain ⟨HGz14, hgz14⟩ := HI0.out
        have hcz14_0 := cellS37_0 HGz14
        have hcz14_1 := cellS37_1 HGz14
        have hcz14_2 := cellS37_2 HGz14
        have hcz14_3 := cellS37_3 HGz14
        have hcz14_4 := cellS37_4 HGz14
        have hfz14_0 := blk_frozen HGz14 0
        have hfz14_1 := blk_frozen HGz14 1
        have hfz14_2 := blk_frozen HGz14 2
        have hfz14_3 := blk_frozen HGz14 3
        have hfz14_4 := blk_frozen HGz14 4
        clear HGz14 hgz14
        go_wp2
        repeat (go_quiet (fail); try go_wp2)
        first | go_end0 | ((try simp only [Exit.inBlock, Exit.then]); refine bodyPost_ret (results_none rfl _ _ _) rfl ?_)
        exact ⟨by first | rfl | (simp [errW_none, errW_some] <;> rfl) | (simp [*, errW_none, errW_some] <;> rfl), by repeat (first | (with_reducible first | exact HI0.out | apply IsS37.alloc | apply IsS37.drewN | apply IsS37.drew | apply IsS37.set_0 | apply IsS37.set_1 | apply IsS37.set_2 | apply IsS37.set_3 | apply IsS37.set_4) | exact HI0.out), by repeat (first | (with_reducible first | exact HB.out | apply below_alloc | apply pw_below_drewN | apply below_drew1 | refine below_set ?_ (IsS37.ge HI0.out)) | exact HB.out), by repeat (first | (with_reducible first | exact HK.out | apply KeepBut.set_ | apply keep_drewN | apply keep_drew | apply keep_alloc) | exact HK.out)⟩

/-! ### spec_scan_fail: function 22 -/
def spec_scan_fail.f (s0_0 : ByteArray) (s0_1 : Int) (s0_2 : Bool) (s0_3 : Bool) (s0_4 : Int) (a1 : Int) : Option (ByteArray × Int × Bool × Bool × Int) := if s0_4 = 0 then (some (s0_0, s0_1, s0_2, s0_3, a1)) else (some (s0_0, s0_1, s0_2, s0_3, s0_4))
set_option maxHeartbeats 8000000 in
set_option maxRecDepth 100000 in
theorem spec_scan_fail.calls (g : Nat) (s0_0 : ByteArray) (s0_1 : Int) (s0_2 : Bool) (s0_3 : Bool) (s0_4 : Int) (a1 : Int) (r1 : ByteArray) (r2 : Int) (r3 : Bool) (r4 : Bool) (r5 : Int) (w0 w : World) (hI : IsS37 w0 w g s0_0 s0_1 s0_2 s0_3 s0_4) (hB : Below w0.heap.size w0 w) (h : spec_scan_fail.f s0_0 s0_1 s0_2 s0_3 s0_4 a1 = some (r1, r2, r3, r4, r5)) :
    Calls Try.prog 22 #[.pointer (some ⟨g, 0, none⟩), .int .i64 a1] w fun e w' => e = .returned (.tuple #[]) ∧ IsS37 w0 w' g r1 r2 r3 r4 r5 ∧ Below w0.heap.size w0 w' ∧ KeepBut w w' g none := by
  have HI0 := Aside0.mk hI
  have HK := Aside0.mk (KeepBut.refl w g none)
  have HL := Aside0.mk hB.size
  clear hI
  have HW0 := Aside0.mk hB.size
  have HB := Aside0.mk hB
  clear hB
  have H : (if s0_4 = 0 then (some (s0_0, s0_1, s0_2, s0_3, a1)) else (some (s0_0, s0_1, s0_2, s0_3, s0_4))) = some (r1, r2, r3, r4, r5) := h
  clear h
  by_cases c3 : s0_4 = 0
  · rw [if_pos c3] at H
    have c3b0 : (s0_4 == 0) = true := beq_iff_eq.mpr c3
    have c3b1 : (s0_4 != 0) = false := bne_eq_false_iff_eq.mpr c3
    clear c3
    simp only [Option.some.injEq, Prod.mk.injEq] at H
    obtain ⟨rfl, rfl, rfl, rfl, rfl⟩ := H
    obtain ⟨HGz4, hgz4⟩ := HI0.out
    have hcz4_0 := cellS37_0 HGz4
    have hcz4_1 := cellS37_1 HGz4
    have hcz4_2 := cellS37_2 HGz4
    have hcz4_3 := cellS37_3 HGz4
    have hcz4_4 := cellS37_4 HGz4
    have hfz4_0 := blk_frozen HGz4 0
    have hfz4_1 := blk_frozen HGz4 1
    have hfz4_2 := blk_frozen HGz4 2
    have hfz4_3 := blk_frozen HGz4 3
    have hfz4_4 := blk_frozen HGz4 4
    clear HGz4 hgz4
    go_enter Try.func22, Try.ntmps22
    go_wp2
    first | go_end0 | ((try simp only [Exit.inBlock, Exit.then]); refine bodyPost_ret (results_none rfl _ _ _) rfl ?_)
    exact ⟨by first | rfl | (simp [errW_none, errW_some] <;> rfl) | (simp [*, errW_none, errW_some] <;> rfl), by repeat (first | (with_reducible first | exact HI0.out | apply IsS37.alloc | apply IsS37.drewN | apply IsS37.drew | apply IsS37.set_0 | apply IsS37.set_1 | apply IsS37.set_2 | apply IsS37.set_3 | apply IsS37.set_4) | exact HI0.out), by repeat (first | (with_reducible first | exact HB.out | apply below_alloc | apply pw_below_drewN | apply below_drew1 | refine below_set ?_ (IsS37.ge HI0.out)) | exact HB.out), by repeat (first | (with_reducible first | exact HK.out | apply KeepBut.set_ | apply keep_drewN | apply keep_drew | apply keep_alloc) | exact HK.out)⟩
  · rw [if_neg c3] at H
    have c3b0 : (s0_4 == 0) = false := beq_eq_false_iff_ne.mpr c3
    have c3b1 : (s0_4 != 0) = true := bne_iff_ne.mpr c3
    simp only [Option.some.injEq, Prod.mk.injEq] at H
    obtain ⟨rfl, rfl, rfl, rfl, rfl⟩ := H
    obtain ⟨HGz5, hgz5⟩ := HI0.out
    have hcz5_0 := cellS37_0 HGz5
    have hcz5_1 := cellS37_1 HGz5
    have hcz5_2 := cellS37_2 HGz5
    have hcz5_3 := cellS37_3 HGz5
    have hcz5_4 := cellS37_4 HGz5
    have hfz5_0 := blk_frozen HGz5 0
    have hfz5_1 := blk_frozen HGz5 1
    have hfz5_2 := blk_frozen HGz5 2
    have hfz5_3 := blk_frozen HGz5 3
    have hfz5_4 := blk_frozen HGz5 4
    clear HGz5 hgz5
    go_enter Try.func22, Try.ntmps22
    go_wp2
    first | go_end0 | ((try simp only [Exit.inBlock, Exit.then]); refine bodyPost_ret (results_none rfl _ _ _) rfl ?_)
    exact ⟨by first | rfl | (simp [errW_none, errW_some] <;> rfl) | (simp [*, errW_none, errW_some] <;> rfl), by repeat (first | (with_reducible first | exact HI0.out | apply IsS37.alloc | apply IsS37.drewN | apply IsS37.drew | apply IsS37.set_0 | apply IsS37.set_1 | apply IsS37.set_2 | apply IsS37.set_3 | apply IsS37.set_4) | exact HI0.out), by repeat (first | (with_reducible first | exact HB.out | apply below_alloc | apply pw_below_drewN | apply below_drew1 | refine below_set ?_ (IsS37.ge HI0.out)) | exact HB.out), by repeat (first | (with_reducible first | exact HK.out | apply KeepBut.set_ | apply keep_drewN | apply keep_drew | apply keep_alloc) | exact HK.out)⟩

/-! ### spec_between: function 35 -/
def spec_between.f (a0 : Int) (a1 : Int) (a2 : Int) : Option (Bool) := if a0 ≤ a1 then (some (decide (a1 ≤ a2))) else (some false)
set_option maxHeartbeats 8000000 in
set_option maxRecDepth 100000 in
theorem spec_between.calls (a0 : Int) (a1 : Int) (a2 : Int) (r : Bool) (w : World) (h : spec_between.f a0 a1 a2 = some r) :
    Calls Try.prog 35 #[.int .i64 a0, .int .i64 a1, .int .i64 a2] w fun e w' => e = .returned (.bool r) ∧ Drawn0 w w' := by
  have H : (if a0 ≤ a1 then (some (decide (a1 ≤ a2))) else (some false)) = some r := h
  clear h
  by_cases c4 : a0 ≤ a1
  · rw [if_pos c4] at H
    have c4b0 : decide (a0 ≤ a1) = true := decide_eq_true c4
    clear c4
    obtain rfl := Option.some.inj H
    go_enter Try.func35, Try.ntmps35
    go_wp2
    go_ret
    exact ⟨by first | rfl | (simp; done) | (simp [*]; done), by repeat (first | exact Drawn0.refl _ | apply Drawn0.step)⟩
  · rw [if_neg c4] at H
    have c4b0 : decide (a0 ≤ a1) = false := decide_eq_false c4
    clear c4
    obtain rfl := Option.some.inj H
    go_enter Try.func35, Try.ntmps35
    go_wp2
    go_ret
    exact ⟨by first | rfl | (simp; done) | (simp [*]; done), by repeat (first | exact Drawn0.refl _ | apply Drawn0.step)⟩

/-! ### spec_Blank: function 24 -/
def spec_Blank.f (a0 : Int) : Option (Bool) := if a0 = 9 then (some true) else (if a0 = 11 then (some true) else (if a0 = 12 then (some true) else (if a0 = 32 then (some true) else (if a0 = 160 then (some true) else (if a0 = 65279 then (some true) else (if a0 = 5760 then (some true) else (if a0 = 8239 then (some true) else (if a0 = 8287 then (some true) else (if a0 = 12288 then (some true) else ((spec_between.f 8192 a0 8202).bind fun t111 => (some t111)))))))))))
set_option maxHeartbeats 8000000 in
set_option maxRecDepth 100000 in
theorem spec_Blank.calls (a0 : Int) (r : Bool) (w : World) (h : spec_Blank.f a0 = some r) :
    Calls Try.prog 24 #[.int .i64 a0] w fun e w' => e = .returned (.bool r) ∧ Drawn0 w w' := by
  have H : (if a0 = 9 then (some true) else (if a0 = 11 then (some true) else (if a0 = 12 then (some true) else (if a0 = 32 then (some true) else (if a0 = 160 then (some true) else (if a0 = 65279 then (some true) else (if a0 = 5760 then (some true) else (if a0 = 8239 then (some true) else (if a0 = 8287 then (some true) else (if a0 = 12288 then (some true) else ((spec_between.f 8192 a0 8202).bind fun t111 => (some t111)))))))))))) = some r := h
  clear h
  by_cases c2 : a0 = 9
  · rw [if_pos c2] at H
    have c2b0 : (a0 == 9) = true := beq_iff_eq.mpr c2
    have c2b1 : (a0 != 9) = false := bne_eq_false_iff_eq.mpr c2
    clear c2
    obtain rfl := Option.some.inj H
    go_enter Try.func24, Try.ntmps24
    go_wp2
    go_ret
    exact ⟨by first | rfl | (simp; done) | (simp [*]; done), by repeat (first | exact Drawn0.refl _ | apply Drawn0.step)⟩
  · rw [if_neg c2] at H
    have c2b0 : (a0 == 9) = false := beq_eq_false_iff_ne.mpr c2
    have c2b1 : (a0 != 9) = true := bne_iff_ne.mpr c2
    by_cases c3 : a0 = 11
    · rw [if_pos c3] at H
      have c3b0 : (a0 == 11) = true := beq_iff_eq.mpr c3
      have c3b1 : (a0 != 11) = false := bne_eq_false_iff_eq.mpr c3
      clear c3
      obtain rfl := Option.some.inj H
      go_enter Try.func24, Try.ntmps24
      go_wp2
      go_ret
      exact ⟨by first | rfl | (simp; done) | (simp [*]; done), by repeat (first | exact Drawn0.refl _ | apply Drawn0.step)⟩
    · rw [if_neg c3] at H
      have c3b0 : (a0 == 11) = false := beq_eq_false_iff_ne.mpr c3
      have c3b1 : (a0 != 11) = true := bne_iff_ne.mpr c3
      by_cases c4 : a0 = 12
      · rw [if_pos c4] at H
        have c4b0 : (a0 == 12) = true := beq_iff_eq.mpr c4
        have c4b1 : (a0 != 12) = false := bne_eq_false_iff_eq.mpr c4
        clear c4
        obtain rfl := Option.some.inj H
        go_enter Try.func24, Try.ntmps24
        go_wp2
        go_ret
        exact ⟨by first | rfl | (simp; done) | (simp [*]; done), by repeat (first | exact Drawn0.refl _ | apply Drawn0.step)⟩
      · rw [if_neg c4] at H
        have c4b0 : (a0 == 12) = false := beq_eq_false_iff_ne.mpr c4
        have c4b1 : (a0 != 12) = true := bne_iff_ne.mpr c4
        by_cases c5 : a0 = 32
        · rw [if_pos c5] at H
          have c5b0 : (a0 == 32) = true := beq_iff_eq.mpr c5
          have c5b1 : (a0 != 32) = false := bne_eq_false_iff_eq.mpr c5
          clear c5
          obtain rfl := Option.some.inj H
          go_enter Try.func24, Try.ntmps24
          go_wp2
          go_ret
          exact ⟨by first | rfl | (simp; done) | (simp [*]; done), by repeat (first | exact Drawn0.refl _ | apply Drawn0.step)⟩
        · rw [if_neg c5] at H
          have c5b0 : (a0 == 32) = false := beq_eq_false_iff_ne.mpr c5
          have c5b1 : (a0 != 32) = true := bne_iff_ne.mpr c5
          by_cases c6 : a0 = 160
          · rw [if_pos c6] at H
            have c6b0 : (a0 == 160) = true := beq_iff_eq.mpr c6
            have c6b1 : (a0 != 160) = false := bne_eq_false_iff_eq.mpr c6
            clear c6
            obtain rfl := Option.some.inj H
            go_enter Try.func24, Try.ntmps24
            go_wp2
            go_ret
            exact ⟨by first | rfl | (simp; done) | (simp [*]; done), by repeat (first | exact Drawn0.refl _ | apply Drawn0.step)⟩
          · rw [if_neg c6] at H
            have c6b0 : (a0 == 160) = false := beq_eq_false_iff_ne.mpr c6
            have c6b1 : (a0 != 160) = true := bne_iff_ne.mpr c6
            by_cases c7 : a0 = 65279
            · rw [if_pos c7] at H
              have c7b0 : (a0 == 65279) = true := beq_iff_eq.mpr c7
              have c7b1 : (a0 != 65279) = false := bne_eq_false_iff_eq.mpr c7
              clear c7
              obtain rfl := Option.some.inj H
              go_enter Try.func24, Try.ntmps24
              go_wp2
              go_ret
              exact ⟨by first | rfl | (simp; done) | (simp [*]; done), by repeat (first | exact Drawn0.refl _ | apply Drawn0.step)⟩
            · rw [if_neg c7] at H
              have c7b0 : (a0 == 65279) = false := beq_eq_false_iff_ne.mpr c7
              have c7b1 : (a0 != 65279) = true := bne_iff_ne.mpr c7
              by_cases c8 : a0 = 5760
              · rw [if_pos c8] at H
                have c8b0 : (a0 == 5760) = true := beq_iff_eq.mpr c8
                have c8b1 : (a0 != 5760) = false := bne_eq_false_iff_eq.mpr c8
                clear c8
                obtain rfl := Option.some.inj H
                go_enter Try.func24, Try.ntmps24
                go_wp2
                go_ret
                exact ⟨by first | rfl | (simp; done) | (simp [*]; done), by repeat (first | exact Drawn0.refl _ | apply Drawn0.step)⟩
              · rw [if_neg c8] at H
                have c8b0 : (a0 == 5760) = false := beq_eq_false_iff_ne.mpr c8
                have c8b1 : (a0 != 5760) = true := bne_iff_ne.mpr c8
                by_cases c9 : a0 = 8239
                · rw [if_pos c9] at H
                  have c9b0 : (a0 == 8239) = true := beq_iff_eq.mpr c9
                  have c9b1 : (a0 != 8239) = false := bne_eq_false_iff_eq.mpr c9
                  clear c9
                  obtain rfl := Option.some.inj H
                  go_enter Try.func24, Try.ntmps24
                  go_wp2
                  go_ret
                  exact ⟨by first | rfl | (simp; done) | (simp [*]; done), by repeat (first | exact Drawn0.refl _ | apply Drawn0.step)⟩
                · rw [if_neg c9] at H
                  have c9b0 : (a0 == 8239) = false := beq_eq_false_iff_ne.mpr c9
                  have c9b1 : (a0 != 8239) = true := bne_iff_ne.mpr c9
                  by_cases c10 : a0 = 8287
                  · rw [if_pos c10] at H
                    have c10b0 : (a0 == 8287) = true := beq_iff_eq.mpr c10
                    have c10b1 : (a0 != 8287) = false := bne_eq_false_iff_eq.mpr c10
                    clear c10
                    obtain rfl := Option.some.inj H
                    go_enter Try.func24, Try.ntmps24
                    go_wp2
                    go_ret
                    exact ⟨by first | rfl | (simp; done) | (simp [*]; done), by repeat (first | exact Drawn0.refl _ | apply Drawn0.step)⟩
                  · rw [if_neg c10] at H
                    have c10b0 : (a0 == 8287) = false := beq_eq_false_iff_ne.mpr c10
                    have c10b1 : (a0 != 8287) = true := bne_iff_ne.mpr c10
                    by_cases c11 : a0 = 12288
                    · rw [if_pos c11] at H
                      have c11b0 : (a0 == 12288) = true := beq_iff_eq.mpr c11
                      have c11b1 : (a0 != 12288) = false := bne_eq_false_iff_eq.mpr c11
                      clear c11
                      obtain rfl := Option.some.inj H
                      go_enter Try.func24, Try.ntmps24
                      go_wp2
                      go_ret
                      exact ⟨by first | rfl | (simp; done) | (simp [*]; done), by repeat (first | exact Drawn0.refl _ | apply Drawn0.step)⟩
                    · rw [if_neg c11] at H
                      have c11b0 : (a0 == 12288) = false := beq_eq_false_iff_ne.mpr c11
                      have c11b1 : (a0 != 12288) = true := bne_iff_ne.mpr c11
                      replace H := Option.bind_eq_some_iff.mp H
                      obtain ⟨t111, A120, H⟩ := H
                      replace H : (some t111) = some r := H
                      have A12 := Aside0.mk A120
                      clear A120
                      obtain rfl := Option.some.inj H
                      go_enter Try.func24, Try.ntmps24
                      go_wp2_with (first | ((with_reducible refine gate_callee (f := 35) rfl ?_); refine goesL_ (some 16) rfl rfl Try.func35 (by kernel_rfl) rfl #[.int .i64 8192, .int .i64 a0, .int .i64 8202] rfl (by (try simp only [List.map_toArray, List.map_cons, List.map_nil]); first | done | rfl | (simp only [List.length_drop, List.length_take]; rfl)) ?_; (with_reducible refine (spec_between.calls 8192 a0 8202 t111 _ A12.out).mono ?_); rintro e w' ⟨rfl, ⟨nd, rfl⟩⟩; refine ⟨_, rfl, ?_⟩))
                      go_ret
                      exact ⟨by first | rfl | (simp; done) | (simp [*]; done), by repeat (first | exact Drawn0.refl _ | apply Drawn0.step)⟩

/-! ### spec_scan_comment: function 25 -/
def spec_scan_comment.l0 : Nat → ByteArray → Int → Bool → Bool → Int → Option (ByteArray × Int × Bool × Bool × Int)
  | 0, _, _, _, _, _ => none
  | k + 1, x1000, x1001, x1002, x1003, x1004 => if x1001 < (x1000.size : Int) then ((spec_scan_is.f x1000 x1001 x1002 x1003 x1004 (⟨#[42, 47]⟩ : ByteArray)).bind fun bt117 => (if bt117.1 = true then (some (bt117.2.1, wrap64 (bt117.2.2.1 + 2), bt117.2.2.2.1, bt117.2.2.2.2.1, bt117.2.2.2.2.2)) else ((spec_scan_rune.f k bt117.2.1 bt117.2.2.1 bt117.2.2.2.1 bt117.2.2.2.2.1 bt117.2.2.2.2.2).bind fun bt123 => (if bt123.2.1 = 0 then ((spec_scan_fail.f bt123.2.2.1 bt123.2.2.2.1 bt123.2.2.2.2.1 bt123.2.2.2.2.2.1 bt123.2.2.2.2.2.2 1).bind fun bt130 => (some (bt130.1, bt130.2.1, bt130.2.2.1, bt130.2.2.2.1, bt130.2.2.2.2))) else (if bt123.2.2.2.2.2.1 = true then (spec_scan_comment.l0 k bt123.2.2.1 (wrap64 (bt123.2.2.2.1 + bt123.2.1)) bt123.2.2.2.2.1 true bt123.2.2.2.2.2.2) else ((spec_LineEnd.f bt123.1).bind fun t135 => (spec_scan_comment.l0 k bt123.2.2.1 (wrap64 (bt123.2.2.2.1 + bt123.2.1)) bt123.2.2.2.2.1 t135 bt123.2.2.2.2.2.2))))))) else ((spec_scan_fail.f x1000 x1001 x1002 x1003 x1004 1).bind fun bt112 => (some (bt112.1, bt112.2.1, bt112.2.2.1, bt112.2.2.2.1, bt112.2.2.2.2)))
def spec_scan_comment.f (k : Nat) (s0_0 : ByteArray) (s0_1 : Int) (s0_2 : Bool) (s0_3 : Bool) (s0_4 : Int) : Option (ByteArray × Int × Bool × Bool × Int) := spec_scan_comment.l0 k s0_0 (wrap64 (s0_1 + 2)) s0_2 s0_3 s0_4
theorem spec_scan_comment.mono_l : ∀ k, (∀ y0 y1 y2 y3 y4, LeO (spec_scan_comment.l0 k y0 y1 y2 y3 y4) (spec_scan_comment.l0 (k + 1) y0 y1 y2 y3 y4))
  | 0 => fun _ _ _ _ _ r h => by simp [spec_scan_comment.l0] at h
  | k + 1 => by
    have ih0 := spec_scan_comment.mono_l k
    · intro y0 y1 y2 y3 y4
      unfold spec_scan_comment.l0
      repeat' first
      | (with_reducible exact ih0 _ _ _ _ _)
      | (with_reducible exact spec_scan_rune.mono _ _ _ _ _ _)
      | (with_reducible exact LeO.refl _)
      | (with_reducible exact LeO.none _)
      | (with_reducible refine LeO.ite ?_ ?_)
      | (with_reducible refine LeO.bind ?_ (fun _ => ?_))
      | exact ih0 _ _ _ _ _
      | exact spec_scan_rune.mono _ _ _ _ _ _
      | exact LeO.none _
      | refine LeO.ite ?_ ?_
      | refine LeO.bind ?_ (fun _ => ?_)
theorem spec_scan_comment.mono : ∀ a0 a1 a2 a3 a4 k, LeO (spec_scan_comment.f k a0 a1 a2 a3 a4) (spec_scan_comment.f (k + 1) a0 a1 a2 a3 a4) := by
  intro a0 a1 a2 a3 a4 k
  have ih0 := spec_scan_comment.mono_l k
  unfold spec_scan_comment.f
  repeat' first
      | (with_reducible exact ih0 _ _ _ _ _)
      | (with_reducible exact spec_scan_rune.mono _ _ _ _ _ _)
      | (with_reducible exact LeO.refl _)
      | (with_reducible exact LeO.none _)
      | (with_reducible refine LeO.ite ?_ ?_)
      | (with_reducible refine LeO.bind ?_ (fun _ => ?_))
      | exact ih0 _ _ _ _ _
      | exact spec_scan_rune.mono _ _ _ _ _ _
      | exact LeO.none _
      | refine LeO.ite ?_ ?_
      | refine LeO.bind ?_ (fun _ => ?_)
set_option maxHeartbeats 8000000 in
set_option maxRecDepth 100000 in
theorem spec_scan_comment.calls (k : Nat) (g : Nat) (s0_0 : ByteArray) (s0_1 : Int) (s0_2 : Bool) (s0_3 : Bool) (s0_4 : Int) (r1 : ByteArray) (r2 : Int) (r3 : Bool) (r4 : Bool) (r5 : Int) (w0 w : World) (hI : IsS37 w0 w g s0_0 s0_1 s0_2 s0_3 s0_4) (hB : Below w0.heap.size w0 w) (h : spec_scan_comment.f k s0_0 s0_1 s0_2 s0_3 s0_4 = some (r1, r2, r3, r4, r5)) :
    Calls Try.prog 25 #[.pointer (some ⟨g, 0, none⟩)] w fun e w' => e = .returned (.tuple #[]) ∧ IsS37 w0 w' g r1 r2 r3 r4 r5 ∧ Below w0.heap.size w0 w' ∧ KeepBut w w' g none := by
  have HI0 := Aside0.mk hI
  have HK := Aside0.mk (KeepBut.refl w g none)
  have HL := Aside0.mk hB.size
  clear hI
  have HW0 := Aside0.mk hB.size
  have HB := Aside0.mk hB
  clear hB
  have H : (spec_scan_comment.l0 k s0_0 (wrap64 (s0_1 + 2)) s0_2 s0_3 s0_4) = some (r1, r2, r3, r4, r5) := h
  clear h
  have H' := Aside0.mk H
  clear H
  obtain ⟨HGz2, hgz2⟩ := HI0.out
  have hcz2_0 := cellS37_0 HGz2
  have hcz2_1 := cellS37_1 HGz2
  have hcz2_2 := cellS37_2 HGz2
  have hcz2_3 := cellS37_3 HGz2
  have hcz2_4 := cellS37_4 HGz2
  have hfz2_0 := blk_frozen HGz2 0
  have hfz2_1 := blk_frozen HGz2 1
  have hfz2_2 := blk_frozen HGz2 2
  have hfz2_3 := blk_frozen HGz2 3
  have hfz2_4 := blk_frozen HGz2 4
  clear HGz2 hgz2
  go_enter Try.func25, Try.ntmps25
  go_wp2
  repeat (go_quiet (fail); try go_wp2)
  go_loopg [] k (fun kq w' => ∃ (x1000_1 : ByteArray) (x1001_1 : Int) (x1002_1 : Bool) (x1003_1 : Bool) (x1004_1 : Int), Aside0 (spec_scan_comment.l0 kq x1000_1 x1001_1 x1002_1 x1003_1 x1004_1 = some (r1, r2, r3, r4, r5)) ∧ Aside0 (kq ≤ k) ∧ Aside0 (IsS37 w0 w' g x1000_1 x1001_1 x1002_1 x1003_1 x1004_1) ∧ Aside0 (KeepBut w w' g none) ∧ Aside0 (Below w0.heap.size w0 w'))
  case atStart => exact ⟨(s0_0), (wrap64 (s0_1 + 2)), (s0_2), (s0_3), (s0_4), H', ⟨Nat.le_refl _⟩, ⟨by repeat (first | (with_reducible first | exact HI0.out | apply IsS37.alloc | apply IsS37.drewN | apply IsS37.drew | apply IsS37.set_0 | apply IsS37.set_1 | apply IsS37.set_2 | apply IsS37.set_3 | apply IsS37.set_4) | exact HI0.out)⟩, ⟨by repeat (first | (with_reducible first | exact HK.out | apply KeepBut.set_ | apply keep_drewN | apply keep_drew | apply keep_alloc) | exact HK.out)⟩, ⟨by repeat (first | (with_reducible first | exact HB.out | apply below_alloc | apply pw_below_drewN | apply below_drew1 | refine below_set ?_ (IsS37.ge HI0.out)) | exact HB.out)⟩⟩
  case round =>
    clear H'
    try clear c2
    try clear p2
    try clear hcz2_0
    try clear hcz2_1
    try clear hcz2_2
    try clear hcz2_3
    try clear hcz2_4
    try clear hfz2_0
    try clear hfz2_1
    try clear hfz2_2
    try clear hfz2_3
    try clear hfz2_4
    obtain ⟨x1000_1, x1001_1, x1002_1, x1003_1, x1004_1, HA, HK1, HI0, HK, HB⟩ := hrel
    cases gk with
    | zero => exact absurd HA.out (by simp [spec_scan_comment.l0])
    | succ k1 =>
      have H := HA.out
      clear HA
      simp only [spec_scan_comment.l0] at H
      by_cases c3 : x1001_1 < (x1000_1.size : Int)
      · rw [if_pos c3] at H
        have c3b0 : decide (x1001_1 < (x1000_1.size : Int)) = true := decide_eq_true c3
        clear c3
        replace H := Option.bind_eq_some_iff.mp H
        obtain ⟨⟨t117, t118, t119, t120, t121, t122⟩, A40, H⟩ := H
        replace H : (if t117 = true then (some (t118, wrap64 (t119 + 2), t120, t121, t122)) else ((spec_scan_rune.f k1 t118 t119 t120 t121 t122).bind fun bt123 => (if bt123.2.1 = 0 then ((spec_scan_fail.f bt123.2.2.1 bt123.2.2.2.1 bt123.2.2.2.2.1 bt123.2.2.2.2.2.1 bt123.2.2.2.2.2.2 1).bind fun bt130 => (some (bt130.1, bt130.2.1, bt130.2.2.1, bt130.2.2.2.1, bt130.2.2.2.2))) else (if bt123.2.2.2.2.2.1 = true then (spec_scan_comment.l0 k1 bt123.2.2.1 (wrap64 (bt123.2.2.2.1 + bt123.2.1)) bt123.2.2.2.2.1 true bt123.2.2.2.2.2.2) else ((spec_LineEnd.f bt123.1).bind fun t135 => (spec_scan_comment.l0 k1 bt123.2.2.1 (wrap64 (bt123.2.2.2.1 + bt123.2.1)) bt123.2.2.2.2.1 t135 bt123.2.2.2.2.2.2)))))) = some (r1, r2, r3, r4, r5) := H
        have A4 := Aside0.mk A40
        clear A40
        by_cases c5 : t117 = true
        · subst c5
          have H1 : (some (t118, wrap64 (t119 + 2), t120, t121, t122)) = some (r1, r2, r3, r4, r5) := by rw [if_pos rfl] at H; exact H
          clear H
          have H := H1
          clear H1
          simp only [Option.some.injEq, Prod.mk.injEq] at H
          obtain ⟨rfl, rfl, rfl, rfl, rfl⟩ := H
          obtain ⟨HGz6, hgz6⟩ := HI0.out
          have hcz6_0 := cellS37_0 HGz6
          have hcz6_1 := cellS37_1 HGz6
          have hcz6_2 := cellS37_2 HGz6
          have hcz6_3 := cellS37_3 HGz6
          have hcz6_4 := cellS37_4 HGz6
          have hfz6_0 := blk_frozen HGz6 0
          have hfz6_1 := blk_frozen HGz6 1
          have hfz6_2 := blk_frozen HGz6 2
          have hfz6_3 := blk_frozen HGz6 3
          have hfz6_4 := blk_frozen HGz6 4
          clear HGz6 hgz6
          go_wp2_with (first | (go_at_call 19; (with_reducible refine (spec_scan_is.calls g x1000_1 x1001_1 x1002_1 x1003_1 x1004_1 (⟨#[42, 47]⟩ : ByteArray) true t118 t119 t120 t121 t122 w0 _ ?side1 ?side2 A4.out).mono ?_); (case side1 => repeat (first | (with_reducible first | exact HI0.out | apply IsS37.alloc | apply IsS37.drewN | apply IsS37.drew | apply IsS37.set_0 | apply IsS37.set_1 | apply IsS37.set_2 | apply IsS37.set_3 | apply IsS37.set_4) | exact HI0.out)); (case side2 => repeat (first | (with_reducible first | exact HB.out | apply below_alloc | apply pw_below_drewN | apply below_drew1 | refine below_set ?_ (IsS37.ge HI0.out)) | exact HB.out)); rintro e w7 ⟨rfl, hi, hb, hk⟩; have n0_ := Aside0.mk (KeepBut.trans (by repeat (first | (with_reducible first | exact HK.out | apply KeepBut.set_ | apply keep_drewN | apply keep_drew | apply keep_alloc) | exact HK.out)) hk (.inl rfl)); have n1_ := Aside0.mk (hb); have n2_ := Aside0.mk (hi); clear HK; clear HB; clear HI0; have HK := n0_; have HB := n1_; have HI0 := n2_; clear n0_ n1_ n2_; (try clear hb); (try clear hb2); (try clear hk); (try clear hi); obtain ⟨HGz8, hgz8⟩ := HI0.out; have hcz8_0 := cellS37_0 HGz8; have hcz8_1 := cellS37_1 HGz8; have hcz8_2 := cellS37_2 HGz8; have hcz8_3 := cellS37_3 HGz8; have hcz8_4 := cellS37_4 HGz8; have hfz8_0 := blk_frozen HGz8 0; have hfz8_1 := blk_frozen HGz8 1; have hfz8_2 := blk_frozen HGz8 2; have hfz8_3 := blk_frozen HGz8 3; have hfz8_4 := blk_frozen HGz8 4; clear HGz8 hgz8))
          repeat (go_quiet (first | (go_at_call 19; (with_reducible refine (spec_scan_is.calls g x1000_1 x1001_1 x1002_1 x1003_1 x1004_1 (⟨#[42, 47]⟩ : ByteArray) true t118 t119 t120 t121 t122 w0 _ ?side1 ?side2 A4.out).mono ?_); (case side1 => repeat (first | (with_reducible first | exact HI0.out | apply IsS37.alloc | apply IsS37.drewN | apply IsS37.drew | apply IsS37.set_0 | apply IsS37.set_1 | apply IsS37.set_2 | apply IsS37.set_3 | apply IsS37.set_4) | exact HI0.out)); (case side2 => repeat (first | (with_reducible first | exact HB.out | apply below_alloc | apply pw_below_drewN | apply below_drew1 | refine below_set ?_ (IsS37.ge HI0.out)) | exact HB.out)); rintro e w7 ⟨rfl, hi, hb, hk⟩; have n0_ := Aside0.mk (KeepBut.trans (by repeat (first | (with_reducible first | exact HK.out | apply KeepBut.set_ | apply keep_drewN | apply keep_drew | apply keep_alloc) | exact HK.out)) hk (.inl rfl)); have n1_ := Aside0.mk (hb); have n2_ := Aside0.mk (hi); clear HK; clear HB; clear HI0; have HK := n0_; have HB := n1_; have HI0 := n2_; clear n0_ n1_ n2_; (try clear hb); (try clear hb2); (try clear hk); (try clear hi); obtain ⟨HGz8, hgz8⟩ := HI0.out; have hcz8_0 := cellS37_0 HGz8; have hcz8_1 := cellS37_1 HGz8; have hcz8_2 := cellS37_2 HGz8; have hcz8_3 := cellS37_3 HGz8; have hcz8_4 := cellS37_4 HGz8; have hfz8_0 := blk_frozen HGz8 0; have hfz8_1 := blk_frozen HGz8 1; have hfz8_2 := blk_frozen HGz8 2; have hfz8_3 := blk_frozen HGz8 3; have hfz8_4 := blk_frozen HGz8 4; clear HGz8 hgz8)); try go_wp2_with (first | (go_at_call 19; (with_reducible refine (spec_scan_is.calls g x1000_1 x1001_1 x1002_1 x1003_1 x1004_1 (⟨#[42, 47]⟩ : ByteArray) true t118 t119 t120 t121 t122 w0 _ ?side1 ?side2 A4.out).mono ?_); (case side1 => repeat (first | (with_reducible first | exact HI0.out | apply IsS37.alloc | apply IsS37.drewN | apply IsS37.drew | apply IsS37.set_0 | apply IsS37.set_1 | apply IsS37.set_2 | apply IsS37.set_3 | apply IsS37.set_4) | exact HI0.out)); (case side2 => repeat (first | (with_reducible first | exact HB.out | apply below_alloc | apply pw_below_drewN | apply below_drew1 | refine below_set ?_ (IsS37.ge HI0.out)) | exact HB.out)); rintro e w7 ⟨rfl, hi, hb, hk⟩; have n0_ := Aside0.mk (KeepBut.trans (by repeat (first | (with_reducible first | exact HK.out | apply KeepBut.set_ | apply keep_drewN | apply keep_drew | apply keep_alloc) | exact HK.out)) hk (.inl rfl)); have n1_ := Aside0.mk (hb); have n2_ := Aside0.mk (hi); clear HK; clear HB; clear HI0; have HK := n0_; have HB := n1_; have HI0 := n2_; clear n0_ n1_ n2_; (try clear hb); (try clear hb2); (try clear hk); (try clear hi); obtain ⟨HGz8, hgz8⟩ := HI0.out; have hcz8_0 := cellS37_0 HGz8; have hcz8_1 := cellS37_1 HGz8; have hcz8_2 := cellS37_2 HGz8; have hcz8_3 := cellS37_3 HGz8; have hcz8_4 := cellS37_4 HGz8; have hfz8_0 := blk_frozen HGz8 0; have hfz8_1 := blk_frozen HGz8 1; have hfz8_2 := blk_frozen HGz8 2; have hfz8_3 := blk_frozen HGz8 3; have hfz8_4 := blk_frozen HGz8 4; clear HGz8 hgz8)))
          first | go_end0 | ((try simp only [Exit.inBlock, Exit.then]); refine bodyPost_ret (results_none rfl _ _ _) rfl ?_)
          exact ⟨by first | rfl | (simp [errW_none, errW_some] <;> rfl) | (simp [*, errW_none, errW_some] <;> rfl), by repeat (first | (with_reducible first | exact HI0.out | apply IsS37.alloc | apply IsS37.drewN | apply IsS37.drew | apply IsS37.set_0 | apply IsS37.set_1 | apply IsS37.set_2 | apply IsS37.set_3 | apply IsS37.set_4) | exact HI0.out), by repeat (first | (with_reducible first | exact HB.out | apply below_alloc | apply pw_below_drewN | apply below_drew1 | refine below_set ?_ (IsS37.ge HI0.out)) | exact HB.out), by repeat (first | (with_reducible first | exact HK.out | apply KeepBut.set_ | apply keep_drewN | apply keep_drew | apply keep_alloc) | exact HK.out)⟩
        · replace c5 := Bool.eq_false_iff.mpr c5
          subst c5
          have H1 : ((spec_scan_rune.f k1 t118 t119 t120 t121 t122).bind fun bt123 => (if bt123.2.1 = 0 then ((spec_scan_fail.f bt123.2.2.1 bt123.2.2.2.1 bt123.2.2.2.2.1 bt123.2.2.2.2.2.1 bt123.2.2.2.2.2.2 1).bind fun bt130 => (some (bt130.1, bt130.2.1, bt130.2.2.1, bt130.2.2.2.1, bt130.2.2.2.2))) else (if bt123.2.2.2.2.2.1 = true then (spec_scan_comment.l0 k1 bt123.2.2.1 (wrap64 (bt123.2.2.2.1 + bt123.2.1)) bt123.2.2.2.2.1 true bt123.2.2.2.2.2.2) else ((spec_LineEnd.f bt123.1).bind fun t135 => (spec_scan_comment.l0 k1 bt123.2.2.1 (wrap64 (bt123.2.2.2.1 + bt123.2.1)) bt123.2.2.2.2.1 t135 bt123.2.2.2.2.2.2))))) = some (r1, r2, r3, r4, r5) := by rw [if_neg (show ¬ (false = true) by decide)] at H; exact H
          clear H
          have H := H1
          clear H1
          replace H := Option.bind_eq_some_iff.mp H
          obtain ⟨⟨t123, t124, t125, t126, t127, t128, t129⟩, A90, H⟩ := H
          replace H : (if t124 = 0 then ((spec_scan_fail.f t125 t126 t127 t128 t129 1).bind fun bt130 => (some (bt130.1, bt130.2.1, bt130.2.2.1, bt130.2.2.2.1, bt130.2.2.2.2))) else (if t128 = true then (spec_scan_comment.l0 k1 t125 (wrap64 (t126 + t124)) t127 true t129) else ((spec_LineEnd.f t123).bind fun t135 => (spec_scan_comment.l0 k1 t125 (wrap64 (t126 + t124)) t127 t135 t129)))) = some (r1, r2, r3, r4, r5) := H
          have A9 := Aside0.mk A90
          clear A90
          by_cases c10 : t124 = 0
          · rw [if_pos c10] at H
            have c10b0 : (t124 == 0) = true := beq_iff_eq.mpr c10
            have c10b1 : (t124 != 0) = false := bne_eq_false_iff_eq.mpr c10
            clear c10
            replace H := Option.bind_eq_some_iff.mp H
            obtain ⟨⟨t130, t131, t132, t133, t134⟩, A110, H⟩ := H
            replace H : (some (t130, t131, t132, t133, t134)) = some (r1, r2, r3, r4, r5) := H
            have A11 := Aside0.mk A110
            clear A110
            simp only [Option.some.injEq, Prod.mk.injEq] at H
            obtain ⟨rfl, rfl, rfl, rfl, rfl⟩ := H
            obtain ⟨HGz12, hgz12⟩ := HI0.out
            have hcz12_0 := cellS37_0 HGz12
            have hcz12_1 := cellS37_1 HGz12
            have hcz12_2 := cellS37_2 HGz12
            have hcz12_3 := cellS37_3 HGz12
            have hcz12_4 := cellS37_4 HGz12
            have hfz12_0 := blk_frozen HGz12 0
            have hfz12_1 := blk_frozen HGz12 1
            have hfz12_2 := blk_frozen HGz12 2
            have hfz12_3 := blk_frozen HGz12 3
            have hfz12_4 := blk_frozen HGz12 4
            clear HGz12 hgz12
            go_wp2_with (first | (go_at_call 19; (with_reducible refine (spec_scan_is.calls g x1000_1 x1001_1 x1002_1 x1003_1 x1004_1 (⟨#[42, 47]⟩ : ByteArray) false t118 t119 t120 t121 t122 w0 _ ?side1 ?side2 A4.out).mono ?_); (case side1 => repeat (first | (with_reducible first | exact HI0.out | apply IsS37.alloc | apply IsS37.drewN | apply IsS37.drew | apply IsS37.set_0 | apply IsS37.set_1 | apply IsS37.set_2 | apply IsS37.set_3 | apply IsS37.set_4) | exact HI0.out)); (case side2 => repeat (first | (with_reducible first | exact HB.out | apply below_alloc | apply pw_below_drewN | apply below_drew1 | refine below_set ?_ (IsS37.ge HI0.out)) | exact HB.out)); rintro e w13 ⟨rfl, hi, hb, hk⟩; have n0_ := Aside0.mk (KeepBut.trans (by repeat (first | (with_reducible first | exact HK.out | apply KeepBut.set_ | apply keep_drewN | apply keep_drew | apply keep_alloc) | exact HK.out)) hk (.inl rfl)); have n1_ := Aside0.mk (hb); have n2_ := Aside0.mk (hi); clear HK; clear HB; clear HI0; have HK := n0_; have HB := n1_; have HI0 := n2_; clear n0_ n1_ n2_; (try clear hb); (try clear hb2); (try clear hk); (try clear hi)) | (go_at_call 21; (with_reducible refine (spec_scan_rune.calls k1 g t118 t119 t120 t121 t122 t123 t124 t125 t126 t127 t128 t129 w0 _ ?side1 ?side2 A9.out).mono ?_); (case side1 => repeat (first | (with_reducible first | exact HI0.out | apply IsS37.alloc | apply IsS37.drewN | apply IsS37.drew | apply IsS37.set_0 | apply IsS37.set_1 | apply IsS37.set_2 | apply IsS37.set_3 | apply IsS37.set_4) | exact HI0.out)); (case side2 => repeat (first | (with_reducible first | exact HB.out | apply below_alloc | apply pw_below_drewN | apply below_drew1 | refine below_set ?_ (IsS37.ge HI0.out)) | exact HB.out)); rintro e w14 ⟨rfl, hi, hb, hk⟩; have n0_ := Aside0.mk (KeepBut.trans (by repeat (first | (with_reducible first | exact HK.out | apply KeepBut.set_ | apply keep_drewN | apply keep_drew | apply keep_alloc) | exact HK.out)) hk (.inl rfl)); have n1_ := Aside0.mk (hb); have n2_ := Aside0.mk (hi); clear HK; clear HB; clear HI0; have HK := n0_; have HB := n1_; have HI0 := n2_; clear n0_ n1_ n2_; (try clear hb); (try clear hb2); (try clear hk); (try clear hi)) | (go_at_call 22; (with_reducible refine (spec_scan_fail.calls g t125 t126 t127 t128 t129 1 t130 t131 t132 t133 t134 w0 _ ?side1 ?side2 A11.out).mono ?_); (case side1 => repeat (first | (with_reducible first | exact HI0.out | apply IsS37.alloc | apply IsS37.drewN | apply IsS37.drew | apply IsS37.set_0 | apply IsS37.set_1 | apply IsS37.set_2 | apply IsS37.set_3 | apply IsS37.set_4) | exact HI0.out)); (case side2 => repeat (first | (with_reducible first | exact HB.out | apply below_alloc | apply pw_below_drewN | apply below_drew1 | refine below_set ?_ (IsS37.ge HI0.out)) | exact HB.out)); rintro e w15 ⟨rfl, hi, hb, hk⟩; have n0_ := Aside0.mk (KeepBut.trans (by repeat (first | (with_reducible first | exact HK.out | apply KeepBut.set_ | apply keep_drewN | apply keep_drew | apply keep_alloc) | exact HK.out)) hk (.inl rfl)); have n1_ := Aside0.mk (hb); have n2_ := Aside0.mk (hi); clear HK; clear HB; clear HI0; have HK := n0_; have HB := n1_; have HI0 := n2_; clear n0_ n1_ n2_; (try clear hb); (try clear hb2); (try clear hk); (try clear hi)))
            repeat (go_quiet (first | (go_at_call 19; (with_reducible refine (spec_scan_is.calls g x1000_1 x1001_1 x1002_1 x1003_1 x1004_1 (⟨#[42, 47]⟩ : ByteArray) false t118 t119 t120 t121 t122 w0 _ ?side1 ?side2 A4.out).mono ?_); (case side1 => repeat (first | (with_reducible first | exact HI0.out | apply IsS37.alloc | apply IsS37.drewN | apply IsS37.drew | apply IsS37.set_0 | apply IsS37.set_1 | apply IsS37.set_2 | apply IsS37.set_3 | apply IsS37.set_4) | exact HI0.out)); (case side2 => repeat (first | (with_reducible first | exact HB.out | apply below_alloc | apply pw_below_drewN | apply below_drew1 | refine below_set ?_ (IsS37.ge HI0.out)) | exact HB.out)); rintro e w13 ⟨rfl, hi, hb, hk⟩; have n0_ := Aside0.mk (KeepBut.trans (by repeat (first | (with_reducible first | exact HK.out | apply KeepBut.set_ | apply keep_drewN | apply keep_drew | apply keep_alloc) | exact HK.out)) hk (.inl rfl)); have n1_ := Aside0.mk (hb); have n2_ := Aside0.mk (hi); clear HK; clear HB; clear HI0; have HK := n0_; have HB := n1_; have HI0 := n2_; clear n0_ n1_ n2_; (try clear hb); (try clear hb2); (try clear hk); (try clear hi)) | (go_at_call 21; (with_reducible refine (spec_scan_rune.calls k1 g t118 t119 t120 t121 t122 t123 t124 t125 t126 t127 t128 t129 w0 _ ?side1 ?side2 A9.out).mono ?_); (case side1 => repeat (first | (with_reducible first | exact HI0.out | apply IsS37.alloc | apply IsS37.drewN | apply IsS37.drew | apply IsS37.set_0 | apply IsS37.set_1 | apply IsS37.set_2 | apply IsS37.set_3 | apply IsS37.set_4) | exact HI0.out)); (case side2 => repeat (first | (with_reducible first | exact HB.out | apply below_alloc | apply pw_below_drewN | apply below_drew1 | refine below_set ?_ (IsS37.ge HI0.out)) | exact HB.out)); rintro e w14 ⟨rfl, hi, hb, hk⟩; have n0_ := Aside0.mk (KeepBut.trans (by repeat (first | (with_reducible first | exact HK.out | apply KeepBut.set_ | apply keep_drewN | apply keep_drew | apply keep_alloc) | exact HK.out)) hk (.inl rfl)); have n1_ := Aside0.mk (hb); have n2_ := Aside0.mk (hi); clear HK; clear HB; clear HI0; have HK := n0_; have HB := n1_; have HI0 := n2_; clear n0_ n1_ n2_; (try clear hb); (try clear hb2); (try clear hk); (try clear hi)) | (go_at_call 22; (with_reducible refine (spec_scan_fail.calls g t125 t126 t127 t128 t129 1 t130 t131 t132 t133 t134 w0 _ ?side1 ?side2 A11.out).mono ?_); (case side1 => repeat (first | (with_reducible first | exact HI0.out | apply IsS37.alloc | apply IsS37.drewN | apply IsS37.drew | apply IsS37.set_0 | apply IsS37.set_1 | apply IsS37.set_2 | apply IsS37.set_3 | apply IsS37.set_4) | exact HI0.out)); (case side2 => repeat (first | (with_reducible first | exact HB.out | apply below_alloc | apply pw_below_drewN | apply below_drew1 | refine below_set ?_ (IsS37.ge HI0.out)) | exact HB.out)); rintro e w15 ⟨rfl, hi, hb, hk⟩; have n0_ := Aside0.mk (KeepBut.trans (by repeat (first | (with_reducible first | exact HK.out | apply KeepBut.set_ | apply keep_drewN | apply keep_drew | apply keep_alloc) | exact HK.out)) hk (.inl rfl)); have n1_ := Aside0.mk (hb); have n2_ := Aside0.mk (hi); clear HK; clear HB; clear HI0; have HK := n0_; have HB := n1_; have HI0 := n2_; clear n0_ n1_ n2_; (try clear hb); (try clear hb2); (try clear hk); (try clear hi))); try go_wp2_with (first | (go_at_call 19; (with_reducible refine (spec_scan_is.calls g x1000_1 x1001_1 x1002_1 x1003_1 x1004_1 (⟨#[42, 47]⟩ : ByteArray) false t118 t119 t120 t121 t122 w0 _ ?side1 ?side2 A4.out).mono ?_); (case side1 => repeat (first | (with_reducible first | exact HI0.out | apply IsS37.alloc | apply IsS37.drewN | apply IsS37.drew | apply IsS37.set_0 | apply IsS37.set_1 | apply IsS37.set_2 | apply IsS37.set_3 | apply IsS37.set_4) | exact HI0.out)); (case side2 => repeat (first | (with_reducible first | exact HB.out | apply below_alloc | apply pw_below_drewN | apply below_drew1 | refine below_set ?_ (IsS37.ge HI0.out)) | exact HB.out)); rintro e w13 ⟨rfl, hi, hb, hk⟩; have n0_ := Aside0.mk (KeepBut.trans (by repeat (first | (with_reducible first | exact HK.out | apply KeepBut.set_ | apply keep_drewN | apply keep_drew | apply keep_alloc) | exact HK.out)) hk (.inl rfl)); have n1_ := Aside0.mk (hb); have n2_ := Aside0.mk (hi); clear HK; clear HB; clear HI0; have HK := n0_; have HB := n1_; have HI0 := n2_; clear n0_ n1_ n2_; (try clear hb); (try clear hb2); (try clear hk); (try clear hi)) | (go_at_call 21; (with_reducible refine (spec_scan_rune.calls k1 g t118 t119 t120 t121 t122 t123 t124 t125 t126 t127 t128 t129 w0 _ ?side1 ?side2 A9.out).mono ?_); (case side1 => repeat (first | (with_reducible first | exact HI0.out | apply IsS37.alloc | apply IsS37.drewN | apply IsS37.drew | apply IsS37.set_0 | apply IsS37.set_1 | apply IsS37.set_2 | apply IsS37.set_3 | apply IsS37.set_4) | exact HI0.out)); (case side2 => repeat (first | (with_reducible first | exact HB.out | apply below_alloc | apply pw_below_drewN | apply below_drew1 | refine below_set ?_ (IsS37.ge HI0.out)) | exact HB.out)); rintro e w14 ⟨rfl, hi, hb, hk⟩; have n0_ := Aside0.mk (KeepBut.trans (by repeat (first | (with_reducible first | exact HK.out | apply KeepBut.set_ | apply keep_drewN | apply keep_drew | apply keep_alloc) | exact HK.out)) hk (.inl rfl)); have n1_ := Aside0.mk (hb); have n2_ := Aside0.mk (hi); clear HK; clear HB; clear HI0; have HK := n0_; have HB := n1_; have HI0 := n2_; clear n0_ n1_ n2_; (try clear hb); (try clear hb2); (try clear hk); (try clear hi)) | (go_at_call 22; (with_reducible refine (spec_scan_fail.calls g t125 t126 t127 t128 t129 1 t130 t131 t132 t133 t134 w0 _ ?side1 ?side2 A11.out).mono ?_); (case side1 => repeat (first | (with_reducible first | exact HI0.out | apply IsS37.alloc | apply IsS37.drewN | apply IsS37.drew | apply IsS37.set_0 | apply IsS37.set_1 | apply IsS37.set_2 | apply IsS37.set_3 | apply IsS37.set_4) | exact HI0.out)); (case side2 => repeat (first | (with_reducible first | exact HB.out | apply below_alloc | apply pw_below_drewN | apply below_drew1 | refine below_set ?_ (IsS37.ge HI0.out)) | exact HB.out)); rintro e w15 ⟨rfl, hi, hb, hk⟩; have n0_ := Aside0.mk (KeepBut.trans (by repeat (first | (with_reducible first | exact HK.out | apply KeepBut.set_ | apply keep_drewN | apply keep_drew | apply keep_alloc) | exact HK.out)) hk (.inl rfl)); have n1_ := Aside0.mk (hb); have n2_ := Aside0.mk (hi); clear HK; clear HB; clear HI0; have HK := n0_; have HB := n1_; have HI0 := n2_; clear n0_ n1_ n2_; (try clear hb); (try clear hb2); (try clear hk); (try clear hi))))
            first | go_end0 | ((try simp only [Exit.inBlock, Exit.then]); refine bodyPost_ret (results_none rfl _ _ _) rfl ?_)
            exact ⟨by first | rfl | (simp [errW_none, errW_some] <;> rfl) | (simp [*, errW_none, errW_some] <;> rfl), by repeat (first | (with_reducible first | exact HI0.out | apply IsS37.alloc | apply IsS37.drewN | apply IsS37.drew | apply IsS37.set_0 | apply IsS37.set_1 | apply IsS37.set_2 | apply IsS37.set_3 | apply IsS37.set_4) | exact HI0.out), by repeat (first | (with_reducible first | exact HB.out | apply below_alloc | apply pw_below_drewN | apply below_drew1 | refine below_set ?_ (IsS37.ge HI0.out)) | exact HB.out), by repeat (first | (with_reducible first | exact HK.out | apply KeepBut.set_ | apply keep_drewN | apply keep_drew | apply keep_alloc) | exact HK.out)⟩
          · rw [if_neg c10] at H
            have c10b0 : (t124 == 0) = false := beq_eq_false_iff_ne.mpr c10
            have c10b1 : (t124 != 0) = true := bne_iff_ne.mpr c10
            by_cases c16 : t128 = true
            · subst c16
              have H1 : (spec_scan_comment.l0 k1 t125 (wrap64 (t126 + t124)) t127 true t129) = some (r1, r2, r3, r4, r5) := by rw [if_pos rfl] at H; exact H
              clear H
              have H := H1
              clear H1
              have H' := Aside0.mk H
              clear H
              obtain ⟨HGz17, hgz17⟩ := HI0.out
              have hcz17_0 := cellS37_0 HGz17
              have hcz17_1 := cellS37_1 HGz17
              have hcz17_2 := cellS37_2 HGz17
              have hcz17_3 := cellS37_3 HGz17
              have hcz17_4 := cellS37_4 HGz17
              have hfz17_0 := blk_frozen HGz17 0
              have hfz17_1 := blk_frozen HGz17 1
              have hfz17_2 := blk_frozen HGz17 2
              have hfz17_3 := blk_frozen HGz17 3
              have hfz17_4 := blk_frozen HGz17 4
              clear HGz17 hgz17
              go_wp2_with (first | (go_at_call 19; (with_reducible refine (spec_scan_is.calls g x1000_1 x1001_1 x1002_1 x1003_1 x1004_1 (⟨#[42, 47]⟩ : ByteArray) false t118 t119 t120 t121 t122 w0 _ ?side1 ?side2 A4.out).mono ?_); (case side1 => repeat (first | (with_reducible first | exact HI0.out | apply IsS37.alloc | apply IsS37.drewN | apply IsS37.drew | apply IsS37.set_0 | apply IsS37.set_1 | apply IsS37.set_2 | apply IsS37.set_3 | apply IsS37.set_4) | exact HI0.out)); (case side2 => repeat (first | (with_reducible first | exact HB.out | apply below_alloc | apply pw_below_drewN | apply below_drew1 | refine below_set ?_ (IsS37.ge HI0.out)) | exact HB.out)); rintro e w18 ⟨rfl, hi, hb, hk⟩; have n0_ := Aside0.mk (KeepBut.trans (by repeat (first | (with_reducible first | exact HK.out | apply KeepBut.set_ | apply keep_drewN | apply keep_drew | apply keep_alloc) | exact HK.out)) hk (.inl rfl)); have n1_ := Aside0.mk (hb); have n2_ := Aside0.mk (hi); clear HK; clear HB; clear HI0; have HK := n0_; have HB := n1_; have HI0 := n2_; clear n0_ n1_ n2_; (try clear hb); (try clear hb2); (try clear hk); (try clear hi)) | (go_at_call 21; (with_reducible refine (spec_scan_rune.calls k1 g t118 t119 t120 t121 t122 t123 t124 t125 t126 t127 true t129 w0 _ ?side1 ?side2 A9.out).mono ?_); (case side1 => repeat (first | (with_reducible first | exact HI0.out | apply IsS37.alloc | apply IsS37.drewN | apply IsS37.drew | apply IsS37.set_0 | apply IsS37.set_1 | apply IsS37.set_2 | apply IsS37.set_3 | apply IsS37.set_4) | exact HI0.out)); (case side2 => repeat (first | (with_reducible first | exact HB.out | apply below_alloc | apply pw_below_drewN | apply below_drew1 | refine below_set ?_ (IsS37.ge HI0.out)) | exact HB.out)); rintro e w19 ⟨rfl, hi, hb, hk⟩; have n0_ := Aside0.mk (KeepBut.trans (by repeat (first | (with_reducible first | exact HK.out | apply KeepBut.set_ | apply keep_drewN | apply keep_drew | apply keep_alloc) | exact HK.out)) hk (.inl rfl)); have n1_ := Aside0.mk (hb); have n2_ := Aside0.mk (hi); clear HK; clear HB; clear HI0; have HK := n0_; have HB := n1_; have HI0 := n2_; clear n0_ n1_ n2_; (try clear hb); (try clear hb2); (try clear hk); (try clear hi); obtain ⟨HGz20, hgz20⟩ := HI0.out; have hcz20_0 := cellS37_0 HGz20; have hcz20_1 := cellS37_1 HGz20; have hcz20_2 := cellS37_2 HGz20; have hcz20_3 := cellS37_3 HGz20; have hcz20_4 := cellS37_4 HGz20; have hfz20_0 := blk_frozen HGz20 0; have hfz20_1 := blk_frozen HGz20 1; have hfz20_2 := blk_frozen HGz20 2; have hfz20_3 := blk_frozen HGz20 3; have hfz20_4 := blk_frozen HGz20 4; clear HGz20 hgz20))
              repeat (go_quiet (first | (go_at_call 19; (with_reducible refine (spec_scan_is.calls g x1000_1 x1001_1 x1002_1 x1003_1 x1004_1 (⟨#[42, 47]⟩ : ByteArray) false t118 t119 t120 t121 t122 w0 _ ?side1 ?side2 A4.out).mono ?_); (case side1 => repeat (first | (with_reducible first | exact HI0.out | apply IsS37.alloc | apply IsS37.drewN | apply IsS37.drew | apply IsS37.set_0 | apply IsS37.set_1 | apply IsS37.set_2 | apply IsS37.set_3 | apply IsS37.set_4) | exact HI0.out)); (case side2 => repeat (first | (with_reducible first | exact HB.out | apply below_alloc | apply pw_below_drewN | apply below_drew1 | refine below_set ?_ (IsS37.ge HI0.out)) | exact HB.out)); rintro e w18 ⟨rfl, hi, hb, hk⟩; have n0_ := Aside0.mk (KeepBut.trans (by repeat (first | (with_reducible first | exact HK.out | apply KeepBut.set_ | apply keep_drewN | apply keep_drew | apply keep_alloc) | exact HK.out)) hk (.inl rfl)); have n1_ := Aside0.mk (hb); have n2_ := Aside0.mk (hi); clear HK; clear HB; clear HI0; have HK := n0_; have HB := n1_; have HI0 := n2_; clear n0_ n1_ n2_; (try clear hb); (try clear hb2); (try clear hk); (try clear hi)) | (go_at_call 21; (with_reducible refine (spec_scan_rune.calls k1 g t118 t119 t120 t121 t122 t123 t124 t125 t126 t127 true t129 w0 _ ?side1 ?side2 A9.out).mono ?_); (case side1 => repeat (first | (with_reducible first | exact HI0.out | apply IsS37.alloc | apply IsS37.drewN | apply IsS37.drew | apply IsS37.set_0 | apply IsS37.set_1 | apply IsS37.set_2 | apply IsS37.set_3 | apply IsS37.set_4) | exact HI0.out)); (case side2 => repeat (first | (with_reducible first | exact HB.out | apply below_alloc | apply pw_below_drewN | apply below_drew1 | refine below_set ?_ (IsS37.ge HI0.out)) | exact HB.out)); rintro e w19 ⟨rfl, hi, hb, hk⟩; have n0_ := Aside0.mk (KeepBut.trans (by repeat (first | (with_reducible first | exact HK.out | apply KeepBut.set_ | apply keep_drewN | apply keep_drew | apply keep_alloc) | exact HK.out)) hk (.inl rfl)); have n1_ := Aside0.mk (hb); have n2_ := Aside0.mk (hi); clear HK; clear HB; clear HI0; have HK := n0_; have HB := n1_; have HI0 := n2_; clear n0_ n1_ n2_; (try clear hb); (try clear hb2); (try clear hk); (try clear hi); obtain ⟨HGz20, hgz20⟩ := HI0.out; have hcz20_0 := cellS37_0 HGz20; have hcz20_1 := cellS37_1 HGz20; have hcz20_2 := cellS37_2 HGz20; have hcz20_3 := cellS37_3 HGz20; have hcz20_4 := cellS37_4 HGz20; have hfz20_0 := blk_frozen HGz20 0; have hfz20_1 := blk_frozen HGz20 1; have hfz20_2 := blk_frozen HGz20 2; have hfz20_3 := blk_frozen HGz20 3; have hfz20_4 := blk_frozen HGz20 4; clear HGz20 hgz20)); try go_wp2_with (first | (go_at_call 19; (with_reducible refine (spec_scan_is.calls g x1000_1 x1001_1 x1002_1 x1003_1 x1004_1 (⟨#[42, 47]⟩ : ByteArray) false t118 t119 t120 t121 t122 w0 _ ?side1 ?side2 A4.out).mono ?_); (case side1 => repeat (first | (with_reducible first | exact HI0.out | apply IsS37.alloc | apply IsS37.drewN | apply IsS37.drew | apply IsS37.set_0 | apply IsS37.set_1 | apply IsS37.set_2 | apply IsS37.set_3 | apply IsS37.set_4) | exact HI0.out)); (case side2 => repeat (first | (with_reducible first | exact HB.out | apply below_alloc | apply pw_below_drewN | apply below_drew1 | refine below_set ?_ (IsS37.ge HI0.out)) | exact HB.out)); rintro e w18 ⟨rfl, hi, hb, hk⟩; have n0_ := Aside0.mk (KeepBut.trans (by repeat (first | (with_reducible first | exact HK.out | apply KeepBut.set_ | apply keep_drewN | apply keep_drew | apply keep_alloc) | exact HK.out)) hk (.inl rfl)); have n1_ := Aside0.mk (hb); have n2_ := Aside0.mk (hi); clear HK; clear HB; clear HI0; have HK := n0_; have HB := n1_; have HI0 := n2_; clear n0_ n1_ n2_; (try clear hb); (try clear hb2); (try clear hk); (try clear hi)) | (go_at_call 21; (with_reducible refine (spec_scan_rune.calls k1 g t118 t119 t120 t121 t122 t123 t124 t125 t126 t127 true t129 w0 _ ?side1 ?side2 A9.out).mono ?_); (case side1 => repeat (first | (with_reducible first | exact HI0.out | apply IsS37.alloc | apply IsS37.drewN | apply IsS37.drew | apply IsS37.set_0 | apply IsS37.set_1 | apply IsS37.set_2 | apply IsS37.set_3 | apply IsS37.set_4) | exact HI0.out)); (case side2 => repeat (first | (with_reducible first | exact HB.out | apply below_alloc | apply pw_below_drewN | apply below_drew1 | refine below_set ?_ (IsS37.ge HI0.out)) | exact HB.out)); rintro e w19 ⟨rfl, hi, hb, hk⟩; have n0_ := Aside0.mk (KeepBut.trans (by repeat (first | (with_reducible first | exact HK.out | apply KeepBut.set_ | apply keep_drewN | apply keep_drew | apply keep_alloc) | exact HK.out)) hk (.inl rfl)); have n1_ := Aside0.mk (hb); have n2_ := Aside0.mk (hi); clear HK; clear HB; clear HI0; have HK := n0_; have HB := n1_; have HI0 := n2_; clear n0_ n1_ n2_; (try clear hb); (try clear hb2); (try clear hk); (try clear hi); obtain ⟨HGz20, hgz20⟩ := HI0.out; have hcz20_0 := cellS37_0 HGz20; have hcz20_1 := cellS37_1 HGz20; have hcz20_2 := cellS37_2 HGz20; have hcz20_3 := cellS37_3 HGz20; have hcz20_4 := cellS37_4 HGz20; have hfz20_0 := blk_frozen HGz20 0; have hfz20_1 := blk_frozen HGz20 1; have hfz20_2 := blk_frozen HGz20 2; have hfz20_3 := blk_frozen HGz20 3; have hfz20_4 := blk_frozen HGz20 4; clear HGz20 hgz20)))
              go_roundg k1
              case measure => have := HK1.out; omega
              case rel => exact ⟨(t125), (wrap64 (t126 + t124)), (t127), (true), (t129), H', ⟨by have := HK1.out; omega⟩, ⟨by repeat (first | (with_reducible first | exact HI0.out | apply IsS37.alloc | apply IsS37.drewN | apply IsS37.drew | apply IsS37.set_0 | apply IsS37.set_1 | apply IsS37.set_2 | apply IsS37.set_3 | apply IsS37.set_4) | exact HI0.out)⟩, ⟨by repeat (first | (with_reducible first | exact HK.out | apply KeepBut.set_ | apply keep_drewN | apply keep_drew | apply keep_alloc) | exact HK.out)⟩, ⟨by repeat (first | (with_reducible first | exact HB.out | apply below_alloc | apply pw_below_drewN | apply below_drew1 | refine below_set ?_ (IsS37.ge HI0.out)) | exact HB.out)⟩⟩
            · replace c16 := Bool.eq_false_iff.mpr c16
              subst c16
              have H1 : ((spec_LineEnd.f t123).bind fun t135 => (spec_scan_comment.l0 k1 t125 (wrap64 (t126 + t124)) t127 t135 t129)) = some (r1, r2, r3, r4, r5) := by rw [if_neg (show ¬ (false = true) by decide)] at H; exact H
              clear H
              have H := H1
              clear H1
              replace H := Option.bind_eq_some_iff.mp H
              obtain ⟨t135, A210, H⟩ := H
              replace H : (spec_scan_comment.l0 k1 t125 (wrap64 (t126 + t124)) t127 t135 t129) = some (r1, r2, r3, r4, r5) := H
              have A21 := Aside0.mk A210
              clear A210
              have H' := Aside0.mk H
              clear H
              obtain ⟨HGz22, hgz22⟩ := HI0.out
              have hcz22_0 := cellS37_0 HGz22
              have hcz22_1 := cellS37_1 HGz22
              have hcz22_2 := cellS37_2 HGz22
              have hcz22_3 := cellS37_3 HGz22
              have hcz22_4 := cellS37_4 HGz22
              have hfz22_0 := blk_frozen HGz22 0
              have hfz22_1 := blk_frozen HGz22 1
              have hfz22_2 := blk_frozen HGz22 2
              have hfz22_3 := blk_frozen HGz22 3
              have hfz22_4 := blk_frozen HGz22 4
              clear HGz22 hgz22
              go_wp2_with (first | (go_at_call 19; (with_reducible refine (spec_scan_is.calls g x1000_1 x1001_1 x1002_1 x1003_1 x1004_1 (⟨#[42, 47]⟩ : ByteArray) false t118 t119 t120 t121 t122 w0 _ ?side1 ?side2 A4.out).mono ?_); (case side1 => repeat (first | (with_reducible first | exact HI0.out | apply IsS37.alloc | apply IsS37.drewN | apply IsS37.drew | apply IsS37.set_0 | apply IsS37.set_1 | apply IsS37.set_2 | apply IsS37.set_3 | apply IsS37.set_4) | exact HI0.out)); (case side2 => repeat (first | (with_reducible first | exact HB.out | apply below_alloc | apply pw_below_drewN | apply below_drew1 | refine below_set ?_ (IsS37.ge HI0.out)) | exact HB.out)); rintro e w23 ⟨rfl, hi, hb, hk⟩; have n0_ := Aside0.mk (KeepBut.trans (by repeat (first | (with_reducible first | exact HK.out | apply KeepBut.set_ | apply keep_drewN | apply keep_drew | apply keep_alloc) | exact HK.out)) hk (.inl rfl)); have n1_ := Aside0.mk (hb); have n2_ := Aside0.mk (hi); clear HK; clear HB; clear HI0; have HK := n0_; have HB := n1_; have HI0 := n2_; clear n0_ n1_ n2_; (try clear hb); (try clear hb2); (try clear hk); (try clear hi)) | (go_at_call 21; (with_reducible refine (spec_scan_rune.calls k1 g t118 t119 t120 t121 t122 t123 t124 t125 t126 t127 false t129 w0 _ ?side1 ?side2 A9.out).mono ?_); (case side1 => repeat (first | (with_reducible first | exact HI0.out | apply IsS37.alloc | apply IsS37.drewN | apply IsS37.drew | apply IsS37.set_0 | apply IsS37.set_1 | apply IsS37.set_2 | apply IsS37.set_3 | apply IsS37.set_4) | exact HI0.out)); (case side2 => repeat (first | (with_reducible first | exact HB.out | apply below_alloc | apply pw_below_drewN | apply below_drew1 | refine below_set ?_ (IsS37.ge HI0.out)) | exact HB.out)); rintro e w24 ⟨rfl, hi, hb, hk⟩; have n0_ := Aside0.mk (KeepBut.trans (by repeat (first | (with_reducible first | exact HK.out | apply KeepBut.set_ | apply keep_drewN | apply keep_drew | apply keep_alloc) | exact HK.out)) hk (.inl rfl)); have n1_ := Aside0.mk (hb); have n2_ := Aside0.mk (hi); clear HK; clear HB; clear HI0; have HK := n0_; have HB := n1_; have HI0 := n2_; clear n0_ n1_ n2_; (try clear hb); (try clear hb2); (try clear hk); (try clear hi); obtain ⟨HGz25, hgz25⟩ := HI0.out; have hcz25_0 := cellS37_0 HGz25; have hcz25_1 := cellS37_1 HGz25; have hcz25_2 := cellS37_2 HGz25; have hcz25_3 := cellS37_3 HGz25; have hcz25_4 := cellS37_4 HGz25; have hfz25_0 := blk_frozen HGz25 0; have hfz25_1 := blk_frozen HGz25 1; have hfz25_2 := blk_frozen HGz25 2; have hfz25_3 := blk_frozen HGz25 3; have hfz25_4 := blk_frozen HGz25 4; clear HGz25 hgz25) | (go_at_call 23; (with_reducible refine (spec_LineEnd.calls t123 t135 _ A21.out).mono ?_); rintro e w' ⟨rfl, ⟨nd, rfl⟩⟩; (try first | exact ⟨rfl, _, World.drewN_drewN _ _ _⟩ | exact ⟨rfl, _, Eq.trans (World.drewN_drewN _ _ _) (congrArg (World.drewN _) (Nat.add_assoc _ _ _))⟩)))
              repeat (go_quiet (first | (go_at_call 19; (with_reducible refine (spec_scan_is.calls g x1000_1 x1001_1 x1002_1 x1003_1 x1004_1 (⟨#[42, 47]⟩ : ByteArray) false t118 t119 t120 t121 t122 w0 _ ?side1 ?side2 A4.out).mono ?_); (case side1 => repeat (first | (with_reducible first | exact HI0.out | apply IsS37.alloc | apply IsS37.drewN | apply IsS37.drew | apply IsS37.set_0 | apply IsS37.set_1 | apply IsS37.set_2 | apply IsS37.set_3 | apply IsS37.set_4) | exact HI0.out)); (case side2 => repeat (first | (with_reducible first | exact HB.out | apply below_alloc | apply pw_below_drewN | apply below_drew1 | refine below_set ?_ (IsS37.ge HI0.out)) | exact HB.out)); rintro e w23 ⟨rfl, hi, hb, hk⟩; have n0_ := Aside0.mk (KeepBut.trans (by repeat (first | (with_reducible first | exact HK.out | apply KeepBut.set_ | apply keep_drewN | apply keep_drew | apply keep_alloc) | exact HK.out)) hk (.inl rfl)); have n1_ := Aside0.mk (hb); have n2_ := Aside0.mk (hi); clear HK; clear HB; clear HI0; have HK := n0_; have HB := n1_; have HI0 := n2_; clear n0_ n1_ n2_; (try clear hb); (try clear hb2); (try clear hk); (try clear hi)) | (go_at_call 21; (with_reducible refine (spec_scan_rune.calls k1 g t118 t119 t120 t121 t122 t123 t124 t125 t126 t127 false t129 w0 _ ?side1 ?side2 A9.out).mono ?_); (case side1 => repeat (first | (with_reducible first | exact HI0.out | apply IsS37.alloc | apply IsS37.drewN | apply IsS37.drew | apply IsS37.set_0 | apply IsS37.set_1 | apply IsS37.set_2 | apply IsS37.set_3 | apply IsS37.set_4) | exact HI0.out)); (case side2 => repeat (first | (with_reducible first | exact HB.out | apply below_alloc | apply pw_below_drewN | apply below_drew1 | refine below_set ?_ (IsS37.ge HI0.out)) | exact HB.out)); rintro e w24 ⟨rfl, hi, hb, hk⟩; have n0_ := Aside0.mk (KeepBut.trans (by repeat (first | (with_reducible first | exact HK.out | apply KeepBut.set_ | apply keep_drewN | apply keep_drew | apply keep_alloc) | exact HK.out)) hk (.inl rfl)); have n1_ := Aside0.mk (hb); have n2_ := Aside0.mk (hi); clear HK; clear HB; clear HI0; have HK := n0_; have HB := n1_; have HI0 := n2_; clear n0_ n1_ n2_; (try clear hb); (try clear hb2); (try clear hk); (try clear hi); obtain ⟨HGz25, hgz25⟩ := HI0.out; have hcz25_0 := cellS37_0 HGz25; have hcz25_1 := cellS37_1 HGz25; have hcz25_2 := cellS37_2 HGz25; have hcz25_3 := cellS37_3 HGz25; have hcz25_4 := cellS37_4 HGz25; have hfz25_0 := blk_frozen HGz25 0; have hfz25_1 := blk_frozen HGz25 1; have hfz25_2 := blk_frozen HGz25 2; have hfz25_3 := blk_frozen HGz25 3; have hfz25_4 := blk_frozen HGz25 4; clear HGz25 hgz25) | (go_at_call 23; (with_reducible refine (spec_LineEnd.calls t123 t135 _ A21.out).mono ?_); rintro e w' ⟨rfl, ⟨nd, rfl⟩⟩; (try first | exact ⟨rfl, _, World.drewN_drewN _ _ _⟩ | exact ⟨rfl, _, Eq.trans (World.drewN_drewN _ _ _) (congrArg (World.drewN _) (Nat.add_assoc _ _ _))⟩))); try go_wp2_with (first | (go_at_call 19; (with_reducible refine (spec_scan_is.calls g x1000_1 x1001_1 x1002_1 x1003_1 x1004_1 (⟨#[42, 47]⟩ : ByteArray) false t118 t119 t120 t121 t122 w0 _ ?side1 ?side2 A4.out).mono ?_); (case side1 => repeat (first | (with_reducible first | exact HI0.out | apply IsS37.alloc | apply IsS37.drewN | apply IsS37.drew | apply IsS37.set_0 | apply IsS37.set_1 | apply IsS37.set_2 | apply IsS37.set_3 | apply IsS37.set_4) | exact HI0.out)); (case side2 => repeat (first | (with_reducible first | exact HB.out | apply below_alloc | apply pw_below_drewN | apply below_drew1 | refine below_set ?_ (IsS37.ge HI0.out)) | exact HB.out)); rintro e w23 ⟨rfl, hi, hb, hk⟩; have n0_ := Aside0.mk (KeepBut.trans (by repeat (first | (with_reducible first | exact HK.out | apply KeepBut.set_ | apply keep_drewN | apply keep_drew | apply keep_alloc) | exact HK.out)) hk (.inl rfl)); have n1_ := Aside0.mk (hb); have n2_ := Aside0.mk (hi); clear HK; clear HB; clear HI0; have HK := n0_; have HB := n1_; have HI0 := n2_; clear n0_ n1_ n2_; (try clear hb); (try clear hb2); (try clear hk); (try clear hi)) | (go_at_call 21; (with_reducible refine (spec_scan_rune.calls k1 g t118 t119 t120 t121 t122 t123 t124 t125 t126 t127 false t129 w0 _ ?side1 ?side2 A9.out).mono ?_); (case side1 => repeat (first | (with_reducible first | exact HI0.out | apply IsS37.alloc | apply IsS37.drewN | apply IsS37.drew | apply IsS37.set_0 | apply IsS37.set_1 | apply IsS37.set_2 | apply IsS37.set_3 | apply IsS37.set_4) | exact HI0.out)); (case side2 => repeat (first | (with_reducible first | exact HB.out | apply below_alloc | apply pw_below_drewN | apply below_drew1 | refine below_set ?_ (IsS37.ge HI0.out)) | exact HB.out)); rintro e w24 ⟨rfl, hi, hb, hk⟩; have n0_ := Aside0.mk (KeepBut.trans (by repeat (first | (with_reducible first | exact HK.out | apply KeepBut.set_ | apply keep_drewN | apply keep_drew | apply keep_alloc) | exact HK.out)) hk (.inl rfl)); have n1_ := Aside0.mk (hb); have n2_ := Aside0.mk (hi); clear HK; clear HB; clear HI0; have HK := n0_; have HB := n1_; have HI0 := n2_; clear n0_ n1_ n2_; (try clear hb); (try clear hb2); (try clear hk); (try clear hi); obtain ⟨HGz25, hgz25⟩ := HI0.out; have hcz25_0 := cellS37_0 HGz25; have hcz25_1 := cellS37_1 HGz25; have hcz25_2 := cellS37_2 HGz25; have hcz25_3 := cellS37_3 HGz25; have hcz25_4 := cellS37_4 HGz25; have hfz25_0 := blk_frozen HGz25 0; have hfz25_1 := blk_frozen HGz25 1; have hfz25_2 := blk_frozen HGz25 2; have hfz25_3 := blk_frozen HGz25 3; have hfz25_4 := blk_frozen HGz25 4; clear HGz25 hgz25) | (go_at_call 23; (with_reducible refine (spec_LineEnd.calls t123 t135 _ A21.out).mono ?_); rintro e w' ⟨rfl, ⟨nd, rfl⟩⟩; (try first | exact ⟨rfl, _, World.drewN_drewN _ _ _⟩ | exact ⟨rfl, _, Eq.trans (World.drewN_drewN _ _ _) (congrArg (World.drewN _) (Nat.add_assoc _ _ _))⟩))))
              go_roundg k1
              case measure => have := HK1.out; omega
              case rel => exact ⟨(t125), (wrap64 (t126 + t124)), (t127), (t135), (t129), H', ⟨by have := HK1.out; omega⟩, ⟨by repeat (first | (with_reducible first | exact HI0.out | apply IsS37.alloc | apply IsS37.drewN | apply IsS37.drew | apply IsS37.set_0 | apply IsS37.set_1 | apply IsS37.set_2 | apply IsS37.set_3 | apply IsS37.set_4) | exact HI0.out)⟩, ⟨by repeat (first | (with_reducible first | exact HK.out | apply KeepBut.set_ | apply keep_drewN | apply keep_drew | apply keep_alloc) | exact HK.out)⟩, ⟨by repeat (first | (with_reducible first | exact HB.out | apply below_alloc | apply pw_below_drewN | apply below_drew1 | refine below_set ?_ (IsS37.ge HI0.out)) | exact HB.out)⟩⟩
      · rw [if_neg c3] at H
        have c3b0 : decide (x1001_1 < (x1000_1.size : Int)) = false := decide_eq_false c3
        clear c3
        replace H := Option.bind_eq_some_iff.mp H
        obtain ⟨⟨t112, t113, t114, t115, t116⟩, A260, H⟩ := H
        replace H : (some (t112, t113, t114, t115, t116)) = some (r1, r2, r3, r4, r5) := H
        have A26 := Aside0.mk A260
        clear A260
        simp only [Option.some.injEq, Prod.mk.injEq] at H
        obtain ⟨rfl, rfl, rfl, rfl, rfl⟩ := H
        obtain ⟨HGz27, hgz27⟩ := HI0.out
        have hcz27_0 := cellS37_0 HGz27
        have hcz27_1 := cellS37_1 HGz27
        have hcz27_2 := cellS37_2 HGz27
        have hcz27_3 := cellS37_3 HGz27
        have hcz27_4 := cellS37_4 HGz27
        have hfz27_0 := blk_frozen HGz27 0
        have hfz27_1 := blk_frozen HGz27 1
        have hfz27_2 := blk_frozen HGz27 2
        have hfz27_3 := blk_frozen HGz27 3
        have hfz27_4 := blk_frozen HGz27 4
        clear HGz27 hgz27
        go_wp2_with (first | (go_at_call 22; (with_reducible refine (spec_scan_fail.calls g x1000_1 x1001_1 x1002_1 x1003_1 x1004_1 1 t112 t113 t114 t115 t116 w0 _ ?side1 ?side2 A26.out).mono ?_); (case side1 => repeat (first | (with_reducible first | exact HI0.out | apply IsS37.alloc | apply IsS37.drewN | apply IsS37.drew | apply IsS37.set_0 | apply IsS37.set_1 | apply IsS37.set_2 | apply IsS37.set_3 | apply IsS37.set_4) | exact HI0.out)); (case side2 => repeat (first | (with_reducible first | exact HB.out | apply below_alloc | apply pw_below_drewN | apply below_drew1 | refine below_set ?_ (IsS37.ge HI0.out)) | exact HB.out)); rintro e w28 ⟨rfl, hi, hb, hk⟩; have n0_ := Aside0.mk (KeepBut.trans (by repeat (first | (with_reducible first | exact HK.out | apply KeepBut.set_ | apply keep_drewN | apply keep_drew | apply keep_alloc) | exact HK.out)) hk (.inl rfl)); have n1_ := Aside0.mk (hb); have n2_ := Aside0.mk (hi); clear HK; clear HB; clear HI0; have HK := n0_; have HB := n1_; have HI0 := n2_; clear n0_ n1_ n2_; (try clear hb); (try clear hb2); (try clear hk); (try clear hi)))
        repeat (go_quiet (first | (go_at_call 22; (with_reducible refine (spec_scan_fail.calls g x1000_1 x1001_1 x1002_1 x1003_1 x1004_1 1 t112 t113 t114 t115 t116 w0 _ ?side1 ?side2 A26.out).mono ?_); (case side1 => repeat (first | (with_reducible first | exact HI0.out | apply IsS37.alloc | apply IsS37.drewN | apply IsS37.drew | apply IsS37.set_0 | apply IsS37.set_1 | apply IsS37.set_2 | apply IsS37.set_3 | apply IsS37.set_4) | exact HI0.out)); (case side2 => repeat (first | (with_reducible first | exact HB.out | apply below_alloc | apply pw_below_drewN | apply below_drew1 | refine below_set ?_ (IsS37.ge HI0.out)) | exact HB.out)); rintro e w28 ⟨rfl, hi, hb, hk⟩; have n0_ := Aside0.mk (KeepBut.trans (by repeat (first | (with_reducible first | exact HK.out | apply KeepBut.set_ | apply keep_drewN | apply keep_drew | apply keep_alloc) | exact HK.out)) hk (.inl rfl)); have n1_ := Aside0.mk (hb); have n2_ := Aside0.mk (hi); clear HK; clear HB; clear HI0; have HK := n0_; have HB := n1_; have HI0 := n2_; clear n0_ n1_ n2_; (try clear hb); (try clear hb2); (try clear hk); (try clear hi))); try go_wp2_with (first | (go_at_call 22; (with_reducible refine (spec_scan_fail.calls g x1000_1 x1001_1 x1002_1 x1003_1 x1004_1 1 t112 t113 t114 t115 t116 w0 _ ?side1 ?side2 A26.out).mono ?_); (case side1 => repeat (first | (with_reducible first | exact HI0.out | apply IsS37.alloc | apply IsS37.drewN | apply IsS37.drew | apply IsS37.set_0 | apply IsS37.set_1 | apply IsS37.set_2 | apply IsS37.set_3 | apply IsS37.set_4) | exact HI0.out)); (case side2 => repeat (first | (with_reducible first | exact HB.out | apply below_alloc | apply pw_below_drewN | apply below_drew1 | refine below_set ?_ (IsS37.ge HI0.out)) | exact HB.out)); rintro e w28 ⟨rfl, hi, hb, hk⟩; have n0_ := Aside0.mk (KeepBut.trans (by repeat (first | (with_reducible first | exact HK.out | apply KeepBut.set_ | apply keep_drewN | apply keep_drew | apply keep_alloc) | exact HK.out)) hk (.inl rfl)); have n1_ := Aside0.mk (hb); have n2_ := Aside0.mk (hi); clear HK; clear HB; clear HI0; have HK := n0_; have HB := n1_; have HI0 := n2_; clear n0_ n1_ n2_; (try clear hb); (try clear hb2); (try clear hk); (try clear hi))))
        first | go_end0 | ((try simp only [Exit.inBlock, Exit.then]); refine bodyPost_ret (results_none rfl _ _ _) rfl ?_)
        exact ⟨by first | rfl | (simp [errW_none, errW_some] <;> rfl) | (simp [*, errW_none, errW_some] <;> rfl), by repeat (first | (with_reducible first | exact HI0.out | apply IsS37.alloc | apply IsS37.drewN | apply IsS37.drew | apply IsS37.set_0 | apply IsS37.set_1 | apply IsS37.set_2 | apply IsS37.set_3 | apply IsS37.set_4) | exact HI0.out), by repeat (first | (with_reducible first | exact HB.out | apply below_alloc | apply pw_below_drewN | apply below_drew1 | refine below_set ?_ (IsS37.ge HI0.out)) | exact HB.out), by repeat (first | (with_reducible first | exact HK.out | apply KeepBut.set_ | apply keep_drewN | apply keep_drew | apply keep_alloc) | exact HK.out)⟩

end Go.Proofs.Ytbcljhedleemdaa.Ppass
