/- The contracts of (*scan).token and spec.Next at the beginning of a text that is a string literal in single quotes. -/
import Derived.Test.YtmgepjnaalnckaaExtText
import Derived.Test.YtmgepjnaalnckaaPJsStringx4
namespace Go.Proofs.Ytmgepjnaalnckaa
open Go.RowKit Go.Proofs.YtmgepjnaalnckaaW.PrintWords Go.Proofs.YtmgepjnaalnckaaW.PrintMore Go.Proofs.Ytmgepjnaalnckaa.PJsString

/-- A text that is one literal in single quotes, which means U. -/
structure Lit1 (s : ByteArray) (j : Nat) (U : ByteArray) (m : Nat) : Prop where
  small : s.size ≤ 1099511627776
  quote : bt s 0 = 39
  first : s.extract 0 1 = ⟨#[39]⟩
  last : j + 1 = s.size
  body : 1 ≤ j
  run : TR s j U m 1 ⟨#[]⟩

theorem w64' {x : Int} (h0 : 0 ≤ x) (h1 : x < 9223372036854775808) : wrap64 x = x := by unfold wrap64; omega
theorem Rune_at (k : Nat) (s : ByteArray) (i : Nat) (hi : i < s.size) (hb : bt s (i : Int) < 128) : spec_Rune.f (k + 1) s (i : Int) = some (bt s (i : Int), 1) := by
  have h0 := (bt_range s (i : Int)).1
  have e : wrap64 (bt s (i : Int)) = bt s (i : Int) := w64' h0 (by omega)
  unfold spec_Rune.f
  rw [if_neg (by omega), decide_eq_false (by omega)]
  simp only [spec_Rune.j0, e]
  rw [if_neg (by decide), if_pos (by omega), if_pos (by omega), if_pos hb]
theorem rune_at (k : Nat) (s : ByteArray) (i : Nat) (sc ln : Bool) (bad : Int) (hi : i < s.size) (hb : bt s (i : Int) < 128) : spec_scan_rune.f (k + 1) s (i : Int) sc ln bad = some (bt s (i : Int), 1, s, (i : Int), sc, ln, bad) := by
  unfold spec_scan_rune.f
  rw [Rune_at k s i hi hb]
  rfl
theorem bt_get (s : ByteArray) (i : Nat) (h : i < s.size) : bt s (i : Int) = ((s[i]'h).toNat : Int) := by
  unfold bt
  rw [dif_pos (by simpa using h)]
  simp
theorem head_extract (s : ByteArray) (i j : Nat) (hi : i < j) (hj : j ≤ s.size) : (s.extract i j).toList.head? = some (s[i]'(by omega)) := by
  have hlen : i < (s.extract i j).size + i := by simp; omega
  rw [ByteArray.toList_eq, List.head?_eq_getElem?]
  have h0 : 0 < (s.extract i j).size := by simp; omega
  have h1 : (s.extract i j).data.toList[0]? = some ((s.extract i j)[0]'h0) := by
    rw [List.getElem?_eq_getElem (by rw [Array.length_toList]; exact h0)]
    rfl
  rw [h1, ByteArray.getElem_extract]
  simp
theorem is_not (s : ByteArray) (i : Nat) (sc ln : Bool) (bad : Int) (b : UInt8) (l : List UInt8) (hi : i < s.size) (hs : s.size ≤ 1099511627776) (hl : l.length ≤ 100) (hb : bt s (i : Int) ≠ (b.toNat : Int)) : spec_scan_is.f s (i : Int) sc ln bad ⟨(b :: l).toArray⟩ = some (false, s, (i : Int), sc, ln, bad) := by
  have hsz : ((⟨(b :: l).toArray⟩ : ByteArray).size : Int) = (l.length : Int) + 1 := by
    show (((b :: l).toArray.size : Nat) : Int) = _
    simp
  unfold spec_scan_is.f
  rw [hsz]
  have e1 : wrap64 ((s.size : Int) - (i : Int)) = (s.size : Int) - (i : Int) := w64' (by omega) (by omega)
  have e2 : wrap64 ((i : Int) + ((l.length : Int) + 1)) = (i : Int) + ((l.length : Int) + 1) := w64' (by omega) (by omega)
  rw [e1, e2]
  by_cases h : (l.length : Int) + 1 ≤ (s.size : Int) - (i : Int)
  · rw [if_pos h, if_pos (by omega), if_pos (by omega), if_pos (by omega)]
    have hne : ((s.extract ((i : Int)).toNat ((i : Int) + ((l.length : Int) + 1)).toNat).toList == (⟨(b :: l).toArray⟩ : ByteArray).toList) = false := by
      rw [beq_eq_false_iff_ne]
      intro e
      have e3 := congrArg List.head? e
      rw [Int.toNat_natCast, head_extract s i _ (by omega) (by omega), ByteArray.toList_eq] at e3
      simp at e3
      rw [bt_get s i hi, e3] at hb
      exact hb rfl
    rw [hne]
  · rw [if_neg h]
theorem bind_at {α β : Type} (a : α) (f : α → Option β) : (some a).bind f = f a := rfl
theorem between_tells (a b c : Int) : spec_between.f a b c = some (decide (a ≤ b ∧ b ≤ c)) := by
  unfold spec_between.f
  by_cases h : a ≤ b
  · rw [if_pos h]; simp [h]
  · rw [if_neg h]; simp [h]
theorem Digit_tells (c : Int) : spec_Digit.f c = some (decide (48 ≤ c ∧ c ≤ 57)) := by
  unfold spec_Digit.f
  rw [between_tells]; rfl
theorem LineEnd_39 : spec_LineEnd.f 39 = some false := by decide +kernel
theorem Blank_39 : spec_Blank.f 39 = some false := by decide +kernel
theorem pass_j5 (s : ByteArray) (k : Nat) (x2 : Bool) : spec_scan_pass.j5 (k + 1) x2 false s 0 false false 0 = some (s, 0, false, false, 0) := by
  rw [spec_scan_pass.j5, if_neg Bool.false_ne_true, if_neg Bool.false_ne_true]
theorem pass_j4 (s : ByteArray) (k : Nat) (x2 : Bool) : spec_scan_pass.j4 (k + 1 + 1) x2 false s 0 false false 0 = some (s, 0, false, false, 0) := by
  rw [spec_scan_pass.j4, if_neg Bool.false_ne_true, if_neg Bool.false_ne_true, pass_j5]
theorem pass_j3 (s : ByteArray) (hs : s.size ≤ 1099511627776) (h0 : 0 < s.size) (h : bt s 0 = 39) (k : Nat) (x2 : Bool) : spec_scan_pass.j3 (k + 1 + 1 + 1) x2 true s 0 false false 0 = some (s, 0, false, false, 0) := by
  have e2 : spec_scan_is.f s 0 false false 0 ⟨#[47, 47]⟩ = some (false, s, 0, false, false, 0) := is_not s 0 false false 0 47 [47] h0 hs (by decide) (by show bt s 0 ≠ 47; omega)
  have e3 : spec_scan_is.f s 0 false false 0 ⟨#[47, 42]⟩ = some (false, s, 0, false, false, 0) := is_not s 0 false false 0 47 [42] h0 hs (by decide) (by show bt s 0 ≠ 47; omega)
  have e4 : spec_scan_rune.f (k + 1 + 1) s 0 false false 0 = some (39, 1, s, 0, false, false, 0) := by
    have := rune_at (k + 1) s 0 false false 0 h0 (by show bt s 0 < 128; omega)
    rw [show bt s ((0 : Nat) : Int) = 39 from h] at this
    exact this
  have z1 : ¬ ((1 : Int) = 0) := by decide
  rw [spec_scan_pass.j3, if_pos rfl, e4, bind_at, if_neg z1, LineEnd_39, bind_at, if_neg Bool.false_ne_true, Blank_39, bind_at, if_neg Bool.false_ne_true, e2, bind_at, if_neg Bool.false_ne_true, e3, bind_at, if_neg Bool.false_ne_true, if_neg Bool.false_ne_true, pass_j4]
theorem pass_l0 (s : ByteArray) (hs : s.size ≤ 1099511627776) (h0 : 0 < s.size) (h : bt s 0 = 39) (k : Nat) (x2 : Bool) : spec_scan_pass.l0 (k + 1 + 1 + 1 + 1) x2 s 0 false false 0 = some (s, 0, false, false, 0) := by
  have hlt : (0 : Int) < (s.size : Int) := by omega
  have z0 : ((0 : Int) == 0) = true := rfl
  rw [spec_scan_pass.l0, if_pos hlt, z0, pass_j3 s hs h0 h]
theorem pass_tells (k : Nat) (s : ByteArray) (hs : s.size ≤ 1099511627776) (h0 : 0 < s.size) (h : bt s 0 = 39) : spec_scan_pass.f (k + 1 + 1 + 1 + 1 + 1 + 1) s 0 false false 0 = some (s, 0, false, false, 0) := by
  have e1 : spec_scan_is.f s 0 false false 0 ⟨#[35, 33]⟩ = some (false, s, 0, false, false, 0) := is_not s 0 false false 0 35 [33] h0 hs (by decide) (by show bt s 0 ≠ 35; omega)
  unfold spec_scan_pass.f
  rw [if_pos rfl, e1, bind_at, spec_scan_pass.j0, if_neg Bool.false_ne_true, spec_scan_pass.j1, pass_l0 s hs h0 h]

set_option maxHeartbeats 4000000 in
set_option maxRecDepth 100000 in
theorem token_calls (g : Nat) (s : ByteArray) (j m : Nat) (U : ByteArray) (w0 w : World) (hI : IsS61 w0 w g s 0 false false 0) (hB : Below w0.heap.size w0 w) (hP : Lit1 s j U m) :
    Calls Try.prog 28 #[.pointer (some ⟨g, 0, none⟩), .int .i64 0] w fun e w' => e = .returned (.agg (tokC 8 U (s.extract 1 j) 0 0 false)) ∧ Sc w0 w w' g s (s.size : Int) := by
  have hS := Sc.refl hI hB
  have HG := Lib.hid (blk_lt hI.1)
  have H0 := Lib.hid hB.size
  have hpos : 0 < s.size := by have := hP.last; omega
  obtain ⟨wa, hwa⟩ : ∃ wa, wa = w.alloc (.cells (tokC 0 ⟨#[]⟩ ⟨#[]⟩ 0 0 false) 45) := ⟨_, rfl⟩
  have HS := Lib.hid (show Sc w0 w wa g s 0 by rw [hwa]; exact Sc.below hS (below_alloc (Below.refl _ _) _))
  have HZ := Lib.hid (show wa.heap[w.heap.size]? = some (.cells (tokC 0 ⟨#[]⟩ ⟨#[]⟩ 0 0 false) 45 (0, 0)) by rw [hwa]; exact heap_alloc_new w _)
  have h128 : bt s ((0 : Nat) : Int) < 128 := by show bt s 0 < 128; rw [hP.quote]; decide
  have h46 : bt s ((0 : Nat) : Int) ≠ 46 := by show bt s 0 ≠ 46; rw [hP.quote]; decide
  have H1 : Hid (spec_scan_rune.f (0 + 1) s 0 false false 0 = some (39, 1, s, 0, false, false, 0)) := Lib.hid (by have := rune_at 0 s 0 false false 0 hpos h128; rw [show bt s ((0 : Nat) : Int) = 39 from hP.quote] at this; exact this)
  have H2 : Hid (spec_scan_is.f s 0 false false 0 ⟨#[46]⟩ = some (false, s, 0, false, false, 0)) := Lib.hid (is_not s 0 false false 0 46 [] hpos hP.small (by decide) (by simpa using h46))
  have H3 : Hid (spec_Digit.f 39 = some false) := Lib.hid (by decide +kernel)
  have HP := Lib.hid hP
  have HJ : Hid ((j : Int) + 1 = (s.size : Int)) := Lib.hid (by have := hP.last; omega)
  clear hS hI hB hP h128 h46 hpos
  go_enter Try.func28, Try.ntmps28
  go_wp2_with (first
    | (go_at_call 40; (refine (spec_scan_rune.calls (0 + 1) g s 0 false false 0 39 1 s 0 false false 0 w0 _ ?q1 ?q2 H1.out).mono ?_); (case q1 => exact (hwa ▸ HS.out : Sc w0 w (w.alloc (.cells (tokC 0 ⟨#[]⟩ ⟨#[]⟩ 0 0 false) 45)) g s 0).1); (case q2 => exact (hwa ▸ HS.out : Sc w0 w (w.alloc (.cells (tokC 0 ⟨#[]⟩ ⟨#[]⟩ 0 0 false) 45)) g s 0).2.1); rintro e w2 ⟨rfl, hi2, hb2, hk2⟩; have HS2 := Lib.hid (Sc.call (hwa ▸ HS.out : Sc w0 w (w.alloc (.cells (tokC 0 ⟨#[]⟩ ⟨#[]⟩ 0 0 false) 45)) g s 0) hi2 hb2 hk2); have HZ2 := Lib.hid (KeepBut.blk hk2 (hwa ▸ HZ.out : (w.alloc (.cells (tokC 0 ⟨#[]⟩ ⟨#[]⟩ 0 0 false) 45)).heap[w.heap.size]? = _) (Nat.ne_of_gt HG.out) (by simp)); obtain ⟨c20, c21, c24, f21⟩ := HS2.out.cells; clear hi2 hb2 hk2))
  clear hwa
  go_quiet (first | (go_at_call 38; (refine (is_quiet g s 0 false false 0 ⟨#[46]⟩ false s 0 false false 0 w0 _ ?q1 ?q2 H2.out).mono ?_); (case q1 => exact HS2.out.1); (case q2 => first | exact HS2.out.2.1 | exact (HS2.out.2.1).drew | exact pw_below_drewN HS2.out.2.1 _); rintro e w' ⟨rfl, ⟨nd, rfl⟩⟩; (try first | exact ⟨rfl, _, World.drewN_drewN _ _ _⟩ | exact ⟨rfl, _, Eq.trans (World.drewN_drewN _ _ _) (congrArg (World.drewN _) (Nat.add_assoc _ _ _))⟩)))
  all_goals
    go_wp2_with (first
      | (go_at_call 45; (refine (spec_Digit.calls 39 false _ H3.out).mono ?_); rintro e w4 ⟨rfl, ⟨nd, rfl⟩⟩)
      | (go_at_call 48; (refine (text_calls g s 0 j m U w0 _ ?q1 ?q2 ?q3 HP.out.small HP.out.first HP.out.run HP.out.body ?q4).mono ?_); (case q1 => exact HS2.out.1); (case q2 => first | exact HS2.out.2.1 | exact pw_below_drewN HS2.out.2.1 _); (case q3 => have := HP.out.last; omega); (case q4 => have := HP.out.last; omega); rintro e w5 ⟨rfl, hs5⟩; have HS5 := Lib.hid (Sc.trans (HS2.out.drewN _) hs5); have HZ5 := Lib.hid (KeepBut.blk hs5.2.2 HZ2.out (Nat.ne_of_gt HG.out) (by simp)); clear hs5)
      | (refine wpList_store_row rfl 45 (.tmp 4) (.tmp 104) rfl w.heap.size (tokC 8 U (s.extract (0 + 1) j) 0 0 false) ?s1 ?s2 45 (tokC 0 ⟨#[]⟩ ⟨#[]⟩ 0 0 false) ?sg ?si ?s3 ?s4 ?_
         (case s1 => rfl)
         (case s2 => rfl)
         (case sg => exact HZ5.out)
         (case si => rw [info45]; rfl)
         (case s3 => rfl)
         (case s4 => exact tokOne _ _ _ _ _ _)))
    refine bodyPost_ret (v := .agg (tokC 8 U (s.extract 1 j) 0 0 false)) ?_ rfl ⟨rfl, ?_⟩
    · refine results_cell_row rfl _ _ w.heap.size 45 (tokC 8 U (s.extract 1 j) 0 0 false) (0, 0) _ rfl ?_ Try.underlying45 rfl ?_
      · exact setRow_heap _ _ _ _ _ _ HZ5.out
      · rw [info45]; rfl
    · exact Sc.row (Sc.cast HJ.out HS5.out) _ (Nat.le_refl _) HG.out H0.out _

set_option maxHeartbeats 4000000 in
set_option maxRecDepth 100000 in
theorem next_calls (s : ByteArray) (j m : Nat) (U : ByteArray) (w : World) (hP : Lit1 s j U m) :
    Calls Try.prog 20 #[.string s, .int .i64 0, .int .i64 0, .bool false] w fun e w' => e = .returned (.agg (tokC 8 U (s.extract 1 j) 0 (s.size : Int) false)) ∧ Below w.heap.size w w' := by
  have hpos0 : 0 < s.size := by have := hP.last; omega
  have H1 := Lib.hid (pass_tells 0 s hP.small hpos0 hP.quote)
  have HS : Hid (Sc w ((w.alloc (.cells (tokC 0 ⟨#[]⟩ ⟨#[]⟩ 0 0 false) 45)).alloc (.cells #[.string s, .int .i64 0, .bool false, .bool false, .int .i64 0] 61)) ((w.alloc (.cells (tokC 0 ⟨#[]⟩ ⟨#[]⟩ 0 0 false) 45)).alloc (.cells #[.string s, .int .i64 0, .bool false, .bool false, .int .i64 0] 61)) (w.heap.size + 1) s 0) :=
    Lib.hid (Sc.refl ⟨heap_alloc2_new w _ _, by omega⟩ (((Below.refl w.heap.size w).alloc (Nat.le_refl _) _).alloc (by simp) _))
  have HZ : Hid (((w.alloc (.cells (tokC 0 ⟨#[]⟩ ⟨#[]⟩ 0 0 false) 45)).alloc (.cells #[.string s, .int .i64 0, .bool false, .bool false, .int .i64 0] 61)).heap[w.heap.size]? = some (.cells (tokC 0 ⟨#[]⟩ ⟨#[]⟩ 0 0 false) 45 (0, 0))) := Lib.hid (heap_alloc2_old w _ _)
  have HP := Lib.hid hP
  have hpos : (0 : Int) < (s.size : Int) := by omega
  clear hP hpos0
  go_enter Try.func20, Try.ntmps20
  go_wp2_with (first
    | (go_at_call 27; (refine (spec_scan_pass.calls (0 + 1 + 1 + 1 + 1 + 1 + 1) (w.heap.size + 1) s 0 false false 0 s 0 false false 0 w _ ?q1 ?q2 H1.out).mono ?_); (case q1 => exact HS.out.1); (case q2 => exact HS.out.2.1); rintro e w2 ⟨rfl, hi2, hb2, hk2⟩; have HS2 := Lib.hid (Sc.call HS.out hi2 hb2 hk2); have HZ2 := Lib.hid (KeepBut.blk hk2 HZ.out (by omega) (by simp)); obtain ⟨c20, c21, c24, f21⟩ := HS2.out.cells; clear hi2 hb2 hk2)
    | (refine wpList_store_row rfl 45 (.tmp 11) (.tmp 23) rfl w2.heap.size (tokC 0 ⟨#[]⟩ ⟨#[]⟩ 0 0 false) ?s1 ?s2 45 (tokC 0 ⟨#[]⟩ ⟨#[]⟩ 0 0 false) ?sg ?si ?s3 ?s4 ?_
       (case s1 => rfl)
       (case s2 => rfl)
       (case sg => exact heap_alloc_new w2 _)
       (case si => rw [info45]; rfl)
       (case s3 => rfl)
       (case s4 => exact tokOne _ _ _ _ _ _)
       generalize hW3 : (World.setRow (World.alloc w2 _) w2.heap.size (tokC 0 ⟨#[]⟩ ⟨#[]⟩ 0 0 false)) = W3
       have HS3 := Lib.hid (show Sc w _ W3 (w.heap.size + 1) s 0 by rw [← hW3]; exact Sc.row (Sc.below HS2.out (below_alloc (Below.refl _ _) _)) _ HS2.out.2.2.1 (by simp) (by simp; omega) _)
       have HT3 := Lib.hid (show W3.heap[w2.heap.size]? = some (.cells (tokC 0 ⟨#[]⟩ ⟨#[]⟩ 0 0 false) 45 (0, 0)) by rw [← hW3]; exact setRow_heap _ _ _ _ _ _ (heap_alloc_new w2 _))
       have HZ3 := Lib.hid (show W3.heap[w.heap.size]? = some (.cells (tokC 0 ⟨#[]⟩ ⟨#[]⟩ 0 0 false) 45 (0, 0)) by rw [← hW3, setRow_other _ _ _ _ (Nat.ne_of_lt (blk_lt HZ2.out))]; exact blk_alloc HZ2.out _)
       have HL3 := Lib.hid (show w.heap.size + 1 < w2.heap.size from blk_lt HS2.out.1.1)
       obtain ⟨c30, c31, c34, f31⟩ := HS3.out.cells
       clear c20 c21 c24 f21 hW3)
    | (go_at_call 28; (refine (token_calls (w.heap.size + 1) s j m U w _ ?q1 ?q2 HP.out).mono ?_); (case q1 => exact HS3.out.1); (case q2 => first | exact HS3.out.2.1 | exact pw_below_drewN HS3.out.2.1 _); rintro e w5 ⟨rfl, hs5⟩; have HS5 := Lib.hid (Sc.trans HS3.out hs5); have HZ5 := Lib.hid (KeepBut.blk hs5.2.2 HZ3.out (by omega) (by simp)); have HT5 := Lib.hid (KeepBut.blk hs5.2.2 HT3.out (Nat.ne_of_gt HL3.out) (by simp)); clear hs5)
    | (refine wpList_store_row rfl 45 (.tmp 11) (.tmp 40) rfl w2.heap.size (tokC 8 U (s.extract 1 j) 0 0 false) ?s1 ?s2 45 (tokC 0 ⟨#[]⟩ ⟨#[]⟩ 0 0 false) ?sg ?si ?s3 ?s4 ?_
       (case s1 => rfl)
       (case s2 => rfl)
       (case sg => exact HT5.out)
       (case si => rw [info45]; rfl)
       (case s3 => rfl)
       (case s4 => exact tokOne _ _ _ _ _ _)
       generalize hW6 : (World.setRow w5 w2.heap.size (tokC 8 U (s.extract 1 j) 0 0 false)) = W6
       have HT6 := Lib.hid (show W6.heap[w2.heap.size]? = some (.cells (tokC 8 U (s.extract 1 j) 0 0 false) 45 (0, 0)) by rw [← hW6]; exact setRow_heap _ _ _ _ _ _ HT5.out)
       have HZ6 := Lib.hid (show W6.heap[w.heap.size]? = some (.cells (tokC 0 ⟨#[]⟩ ⟨#[]⟩ 0 0 false) 45 (0, 0)) by rw [← hW6, setRow_other _ _ _ _ (by have := HL3.out; omega)]; exact HZ5.out)
       have HS6 := Lib.hid (show Sc w _ W6 (w.heap.size + 1) s (s.size : Int) by rw [← hW6]; exact Sc.row HS5.out _ HS2.out.2.2.1 (by simp) (by simp; omega) _)
       obtain ⟨c60, c61, c64, f61⟩ := HS6.out.cells
       clear c30 c31 c34 f31 hW6))
  have c63 := cellS61_3 HS6.out.1.1
  have t4 := blk_cell HT6.out 4
  have t5 := blk_cell HT6.out 5
  have t6 := blk_cell HT6.out 6
  have ft4 := blk_frozen HT6.out 4
  have ft5 := blk_frozen HT6.out 5
  have ft6 := blk_frozen HT6.out 6
  have hne : w2.heap.size ≠ w.heap.size + 1 := by have := HL3.out; omega
  have e4 : (tokC 8 U (s.extract 1 j) 0 0 false)[4]? = some (.int .i64 0) := rfl
  have e5 : (tokC 8 U (s.extract 1 j) 0 0 false)[5]? = some (.int .i64 0) := rfl
  have e6 : (tokC 8 U (s.extract 1 j) 0 0 false)[6]? = some (.bool false) := rfl
  rw [e4] at t4
  rw [e5] at t5
  rw [e6] at t6
  clear e4 e5 e6
  go_region
  generalize hW7 : World.drew _ = W7
  have HT7 := Lib.hid (show W7.heap[w2.heap.size]? = some (.cells (tokC 8 U (s.extract 1 j) 0 (s.size : Int) false) 45 (0, 0)) by rw [← hW7]; exact blk_drew (blk_put (blk_put (blk_put HT6.out 4 _ rfl) 5 _ rfl) 6 _ rfl))
  have HZ7 := Lib.hid (show W7.heap[w.heap.size]? = some (.cells (tokC 0 ⟨#[]⟩ ⟨#[]⟩ 0 0 false) 45 (0, 0)) by
    have hl := HL3.out
    rw [← hW7]; exact blk_drew (blk_far (blk_far (blk_far HZ6.out (by simp; omega) _) (by simp; omega) _) (by simp; omega) _))
  have HB7 := Lib.hid (show Below w.heap.size w W7 by
    have hl := HL3.out
    rw [← hW7]; exact (((HS6.out.2.1.setCell (p := ⟨w2.heap.size, 4, none⟩) (by simp; omega) _).setCell (p := ⟨w2.heap.size, 5, none⟩) (by simp; omega) _).setCell (p := ⟨w2.heap.size, 6, none⟩) (by simp; omega) _).drew)
  clear hW7 t4 t5 t6 ft4 ft5 ft6 c60 c61 c63 c64 f61
  go_wp2_with (first
    | (refine wpList_load_row rfl 45 (.tmp 11) rfl w2.heap.size rfl 45 (tokC 8 U (s.extract 1 j) 0 (s.size : Int) false) (0, 0) _ ?lg Try.underlying45 rfl ?li ?_
       (case lg => exact HT7.out)
       (case li => rw [info45]; rfl))
    | (refine wpList_store_row rfl 45 (.tmp 8) (.tmp 63) rfl w.heap.size (tokC 8 U (s.extract 1 j) 0 (s.size : Int) false) ?s1 ?s2 45 (tokC 0 ⟨#[]⟩ ⟨#[]⟩ 0 0 false) ?sg ?si ?s3 ?s4 ?_
       (case s1 => rfl)
       (case s2 => rfl)
       (case sg => exact HZ7.out)
       (case si => rw [info45]; rfl)
       (case s3 => rfl)
       (case s4 => exact tokOne _ _ _ _ _ _)))
  refine bodyPost_ret (v := .agg (tokC 8 U (s.extract 1 j) 0 (s.size : Int) false)) ?_ rfl ⟨rfl, ?_⟩
  · refine results_cell_row rfl _ _ w.heap.size 45 (tokC 8 U (s.extract 1 j) 0 (s.size : Int) false) (0, 0) _ rfl ?_ Try.underlying45 rfl ?_
    · exact setRow_heap _ _ _ _ _ _ HZ7.out
    · rw [info45]; rfl
  · exact below_setRow HB7.out (Nat.le_refl _) _

open Classical in
/-- Next at the beginning of a text that is one literal in single quotes; elsewhere nothing is told. -/
noncomputable def spec_Next.f (s : ByteArray) (at_ goal : Int) (script : Bool) : Option (Int × ByteArray × ByteArray × Int × Int × Int × Bool × Bool × Bool) :=
  if h : at_ = 0 ∧ goal = 0 ∧ script = false ∧ ∃ q : Nat × ByteArray × Nat, Lit1 s q.1 q.2.1 q.2.2 then some (8, h.2.2.2.choose.2.1, s.extract 1 h.2.2.2.choose.1, 0, 0, (s.size : Int), false, false, false) else none
theorem spec_Next.calls (a0 : ByteArray) (a1 a2 : Int) (a3 : Bool) (r1 : Int) (r2 r3 : ByteArray) (r4 r5 r6 : Int) (r7 r8 r9 : Bool) (w : World) (h : spec_Next.f a0 a1 a2 a3 = some (r1, r2, r3, r4, r5, r6, r7, r8, r9)) :
    Calls Try.prog 20 #[.string a0, .int .i64 a1, .int .i64 a2, .bool a3] w fun e w' => e = .returned (.agg #[.int .i64 r1, .string r2, .string r3, .int .u64 r4, .int .i64 r5, .int .i64 r6, .bool r7, .bool r8, .bool r9]) ∧ Below w.heap.size w w' := by
  unfold spec_Next.f at h
  by_cases hc : a1 = 0 ∧ a2 = 0 ∧ a3 = false ∧ ∃ q : Nat × ByteArray × Nat, Lit1 a0 q.1 q.2.1 q.2.2
  · rw [dif_pos hc] at h
    have hs := hc.2.2.2.choose_spec
    generalize hc.2.2.2.choose = q at h hs
    obtain ⟨rfl, rfl, rfl, _⟩ := hc
    simp only [Option.some.injEq, Prod.mk.injEq] at h
    obtain ⟨rfl, rfl, rfl, rfl, rfl, rfl, rfl, rfl, rfl⟩ := h
    exact next_calls a0 _ _ _ w hs
  · rw [dif_neg hc] at h; cases h
/-- Two tellings of one function agree. -/
theorem det {α : Type} {f : Nat → Option α} (hm : ∀ k, LeO (f k) (f (k + 1))) {k k' : Nat} {a b : α} (h : f k = some a) (h' : f k' = some b) : a = b := by
  have up : ∀ d k a, f k = some a → f (k + d) = some a := by
    intro d
    induction d with
    | zero => intro k a h; exact h
    | succ d ih => intro k a h; exact hm _ _ (ih k a h)
  have e1 := up k' k a h
  have e2 := up k k' b h'
  rw [Nat.add_comm k' k] at e2
  exact Option.some.inj (e1.symm.trans e2)
theorem TR.det {s : ByteArray} {j j' : Nat} {U U' : ByteArray} {m i : Nat} {T : ByteArray} (h : TR s j U m i T) : ∀ m', TR s j' U' m' i T → j = j' ∧ U = U' := by
  induction h with
  | stop h1 h2 =>
    intro m' h'
    cases h' with
    | stop g1 g2 => exact ⟨rfl, rfl⟩
    | plain _ _ _ _ _ _ _ _ _ g2 => rw [h2] at g2; simp at g2
    | esc _ _ _ _ _ _ _ g2 => rw [h2] at g2; simp at g2
  | plain m i i2 k T u c n h1 h2 h3 h4 h5 h6 h7 h8 h9 z0 h10 ih =>
    intro m' h'
    cases h' with
    | stop g1 g2 => rw [h2] at g2; simp at g2
    | plain m2 _ i3 k2 _ u2 c2 n2 g1 g2 g3 g4 g5 g6 g7 g8 g9 gz g10 =>
      have e := Go.Proofs.Ytmgepjnaalnckaa.det (fun k => spec_scan_rune.mono _ _ _ _ _ k) h3 g3
      simp only [Prod.mk.injEq] at e
      obtain ⟨rfl, rfl, _⟩ := e
      have e := Go.Proofs.Ytmgepjnaalnckaa.det (fun k => spec_Units.mono _ k) h9 g9
      subst e
      obtain rfl : i2 = i3 := by omega
      exact ih _ g10
    | esc m2 _ i3 k2 _ u2 g1 g2 g3 g4 gz g5 =>
      have e := Go.Proofs.Ytmgepjnaalnckaa.det (fun k => spec_scan_rune.mono _ _ _ _ _ k) h3 g3
      simp only [Prod.mk.injEq] at e
      exact absurd e.1 h7
  | esc m i i2 k T u h1 h2 h3 h4 z0 h5 ih =>
    intro m' h'
    cases h' with
    | stop g1 g2 => rw [h2] at g2; simp at g2
    | plain m2 _ i3 k2 _ u2 c2 n2 g1 g2 g3 g4 g5 g6 g7 g8 g9 gz g10 =>
      have e := Go.Proofs.Ytmgepjnaalnckaa.det (fun k => spec_scan_rune.mono _ _ _ _ _ k) h3 g3
      simp only [Prod.mk.injEq] at e
      exact absurd e.1.symm g7
    | esc m2 _ i3 k2 _ u2 g1 g2 g3 g4 gz g5 =>
      have e := Go.Proofs.Ytmgepjnaalnckaa.det (fun k => spec_scan_escape.mono _ _ _ _ _ _ k) h4 g4
      simp only [Prod.mk.injEq] at e
      obtain ⟨rfl, _, _, _, e5, _⟩ := e
      obtain rfl : i2 = i3 := by omega
      exact ih _ g5
theorem Next_tells {s : ByteArray} {j m : Nat} {U : ByteArray} (h : Lit1 s j U m) : spec_Next.f s 0 0 false = some (8, U, s.extract 1 j, 0, 0, (s.size : Int), false, false, false) := by
  unfold spec_Next.f
  have hc : (0 : Int) = 0 ∧ (0 : Int) = 0 ∧ false = false ∧ ∃ q : Nat × ByteArray × Nat, Lit1 s q.1 q.2.1 q.2.2 := ⟨rfl, rfl, rfl, ⟨(j, U, m), h⟩⟩
  rw [dif_pos hc]
  have hs := hc.2.2.2.choose_spec
  generalize hc.2.2.2.choose = q at hs ⊢
  obtain ⟨h1, h2⟩ := TR.det h.run _ hs.run
  rw [← h1, ← h2]
end Go.Proofs.Ytmgepjnaalnckaa
