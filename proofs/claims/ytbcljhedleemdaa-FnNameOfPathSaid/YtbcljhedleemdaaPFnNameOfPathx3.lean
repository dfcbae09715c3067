-- Written by printx.py of this session, over the kit's print, with contracts of this session for some functions
import Derived.Test.YtbcljhedleemdaaPFnNameOfPathx0
import Derived.Test.YtbcljhedleemdaaPFnNameOfPathx2
import Derived.Test.YtbcljhedleemdaaExtEnsure
import Derived.Test.YtbcljhedleemdaaExtNext
namespace Go.Proofs.Ytbcljhedleemdaa.PFnNameOfPath
open Go.RowKit Go.Proofs.YtbcljhedleemdaaW.PrintWords Go.Proofs.YtbcljhedleemdaaW.PrintLast Go.Proofs.YtbcljhedleemdaaW.PrintMore
attribute [local go_sem] max2_int min2_int max_two min_two max_three min_three max_four min_four   -- for this text's walks alone
set_option linter.unusedVariables false
set_option linter.unusedSimpArgs false

-- function 10 (js_ast_EnsureValidIdentifier): its contract stands in YtbcljhedleemdaaExtEnsure

/-! ### js_ast_GenerateNonUniqueNameFromPath: function 6 -/
def js_ast_GenerateNonUniqueNameFromPath.f (k : Nat) (a0 : ByteArray) : Option (ByteArray) := (logger_PlatformIndependentPathDirBaseExt.f k a0).bind fun bt106 => (if bt106.2.1.toList = ([105, 110, 100, 101, 120] : List UInt8) then ((logger_PlatformIndependentPathDirBaseExt.f k bt106.1).bind fun bt109 => (if bt109.2.1.toList = ([] : List UInt8) then ((js_ast_EnsureValidIdentifier.f bt106.2.1).bind fun t112 => (some t112)) else ((js_ast_EnsureValidIdentifier.f bt109.2.1).bind fun t113 => (some t113)))) else ((js_ast_EnsureValidIdentifier.f bt106.2.1).bind fun t114 => (some t114)))
theorem js_ast_GenerateNonUniqueNameFromPath.mono : ∀ a0 k, LeO (js_ast_GenerateNonUniqueNameFromPath.f k a0) (js_ast_GenerateNonUniqueNameFromPath.f (k + 1) a0) := by
  intro a0 k
  unfold js_ast_GenerateNonUniqueNameFromPath.f
  repeat' first
      | (with_reducible exact logger_PlatformIndependentPathDirBaseExt.mono _ _)
      | (with_reducible exact LeO.refl _)
      | (with_reducible exact LeO.none _)
      | (with_reducible refine LeO.ite ?_ ?_)
      | (with_reducible refine LeO.bind ?_ (fun _ => ?_))
      | exact logger_PlatformIndependentPathDirBaseExt.mono _ _
      | exact LeO.none _
      | refine LeO.ite ?_ ?_
      | refine LeO.bind ?_ (fun _ => ?_)
set_option maxHeartbeats 8000000 in
set_option maxRecDepth 100000 in
theorem js_ast_GenerateNonUniqueNameFromPath.calls (k : Nat) (a0 : ByteArray) (r : ByteArray) (w : World) (h : js_ast_GenerateNonUniqueNameFromPath.f k a0 = some r) :
    Calls Try.prog 6 #[.string a0] w fun e w' => e = .returned (.string r) ∧ Below w.heap.size w w' := by
  have HB := Aside0.mk (Below.refl w.heap.size w)
  have H : ((logger_PlatformIndependentPathDirBaseExt.f k a0).bind fun bt106 => (if bt106.2.1.toList = ([105, 110, 100, 101, 120] : List UInt8) then ((logger_PlatformIndependentPathDirBaseExt.f k bt106.1).bind fun bt109 => (if bt109.2.1.toList = ([] : List UInt8) then ((js_ast_EnsureValidIdentifier.f bt106.2.1).bind fun t112 => (some t112)) else ((js_ast_EnsureValidIdentifier.f bt109.2.1).bind fun t113 => (some t113)))) else ((js_ast_EnsureValidIdentifier.f bt106.2.1).bind fun t114 => (some t114)))) = some r := h
  clear h
  replace H := Option.bind_eq_some_iff.mp H
  obtain ⟨⟨t106, t107, t108⟩, A20, H⟩ := H
  replace H : (if t107.toList = ([105, 110, 100, 101, 120] : List UInt8) then ((logger_PlatformIndependentPathDirBaseExt.f k t106).bind fun bt109 => (if bt109.2.1.toList = ([] : List UInt8) then ((js_ast_EnsureValidIdentifier.f t107).bind fun t112 => (some t112)) else ((js_ast_EnsureValidIdentifier.f bt109.2.1).bind fun t113 => (some t113)))) else ((js_ast_EnsureValidIdentifier.f t107).bind fun t114 => (some t114))) = some r := H
  have A2 := Aside0.mk A20
  clear A20
  by_cases c3 : t107.toList = ([105, 110, 100, 101, 120] : List UInt8)
  · rw [if_pos c3] at H
    have c3b0 : (t107.toList == ([105, 110, 100, 101, 120] : List UInt8)) = true := beq_iff_eq.mpr c3
    have c3b1 : (t107.toList != ([105, 110, 100, 101, 120] : List UInt8)) = false := bne_eq_false_iff_eq.mpr c3
    clear c3
    replace H := Option.bind_eq_some_iff.mp H
    obtain ⟨⟨t109, t110, t111⟩, A40, H⟩ := H
    replace H : (if t110.toList = ([] : List UInt8) then ((js_ast_EnsureValidIdentifier.f t107).bind fun t112 => (some t112)) else ((js_ast_EnsureValidIdentifier.f t110).bind fun t113 => (some t113))) = some r := H
    have A4 := Aside0.mk A40
    clear A40
    by_cases c5 : t110.toList = ([] : List UInt8)
    · rw [if_pos c5] at H
      have c5b0 : (t110.toList == ([] : List UInt8)) = true := beq_iff_eq.mpr c5
      have c5b1 : (t110.toList != ([] : List UInt8)) = false := bne_eq_false_iff_eq.mpr c5
      clear c5
      replace H := Option.bind_eq_some_iff.mp H
      obtain ⟨t112, A60, H⟩ := H
      replace H : (some t112) = some r := H
      have A6 := Aside0.mk A60
      clear A60
      obtain rfl := Option.some.inj H
      go_enter Try.func6, Try.ntmps6
      go_wp2_with (first | ((with_reducible refine gate_callee (f := 9) rfl ?_); refine goesL_ (some 11) rfl rfl Try.func9 (by kernel_rfl) rfl #[.string a0] rfl (by (try simp only [List.map_toArray, List.map_cons, List.map_nil]); first | done | rfl | (simp only [List.length_drop, List.length_take]; rfl)) ?_; (with_reducible refine (logger_PlatformIndependentPathDirBaseExt.calls k a0 t106 t107 t108 _ A2.out).mono ?_); rintro e w7 ⟨rfl, hb⟩; refine ⟨_, rfl, ?_⟩; have n0_ := Aside0.mk (below_step (by repeat (first | (with_reducible first | exact HB.out | apply below_alloc | apply pw_below_drewN | apply below_drew1) | exact HB.out)) hb); clear HB; have HB := n0_; clear n0_; (try clear hb); (try clear hb2); (try clear hk); (try clear hi)) | ((with_reducible refine gate_callee (f := 9) rfl ?_); refine goesL_ (some 19) rfl rfl Try.func9 (by kernel_rfl) rfl #[.string t106] rfl (by (try simp only [List.map_toArray, List.map_cons, List.map_nil]); first | done | rfl | (simp only [List.length_drop, List.length_take]; rfl)) ?_; (with_reducible refine (logger_PlatformIndependentPathDirBaseExt.calls k t106 t109 t110 t111 _ A4.out).mono ?_); rintro e w8 ⟨rfl, hb⟩; refine ⟨_, rfl, ?_⟩; have n0_ := Aside0.mk (below_step (by repeat (first | (with_reducible first | exact HB.out | apply below_alloc | apply pw_below_drewN | apply below_drew1) | exact HB.out)) hb); clear HB; have HB := n0_; clear n0_; (try clear hb); (try clear hb2); (try clear hk); (try clear hi)) | ((with_reducible refine gate_callee (f := 10) rfl ?_); refine goesL_ (some 27) rfl rfl Try.func10 (by kernel_rfl) rfl #[.string t107] rfl (by (try simp only [List.map_toArray, List.map_cons, List.map_nil]); first | done | rfl | (simp only [List.length_drop, List.length_take]; rfl)) ?_; (with_reducible refine (js_ast_EnsureValidIdentifier.calls t107 t112 _ A6.out).mono ?_); rintro e w9 ⟨rfl, hb⟩; refine ⟨_, rfl, ?_⟩; have n0_ := Aside0.mk (below_step (by repeat (first | (with_reducible first | exact HB.out | apply below_alloc | apply pw_below_drewN | apply below_drew1) | exact HB.out)) hb); clear HB; have HB := n0_; clear n0_; (try clear hb); (try clear hb2); (try clear hk); (try clear hi)))
      go_ret
      exact ⟨by first | rfl | (simp [errW_none, errW_some] <;> rfl) | (simp [*, errW_none, errW_some] <;> rfl), by repeat (first | (with_reducible first | exact HB.out | apply below_alloc | apply pw_below_drewN | apply below_drew1) | exact HB.out)⟩
    · rw [if_neg c5] at H
      have c5b0 : (t110.toList == ([] : List UInt8)) = false := beq_eq_false_iff_ne.mpr c5
      have c5b1 : (t110.toList != ([] : List UInt8)) = true := bne_iff_ne.mpr c5
      replace H := Option.bind_eq_some_iff.mp H
      obtain ⟨t113, A100, H⟩ := H
      replace H : (some t113) = some r := H
      have A10 := Aside0.mk A100
      clear A100
      obtain rfl := Option.some.inj H
      go_enter Try.func6, Try.ntmps6
      go_wp2_with (first | ((with_reducible refine gate_callee (f := 9) rfl ?_); refine goesL_ (some 11) rfl rfl Try.func9 (by kernel_rfl) rfl #[.string a0] rfl (by (try simp only [List.map_toArray, List.map_cons, List.map_nil]); first | done | rfl | (simp only [List.length_drop, List.length_take]; rfl)) ?_; (with_reducible refine (logger_PlatformIndependentPathDirBaseExt.calls k a0 t106 t107 t108 _ A2.out).mono ?_); rintro e w11 ⟨rfl, hb⟩; refine ⟨_, rfl, ?_⟩; have n0_ := Aside0.mk (below_step (by repeat (first | (with_reducible first | exact HB.out | apply below_alloc | apply pw_below_drewN | apply below_drew1) | exact HB.out)) hb); clear HB; have HB := n0_; clear n0_; (try clear hb); (try clear hb2); (try clear hk); (try clear hi)) | ((with_reducible refine gate_callee (f := 9) rfl ?_); refine goesL_ (some 19) rfl rfl Try.func9 (by kernel_rfl) rfl #[.string t106] rfl (by (try simp only [List.map_toArray, List.map_cons, List.map_nil]); first | done | rfl | (simp only [List.length_drop, List.length_take]; rfl)) ?_; (with_reducible refine (logger_PlatformIndependentPathDirBaseExt.calls k t106 t109 t110 t111 _ A4.out).mono ?_); rintro e w12 ⟨rfl, hb⟩; refine ⟨_, rfl, ?_⟩; have n0_ := Aside0.mk (below_step (by repeat (first | (with_reducible first | exact HB.out | apply below_alloc | apply pw_below_drewN | apply below_drew1) | exact HB.out)) hb); clear HB; have HB := n0_; clear n0_; (try clear hb); (try clear hb2); (try clear hk); (try clear hi)) | ((with_reducible refine gate_callee (f := 10) rfl ?_); refine goesL_ (some 27) rfl rfl Try.func10 (by kernel_rfl) rfl #[.string t110] rfl (by (try simp only [List.map_toArray, List.map_cons, List.map_nil]); first | done | rfl | (simp only [List.length_drop, List.length_take]; rfl)) ?_; (with_reducible refine (js_ast_EnsureValidIdentifier.calls t110 t113 _ A10.out).mono ?_); rintro e w13 ⟨rfl, hb⟩; refine ⟨_, rfl, ?_⟩; have n0_ := Aside0.mk (below_step (by repeat (first | (with_reducible first | exact HB.out | apply below_alloc | apply pw_below_drewN | apply below_drew1) | exact HB.out)) hb); clear HB; have HB := n0_; clear n0_; (try clear hb); (try clear hb2); (try clear hk); (try clear hi)))
      go_ret
      exact ⟨by first | rfl | (simp [errW_none, errW_some] <;> rfl) | (simp [*, errW_none, errW_some] <;> rfl), by repeat (first | (with_reducible first | exact HB.out | apply below_alloc | apply pw_below_drewN | apply below_drew1) | exact HB.out)⟩
  · rw [if_neg c3] at H
    have c3b0 : (t107.toList == ([105, 110, 100, 101, 120] : List UInt8)) = false := beq_eq_false_iff_ne.mpr c3
    have c3b1 : (t107.toList != ([105, 110, 100, 101, 120] : List UInt8)) = true := bne_iff_ne.mpr c3
    replace H := Option.bind_eq_some_iff.mp H
    obtain ⟨t114, A140, H⟩ := H
    replace H : (some t114) = some r := H
    have A14 := Aside0.mk A140
    clear A140
    obtain rfl := Option.some.inj H
    go_enter Try.func6, Try.ntmps6
    go_wp2_with (first | ((with_reducible refine gate_callee (f := 9) rfl ?_); refine goesL_ (some 11) rfl rfl Try.func9 (by kernel_rfl) rfl #[.string a0] rfl (by (try simp only [List.map_toArray, List.map_cons, List.map_nil]); first | done | rfl | (simp only [List.length_drop, List.length_take]; rfl)) ?_; (with_reducible refine (logger_PlatformIndependentPathDirBaseExt.calls k a0 t106 t107 t108 _ A2.out).mono ?_); rintro e w15 ⟨rfl, hb⟩; refine ⟨_, rfl, ?_⟩; have n0_ := Aside0.mk (below_step (by repeat (first | (with_reducible first | exact HB.out | apply below_alloc | apply pw_below_drewN | apply below_drew1) | exact HB.out)) hb); clear HB; have HB := n0_; clear n0_; (try clear hb); (try clear hb2); (try clear hk); (try clear hi)) | ((with_reducible refine gate_callee (f := 10) rfl ?_); refine goesL_ (some 27) rfl rfl Try.func10 (by kernel_rfl) rfl #[.string t107] rfl (by (try simp only [List.map_toArray, List.map_cons, List.map_nil]); first | done | rfl | (simp only [List.length_drop, List.length_take]; rfl)) ?_; (with_reducible refine (js_ast_EnsureValidIdentifier.calls t107 t114 _ A14.out).mono ?_); rintro e w16 ⟨rfl, hb⟩; refine ⟨_, rfl, ?_⟩; have n0_ := Aside0.mk (below_step (by repeat (first | (with_reducible first | exact HB.out | apply below_alloc | apply pw_below_drewN | apply below_drew1) | exact HB.out)) hb); clear HB; have HB := n0_; clear n0_; (try clear hb); (try clear hb2); (try clear hk); (try clear hi)))
    go_ret
    exact ⟨by first | rfl | (simp [errW_none, errW_some] <;> rfl) | (simp [*, errW_none, errW_some] <;> rfl), by repeat (first | (with_reducible first | exact HB.out | apply below_alloc | apply pw_below_drewN | apply below_drew1) | exact HB.out)⟩

/-! ### impl_NameOfPath: function 4 -/
def impl_NameOfPath.f (k : Nat) (a0 : ByteArray) : Option (ByteArray) := (js_ast_GenerateNonUniqueNameFromPath.f k a0).bind fun t115 => (some t115)
theorem impl_NameOfPath.mono : ∀ a0 k, LeO (impl_NameOfPath.f k a0) (impl_NameOfPath.f (k + 1) a0) := by
  intro a0 k
  unfold impl_NameOfPath.f
  repeat' first
      | (with_reducible exact js_ast_GenerateNonUniqueNameFromPath.mono _ _)
      | (with_reducible exact LeO.refl _)
      | (with_reducible exact LeO.none _)
      | (with_reducible refine LeO.ite ?_ ?_)
      | (with_reducible refine LeO.bind ?_ (fun _ => ?_))
      | exact js_ast_GenerateNonUniqueNameFromPath.mono _ _
      | exact LeO.none _
      | refine LeO.ite ?_ ?_
      | refine LeO.bind ?_ (fun _ => ?_)
set_option maxHeartbeats 8000000 in
set_option maxRecDepth 100000 in
theorem impl_NameOfPath.calls (k : Nat) (a0 : ByteArray) (r : ByteArray) (w : World) (h : impl_NameOfPath.f k a0 = some r) :
    Calls Try.prog 4 #[.string a0] w fun e w' => e = .returned (.string r) ∧ Below w.heap.size w w' := by
  have HB := Aside0.mk (Below.refl w.heap.size w)
  have H : ((js_ast_GenerateNonUniqueNameFromPath.f k a0).bind fun t115 => (some t115)) = some r := h
  clear h
  replace H := Option.bind_eq_some_iff.mp H
  obtain ⟨t115, A20, H⟩ := H
  replace H : (some t115) = some r := H
  have A2 := Aside0.mk A20
  clear A20
  obtain rfl := Option.some.inj H
  go_enter Try.func4, Try.ntmps4
  go_wp2_with (first | ((with_reducible refine gate_callee (f := 6) rfl ?_); refine goesL_ (some 4) rfl rfl Try.func6 (by kernel_rfl) rfl #[.string a0] rfl (by (try simp only [List.map_toArray, List.map_cons, List.map_nil]); first | done | rfl | (simp only [List.length_drop, List.length_take]; rfl)) ?_; (with_reducible refine (js_ast_GenerateNonUniqueNameFromPath.calls k a0 t115 _ A2.out).mono ?_); rintro e w3 ⟨rfl, hb⟩; refine ⟨_, rfl, ?_⟩; have n0_ := Aside0.mk (below_step (by repeat (first | (with_reducible first | exact HB.out | apply below_alloc | apply pw_below_drewN | apply below_drew1) | exact HB.out)) hb); clear HB; have HB := n0_; clear n0_; (try clear hb); (try clear hb2); (try clear hk); (try clear hi)))
  go_ret
  exact ⟨by first | rfl | (simp [errW_none, errW_some] <;> rfl) | (simp [*, errW_none, errW_some] <;> rfl), by repeat (first | (with_reducible first | exact HB.out | apply below_alloc | apply pw_below_drewN | apply below_drew1) | exact HB.out)⟩

-- function 11 (spec_Next): its contract stands in YtbcljhedleemdaaExtNext

/-! ### spec_isIdentifierName: function 7 -/
def spec_isIdentifierName.f (a0 : ByteArray) : Option (Bool) := (spec_Next.f a0 0 0 false).bind fun bt116 => (if bt116.1 = 3 then (if bt116.2.2.2.2.2.2.2.1 = true then (some false) else (if bt116.2.2.2.2.1 = 0 then (some (bt116.2.2.2.2.2.1 == (a0.size : Int))) else (some false))) else (some false))
set_option maxHeartbeats 8000000 in
set_option maxRecDepth 100000 in
theorem spec_isIdentifierName.calls (a0 : ByteArray) (r : Bool) (w : World) (h : spec_isIdentifierName.f a0 = some r) :
    Calls Try.prog 7 #[.string a0] w fun e w' => e = .returned (.bool r) ∧ Below w.heap.size w w' := by
  have hu31 := Try.underlying31
  have HB := Aside0.mk (Below.refl w.heap.size w)
  have H : ((spec_Next.f a0 0 0 false).bind fun bt116 => (if bt116.1 = 3 then (if bt116.2.2.2.2.2.2.2.1 = true then (some false) else (if bt116.2.2.2.2.1 = 0 then (some (bt116.2.2.2.2.2.1 == (a0.size : Int))) else (some false))) else (some false))) = some r := h
  clear h
  replace H := Option.bind_eq_some_iff.mp H
  obtain ⟨⟨t116, t117, t118, t119, t120, t121, t122, t123, t124⟩, A20, H⟩ := H
  replace H : (if t116 = 3 then (if t123 = true then (some false) else (if t120 = 0 then (some (t121 == (a0.size : Int))) else (some false))) else (some false)) = some r := H
  have A2 := Aside0.mk A20
  clear A20
  by_cases c3 : t116 = 3
  · rw [if_pos c3] at H
    have c3b0 : (t116 == 3) = true := beq_iff_eq.mpr c3
    have c3b1 : (t116 != 3) = false := bne_eq_false_iff_eq.mpr c3
    clear c3
    by_cases c4 : t123 = true
    · subst c4
      have H1 : (some false) = some r := by rw [if_pos rfl] at H; exact H
      clear H
      have H := H1
      clear H1
      obtain rfl := Option.some.inj H
      go_enter Try.func7, Try.ntmps7
      go_wp2_with (first | ((with_reducible refine gate_callee (f := 11) rfl ?_); refine goesL_ (some 5) rfl rfl Try.func11 (by kernel_rfl) rfl #[.string a0, .int .i64 0, .int .i64 0, .bool false] rfl (by (try simp only [List.map_toArray, List.map_cons, List.map_nil]); first | done | rfl | (simp only [List.length_drop, List.length_take]; rfl)) ?_; (with_reducible refine (spec_Next.calls a0 0 0 false t116 t117 t118 t119 t120 t121 t122 true t124 _ A2.out).mono ?_); rintro e w5 ⟨rfl, hb⟩; refine ⟨_, rfl, ?_⟩; have n0_ := Aside0.mk (below_step (by repeat (first | (with_reducible first | exact HB.out | apply below_alloc | apply pw_below_drewN | apply below_drew1) | exact HB.out)) hb); clear HB; have HB := n0_; clear n0_; (try clear hb); (try clear hb2); (try clear hk); (try clear hi)) | ((with_reducible refine gate_dst (N := 3) rfl ?_); (try (refine gate_guard (by rfl) ?_; dsimp only)); refine box_event ?hg (N := 3) ?hd (cs := #[.int .i64 0, .string (⟨#[]⟩ : ByteArray), .string (⟨#[]⟩ : ByteArray), .int .u64 0, .int .i64 0, .int .i64 0, .bool false, .bool false, .bool false]) (t := 31) ?hr ?_; (case hd => rfl); (case hg => rfl); (case hr => first | (go_simp; done) | (go_simp; rfl)); intro gb125 hg w6 hbox hb; have n0_ := Aside0.mk (below_step (by repeat (first | (with_reducible first | exact HB.out | apply below_alloc | apply pw_below_drewN | apply below_drew1) | exact HB.out)) hb); have n1_ := Aside0.mk (hbox); have n2_ := Aside0.mk ((by rw [hg]; exact (below_size (by repeat (first | (with_reducible first | exact HB.out | apply below_alloc | apply pw_below_drewN | apply below_drew1) | exact HB.out))) : w.heap.size ≤ gb125)); have n3_ := Aside0.mk ((by rw [hg]; exact (below_size (by repeat (first | (with_reducible first | exact HB.out | apply below_alloc | apply pw_below_drewN | apply below_drew1) | exact HB.out))) : w.heap.size ≤ gb125)); clear HB; have HB := n0_; have BK125 := n1_; have GW125 := n2_; have GE125 := n3_; clear n0_ n1_ n2_ n3_; clear hb hbox hg; have hcz7_0 : w6.cell? ⟨gb125, 0, none⟩ = some (.int .i64 0) := (blk_cell BK125.out 0).trans rfl; have hcz7_1 : w6.cell? ⟨gb125, 1, none⟩ = some (.string (⟨#[]⟩ : ByteArray)) := (blk_cell BK125.out 1).trans rfl; have hcz7_2 : w6.cell? ⟨gb125, 2, none⟩ = some (.string (⟨#[]⟩ : ByteArray)) := (blk_cell BK125.out 2).trans rfl; have hcz7_3 : w6.cell? ⟨gb125, 3, none⟩ = some (.int .u64 0) := (blk_cell BK125.out 3).trans rfl; have hcz7_4 : w6.cell? ⟨gb125, 4, none⟩ = some (.int .i64 0) := (blk_cell BK125.out 4).trans rfl; have hcz7_5 : w6.cell? ⟨gb125, 5, none⟩ = some (.int .i64 0) := (blk_cell BK125.out 5).trans rfl; have hcz7_6 : w6.cell? ⟨gb125, 6, none⟩ = some (.bool false) := (blk_cell BK125.out 6).trans rfl; have hcz7_7 : w6.cell? ⟨gb125, 7, none⟩ = some (.bool false) := (blk_cell BK125.out 7).trans rfl; have hcz7_8 : w6.cell? ⟨gb125, 8, none⟩ = some (.bool false) := (blk_cell BK125.out 8).trans rfl; have hfz7_0 := blk_frozen BK125.out 0; have hfz7_1 := blk_frozen BK125.out 1; have hfz7_2 := blk_frozen BK125.out 2; have hfz7_3 := blk_frozen BK125.out 3; have hfz7_4 := blk_frozen BK125.out 4; have hfz7_5 := blk_frozen BK125.out 5; have hfz7_6 := blk_frozen BK125.out 6; have hfz7_7 := blk_frozen BK125.out 7; have hfz7_8 := blk_frozen BK125.out 8))
      go_ret
      exact ⟨by first | rfl | (simp [errW_none, errW_some] <;> rfl) | (simp [*, errW_none, errW_some] <;> rfl), by repeat (first | (with_reducible first | exact HB.out | apply below_alloc | apply pw_below_drewN | apply below_drew1 | refine below_set ?_ GE125.out) | exact HB.out)⟩
    · replace c4 := Bool.eq_false_iff.mpr c4
      subst c4
      have H1 : (if t120 = 0 then (some (t121 == (a0.size : Int))) else (some false)) = some r := by rw [if_neg (show ¬ (false = true) by decide)] at H; exact H
      clear H
      have H := H1
      clear H1
      by_cases c8 : t120 = 0
      · rw [if_pos c8] at H
        have c8b0 : (t120 == 0) = true := beq_iff_eq.mpr c8
        have c8b1 : (t120 != 0) = false := bne_eq_false_iff_eq.mpr c8
        clear c8
        obtain rfl := Option.some.inj H
        go_enter Try.func7, Try.ntmps7
        go_wp2_with (first | ((with_reducible refine gate_callee (f := 11) rfl ?_); refine goesL_ (some 5) rfl rfl Try.func11 (by kernel_rfl) rfl #[.string a0, .int .i64 0, .int .i64 0, .bool false] rfl (by (try simp only [List.map_toArray, List.map_cons, List.map_nil]); first | done | rfl | (simp only [List.length_drop, List.length_take]; rfl)) ?_; (with_reducible refine (spec_Next.calls a0 0 0 false t116 t117 t118 t119 t120 t121 t122 false t124 _ A2.out).mono ?_); rintro e w9 ⟨rfl, hb⟩; refine ⟨_, rfl, ?_⟩; have n0_ := Aside0.mk (below_step (by repeat (first | (with_reducible first | exact HB.out | apply below_alloc | apply pw_below_drewN | apply below_drew1) | exact HB.out)) hb); clear HB; have HB := n0_; clear n0_; (try clear hb); (try clear hb2); (try clear hk); (try clear hi)) | ((with_reducible refine gate_dst (N := 3) rfl ?_); (try (refine gate_guard (by rfl) ?_; dsimp only)); refine box_event ?hg (N := 3) ?hd (cs := #[.int .i64 0, .string (⟨#[]⟩ : ByteArray), .string (⟨#[]⟩ : ByteArray), .int .u64 0, .int .i64 0, .int .i64 0, .bool false, .bool false, .bool false]) (t := 31) ?hr ?_; (case hd => rfl); (case hg => rfl); (case hr => first | (go_simp; done) | (go_simp; rfl)); intro gb125 hg w10 hbox hb; have n0_ := Aside0.mk (below_step (by repeat (first | (with_reducible first | exact HB.out | apply below_alloc | apply pw_below_drewN | apply below_drew1) | exact HB.out)) hb); have n1_ := Aside0.mk (hbox); have n2_ := Aside0.mk ((by rw [hg]; exact (below_size (by repeat (first | (with_reducible first | exact HB.out | apply below_alloc | apply pw_below_drewN | apply below_drew1) | exact HB.out))) : w.heap.size ≤ gb125)); have n3_ := Aside0.mk ((by rw [hg]; exact (below_size (by repeat (first | (with_reducible first | exact HB.out | apply below_alloc | apply pw_below_drewN | apply below_drew1) | exact HB.out))) : w.heap.size ≤ gb125)); clear HB; have HB := n0_; have BK125 := n1_; have GW125 := n2_; have GE125 := n3_; clear n0_ n1_ n2_ n3_; clear hb hbox hg; have hcz11_0 : w10.cell? ⟨gb125, 0, none⟩ = some (.int .i64 0) := (blk_cell BK125.out 0).trans rfl; have hcz11_1 : w10.cell? ⟨gb125, 1, none⟩ = some (.string (⟨#[]⟩ : ByteArray)) := (blk_cell BK125.out 1).trans rfl; have hcz11_2 : w10.cell? ⟨gb125, 2, none⟩ = some (.string (⟨#[]⟩ : ByteArray)) := (blk_cell BK125.out 2).trans rfl; have hcz11_3 : w10.cell? ⟨gb125, 3, none⟩ = some (.int .u64 0) := (blk_cell BK125.out 3).trans rfl; have hcz11_4 : w10.cell? ⟨gb125, 4, none⟩ = some (.int .i64 0) := (blk_cell BK125.out 4).trans rfl; have hcz11_5 : w10.cell? ⟨gb125, 5, none⟩ = some (.int .i64 0) := (blk_cell BK125.out 5).trans rfl; have hcz11_6 : w10.cell? ⟨gb125, 6, none⟩ = some (.bool false) := (blk_cell BK125.out 6).trans rfl; have hcz11_7 : w10.cell? ⟨gb125, 7, none⟩ = some (.bool false) := (blk_cell BK125.out 7).trans rfl; have hcz11_8 : w10.cell? ⟨gb125, 8, none⟩ = some (.bool false) := (blk_cell BK125.out 8).trans rfl; have hfz11_0 := blk_frozen BK125.out 0; have hfz11_1 := blk_frozen BK125.out 1; have hfz11_2 := blk_frozen BK125.out 2; have hfz11_3 := blk_frozen BK125.out 3; have hfz11_4 := blk_frozen BK125.out 4; have hfz11_5 := blk_frozen BK125.out 5; have hfz11_6 := blk_frozen BK125.out 6; have hfz11_7 := blk_frozen BK125.out 7; have hfz11_8 := blk_frozen BK125.out 8))
        go_ret
        exact ⟨by first | rfl | (simp [errW_none, errW_some] <;> rfl) | (simp [*, errW_none, errW_some] <;> rfl), by repeat (first | (with_reducible first | exact HB.out | apply below_alloc | apply pw_below_drewN | apply below_drew1 | refine below_set ?_ GE125.out) | exact HB.out)⟩
      · rw [if_neg c8] at H
        have c8b0 : (t120 == 0) = false := beq_eq_false_iff_ne.mpr c8
        have c8b1 : (t120 != 0) = true := bne_iff_ne.mpr c8
        obtain rfl := Option.some.inj H
        go_enter Try.func7, Try.ntmps7
        go_wp2_with (first | ((with_reducible refine gate_callee (f := 11) rfl ?_); refine goesL_ (some 5) rfl rfl Try.func11 (by kernel_rfl) rfl #[.string a0, .int .i64 0, .int .i64 0, .bool false] rfl (by (try simp only [List.map_toArray, List.map_cons, List.map_nil]); first | done | rfl | (simp only [List.length_drop, List.length_take]; rfl)) ?_; (with_reducible refine (spec_Next.calls a0 0 0 false t116 t117 t118 t119 t120 t121 t122 false t124 _ A2.out).mono ?_); rintro e w12 ⟨rfl, hb⟩; refine ⟨_, rfl, ?_⟩; have n0_ := Aside0.mk (below_step (by repeat (first | (with_reducible first | exact HB.out | apply below_alloc | apply pw_below_drewN | apply below_drew1) | exact HB.out)) hb); clear HB; have HB := n0_; clear n0_; (try clear hb); (try clear hb2); (try clear hk); (try clear hi)) | ((with_reducible refine gate_dst (N := 3) rfl ?_); (try (refine gate_guard (by rfl) ?_; dsimp only)); refine box_event ?hg (N := 3) ?hd (cs := #[.int .i64 0, .string (⟨#[]⟩ : ByteArray), .string (⟨#[]⟩ : ByteArray), .int .u64 0, .int .i64 0, .int .i64 0, .bool false, .bool false, .bool false]) (t := 31) ?hr ?_; (case hd => rfl); (case hg => rfl); (case hr => first | (go_simp; done) | (go_simp; rfl)); intro gb125 hg w13 hbox hb; have n0_ := Aside0.mk (below_step (by repeat (first | (with_reducible first | exact HB.out | apply below_alloc | apply pw_below_drewN | apply below_drew1) | exact HB.out)) hb); have n1_ := Aside0.mk (hbox); have n2_ := Aside0.mk ((by rw [hg]; exact (below_size (by repeat (first | (with_reducible first | exact HB.out | apply below_alloc | apply pw_below_drewN | apply below_drew1) | exact HB.out))) : w.heap.size ≤ gb125)); have n3_ := Aside0.mk ((by rw [hg]; exact (below_size (by repeat (first | (with_reducible first | exact HB.out | apply below_alloc | apply pw_below_drewN | apply below_drew1) | exact HB.out))) : w.heap.size ≤ gb125)); clear HB; have HB := n0_; have BK125 := n1_; have GW125 := n2_; have GE125 := n3_; clear n0_ n1_ n2_ n3_; clear hb hbox hg; have hcz14_0 : w13.cell? ⟨gb125, 0, none⟩ = some (.int .i64 0) := (blk_cell BK125.out 0).trans rfl; have hcz14_1 : w13.cell? ⟨gb125, 1, none⟩ = some (.string (⟨#[]⟩ : ByteArray)) := (blk_cell BK125.out 1).trans rfl; have hcz14_2 : w13.cell? ⟨gb125, 2, none⟩ = some (.string (⟨#[]⟩ : ByteArray)) := (blk_cell BK125.out 2).trans rfl; have hcz14_3 : w13.cell? ⟨gb125, 3, none⟩ = some (.int .u64 0) := (blk_cell BK125.out 3).trans rfl; have hcz14_4 : w13.cell? ⟨gb125, 4, none⟩ = some (.int .i64 0) := (blk_cell BK125.out 4).trans rfl; have hcz14_5 : w13.cell? ⟨gb125, 5, none⟩ = some (.int .i64 0) := (blk_cell BK125.out 5).trans rfl; have hcz14_6 : w13.cell? ⟨gb125, 6, none⟩ = some (.bool false) := (blk_cell BK125.out 6).trans rfl; have hcz14_7 : w13.cell? ⟨gb125, 7, none⟩ = some (.bool false) := (blk_cell BK125.out 7).trans rfl; have hcz14_8 : w13.cell? ⟨gb125, 8, none⟩ = some (.bool false) := (blk_cell BK125.out 8).trans rfl; have hfz14_0 := blk_frozen BK125.out 0; have hfz14_1 := blk_frozen BK125.out 1; have hfz14_2 := blk_frozen BK125.out 2; have hfz14_3 := blk_frozen BK125.out 3; have hfz14_4 := blk_frozen BK125.out 4; have hfz14_5 := blk_frozen BK125.out 5; have hfz14_6 := blk_frozen BK125.out 6; have hfz14_7 := blk_frozen BK125.out 7; have hfz14_8 := blk_frozen BK125.out 8))
        go_ret
        exact ⟨by first | rfl | (simp [errW_none, errW_some] <;> rfl) | (simp [*, errW_none, errW_some] <;> rfl), by repeat (first | (with_reducible first | exact HB.out | apply below_alloc | apply pw_below_drewN | apply below_drew1 | refine below_set ?_ GE125.out) | exact HB.out)⟩
  · rw [if_neg c3] at H
    have c3b0 : (t116 == 3) = false := beq_eq_false_iff_ne.mpr c3
    have c3b1 : (t116 != 3) = true := bne_iff_ne.mpr c3
    obtain rfl := Option.some.inj H
    go_enter Try.func7, Try.ntmps7
    go_wp2_with (first | ((with_reducible refine gate_callee (f := 11) rfl ?_); refine goesL_ (some 5) rfl rfl Try.func11 (by kernel_rfl) rfl #[.string a0, .int .i64 0, .int .i64 0, .bool false] rfl (by (try simp only [List.map_toArray, List.map_cons, List.map_nil]); first | done | rfl | (simp only [List.length_drop, List.length_take]; rfl)) ?_; (with_reducible refine (spec_Next.calls a0 0 0 false t116 t117 t118 t119 t120 t121 t122 t123 t124 _ A2.out).mono ?_); rintro e w15 ⟨rfl, hb⟩; refine ⟨_, rfl, ?_⟩; have n0_ := Aside0.mk (below_step (by repeat (first | (with_reducible first | exact HB.out | apply below_alloc | apply pw_below_drewN | apply below_drew1) | exact HB.out)) hb); clear HB; have HB := n0_; clear n0_; (try clear hb); (try clear hb2); (try clear hk); (try clear hi)) | ((with_reducible refine gate_dst (N := 3) rfl ?_); (try (refine gate_guard (by rfl) ?_; dsimp only)); refine box_event ?hg (N := 3) ?hd (cs := #[.int .i64 0, .string (⟨#[]⟩ : ByteArray), .string (⟨#[]⟩ : ByteArray), .int .u64 0, .int .i64 0, .int .i64 0, .bool false, .bool false, .bool false]) (t := 31) ?hr ?_; (case hd => rfl); (case hg => rfl); (case hr => first | (go_simp; done) | (go_simp; rfl)); intro gb125 hg w16 hbox hb; have n0_ := Aside0.mk (below_step (by repeat (first | (with_reducible first | exact HB.out | apply below_alloc | apply pw_below_drewN | apply below_drew1) | exact HB.out)) hb); have n1_ := Aside0.mk (hbox); have n2_ := Aside0.mk ((by rw [hg]; exact (below_size (by repeat (first | (with_reducible first | exact HB.out | apply below_alloc | apply pw_below_drewN | apply below_drew1) | exact HB.out))) : w.heap.size ≤ gb125)); have n3_ := Aside0.mk ((by rw [hg]; exact (below_size (by repeat (first | (with_reducible first | exact HB.out | apply below_alloc | apply pw_below_drewN | apply below_drew1) | exact HB.out))) : w.heap.size ≤ gb125)); clear HB; have HB := n0_; have BK125 := n1_; have GW125 := n2_; have GE125 := n3_; clear n0_ n1_ n2_ n3_; clear hb hbox hg; have hcz17_0 : w16.cell? ⟨gb125, 0, none⟩ = some (.int .i64 0) := (blk_cell BK125.out 0).trans rfl; have hcz17_1 : w16.cell? ⟨gb125, 1, none⟩ = some (.string (⟨#[]⟩ : ByteArray)) := (blk_cell BK125.out 1).trans rfl; have hcz17_2 : w16.cell? ⟨gb125, 2, none⟩ = some (.string (⟨#[]⟩ : ByteArray)) := (blk_cell BK125.out 2).trans rfl; have hcz17_3 : w16.cell? ⟨gb125, 3, none⟩ = some (.int .u64 0) := (blk_cell BK125.out 3).trans rfl; have hcz17_4 : w16.cell? ⟨gb125, 4, none⟩ = some (.int .i64 0) := (blk_cell BK125.out 4).trans rfl; have hcz17_5 : w16.cell? ⟨gb125, 5, none⟩ = some (.int .i64 0) := (blk_cell BK125.out 5).trans rfl; have hcz17_6 : w16.cell? ⟨gb125, 6, none⟩ = some (.bool false) := (blk_cell BK125.out 6).trans rfl; have hcz17_7 : w16.cell? ⟨gb125, 7, none⟩ = some (.bool false) := (blk_cell BK125.out 7).trans rfl; have hcz17_8 : w16.cell? ⟨gb125, 8, none⟩ = some (.bool false) := (blk_cell BK125.out 8).trans rfl; have hfz17_0 := blk_frozen BK125.out 0; have hfz17_1 := blk_frozen BK125.out 1; have hfz17_2 := blk_frozen BK125.out 2; have hfz17_3 := blk_frozen BK125.out 3; have hfz17_4 := blk_frozen BK125.out 4; have hfz17_5 := blk_frozen BK125.out 5; have hfz17_6 := blk_frozen BK125.out 6; have hfz17_7 := blk_frozen BK125.out 7; have hfz17_8 := blk_frozen BK125.out 8))
    go_ret
    exact ⟨by first | rfl | (simp [errW_none, errW_some] <;> rfl) | (simp [*, errW_none, errW_some] <;> rfl), by repeat (first | (with_reducible first | exact HB.out | apply below_alloc | apply pw_below_drewN | apply below_drew1 | refine below_set ?_ GE125.out) | exact HB.out)⟩

/-! ### spec_has: function 17 -/
def spec_has.l0 : Nat → List ByteArray → ByteArray → Int → Option (Bool)
  | 0, _, _, _ => none
  | k + 1, x0, x1, x5 => if x5 < (x0.length : Int) then (if 0 ≤ x5 then (if (rdOf ByteArray.empty x0 x5).toList = x1.toList then (some true) else (spec_has.l0 k x0 x1 (wrap64 (x5 + 1)))) else (none)) else (some false)
def spec_has.f (k : Nat) (l0 : List ByteArray) (a1 : ByteArray) : Option (Bool) := spec_has.l0 k l0 a1 0
theorem spec_has.mono_l : ∀ k, (∀ y0 y1 y2, LeO (spec_has.l0 k y0 y1 y2) (spec_has.l0 (k + 1) y0 y1 y2))
  | 0 => fun _ _ _ r h => by simp [spec_has.l0] at h
  | k + 1 => by
    have ih0 := spec_has.mono_l k
    · intro y0 y1 y2
      unfold spec_has.l0
      repeat' first
      | (with_reducible exact ih0 _ _ _)
      | (with_reducible exact LeO.refl _)
      | (with_reducible exact LeO.none _)
      | (with_reducible refine LeO.ite ?_ ?_)
      | (with_reducible refine LeO.bind ?_ (fun _ => ?_))
      | exact ih0 _ _ _
      | exact LeO.none _
      | refine LeO.ite ?_ ?_
      | refine LeO.bind ?_ (fun _ => ?_)
theorem spec_has.mono : ∀ a0 a1 k, LeO (spec_has.f k a0 a1) (spec_has.f (k + 1) a0 a1) := by
  intro a0 a1 k
  have ih0 := spec_has.mono_l k
  unfold spec_has.f
  repeat' first
      | (with_reducible exact ih0 _ _ _)
      | (with_reducible exact LeO.refl _)
      | (with_reducible exact LeO.none _)
      | (with_reducible refine LeO.ite ?_ ?_)
      | (with_reducible refine LeO.bind ?_ (fun _ => ?_))
      | exact ih0 _ _ _
      | exact LeO.none _
      | refine LeO.ite ?_ ?_
      | refine LeO.bind ?_ (fun _ => ?_)
set_option maxHeartbeats 8000000 in
set_option maxRecDepth 100000 in
theorem spec_has.calls (k : Nat) (A0 : Option Addr) (c0 : Nat) (l0 : List ByteArray) (a1 : ByteArray) (r : Bool) (w : World) (hr0 : Kd.C Kd.string w A0 l0.length l0) (hc0 : l0.length ≤ c0) (h : spec_has.f k l0 a1 = some r) :
    Calls Try.prog 17 #[.slice A0 l0.length c0, .string a1] w fun e w' => e = .returned (.bool r) ∧ Drawn0 w w' := by
  have HR0 := Aside0.mk hr0
  have HC0 := Aside0.mk hc0
  clear hr0 hc0
  have H : (spec_has.l0 k l0 a1 0) = some r := h
  clear h
  have H' := Aside0.mk H
  clear H
  go_enter Try.func17, Try.ntmps17
  go_wp2
  go_loopg [5] k (fun kq v5 w' => ∃ (x5_1 : Int), v5 = .int .i64 x5_1 ∧ Aside0 (spec_has.l0 kq l0 a1 x5_1 = some r) ∧ Aside0 (kq ≤ k) ∧ Drawn0 w w')
  case atStart => exact ⟨(0), (by first | rfl | (simp; done) | (simp [*]; done)), H', ⟨Nat.le_refl _⟩, by repeat (first | exact Drawn0.refl _ | apply Drawn0.step)⟩
  case round =>
    clear H'
    try clear c1
    try clear p2
    obtain ⟨x5_1, rfl, HA, HK1, ⟨m1, rfl⟩⟩ := hrel
    cases gk with
    | zero => exact absurd HA.out (by simp [spec_has.l0])
    | succ k1 =>
      have H := HA.out
      clear HA
      simp only [spec_has.l0] at H
      by_cases c3 : x5_1 < (l0.length : Int)
      · rw [if_pos c3] at H
        have c3b0 : decide (x5_1 < (l0.length : Int)) = true := decide_eq_true c3
        clear c3
        by_cases c4 : 0 ≤ x5_1
        · rw [if_pos c4] at H
          have c4b0 : decide (0 ≤ x5_1) = true := decide_eq_true c4
          clear c4
          by_cases c5 : (rdOf ByteArray.empty l0 x5_1).toList = a1.toList
          · rw [if_pos c5] at H
            have c5b0 : ((rdOf ByteArray.empty l0 x5_1).toList == a1.toList) = true := beq_iff_eq.mpr c5
            have c5b1 : ((rdOf ByteArray.empty l0 x5_1).toList != a1.toList) = false := bne_eq_false_iff_eq.mpr c5
            clear c5
            obtain rfl := Option.some.inj H
            have p126 : 0 ≤ (x5_1 : Int) := of_decide_eq_true (by first | (with_reducible assumption) | assumption)
            have q126 : x5_1 < (l0.length : Int) := of_decide_eq_true (by first | (with_reducible assumption) | assumption)
            obtain ⟨ad126, e126, hx126_0⟩ := Kd.at_string HR0.out x5_1 p126 q126
            cases e126
            replace p126 := eq_true p126
            replace q126 := eq_true q126
            go_wp2
            go_ret
            exact ⟨by first | rfl | (simp; done) | (simp [*]; done), by repeat (first | exact Drawn0.refl _ | apply Drawn0.step)⟩
          · rw [if_neg c5] at H
            have c5b0 : ((rdOf ByteArray.empty l0 x5_1).toList == a1.toList) = false := beq_eq_false_iff_ne.mpr c5
            have c5b1 : ((rdOf ByteArray.empty l0 x5_1).toList != a1.toList) = true := bne_iff_ne.mpr c5
            have H' := Aside0.mk H
            clear H
            have p126 : 0 ≤ (x5_1 : Int) := of_decide_eq_true (by first | (with_reducible assumption) | assumption)
            have q126 : x5_1 < (l0.length : Int) := of_decide_eq_true (by first | (with_reducible assumption) | assumption)
            obtain ⟨ad126, e126, hx126_0⟩ := Kd.at_string HR0.out x5_1 p126 q126
            cases e126
            replace p126 := eq_true p126
            replace q126 := eq_true q126
            go_wp2
            go_roundg k1
            case measure => have := HK1.out; omega
            case rel => exact ⟨(wrap64 (x5_1 + 1)), (by first | rfl | (simp; done) | (simp [*]; done)), H', ⟨by have := HK1.out; omega⟩, by repeat (first | exact Drawn0.refl _ | apply Drawn0.step)⟩
        · rw [if_neg c4] at H
          exact absurd H (by simp)
      · rw [if_neg c3] at H
        have c3b0 : decide (x5_1 < (l0.length : Int)) = false := decide_eq_false c3
        clear c3
        obtain rfl := Option.some.inj H
        go_wp2
        go_ret
        exact ⟨by first | rfl | (simp; done) | (simp [*]; done), by repeat (first | exact Drawn0.refl _ | apply Drawn0.step)⟩

/-! ### spec_Reserved: function 12 -/
def spec_Reserved.f (k : Nat) (a0 : ByteArray) : Option (Bool) := (spec_has.f k (([(⟨#[98, 114, 101, 97, 107]⟩ : ByteArray), (⟨#[99, 97, 115, 101]⟩ : ByteArray), (⟨#[99, 97, 116, 99, 104]⟩ : ByteArray), (⟨#[99, 108, 97, 115, 115]⟩ : ByteArray), (⟨#[99, 111, 110, 115, 116]⟩ : ByteArray), (⟨#[99, 111, 110, 116, 105, 110, 117, 101]⟩ : ByteArray), (⟨#[100, 101, 98, 117, 103, 103, 101, 114]⟩ : ByteArray), (⟨#[100, 101, 102, 97, 117, 108, 116]⟩ : ByteArray), (⟨#[100, 101, 108, 101, 116, 101]⟩ : ByteArray), (⟨#[100, 111]⟩ : ByteArray), (⟨#[101, 108, 115, 101]⟩ : ByteArray), (⟨#[101, 110, 117, 109]⟩ : ByteArray), (⟨#[101, 120, 112, 111, 114, 116]⟩ : ByteArray), (⟨#[101, 120, 116, 101, 110, 100, 115]⟩ : ByteArray), (⟨#[102, 97, 108, 115, 101]⟩ : ByteArray), (⟨#[102, 105, 110, 97, 108, 108, 121]⟩ : ByteArray), (⟨#[102, 111, 114]⟩ : ByteArray), (⟨#[102, 117, 110, 99, 116, 105, 111, 110]⟩ : ByteArray), (⟨#[105, 102]⟩ : ByteArray), (⟨#[105, 109, 112, 111, 114, 116]⟩ : ByteArray), (⟨#[105, 110]⟩ : ByteArray), (⟨#[105, 110, 115, 116, 97, 110, 99, 101, 111, 102]⟩ : ByteArray), (⟨#[110, 101, 119]⟩ : ByteArray), (⟨#[110, 117, 108, 108]⟩ : ByteArray), (⟨#[114, 101, 116, 117, 114, 110]⟩ : ByteArray), (⟨#[115, 117, 112, 101, 114]⟩ : ByteArray), (⟨#[115, 119, 105, 116, 99, 104]⟩ : ByteArray), (⟨#[116, 104, 105, 115]⟩ : ByteArray), (⟨#[116, 104, 114, 111, 119]⟩ : ByteArray), (⟨#[116, 114, 117, 101]⟩ : ByteArray), (⟨#[116, 114, 121]⟩ : ByteArray), (⟨#[116, 121, 112, 101, 111, 102]⟩ : ByteArray), (⟨#[118, 97, 114]⟩ : ByteArray), (⟨#[118, 111, 105, 100]⟩ : ByteArray), (⟨#[119, 104, 105, 108, 101]⟩ : ByteArray), (⟨#[119, 105, 116, 104]⟩ : ByteArray)] : List ByteArray)) a0).bind fun t130 => (some t130)
theorem spec_Reserved.mono : ∀ a0 k, LeO (spec_Reserved.f k a0) (spec_Reserved.f (k + 1) a0) := by
  intro a0 k
  unfold spec_Reserved.f
  repeat' first
      | (with_reducible exact spec_has.mono _ _ _)
      | (with_reducible exact LeO.refl _)
      | (with_reducible exact LeO.none _)
      | (with_reducible refine LeO.ite ?_ ?_)
      | (with_reducible refine LeO.bind ?_ (fun _ => ?_))
      | exact spec_has.mono _ _ _
      | exact LeO.none _
      | refine LeO.ite ?_ ?_
      | refine LeO.bind ?_ (fun _ => ?_)
set_option maxHeartbeats 8000000 in
set_option maxRecDepth 100000 in
theorem spec_Reserved.calls (k : Nat) (a0 : ByteArray) (r : Bool) (w : World) (h : spec_Reserved.f k a0 = some r) :
    Calls Try.prog 12 #[.string a0] w fun e w' => e = .returned (.bool r) ∧ Below w.heap.size w w' := by
  have HB := Aside0.mk (Below.refl w.heap.size w)
  have H : ((spec_has.f k (([(⟨#[98, 114, 101, 97, 107]⟩ : ByteArray), (⟨#[99, 97, 115, 101]⟩ : ByteArray), (⟨#[99, 97, 116, 99, 104]⟩ : ByteArray), (⟨#[99, 108, 97, 115, 115]⟩ : ByteArray), (⟨#[99, 111, 110, 115, 116]⟩ : ByteArray), (⟨#[99, 111, 110, 116, 105, 110, 117, 101]⟩ : ByteArray), (⟨#[100, 101, 98, 117, 103, 103, 101, 114]⟩ : ByteArray), (⟨#[100, 101, 102, 97, 117, 108, 116]⟩ : ByteArray), (⟨#[100, 101, 108, 101, 116, 101]⟩ : ByteArray), (⟨#[100, 111]⟩ : ByteArray), (⟨#[101, 108, 115, 101]⟩ : ByteArray), (⟨#[101, 110, 117, 109]⟩ : ByteArray), (⟨#[101, 120, 112, 111, 114, 116]⟩ : ByteArray), (⟨#[101, 120, 116, 101, 110, 100, 115]⟩ : ByteArray), (⟨#[102, 97, 108, 115, 101]⟩ : ByteArray), (⟨#[102, 105, 110, 97, 108, 108, 121]⟩ : ByteArray), (⟨#[102, 111, 114]⟩ : ByteArray), (⟨#[102, 117, 110, 99, 116, 105, 111, 110]⟩ : ByteArray), (⟨#[105, 102]⟩ : ByteArray), (⟨#[105, 109, 112, 111, 114, 116]⟩ : ByteArray), (⟨#[105, 110]⟩ : ByteArray), (⟨#[105, 110, 115, 116, 97, 110, 99, 101, 111, 102]⟩ : ByteArray), (⟨#[110, 101, 119]⟩ : ByteArray), (⟨#[110, 117, 108, 108]⟩ : ByteArray), (⟨#[114, 101, 116, 117, 114, 110]⟩ : ByteArray), (⟨#[115, 117, 112, 101, 114]⟩ : ByteArray), (⟨#[115, 119, 105, 116, 99, 104]⟩ : ByteArray), (⟨#[116, 104, 105, 115]⟩ : ByteArray), (⟨#[116, 104, 114, 111, 119]⟩ : ByteArray), (⟨#[116, 114, 117, 101]⟩ : ByteArray), (⟨#[116, 114, 121]⟩ : ByteArray), (⟨#[116, 121, 112, 101, 111, 102]⟩ : ByteArray), (⟨#[118, 97, 114]⟩ : ByteArray), (⟨#[118, 111, 105, 100]⟩ : ByteArray), (⟨#[119, 104, 105, 108, 101]⟩ : ByteArray), (⟨#[119, 105, 116, 104]⟩ : ByteArray)] : List ByteArray)) a0).bind fun t130 => (some t130)) = some r := h
  clear h
  obtain ⟨y127, hy127⟩ : ∃ y_ : List ByteArray, y_ = (([(⟨#[98, 114, 101, 97, 107]⟩ : ByteArray), (⟨#[99, 97, 115, 101]⟩ : ByteArray), (⟨#[99, 97, 116, 99, 104]⟩ : ByteArray), (⟨#[99, 108, 97, 115, 115]⟩ : ByteArray), (⟨#[99, 111, 110, 115, 116]⟩ : ByteArray), (⟨#[99, 111, 110, 116, 105, 110, 117, 101]⟩ : ByteArray), (⟨#[100, 101, 98, 117, 103, 103, 101, 114]⟩ : ByteArray), (⟨#[100, 101, 102, 97, 117, 108, 116]⟩ : ByteArray), (⟨#[100, 101, 108, 101, 116, 101]⟩ : ByteArray), (⟨#[100, 111]⟩ : ByteArray), (⟨#[101, 108, 115, 101]⟩ : ByteArray), (⟨#[101, 110, 117, 109]⟩ : ByteArray), (⟨#[101, 120, 112, 111, 114, 116]⟩ : ByteArray), (⟨#[101, 120, 116, 101, 110, 100, 115]⟩ : ByteArray), (⟨#[102, 97, 108, 115, 101]⟩ : ByteArray), (⟨#[102, 105, 110, 97, 108, 108, 121]⟩ : ByteArray), (⟨#[102, 111, 114]⟩ : ByteArray), (⟨#[102, 117, 110, 99, 116, 105, 111, 110]⟩ : ByteArray), (⟨#[105, 102]⟩ : ByteArray), (⟨#[105, 109, 112, 111, 114, 116]⟩ : ByteArray), (⟨#[105, 110]⟩ : ByteArray), (⟨#[105, 110, 115, 116, 97, 110, 99, 101, 111, 102]⟩ : ByteArray), (⟨#[110, 101, 119]⟩ : ByteArray), (⟨#[110, 117, 108, 108]⟩ : ByteArray), (⟨#[114, 101, 116, 117, 114, 110]⟩ : ByteArray), (⟨#[115, 117, 112, 101, 114]⟩ : ByteArray), (⟨#[115, 119, 105, 116, 99, 104]⟩ : ByteArray), (⟨#[116, 104, 105, 115]⟩ : ByteArray), (⟨#[116, 104, 114, 111, 119]⟩ : ByteArray), (⟨#[116, 114, 117, 101]⟩ : ByteArray), (⟨#[116, 114, 121]⟩ : ByteArray), (⟨#[116, 121, 112, 101, 111, 102]⟩ : ByteArray), (⟨#[118, 97, 114]⟩ : ByteArray), (⟨#[118, 111, 105, 100]⟩ : ByteArray), (⟨#[119, 104, 105, 108, 101]⟩ : ByteArray), (⟨#[119, 105, 116, 104]⟩ : ByteArray)] : List ByteArray)) := ⟨_, rfl⟩
  replace H : ((spec_has.f k y127 a0).bind fun t130 => (some t130)) = some r := by first | (rw [hy127]; with_reducible exact H) | (have H2_ := (Option.bind_some _ _).symm.trans H; rw [hy127]; with_reducible exact H2_) | (have H2_ := (Option.bind_some _ _).symm.trans H; with_reducible exact H2_) | with_reducible exact H | (rw [hy127]; exact H) | exact H
  have Ny127 := Aside0.mk hy127
  clear hy127
  replace H := Option.bind_eq_some_iff.mp H
  obtain ⟨t130, A20, H⟩ := H
  replace H : (some t130) = some r := H
  have A2 := Aside0.mk A20
  clear A20
  obtain rfl := Option.some.inj H
  go_enter Try.func12, Try.ntmps12
  go_wp2_with (first | ((with_reducible refine gate_dst (N := 3) rfl ?_); refine Kd.R_lit Kd.string _ 9 ?hg (N := 3) ?hd (xs := ([(⟨#[98, 114, 101, 97, 107]⟩ : ByteArray), (⟨#[99, 97, 115, 101]⟩ : ByteArray), (⟨#[99, 97, 116, 99, 104]⟩ : ByteArray), (⟨#[99, 108, 97, 115, 115]⟩ : ByteArray), (⟨#[99, 111, 110, 115, 116]⟩ : ByteArray), (⟨#[99, 111, 110, 116, 105, 110, 117, 101]⟩ : ByteArray), (⟨#[100, 101, 98, 117, 103, 103, 101, 114]⟩ : ByteArray), (⟨#[100, 101, 102, 97, 117, 108, 116]⟩ : ByteArray), (⟨#[100, 101, 108, 101, 116, 101]⟩ : ByteArray), (⟨#[100, 111]⟩ : ByteArray), (⟨#[101, 108, 115, 101]⟩ : ByteArray), (⟨#[101, 110, 117, 109]⟩ : ByteArray), (⟨#[101, 120, 112, 111, 114, 116]⟩ : ByteArray), (⟨#[101, 120, 116, 101, 110, 100, 115]⟩ : ByteArray), (⟨#[102, 97, 108, 115, 101]⟩ : ByteArray), (⟨#[102, 105, 110, 97, 108, 108, 121]⟩ : ByteArray), (⟨#[102, 111, 114]⟩ : ByteArray), (⟨#[102, 117, 110, 99, 116, 105, 111, 110]⟩ : ByteArray), (⟨#[105, 102]⟩ : ByteArray), (⟨#[105, 109, 112, 111, 114, 116]⟩ : ByteArray), (⟨#[105, 110]⟩ : ByteArray), (⟨#[105, 110, 115, 116, 97, 110, 99, 101, 111, 102]⟩ : ByteArray), (⟨#[110, 101, 119]⟩ : ByteArray), (⟨#[110, 117, 108, 108]⟩ : ByteArray), (⟨#[114, 101, 116, 117, 114, 110]⟩ : ByteArray), (⟨#[115, 117, 112, 101, 114]⟩ : ByteArray), (⟨#[115, 119, 105, 116, 99, 104]⟩ : ByteArray), (⟨#[116, 104, 105, 115]⟩ : ByteArray), (⟨#[116, 104, 114, 111, 119]⟩ : ByteArray), (⟨#[116, 114, 117, 101]⟩ : ByteArray), (⟨#[116, 114, 121]⟩ : ByteArray), (⟨#[116, 121, 112, 101, 111, 102]⟩ : ByteArray), (⟨#[118, 97, 114]⟩ : ByteArray), (⟨#[118, 111, 105, 100]⟩ : ByteArray), (⟨#[119, 104, 105, 108, 101]⟩ : ByteArray), (⟨#[119, 105, 116, 104]⟩ : ByteArray)] : List ByteArray)) (inner := [.string (⟨#[98, 114, 101, 97, 107]⟩ : ByteArray), .string (⟨#[99, 97, 115, 101]⟩ : ByteArray), .string (⟨#[99, 97, 116, 99, 104]⟩ : ByteArray), .string (⟨#[99, 108, 97, 115, 115]⟩ : ByteArray), .string (⟨#[99, 111, 110, 115, 116]⟩ : ByteArray), .string (⟨#[99, 111, 110, 116, 105, 110, 117, 101]⟩ : ByteArray), .string (⟨#[100, 101, 98, 117, 103, 103, 101, 114]⟩ : ByteArray), .string (⟨#[100, 101, 102, 97, 117, 108, 116]⟩ : ByteArray), .string (⟨#[100, 101, 108, 101, 116, 101]⟩ : ByteArray), .string (⟨#[100, 111]⟩ : ByteArray), .string (⟨#[101, 108, 115, 101]⟩ : ByteArray), .string (⟨#[101, 110, 117, 109]⟩ : ByteArray), .string (⟨#[101, 120, 112, 111, 114, 116]⟩ : ByteArray), .string (⟨#[101, 120, 116, 101, 110, 100, 115]⟩ : ByteArray), .string (⟨#[102, 97, 108, 115, 101]⟩ : ByteArray), .string (⟨#[102, 105, 110, 97, 108, 108, 121]⟩ : ByteArray), .string (⟨#[102, 111, 114]⟩ : ByteArray), .string (⟨#[102, 117, 110, 99, 116, 105, 111, 110]⟩ : ByteArray), .string (⟨#[105, 102]⟩ : ByteArray), .string (⟨#[105, 109, 112, 111, 114, 116]⟩ : ByteArray), .string (⟨#[105, 110]⟩ : ByteArray), .string (⟨#[105, 110, 115, 116, 97, 110, 99, 101, 111, 102]⟩ : ByteArray), .string (⟨#[110, 101, 119]⟩ : ByteArray), .string (⟨#[110, 117, 108, 108]⟩ : ByteArray), .string (⟨#[114, 101, 116, 117, 114, 110]⟩ : ByteArray), .string (⟨#[115, 117, 112, 101, 114]⟩ : ByteArray), .string (⟨#[115, 119, 105, 116, 99, 104]⟩ : ByteArray), .string (⟨#[116, 104, 105, 115]⟩ : ByteArray), .string (⟨#[116, 104, 114, 111, 119]⟩ : ByteArray), .string (⟨#[116, 114, 117, 101]⟩ : ByteArray), .string (⟨#[116, 114, 121]⟩ : ByteArray), .string (⟨#[116, 121, 112, 101, 111, 102]⟩ : ByteArray), .string (⟨#[118, 97, 114]⟩ : ByteArray), .string (⟨#[118, 111, 105, 100]⟩ : ByteArray), .string (⟨#[119, 104, 105, 108, 101]⟩ : ByteArray), .string (⟨#[119, 105, 116, 104]⟩ : ByteArray)]) (ok := fun _ => True) (okp := fun _ => True) ?hr ?hp (fun _ hk => hk) trivial (Below.refl _ _) (Nat.le_refl _) (by simp) ?_; (case hd => rfl); (case hg => rfl); (case hr => first | (go_simp; done) | (go_simp; rfl)); (case hp => exact (Reps.one (show Kd.M Kd.string _ _ _ (⟨#[98, 114, 101, 97, 107]⟩ : ByteArray) [.string (⟨#[98, 114, 101, 97, 107]⟩ : ByteArray)] from rfl) (Reps.one (show Kd.M Kd.string _ _ _ (⟨#[99, 97, 115, 101]⟩ : ByteArray) [.string (⟨#[99, 97, 115, 101]⟩ : ByteArray)] from rfl) (Reps.one (show Kd.M Kd.string _ _ _ (⟨#[99, 97, 116, 99, 104]⟩ : ByteArray) [.string (⟨#[99, 97, 116, 99, 104]⟩ : ByteArray)] from rfl) (Reps.one (show Kd.M Kd.string _ _ _ (⟨#[99, 108, 97, 115, 115]⟩ : ByteArray) [.string (⟨#[99, 108, 97, 115, 115]⟩ : ByteArray)] from rfl) (Reps.one (show Kd.M Kd.string _ _ _ (⟨#[99, 111, 110, 115, 116]⟩ : ByteArray) [.string (⟨#[99, 111, 110, 115, 116]⟩ : ByteArray)] from rfl) (Reps.one (show Kd.M Kd.string _ _ _ (⟨#[99, 111, 110, 116, 105, 110, 117, 101]⟩ : ByteArray) [.string (⟨#[99, 111, 110, 116, 105, 110, 117, 101]⟩ : ByteArray)] from rfl) (Reps.one (show Kd.M Kd.string _ _ _ (⟨#[100, 101, 98, 117, 103, 103, 101, 114]⟩ : ByteArray) [.string (⟨#[100, 101, 98, 117, 103, 103, 101, 114]⟩ : ByteArray)] from rfl) (Reps.one (show Kd.M Kd.string _ _ _ (⟨#[100, 101, 102, 97, 117, 108, 116]⟩ : ByteArray) [.string (⟨#[100, 101, 102, 97, 117, 108, 116]⟩ : ByteArray)] from rfl) (Reps.one (show Kd.M Kd.string _ _ _ (⟨#[100, 101, 108, 101, 116, 101]⟩ : ByteArray) [.string (⟨#[100, 101, 108, 101, 116, 101]⟩ : ByteArray)] from rfl) (Reps.one (show Kd.M Kd.string _ _ _ (⟨#[100, 111]⟩ : ByteArray) [.string (⟨#[100, 111]⟩ : ByteArray)] from rfl) (Reps.one (show Kd.M Kd.string _ _ _ (⟨#[101, 108, 115, 101]⟩ : ByteArray) [.string (⟨#[101, 108, 115, 101]⟩ : ByteArray)] from rfl) (Reps.one (show Kd.M Kd.string _ _ _ (⟨#[101, 110, 117, 109]⟩ : ByteArray) [.string (⟨#[101, 110, 117, 109]⟩ : ByteArray)] from rfl) (Reps.one (show Kd.M Kd.string _ _ _ (⟨#[101, 120, 112, 111, 114, 116]⟩ : ByteArray) [.string (⟨#[101, 120, 112, 111, 114, 116]⟩ : ByteArray)] from rfl) (Reps.one (show Kd.M Kd.string _ _ _ (⟨#[101, 120, 116, 101, 110, 100, 115]⟩ : ByteArray) [.string (⟨#[101, 120, 116, 101, 110, 100, 115]⟩ : ByteArray)] from rfl) (Reps.one (show Kd.M Kd.string _ _ _ (⟨#[102, 97, 108, 115, 101]⟩ : ByteArray) [.string (⟨#[102, 97, 108, 115, 101]⟩ : ByteArray)] from rfl) (Reps.one (show Kd.M Kd.string _ _ _ (⟨#[102, 105, 110, 97, 108, 108, 121]⟩ : ByteArray) [.string (⟨#[102, 105, 110, 97, 108, 108, 121]⟩ : ByteArray)] from rfl) (Reps.one (show Kd.M Kd.string _ _ _ (⟨#[102, 111, 114]⟩ : ByteArray) [.string (⟨#[102, 111, 114]⟩ : ByteArray)] from rfl) (Reps.one (show Kd.M Kd.string _ _ _ (⟨#[102, 117, 110, 99, 116, 105, 111, 110]⟩ : ByteArray) [.string (⟨#[102, 117, 110, 99, 116, 105, 111, 110]⟩ : ByteArray)] from rfl) (Reps.one (show Kd.M Kd.string _ _ _ (⟨#[105, 102]⟩ : ByteArray) [.string (⟨#[105, 102]⟩ : ByteArray)] from rfl) (Reps.one (show Kd.M Kd.string _ _ _ (⟨#[105, 109, 112, 111, 114, 116]⟩ : ByteArray) [.string (⟨#[105, 109, 112, 111, 114, 116]⟩ : ByteArray)] from rfl) (Reps.one (show Kd.M Kd.string _ _ _ (⟨#[105, 110]⟩ : ByteArray) [.string (⟨#[105, 110]⟩ : ByteArray)] from rfl) (Reps.one (show Kd.M Kd.string _ _ _ (⟨#[105, 110, 115, 116, 97, 110, 99, 101, 111, 102]⟩ : ByteArray) [.string (⟨#[105, 110, 115, 116, 97, 110, 99, 101, 111, 102]⟩ : ByteArray)] from rfl) (Reps.one (show Kd.M Kd.string _ _ _ (⟨#[110, 101, 119]⟩ : ByteArray) [.string (⟨#[110, 101, 119]⟩ : ByteArray)] from rfl) (Reps.one (show Kd.M Kd.string _ _ _ (⟨#[110, 117, 108, 108]⟩ : ByteArray) [.string (⟨#[110, 117, 108, 108]⟩ : ByteArray)] from rfl) (Reps.one (show Kd.M Kd.string _ _ _ (⟨#[114, 101, 116, 117, 114, 110]⟩ : ByteArray) [.string (⟨#[114, 101, 116, 117, 114, 110]⟩ : ByteArray)] from rfl) (Reps.one (show Kd.M Kd.string _ _ _ (⟨#[115, 117, 112, 101, 114]⟩ : ByteArray) [.string (⟨#[115, 117, 112, 101, 114]⟩ : ByteArray)] from rfl) (Reps.one (show Kd.M Kd.string _ _ _ (⟨#[115, 119, 105, 116, 99, 104]⟩ : ByteArray) [.string (⟨#[115, 119, 105, 116, 99, 104]⟩ : ByteArray)] from rfl) (Reps.one (show Kd.M Kd.string _ _ _ (⟨#[116, 104, 105, 115]⟩ : ByteArray) [.string (⟨#[116, 104, 105, 115]⟩ : ByteArray)] from rfl) (Reps.one (show Kd.M Kd.string _ _ _ (⟨#[116, 104, 114, 111, 119]⟩ : ByteArray) [.string (⟨#[116, 104, 114, 111, 119]⟩ : ByteArray)] from rfl) (Reps.one (show Kd.M Kd.string _ _ _ (⟨#[116, 114, 117, 101]⟩ : ByteArray) [.string (⟨#[116, 114, 117, 101]⟩ : ByteArray)] from rfl) (Reps.one (show Kd.M Kd.string _ _ _ (⟨#[116, 114, 121]⟩ : ByteArray) [.string (⟨#[116, 114, 121]⟩ : ByteArray)] from rfl) (Reps.one (show Kd.M Kd.string _ _ _ (⟨#[116, 121, 112, 101, 111, 102]⟩ : ByteArray) [.string (⟨#[116, 121, 112, 101, 111, 102]⟩ : ByteArray)] from rfl) (Reps.one (show Kd.M Kd.string _ _ _ (⟨#[118, 97, 114]⟩ : ByteArray) [.string (⟨#[118, 97, 114]⟩ : ByteArray)] from rfl) (Reps.one (show Kd.M Kd.string _ _ _ (⟨#[118, 111, 105, 100]⟩ : ByteArray) [.string (⟨#[118, 111, 105, 100]⟩ : ByteArray)] from rfl) (Reps.one (show Kd.M Kd.string _ _ _ (⟨#[119, 104, 105, 108, 101]⟩ : ByteArray) [.string (⟨#[119, 104, 105, 108, 101]⟩ : ByteArray)] from rfl) (Reps.one (show Kd.M Kd.string _ _ _ (⟨#[119, 105, 116, 104]⟩ : ByteArray) [.string (⟨#[119, 105, 116, 104]⟩ : ByteArray)] from rfl) (Reps.none _ _)))))))))))))))))))))))))))))))))))))); intro v128 w3 ho4 hb hg_ hnew_; clear hg_ hnew_; (first | rw [← Ny127.out] at ho4 | (simp only [Int.reduceToNat] at ho4; rw [← Ny127.out] at ho4)); have n0_ := Aside0.mk (Kd.R_lower ho4 (below_size (by repeat (first | (with_reducible first | exact HB.out | apply below_alloc | apply pw_below_drewN | apply below_drew1) | exact HB.out)))); have n1_ := Aside0.mk (below_step (by repeat (first | (with_reducible first | exact HB.out | apply below_alloc | apply pw_below_drewN | apply below_drew1) | exact HB.out)) hb); clear HB; have HO129 := n0_; have HB := n1_; clear n0_ n1_; clear hb ho4; obtain ⟨Ao5, co5, eo5⟩ := Kd.R_slice HO129.out; subst eo5) | ((with_reducible refine gate_callee (f := 17) rfl ?_); refine goesL_ (some 5) rfl rfl Try.func17 (by kernel_rfl) rfl #[.slice Ao5 y127.length co5, .string a0] rfl (by (try simp only [List.map_toArray, List.map_cons, List.map_nil]); first | done | rfl | (simp only [List.length_drop, List.length_take]; rfl)) ?_; (with_reducible refine (spec_has.calls k _ _ y127 a0 t130 _ ?side1 ?side2 A2.out).mono ?_); (case side1 => repeat (first | exact (Kd.R_reads' HO129.out).2.2 | (with_reducible refine Kd.C_alloc ?_ _) | (with_reducible refine Kd.C_drewN ?_ _) | (with_reducible refine Kd.C_drew ?_))); (case side2 => exact (Kd.R_reads' HO129.out).2.1); rintro e w' ⟨rfl, ⟨nd, rfl⟩⟩; refine ⟨_, rfl, ?_⟩))
  go_ret
  exact ⟨by first | rfl | (simp [errW_none, errW_some] <;> rfl) | (simp [*, errW_none, errW_some] <;> rfl), by repeat (first | (with_reducible first | exact HB.out | apply below_alloc | apply pw_below_drewN | apply below_drew1) | exact HB.out)⟩

/-! ### spec_StrictWord: function 13 -/
def spec_StrictWord.f (k : Nat) (a0 : ByteArray) : Option (Bool) := (spec_has.f k (([(⟨#[105, 109, 112, 108, 101, 109, 101, 110, 116, 115]⟩ : ByteArray), (⟨#[105, 110, 116, 101, 114, 102, 97, 99, 101]⟩ : ByteArray), (⟨#[108, 101, 116]⟩ : ByteArray), (⟨#[112, 97, 99, 107, 97, 103, 101]⟩ : ByteArray), (⟨#[112, 114, 105, 118, 97, 116, 101]⟩ : ByteArray), (⟨#[112, 114, 111, 116, 101, 99, 116, 101, 100]⟩ : ByteArray), (⟨#[112, 117, 98, 108, 105, 99]⟩ : ByteArray), (⟨#[115, 116, 97, 116, 105, 99]⟩ : ByteArray), (⟨#[121, 105, 101, 108, 100]⟩ : ByteArray)] : List ByteArray)) a0).bind fun t134 => (some t134)
theorem spec_StrictWord.mono : ∀ a0 k, LeO (spec_StrictWord.f k a0) (spec_StrictWord.f (k + 1) a0) := by
  intro a0 k
  unfold spec_StrictWord.f
  repeat' first
      | (with_reducible exact spec_has.mono _ _ _)
      | (with_reducible exact LeO.refl _)
      | (with_reducible exact LeO.none _)
      | (with_reducible refine LeO.ite ?_ ?_)
      | (with_reducible refine LeO.bind ?_ (fun _ => ?_))
      | exact spec_has.mono _ _ _
      | exact LeO.none _
      | refine LeO.ite ?_ ?_
      | refine LeO.bind ?_ (fun _ => ?_)
set_option maxHeartbeats 8000000 in
set_option maxRecDepth 100000 in
theorem spec_StrictWord.calls (k : Nat) (a0 : ByteArray) (r : Bool) (w : World) (h : spec_StrictWord.f k a0 = some r) :
    Calls Try.prog 13 #[.string a0] w fun e w' => e = .returned (.bool r) ∧ Below w.heap.size w w' := by
  have HB := Aside0.mk (Below.refl w.heap.size w)
  have H : ((spec_has.f k (([(⟨#[105, 109, 112, 108, 101, 109, 101, 110, 116, 115]⟩ : ByteArray), (⟨#[105, 110, 116, 101, 114, 102, 97, 99, 101]⟩ : ByteArray), (⟨#[108, 101, 116]⟩ : ByteArray), (⟨#[112, 97, 99, 107, 97, 103, 101]⟩ : ByteArray), (⟨#[112, 114, 105, 118, 97, 116, 101]⟩ : ByteArray), (⟨#[112, 114, 111, 116, 101, 99, 116, 101, 100]⟩ : ByteArray), (⟨#[112, 117, 98, 108, 105, 99]⟩ : ByteArray), (⟨#[115, 116, 97, 116, 105, 99]⟩ : ByteArray), (⟨#[121, 105, 101, 108, 100]⟩ : ByteArray)] : List ByteArray)) a0).bind fun t134 => (some t134)) = some r := h
  clear h
  obtain ⟨y131, hy131⟩ : ∃ y_ : List ByteArray, y_ = (([(⟨#[105, 109, 112, 108, 101, 109, 101, 110, 116, 115]⟩ : ByteArray), (⟨#[105, 110, 116, 101, 114, 102, 97, 99, 101]⟩ : ByteArray), (⟨#[108, 101, 116]⟩ : ByteArray), (⟨#[112, 97, 99, 107, 97, 103, 101]⟩ : ByteArray), (⟨#[112, 114, 105, 118, 97, 116, 101]⟩ : ByteArray), (⟨#[112, 114, 111, 116, 101, 99, 116, 101, 100]⟩ : ByteArray), (⟨#[112, 117, 98, 108, 105, 99]⟩ : ByteArray), (⟨#[115, 116, 97, 116, 105, 99]⟩ : ByteArray), (⟨#[121, 105, 101, 108, 100]⟩ : ByteArray)] : List ByteArray)) := ⟨_, rfl⟩
  replace H : ((spec_has.f k y131 a0).bind fun t134 => (some t134)) = some r := by first | (rw [hy131]; with_reducible exact H) | (have H2_ := (Option.bind_some _ _).symm.trans H; rw [hy131]; with_reducible exact H2_) | (have H2_ := (Option.bind_some _ _).symm.trans H; with_reducible exact H2_) | with_reducible exact H | (rw [hy131]; exact H) | exact H
  have Ny131 := Aside0.mk hy131
  clear hy131
  replace H := Option.bind_eq_some_iff.mp H
  obtain ⟨t134, A20, H⟩ := H
  replace H : (some t134) = some r := H
  have A2 := Aside0.mk A20
  clear A20
  obtain rfl := Option.some.inj H
  go_enter Try.func13, Try.ntmps13
  go_wp2_with (first | ((with_reducible refine gate_dst (N := 3) rfl ?_); refine Kd.R_lit Kd.string _ 9 ?hg (N := 3) ?hd (xs := ([(⟨#[105, 109, 112, 108, 101, 109, 101, 110, 116, 115]⟩ : ByteArray), (⟨#[105, 110, 116, 101, 114, 102, 97, 99, 101]⟩ : ByteArray), (⟨#[108, 101, 116]⟩ : ByteArray), (⟨#[112, 97, 99, 107, 97, 103, 101]⟩ : ByteArray), (⟨#[112, 114, 105, 118, 97, 116, 101]⟩ : ByteArray), (⟨#[112, 114, 111, 116, 101, 99, 116, 101, 100]⟩ : ByteArray), (⟨#[112, 117, 98, 108, 105, 99]⟩ : ByteArray), (⟨#[115, 116, 97, 116, 105, 99]⟩ : ByteArray), (⟨#[121, 105, 101, 108, 100]⟩ : ByteArray)] : List ByteArray)) (inner := [.string (⟨#[105, 109, 112, 108, 101, 109, 101, 110, 116, 115]⟩ : ByteArray), .string (⟨#[105, 110, 116, 101, 114, 102, 97, 99, 101]⟩ : ByteArray), .string (⟨#[108, 101, 116]⟩ : ByteArray), .string (⟨#[112, 97, 99, 107, 97, 103, 101]⟩ : ByteArray), .string (⟨#[112, 114, 105, 118, 97, 116, 101]⟩ : ByteArray), .string (⟨#[112, 114, 111, 116, 101, 99, 116, 101, 100]⟩ : ByteArray), .string (⟨#[112, 117, 98, 108, 105, 99]⟩ : ByteArray), .string (⟨#[115, 116, 97, 116, 105, 99]⟩ : ByteArray), .string (⟨#[121, 105, 101, 108, 100]⟩ : ByteArray)]) (ok := fun _ => True) (okp := fun _ => True) ?hr ?hp (fun _ hk => hk) trivial (Below.refl _ _) (Nat.le_refl _) (by simp) ?_; (case hd => rfl); (case hg => rfl); (case hr => first | (go_simp; done) | (go_simp; rfl)); (case hp => exact (Reps.one (show Kd.M Kd.string _ _ _ (⟨#[105, 109, 112, 108, 101, 109, 101, 110, 116, 115]⟩ : ByteArray) [.string (⟨#[105, 109, 112, 108, 101, 109, 101, 110, 116, 115]⟩ : ByteArray)] from rfl) (Reps.one (show Kd.M Kd.string _ _ _ (⟨#[105, 110, 116, 101, 114, 102, 97, 99, 101]⟩ : ByteArray) [.string (⟨#[105, 110, 116, 101, 114, 102, 97, 99, 101]⟩ : ByteArray)] from rfl) (Reps.one (show Kd.M Kd.string _ _ _ (⟨#[108, 101, 116]⟩ : ByteArray) [.string (⟨#[108, 101, 116]⟩ : ByteArray)] from rfl) (Reps.one (show Kd.M Kd.string _ _ _ (⟨#[112, 97, 99, 107, 97, 103, 101]⟩ : ByteArray) [.string (⟨#[112, 97, 99, 107, 97, 103, 101]⟩ : ByteArray)] from rfl) (Reps.one (show Kd.M Kd.string _ _ _ (⟨#[112, 114, 105, 118, 97, 116, 101]⟩ : ByteArray) [.string (⟨#[112, 114, 105, 118, 97, 116, 101]⟩ : ByteArray)] from rfl) (Reps.one (show Kd.M Kd.string _ _ _ (⟨#[112, 114, 111, 116, 101, 99, 116, 101, 100]⟩ : ByteArray) [.string (⟨#[112, 114, 111, 116, 101, 99, 116, 101, 100]⟩ : ByteArray)] from rfl) (Reps.one (show Kd.M Kd.string _ _ _ (⟨#[112, 117, 98, 108, 105, 99]⟩ : ByteArray) [.string (⟨#[112, 117, 98, 108, 105, 99]⟩ : ByteArray)] from rfl) (Reps.one (show Kd.M Kd.string _ _ _ (⟨#[115, 116, 97, 116, 105, 99]⟩ : ByteArray) [.string (⟨#[115, 116, 97, 116, 105, 99]⟩ : ByteArray)] from rfl) (Reps.one (show Kd.M Kd.string _ _ _ (⟨#[121, 105, 101, 108, 100]⟩ : ByteArray) [.string (⟨#[121, 105, 101, 108, 100]⟩ : ByteArray)] from rfl) (Reps.none _ _))))))))))); intro v132 w3 ho4 hb hg_ hnew_; clear hg_ hnew_; (first | rw [← Ny131.out] at ho4 | (simp only [Int.reduceToNat] at ho4; rw [← Ny131.out] at ho4)); have n0_ := Aside0.mk (Kd.R_lower ho4 (below_size (by repeat (first | (with_reducible first | exact HB.out | apply below_alloc | apply pw_below_drewN | apply below_drew1) | exact HB.out)))); have n1_ := Aside0.mk (below_step (by repeat (first | (with_reducible first | exact HB.out | apply below_alloc | apply pw_below_drewN | apply below_drew1) | exact HB.out)) hb); clear HB; have HO133 := n0_; have HB := n1_; clear n0_ n1_; clear hb ho4; obtain ⟨Ao5, co5, eo5⟩ := Kd.R_slice HO133.out; subst eo5) | ((with_reducible refine gate_callee (f := 17) rfl ?_); refine goesL_ (some 5) rfl rfl Try.func17 (by kernel_rfl) rfl #[.slice Ao5 y131.length co5, .string a0] rfl (by (try simp only [List.map_toArray, List.map_cons, List.map_nil]); first | done | rfl | (simp only [List.length_drop, List.length_take]; rfl)) ?_; (with_reducible refine (spec_has.calls k _ _ y131 a0 t134 _ ?side1 ?side2 A2.out).mono ?_); (case side1 => repeat (first | exact (Kd.R_reads' HO133.out).2.2 | (with_reducible refine Kd.C_alloc ?_ _) | (with_reducible refine Kd.C_drewN ?_ _) | (with_reducible refine Kd.C_drew ?_))); (case side2 => exact (Kd.R_reads' HO133.out).2.1); rintro e w' ⟨rfl, ⟨nd, rfl⟩⟩; refine ⟨_, rfl, ?_⟩))
  go_ret
  exact ⟨by first | rfl | (simp [errW_none, errW_some] <;> rfl) | (simp [*, errW_none, errW_some] <;> rfl), by repeat (first | (with_reducible first | exact HB.out | apply below_alloc | apply pw_below_drewN | apply below_drew1) | exact HB.out)⟩

/-! ### spec_NameFree: function 8 -/
def spec_NameFree.f (k : Nat) (a0 : ByteArray) : Option (Bool) := (spec_Reserved.f k a0).bind fun t135 => (if t135 = true then (some false) else ((spec_StrictWord.f k a0).bind fun t136 => (if t136 = true then (some false) else (if a0.toList = ([97, 119, 97, 105, 116] : List UInt8) then (some false) else (if a0.toList = ([101, 118, 97, 108] : List UInt8) then (some false) else (some (a0.toList != ([97, 114, 103, 117, 109, 101, 110, 116, 115] : List UInt8))))))))
theorem spec_NameFree.mono : ∀ a0 k, LeO (spec_NameFree.f k a0) (spec_NameFree.f (k + 1) a0) := by
  intro a0 k
  unfold spec_NameFree.f
  repeat' first
      | (with_reducible exact spec_Reserved.mono _ _)
      | (with_reducible exact spec_StrictWord.mono _ _)
      | (with_reducible exact LeO.refl _)
      | (with_reducible exact LeO.none _)
      | (with_reducible refine LeO.ite ?_ ?_)
      | (with_reducible refine LeO.bind ?_ (fun _ => ?_))
      | exact spec_Reserved.mono _ _
      | exact spec_StrictWord.mono _ _
      | exact LeO.none _
      | refine LeO.ite ?_ ?_
      | refine LeO.bind ?_ (fun _ => ?_)
set_option maxHeartbeats 8000000 in
set_option maxRecDepth 100000 in
theorem spec_NameFree.calls (k : Nat) (a0 : ByteArray) (r : Bool) (w : World) (h : spec_NameFree.f k a0 = some r) :
    Calls Try.prog 8 #[.string a0] w fun e w' => e = .returned (.bool r) ∧ Below w.heap.size w w' := by
  have HB := Aside0.mk (Below.refl w.heap.size w)
  have H : ((spec_Reserved.f k a0).bind fun t135 => (if t135 = true then (some false) else ((spec_StrictWord.f k a0).bind fun t136 => (if t136 = true then (some false) else (if a0.toList = ([97, 119, 97, 105, 116] : List UInt8) then (some false) else (if a0.toList = ([101, 118, 97, 108] : List UInt8) then (some false) else (some (a0.toList != ([97, 114, 103, 117, 109, 101, 110, 116, 115] : List UInt8))))))))) = some r := h
  clear h
  replace H := Option.bind_eq_some_iff.mp H
  obtain ⟨t135, A20, H⟩ := H
  replace H : (if t135 = true then (some false) else ((spec_StrictWord.f k a0).bind fun t136 => (if t136 = true then (some false) else (if a0.toList = ([97, 119, 97, 105, 116] : List UInt8) then (some false) else (if a0.toList = ([101, 118, 97, 108] : List UInt8) then (some false) else (some (a0.toList != ([97, 114, 103, 117, 109, 101, 110, 116, 115] : List UInt8)))))))) = some r := H
  have A2 := Aside0.mk A20
  clear A20
  by_cases c3 : t135 = true
  · subst c3
    have H1 : (some false) = some r := by rw [if_pos rfl] at H; exact H
    clear H
    have H := H1
    clear H1
    obtain rfl := Option.some.inj H
    go_enter Try.func8, Try.ntmps8
    go_wp2_with (first | ((with_reducible refine gate_callee (f := 12) rfl ?_); refine goesL_ (some 4) rfl rfl Try.func12 (by kernel_rfl) rfl #[.string a0] rfl (by (try simp only [List.map_toArray, List.map_cons, List.map_nil]); first | done | rfl | (simp only [List.length_drop, List.length_take]; rfl)) ?_; (with_reducible refine (spec_Reserved.calls k a0 true _ A2.out).mono ?_); rintro e w4 ⟨rfl, hb⟩; refine ⟨_, rfl, ?_⟩; have n0_ := Aside0.mk (below_step (by repeat (first | (with_reducible first | exact HB.out | apply below_alloc | apply pw_below_drewN | apply below_drew1) | exact HB.out)) hb); clear HB; have HB := n0_; clear n0_; (try clear hb); (try clear hb2); (try clear hk); (try clear hi)))
    go_ret
    exact ⟨by first | rfl | (simp [errW_none, errW_some] <;> rfl) | (simp [*, errW_none, errW_some] <;> rfl), by repeat (first | (with_reducible first | exact HB.out | apply below_alloc | apply pw_below_drewN | apply below_drew1) | exact HB.out)⟩
  · replace c3 := Bool.eq_false_iff.mpr c3
    subst c3
    have H1 : ((spec_StrictWord.f k a0).bind fun t136 => (if t136 = true then (some false) else (if a0.toList = ([97, 119, 97, 105, 116] : List UInt8) then (some false) else (if a0.toList = ([101, 118, 97, 108] : List UInt8) then (some false) else (some (a0.toList != ([97, 114, 103, 117, 109, 101, 110, 116, 115] : List UInt8))))))) = some r := by rw [if_neg (show ¬ (false = true) by decide)] at H; exact H
    clear H
    have H := H1
    clear H1
    replace H := Option.bind_eq_some_iff.mp H
    obtain ⟨t136, A50, H⟩ := H
    replace H : (if t136 = true then (some false) else (if a0.toList = ([97, 119, 97, 105, 116] : List UInt8) then (some false) else (if a0.toList = ([101, 118, 97, 108] : List UInt8) then (some false) else (some (a0.toList != ([97, 114, 103, 117, 109, 101, 110, 116, 115] : List UInt8)))))) = some r := H
    have A5 := Aside0.mk A50
    clear A50
    by_cases c6 : t136 = true
    · subst c6
      have H1 : (some false) = some r := by rw [if_pos rfl] at H; exact H
      clear H
      have H := H1
      clear H1
      obtain rfl := Option.some.inj H
      go_enter Try.func8, Try.ntmps8
      go_wp2_with (first | ((with_reducible refine gate_callee (f := 12) rfl ?_); refine goesL_ (some 4) rfl rfl Try.func12 (by kernel_rfl) rfl #[.string a0] rfl (by (try simp only [List.map_toArray, List.map_cons, List.map_nil]); first | done | rfl | (simp only [List.length_drop, List.length_take]; rfl)) ?_; (with_reducible refine (spec_Reserved.calls k a0 false _ A2.out).mono ?_); rintro e w7 ⟨rfl, hb⟩; refine ⟨_, rfl, ?_⟩; have n0_ := Aside0.mk (below_step (by repeat (first | (with_reducible first | exact HB.out | apply below_alloc | apply pw_below_drewN | apply below_drew1) | exact HB.out)) hb); clear HB; have HB := n0_; clear n0_; (try clear hb); (try clear hb2); (try clear hk); (try clear hi)) | (go_at_call 13; (with_reducible refine (spec_StrictWord.calls k a0 true _ A5.out).mono ?_); rintro e w8 ⟨rfl, hb⟩; have n0_ := Aside0.mk (below_step (by repeat (first | (with_reducible first | exact HB.out | apply below_alloc | apply pw_below_drewN | apply below_drew1) | exact HB.out)) hb); clear HB; have HB := n0_; clear n0_; (try clear hb); (try clear hb2); (try clear hk); (try clear hi)))
      go_ret
      exact ⟨by first | rfl | (simp [errW_none, errW_some] <;> rfl) | (simp [*, errW_none, errW_some] <;> rfl), by repeat (first | (with_reducible first | exact HB.out | apply below_alloc | apply pw_below_drewN | apply below_drew1) | exact HB.out)⟩
    · replace c6 := Bool.eq_false_iff.mpr c6
      subst c6
      have H1 : (if a0.toList = ([97, 119, 97, 105, 116] : List UInt8) then (some false) else (if a0.toList = ([101, 118, 97, 108] : List UInt8) then (some false) else (some (a0.toList != ([97, 114, 103, 117, 109, 101, 110, 116, 115] : List UInt8))))) = some r := by rw [if_neg (show ¬ (false = true) by decide)] at H; exact H
      clear H
      have H := H1
      clear H1
      by_cases c9 : a0.toList = ([97, 119, 97, 105, 116] : List UInt8)
      · rw [if_pos c9] at H
        have c9b0 : (a0.toList == ([97, 119, 97, 105, 116] : List UInt8)) = true := beq_iff_eq.mpr c9
        have c9b1 : (a0.toList != ([97, 119, 97, 105, 116] : List UInt8)) = false := bne_eq_false_iff_eq.mpr c9
        clear c9
        obtain rfl := Option.some.inj H
        go_enter Try.func8, Try.ntmps8
        go_wp2_with (first | ((with_reducible refine gate_callee (f := 12) rfl ?_); refine goesL_ (some 4) rfl rfl Try.func12 (by kernel_rfl) rfl #[.string a0] rfl (by (try simp only [List.map_toArray, List.map_cons, List.map_nil]); first | done | rfl | (simp only [List.length_drop, List.length_take]; rfl)) ?_; (with_reducible refine (spec_Reserved.calls k a0 false _ A2.out).mono ?_); rintro e w10 ⟨rfl, hb⟩; refine ⟨_, rfl, ?_⟩; have n0_ := Aside0.mk (below_step (by repeat (first | (with_reducible first | exact HB.out | apply below_alloc | apply pw_below_drewN | apply below_drew1) | exact HB.out)) hb); clear HB; have HB := n0_; clear n0_; (try clear hb); (try clear hb2); (try clear hk); (try clear hi)) | (go_at_call 13; (with_reducible refine (spec_StrictWord.calls k a0 false _ A5.out).mono ?_); rintro e w11 ⟨rfl, hb⟩; have n0_ := Aside0.mk (below_step (by repeat (first | (with_reducible first | exact HB.out | apply below_alloc | apply pw_below_drewN | apply below_drew1) | exact HB.out)) hb); clear HB; have HB := n0_; clear n0_; (try clear hb); (try clear hb2); (try clear hk); (try clear hi)))
        go_ret
        exact ⟨by first | rfl | (simp [errW_none, errW_some] <;> rfl) | (simp [*, errW_none, errW_some] <;> rfl), by repeat (first | (with_reducible first | exact HB.out | apply below_alloc | apply pw_below_drewN | apply below_drew1) | exact HB.out)⟩
      · rw [if_neg c9] at H
        have c9b0 : (a0.toList == ([97, 119, 97, 105, 116] : List UInt8)) = false := beq_eq_false_iff_ne.mpr c9
        have c9b1 : (a0.toList != ([97, 119, 97, 105, 116] : List UInt8)) = true := bne_iff_ne.mpr c9
        by_cases c12 : a0.toList = ([101, 118, 97, 108] : List UInt8)
        · rw [if_pos c12] at H
          have c12b0 : (a0.toList == ([101, 118, 97, 108] : List UInt8)) = true := beq_iff_eq.mpr c12
          have c12b1 : (a0.toList != ([101, 118, 97, 108] : List UInt8)) = false := bne_eq_false_iff_eq.mpr c12
          clear c12
          obtain rfl := Option.some.inj H
          go_enter Try.func8, Try.ntmps8
          go_wp2_with (first | ((with_reducible refine gate_callee (f := 12) rfl ?_); refine goesL_ (some 4) rfl rfl Try.func12 (by kernel_rfl) rfl #[.string a0] rfl (by (try simp only [List.map_toArray, List.map_cons, List.map_nil]); first | done | rfl | (simp only [List.length_drop, List.length_take]; rfl)) ?_; (with_reducible refine (spec_Reserved.calls k a0 false _ A2.out).mono ?_); rintro e w13 ⟨rfl, hb⟩; refine ⟨_, rfl, ?_⟩; have n0_ := Aside0.mk (below_step (by repeat (first | (with_reducible first | exact HB.out | apply below_alloc | apply pw_below_drewN | apply below_drew1) | exact HB.out)) hb); clear HB; have HB := n0_; clear n0_; (try clear hb); (try clear hb2); (try clear hk); (try clear hi)) | (go_at_call 13; (with_reducible refine (spec_StrictWord.calls k a0 false _ A5.out).mono ?_); rintro e w14 ⟨rfl, hb⟩; have n0_ := Aside0.mk (below_step (by repeat (first | (with_reducible first | exact HB.out | apply below_alloc | apply pw_below_drewN | apply below_drew1) | exact HB.out)) hb); clear HB; have HB := n0_; clear n0_; (try clear hb); (try clear hb2); (try clear hk); (try clear hi)))
          go_ret
          exact ⟨by first | rfl | (simp [errW_none, errW_some] <;> rfl) | (simp [*, errW_none, errW_some] <;> rfl), by repeat (first | (with_reducible first | exact HB.out | apply below_alloc | apply pw_below_drewN | apply below_drew1) | exact HB.out)⟩
        · rw [if_neg c12] at H
          have c12b0 : (a0.toList == ([101, 118, 97, 108] : List UInt8)) = false := beq_eq_false_iff_ne.mpr c12
          have c12b1 : (a0.toList != ([101, 118, 97, 108] : List UInt8)) = true := bne_iff_ne.mpr c12
          obtain rfl := Option.some.inj H
          go_enter Try.func8, Try.ntmps8
          go_wp2_with (first | ((with_reducible refine gate_callee (f := 12) rfl ?_); refine goesL_ (some 4) rfl rfl Try.func12 (by kernel_rfl) rfl #[.string a0] rfl (by (try simp only [List.map_toArray, List.map_cons, List.map_nil]); first | done | rfl | (simp only [List.length_drop, List.length_take]; rfl)) ?_; (with_reducible refine (spec_Reserved.calls k a0 false _ A2.out).mono ?_); rintro e w15 ⟨rfl, hb⟩; refine ⟨_, rfl, ?_⟩; have n0_ := Aside0.mk (below_step (by repeat (first | (with_reducible first | exact HB.out | apply below_alloc | apply pw_below_drewN | apply below_drew1) | exact HB.out)) hb); clear HB; have HB := n0_; clear n0_; (try clear hb); (try clear hb2); (try clear hk); (try clear hi)) | (go_at_call 13; (with_reducible refine (spec_StrictWord.calls k a0 false _ A5.out).mono ?_); rintro e w16 ⟨rfl, hb⟩; have n0_ := Aside0.mk (below_step (by repeat (first | (with_reducible first | exact HB.out | apply below_alloc | apply pw_below_drewN | apply below_drew1) | exact HB.out)) hb); clear HB; have HB := n0_; clear n0_; (try clear hb); (try clear hb2); (try clear hk); (try clear hi)))
          go_ret
          exact ⟨by first | rfl | (simp [errW_none, errW_some] <;> rfl) | (simp [*, errW_none, errW_some] <;> rfl), by repeat (first | (with_reducible first | exact HB.out | apply below_alloc | apply pw_below_drewN | apply below_drew1) | exact HB.out)⟩

end Go.Proofs.Ytbcljhedleemdaa.PFnNameOfPath
