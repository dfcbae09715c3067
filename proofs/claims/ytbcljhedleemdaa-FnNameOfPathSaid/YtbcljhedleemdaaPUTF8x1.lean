-- Written by printx.py of this session, over the kit's print, with contracts of this session for some functions
import Derived.Test.YtbcljhedleemdaaPUTF8x0
namespace Go.Proofs.Ytbcljhedleemdaa.PUTF8
open Go.RowKit Go.Proofs.YtbcljhedleemdaaW.PrintWords Go.Proofs.YtbcljhedleemdaaW.PrintLast Go.Proofs.YtbcljhedleemdaaW.PrintMore
attribute [local go_sem] max2_int min2_int max_two min_two max_three min_three max_four min_four   -- for this text's walks alone
set_option linter.unusedVariables false
set_option linter.unusedSimpArgs false

/-! ### spec_bytesOf: function 54 -/
def spec_bytesOf.l0 : Nat → List Int → List Int → Int → Option (ByteArray)
  | 0, _, _, _ => none
  | k + 1, x0, x3, x4 => if x4 < (x0.length : Int) then (if 0 ≤ x4 then (if x4 < (x3.length : Int) then (spec_bytesOf.l0 k x0 (x3.set (x4 : Int).toNat ((rd x0 x4) % 256)) (wrap64 (x4 + 1))) else (none)) else (none)) else (some (strOfNums x3))
def spec_bytesOf.f (k : Nat) (l0 : List Int) : Option (ByteArray) := if 0 ≤ (l0.length : Int) then (if ((l0.length : Int) : Int).toNat ≤ 281474976710656 then (spec_bytesOf.l0 k l0 (List.replicate ((l0.length : Int) : Int).toNat 0) 0) else (none)) else (none)
theorem spec_bytesOf.mono_l : ∀ k, (∀ y0 y1 y2, LeO (spec_bytesOf.l0 k y0 y1 y2) (spec_bytesOf.l0 (k + 1) y0 y1 y2))
  | 0 => fun _ _ _ r h => by simp [spec_bytesOf.l0] at h
  | k + 1 => by
    have ih0 := spec_bytesOf.mono_l k
    · intro y0 y1 y2
      unfold spec_bytesOf.l0
      repeat' first
      | (with_reducible exact ih0 _ _ _)
      | (with_reducible exact LeO.refl _)
      | (with_reducible exact LeO.none _)
      | (with_reducible refine LeO.ite ?_ ?_)
      | (with_reducible refine LeO.bind ?_ (fun _ => ?_))
      | exact ih0 _ _ _
      | exact LeO.none _
      | refine LeO.ite ?_ ?_
      | refine LeO.bind ?_ (fun _ => ?_)
theorem spec_bytesOf.mono : ∀ a0 k, LeO (spec_bytesOf.f k a0) (spec_bytesOf.f (k + 1) a0) := by
  intro a0 k
  have ih0 := spec_bytesOf.mono_l k
  unfold spec_bytesOf.f
  repeat' first
      | (with_reducible exact ih0 _ _ _)
      | (with_reducible exact LeO.refl _)
      | (with_reducible exact LeO.none _)
      | (with_reducible refine LeO.ite ?_ ?_)
      | (with_reducible refine LeO.bind ?_ (fun _ => ?_))
      | exact ih0 _ _ _
      | exact LeO.none _
      | refine LeO.ite ?_ ?_
      | refine LeO.bind ?_ (fun _ => ?_)
set_option maxHeartbeats 8000000 in
set_option maxRecDepth 100000 in
theorem spec_bytesOf.calls (k : Nat) (A0 : Option Addr) (c0 : Nat) (l0 : List Int) (r : ByteArray) (w : World) (hr0 : Kd.C (Kd.int .i64) w A0 l0.length l0) (hc0 : l0.length ≤ c0) (h : spec_bytesOf.f k l0 = some r) :
    Calls Try.prog 54 #[.slice A0 l0.length c0] w fun e w' => e = .returned (.string r) ∧ Below w.heap.size w w' := by
  have HR0 := Aside0.mk hr0
  have HC0 := Aside0.mk hc0
  clear hr0 hc0
  have HB := Aside0.mk (Below.refl w.heap.size w)
  have H : (if 0 ≤ (l0.length : Int) then (if ((l0.length : Int) : Int).toNat ≤ 281474976710656 then (spec_bytesOf.l0 k l0 (List.replicate ((l0.length : Int) : Int).toNat 0) 0) else (none)) else (none)) = some r := h
  clear h
  by_cases c2 : 0 ≤ (l0.length : Int)
  · rw [if_pos c2] at H
    have c2b0 := eq_true c2
    have c2b1 : decide (0 ≤ (l0.length : Int)) = true := decide_eq_true c2
    clear c2
    by_cases c3 : ((l0.length : Int) : Int).toNat ≤ 281474976710656
    · rw [if_pos c3] at H
      have c3b0 := eq_true c3
      have c3b1 : decide (((l0.length : Int) : Int).toNat ≤ 281474976710656) = true := decide_eq_true c3
      clear c3
      obtain ⟨y101, hy101⟩ : ∃ y_ : List Int, y_ = (List.replicate ((l0.length : Int) : Int).toNat 0) := ⟨_, rfl⟩
      replace H : (spec_bytesOf.l0 k l0 y101 0) = some r := by first | (rw [hy101]; with_reducible exact H) | (have H2_ := (Option.bind_some _ _).symm.trans H; rw [hy101]; with_reducible exact H2_) | (have H2_ := (Option.bind_some _ _).symm.trans H; with_reducible exact H2_) | with_reducible exact H | (rw [hy101]; exact H) | exact H
      have Ny101 := Aside0.mk hy101
      clear hy101
      have H' := Aside0.mk H
      clear H
      go_enter Try.func54, Try.ntmps54
      go_wp2_with (first | ((with_reducible refine gate_dst (N := 7) rfl ?_); refine Kd.R_make (Kd.int .u8) _ 5 rfl (N := 7) rfl 34 _ _ rfl (l0.length : Int) rfl rfl Try.underlying34 (.int .u8 0) 1 info5 rfl (by decide) (by omega) 0 (ok := fun _ => True) (okp := fun _ => True) rfl (fun _ hk => hk) trivial (of_decide_eq_true (by first | (with_reducible assumption) | assumption)) (Nat.le_trans (Nat.mul_le_mul_right _ (of_decide_eq_true (by first | (with_reducible assumption) | assumption) : (l0.length : Int).toNat ≤ 281474976710656)) (by omega)) (Below.refl _ _) (Nat.le_refl _) ?_; intro v102 w4 ho5 hb hg_ hnew_; clear hg_ hnew_; (first | rw [← Ny101.out] at ho5 | (simp only [Int.reduceToNat] at ho5; rw [← Ny101.out] at ho5)); have n0_ := Aside0.mk (Kd.R_lower ho5 (below_size (by repeat (first | (with_reducible first | exact HB.out | apply below_alloc | apply pw_below_drewN | apply below_drew1) | exact HB.out)))); have n1_ := Aside0.mk (below_step (by repeat (first | (with_reducible first | exact HB.out | apply below_alloc | apply pw_below_drewN | apply below_drew1) | exact HB.out)) hb); clear HB; have HO103 := n0_; have HB := n1_; clear n0_ n1_; clear hb ho5))
      go_loopg [4] k (fun kq v4 w' => ∃ (x3_1 : List Int) (x4_1 : Int), v4 = .int .i64 x4_1 ∧ Aside0 (spec_bytesOf.l0 kq l0 x3_1 x4_1 = some r) ∧ Aside0 (kq ≤ k) ∧ Aside0 (Kd.R (Kd.int .u8) 5 w' w.heap.size (fun _ => True) v102 x3_1) ∧ Aside0 (Below w.heap.size w w'))
      case atStart => exact ⟨(y101), (0), (by first | rfl | (simp; done) | (simp [*]; done)), H', ⟨Nat.le_refl _⟩, ⟨by (with_reducible repeat (first | apply Kd.R_alloc | apply Kd.R_drewN | apply Kd.R_drew)); exact HO103.out⟩, ⟨by repeat (first | (with_reducible first | exact HB.out | apply below_alloc | apply pw_below_drewN | apply below_drew1) | exact HB.out)⟩⟩
      case round =>
        clear H'
        try clear c2
        try clear c2b0
        try clear c2b1
        try clear p2
        try clear c3
        try clear c3b0
        try clear c3b1
        try clear c5
        obtain ⟨x3_1, x4_1, rfl, HA, HK1, HO_3, HB⟩ := hrel
        cases gk with
        | zero => exact absurd HA.out (by simp [spec_bytesOf.l0])
        | succ k1 =>
          have H := HA.out
          clear HA
          simp only [spec_bytesOf.l0] at H
          by_cases c6 : x4_1 < (l0.length : Int)
          · rw [if_pos c6] at H
            have c6b0 : decide (x4_1 < (l0.length : Int)) = true := decide_eq_true c6
            clear c6
            by_cases c7 : 0 ≤ x4_1
            · rw [if_pos c7] at H
              have c7b0 : decide (0 ≤ x4_1) = true := decide_eq_true c7
              clear c7
              by_cases c8 : x4_1 < (x3_1.length : Int)
              · rw [if_pos c8] at H
                have c8b0 : decide (x4_1 < (x3_1.length : Int)) = true := decide_eq_true c8
                clear c8
                obtain ⟨y105, hy105⟩ : ∃ y_ : List Int, y_ = (x3_1.set (x4_1 : Int).toNat ((rd l0 x4_1) % 256)) := ⟨_, rfl⟩
                replace H : (spec_bytesOf.l0 k1 l0 y105 (wrap64 (x4_1 + 1))) = some r := by first | (rw [hy105]; with_reducible exact H) | (have H2_ := (Option.bind_some _ _).symm.trans H; rw [hy105]; with_reducible exact H2_) | (have H2_ := (Option.bind_some _ _).symm.trans H; with_reducible exact H2_) | with_reducible exact H | (rw [hy105]; exact H) | exact H
                have Ny105 := Aside0.mk hy105
                clear hy105
                have H' := Aside0.mk H
                clear H
                have p104 : 0 ≤ (x4_1 : Int) := of_decide_eq_true (by first | (with_reducible assumption) | assumption)
                have q104 : x4_1 < (l0.length : Int) := of_decide_eq_true (by first | (with_reducible assumption) | assumption)
                obtain ⟨ad104, e104, hx104_0⟩ := Kd.at_int HR0.out x4_1 p104 q104
                cases e104
                replace hx104_0 := (HB.out.cell (World.block_lt_of_cell? w _ hx104_0)).trans hx104_0
                replace p104 := eq_true p104
                replace q104 := eq_true q104
                have p9 : 0 ≤ (x4_1 : Int) := of_decide_eq_true (by first | (with_reducible assumption) | assumption)
                have q9 : (x4_1 : Int) < ((x3_1.length : Int) : Int) := of_decide_eq_true (by first | (with_reducible assumption) | assumption)
                obtain ⟨go9, co9, eo9, gb9, gl9, cl9, HG9⟩ := Kd.R_form HO_3.out (by omega)
                (first | cases eo9 | (injection eo9 with ea_ en_ ec_; (first | subst ea_ | (injection ea_ with ea_; subst ea_)); subst ec_; clear en_))
                have GB9 := Aside0.mk gb9
                have GG9 := Aside0.mk HG9
                clear gb9 gl9 HG9
                obtain ⟨hx9_0, hf9_0⟩ := Kd.R_celln 0 HO_3.out (x4_1 : Int) p9 q9
                replace p9 := eq_true p9
                replace q9 := eq_true q9
                have HP10 := Kd.R_putg HO_3.out (x4_1 : Int) ((rd l0 x4_1) % 256)
                go_wp2_with (first | ((with_reducible refine gate_store (t := 5) (p := 21) rfl ?_); refine store_event (t := 5) (p := 21) (v := ?vo_w11) (w1 := (wr.setCell ⟨go9, (x4_1 : Int).toNat, none⟩ (.int .u8 ((rd l0 x4_1) % 256)))) ?hg ?ho ?hn ?hr ?_; (case ho => rfl); (case hg => rfl); (case hn => rfl); (case hr => first | (go_simp; done) | (go_simp; rfl)); intro w11 hw; have hg : wr.grownBy w11 (some go9) := (by rw [hw]; exact HP10.2); have hp_ : Kd.R (Kd.int .u8) 5 w11 w.heap.size (fun _ => True) (.slice (some ⟨go9, 0, none⟩) x3_1.length co9) y105 := (by rw [hw, Ny105.out]; exact HP10.1); clear HP10; have n0_ := Aside0.mk (hp_); have n1_ := Aside0.mk ((by rw [hw]; exact below_set (HB.out) GB9.out : Below w.heap.size w w11)); clear HO_3; clear HB; have HO_3 := n0_; have HB := n1_; clear n0_ n1_; clear hg hw hp_))
                go_roundg k1
                case measure => have := HK1.out; omega
                case rel => exact ⟨(y105), (wrap64 (x4_1 + 1)), (by first | rfl | (simp; done) | (simp [*]; done)), H', ⟨by have := HK1.out; omega⟩, ⟨by (with_reducible repeat (first | apply Kd.R_alloc | apply Kd.R_drewN | apply Kd.R_drew)); exact HO_3.out⟩, ⟨by repeat (first | (with_reducible first | exact HB.out | apply below_alloc | apply pw_below_drewN | apply below_drew1) | exact HB.out)⟩⟩
              · rw [if_neg c8] at H
                exact absurd H (by simp)
            · rw [if_neg c7] at H
              exact absurd H (by simp)
          · rw [if_neg c6] at H
            have c6b0 : decide (x4_1 < (l0.length : Int)) = false := decide_eq_false c6
            clear c6
            obtain rfl := Option.some.inj H
            have hcv12 := own_string (P := Try.prog) Try.underlying34 Try.underlying5 Try.underlying9 (Kd.own_of_R HO_3.out)
            go_wp2
            go_ret
            exact ⟨by first | rfl | (simp [errW_none, errW_some] <;> rfl) | (simp [*, errW_none, errW_some] <;> rfl), by repeat (first | (with_reducible first | exact HB.out | apply below_alloc | apply pw_below_drewN | apply below_drew1) | exact HB.out)⟩
    · rw [if_neg c3] at H
      exact absurd H (by simp)
  · rw [if_neg c2] at H
    exact absurd H (by simp)

/-! ### spec_UTF8: function 50 -/
def spec_UTF8.f (k : Nat) (a0 : Int) : Option (ByteArray) := if a0 < 128 then ((spec_bytesOf.f k (([a0] : List Int))).bind fun t109 => (some t109)) else (if a0 < 2048 then ((spec_bytesOf.f k (([Go.bits .or .i64 192 (a0 / 64), Go.bits .or .i64 128 (Go.bits .and .i64 a0 63)] : List Int))).bind fun t113 => (some t113)) else (if a0 < 65536 then ((spec_bytesOf.f k (([Go.bits .or .i64 224 (a0 / 4096), Go.bits .or .i64 128 (Go.bits .and .i64 (a0 / 64) 63), Go.bits .or .i64 128 (Go.bits .and .i64 a0 63)] : List Int))).bind fun t117 => (some t117)) else ((spec_bytesOf.f k (([Go.bits .or .i64 240 (a0 / 262144), Go.bits .or .i64 128 (Go.bits .and .i64 (a0 / 4096) 63), Go.bits .or .i64 128 (Go.bits .and .i64 (a0 / 64) 63), Go.bits .or .i64 128 (Go.bits .and .i64 a0 63)] : List Int))).bind fun t121 => (some t121))))
theorem spec_UTF8.mono : ∀ a0 k, LeO (spec_UTF8.f k a0) (spec_UTF8.f (k + 1) a0) := by
  intro a0 k
  unfold spec_UTF8.f
  repeat' first
      | (with_reducible exact spec_bytesOf.mono _ _)
      | (with_reducible exact LeO.refl _)
      | (with_reducible exact LeO.none _)
      | (with_reducible refine LeO.ite ?_ ?_)
      | (with_reducible refine LeO.bind ?_ (fun _ => ?_))
      | exact spec_bytesOf.mono _ _
      | exact LeO.none _
      | refine LeO.ite ?_ ?_
      | refine LeO.bind ?_ (fun _ => ?_)
set_option maxHeartbeats 8000000 in
set_option maxRecDepth 100000 in
theorem spec_UTF8.calls (k : Nat) (a0 : Int) (r : ByteArray) (w : World) (h : spec_UTF8.f k a0 = some r) :
    Calls Try.prog 50 #[.int .i64 a0] w fun e w' => e = .returned (.string r) ∧ Below w.heap.size w w' := by
  have HB := Aside0.mk (Below.refl w.heap.size w)
  have H : (if a0 < 128 then ((spec_bytesOf.f k (([a0] : List Int))).bind fun t109 => (some t109)) else (if a0 < 2048 then ((spec_bytesOf.f k (([Go.bits .or .i64 192 (a0 / 64), Go.bits .or .i64 128 (Go.bits .and .i64 a0 63)] : List Int))).bind fun t113 => (some t113)) else (if a0 < 65536 then ((spec_bytesOf.f k (([Go.bits .or .i64 224 (a0 / 4096), Go.bits .or .i64 128 (Go.bits .and .i64 (a0 / 64) 63), Go.bits .or .i64 128 (Go.bits .and .i64 a0 63)] : List Int))).bind fun t117 => (some t117)) else ((spec_bytesOf.f k (([Go.bits .or .i64 240 (a0 / 262144), Go.bits .or .i64 128 (Go.bits .and .i64 (a0 / 4096) 63), Go.bits .or .i64 128 (Go.bits .and .i64 (a0 / 64) 63), Go.bits .or .i64 128 (Go.bits .and .i64 a0 63)] : List Int))).bind fun t121 => (some t121))))) = some r := h
  clear h
  by_cases c2 : a0 < 128
  · rw [if_pos c2] at H
    have c2b0 : decide (a0 < 128) = true := decide_eq_true c2
    clear c2
    obtain ⟨y106, hy106⟩ : ∃ y_ : List Int, y_ = (([a0] : List Int)) := ⟨_, rfl⟩
    replace H : ((spec_bytesOf.f k y106).bind fun t109 => (some t109)) = some r := by first | (rw [hy106]; with_reducible exact H) | (have H2_ := (Option.bind_some _ _).symm.trans H; rw [hy106]; with_reducible exact H2_) | (have H2_ := (Option.bind_some _ _).symm.trans H; with_reducible exact H2_) | with_reducible exact H | (rw [hy106]; exact H) | exact H
    have Ny106 := Aside0.mk hy106
    clear hy106
    replace H := Option.bind_eq_some_iff.mp H
    obtain ⟨t109, A30, H⟩ := H
    replace H : (some t109) = some r := H
    have A3 := Aside0.mk A30
    clear A30
    obtain rfl := Option.some.inj H
    go_enter Try.func50, Try.ntmps50
    go_wp2_with (first | ((with_reducible refine gate_dst (N := 7) rfl ?_); refine Kd.R_lit (Kd.int .i64) _ 3 ?hg (N := 7) ?hd (xs := ([a0] : List Int)) (inner := [.int .i64 a0]) (ok := fun _ => True) (okp := fun _ => True) ?hr ?hp (fun _ hk => hk) trivial (Below.refl _ _) (Nat.le_refl _) (by simp) ?_; (case hd => rfl); (case hg => rfl); (case hr => first | (go_simp; done) | (go_simp; rfl)); (case hp => exact (Reps.one (show Kd.M (Kd.int .i64) _ _ _ a0 [.int .i64 a0] from rfl) (Reps.none _ _))); intro v107 w4 ho5 hb hg_ hnew_; clear hg_ hnew_; (first | rw [← Ny106.out] at ho5 | (simp only [Int.reduceToNat] at ho5; rw [← Ny106.out] at ho5)); have n0_ := Aside0.mk (Kd.R_lower ho5 (below_size (by repeat (first | (with_reducible first | exact HB.out | apply below_alloc | apply pw_below_drewN | apply below_drew1) | exact HB.out)))); have n1_ := Aside0.mk (below_step (by repeat (first | (with_reducible first | exact HB.out | apply below_alloc | apply pw_below_drewN | apply below_drew1) | exact HB.out)) hb); clear HB; have HO108 := n0_; have HB := n1_; clear n0_ n1_; clear hb ho5; obtain ⟨Ao6, co6, eo6⟩ := Kd.R_slice HO108.out; subst eo6) | ((with_reducible refine gate_callee (f := 54) rfl ?_); refine goesL_ (some 8) rfl rfl Try.func54 (by kernel_rfl) rfl #[.slice Ao6 y106.length co6] rfl (by (try simp only [List.map_toArray, List.map_cons, List.map_nil]); first | done | rfl | (simp only [List.length_drop, List.length_take]; rfl)) ?_; (with_reducible refine (spec_bytesOf.calls k _ _ y106 t109 _ ?side1 ?side2 A3.out).mono ?_); (case side1 => repeat (first | exact (Kd.R_reads' HO108.out).2.2 | (with_reducible refine Kd.C_alloc ?_ _) | (with_reducible refine Kd.C_drewN ?_ _) | (with_reducible refine Kd.C_drew ?_))); (case side2 => exact (Kd.R_reads' HO108.out).2.1); rintro e w7 ⟨rfl, hb⟩; refine ⟨_, rfl, ?_⟩; have n0_ := Aside0.mk (Kd.R_below (by (with_reducible repeat (first | apply Kd.R_alloc | apply Kd.R_drewN | apply Kd.R_drew)); exact HO108.out) hb); have n1_ := Aside0.mk (below_step (by repeat (first | (with_reducible first | exact HB.out | apply below_alloc | apply pw_below_drewN | apply below_drew1) | exact HB.out)) hb); clear HO108; clear HB; have HO108 := n0_; have HB := n1_; clear n0_ n1_; (try clear hb); (try clear hb2); (try clear hk); (try clear hi)))
    go_ret
    exact ⟨by first | rfl | (simp [errW_none, errW_some] <;> rfl) | (simp [*, errW_none, errW_some] <;> rfl), by repeat (first | (with_reducible first | exact HB.out | apply below_alloc | apply pw_below_drewN | apply below_drew1) | exact HB.out)⟩
  · rw [if_neg c2] at H
    have c2b0 : decide (a0 < 128) = false := decide_eq_false c2
    clear c2
    by_cases c8 : a0 < 2048
    · rw [if_pos c8] at H
      have c8b0 : decide (a0 < 2048) = true := decide_eq_true c8
      clear c8
      obtain ⟨y110, hy110⟩ : ∃ y_ : List Int, y_ = (([Go.bits .or .i64 192 (a0 / 64), Go.bits .or .i64 128 (Go.bits .and .i64 a0 63)] : List Int)) := ⟨_, rfl⟩
      replace H : ((spec_bytesOf.f k y110).bind fun t113 => (some t113)) = some r := by first | (rw [hy110]; with_reducible exact H) | (have H2_ := (Option.bind_some _ _).symm.trans H; rw [hy110]; with_reducible exact H2_) | (have H2_ := (Option.bind_some _ _).symm.trans H; with_reducible exact H2_) | with_reducible exact H | (rw [hy110]; exact H) | exact H
      have Ny110 := Aside0.mk hy110
      clear hy110
      replace H := Option.bind_eq_some_iff.mp H
      obtain ⟨t113, A90, H⟩ := H
      replace H : (some t113) = some r := H
      have A9 := Aside0.mk A90
      clear A90
      obtain rfl := Option.some.inj H
      go_enter Try.func50, Try.ntmps50
      go_wp2_with (first | ((with_reducible refine gate_dst (N := 18) rfl ?_); refine Kd.R_lit (Kd.int .i64) _ 3 ?hg (N := 18) ?hd (xs := ([Go.bits .or .i64 192 (a0 / 64), Go.bits .or .i64 128 (Go.bits .and .i64 a0 63)] : List Int)) (inner := [.int .i64 (Go.bits .or .i64 192 (a0 / 64)), .int .i64 (Go.bits .or .i64 128 (Go.bits .and .i64 a0 63))]) (ok := fun _ => True) (okp := fun _ => True) ?hr ?hp (fun _ hk => hk) trivial (Below.refl _ _) (Nat.le_refl _) (by simp) ?_; (case hd => rfl); (case hg => rfl); (case hr => first | (go_simp; done) | (go_simp; rfl)); (case hp => exact (Reps.one (show Kd.M (Kd.int .i64) _ _ _ (Go.bits .or .i64 192 (a0 / 64)) [.int .i64 (Go.bits .or .i64 192 (a0 / 64))] from rfl) (Reps.one (show Kd.M (Kd.int .i64) _ _ _ (Go.bits .or .i64 128 (Go.bits .and .i64 a0 63)) [.int .i64 (Go.bits .or .i64 128 (Go.bits .and .i64 a0 63))] from rfl) (Reps.none _ _)))); intro v111 w10 ho11 hb hg_ hnew_; clear hg_ hnew_; (first | rw [← Ny110.out] at ho11 | (simp only [Int.reduceToNat] at ho11; rw [← Ny110.out] at ho11)); have n0_ := Aside0.mk (Kd.R_lower ho11 (below_size (by repeat (first | (with_reducible first | exact HB.out | apply below_alloc | apply pw_below_drewN | apply below_drew1) | exact HB.out)))); have n1_ := Aside0.mk (below_step (by repeat (first | (with_reducible first | exact HB.out | apply below_alloc | apply pw_below_drewN | apply below_drew1) | exact HB.out)) hb); clear HB; have HO112 := n0_; have HB := n1_; clear n0_ n1_; clear hb ho11; obtain ⟨Ao12, co12, eo12⟩ := Kd.R_slice HO112.out; subst eo12) | ((with_reducible refine gate_callee (f := 54) rfl ?_); refine goesL_ (some 19) rfl rfl Try.func54 (by kernel_rfl) rfl #[.slice Ao12 y110.length co12] rfl (by (try simp only [List.map_toArray, List.map_cons, List.map_nil]); first | done | rfl | (simp only [List.length_drop, List.length_take]; rfl)) ?_; (with_reducible refine (spec_bytesOf.calls k _ _ y110 t113 _ ?side1 ?side2 A9.out).mono ?_); (case side1 => repeat (first | exact (Kd.R_reads' HO112.out).2.2 | (with_reducible refine Kd.C_alloc ?_ _) | (with_reducible refine Kd.C_drewN ?_ _) | (with_reducible refine Kd.C_drew ?_))); (case side2 => exact (Kd.R_reads' HO112.out).2.1); rintro e w13 ⟨rfl, hb⟩; refine ⟨_, rfl, ?_⟩; have n0_ := Aside0.mk (Kd.R_below (by (with_reducible repeat (first | apply Kd.R_alloc | apply Kd.R_drewN | apply Kd.R_drew)); exact HO112.out) hb); have n1_ := Aside0.mk (below_step (by repeat (first | (with_reducible first | exact HB.out | apply below_alloc | apply pw_below_drewN | apply below_drew1) | exact HB.out)) hb); clear HO112; clear HB; have HO112 := n0_; have HB := n1_; clear n0_ n1_; (try clear hb); (try clear hb2); (try clear hk); (try clear hi)))
      go_ret
      exact ⟨by first | rfl | (simp [errW_none, errW_some] <;> rfl) | (simp [*, errW_none, errW_some] <;> rfl), by repeat (first | (with_reducible first | exact HB.out | apply below_alloc | apply pw_below_drewN | apply below_drew1) | exact HB.out)⟩
    · rw [if_neg c8] at H
      have c8b0 : decide (a0 < 2048) = false := decide_eq_false c8
      clear c8
      by_cases c14 : a0 < 65536
      · rw [if_pos c14] at H
        have c14b0 : decide (a0 < 65536) = true := decide_eq_true c14
        clear c14
        obtain ⟨y114, hy114⟩ : ∃ y_ : List Int, y_ = (([Go.bits .or .i64 224 (a0 / 4096), Go.bits .or .i64 128 (Go.bits .and .i64 (a0 / 64) 63), Go.bits .or .i64 128 (Go.bits .and .i64 a0 63)] : List Int)) := ⟨_, rfl⟩
        replace H : ((spec_bytesOf.f k y114).bind fun t117 => (some t117)) = some r := by first | (rw [hy114]; with_reducible exact H) | (have H2_ := (Option.bind_some _ _).symm.trans H; rw [hy114]; with_reducible exact H2_) | (have H2_ := (Option.bind_some _ _).symm.trans H; with_reducible exact H2_) | with_reducible exact H | (rw [hy114]; exact H) | exact H
        have Ny114 := Aside0.mk hy114
        clear hy114
        replace H := Option.bind_eq_some_iff.mp H
        obtain ⟨t117, A150, H⟩ := H
        replace H : (some t117) = some r := H
        have A15 := Aside0.mk A150
        clear A150
        obtain rfl := Option.some.inj H
        go_enter Try.func50, Try.ntmps50
        go_wp2_with (first | ((with_reducible refine gate_dst (N := 33) rfl ?_); refine Kd.R_lit (Kd.int .i64) _ 3 ?hg (N := 33) ?hd (xs := ([Go.bits .or .i64 224 (a0 / 4096), Go.bits .or .i64 128 (Go.bits .and .i64 (a0 / 64) 63), Go.bits .or .i64 128 (Go.bits .and .i64 a0 63)] : List Int)) (inner := [.int .i64 (Go.bits .or .i64 224 (a0 / 4096)), .int .i64 (Go.bits .or .i64 128 (Go.bits .and .i64 (a0 / 64) 63)), .int .i64 (Go.bits .or .i64 128 (Go.bits .and .i64 a0 63))]) (ok := fun _ => True) (okp := fun _ => True) ?hr ?hp (fun _ hk => hk) trivial (Below.refl _ _) (Nat.le_refl _) (by simp) ?_; (case hd => rfl); (case hg => rfl); (case hr => first | (go_simp; done) | (go_simp; rfl)); (case hp => exact (Reps.one (show Kd.M (Kd.int .i64) _ _ _ (Go.bits .or .i64 224 (a0 / 4096)) [.int .i64 (Go.bits .or .i64 224 (a0 / 4096))] from rfl) (Reps.one (show Kd.M (Kd.int .i64) _ _ _ (Go.bits .or .i64 128 (Go.bits .and .i64 (a0 / 64) 63)) [.int .i64 (Go.bits .or .i64 128 (Go.bits .and .i64 (a0 / 64) 63))] from rfl) (Reps.one (show Kd.M (Kd.int .i64) _ _ _ (Go.bits .or .i64 128 (Go.bits .and .i64 a0 63)) [.int .i64 (Go.bits .or .i64 128 (Go.bits .and .i64 a0 63))] from rfl) (Reps.none _ _))))); intro v115 w16 ho17 hb hg_ hnew_; clear hg_ hnew_; (first | rw [← Ny114.out] at ho17 | (simp only [Int.reduceToNat] at ho17; rw [← Ny114.out] at ho17)); have n0_ := Aside0.mk (Kd.R_lower ho17 (below_size (by repeat (first | (with_reducible first | exact HB.out | apply below_alloc | apply pw_below_drewN | apply below_drew1) | exact HB.out)))); have n1_ := Aside0.mk (below_step (by repeat (first | (with_reducible first | exact HB.out | apply below_alloc | apply pw_below_drewN | apply below_drew1) | exact HB.out)) hb); clear HB; have HO116 := n0_; have HB := n1_; clear n0_ n1_; clear hb ho17; obtain ⟨Ao18, co18, eo18⟩ := Kd.R_slice HO116.out; subst eo18) | ((with_reducible refine gate_callee (f := 54) rfl ?_); refine goesL_ (some 34) rfl rfl Try.func54 (by kernel_rfl) rfl #[.slice Ao18 y114.length co18] rfl (by (try simp only [List.map_toArray, List.map_cons, List.map_nil]); first | done | rfl | (simp only [List.length_drop, List.length_take]; rfl)) ?_; (with_reducible refine (spec_bytesOf.calls k _ _ y114 t117 _ ?side1 ?side2 A15.out).mono ?_); (case side1 => repeat (first | exact (Kd.R_reads' HO116.out).2.2 | (with_reducible refine Kd.C_alloc ?_ _) | (with_reducible refine Kd.C_drewN ?_ _) | (with_reducible refine Kd.C_drew ?_))); (case side2 => exact (Kd.R_reads' HO116.out).2.1); rintro e w19 ⟨rfl, hb⟩; refine ⟨_, rfl, ?_⟩; have n0_ := Aside0.mk (Kd.R_below (by (with_reducible repeat (first | apply Kd.R_alloc | apply Kd.R_drewN | apply Kd.R_drew)); exact HO116.out) hb); have n1_ := Aside0.mk (below_step (by repeat (first | (with_reducible first | exact HB.out | apply below_alloc | apply pw_below_drewN | apply below_drew1) | exact HB.out)) hb); clear HO116; clear HB; have HO116 := n0_; have HB := n1_; clear n0_ n1_; (try clear hb); (try clear hb2); (try clear hk); (try clear hi)))
        go_ret
        exact ⟨by first | rfl | (simp [errW_none, errW_some] <;> rfl) | (simp [*, errW_none, errW_some] <;> rfl), by repeat (first | (with_reducible first | exact HB.out | apply below_alloc | apply pw_below_drewN | apply below_drew1) | exact HB.out)⟩
      · rw [if_neg c14] at H
        have c14b0 : decide (a0 < 65536) = false := decide_eq_false c14
        clear c14
        obtain ⟨y118, hy118⟩ : ∃ y_ : List Int, y_ = (([Go.bits .or .i64 240 (a0 / 262144), Go.bits .or .i64 128 (Go.bits .and .i64 (a0 / 4096) 63), Go.bits .or .i64 128 (Go.bits .and .i64 (a0 / 64) 63), Go.bits .or .i64 128 (Go.bits .and .i64 a0 63)] : List Int)) := ⟨_, rfl⟩
        replace H : ((spec_bytesOf.f k y118).bind fun t121 => (some t121)) = some r := by first | (rw [hy118]; with_reducible exact H) | (have H2_ := (Option.bind_some _ _).symm.trans H; rw [hy118]; with_reducible exact H2_) | (have H2_ := (Option.bind_some _ _).symm.trans H; with_reducible exact H2_) | with_reducible exact H | (rw [hy118]; exact H) | exact H
        have Ny118 := Aside0.mk hy118
        clear hy118
        replace H := Option.bind_eq_some_iff.mp H
        obtain ⟨t121, A200, H⟩ := H
        replace H : (some t121) = some r := H
        have A20 := Aside0.mk A200
        clear A200
        obtain rfl := Option.some.inj H
        go_enter Try.func50, Try.ntmps50
        go_wp2_with (first | ((with_reducible refine gate_dst (N := 49) rfl ?_); refine Kd.R_lit (Kd.int .i64) _ 3 ?hg (N := 49) ?hd (xs := ([Go.bits .or .i64 240 (a0 / 262144), Go.bits .or .i64 128 (Go.bits .and .i64 (a0 / 4096) 63), Go.bits .or .i64 128 (Go.bits .and .i64 (a0 / 64) 63), Go.bits .or .i64 128 (Go.bits .and .i64 a0 63)] : List Int)) (inner := [.int .i64 (Go.bits .or .i64 240 (a0 / 262144)), .int .i64 (Go.bits .or .i64 128 (Go.bits .and .i64 (a0 / 4096) 63)), .int .i64 (Go.bits .or .i64 128 (Go.bits .and .i64 (a0 / 64) 63)), .int .i64 (Go.bits .or .i64 128 (Go.bits .and .i64 a0 63))]) (ok := fun _ => True) (okp := fun _ => True) ?hr ?hp (fun _ hk => hk) trivial (Below.refl _ _) (Nat.le_refl _) (by simp) ?_; (case hd => rfl); (case hg => rfl); (case hr => first | (go_simp; done) | (go_simp; rfl)); (case hp => exact (Reps.one (show Kd.M (Kd.int .i64) _ _ _ (Go.bits .or .i64 240 (a0 / 262144)) [.int .i64 (Go.bits .or .i64 240 (a0 / 262144))] from rfl) (Reps.one (show Kd.M (Kd.int .i64) _ _ _ (Go.bits .or .i64 128 (Go.bits .and .i64 (a0 / 4096) 63)) [.int .i64 (Go.bits .or .i64 128 (Go.bits .and .i64 (a0 / 4096) 63))] from rfl) (Reps.one (show Kd.M (Kd.int .i64) _ _ _ (Go.bits .or .i64 128 (Go.bits .and .i64 (a0 / 64) 63)) [.int .i64 (Go.bits .or .i64 128 (Go.bits .and .i64 (a0 / 64) 63))] from rfl) (Reps.one (show Kd.M (Kd.int .i64) _ _ _ (Go.bits .or .i64 128 (Go.bits .and .i64 a0 63)) [.int .i64 (Go.bits .or .i64 128 (Go.bits .and .i64 a0 63))] from rfl) (Reps.none _ _)))))); intro v119 w21 ho22 hb hg_ hnew_; clear hg_ hnew_; (first | rw [← Ny118.out] at ho22 | (simp only [Int.reduceToNat] at ho22; rw [← Ny118.out] at ho22)); have n0_ := Aside0.mk (Kd.R_lower ho22 (below_size (by repeat (first | (with_reducible first | exact HB.out | apply below_alloc | apply pw_below_drewN | apply below_drew1) | exact HB.out)))); have n1_ := Aside0.mk (below_step (by repeat (first | (with_reducible first | exact HB.out | apply below_alloc | apply pw_below_drewN | apply below_drew1) | exact HB.out)) hb); clear HB; have HO120 := n0_; have HB := n1_; clear n0_ n1_; clear hb ho22; obtain ⟨Ao23, co23, eo23⟩ := Kd.R_slice HO120.out; subst eo23) | ((with_reducible refine gate_callee (f := 54) rfl ?_); refine goesL_ (some 50) rfl rfl Try.func54 (by kernel_rfl) rfl #[.slice Ao23 y118.length co23] rfl (by (try simp only [List.map_toArray, List.map_cons, List.map_nil]); first | done | rfl | (simp only [List.length_drop, List.length_take]; rfl)) ?_; (with_reducible refine (spec_bytesOf.calls k _ _ y118 t121 _ ?side1 ?side2 A20.out).mono ?_); (case side1 => repeat (first | exact (Kd.R_reads' HO120.out).2.2 | (with_reducible refine Kd.C_alloc ?_ _) | (with_reducible refine Kd.C_drewN ?_ _) | (with_reducible refine Kd.C_drew ?_))); (case side2 => exact (Kd.R_reads' HO120.out).2.1); rintro e w24 ⟨rfl, hb⟩; refine ⟨_, rfl, ?_⟩; have n0_ := Aside0.mk (Kd.R_below (by (with_reducible repeat (first | apply Kd.R_alloc | apply Kd.R_drewN | apply Kd.R_drew)); exact HO120.out) hb); have n1_ := Aside0.mk (below_step (by repeat (first | (with_reducible first | exact HB.out | apply below_alloc | apply pw_below_drewN | apply below_drew1) | exact HB.out)) hb); clear HO120; clear HB; have HO120 := n0_; have HB := n1_; clear n0_ n1_; (try clear hb); (try clear hb2); (try clear hk); (try clear hi)))
        go_ret
        exact ⟨by first | rfl | (simp [errW_none, errW_some] <;> rfl) | (simp [*, errW_none, errW_some] <;> rfl), by repeat (first | (with_reducible first | exact HB.out | apply below_alloc | apply pw_below_drewN | apply below_drew1) | exact HB.out)⟩

end Go.Proofs.Ytbcljhedleemdaa.PUTF8
