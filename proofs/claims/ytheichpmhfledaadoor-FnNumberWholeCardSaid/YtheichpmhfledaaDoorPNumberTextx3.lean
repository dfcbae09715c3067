-- Written by printx.py of this session, over the kit's print, with contracts of this session for some functions
import Derived.Test.YtheichpmhfledaaDoorPNumberTextx0
import Derived.Test.YtheichpmhfledaaDoorPNumberTextx1
import Derived.Test.YtheichpmhfledaaDoorPNumberTextx2
import Derived.Test.YtheichpmhfledaaDoorExtRoundF
namespace Go.Proofs.YtheichpmhfledaaDoor.PNumberText
open Go.RowKit Go.Proofs.YtheichpmhfledaaDoorW.PrintWords Go.Proofs.YtheichpmhfledaaDoorW.PrintLast Go.Proofs.YtheichpmhfledaaDoorW.PrintMore
attribute [local go_sem] max2_int min2_int max_two min_two max_three min_three max_four min_four   -- for this text's walks alone
set_option linter.unusedVariables false
set_option linter.unusedSimpArgs false

/-! ### spec_Digits: function 72 -/
mutual
def spec_Digits.l0 : Nat → List Int → ByteArray → Option (ByteArray)
  | 0, _, _ => none
  | k + 1, x0, x3 => if (x0.length : Int) > 0 then (if 0 ≤ (x0.length : Int) then (if ((x0.length : Int) : Int).toNat ≤ 35184372088832 then (spec_Digits.l1 k x0 x3 0 (List.replicate ((x0.length : Int) : Int).toNat 0) (wrap64 ((x0.length : Int) - 1))) else (none)) else (none)) else (some x3)
def spec_Digits.l1 : Nat → List Int → ByteArray → Int → List Int → Int → Option (ByteArray)
  | 0, _, _, _, _, _ => none
  | k + 1, x0, x3, x4, x5, x6 => if x6 ≥ 0 then (if 0 ≤ x6 then (if x6 < (x0.length : Int) then (if x6 < (x5.length : Int) then (spec_Digits.l1 k x0 x3 (Int.tmod (Go.bits .or .u64 (IntKind.u64.wrap (x4 * 4294967296)) (rd x0 x6)) 10) (x5.set (x6 : Int).toNat (IntKind.u64.wrap (Int.tdiv (Go.bits .or .u64 (IntKind.u64.wrap (x4 * 4294967296)) (rd x0 x6)) 10))) (wrap64 (x6 - 1))) else (none)) else (none)) else (none)) else ((spec_bytesOf.f k (([wrap64 (48 + (wrap64 (x4)))] : List Int))).bind fun t220 => (if t220.size + x3.size ≤ 9223372036854775807 then ((spec_natTrim.f k x5).bind fun t221 => (spec_Digits.l0 k t221 (t220 ++ x3))) else (none)))
end
def spec_Digits.f (k : Nat) (l0 : List Int) : Option (ByteArray) := if (l0.length : Int) = 0 then (some (⟨#[48]⟩ : ByteArray)) else (spec_Digits.l0 k l0 (⟨#[]⟩ : ByteArray))
theorem spec_Digits.mono_l : ∀ k, (∀ y0 y1, LeO (spec_Digits.l0 k y0 y1) (spec_Digits.l0 (k + 1) y0 y1)) ∧ (∀ y0 y1 y2 y3 y4, LeO (spec_Digits.l1 k y0 y1 y2 y3 y4) (spec_Digits.l1 (k + 1) y0 y1 y2 y3 y4))
  | 0 => ⟨fun _ _ r h => by simp [spec_Digits.l0] at h, fun _ _ _ _ _ r h => by simp [spec_Digits.l1] at h⟩
  | k + 1 => by
    obtain ⟨ih0, ih1⟩ := spec_Digits.mono_l k
    refine ⟨?_, ?_⟩
    · intro y0 y1
      unfold spec_Digits.l0
      repeat' first
      | (with_reducible exact ih0 _ _)
      | (with_reducible exact ih1 _ _ _ _ _)
      | (with_reducible exact spec_bytesOf.mono _ _)
      | (with_reducible exact spec_natTrim.mono _ _)
      | (with_reducible exact LeO.refl _)
      | (with_reducible exact LeO.none _)
      | (with_reducible refine LeO.ite ?_ ?_)
      | (with_reducible refine LeO.bind ?_ (fun _ => ?_))
      | exact ih0 _ _
      | exact ih1 _ _ _ _ _
      | exact spec_bytesOf.mono _ _
      | exact spec_natTrim.mono _ _
      | exact LeO.none _
      | refine LeO.ite ?_ ?_
      | refine LeO.bind ?_ (fun _ => ?_)
    · intro y0 y1 y2 y3 y4
      unfold spec_Digits.l1
      repeat' first
      | (with_reducible exact ih0 _ _)
      | (with_reducible exact ih1 _ _ _ _ _)
      | (with_reducible exact spec_bytesOf.mono _ _)
      | (with_reducible exact spec_natTrim.mono _ _)
      | (with_reducible exact LeO.refl _)
      | (with_reducible exact LeO.none _)
      | (with_reducible refine LeO.ite ?_ ?_)
      | (with_reducible refine LeO.bind ?_ (fun _ => ?_))
      | exact ih0 _ _
      | exact ih1 _ _ _ _ _
      | exact spec_bytesOf.mono _ _
      | exact spec_natTrim.mono _ _
      | exact LeO.none _
      | refine LeO.ite ?_ ?_
      | refine LeO.bind ?_ (fun _ => ?_)
theorem spec_Digits.mono : ∀ a0 k, LeO (spec_Digits.f k a0) (spec_Digits.f (k + 1) a0) := by
  intro a0 k
  obtain ⟨ih0, ih1⟩ := spec_Digits.mono_l k
  unfold spec_Digits.f
  repeat' first
      | (with_reducible exact ih0 _ _)
      | (with_reducible exact ih1 _ _ _ _ _)
      | (with_reducible exact spec_bytesOf.mono _ _)
      | (with_reducible exact spec_natTrim.mono _ _)
      | (with_reducible exact LeO.refl _)
      | (with_reducible exact LeO.none _)
      | (with_reducible refine LeO.ite ?_ ?_)
      | (with_reducible refine LeO.bind ?_ (fun _ => ?_))
      | exact ih0 _ _
      | exact ih1 _ _ _ _ _
      | exact spec_bytesOf.mono _ _
      | exact spec_natTrim.mono _ _
      | exact LeO.none _
      | refine LeO.ite ?_ ?_
      | refine LeO.bind ?_ (fun _ => ?_)
set_option maxHeartbeats 8000000 in
set_option maxRecDepth 100000 in
theorem spec_Digits.calls (k : Nat) (P0_ : Nat → Prop) (A0 : Option Addr) (c0 : Nat) (l0 : List Int) (r : ByteArray) (w : World) (hs0 : Kd.V (Kd.int .u64) 40 w w.heap.size (fun k_ => P0_ k_) (.slice A0 l0.length c0) l0) (h : spec_Digits.f k l0 = some r) :
    Calls Tryd.prog 72 #[.slice A0 l0.length c0] w fun e w' => e = .returned (.string r) ∧ Below w.heap.size w w' := by
  have HO0 := Aside0.mk (show Kd.V (Kd.int .u64) 40 w w.heap.size (fun k_ => (P0_ k_ ∨ w.heap.size ≤ k_)) (.slice A0 l0.length c0) l0 from Kd.V_mono hs0 (fun k_ hk => .inl hk))
  have HB := Aside0.mk (Below.refl w.heap.size w)
  have H : (if (l0.length : Int) = 0 then (some (⟨#[48]⟩ : ByteArray)) else (spec_Digits.l0 k l0 (⟨#[]⟩ : ByteArray))) = some r := h
  clear h
  by_cases c2 : (l0.length : Int) = 0
  · rw [if_pos c2] at H
    have c2b0 : ((l0.length : Int) == 0) = true := beq_iff_eq.mpr c2
    have c2b1 : ((l0.length : Int) != 0) = false := bne_eq_false_iff_eq.mpr c2
    clear c2
    obtain rfl := Option.some.inj H
    go_enter Tryd.func72, Tryd.ntmps72
    go_wp2
    go_ret
    exact ⟨by first | rfl | (simp [errW_none, errW_some] <;> rfl) | (simp [*, errW_none, errW_some] <;> rfl), by repeat (first | (with_reducible first | exact HB.out | apply below_alloc | apply pw_below_drewN | apply below_drew1) | exact HB.out)⟩
  · rw [if_neg c2] at H
    have c2b0 : ((l0.length : Int) == 0) = false := beq_eq_false_iff_ne.mpr c2
    have c2b1 : ((l0.length : Int) != 0) = true := bne_iff_ne.mpr c2
    have c2b2 : ¬ (l0 = []) := fun h_ => c2 (by rw [h_]; rfl)
    have H' := Aside0.mk H
    clear H
    go_enter Tryd.func72, Tryd.ntmps72
    go_wp2
    go_loopg [0, 3] k (fun kq v0 v3 w' => ∃ (x0_1 : List Int) (x3_1 : ByteArray), v3 = .string x3_1 ∧ Aside0 (spec_Digits.l0 kq x0_1 x3_1 = some r) ∧ Aside0 (kq ≤ k) ∧ Aside0 (Kd.V (Kd.int .u64) 40 w' w.heap.size (fun k_ => (P0_ k_ ∨ w.heap.size ≤ k_)) v0 x0_1) ∧ Aside0 (Below w.heap.size w w'))
    case atStart => exact ⟨(l0), ((⟨#[]⟩ : ByteArray)), (by first | rfl | (simp; done) | (simp [*]; done)), H', ⟨Nat.le_refl _⟩, ⟨by (with_reducible repeat (first | apply Kd.V_alloc | apply Kd.V_drewN | apply Kd.V_drew)); exact HO0.out⟩, ⟨by repeat (first | (with_reducible first | exact HB.out | apply below_alloc | apply pw_below_drewN | apply below_drew1) | exact HB.out)⟩⟩
    case round =>
      clear H'
      try clear c2
      try clear c2b0
      try clear c2b1
      try clear c2b2
      try clear p2
      obtain ⟨x0_1, x3_1, rfl, HA, HK1, HO_0, HB⟩ := hrel
      cases gk with
      | zero => exact absurd HA.out (by simp [spec_Digits.l0])
      | succ k1 =>
        have H := HA.out
        clear HA
        simp only [spec_Digits.l0] at H
        by_cases c3 : (x0_1.length : Int) > 0
        · rw [if_pos c3] at H
          have c3b0 : decide (0 < (x0_1.length : Int)) = true := decide_eq_true c3
          have c3b1 : decide (0 < x0_1.length) = true := decide_eq_true (by omega)
          clear c3
          by_cases c4 : 0 ≤ (x0_1.length : Int)
          · rw [if_pos c4] at H
            have c4b0 := eq_true c4
            have c4b1 : decide (0 ≤ (x0_1.length : Int)) = true := decide_eq_true c4
            clear c4
            by_cases c5 : ((x0_1.length : Int) : Int).toNat ≤ 35184372088832
            · rw [if_pos c5] at H
              have c5b0 := eq_true c5
              have c5b1 : decide (((x0_1.length : Int) : Int).toNat ≤ 35184372088832) = true := decide_eq_true c5
              clear c5
              obtain ⟨y212, hy212⟩ : ∃ y_ : List Int, y_ = (List.replicate ((x0_1.length : Int) : Int).toNat 0) := ⟨_, rfl⟩
              replace H : (spec_Digits.l1 k1 x0_1 x3_1 0 y212 (wrap64 ((x0_1.length : Int) - 1))) = some r := by first | (rw [hy212]; with_reducible exact H) | (have H2_ := (Option.bind_some _ _).symm.trans H; rw [hy212]; with_reducible exact H2_) | (have H2_ := (Option.bind_some _ _).symm.trans H; with_reducible exact H2_) | with_reducible exact H | (rw [hy212]; exact H) | exact H
              have Ny212 := Aside0.mk hy212
              clear hy212
              have H' := Aside0.mk H
              clear H
              obtain ⟨Ao6, co6, eo6⟩ := Kd.V_slice HO_0.out
              subst eo6
              go_wp2_with (first | ((with_reducible refine gate_dst (N := 16) rfl ?_); refine Kd.R_make (Kd.int .u64) _ 40 rfl (N := 16) rfl 55 _ _ rfl (x0_1.length : Int) rfl rfl Tryd.underlying55 (.int .u64 0) 8 info40 rfl (by decide) (by omega) 0 (ok := fun _ => True) (okp := fun _ => True) rfl (fun _ hk => hk) trivial (of_decide_eq_true (by first | (with_reducible assumption) | assumption)) (Nat.le_trans (Nat.mul_le_mul_right _ (of_decide_eq_true (by first | (with_reducible assumption) | assumption) : (x0_1.length : Int).toNat ≤ 35184372088832)) (by omega)) (Below.refl _ _) (Nat.le_refl _) ?_; intro v213 w7 ho8 hb hg_ hnew_; clear hg_ hnew_; (first | rw [← Ny212.out] at ho8 | (simp only [Int.reduceToNat] at ho8; rw [← Ny212.out] at ho8)); have n0_ := Aside0.mk (Kd.V_elder' (by (with_reducible repeat (first | apply Kd.V_alloc | apply Kd.V_drewN | apply Kd.V_drew)); exact HO_0.out) (Kd.R_base ho8) hb); have n1_ := Aside0.mk (Kd.R_lower (Kd.R_newM (M := fun k_ => (w.heap.size ≤ k_)) ho8 (below_size (by repeat (first | (with_reducible first | exact HB.out | apply below_alloc | apply pw_below_drewN | apply below_drew1) | exact HB.out))) (fun k_ h_ => h_)) (below_size (by repeat (first | (with_reducible first | exact HB.out | apply below_alloc | apply pw_below_drewN | apply below_drew1) | exact HB.out)))); have n2_ := Aside0.mk (below_step (by repeat (first | (with_reducible first | exact HB.out | apply below_alloc | apply pw_below_drewN | apply below_drew1) | exact HB.out)) hb); clear HO_0; clear HB; have HO_0 := n0_; have HO214 := n1_; have HB := n2_; clear n0_ n1_ n2_; clear hb ho8))
              go_loopg [4, 6] k1 (fun kq v4 v6 w' => ∃ (x4_2 : Int) (x5_2 : List Int) (x6_2 : Int), v4 = .int .u64 x4_2 ∧ v6 = .int .i64 x6_2 ∧ Aside0 (spec_Digits.l1 kq x0_1 x3_1 x4_2 x5_2 x6_2 = some r) ∧ Aside0 (kq ≤ k1) ∧ Aside0 (Kd.V (Kd.int .u64) 40 w' w.heap.size (fun k_ => (P0_ k_ ∨ w.heap.size ≤ k_) ∧ some k_ ≠ (v213 : Value).ownBlock) (.slice Ao6 x0_1.length co6) x0_1) ∧ Aside0 (Kd.R (Kd.int .u64) 40 w' w.heap.size (fun k_ => (w.heap.size ≤ k_)) v213 x5_2) ∧ Aside0 (Below w.heap.size w w'))
              case atStart => exact ⟨(0), (y212), (wrap64 ((x0_1.length : Int) - 1)), (by first | rfl | (simp; done) | (simp [*]; done)), (by first | rfl | (simp; done) | (simp [*]; done)), H', ⟨Nat.le_refl _⟩, ⟨by (with_reducible repeat (first | apply Kd.V_alloc | apply Kd.V_drewN | apply Kd.V_drew)); exact HO_0.out⟩, ⟨by (with_reducible repeat (first | apply Kd.R_alloc | apply Kd.R_drewN | apply Kd.R_drew)); exact Kd.R_mono HO214.out (fun _ hk => hk.1)⟩, ⟨by repeat (first | (with_reducible first | exact HB.out | apply below_alloc | apply pw_below_drewN | apply below_drew1) | exact HB.out)⟩⟩
              case round =>
                clear H'
                try clear c2
                try clear c2b0
                try clear c2b1
                try clear c2b2
                try clear p2
                try clear c3
                try clear c3b0
                try clear c3b1
                try clear c4
                try clear c4b0
                try clear c4b1
                try clear c5
                try clear c5b0
                try clear c5b1
                try clear p6
                try clear c7
                try clear p2
                obtain ⟨x4_2, x5_2, x6_2, rfl, rfl, HA, HK2, HO_0, HO_5, HB⟩ := hrel
                cases gk with
                | zero => exact absurd HA.out (by simp [spec_Digits.l1])
                | succ k2 =>
                  have H := HA.out
                  clear HA
                  simp only [spec_Digits.l1] at H
                  by_cases c9 : x6_2 ≥ 0
                  · rw [if_pos c9] at H
                    have c9b0 : decide (0 ≤ x6_2) = true := decide_eq_true c9
                    clear c9
                    by_cases c10 : 0 ≤ x6_2
                    · rw [if_pos c10] at H
                      have c10b0 : decide (0 ≤ x6_2) = true := decide_eq_true c10
                      clear c10
                      by_cases c11 : x6_2 < (x0_1.length : Int)
                      · rw [if_pos c11] at H
                        have c11b0 : decide (x6_2 < (x0_1.length : Int)) = true := decide_eq_true c11
                        clear c11
                        by_cases c12 : x6_2 < (x5_2.length : Int)
                        · rw [if_pos c12] at H
                          have c12b0 : decide (x6_2 < (x5_2.length : Int)) = true := decide_eq_true c12
                          clear c12
                          obtain ⟨y216, hy216⟩ : ∃ y_ : List Int, y_ = (x5_2.set (x6_2 : Int).toNat (IntKind.u64.wrap (Int.tdiv (Go.bits .or .u64 (IntKind.u64.wrap (x4_2 * 4294967296)) (rd x0_1 x6_2)) 10))) := ⟨_, rfl⟩
                          replace H : (spec_Digits.l1 k2 x0_1 x3_1 (Int.tmod (Go.bits .or .u64 (IntKind.u64.wrap (x4_2 * 4294967296)) (rd x0_1 x6_2)) 10) y216 (wrap64 (x6_2 - 1))) = some r := by first | (rw [hy216]; with_reducible exact H) | (have H2_ := (Option.bind_some _ _).symm.trans H; rw [hy216]; with_reducible exact H2_) | (have H2_ := (Option.bind_some _ _).symm.trans H; with_reducible exact H2_) | with_reducible exact H | (rw [hy216]; exact H) | exact H
                          have Ny216 := Aside0.mk hy216
                          clear hy216
                          have H' := Aside0.mk H
                          clear H
                          have p215 : 0 ≤ (x6_2 : Int) := of_decide_eq_true (by first | (with_reducible assumption) | assumption)
                          have q215 : x6_2 < (x0_1.length : Int) := of_decide_eq_true (by first | (with_reducible assumption) | assumption)
                          obtain ⟨ad215, e215, hx215_0⟩ := Kd.at_int (Kd.V_reads' HO_0.out).2.2 x6_2 p215 q215
                          cases e215
                          replace p215 := eq_true p215
                          replace q215 := eq_true q215
                          have p13 : 0 ≤ (x6_2 : Int) := of_decide_eq_true (by first | (with_reducible assumption) | assumption)
                          have q13 : (x6_2 : Int) < ((x5_2.length : Int) : Int) := of_decide_eq_true (by first | (with_reducible assumption) | assumption)
                          obtain ⟨go13, co13, eo13, gb13, gl13, cl13, HG13⟩ := Kd.R_form HO_5.out (by omega)
                          (first | cases eo13 | (injection eo13 with ea_ en_ ec_; (first | subst ea_ | (injection ea_ with ea_; subst ea_)); subst ec_; clear en_))
                          have GB13 := Aside0.mk gb13
                          have GG13 := Aside0.mk HG13
                          clear gb13 gl13 HG13
                          obtain ⟨hx13_0, hf13_0⟩ := Kd.R_celln 0 HO_5.out (x6_2 : Int) p13 q13
                          replace p13 := eq_true p13
                          replace q13 := eq_true q13
                          have HP14 := Kd.R_putg HO_5.out (x6_2 : Int) (IntKind.u64.wrap (Int.tdiv (Go.bits .or .u64 (IntKind.u64.wrap (x4_2 * 4294967296)) (rd x0_1 x6_2)) 10))
                          go_wp2_with (first | ((with_reducible refine gate_store (t := 40) (p := 35) rfl ?_); refine store_event (t := 40) (p := 35) (v := ?vo_w15) (w1 := (wr.setCell ⟨go13, (x6_2 : Int).toNat, none⟩ (.int .u64 (IntKind.u64.wrap (Int.tdiv (Go.bits .or .u64 (IntKind.u64.wrap (x4_2 * 4294967296)) (rd x0_1 x6_2)) 10))))) ?hg ?ho ?hn ?hr ?_; (case ho => rfl); (case hg => rfl); (case hn => rfl); (case hr => first | (go_simp; done) | (go_simp; rfl)); intro w15 hw; have hg : wr.grownBy w15 (some go13) := (by rw [hw]; exact HP14.2); have hp_ : Kd.R (Kd.int .u64) 40 w15 w.heap.size (fun k_ => (w.heap.size ≤ k_)) (.slice (some ⟨go13, 0, none⟩) x5_2.length co13) y216 := (by rw [hw, Ny216.out]; exact HP14.1); clear HP14; have n0_ := Aside0.mk (Kd.V_afterv (v := (.slice (some ⟨go13, 0, none⟩) x5_2.length co13)) (v1 := (.slice (some ⟨go13, 0, none⟩) x5_2.length co13)) (ok := (fun k_ => (P0_ k_ ∨ w.heap.size ≤ k_))) (by (with_reducible repeat (first | apply Kd.V_alloc | apply Kd.V_drewN | apply Kd.V_drew)); exact HO_0.out) hg (.inl rfl)); have n1_ := Aside0.mk (hp_); have n2_ := Aside0.mk ((by rw [hw]; exact below_set (HB.out) GB13.out : Below w.heap.size w w15)); clear HO_0; clear HO_5; clear HB; have HO_0 := n0_; have HO_5 := n1_; have HB := n2_; clear n0_ n1_ n2_; clear hg hw hp_))
                          go_roundg k2
                          case measure => have := HK1.out; have := HK2.out; omega
                          case rel => exact ⟨(Int.tmod (Go.bits .or .u64 (IntKind.u64.wrap (x4_2 * 4294967296)) (rd x0_1 x6_2)) 10), (y216), (wrap64 (x6_2 - 1)), (by first | rfl | (simp; done) | (simp [*]; done)), (by first | rfl | (simp; done) | (simp [*]; done)), H', ⟨by have := HK1.out; have := HK2.out; omega⟩, ⟨by (with_reducible repeat (first | apply Kd.V_alloc | apply Kd.V_drewN | apply Kd.V_drew)); exact HO_0.out⟩, ⟨by (with_reducible repeat (first | apply Kd.R_alloc | apply Kd.R_drewN | apply Kd.R_drew)); exact HO_5.out⟩, ⟨by repeat (first | (with_reducible first | exact HB.out | apply below_alloc | apply pw_below_drewN | apply below_drew1) | exact HB.out)⟩⟩
                        · rw [if_neg c12] at H
                          exact absurd H (by simp)
                      · rw [if_neg c11] at H
                        exact absurd H (by simp)
                    · rw [if_neg c10] at H
                      exact absurd H (by simp)
                  · rw [if_neg c9] at H
                    have c9b0 : decide (0 ≤ x6_2) = false := decide_eq_false c9
                    clear c9
                    obtain ⟨y217, hy217⟩ : ∃ y_ : List Int, y_ = (([wrap64 (48 + (wrap64 (x4_2)))] : List Int)) := ⟨_, rfl⟩
                    replace H : ((spec_bytesOf.f k2 y217).bind fun t220 => (if t220.size + x3_1.size ≤ 9223372036854775807 then ((spec_natTrim.f k2 x5_2).bind fun t221 => (spec_Digits.l0 k2 t221 (t220 ++ x3_1))) else (none))) = some r := by first | (rw [hy217]; with_reducible exact H) | (have H2_ := (Option.bind_some _ _).symm.trans H; rw [hy217]; with_reducible exact H2_) | (have H2_ := (Option.bind_some _ _).symm.trans H; with_reducible exact H2_) | with_reducible exact H | (rw [hy217]; exact H) | exact H
                    have Ny217 := Aside0.mk hy217
                    clear hy217
                    replace H := Option.bind_eq_some_iff.mp H
                    obtain ⟨t220, A160, H⟩ := H
                    replace H : (if t220.size + x3_1.size ≤ 9223372036854775807 then ((spec_natTrim.f k2 x5_2).bind fun t221 => (spec_Digits.l0 k2 t221 (t220 ++ x3_1))) else (none)) = some r := H
                    have A16 := Aside0.mk A160
                    clear A160
                    by_cases c17 : t220.size + x3_1.size ≤ 9223372036854775807
                    · rw [if_pos c17] at H
                      have c17b0 := eq_true c17
                      have c17b1 : decide (t220.size + x3_1.size ≤ 9223372036854775807) = true := decide_eq_true c17
                      try have c17b2 : (9223372036854775807 < t220.size + x3_1.size) = False := eq_false (Nat.not_lt.2 c17)
                      replace H := Option.bind_eq_some_iff.mp H
                      obtain ⟨t221, A180, H⟩ := H
                      replace H : (spec_Digits.l0 k2 t221 (t220 ++ x3_1)) = some r := H
                      have A18 := Aside0.mk A180
                      clear A180
                      have H' := Aside0.mk H
                      clear H
                      go_wp2_with (first | ((with_reducible refine gate_dst (N := 41) rfl ?_); refine Kd.R_lit (Kd.int .i64) _ 3 ?hg (N := 41) ?hd (xs := ([wrap64 (48 + (wrap64 (x4_2)))] : List Int)) (inner := [.int .i64 (wrap64 (48 + (wrap64 (x4_2))))]) (ok := fun _ => True) (okp := fun _ => True) ?hr ?hp (fun _ hk => hk) trivial (Below.refl _ _) (Nat.le_refl _) (by simp) ?_; (case hd => rfl); (case hg => rfl); (case hr => first | (go_simp; done) | (go_simp; rfl)); (case hp => exact (Reps.one (show Kd.M (Kd.int .i64) _ _ _ (wrap64 (48 + (wrap64 (x4_2)))) [.int .i64 (wrap64 (48 + (wrap64 (x4_2))))] from rfl) (Reps.none _ _))); intro v218 w19 ho20 hb hg_ hnew_; clear hg_ hnew_; (first | rw [← Ny217.out] at ho20 | (simp only [Int.reduceToNat] at ho20; rw [← Ny217.out] at ho20)); have n0_ := Aside0.mk (Kd.V_elder' (by (with_reducible repeat (first | apply Kd.V_alloc | apply Kd.V_drewN | apply Kd.V_drew)); exact HO_0.out) (Kd.R_base ho20) hb); have n1_ := Aside0.mk (Kd.R_below (by (with_reducible repeat (first | apply Kd.R_alloc | apply Kd.R_drewN | apply Kd.R_drew)); exact HO_5.out) hb); have n2_ := Aside0.mk (Kd.R_lower (Kd.R_newM (M := fun k_ => (w.heap.size ≤ k_)) ho20 (below_size (by repeat (first | (with_reducible first | exact HB.out | apply below_alloc | apply pw_below_drewN | apply below_drew1) | exact HB.out))) (fun k_ h_ => h_)) (below_size (by repeat (first | (with_reducible first | exact HB.out | apply below_alloc | apply pw_below_drewN | apply below_drew1) | exact HB.out)))); have n3_ := Aside0.mk (below_step (by repeat (first | (with_reducible first | exact HB.out | apply below_alloc | apply pw_below_drewN | apply below_drew1) | exact HB.out)) hb); clear HO_0; clear HO_5; clear HB; have HO_0 := n0_; have HO_5 := n1_; have HO219 := n2_; have HB := n3_; clear n0_ n1_ n2_ n3_; clear hb ho20; obtain ⟨Ao21, co21, eo21⟩ := Kd.R_slice HO219.out; subst eo21) | ((with_reducible refine gate_callee (f := 46) rfl ?_); refine goesL_ (some 42) rfl rfl Tryd.func46 (by kernel_rfl) rfl #[.slice Ao21 y217.length co21] rfl (by (try simp only [List.map_toArray, List.map_cons, List.map_nil]); first | done | rfl | (simp only [List.length_drop, List.length_take]; rfl)) ?_; (with_reducible refine (spec_bytesOf.calls k2 _ _ y217 t220 _ ?side1 ?side2 A16.out).mono ?_); (case side1 => repeat (first | exact (Kd.R_reads' HO219.out).2.2 | (with_reducible refine Kd.C_alloc ?_ _) | (with_reducible refine Kd.C_drewN ?_ _) | (with_reducible refine Kd.C_drew ?_))); (case side2 => exact (Kd.R_reads' HO219.out).2.1); rintro e w22 ⟨rfl, hb⟩; refine ⟨_, rfl, ?_⟩; have n0_ := Aside0.mk (Kd.V_below (by (with_reducible repeat (first | apply Kd.V_alloc | apply Kd.V_drewN | apply Kd.V_drew)); exact HO_0.out) hb); have n1_ := Aside0.mk (Kd.R_below (by (with_reducible repeat (first | apply Kd.R_alloc | apply Kd.R_drewN | apply Kd.R_drew)); exact HO_5.out) hb); have n2_ := Aside0.mk (Kd.R_below (by (with_reducible repeat (first | apply Kd.R_alloc | apply Kd.R_drewN | apply Kd.R_drew)); exact HO219.out) hb); have n3_ := Aside0.mk (below_step (by repeat (first | (with_reducible first | exact HB.out | apply below_alloc | apply pw_below_drewN | apply below_drew1) | exact HB.out)) hb); clear HO_0; clear HO_5; clear HO219; clear HB; have HO_0 := n0_; have HO_5 := n1_; have HO219 := n2_; have HB := n3_; clear n0_ n1_ n2_ n3_; (try clear hb); (try clear hb2); (try clear hk); (try clear hi); obtain ⟨Ao23, co23, eo23⟩ := Kd.R_slice HO_5.out; subst eo23) | ((with_reducible refine gate_callee (f := 68) rfl ?_); refine goesL_ (some 46) rfl rfl Tryd.func68 (by kernel_rfl) rfl #[.slice Ao23 x5_2.length co23] rfl (by (try simp only [List.map_toArray, List.map_cons, List.map_nil]); first | done | rfl | (simp only [List.length_drop, List.length_take]; rfl)) ?_; (with_reducible refine (spec_natTrim.calls k2 (fun k_ => some k_ = (.slice Ao23 x5_2.length co23 : Value).ownBlock) (.slice Ao23 x5_2.length co23) x5_2 t221 w _ ?side1 ?side2 A18.out).mono ?_); (case side1 => repeat (first | (with_reducible first | exact HB.out | apply below_alloc | apply pw_below_drewN | apply below_drew1) | exact HB.out)); (case side2 => exact Kd.R_tight rfl HO_5.out); rintro e w24 ⟨v222, rfl, ho0, hb, hkp⟩; refine ⟨_, rfl, ?_⟩; have n0_ := Aside0.mk (Kd.V_mono (ok' := fun k_ => (P0_ k_ ∨ w.heap.size ≤ k_) ∧ some k_ ≠ (.slice Ao21 y217.length co21 : Value).ownBlock ∧ some k_ ≠ (v222 : Value).ownBlock) (Kd.V_keptB (HO_0.out) hkp (fun k_ hk_ hs_ => (hk_.1.2) hs_)) (fun k_ hk_ => ⟨hk_.1.1.1, hk_.1.2, fun e_ => Or.elim (ho0.1 k_ e_.symm) (fun hs_ => hk_.2.1 hs_) (fun hn_ => Nat.not_le.2 hk_.2.2 hn_)⟩)); have n1_ := Aside0.mk (Kd.R_mono (ok' := fun k_ => (w.heap.size ≤ k_)) (Kd.R_keptB ((Kd.R_apart' HO219.out (Kd.R_typed HO_5.out) (by decide))) hkp (fun k_ hk_ hs_ => (hk_.2) hs_)) (fun k_ hk_ => hk_.1.1.1)); have n2_ := Aside0.mk (Kd.R_mono (ok' := fun k_ => (w.heap.size ≤ k_)) ho0 (fun k_ hk_ => Or.elim hk_ (fun hs_ => (HO_5.out.1 k_ (hs_).symm)) (fun hn_ => (Nat.le_trans (below_size (by repeat (first | (with_reducible first | exact HB.out | apply below_alloc | apply pw_below_drewN | apply below_drew1) | exact HB.out))) hn_)))); have n3_ := Aside0.mk (hb); clear HO_0; clear HO219; clear HB; clear HO_5; have HO_0 := n0_; have HO219 := n1_; have HO223 := n2_; have HB := n3_; clear n0_ n1_ n2_ n3_; (try clear hb); (try clear hkp); (try clear ho0)))
                      go_roundg k2
                      case measure => have := HK1.out; have := HK2.out; omega
                      case rel => exact ⟨(t221), (t220 ++ x3_1), (by first | rfl | (simp; done) | (simp [*]; done)), H', ⟨by have := HK1.out; have := HK2.out; omega⟩, ⟨Kd.V_mono (Kd.R_V (by (with_reducible repeat (first | apply Kd.R_alloc | apply Kd.R_drewN | apply Kd.R_drew)); exact HO223.out)) (fun k_ hk => by first | exact ⟨(.inr (hk.1)), hk.2⟩ | exact (.inr (hk)))⟩, ⟨by repeat (first | (with_reducible first | exact HB.out | apply below_alloc | apply pw_below_drewN | apply below_drew1) | exact HB.out)⟩⟩
                    · rw [if_neg c17] at H
                      exact absurd H (by simp)
            · rw [if_neg c5] at H
              exact absurd H (by simp)
          · rw [if_neg c4] at H
            exact absurd H (by simp)
        · rw [if_neg c3] at H
          have c3b0 : decide (0 < (x0_1.length : Int)) = false := decide_eq_false c3
          have c3b1 : decide (0 < x0_1.length) = false := decide_eq_false (by omega)
          clear c3
          obtain rfl := Option.some.inj H
          obtain ⟨Ao25, co25, eo25⟩ := Kd.V_slice HO_0.out
          subst eo25
          go_wp2
          go_ret
          exact ⟨by first | rfl | (simp [errW_none, errW_some] <;> rfl) | (simp [*, errW_none, errW_some] <;> rfl), by repeat (first | (with_reducible first | exact HB.out | apply below_alloc | apply pw_below_drewN | apply below_drew1) | exact HB.out)⟩

/-! ### spec_cutDigits: function 71 -/
mutual
def spec_cutDigits.j0 : Nat → Int → ByteArray → Option (ByteArray × Int)
  | 0, _, _ => none
  | k + 1, x1, x8 => spec_cutDigits.l0 k x1 x8
def spec_cutDigits.l0 : Nat → Int → ByteArray → Option (ByteArray × Int)
  | 0, _, _ => none
  | k + 1, x1, x8 => if (x8.size : Int) > 1 then (if 0 ≤ (wrap64 ((x8.size : Int) - 1)) then (if (wrap64 ((x8.size : Int) - 1)) < (x8.size : Int) then (if (bt x8 (wrap64 ((x8.size : Int) - 1))) = 48 then (if (wrap64 ((x8.size : Int) - 1)) ≤ (x8.size : Int) then (spec_cutDigits.l0 k x1 (x8.extract 0 ((wrap64 ((x8.size : Int) - 1)) : Int).toNat)) else (none)) else (some (x8, x1))) else (none)) else (none)) else (some (x8, x1))
end
def spec_cutDigits.f (k : Nat) (a0 : Int) (a1 : Int) (a2 : Int) : Option (ByteArray × Int) := (spec_natTrim.f k (([Go.bits .and .u64 a0 4294967295, a0 / 4294967296] : List Int))).bind fun t227 => ((spec_Digits.f k t227).bind fun t230 => (if (t230.size : Int) > a2 then (spec_cutDigits.j0 k (wrap64 (a1 + 1)) t230) else (spec_cutDigits.j0 k a1 t230)))
theorem spec_cutDigits.mono_l : ∀ k, (∀ y0 y1, LeO (spec_cutDigits.j0 k y0 y1) (spec_cutDigits.j0 (k + 1) y0 y1)) ∧ (∀ y0 y1, LeO (spec_cutDigits.l0 k y0 y1) (spec_cutDigits.l0 (k + 1) y0 y1))
  | 0 => ⟨fun _ _ r h => by simp [spec_cutDigits.j0] at h, fun _ _ r h => by simp [spec_cutDigits.l0] at h⟩
  | k + 1 => by
    obtain ⟨ih0, ih1⟩ := spec_cutDigits.mono_l k
    refine ⟨?_, ?_⟩
    · intro y0 y1
      unfold spec_cutDigits.j0
      repeat' first
      | (with_reducible exact ih0 _ _)
      | (with_reducible exact ih1 _ _)
      | (with_reducible exact spec_Digits.mono _ _)
      | (with_reducible exact spec_natTrim.mono _ _)
      | (with_reducible exact LeO.refl _)
      | (with_reducible exact LeO.none _)
      | (with_reducible refine LeO.ite ?_ ?_)
      | (with_reducible refine LeO.bind ?_ (fun _ => ?_))
      | exact ih0 _ _
      | exact ih1 _ _
      | exact spec_Digits.mono _ _
      | exact spec_natTrim.mono _ _
      | exact LeO.none _
      | refine LeO.ite ?_ ?_
      | refine LeO.bind ?_ (fun _ => ?_)
    · intro y0 y1
      unfold spec_cutDigits.l0
      repeat' first
      | (with_reducible exact ih0 _ _)
      | (with_reducible exact ih1 _ _)
      | (with_reducible exact spec_Digits.mono _ _)
      | (with_reducible exact spec_natTrim.mono _ _)
      | (with_reducible exact LeO.refl _)
      | (with_reducible exact LeO.none _)
      | (with_reducible refine LeO.ite ?_ ?_)
      | (with_reducible refine LeO.bind ?_ (fun _ => ?_))
      | exact ih0 _ _
      | exact ih1 _ _
      | exact spec_Digits.mono _ _
      | exact spec_natTrim.mono _ _
      | exact LeO.none _
      | refine LeO.ite ?_ ?_
      | refine LeO.bind ?_ (fun _ => ?_)
theorem spec_cutDigits.mono : ∀ a0 a1 a2 k, LeO (spec_cutDigits.f k a0 a1 a2) (spec_cutDigits.f (k + 1) a0 a1 a2) := by
  intro a0 a1 a2 k
  obtain ⟨ih0, ih1⟩ := spec_cutDigits.mono_l k
  unfold spec_cutDigits.f
  repeat' first
      | (with_reducible exact ih0 _ _)
      | (with_reducible exact ih1 _ _)
      | (with_reducible exact spec_Digits.mono _ _)
      | (with_reducible exact spec_natTrim.mono _ _)
      | (with_reducible exact LeO.refl _)
      | (with_reducible exact LeO.none _)
      | (with_reducible refine LeO.ite ?_ ?_)
      | (with_reducible refine LeO.bind ?_ (fun _ => ?_))
      | exact ih0 _ _
      | exact ih1 _ _
      | exact spec_Digits.mono _ _
      | exact spec_natTrim.mono _ _
      | exact LeO.none _
      | refine LeO.ite ?_ ?_
      | refine LeO.bind ?_ (fun _ => ?_)
set_option maxHeartbeats 8000000 in
set_option maxRecDepth 100000 in
theorem spec_cutDigits.calls (k : Nat) (a0 : Int) (a1 : Int) (a2 : Int) (r1 : ByteArray) (r2 : Int) (w : World) (h : spec_cutDigits.f k a0 a1 a2 = some (r1, r2)) :
    Calls Tryd.prog 71 #[.int .u64 a0, .int .i64 a1, .int .i64 a2] w fun e w' => e = .returned (.tuple #[.string r1, .int .i64 r2]) ∧ Below w.heap.size w w' := by
  have HB := Aside0.mk (Below.refl w.heap.size w)
  have H : ((spec_natTrim.f k (([Go.bits .and .u64 a0 4294967295, a0 / 4294967296] : List Int))).bind fun t227 => ((spec_Digits.f k t227).bind fun t230 => (if (t230.size : Int) > a2 then (spec_cutDigits.j0 k (wrap64 (a1 + 1)) t230) else (spec_cutDigits.j0 k a1 t230)))) = some (r1, r2) := h
  clear h
  obtain ⟨y224, hy224⟩ : ∃ y_ : List Int, y_ = (([Go.bits .and .u64 a0 4294967295, a0 / 4294967296] : List Int)) := ⟨_, rfl⟩
  replace H : ((spec_natTrim.f k y224).bind fun t227 => ((spec_Digits.f k t227).bind fun t230 => (if (t230.size : Int) > a2 then (spec_cutDigits.j0 k (wrap64 (a1 + 1)) t230) else (spec_cutDigits.j0 k a1 t230)))) = some (r1, r2) := by first | (rw [hy224]; with_reducible exact H) | (have H2_ := (Option.bind_some _ _).symm.trans H; rw [hy224]; with_reducible exact H2_) | (have H2_ := (Option.bind_some _ _).symm.trans H; with_reducible exact H2_) | with_reducible exact H | (rw [hy224]; exact H) | exact H
  have Ny224 := Aside0.mk hy224
  clear hy224
  replace H := Option.bind_eq_some_iff.mp H
  obtain ⟨t227, A40, H⟩ := H
  replace H : ((spec_Digits.f k t227).bind fun t230 => (if (t230.size : Int) > a2 then (spec_cutDigits.j0 k (wrap64 (a1 + 1)) t230) else (spec_cutDigits.j0 k a1 t230))) = some (r1, r2) := H
  have A4 := Aside0.mk A40
  clear A40
  replace H := Option.bind_eq_some_iff.mp H
  obtain ⟨t230, A50, H⟩ := H
  replace H : (if (t230.size : Int) > a2 then (spec_cutDigits.j0 k (wrap64 (a1 + 1)) t230) else (spec_cutDigits.j0 k a1 t230)) = some (r1, r2) := H
  have A5 := Aside0.mk A50
  clear A50
  have HC6 := Aside0.mk H
  clear H
  go_enter Tryd.func71, Tryd.ntmps71
  go_upto_if 19 with (first | ((with_reducible refine gate_dst (N := 13) rfl ?_); (try (refine gate_guard (by rfl) ?_; dsimp only)); refine Kd.R_lit (Kd.int .u64) _ 40 ?hg (N := 13) ?hd (xs := ([Go.bits .and .u64 a0 4294967295, a0 / 4294967296] : List Int)) (inner := [.int .u64 (Go.bits .and .u64 a0 4294967295), .int .u64 (a0 / 4294967296)]) (ok := fun _ => True) (okp := fun _ => True) ?hr ?hp (fun _ hk => hk) trivial (Below.refl _ _) (Nat.le_refl _) (by simp) ?_; (case hd => rfl); (case hg => rfl); (case hr => first | (go_simp; done) | (go_simp; rfl)); (case hp => exact (Reps.one (show Kd.M (Kd.int .u64) _ _ _ (Go.bits .and .u64 a0 4294967295) [.int .u64 (Go.bits .and .u64 a0 4294967295)] from rfl) (Reps.one (show Kd.M (Kd.int .u64) _ _ _ (a0 / 4294967296) [.int .u64 (a0 / 4294967296)] from rfl) (Reps.none _ _)))); intro v225 w7 ho8 hb hg_ hnew_; clear hg_ hnew_; (first | rw [← Ny224.out] at ho8 | (simp only [Int.reduceToNat] at ho8; rw [← Ny224.out] at ho8)); have n0_ := Aside0.mk (Kd.R_lower ho8 (below_size (by repeat (first | (with_reducible first | exact HB.out | apply below_alloc | apply pw_below_drewN | apply below_drew1) | exact HB.out)))); have n1_ := Aside0.mk (below_step (by repeat (first | (with_reducible first | exact HB.out | apply below_alloc | apply pw_below_drewN | apply below_drew1) | exact HB.out)) hb); clear HB; have HO226 := n0_; have HB := n1_; clear n0_ n1_; clear hb ho8; obtain ⟨Ao9, co9, eo9⟩ := Kd.R_slice HO226.out; subst eo9) | ((with_reducible refine gate_callee (f := 68) rfl ?_); refine goesL_ (some 14) rfl rfl Tryd.func68 (by kernel_rfl) rfl #[.slice Ao9 y224.length co9] rfl (by (try simp only [List.map_toArray, List.map_cons, List.map_nil]); first | done | rfl | (simp only [List.length_drop, List.length_take]; rfl)) ?_; (with_reducible refine (spec_natTrim.calls k (fun k_ => some k_ = (.slice Ao9 y224.length co9 : Value).ownBlock) (.slice Ao9 y224.length co9) y224 t227 w _ ?side1 ?side2 A4.out).mono ?_); (case side1 => repeat (first | (with_reducible first | exact HB.out | apply below_alloc | apply pw_below_drewN | apply below_drew1) | exact HB.out)); (case side2 => exact Kd.R_tight rfl HO226.out); rintro e w10 ⟨v228, rfl, ho0, hb, hkp⟩; refine ⟨_, rfl, ?_⟩; have n0_ := Aside0.mk (Kd.R_mono (ok' := fun k_ => True) ho0 (fun k_ hk_ => trivial)); have n1_ := Aside0.mk (hb); clear HB; clear HO226; have HO229 := n0_; have HB := n1_; clear n0_ n1_; (try clear hb); (try clear hkp); (try clear ho0); obtain ⟨Ao11, co11, eo11⟩ := Kd.R_slice HO229.out; subst eo11) | ((with_reducible refine gate_callee (f := 72) rfl ?_); refine goesL_ (some 15) rfl rfl Tryd.func72 (by kernel_rfl) rfl #[.slice Ao11 t227.length co11] rfl (by (try simp only [List.map_toArray, List.map_cons, List.map_nil]); first | done | rfl | (simp only [List.length_drop, List.length_take]; rfl)) ?_; (with_reducible refine (spec_Digits.calls k (fun k_ => some k_ = (.slice Ao11 t227.length co11 : Value).ownBlock) _ _ t227 t230 _ ?side1 A5.out).mono ?_); (case side1 => exact Kd.R_V (Kd.R_tight rfl (HO229.out))); rintro e w12 ⟨rfl, hb⟩; refine ⟨_, rfl, ?_⟩; have n0_ := Aside0.mk (Kd.R_below (by (with_reducible repeat (first | apply Kd.R_alloc | apply Kd.R_drewN | apply Kd.R_drew)); exact HO229.out) hb); have n1_ := Aside0.mk (below_step (by repeat (first | (with_reducible first | exact HB.out | apply below_alloc | apply pw_below_drewN | apply below_drew1) | exact HB.out)) hb); clear HO229; clear HB; have HO229 := n0_; have HB := n1_; clear n0_ n1_; (try clear hb); (try clear hb2); (try clear hk); (try clear hi)))
  (try simp only [Act.put, List.setIfInBounds_toArray, List.set_cons_zero, List.set_cons_succ])
  go_cut [1] (fun v1 wc => ∃ (kq : Nat) (x1_5 : Int), v1 = .int .i64 x1_5 ∧ Aside0 (spec_cutDigits.j0 kq x1_5 t230 = some (r1, r2)) ∧ Aside0 (kq ≤ k) ∧ Aside0 (Below w.heap.size w wc))
  case first =>
    have H := HC6.out
    clear HC6
    by_cases c13 : (t230.size : Int) > a2
    · rw [if_pos c13] at H
      have c13b0 : decide (a2 < (t230.size : Int)) = true := decide_eq_true c13
      clear c13
      (first | rw [c13b0] | (simp only [i64_w, i32_w]; rw [c13b0]) | skip)
      have H' := Aside0.mk H
      clear H
      go_wp2
      go_meet
      case rel => exact ⟨_, (wrap64 (a1 + 1)), (by first | rfl | (simp; done) | (simp [*]; done)), H', ⟨by first | omega | exact Nat.le_refl _⟩, ⟨by repeat (first | (with_reducible first | exact HB.out | apply below_alloc | apply pw_below_drewN | apply below_drew1) | exact HB.out)⟩⟩
    · rw [if_neg c13] at H
      have c13b0 : decide (a2 < (t230.size : Int)) = false := decide_eq_false c13
      clear c13
      (first | rw [c13b0] | (simp only [i64_w, i32_w]; rw [c13b0]) | skip)
      have H' := Aside0.mk H
      clear H
      go_wp2
      go_meet
      case rel => exact ⟨_, (a1), (by first | rfl | (simp; done) | (simp [*]; done)), H', ⟨by first | omega | exact Nat.le_refl _⟩, ⟨by repeat (first | (with_reducible first | exact HB.out | apply below_alloc | apply pw_below_drewN | apply below_drew1) | exact HB.out)⟩⟩
  case rest =>
    clear HC6
    try clear c1
    try clear p2
    try clear c6
    try clear p6
    try clear c7
    try clear c13
    try clear c13b0
    obtain ⟨kq, x1_5, rfl, HA, HJ5, HB⟩ := hcut
    cases kq with
    | zero => exact absurd HA.out (by simp [spec_cutDigits.j0])
    | succ kj5 =>
      have H := HA.out
      clear HA
      simp only [spec_cutDigits.j0] at H
      have H' := Aside0.mk H
      clear H
      go_wp2
      go_loopg [8] kj5 (fun kq v8 w' => ∃ (x8_2 : ByteArray), v8 = .string x8_2 ∧ Aside0 (spec_cutDigits.l0 kq x1_5 x8_2 = some (r1, r2)) ∧ Aside0 (kq ≤ kj5) ∧ Aside0 (Below w.heap.size w w'))
      case atStart => exact ⟨(t230), (by first | rfl | (simp; done) | (simp [*]; done)), H', ⟨Nat.le_refl _⟩, ⟨by repeat (first | (with_reducible first | exact HB.out | apply below_alloc | apply pw_below_drewN | apply below_drew1) | exact HB.out)⟩⟩
      case round =>
        clear H'
        try clear c1
        try clear p2
        try clear c6
        try clear p6
        try clear c7
        try clear c13
        try clear c13b0
        try clear p2
        try clear p6
        obtain ⟨x8_2, rfl, HA, HK2, HB⟩ := hrel
        cases gk with
        | zero => exact absurd HA.out (by simp [spec_cutDigits.l0])
        | succ k2 =>
          have H := HA.out
          clear HA
          simp only [spec_cutDigits.l0] at H
          by_cases c14 : (x8_2.size : Int) > 1
          · rw [if_pos c14] at H
            have c14b0 : decide (1 < (x8_2.size : Int)) = true := decide_eq_true c14
            have c14b1 : decide (1 < x8_2.size) = true := decide_eq_true (by omega)
            clear c14
            obtain ⟨ji15, hji15⟩ : ∃ j_ : Int, (wrap64 ((x8_2.size : Int) - 1)) = j_ := ⟨_, rfl⟩
            replace H : (if 0 ≤ (ji15) then (if (ji15) < (x8_2.size : Int) then (if (bt x8_2 (ji15)) = 48 then (if (ji15) ≤ (x8_2.size : Int) then (spec_cutDigits.l0 k2 x1_5 (x8_2.extract 0 ((ji15) : Int).toNat)) else (none)) else (some (x8_2, x1_5))) else (none)) else (none)) = some (r1, r2) := by first | (rw [hji15] at H; exact H) | (simp only [hji15] at H ⊢; exact H)
            have hji15w : (IntKind.i64.wrap ((x8_2.size : Int) - 1)) = ji15 := (i64_w _).trans hji15
            by_cases c16 : 0 ≤ (ji15)
            · rw [if_pos c16] at H
              have c16b0 : decide (0 ≤ (ji15)) = true := decide_eq_true c16
              clear c16
              by_cases c17 : (ji15) < (x8_2.size : Int)
              · rw [if_pos c17] at H
                have c17b0 : decide ((ji15) < (x8_2.size : Int)) = true := decide_eq_true c17
                clear c17
                by_cases c19 : (bt x8_2 (ji15)) = 48
                · rw [if_pos c19] at H
                  have c19b0 : ((bt x8_2 (ji15)) == 48) = true := beq_iff_eq.mpr c19
                  have c19b1 : ((bt x8_2 (ji15)) != 48) = false := bne_eq_false_iff_eq.mpr c19
                  clear c19
                  have c20b0 := eq_true (of_decide_eq_true (by first | (with_reducible assumption) | assumption) : 0 ≤ (ji15))
                  by_cases c21 : (ji15) ≤ (x8_2.size : Int)
                  · rw [if_pos c21] at H
                    have c21b0 := eq_true c21
                    have c21b1 : decide ((ji15) ≤ (x8_2.size : Int)) = true := decide_eq_true c21
                    clear c21
                    have H' := Aside0.mk H
                    clear H
                    have p18 : 0 ≤ ((ji15) : Int) := of_decide_eq_true (by first | (with_reducible assumption) | assumption)
                    have q18 : (ji15) < (x8_2.size : Int) := of_decide_eq_true (by first | (with_reducible assumption) | assumption)
                    have hx18 := bt_at x8_2 (ji15)
                    replace p18 := eq_true p18
                    replace q18 := eq_true q18
                    go_wp2
                    go_roundg k2
                    case measure => have := HJ5.out; have := HK2.out; omega
                    case rel => exact ⟨(x8_2.extract 0 ((ji15) : Int).toNat), (by first | rfl | (simp; done) | (simp only [← hji15] <;> (first | rfl | simp)) | (simp [*]; done)), H', ⟨by have := HJ5.out; have := HK2.out; omega⟩, ⟨by repeat (first | (with_reducible first | exact HB.out | apply below_alloc | apply pw_below_drewN | apply below_drew1) | exact HB.out)⟩⟩
                  · rw [if_neg c21] at H
                    exact absurd H (by simp)
                · rw [if_neg c19] at H
                  have c19b0 : ((bt x8_2 (ji15)) == 48) = false := beq_eq_false_iff_ne.mpr c19
                  have c19b1 : ((bt x8_2 (ji15)) != 48) = true := bne_iff_ne.mpr c19
                  simp only [Option.some.injEq, Prod.mk.injEq] at H
                  obtain ⟨rfl, rfl⟩ := H
                  have p18 : 0 ≤ ((ji15) : Int) := of_decide_eq_true (by first | (with_reducible assumption) | assumption)
                  have q18 : (ji15) < (x8_2.size : Int) := of_decide_eq_true (by first | (with_reducible assumption) | assumption)
                  have hx18 := bt_at x8_2 (ji15)
                  replace p18 := eq_true p18
                  replace q18 := eq_true q18
                  go_wp2
                  go_ret2
                  exact ⟨by first | rfl | (simp [errW_none, errW_some] <;> rfl) | (simp only [← hji15]; first | rfl | (simp [errW_none, errW_some] <;> rfl)) | (simp [*, errW_none, errW_some] <;> rfl), by repeat (first | (with_reducible first | exact HB.out | apply below_alloc | apply pw_below_drewN | apply below_drew1) | exact HB.out)⟩
              · rw [if_neg c17] at H
                exact absurd H (by simp)
            · rw [if_neg c16] at H
              exact absurd H (by simp)
          · rw [if_neg c14] at H
            have c14b0 : decide (1 < (x8_2.size : Int)) = false := decide_eq_false c14
            have c14b1 : decide (1 < x8_2.size) = false := decide_eq_false (by omega)
            clear c14
            simp only [Option.some.injEq, Prod.mk.injEq] at H
            obtain ⟨rfl, rfl⟩ := H
            go_wp2
            go_ret2
            exact ⟨by first | rfl | (simp [errW_none, errW_some] <;> rfl) | (simp [*, errW_none, errW_some] <;> rfl), by repeat (first | (with_reducible first | exact HB.out | apply below_alloc | apply pw_below_drewN | apply below_drew1) | exact HB.out)⟩

end Go.Proofs.YtheichpmhfledaaDoor.PNumberText
