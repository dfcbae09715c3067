-- Written by printx.py of this session, over the kit's print, with contracts of this session for some functions
import Derived.Test.YtmgepjnaalnckaaPJsStringx0
namespace Go.Proofs.Ytmgepjnaalnckaa.PJsString
open Go.RowKit Go.Proofs.YtmgepjnaalnckaaW.PrintWords Go.Proofs.YtmgepjnaalnckaaW.PrintLast Go.Proofs.YtmgepjnaalnckaaW.PrintMore
attribute [local go_sem] max2_int min2_int max_two min_two max_three min_three max_four min_four   -- for this text's walks alone
set_option linter.unusedVariables false
set_option linter.unusedSimpArgs false

/-- A state of type 61 at block g of W; what its slices lead to came in by w0. -/
def IsS61 (w0 W : World) (g : Nat) (f0 : ByteArray) (f1 : Int) (f2 : Bool) (f3 : Bool) (f4 : Int) : Prop := W.heap[g]? = some (.cells #[.string f0, .int .i64 f1, .bool f2, .bool f3, .int .i64 f4] 61 (0, 0)) ∧ w0.heap.size ≤ g
theorem IsS61.grown {w0 W : World} {g : Nat} {f0 : ByteArray} {f1 : Int} {f2 : Bool} {f3 : Bool} {f4 : Int} {W1 : World} {row : Option Nat} (h : IsS61 w0 W g f0 f1 f2 f3 f4) (hw : W.grownBy W1 row) (hne : some g ≠ row) : IsS61 w0 W1 g f0 f1 f2 f3 f4 := by
  obtain ⟨hb, hg⟩ := h
  exact ⟨blk_grown hb hw hne, hg⟩
theorem IsS61.own_neN {w0 W : World} {g : Nat} {f0 : ByteArray} {f1 : Int} {f2 : Bool} {f3 : Bool} {f4 : Int} {α : Type} {d : Kd α} {e : Nat} {base : Nat} {ok : Nat → Prop} {v : Value} {xs : List α} (h : IsS61 w0 W g f0 f1 f2 f3 f4) (ho : Kd.N d e W base ok v xs) (ht : e ≠ 61) : some g ≠ v.ownBlock := by
  obtain ⟨hb, hg⟩ := h
  exact Kd.N_ne ho hb ht
theorem IsS61.fresh {w0 W : World} {g : Nat} {f0 : ByteArray} {f1 : Int} {f2 : Bool} {f3 : Bool} {f4 : Int} (h : IsS61 w0 W g f0 f1 f2 f3 f4) : ∀ k, W.heap.size ≤ k → k ≠ g := by
  obtain ⟨hb, hg⟩ := h
  exact Kd.freshB hb
theorem IsS61.kept {w0 W : World} {g : Nat} {f0 : ByteArray} {f1 : Int} {f2 : Bool} {f3 : Bool} {f4 : Int} {W1 : World} {S : Nat → Prop} (h : IsS61 w0 W g f0 f1 f2 f3 f4) (hk : Kept W W1 S) (hne : ¬ S g) : IsS61 w0 W1 g f0 f1 f2 f3 f4 := by
  obtain ⟨hb, hg⟩ := h
  exact ⟨blk_kept hb hk hne, hg⟩
theorem IsS61.below {w0 W : World} {g : Nat} {f0 : ByteArray} {f1 : Int} {f2 : Bool} {f3 : Bool} {f4 : Int} {W1 : World} (h : IsS61 w0 W g f0 f1 f2 f3 f4) (hw : Below W.heap.size W W1) : IsS61 w0 W1 g f0 f1 f2 f3 f4 := h.grown (grown_of_below hw none) (by simp)
theorem IsS61.alloc {w0 W : World} {g : Nat} {f0 : ByteArray} {f1 : Int} {f2 : Bool} {f3 : Bool} {f4 : Int} (h : IsS61 w0 W g f0 f1 f2 f3 f4) (o : Obj) : IsS61 w0 (W.alloc o) g f0 f1 f2 f3 f4 := h.below (below_alloc (Below.refl _ _) o)
theorem IsS61.drewN {w0 W : World} {g : Nat} {f0 : ByteArray} {f1 : Int} {f2 : Bool} {f3 : Bool} {f4 : Int} (h : IsS61 w0 W g f0 f1 f2 f3 f4) (m : Nat) : IsS61 w0 (W.drewN m) g f0 f1 f2 f3 f4 := h
theorem IsS61.drew {w0 W : World} {g : Nat} {f0 : ByteArray} {f1 : Int} {f2 : Bool} {f3 : Bool} {f4 : Int} (h : IsS61 w0 W g f0 f1 f2 f3 f4) : IsS61 w0 W.drew g f0 f1 f2 f3 f4 := h
theorem IsS61.at_ {w0 W : World} {g : Nat} {f0 : ByteArray} {f1 : Int} {f2 : Bool} {f3 : Bool} {f4 : Int} {w' : World} {m : Nat} (hq : W.drewN m = w') (h : IsS61 w0 W g f0 f1 f2 f3 f4) : IsS61 w0 w' g f0 f1 f2 f3 f4 := by subst hq; exact IsS61.drewN h m
theorem IsS61.apart {w0 W : World} {g : Nat} {f0 : ByteArray} {f1 : Int} {f2 : Bool} {f3 : Bool} {f4 : Int} {α : Type} {d : Kd α} {e : Nat} {base : Nat} {ok : Nat → Prop} {v : Value} {xs : List α} (h : IsS61 w0 W g f0 f1 f2 f3 f4) (ho : d.R e W base ok v xs) (ht : ∀ q, q ∈ e :: d.E → q ≠ 61) : d.R e W base (fun k => ok k ∧ k ≠ g) v xs := by
  obtain ⟨hb, hg⟩ := h
  exact Kd.R_types ho hb ht
theorem IsS61.own_ne {w0 W : World} {g : Nat} {f0 : ByteArray} {f1 : Int} {f2 : Bool} {f3 : Bool} {f4 : Int} {α : Type} {d : Kd α} {e : Nat} {base : Nat} {ok : Nat → Prop} {v : Value} {xs : List α} (h : IsS61 w0 W g f0 f1 f2 f3 f4) (ho : d.R e W base ok v xs) (ht : e ≠ 61) : some g ≠ v.ownBlock := by
  obtain ⟨hb, hg⟩ := h
  exact Kd.R_ne ho hb ht
theorem IsS61.apartQ {w0 W : World} {g : Nat} {f0 : ByteArray} {f1 : Int} {f2 : Bool} {f3 : Bool} {f4 : Int} {α : Type} {d : Kd α} {e : Nat} {base : Nat} {ok : Nat → Prop} {v : Value} {xs : List α} (h : IsS61 w0 W g f0 f1 f2 f3 f4) (ho : d.Q e W base ok v xs) (ht : ∀ q, q ∈ e :: d.E → q ≠ 61) : d.Q e W base (fun k => ok k ∧ k ≠ g) v xs := by
  obtain ⟨hb, hg⟩ := h
  exact Kd.Q_types ho hb ht
theorem IsS61.own_neQ {w0 W : World} {g : Nat} {f0 : ByteArray} {f1 : Int} {f2 : Bool} {f3 : Bool} {f4 : Int} {α : Type} {d : Kd α} {e : Nat} {base : Nat} {ok : Nat → Prop} {v : Value} {xs : List α} (h : IsS61 w0 W g f0 f1 f2 f3 f4) (ho : d.Q e W base ok v xs) (ht : e ≠ 61) : some g ≠ v.ownBlock := by
  obtain ⟨hb, hg⟩ := h
  exact Kd.Q_ne ho hb ht
theorem IsS61.apartS {w0 W : World} {g : Nat} {f0 : ByteArray} {f1 : Int} {f2 : Bool} {f3 : Bool} {f4 : Int} {α : Type} {d : Kd α} {e : Nat} {base : Nat} {ok : Nat → Prop} {v : Value} {xs : List α} (h : IsS61 w0 W g f0 f1 f2 f3 f4) (ho : d.S e W base ok v xs) (ht : ∀ q, q ∈ e :: d.E → q ≠ 61) : d.S e W base (fun k => ok k ∧ k ≠ g) v xs := by
  obtain ⟨hb, hg⟩ := h
  exact Kd.S_types ho hb ht
theorem IsS61.own_neS {w0 W : World} {g : Nat} {f0 : ByteArray} {f1 : Int} {f2 : Bool} {f3 : Bool} {f4 : Int} {α : Type} {d : Kd α} {e : Nat} {base : Nat} {ok : Nat → Prop} {v : Value} {xs : List α} (h : IsS61 w0 W g f0 f1 f2 f3 f4) (ho : d.S e W base ok v xs) (ht : e ≠ 61) : some g ≠ v.ownBlock := by
  obtain ⟨hb, hg⟩ := h
  exact Kd.S_ne ho hb ht
theorem IsS61.lt {w0 W : World} {g : Nat} {f0 : ByteArray} {f1 : Int} {f2 : Bool} {f3 : Bool} {f4 : Int} (h : IsS61 w0 W g f0 f1 f2 f3 f4) : g < W.heap.size := by
  obtain ⟨hb, hg⟩ := h
  exact blk_lt hb
theorem IsS61.ge {w0 W : World} {g : Nat} {f0 : ByteArray} {f1 : Int} {f2 : Bool} {f3 : Bool} {f4 : Int} (h : IsS61 w0 W g f0 f1 f2 f3 f4) : w0.heap.size ≤ g := by
  obtain ⟨hb, hg⟩ := h
  exact hg
theorem IsS61.ne_blk {w0 W : World} {g : Nat} {f0 : ByteArray} {f1 : Int} {f2 : Bool} {f3 : Bool} {f4 : Int} {a : Nat} {cs : Array Value} {t : TypeId} {fr : Nat × Nat} (h : IsS61 w0 W g f0 f1 f2 f3 f4) (hb2 : W.heap[a]? = some (.cells cs t fr)) (ht : t ≠ 61) : g ≠ a := by
  obtain ⟨hb, hg⟩ := h
  rintro rfl
  rw [hb] at hb2
  injection hb2 with hb2
  injection hb2 with _ ht2
  exact ht ht2.symm
theorem IsS61.far {w0 W : World} {g : Nat} {f0 : ByteArray} {f1 : Int} {f2 : Bool} {f3 : Bool} {f4 : Int} {p : Addr} (h : IsS61 w0 W g f0 f1 f2 f3 f4) (hne : g ≠ p.block) (u : Value) : IsS61 w0 (W.setCell p u) g f0 f1 f2 f3 f4 := by
  obtain ⟨hb, hg⟩ := h
  exact ⟨blk_far hb hne u, hg⟩
theorem cellS61_0 {W : World} {g : Nat} {f0 : ByteArray} {f1 : Int} {f2 : Bool} {f3 : Bool} {f4 : Int} (h : W.heap[g]? = some (.cells #[.string f0, .int .i64 f1, .bool f2, .bool f3, .int .i64 f4] 61 (0, 0))) : W.cell? ⟨g, 0, none⟩ = some (.string f0) := (blk_cell h 0).trans rfl
theorem IsS61.set_0 {w0 W : World} {g : Nat} {f0 : ByteArray} {f1 : Int} {f2 : Bool} {f3 : Bool} {f4 : Int} (h : IsS61 w0 W g f0 f1 f2 f3 f4) (x : ByteArray) : IsS61 w0 (W.setCell ⟨g, 0, none⟩ (.string x)) g x f1 f2 f3 f4 := by
  obtain ⟨hb, hg⟩ := h
  exact ⟨by simpa using blk_set hb 0 (.string x), hg⟩
theorem cellS61_1 {W : World} {g : Nat} {f0 : ByteArray} {f1 : Int} {f2 : Bool} {f3 : Bool} {f4 : Int} (h : W.heap[g]? = some (.cells #[.string f0, .int .i64 f1, .bool f2, .bool f3, .int .i64 f4] 61 (0, 0))) : W.cell? ⟨g, 1, none⟩ = some (.int .i64 f1) := (blk_cell h 1).trans rfl
theorem IsS61.set_1 {w0 W : World} {g : Nat} {f0 : ByteArray} {f1 : Int} {f2 : Bool} {f3 : Bool} {f4 : Int} (h : IsS61 w0 W g f0 f1 f2 f3 f4) (x : Int) : IsS61 w0 (W.setCell ⟨g, 1, none⟩ (.int .i64 x)) g f0 x f2 f3 f4 := by
  obtain ⟨hb, hg⟩ := h
  exact ⟨by simpa using blk_set hb 1 (.int .i64 x), hg⟩
theorem cellS61_2 {W : World} {g : Nat} {f0 : ByteArray} {f1 : Int} {f2 : Bool} {f3 : Bool} {f4 : Int} (h : W.heap[g]? = some (.cells #[.string f0, .int .i64 f1, .bool f2, .bool f3, .int .i64 f4] 61 (0, 0))) : W.cell? ⟨g, 2, none⟩ = some (.bool f2) := (blk_cell h 2).trans rfl
theorem IsS61.set_2 {w0 W : World} {g : Nat} {f0 : ByteArray} {f1 : Int} {f2 : Bool} {f3 : Bool} {f4 : Int} (h : IsS61 w0 W g f0 f1 f2 f3 f4) (x : Bool) : IsS61 w0 (W.setCell ⟨g, 2, none⟩ (.bool x)) g f0 f1 x f3 f4 := by
  obtain ⟨hb, hg⟩ := h
  exact ⟨by simpa using blk_set hb 2 (.bool x), hg⟩
theorem cellS61_3 {W : World} {g : Nat} {f0 : ByteArray} {f1 : Int} {f2 : Bool} {f3 : Bool} {f4 : Int} (h : W.heap[g]? = some (.cells #[.string f0, .int .i64 f1, .bool f2, .bool f3, .int .i64 f4] 61 (0, 0))) : W.cell? ⟨g, 3, none⟩ = some (.bool f3) := (blk_cell h 3).trans rfl
theorem IsS61.set_3 {w0 W : World} {g : Nat} {f0 : ByteArray} {f1 : Int} {f2 : Bool} {f3 : Bool} {f4 : Int} (h : IsS61 w0 W g f0 f1 f2 f3 f4) (x : Bool) : IsS61 w0 (W.setCell ⟨g, 3, none⟩ (.bool x)) g f0 f1 f2 x f4 := by
  obtain ⟨hb, hg⟩ := h
  exact ⟨by simpa using blk_set hb 3 (.bool x), hg⟩
theorem cellS61_4 {W : World} {g : Nat} {f0 : ByteArray} {f1 : Int} {f2 : Bool} {f3 : Bool} {f4 : Int} (h : W.heap[g]? = some (.cells #[.string f0, .int .i64 f1, .bool f2, .bool f3, .int .i64 f4] 61 (0, 0))) : W.cell? ⟨g, 4, none⟩ = some (.int .i64 f4) := (blk_cell h 4).trans rfl
theorem IsS61.set_4 {w0 W : World} {g : Nat} {f0 : ByteArray} {f1 : Int} {f2 : Bool} {f3 : Bool} {f4 : Int} (h : IsS61 w0 W g f0 f1 f2 f3 f4) (x : Int) : IsS61 w0 (W.setCell ⟨g, 4, none⟩ (.int .i64 x)) g f0 f1 f2 f3 x := by
  obtain ⟨hb, hg⟩ := h
  exact ⟨by simpa using blk_set hb 4 (.int .i64 x), hg⟩
theorem IsS61.new (w0 W : World) (f0 : ByteArray) (f1 : Int) (f2 : Bool) (f3 : Bool) (f4 : Int) (hB : Below w0.heap.size w0 W) : IsS61 w0 (W.alloc (.cells #[.string f0, .int .i64 f1, .bool f2, .bool f3, .int .i64 f4] 61)) W.heap.size f0 f1 f2 f3 f4 := ⟨by simpa using heap_alloc_new W _, hB.size⟩

/-! ### spec_scan_is: function 38 -/
def spec_scan_is.f (s0_0 : ByteArray) (s0_1 : Int) (s0_2 : Bool) (s0_3 : Bool) (s0_4 : Int) (a1 : ByteArray) : Option (Bool × ByteArray × Int × Bool × Bool × Int) := if (a1.size : Int) ≤ (wrap64 ((s0_0.size : Int) - s0_1)) then (if 0 ≤ s0_1 then (if s0_1 ≤ (wrap64 (s0_1 + (a1.size : Int))) then (if (wrap64 (s0_1 + (a1.size : Int))) ≤ (s0_0.size : Int) then (some (((s0_0.extract (s0_1 : Int).toNat ((wrap64 (s0_1 + (a1.size : Int))) : Int).toNat).toList == a1.toList), s0_0, s0_1, s0_2, s0_3, s0_4)) else (none)) else (none)) else (none)) else (some (false, s0_0, s0_1, s0_2, s0_3, s0_4))
set_option maxHeartbeats 8000000 in
set_option maxRecDepth 100000 in
theorem spec_scan_is.calls (g : Nat) (s0_0 : ByteArray) (s0_1 : Int) (s0_2 : Bool) (s0_3 : Bool) (s0_4 : Int) (a1 : ByteArray) (r1 : Bool) (r2 : ByteArray) (r3 : Int) (r4 : Bool) (r5 : Bool) (r6 : Int) (w0 w : World) (hI : IsS61 w0 w g s0_0 s0_1 s0_2 s0_3 s0_4) (hB : Below w0.heap.size w0 w) (h : spec_scan_is.f s0_0 s0_1 s0_2 s0_3 s0_4 a1 = some (r1, r2, r3, r4, r5, r6)) :
    Calls Try.prog 38 #[.pointer (some ⟨g, 0, none⟩), .string a1] w fun e w' => e = .returned (.bool r1) ∧ IsS61 w0 w' g r2 r3 r4 r5 r6 ∧ Below w0.heap.size w0 w' ∧ KeepBut w w' g none := by
  have HI0 := Aside0.mk hI
  have HK := Aside0.mk (KeepBut.refl w g none)
  have HL := Aside0.mk hB.size
  clear hI
  have HW0 := Aside0.mk hB.size
  have HB := Aside0.mk hB
  clear hB
  have H : (if (a1.size : Int) ≤ (wrap64 ((s0_0.size : Int) - s0_1)) then (if 0 ≤ s0_1 then (if s0_1 ≤ (wrap64 (s0_1 + (a1.size : Int))) then (if (wrap64 (s0_1 + (a1.size : Int))) ≤ (s0_0.size : Int) then (some (((s0_0.extract (s0_1 : Int).toNat ((wrap64 (s0_1 + (a1.size : Int))) : Int).toNat).toList == a1.toList), s0_0, s0_1, s0_2, s0_3, s0_4)) else (none)) else (none)) else (none)) else (some (false, s0_0, s0_1, s0_2, s0_3, s0_4))) = some (r1, r2, r3, r4, r5, r6) := h
  clear h
  by_cases c3 : (a1.size : Int) ≤ (wrap64 ((s0_0.size : Int) - s0_1))
  · rw [if_pos c3] at H
    have c3b0 : decide ((a1.size : Int) ≤ (wrap64 ((s0_0.size : Int) - s0_1))) = true := decide_eq_true c3
    clear c3
    by_cases c4 : 0 ≤ s0_1
    · rw [if_pos c4] at H
      have c4b0 := eq_true c4
      have c4b1 : decide (0 ≤ s0_1) = true := decide_eq_true c4
      clear c4
      by_cases c5 : s0_1 ≤ (wrap64 (s0_1 + (a1.size : Int)))
      · rw [if_pos c5] at H
        have c5b0 := eq_true c5
        have c5b1 : decide (s0_1 ≤ (wrap64 (s0_1 + (a1.size : Int)))) = true := decide_eq_true c5
        by_cases c6 : (wrap64 (s0_1 + (a1.size : Int))) ≤ (s0_0.size : Int)
        · rw [if_pos c6] at H
          have c6b0 := eq_true c6
          have c6b1 : decide ((wrap64 (s0_1 + (a1.size : Int))) ≤ (s0_0.size : Int)) = true := decide_eq_true c6
          simp only [Option.some.injEq, Prod.mk.injEq] at H
          obtain ⟨rfl, rfl, rfl, rfl, rfl, rfl⟩ := H
          obtain ⟨HGz7, hgz7⟩ := HI0.out
          have hcz7_0 := cellS61_0 HGz7
          have hcz7_1 := cellS61_1 HGz7
          have hcz7_2 := cellS61_2 HGz7
          have hcz7_3 := cellS61_3 HGz7
          have hcz7_4 := cellS61_4 HGz7
          have hfz7_0 := blk_frozen HGz7 0
          have hfz7_1 := blk_frozen HGz7 1
          have hfz7_2 := blk_frozen HGz7 2
          have hfz7_3 := blk_frozen HGz7 3
          have hfz7_4 := blk_frozen HGz7 4
          clear HGz7 hgz7
          go_enter Try.func38, Try.ntmps38
          go_wp2
          repeat (go_quiet (fail); try go_wp2)
          go_ret
          exact ⟨by first | rfl | (simp [errW_none, errW_some] <;> rfl) | (simp [*, errW_none, errW_some] <;> rfl), by repeat (first | (with_reducible first | exact HI0.out | apply IsS61.alloc | apply IsS61.drewN | apply IsS61.drew | apply IsS61.set_0 | apply IsS61.set_1 | apply IsS61.set_2 | apply IsS61.set_3 | apply IsS61.set_4) | exact HI0.out), by repeat (first | (with_reducible first | exact HB.out | apply below_alloc | apply pw_below_drewN | apply below_drew1 | refine below_set ?_ (IsS61.ge HI0.out)) | exact HB.out), by repeat (first | (with_reducible first | exact HK.out | apply KeepBut.set_ | apply keep_drewN | apply keep_drew | apply keep_alloc) | exact HK.out)⟩
        · rw [if_neg c6] at H
          exact absurd H (by simp)
      · rw [if_neg c5] at H
        exact absurd H (by simp)
    · rw [if_neg c4] at H
      exact absurd H (by simp)
  · rw [if_neg c3] at H
    have c3b0 : decide ((a1.size : Int) ≤ (wrap64 ((s0_0.size : Int) - s0_1))) = false := decide_eq_false c3
    clear c3
    simp only [Option.some.injEq, Prod.mk.injEq] at H
    obtain ⟨rfl, rfl, rfl, rfl, rfl, rfl⟩ := H
    obtain ⟨HGz8, hgz8⟩ := HI0.out
    have hcz8_0 := cellS61_0 HGz8
    have hcz8_1 := cellS61_1 HGz8
    have hcz8_2 := cellS61_2 HGz8
    have hcz8_3 := cellS61_3 HGz8
    have hcz8_4 := cellS61_4 HGz8
    have hfz8_0 := blk_frozen HGz8 0
    have hfz8_1 := blk_frozen HGz8 1
    have hfz8_2 := blk_frozen HGz8 2
    have hfz8_3 := blk_frozen HGz8 3
    have hfz8_4 := blk_frozen HGz8 4
    clear HGz8 hgz8
    go_enter Try.func38, Try.ntmps38
    go_wp2
    repeat (go_quiet (fail); try go_wp2)
    go_ret
    exact ⟨by first | rfl | (simp [errW_none, errW_some] <;> rfl) | (simp [*, errW_none, errW_some] <;> rfl), by repeat (first | (with_reducible first | exact HI0.out | apply IsS61.alloc | apply IsS61.drewN | apply IsS61.drew | apply IsS61.set_0 | apply IsS61.set_1 | apply IsS61.set_2 | apply IsS61.set_3 | apply IsS61.set_4) | exact HI0.out), by repeat (first | (with_reducible first | exact HB.out | apply below_alloc | apply pw_below_drewN | apply below_drew1 | refine below_set ?_ (IsS61.ge HI0.out)) | exact HB.out), by repeat (first | (with_reducible first | exact HK.out | apply KeepBut.set_ | apply keep_drewN | apply keep_drew | apply keep_alloc) | exact HK.out)⟩

-- function 39 (spec_scan_rest): its contract stands in YtmgepjnaalnckaaExtRest

end Go.Proofs.Ytmgepjnaalnckaa.PJsString
