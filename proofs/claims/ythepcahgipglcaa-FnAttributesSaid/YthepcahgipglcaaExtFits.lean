/- zzFits9 and zzFits8, walked. -/
import Derived.Test.YthepcahgipglcaaExtAttr
set_option linter.unusedVariables false
set_option linter.unusedSimpArgs false
namespace Go.Proofs.Ythepcahgipglcaa
open Go.RowKit Go.Maps Go.Sort Go.Proofs.YthepcahgipglcaaW.PrintWords Go.Proofs.YthepcahgipglcaaW.PrintLast
def Fit9 (p : SP) : Prop := p.1.size ≤ 2147483647 ∧ p.2.size ≤ 2147483647
set_option maxHeartbeats 4000000 in
set_option maxRecDepth 100000 in
theorem Fits9.calls (s1 s2 : ByteArray) (r : Bool) (w : World) (hr : r = true ↔ Fit9 (s1, s2)) :
    Calls Try.prog 6 #[.agg #[.string s1, .string s2]] w fun e w' => e = .returned (.bool r) ∧ Below w.heap.size w w' := by
  have HR := Lib.hid hr
  clear hr
  have f0 : ∀ u, (Instr.index 24 (.agg #[.string s1, .string s2]) (.int .i64 0)).run Try.prog u = .ok (.string s1) u := fun u => by kernel_rfl
  have f1 : ∀ u, (Instr.index 24 (.agg #[.string s1, .string s2]) (.int .i64 1)).run Try.prog u = .ok (.string s2) u := fun u => by kernel_rfl
  go_enter Try.func6, Try.ntmps6
  go_upto_region 1 with (fail)
  have hb := below_alloc (Below.refl w.heap.size w) (.cells #[.string s1, .string s2] 24 (0, 0))
  have hx := heap_alloc_new w (.cells #[.string s1, .string s2] 24 (0, 0))
  generalize World.alloc w _ = W at *
  have HB := Lib.hid hb
  have x0 : W.cell? ⟨w.heap.size, 0, none⟩ = some (.string s1) := (blk_cell hx 0).trans rfl
  have x1 : W.cell? ⟨w.heap.size, 1, none⟩ = some (.string s2) := (blk_cell hx 1).trans rfl
  clear hb hx
  by_cases h1 : 2147483647 < s1.size
  · have d1 : decide (2147483647 < (s1.size : Int)) = true := decide_eq_true (by omega)
    have d2 : decide (2147483647 < s1.size) = true := decide_eq_true h1
    have hf : r = false := by
      cases hh : r with
      | false => rfl
      | true => exact absurd (HR.out.1 hh).1 (by show ¬ s1.size ≤ _; omega)
    subst hf
    clear h1
    go_wp2
    refine wp_loop_rounds 1 ?_
    rw [rounds_succ]
    go_wp2
    go_ret
    exact ⟨rfl, HB.out⟩
  · have d1 : decide (2147483647 < (s1.size : Int)) = false := decide_eq_false (by omega)
    have d2 : decide (2147483647 < s1.size) = false := decide_eq_false h1
    by_cases h2 : 2147483647 < s2.size
    · have d3 : decide (2147483647 < (s2.size : Int)) = true := decide_eq_true (by omega)
      have d4 : decide (2147483647 < s2.size) = true := decide_eq_true h2
      have hf : r = false := by
        cases hh : r with
        | false => rfl
        | true => exact absurd (HR.out.1 hh).2 (by show ¬ s2.size ≤ _; omega)
      subst hf
      clear h1 h2
      go_wp2
      refine wp_loop_rounds 2 ?_
      rw [rounds_succ]
      go_wp2
      rw [rounds_succ]
      go_wp2
      go_ret
      exact ⟨rfl, HB.out⟩
    · have d3 : decide (2147483647 < (s2.size : Int)) = false := decide_eq_false (by omega)
      have d4 : decide (2147483647 < s2.size) = false := decide_eq_false h2
      have hf : r = true := HR.out.2 ⟨by show s1.size ≤ _; omega, by show s2.size ≤ _; omega⟩
      subst hf
      clear h1 h2
      go_wp2
      refine wp_loop_rounds 3 ?_
      rw [rounds_succ]
      go_wp2
      rw [rounds_succ]
      go_wp2
      rw [rounds_succ]
      go_wp2
      go_ret
      exact ⟨rfl, HB.out⟩
def Fit8 (ps : List SP) : Prop := ps.length ≤ 2147483647 ∧ ∀ p ∈ ps, Fit9 p
set_option maxHeartbeats 4000000 in
set_option maxRecDepth 100000 in
theorem Fits8.calls (A0 : Option Addr) (c0 : Nat) (ps : List SP) (r : Bool) (w : World) (h0 : Kd.C kP w A0 ps.length ps) (hr : r = true ↔ Fit8 ps) :
    Calls Try.prog 4 #[.slice A0 ps.length c0] w fun e w' => e = .returned (.bool r) ∧ Below w.heap.size w w' := by
  have HR := Lib.hid hr
  have HC := Lib.hid h0
  clear hr h0
  by_cases h1 : 2147483647 < ps.length
  · have d1 : decide (2147483647 < (ps.length : Int)) = true := decide_eq_true (by omega)
    have d2 : decide (2147483647 < ps.length) = true := decide_eq_true h1
    have hf : r = false := by
      cases hh : r with
      | false => rfl
      | true => exact absurd (HR.out.1 hh).1 (by omega)
    subst hf
    clear h1
    go_enter Try.func4, Try.ntmps4
    go_wp2
    go_ret
    exact ⟨rfl, Below.refl _ _⟩
  · have d3 : decide (2147483647 < (ps.length : Int)) = false := decide_eq_false (by omega)
    have d4 : decide (2147483647 < ps.length) = false := decide_eq_false h1
    have HL := Lib.hid (show ps.length ≤ 2147483647 by omega)
    clear h1
    go_enter Try.func4, Try.ntmps4
    go_wp2
    clear d3 d4
    go_loopw [10] (fun v10 wr => ∃ k : Nat, v10 = .int .i64 (k : Int) ∧ k ≤ ps.length ∧ Hid (∀ i : Nat, i < k → Fit9 (rdP ps i)) ∧ Hid (Below w.heap.size w wr)) (fun v10 _ => ps.length - (intOf v10).toNat)
    case atStart => exact ⟨0, rfl, Nat.zero_le _, Lib.hid (fun i hi => by omega), Lib.hid (Below.refl _ _)⟩
    obtain ⟨k, rfl, hk, HF, HBw⟩ := hrel
    have hw : wrap64 ((k : Int) + 1) = ((k + 1 : Nat) : Int) := by have := HL.out; unfold wrap64; omega
    by_cases hlt : k < ps.length
    · have p1 : (0 : Int) ≤ (k : Int) := by omega
      have q1 : (k : Int) < (ps.length : Int) := by omega
      have d1 : decide ((k : Int) < (ps.length : Int)) = true := decide_eq_true q1
      have d2 : decide (k < ps.length) = true := decide_eq_true hlt
      obtain ⟨ad, e1, x0, x1⟩ := at_P HC.out k hlt
      cases e1
      replace x0 := (HBw.out.cell (World.block_lt_of_cell? w _ x0)).trans x0
      replace x1 := (HBw.out.cell (World.block_lt_of_cell? w _ x1)).trans x1
      have HMem := Lib.hid (rdP_mem ps k hlt)
      generalize hpr : rdP ps k = pr at x0 x1 HMem
      have HPr := Lib.hid hpr
      obtain ⟨s1, s2⟩ := pr
      change wr.cell? (ad.add (k * 2)) = some (.string s1) at x0
      change wr.cell? _ = some (.string s2) at x1
      have HLk := Lib.hid hlt
      clear hk hlt hpr
      replace p1 := eq_true p1
      replace q1 := eq_true q1
      go_upto_region 6 with (first | ((with_reducible refine gate_dst (N := 4) rfl ?_); refine box_event ?hg (N := 4) ?hd (cs := #[.string ⟨#[]⟩, .string ⟨#[]⟩]) (t := 24) ?hr ?_; (case hd => rfl); (case hg => rfl); (case hr => first | (go_simp; done) | (go_simp; rfl)); intro gb hg w7 hbox hb; have HG := Lib.hid hg; have HY := Lib.hid hb; have HX7 := Lib.hid hbox; clear hg hbox hb; have z0 := (blk_cell HX7.out 0).trans rfl; have z1 := (blk_cell HX7.out 1).trans rfl; have fz0 := blk_frozen HX7.out 0; have fz1 := blk_frozen HX7.out 1))
      have hb8 := (HY.out.setCell (p := ⟨gb, 0, none⟩) (Nat.le_of_eq HG.out.symm) (.string s1)).setCell (p := ⟨gb, 1, none⟩) (Nat.le_of_eq HG.out.symm) (.string s2)
      have hx8 := blk_put (blk_put HX7.out 0 (.string s1) rfl) 1 (.string s2) rfl
      generalize World.setCell (World.setCell w7 _ _) _ _ = w8 at *
      clear x0 x1 z0 z1 fz0 fz1 HX7 HY HG
      have x0 : w8.cell? ⟨gb, 0, none⟩ = some (.string s1) := (blk_cell hx8 0).trans rfl
      have x1 : w8.cell? ⟨gb, 1, none⟩ = some (.string s2) := (blk_cell hx8 1).trans rfl
      have HW8 := Lib.hid (HBw.out.trans (hb8.mono HBw.out.size))
      clear hx8 hb8 HBw
      by_cases h9 : Fit9 (s1, s2)
      · have HCall := Lib.hid (Fits9.calls s1 s2 true w8 ⟨fun _ => h9, fun _ => rfl⟩)
        have H9 := Lib.hid h9
        clear h9
        go_wp2_with (first | (go_at_call 6; (with_reducible refine HCall.out.mono ?_); rintro e w9 ⟨rfl, hb⟩; have HB9 := Lib.hid (HW8.out.trans (hb.mono HW8.out.size)); clear hb))
        go_roundw
        case rel => exact ⟨k + 1, by rw [hw], HLk.out, Lib.hid (fun i hi => by
          by_cases e : i = k
          · subst e; rw [HPr.out]; exact H9.out
          · exact HF.out i (by omega)), HB9⟩
        case measure =>
          rw [hw]
          have hm := HLk.out
          show ps.length - ((k + 1 : Nat) : Int).toNat < ps.length - ((k : Int)).toNat
          rw [Int.toNat_natCast, Int.toNat_natCast]
          omega
      · have HCall := Lib.hid (Fits9.calls s1 s2 false w8 ⟨fun h => (by cases h), fun h => absurd h h9⟩)
        have hf : r = false := by
          cases hh : r with
          | false => rfl
          | true => exact absurd ((HR.out.1 hh).2 _ HMem.out) h9
        subst hf
        clear h9
        go_wp2_with (first | (go_at_call 6; (with_reducible refine HCall.out.mono ?_); rintro e w9 ⟨rfl, hb⟩; have HB9 := Lib.hid (HW8.out.trans (hb.mono HW8.out.size)); clear hb))
        go_ret
        exact ⟨rfl, HB9.out⟩
    · have d1 : decide ((k : Int) < (ps.length : Int)) = false := decide_eq_false (by omega)
      have d2 : decide (k < ps.length) = false := decide_eq_false hlt
      obtain rfl : k = ps.length := by omega
      have hf : r = true := HR.out.2 ⟨HL.out, fun p hp => by
        obtain ⟨i, hi, e⟩ := List.getElem_of_mem hp
        have := HF.out i hi
        have e2 : rdP ps i = p := by
          unfold rdP
          rw [List.getD_eq_getElem?_getD, List.getElem?_eq_getElem hi, e]
          rfl
        rw [e2] at this
        exact this⟩
      subst hf
      clear hk hlt hw
      go_wp2
      go_ret
      exact ⟨rfl, HBw.out⟩
end Go.Proofs.Ythepcahgipglcaa
