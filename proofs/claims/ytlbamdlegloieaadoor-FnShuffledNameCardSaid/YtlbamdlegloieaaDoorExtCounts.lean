/- impl.counts, walked. -/
import Derived.Test.YtlbamdlegloieaaDoorExtIns
import Derived.Laws.Rows
import Derived.Laws.Tables
import Derived.Laws.CopyOwn
set_option linter.unusedVariables false
set_option linter.unusedSimpArgs false
namespace Go.Proofs.YtlbamdlegloieaaDoor
open Go Go.RowKit Go.Proofs.YtlbamdlegloieaaDoorW.PrintWords Go.Proofs.YtlbamdlegloieaaDoorW.PrintLast Go.Proofs.YtlbamdlegloieaaDoorW.PrintMore
/-- The cells that hold whole numbers of 32 bits. -/
def nums (l : List Int) : Array Value := (l.map fun z => Value.int .i32 z).toArray
theorem nums_size (l : List Int) : (nums l).size = l.length := by simp [nums]
theorem nums_one (l : List Int) : (nums l).all (·.oneCell') = true := by
  rw [Array.all_eq_true_iff_forall_mem]
  intro x hx
  simp [nums] at hx
  obtain ⟨z, _, rfl⟩ := hx
  rfl
theorem slice_all (g : Nat) : ∀ W, (Instr.sliceAt 33 (.pointer (some ⟨g, 0, none⟩)) none none none).run Tryd.prog W = .ok (.slice (some ⟨g, 0, none⟩) 64 64) W := fun W => by kernel_rfl
section
variable {P : Program} {ops : Array Oper} {rest : List Oper} {o : Oper} {a : Act} {Q : Exit → Act → World → Prop}
/-- copy(all of the block g of 64 cells, 64 numbers). -/
theorem copy_event {W : World} (hgd : o.guard = none) (s x : Operand) (t t' e : TypeId)
    (ho : o.op = .call { callee := .builtin .copy, args := #[s, x], argTypes := #[t, t'] }) (ht : P.underlying t = some (.slice e)) (hinfo : (P.info? e).map (·.size) = some 1)
    (g : Nat) (T : TypeId) (cur : Array Value) (A : Option Addr) (c : Nat) (l : List Int) (hs : a.eval s = .slice (some ⟨g, 0, none⟩) 64 64) (hx : a.eval x = .slice A 64 c)
    (hg : W.heap[g]? = some (.cells cur T (0, 0))) (hcur : cur.size = 64) (HR : (Kd.int .i32).C W A 64 l)
    (h : ∀ w1, w1.heap[g]? = some (.cells (nums l) T (0, 0)) → (∀ B, B ≤ g → Below B W w1) → wpList P ops Q rest (a.put o.dst (.int .i64 64)) w1) :
    wpList P ops Q (o :: rest) a W := by
  have hR := Kd.reads_of_C (d := (0 : Int)) HR
  have hl : l.length = 64 := hR.1
  obtain ⟨ad, hA, hc⟩ := hR.2.2 (by omega)
  subst hA
  have hlen : (nums l).toList.length = 64 := by simp [nums, hl]
  have hsrc : ∀ j u, (nums l).toList[j]? = some u → W.cell? (ad.add j) = some u := by
    intro j u hu
    have hj : j < 64 := by
      rcases Nat.lt_or_ge j 64 with h | h
      · exact h
      · rw [List.getElem?_eq_none (by omega)] at hu
        cases hu
    rw [hc j hj, ← hu]
    have hjl : j < l.length := by omega
    simp [nums, List.getD_eq_getElem?_getD, hjl]
  have hr := run_copy_cells (P := P) W t t' o.type e g 0 64 64 ad 64 c (nums l).toList ht hinfo (by rw [hlen]; rfl) hsrc
    (fun j hj => by rw [cell_of_row W g _ cur T (0, 0) hg]; simp; omega) (fun j _ => blk_frozen hg _) (by intro u hu; simp [nums] at hu; obtain ⟨q, _, rfl⟩ := hu; rfl)
  obtain ⟨cur', h3, h4, h5⟩ := setCells_row (nums l).toList 0 W cur hg (by rw [hlen, hcur]; exact Nat.le_refl _)
  obtain ⟨s1, s2, s3, s4⟩ := setCells_same g (nums l).toList 0 W
  have hce : cur' = nums l := by
    apply Array.ext'
    rw [h5, List.take_zero, List.nil_append, hlen, Nat.zero_add, List.drop_of_length_le (by rw [Array.length_toList, hcur]; exact Nat.le_refl _), List.append_nil]
  subst hce
  refine wpList_plain hgd fun K hK => ?_
  unfold Oper.wp execOp
  simp only [ho, resolve, invoke, builtin, Sem.run_bind, Sem.run_pure, Result.andThen_ok, List.map_toArray, List.map_cons, List.map_nil, hs, hx, hr]
  rw [hlen]
  exact hK _ _ (h _ h3 fun B hB => ⟨s1, s2, s3, by rw [s4]; exact Nat.le_refl _, fun k hk => setCells_far _ _ k (by omega)⟩)
end
set_option maxHeartbeats 4000000 in
set_option maxRecDepth 100000 in
theorem Counts.calls (w : World) (A : Option Addr) (c : Nat) (l : List Int) (hr : (Kd.int .i32).C w A 64 l) (hl : l.length = 64) :
    Calls Tryd.prog 11 #[.slice A 64 c] w fun e w' => e = .returned (.agg (nums l)) ∧ Below w.heap.size w w' := by
  have HR := Lib.hid hr
  have HL := Lib.hid hl
  clear hr hl
  go_enter Tryd.func11, Tryd.ntmps11
  go_wp2_with (first
    | ((with_reducible refine gate_dst (N := 2) rfl ?_); refine box_event ?hg (N := 2) ?hd (cs := Array.replicate 64 (.int .i32 0)) (t := 33) ?hr ?_; (case hd => rfl); (case hg => rfl); (case hr => first | (go_simp; done) | (go_simp; rfl)); intro ga hga wq1 hbox1 hb1; have HA1 := Lib.hid hbox1; have HB1 := Lib.hid hb1; have HGA := Lib.hid hga; clear hbox1 hb1 hga)
    | ((with_reducible refine gate_dst (N := 3) rfl ?_); refine box_event ?hg (N := 3) ?hd (cs := Array.replicate 64 (.int .i32 0)) (t := 33) ?hr ?_; (case hd => rfl); (case hg => rfl); (case hr => first | (go_simp; done) | (go_simp; rfl)); intro gb hgb wq2 hbox2 hb2; have HX2 := Lib.hid hbox2; have HB2 := Lib.hid hb2; have HGB := Lib.hid hgb; clear hbox2 hb2 hgb)
    | ((with_reducible refine gate_dst (N := 6) rfl ?_); refine copy_event rfl (.tmp 4) (.tmp 5) 22 22 21 rfl Tryd.underlying22 (by kernel_rfl) gb 33 _ A c l rfl rfl HX2.out (by simp) (Kd.C_below (Kd.C_below HR.out HB1.out) HB2.out) ?_; intro wq3 hx3 hb3; have HX3 := Lib.hid hx3; have HB3 := Lib.hid (hb3 gb (Nat.le_refl _)); clear hx3 hb3)
    | ((with_reducible refine gate_dst (N := 7) rfl ?_); refine wpList_load_row rfl 33 (.tmp 3) rfl gb rfl 33 (nums l) (0, 0) _ HX3.out Tryd.underlying33 rfl (by rw [nums_size, HL.out]; kernel_rfl) ?_)
    | (refine wpList_store_row (o := ⟨none, .store 33 (.tmp 2) (.tmp 7), _, _, _, _⟩) rfl 33 (.tmp 2) (.tmp 7) rfl ga (nums l) rfl rfl 33 (Array.replicate 64 (.int .i32 0)) ?hst (by rw [nums_size, HL.out]; kernel_rfl) (by rw [nums_size, HL.out, Array.size_replicate]) (nums_one l) ?_; (case hst => exact (HB3.out.block ga (by have := HGB.out; have := blk_lt HA1.out; omega)).trans (blk_below HA1.out HB2.out))))
  have hga : w.heap.size ≤ gb := by
    have h1 := HB1.out.size
    have h2 := HGB.out
    omega
  have hst : wq3.heap[ga]? = some (.cells (Array.replicate 64 (.int .i32 0)) 33 (0, 0)) := (HB3.out.block ga (by have := HGB.out; have := blk_lt HA1.out; omega)).trans (blk_below HA1.out HB2.out)
  have hbel : Below w.heap.size w wq3 := (HB1.out.trans (HB2.out.mono HB1.out.size)).trans (HB3.out.mono hga)
  refine bodyPost_ret (results_cell_row rfl _ _ ga 33 (nums l) (0, 0) _ rfl (setRow_heap wq3 ga _ (nums l) 33 (0, 0) hst) Tryd.underlying33 rfl (by rw [nums_size, HL.out]; kernel_rfl)) rfl ⟨rfl, ?_⟩
  exact below_setRow hbel (Nat.le_of_eq HGA.out.symm) _
end Go.Proofs.YtlbamdlegloieaaDoor
