/- MakeLineColumnTracker, walked. -/
import Derived.Test.YtckgmnpcnoanhaaDoorExtClos
import Derived.Laws.CopyOwn
set_option linter.unusedVariables false
set_option linter.unusedSimpArgs false
namespace Go.Proofs.YtckgmnpcnoanhaaDoor
open Go Go.RowKit Go.Proofs.YtckgmnpcnoanhaaDoorW.PrintWords Go.Proofs.YtckgmnpcnoanhaaDoorW.PrintLast Go.Proofs.YtckgmnpcnoanhaaDoorW.PrintMore Go.Proofs.YtckgmnpcnoanhaaDoor.PFnLocated
/-- A new tracker. -/
def trkCells (s : ByteArray) (a b : Bool) : Array Value := #[.string s, .string ⟨#[]⟩, .string ⟨#[]⟩, .int .i32 0, .int .i32 0, .int .i32 0, .int .i32 0, .bool a, .bool false, .bool b]
theorem trkOne (s : ByteArray) (a b : Bool) : (trkCells s a b).all (·.oneCell') = true := by simp [trkCells, Value.oneCell']
theorem store_row_ {P : Program} {ops : Array Oper} {Q : Exit → Act → World → Prop} {oi : Oper} {a : Act} {w : World} {K : Act → World → Prop} (hw : Region.wanted oi (yielded ops a.tmps) = true) (hN : oi.dst = none) (ty : TypeId) (x y : Operand) (ho : oi.op = .store ty x y)
    (g : Nat) (cells : Array Value) (hx : a.eval x = .pointer (some ⟨g, 0, none⟩)) (hy : a.eval y = .agg cells)
    (t : TypeId) (old : Array Value) (hg : w.heap[g]? = some (.cells old t (0, 0))) (hi : (P.info? ty).map (·.size) = some cells.size)
    (hold : old.size = cells.size) (h1 : cells.all (·.oneCell') = true)
    (h : K a (w.setRow g cells)) : if Region.wanted oi (yielded ops a.tmps) = true then Oper.wp P oi a w K Q else K (a.put none undef) w := by
  rw [if_pos hw]
  refine wp_store_row ty x y ho g cells hx hy t old hg hi hold h1 ?_
  rw [hN]
  exact h
theorem info45 : (Tryd.prog.info? 45).map (·.size) = some 10 := by kernel_rfl
set_option maxHeartbeats 8000000 in
set_option maxRecDepth 100000 in
theorem Make.calls (gs : Nat) (s : ByteArray) (w : World) (h0 : w.cell? ⟨gs, 0, none⟩ = some (.string ⟨#[]⟩)) (h1 : w.cell? ⟨gs, 1, none⟩ = some (.string ⟨#[]⟩)) (h3 : w.cell? ⟨gs, 3, none⟩ = some (.string s)) :
    Calls Tryd.prog 8 #[.pointer (some ⟨gs, 0, none⟩)] w fun e w' => e = .returned (.agg (trkCells s true true)) ∧ Below w.heap.size w w' := by
  go_enter Tryd.func8, Tryd.ntmps8
  go_wp2
  have hb := below_alloc (Below.refl w.heap.size w) (.cells (trkCells ⟨#[]⟩ false false) 45 (0, 0))
  have hx := heap_alloc_new w (.cells (trkCells ⟨#[]⟩ false false) 45 (0, 0))
  change Code.wp _ _ _ _ (World.alloc w (.cells (trkCells ⟨#[]⟩ false false) 45 (0, 0)))
  generalize World.alloc w _ = W at *
  have HB := Lib.hid hb
  have HX := Lib.hid hx
  have HF0 := (hb.cell (World.block_lt_of_cell? w _ h0)).trans h0
  have HF1 := (hb.cell (World.block_lt_of_cell? w _ h1)).trans h1
  have HF3 := (hb.cell (World.block_lt_of_cell? w _ h3)).trans h3
  clear hb hx h0 h1 h3
  refine start_ (n := 10) (S := fun w' => w'.cell? ⟨gs, 0, none⟩ = some (.string ⟨#[]⟩) ∧ w'.cell? ⟨gs, 1, none⟩ = some (.string ⟨#[]⟩) ∧ w'.cell? ⟨gs, 3, none⟩ = some (.string s)) (ds := [9]) #[false, false, false, false, false, false, false, false, false, false] (by kernel_rfl) rfl rfl ⟨HF0, HF1, HF3⟩ (fun hHeld => ?_)
  refine pure_ (i := 0) (N := some 6) (v := ?_) (a' := ?_) #[true, false, false, false, false, false, false, false, false, false] rfl rfl (by kernel_rfl) (fun _ _ _ h => h) (Or.inl ⟨by rfl, ?_⟩) ?_ ?_
  rotate_left
  · intro w'
    go_simp
    with_reducible rfl
  rotate_left
  · simp only [Act.put, List.setIfInBounds_toArray, List.set_cons_zero, List.set_cons_succ, i64_w, i32_w]
    rfl
  refine pure_ (i := 1) (N := some 7) (v := ?_) (a' := ?_) #[true, true, false, false, false, false, false, false, false, false] rfl rfl (by kernel_rfl) (fun _ _ _ h => h) (Or.inl ⟨by rfl, ?_⟩) ?_ ?_
  rotate_left
  · intro w'
    go_simp
    with_reducible rfl
  rotate_left
  · simp only [Act.put, List.setIfInBounds_toArray, List.set_cons_zero, List.set_cons_succ, i64_w, i32_w]
    rfl
  refine pure_ (i := 2) (N := some 8) (v := ?_) (a' := ?_) #[true, true, true, false, false, false, false, false, false, false] rfl rfl (by kernel_rfl) (fun _ _ _ h => h) (Or.inl ⟨by rfl, ?_⟩) ?_ ?_
  rotate_left
  · intro w'
    go_simp
    with_reducible rfl
  rotate_left
  · simp only [Act.put, List.setIfInBounds_toArray, List.set_cons_zero, List.set_cons_succ, i64_w, i32_w]
    rfl
  refine pure_ (i := 4) (N := some 10) (v := ?_) (a' := ?_) #[true, true, true, false, true, false, false, false, false, false] rfl rfl (by kernel_rfl) (fun _ _ _ h => h) (Or.inl ⟨by rfl, ?_⟩) ?_ ?_
  rotate_left
  · intro w'
    go_simp
    with_reducible rfl
  rotate_left
  · simp only [Act.put, List.setIfInBounds_toArray, List.set_cons_zero, List.set_cons_succ, i64_w, i32_w]
    rfl
  refine pure_ (i := 5) (N := some 11) (v := ?_) (a' := ?_) #[true, true, true, false, true, true, false, false, false, false] rfl rfl (by kernel_rfl) (fun _ _ _ h => h) (Or.inl ⟨by rfl, ?_⟩) ?_ ?_
  rotate_left
  · intro w'
    go_simp
    with_reducible rfl
  rotate_left
  · simp only [Act.put, List.setIfInBounds_toArray, List.set_cons_zero, List.set_cons_succ, i64_w, i32_w]
    rfl
  refine pure_ (i := 6) (N := some 12) (v := ?_) (a' := ?_) #[true, true, true, false, true, true, true, false, false, false] rfl rfl (by kernel_rfl) (fun _ _ _ h => h) (Or.inl ⟨by rfl, ?_⟩) ?_ ?_
  rotate_left
  · intro w'
    go_simp
    with_reducible rfl
  rotate_left
  · simp only [Act.put, List.setIfInBounds_toArray, List.set_cons_zero, List.set_cons_succ, i64_w, i32_w]
    rfl
  refine take_ (i := 3) (N := some 9) (v := ?_) (a' := ?_) #[true, true, true, true, true, true, true, false, false, false] rfl rfl (by kernel_rfl) (fun _ _ _ h => h) (Or.inl ⟨by rfl, ?_⟩) hHeld ?_ ?_
  rotate_left
  · rintro w' ⟨s0, s1, s2⟩
    go_simp
    with_reducible rfl
  rotate_left
  · simp only [Act.put, List.setIfInBounds_toArray, List.set_cons_zero, List.set_cons_succ, i64_w, i32_w]
    rfl
  refine take_ (i := 7) (N := some 13) (v := ?_) (a' := ?_) #[true, true, true, true, true, true, true, true, false, false] rfl rfl (by kernel_rfl) (fun _ _ _ h => h) (Or.inl ⟨by rfl, ?_⟩) hHeld ?_ ?_
  rotate_left
  · rintro w' ⟨s0, s1, s2⟩
    go_simp
    with_reducible rfl
  rotate_left
  · simp only [Act.put, List.setIfInBounds_toArray, List.set_cons_zero, List.set_cons_succ, i64_w, i32_w]
    rfl
  refine pure_ (i := 8) (N := some 14) (v := ?_) (a' := ?_) #[true, true, true, true, true, true, true, true, true, false] rfl rfl (by kernel_rfl) (fun _ _ _ h => h) (Or.inl ⟨by rfl, ?_⟩) ?_ ?_
  rotate_left
  · intro w'
    go_simp
    with_reducible rfl
  rotate_left
  · simp only [Act.put, List.setIfInBounds_toArray, List.set_cons_zero, List.set_cons_succ, i64_w, i32_w]
    rfl
  refine last_ (i := 9) (N := none) #[true, true, true, true, true, true, true, true, true, true] rfl rfl (by kernel_rfl) (by decide) (fun K hK => ?_)
  refine store_row_ (by rfl) rfl 45 (.tmp 2) (.tmp 14) rfl w.heap.size (trkCells s true true) ?s1 ?s2 45 (trkCells ⟨#[]⟩ false false) ?sg ?si ?s3 ?s4 ?_
  case s1 => rfl
  case s2 => rfl
  case sg => exact HX.out
  case si => rw [info45]; rfl
  case s3 => rfl
  case s4 => exact trkOne s true true
  refine hK.out _ _ ?_
  clear hK K
  refine done_ (by kernel_rfl) ?_
  generalize hA : World.setRow _ _ _ = W3
  have hx3 : W3.heap[w.heap.size]? = some (.cells (trkCells s true true) 45 (0, 0)) := by rw [← hA]; exact setRow_heap _ _ _ _ _ _ HX.out
  have hb3 : Below w.heap.size w W3 := by rw [← hA]; exact below_setRow (Below.drew HB.out) (Nat.le_refl _) _
  clear hA
  go_wp2
  (try simp only [Exit.inBlock, Exit.then])
  exact bodyPost_ret (results_cell_row rfl _ _ w.heap.size 45 (trkCells s true true) (0, 0) _ rfl hx3 Tryd.underlying45 rfl (by rw [info45]; rfl)) rfl ⟨rfl, hb3⟩
end Go.Proofs.YtckgmnpcnoanhaaDoor
