/- xorshift.Next, walked. -/
import Derived.Test.YtlbamdlegloieaaDoorExtIns
import Derived.Sort.LotD5
import Derived.Sort.Row
import Derived.Laws.Bits64
set_option linter.unusedVariables false
set_option linter.unusedSimpArgs false
namespace Go.Proofs.YtlbamdlegloieaaDoor
open Go Go.RowKit Go.Proofs.YtlbamdlegloieaaDoorW.PrintWords Go.Proofs.YtlbamdlegloieaaDoorW.PrintLast
/-- The array, and the random number beside it. -/
def XW (w0 : World) (g : Nat) (d : Array El) (gs : Nat) (r : Nat) (w : World) : Prop := SS w0 g d w ∧ w.heap[gs]? = some (.cells #[.int .u64 (r : Int)] 73 (0, 0)) ∧ g < gs
theorem XW.put {w0 w : World} {g gs r : Nat} {d : Array El} (h : XW w0 g d gs r w) (r' : Nat) : XW w0 g d gs r' (w.setCell ⟨gs, 0, none⟩ (.int .u64 (r' : Int))) := by
  obtain ⟨⟨⟨T, cs, h1, h2⟩, h3, h4, h5⟩, h6, h7⟩ := h
  refine ⟨⟨⟨T, cs, ?_, h2⟩, h3.setCell (p := ⟨gs, 0, none⟩) (by show w0.heap.size ≤ gs; omega) _, h4, by simpa [World.setCell] using h5⟩, blk_put h6 0 _ rfl, h7⟩
  exact (Below.heap_setCell w ⟨gs, 0, none⟩ _ g (by show g ≠ gs; omega)).trans h1
/-- A store over a store into the same cell. -/
theorem put_put (w : World) (blk off : Nat) (v v' : Value) : (w.setCell ⟨blk, off, none⟩ v).setCell ⟨blk, off, none⟩ v' = w.setCell ⟨blk, off, none⟩ v' := by
  rw [Sort.setCell_eq, Sort.setCell_eq, Sort.mapBlock_mapBlock, Sort.setCell_eq]
  congr 1
  funext c
  simp
theorem XW.drewN {w0 w : World} {g gs r : Nat} {d : Array El} (h : XW w0 g d gs r w) (n : Nat) : XW w0 g d gs r (w.drewN n) := ⟨h.1.drew n, h.2.1, h.2.2⟩
set_option maxHeartbeats 4000000 in
set_option maxRecDepth 100000 in
theorem NextW.calls (gs X : Nat) (hX : X < 18446744073709551616) (w : World) (hc : w.cell? ⟨gs, 0, none⟩ = some (.int .u64 X)) (hf : w.frozen? ⟨gs, 0, none⟩ = false) :
    Calls Tryd.prog 35 #[.pointer (some ⟨gs, 0, none⟩)] w fun e w' => e = .returned (.int .u64 (Sort.xorNextN X : Nat)) ∧ w' = (w.setCell ⟨gs, 0, none⟩ (.int .u64 (Sort.xorNextN X : Nat))).drewN 3 := by
  obtain ⟨A, hA⟩ : ∃ A : Nat, A = X ^^^ (X * 8192 % 18446744073709551616) := ⟨_, rfl⟩
  obtain ⟨B, hB⟩ : ∃ B : Nat, B = A ^^^ (A / 128) := ⟨_, rfl⟩
  obtain ⟨C, hC⟩ : ∃ C : Nat, C = B ^^^ (B * 131072 % 18446744073709551616) := ⟨_, rfl⟩
  have lA : A < 18446744073709551616 := by rw [hA]; exact Nat.xor_lt_two_pow (n := 64) (by omega) (by omega)
  have lB : B < 18446744073709551616 := by rw [hB]; exact Nat.xor_lt_two_pow (n := 64) (by omega) (by omega)
  have e1 : bits .xor .u64 (X : Int) (IntKind.u64.wrap ((X : Int) * 8192)) = (A : Int) := by
    rw [IntKind.wrap_u64, show ((X : Int) * 8192 % 18446744073709551616) = ((X * 8192 % 18446744073709551616 : Nat) : Int) by omega, bits_xor_u64_nat _ _ hX (by omega), hA]
  have e2 : bits .xor .u64 (A : Int) ((A : Int) / 128) = (B : Int) := by
    rw [show ((A : Int) / 128) = ((A / 128 : Nat) : Int) by omega, bits_xor_u64_nat _ _ lA (by omega), hB]
  have e3 : bits .xor .u64 (B : Int) (IntKind.u64.wrap ((B : Int) * 131072)) = (C : Int) := by
    rw [IntKind.wrap_u64, show ((B : Int) * 131072 % 18446744073709551616) = ((B * 131072 % 18446744073709551616 : Nat) : Int) by omega, bits_xor_u64_nat _ _ lB (by omega), hC]
  have hv : Sort.xorNextN X = C := by unfold Sort.xorNextN; simp only []; rw [← hA, ← hB, ← hC]
  rw [hv]
  clear hA hB hC hv
  have hss : ∀ v v', (w.setCell ⟨gs, 0, none⟩ v).setCell ⟨gs, 0, none⟩ v' = w.setCell ⟨gs, 0, none⟩ v' := put_put w gs 0
  go_enter Tryd.func35, Tryd.ntmps35
  go_wp2
  go_region
  all_goals go_wp2
  all_goals go_region
  all_goals go_wp2
  all_goals go_region
  all_goals go_wp2
  go_ret
  exact ⟨rfl, rfl⟩
theorem Next.calls (w0 w : World) (g gs r : Nat) (d : Array El) (hr : r < 18446744073709551616) (h : XW w0 g d gs r w) :
    Calls Tryd.prog 35 #[.pointer (some ⟨gs, 0, none⟩)] w fun e w' => e = .returned (.int .u64 (Sort.xorNextN r : Int)) ∧ XW w0 g d gs (Sort.xorNextN r) w' :=
  (NextW.calls gs r hr w ((blk_cell h.2.1 0).trans rfl) (blk_frozen h.2.1 0)).mono fun e w' ⟨he, hw⟩ => ⟨he, hw ▸ (h.put _).drewN 3⟩
end Go.Proofs.YtlbamdlegloieaaDoor
