/- The contract of impl.calm: a closure that returns is called, and true is told. -/
import Derived.Test.YtckgmnpcnoanhaaDoorProg
import Derived.WalkKit
import Derived.KernelRfl
import Derived.Defers
import Derived.Recover
import Derived.Lib.Hide
namespace Go.Proofs.YtckgmnpcnoanhaaDoor
open Go.RowKit

theorem calm_idle (p : Addr) (w : World) :
    CallsD Tryd.prog 15 #[.pointer (some p)] .returning w fun e u' w' => e = .returned (.tuple #[]) ∧ u' = .returning ∧ w' = w := by
  refine callsD_of_wpS Tryd.func15 rfl fun c₀ cs hu => ?_
  apply wpS_seq
  apply wpS_region
  simp [wpOpsS, go_sem, recoverD, hu, Tryd.ntmps15, Exit.thenS]
  refine wpS_cond (t := false) (by simp [Act.eval, Array.replicate]) ?_
  simp only [Bool.false_eq_true, if_false]
  refine wpS_of_wp (wp_skip ?_)
  cases c₀
  simp_all [bodyPostS, results, Tryd.results15]
theorem calm_calls (caps : Array Value) (P : World → Prop) (w : World)
    (hP : ∀ w', P w' → w'.heap[w.heap.size]? = some (.cells #[.bool false] 4 (0, 0)))
    (H : Calls Tryd.prog 11 caps (w.alloc (.cells #[.bool false] 4)) fun e w' => e = .returned (.tuple #[]) ∧ P w') :
    Calls Tryd.prog 10 #[.func (.func 11) #[] caps] w fun e w' => e = .returned (.bool true) ∧ ∃ w2, P w2 ∧ w' = w2.setCell ⟨w.heap.size, 0, none⟩ (.bool true) := by
  have hmf : ∀ (fn : Fn) (first cap : Array Value) (w : World), (Instr.makeFunc fn first cap).run Tryd.prog w = .ok (.func fn first cap) w := fun _ _ _ _ => rfl
  go_enter_defers Tryd.func10, Tryd.ntmps10
  go_wp2_with (first | (go_at_call 11; (with_reducible refine H.mono ?_); rintro e w2 ⟨rfl, hp⟩; have z0 := cell_of_row _ _ 0 _ _ _ (hP _ hp); have f0 := frozen_of_row _ _ 0 _ _ (hP _ hp)))
  refine leaves_cons (f := 15) (args := #[.pointer (some ⟨w.heap.size, 0, none⟩)]) (by simp) (by simp [go_sem]) ?_
  refine (calm_idle ⟨w.heap.size, 0, none⟩ _).mono ?_
  rintro e u' w'' ⟨rfl, rfl, rfl⟩
  have r0 : (w2.setCell ⟨w.heap.size, 0, none⟩ (.bool true)).cell? ⟨w.heap.size, 0, none⟩ = some (.bool true) := by
    have h1 := heap_setCell_same w2 w.heap.size 0 _ _ (.bool true) (hP _ hp)
    exact (cell_of_row _ _ 0 _ _ _ h1).trans rfl
  simp [Leaves, settle, results, Tryd.results10, go_sem, r0]
  exact ⟨w2, hp, rfl⟩
end Go.Proofs.YtckgmnpcnoanhaaDoor
