/- sort.Sort, walked. -/
import Derived.Test.YtlbamdlegloieaaDoorExtPdq
set_option linter.unusedVariables false
set_option linter.unusedSimpArgs false
namespace Go.Proofs.YtlbamdlegloieaaDoor
open Go Go.RowKit Go.Proofs.YtlbamdlegloieaaDoorW.PrintWords Go.Proofs.YtlbamdlegloieaaDoorW.PrintLast
theorem sortE : Sort.sort_stmt ltE := Sort.sort_holds pdqE
set_option maxHeartbeats 4000000 in
set_option maxRecDepth 100000 in
theorem SortAll.calls (w0 w : World) (g : Nat) (d : Array El) (h : SS w0 g d w) :
    Calls Tryd.prog 16 #[.iface 45 (.slice (some ⟨g, 0, none⟩) 64 64)] w fun e w' => e = .returned (.tuple #[]) ∧ SS w0 g (Sort.sort ltE d) w' := by
  have hsz := h.size
  have e7 : Go.Sort.bitsLen 64 = 7 := by decide +kernel
  have HLen := Lib.hid (fun wz => Len.calls wz g)
  have HB := BitsLen.calls w 64 (by omega)
  rw [e7] at HB
  have HBL := Lib.hid (show Calls Tryd.prog 20 #[.int .u64 64] w fun e w' => e = .returned (.int .i64 7) ∧ w' = w from HB)
  have HP := Lib.hid (show Calls Tryd.prog 21 #[.iface 45 (.slice (some ⟨g, 0, none⟩) 64 64), .int .i64 0, .int .i64 64, .int .i64 7] w fun e w' => e = .returned (.tuple #[]) ∧ SS w0 g (Go.Sort.pdq ltE d 0 64 7 true true) w' from Pdq.calls w0 g 65 0 64 7 d w (by omega) (by omega) (by omega) (by omega) (Or.inl rfl) h)
  have HE := Lib.hid (show Go.Sort.sort ltE d = Go.Sort.pdq ltE d 0 64 7 true true by unfold Go.Sort.sort; rw [hsz, e7])
  clear hsz h HB e7
  go_enter Tryd.func16, Tryd.ntmps16
  go_wp2_with (first | (go_at_call 57; (with_reducible refine (HLen.out _).mono ?_); rintro e w9 ⟨rfl, rfl⟩) | (go_at_call 20; (with_reducible refine HBL.out.mono ?_); rintro e w9 ⟨rfl, rfl⟩) | (go_at_call 21; (with_reducible refine HP.out.mono ?_); rintro e w9 ⟨rfl, hs⟩; have HZ := Lib.hid hs; clear hs))
  refine bodyPost_end (results_none rfl _ _ _) rfl ⟨rfl, ?_⟩
  rw [HE.out]
  exact HZ.out
end Go.Proofs.YtlbamdlegloieaaDoor
