/- A text that has no prefix 0x, 0o, 0b: basedText, walked; of the others nothing is claimed. -/
import Derived.Test.YtheichpmhfledaaDoorWWords
import Derived.Test.YtheichpmhfledaaDoorWMore
import Derived.Laws.FloatArith
import Derived.Laws.Cover2
import Derived.Laws.Cover3
import Derived.Lib.Hide
import Derived.Test.YtheichpmhfledaaDoorProg
import Derived.WalkKit
import Derived.KernelRfl
import Derived.RegionTactic
import Derived.BigRegion
import Derived.BigQuiet
import Derived.LoopTactic
import Derived.Outline
import Derived.OwnWalk
import Derived.Deep.RegionLaw
set_option linter.unusedVariables false
namespace Go.Proofs.YtheichpmhfledaaDoor
open Go Go.RowKit Go.Proofs.YtheichpmhfledaaDoorW.PrintWords
def spec_basedText.f (a0 : ByteArray) : Option (Int × ByteArray) := if a0.size < 3 then some (0, ⟨#[]⟩) else if bt a0 0 = 48 then none else some (0, ⟨#[]⟩)
set_option maxHeartbeats 4000000 in
set_option maxRecDepth 100000 in
theorem spec_basedText.calls (a0 : ByteArray) (r1 : Int) (r2 : ByteArray) (w : World) (h : spec_basedText.f a0 = some (r1, r2)) :
    Calls Tryd.prog 30 #[.string a0] w fun e w' => e = .returned (.tuple #[.int .i64 r1, .string r2]) ∧ Drawn0 w w' := by
  unfold spec_basedText.f at h
  by_cases hs : a0.size < 3
  · rw [if_pos hs] at h
    obtain ⟨rfl, rfl⟩ := Prod.mk.inj (Option.some.inj h)
    have d1 : decide ((a0.size : Int) < 3) = true := decide_eq_true (by omega)
    clear h hs
    go_enter Tryd.func30, Tryd.ntmps30
    go_wp2
    exact bodyPost_ret (results_tmp2 rfl _ _ _) rfl ⟨rfl, Drawn0.refl _⟩
  · rw [if_neg hs] at h
    by_cases hb : bt a0 0 = 48
    · rw [if_pos hb] at h
      cases h
    · rw [if_neg hb] at h
      obtain ⟨rfl, rfl⟩ := Prod.mk.inj (Option.some.inj h)
      have d1 : decide ((a0.size : Int) < 3) = false := decide_eq_false (by omega)
      have h3 : 0 < a0.size := by omega
      have e3 : ((a0[0]'h3).toNat : Int) = bt a0 0 := bt_at a0 0 h3
      have d2 : (((a0[0]'h3).toNat : Int) != 48) = true := bne_iff_ne.mpr (by rw [e3]; exact hb)
      have p1 : (0 : Int) < (a0.size : Int) := by omega
      replace p1 := eq_true p1
      clear h hs hb e3
      go_enter Tryd.func30, Tryd.ntmps30
      go_wp2
      exact bodyPost_ret (results_tmp2 rfl _ _ _) rfl ⟨rfl, Drawn0.refl _⟩
end Go.Proofs.YtheichpmhfledaaDoor
