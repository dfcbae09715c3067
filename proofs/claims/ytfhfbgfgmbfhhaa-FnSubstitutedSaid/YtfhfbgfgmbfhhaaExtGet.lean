/- PathPlaceholders.Get and zzFits10, walked. -/
import Derived.Test.YtfhfbgfgmbfhhaaPFnSubstitutedx1
import Derived.WalkKit
import Derived.KernelRfl
import Derived.RegionTactic
import Derived.BigRegion
import Derived.LoopTactic
import Derived.Outline
import Derived.OwnWalk
import Derived.Lib.Hide
namespace Go.Proofs.Ytfhfbgfgmbfhhaa
open Go.RowKit Go.Proofs.YtfhfbgfgmbfhhaaW.PrintWords Go.Proofs.YtfhfbgfgmbfhhaaW.PrintMore Go.Proofs.Ytfhfbgfgmbfhhaa.PFnSubstituted
/-- Which of four a placeholder's number names. -/
def pick4 {α : Type} (d x1 x2 x3 x4 : α) (a : Int) : α := if a = 1 then x1 else if a = 2 then x2 else if a = 3 then x3 else if a = 4 then x4 else d
set_option maxHeartbeats 4000000 in
set_option maxRecDepth 100000 in
theorem Get.calls (p1 p2 p3 p4 : Option Addr) (a : Int) (w : World) :
    Calls Try.prog 10 #[.agg #[.pointer p1, .pointer p2, .pointer p3, .pointer p4], .int .u8 a] w fun e w' => e = .returned (.pointer (pick4 none p1 p2 p3 p4 a)) ∧ Below w.heap.size w w' := by
  unfold pick4
  by_cases h1 : a = 1
  · subst h1
    go_enter Try.func10, Try.ntmps10
    go_wp2
    go_ret
    exact ⟨rfl, below_alloc (Below.refl _ _) _⟩
  have b1 : (a == 1) = false := beq_eq_false_iff_ne.mpr h1
  rw [if_neg h1]
  by_cases h2 : a = 2
  · subst h2
    go_enter Try.func10, Try.ntmps10
    go_wp2
    go_ret
    exact ⟨rfl, below_alloc (Below.refl _ _) _⟩
  have b2 : (a == 2) = false := beq_eq_false_iff_ne.mpr h2
  rw [if_neg h2]
  by_cases h3 : a = 3
  · subst h3
    go_enter Try.func10, Try.ntmps10
    go_wp2
    go_ret
    exact ⟨rfl, below_alloc (Below.refl _ _) _⟩
  have b3 : (a == 3) = false := beq_eq_false_iff_ne.mpr h3
  rw [if_neg h3]
  by_cases h4 : a = 4
  · subst h4
    go_enter Try.func10, Try.ntmps10
    go_wp2
    go_ret
    exact ⟨rfl, below_alloc (Below.refl _ _) _⟩
  have b4 : (a == 4) = false := beq_eq_false_iff_ne.mpr h4
  rw [if_neg h4]
  go_enter Try.func10, Try.ntmps10
  go_wp2
  go_ret
  exact ⟨rfl, below_alloc (Below.refl _ _) _⟩
/-- Four texts of a length that Go's own bound lets in. -/
def fit4 (s0 s1 s2 s3 : ByteArray) : Bool := decide (s0.size ≤ 2147483647 ∧ s1.size ≤ 2147483647 ∧ s2.size ≤ 2147483647 ∧ s3.size ≤ 2147483647)
set_option maxHeartbeats 4000000 in
set_option maxRecDepth 100000 in
theorem Fits10.calls (s0 s1 s2 s3 : ByteArray) (w : World) :
    Calls Try.prog 5 #[.agg #[.string s0, .string s1, .string s2, .string s3]] w fun e w' => e = .returned (.bool (fit4 s0 s1 s2 s3)) ∧ Below w.heap.size w w' := by
  have i0 : ∀ w, (Instr.index 24 (.agg #[.string s0, .string s1, .string s2, .string s3]) (.int .i64 0)).run Try.prog w = .ok (.string s0) w := fun _ => by kernel_rfl
  have i1 : ∀ w, (Instr.index 24 (.agg #[.string s0, .string s1, .string s2, .string s3]) (.int .i64 1)).run Try.prog w = .ok (.string s1) w := fun _ => by kernel_rfl
  have i2 : ∀ w, (Instr.index 24 (.agg #[.string s0, .string s1, .string s2, .string s3]) (.int .i64 2)).run Try.prog w = .ok (.string s2) w := fun _ => by kernel_rfl
  have i3 : ∀ w, (Instr.index 24 (.agg #[.string s0, .string s1, .string s2, .string s3]) (.int .i64 3)).run Try.prog w = .ok (.string s3) w := fun _ => by kernel_rfl
  go_enter Try.func5, Try.ntmps5
  go_wp2
  generalize hW : w.alloc _ = W
  have HB := Lib.hid (show Below w.heap.size w W by rw [← hW]; exact below_alloc (Below.refl _ _) _)
  go_loopw [6] (fun v6 wr => ∃ (i : Int), v6 = .int .i64 i ∧ Hid (i = 0 ∨ i = 1 ∨ i = 2 ∨ i = 3 ∨ i = 4) ∧ Hid ((1 ≤ i → s0.size ≤ 2147483647) ∧ (2 ≤ i → s1.size ≤ 2147483647) ∧ (3 ≤ i → s2.size ≤ 2147483647) ∧ (4 ≤ i → s3.size ≤ 2147483647)) ∧ Hid (Below w.heap.size w wr)) (fun v6 _ => 4 - (intOf v6).toNat)
  case atStart => exact ⟨0, rfl, Lib.hid (.inl rfl), Lib.hid (by omega), HB⟩
  case round =>
    clear HB
    obtain ⟨i, rfl, HI, HF, HB⟩ := hrel
    rcases HI.out with rfl | rfl | rfl | rfl | rfl
    · by_cases h : s0.size ≤ 2147483647
      · have d : decide ((2147483647 : Int) < (s0.size : Int)) = false := decide_eq_false (by omega)
        have HN : Hid ((1 ≤ (1 : Int) → s0.size ≤ 2147483647) ∧ (2 ≤ (1 : Int) → s1.size ≤ 2147483647) ∧ (3 ≤ (1 : Int) → s2.size ≤ 2147483647) ∧ (4 ≤ (1 : Int) → s3.size ≤ 2147483647)) := Lib.hid (by have := HF.out; omega)
        clear HF h HI
        go_wp2
        go_roundw
        case rel => exact ⟨1, rfl, Lib.hid (by decide), HN, HB⟩
        case measure => simp [intOf]
      · have d : decide ((2147483647 : Int) < (s0.size : Int)) = true := decide_eq_true (by omega)
        have HE := Lib.hid (show fit4 s0 s1 s2 s3 = false from decide_eq_false (by omega))
        clear HF h HI
        go_wp2
        go_ret
        exact ⟨by rw [HE.out]; rfl, HB.out⟩
    · by_cases h : s1.size ≤ 2147483647
      · have d : decide ((2147483647 : Int) < (s1.size : Int)) = false := decide_eq_false (by omega)
        have HN : Hid ((1 ≤ (2 : Int) → s0.size ≤ 2147483647) ∧ (2 ≤ (2 : Int) → s1.size ≤ 2147483647) ∧ (3 ≤ (2 : Int) → s2.size ≤ 2147483647) ∧ (4 ≤ (2 : Int) → s3.size ≤ 2147483647)) := Lib.hid (by have := HF.out; omega)
        clear HF h HI
        go_wp2
        go_roundw
        case rel => exact ⟨2, rfl, Lib.hid (by decide), HN, HB⟩
        case measure => simp [intOf]
      · have d : decide ((2147483647 : Int) < (s1.size : Int)) = true := decide_eq_true (by omega)
        have HE := Lib.hid (show fit4 s0 s1 s2 s3 = false from decide_eq_false (by omega))
        clear HF h HI
        go_wp2
        go_ret
        exact ⟨by rw [HE.out]; rfl, HB.out⟩
    · by_cases h : s2.size ≤ 2147483647
      · have d : decide ((2147483647 : Int) < (s2.size : Int)) = false := decide_eq_false (by omega)
        have HN : Hid ((1 ≤ (3 : Int) → s0.size ≤ 2147483647) ∧ (2 ≤ (3 : Int) → s1.size ≤ 2147483647) ∧ (3 ≤ (3 : Int) → s2.size ≤ 2147483647) ∧ (4 ≤ (3 : Int) → s3.size ≤ 2147483647)) := Lib.hid (by have := HF.out; omega)
        clear HF h HI
        go_wp2
        go_roundw
        case rel => exact ⟨3, rfl, Lib.hid (by decide), HN, HB⟩
        case measure => simp [intOf]
      · have d : decide ((2147483647 : Int) < (s2.size : Int)) = true := decide_eq_true (by omega)
        have HE := Lib.hid (show fit4 s0 s1 s2 s3 = false from decide_eq_false (by omega))
        clear HF h HI
        go_wp2
        go_ret
        exact ⟨by rw [HE.out]; rfl, HB.out⟩
    · by_cases h : s3.size ≤ 2147483647
      · have d : decide ((2147483647 : Int) < (s3.size : Int)) = false := decide_eq_false (by omega)
        have HN : Hid ((1 ≤ (4 : Int) → s0.size ≤ 2147483647) ∧ (2 ≤ (4 : Int) → s1.size ≤ 2147483647) ∧ (3 ≤ (4 : Int) → s2.size ≤ 2147483647) ∧ (4 ≤ (4 : Int) → s3.size ≤ 2147483647)) := Lib.hid (by have := HF.out; omega)
        clear HF h HI
        go_wp2
        go_roundw
        case rel => exact ⟨4, rfl, Lib.hid (by decide), HN, HB⟩
        case measure => simp [intOf]
      · have d : decide ((2147483647 : Int) < (s3.size : Int)) = true := decide_eq_true (by omega)
        have HE := Lib.hid (show fit4 s0 s1 s2 s3 = false from decide_eq_false (by omega))
        clear HF h HI
        go_wp2
        go_ret
        exact ⟨by rw [HE.out]; rfl, HB.out⟩
    · have HE := Lib.hid (show fit4 s0 s1 s2 s3 = true from decide_eq_true (by have := HF.out; omega))
      clear HF HI
      go_wp2
      go_ret
      exact ⟨by rw [HE.out]; rfl, HB.out⟩
end Go.Proofs.Ytfhfbgfgmbfhhaa
