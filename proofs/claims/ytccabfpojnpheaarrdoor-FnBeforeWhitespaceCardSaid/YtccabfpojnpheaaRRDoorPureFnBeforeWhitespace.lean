/- The plain law of FnBeforeWhitespace. -/
import Derived.Test.YtccabfpojnpheaaRRDoorPFnBeforeWhitespacex1
import Derived.KernelRfl
import Derived.Laws.BitsLemmas
import Derived.Laws.RangeAny
namespace Go.Proofs.YtccabfpojnpheaaRRDoor.Pure
open Go Go.RowKit  Go.Proofs.YtccabfpojnpheaaRRDoor.PFnBeforeWhitespace Go.Proofs.YtccabfpojnpheaaRRDoorW.PrintWords Go.Proofs.YtccabfpojnpheaaRRDoorW.PrintLast

theorem w64 {x : Int} (h0 : 0 ≤ x) (h1 : x < 9223372036854775808) : wrap64 x = x := by unfold wrap64; omega
theorem blank_tells (c : Int) : laws_blankByte.f c = some (isBlank c) := by
  unfold laws_blankByte.f isBlank
  by_cases h1 : c = 32
  · simp [h1]
  by_cases h2 : c = 9
  · simp [h2]
  by_cases h3 : c = 10
  · simp [h3]
  rw [if_neg h1, if_neg h2, if_neg h3]
  by_cases h4 : c = 13
  · simp [h4]
  · simp [h1, h2, h3, h4]
theorem back_stop (s : ByteArray) : ∀ n : Nat, 0 < back s n → isBlank (bt s ((back s n - 1 : Nat) : Int)) = false
  | 0, h => by simp [back] at h
  | n + 1, h => by
    unfold back at h ⊢
    split at h
    · rename_i hb
      rw [if_pos hb]
      exact back_stop s n h
    · rename_i hb
      rw [if_neg hb]
      simpa using hb
theorem back_blank (s : ByteArray) : ∀ n i : Nat, back s n ≤ i → i < n → isBlank (bt s (i : Int)) = true
  | 0, i, _, h => by omega
  | n + 1, i, h0, h1 => by
    unfold back at h0
    split at h0
    · rename_i hb
      by_cases e : i = n
      · rw [e]; exact hb
      · exact back_blank s n i h0 (by omega)
    · omega
theorem loop_tells (s : ByteArray) (b : Bool) (n : Nat) (hn : n ≤ s.size) (hs : s.size ≤ 2147483647) : ∀ d i : Nat, i + d = n → (∀ j : Nat, i ≤ j → j < n → isBlank (bt s (j : Int)) = true) → Ev (fun k => laws_FnBeforeWhitespace.l0 k s (n : Int) b (i : Int)) b
  | 0, i, hi, _ => by
    refine Ev.step (fun k => ?_) (Ev.now _)
    simp only [laws_FnBeforeWhitespace.l0]
    rw [if_neg (by omega)]
  | d + 1, i, hi, hb => by
    have ih := loop_tells s b n hn hs d (i + 1) (by omega) (fun j h1 h2 => hb j (by omega) h2)
    refine Ev.step (fun k => ?_) ih
    simp only [laws_FnBeforeWhitespace.l0]
    rw [if_pos (by omega), if_pos (by omega), if_pos (by omega), blank_tells, hb i (Nat.le_refl _) (by omega), w64 (by omega) (by omega)]
    rfl

/-- THE ONE PURE STATEMENT. -/
theorem FnBeforeWhitespace : laws_FnBeforeWhitespace.Pure := by
  intro s loc _ _
  by_cases hbig : (s.size : Int) > 2147483647
  · exact ⟨0, by unfold laws_FnBeforeWhitespace.f; rw [if_pos hbig]⟩
  have hawake : impl_BeforeWhitespace.f (⟨#[97, 32, 32]⟩ : ByteArray) 3 = some 1 := by kernel_rfl
  have e1 : ((1 : Int) == 1) = true := by decide
  have hall : Ev (fun k => laws_FnBeforeWhitespace.f k s loc) true := by
    unfold laws_FnBeforeWhitespace.f
    simp only [if_neg hbig, hawake, Option.bind_some, e1]
    by_cases h1 : (s.size : Int) > 4096
    · simp only [if_pos h1]
      refine Ev.step (fun k => ?_) (Ev.now _)
      simp only [laws_FnBeforeWhitespace.j0]
      rfl
    simp only [if_neg h1]
    by_cases h2 : loc < 0
    · simp only [if_pos h2]
      refine Ev.step (fun k => ?_) (Ev.now _)
      simp only [laws_FnBeforeWhitespace.j0]
      rfl
    simp only [if_neg h2]
    by_cases h3 : loc > (s.size : Int)
    · simp only [decide_eq_true h3]
      refine Ev.step (fun k => ?_) (Ev.now _)
      simp only [laws_FnBeforeWhitespace.j0]
      rfl
    simp only [decide_eq_false h3]
    obtain ⟨n, rfl⟩ : ∃ n : Nat, loc = (n : Int) := ⟨loc.toNat, by omega⟩
    have hf : impl_BeforeWhitespace.f s (n : Int) = some (back s n : Int) := by
      unfold impl_BeforeWhitespace.f
      rw [if_pos (by omega), if_pos (by omega)]
      rfl
    have hle := back_le s n
    have hl := loop_tells s true n (by omega) (by omega) (n - back s n) (back s n) (by omega) (fun j h4 h5 => back_blank s n j h4 h5)
    have hj1 : Ev (fun k => laws_FnBeforeWhitespace.j1 k s (n : Int) true (back s n : Int) false) true := by
      refine Ev.step (fun k => ?_) hl
      simp only [laws_FnBeforeWhitespace.j1]
      rfl
    refine Ev.step (fun k => ?_) hj1
    simp only [laws_FnBeforeWhitespace.j0, hf, Option.bind_some]
    rw [if_neg (by decide), if_neg (by omega), if_neg (by omega)]
    by_cases h0 : 0 < back s n
    · have hst := back_stop s n h0
      have e2 : wrap64 ((back s n : Int) - 1) = ((back s n - 1 : Nat) : Int) := by rw [w64 (by omega) (by omega)]; omega
      rw [if_pos (by omega), e2, if_pos (by omega), if_pos (by omega), blank_tells, hst]
      rfl
    · rw [if_neg (by omega)]
  exact hall.rounds

end Go.Proofs.YtccabfpojnpheaaRRDoor.Pure
