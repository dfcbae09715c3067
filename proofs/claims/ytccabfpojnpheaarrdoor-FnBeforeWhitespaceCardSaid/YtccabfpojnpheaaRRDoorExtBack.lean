/- The contract of impl.BeforeWhitespace: the place before the blanks, tabs and line ends that stand before a place. -/
import Derived.Test.YtccabfpojnpheaaRRDoorExtLoc
import Derived.Laws.CopyOwn
namespace Go.Proofs.YtccabfpojnpheaaRRDoor
open Go.RowKit Go.Proofs.YtccabfpojnpheaaRRDoorW.PrintWords Go.Proofs.YtccabfpojnpheaaRRDoor.Pwithin

def impl_BeforeWhitespace.f (a0 : ByteArray) (a1 : Int) : Option Int := if a0.size ≤ 2147483647 then some (if 0 ≤ a1 ∧ a1 ≤ (a0.size : Int) then (back a0 a1.toNat : Int) else -1) else none

theorem within_true (s : ByteArray) (n : Int) (hs : s.size ≤ 2147483647) (h : 0 ≤ n ∧ n ≤ (s.size : Int)) : impl_within.f s n 0 = some true := by
  unfold impl_within.f
  rw [if_pos h.1, if_pos h.2, if_pos (by omega), decide_eq_true]
  unfold wrap64; omega
theorem within_false (s : ByteArray) (n : Int) (h : ¬ (0 ≤ n ∧ n ≤ (s.size : Int))) : impl_within.f s n 0 = some false := by
  unfold impl_within.f
  by_cases h0 : n ≥ 0
  · rw [if_pos h0, if_neg (by omega)]
  · rw [if_neg h0]
theorem info84 : (Tryd.prog.info? 84).map (·.size) = some 10 := by kernel_rfl
def srcCells (s : ByteArray) : Array Value := #[.string ⟨#[]⟩, .string ⟨#[]⟩, .string ⟨#[]⟩, .string s, .string ⟨#[]⟩, .string ⟨#[]⟩, .string ⟨#[]⟩, .string ⟨#[]⟩, .int .u8 0, .int .u32 0]

theorem field86 (k : Int) (w : World) : (Instr.field 86 (.agg #[.int .i32 k]) 0).run Tryd.prog w = .ok (.int .i32 k) w := by kernel_rfl
theorem back_le (s : ByteArray) : ∀ n : Nat, back s n ≤ n
  | 0 => Nat.le_refl _
  | n + 1 => by
    unfold back
    split
    · exact Nat.le_succ_of_le (back_le s n)
    · exact Nat.le_refl _
theorem srcOne (s : ByteArray) : (srcCells s).all (·.oneCell') = true := by
  simp [srcCells, Value.oneCell']
set_option maxHeartbeats 1000000 in
set_option maxRecDepth 100000 in
theorem impl_BeforeWhitespace.calls (a0 : ByteArray) (a1 : Int) (r : Int) (w : World) (hT : GTab w) (h : impl_BeforeWhitespace.f a0 a1 = some r) :
    Calls Tryd.prog 13 #[.string a0, .int .i64 a1] w fun e w' => e = .returned (.int .i64 r) ∧ Below w.heap.size w w' := by
  unfold impl_BeforeWhitespace.f at h
  by_cases hs : a0.size ≤ 2147483647
  case neg => rw [if_neg hs] at h; cases h
  rw [if_pos hs] at h
  have h := Option.some.inj h
  have HT := Lib.hid hT
  clear hT
  by_cases hn : 0 ≤ a1 ∧ a1 ≤ (a0.size : Int)
  · rw [if_pos hn] at h
    obtain ⟨n, rfl⟩ : ∃ n : Nat, a1 = (n : Int) := ⟨a1.toNat, by omega⟩
    rw [Int.toNat_natCast] at h
    subst h
    have H1 := Lib.hid (within_true a0 n hs hn)
    obtain ⟨hn0, hn1⟩ := hn
    have hn2 : n ≤ a0.size := by omega
    go_enter Tryd.func13, Tryd.ntmps13
    go_wp2_with (first
      | (go_at_call 30; (with_reducible refine (impl_within.calls a0 n 0 true _ H1.out).mono ?_); rintro e w' ⟨rfl, ⟨nd, rfl⟩⟩)
      | (refine wpList_store_row rfl 84 (.tmp 5) (.tmp 11) rfl w.heap.size (srcCells a0) ?s1 ?s2 84 (srcCells ⟨#[]⟩) ?sg ?si ?s3 ?s4 ?_
         (case s1 => rfl)
         (case s2 => rfl)
         (case sg => exact heap_alloc_new (w.drewN nd) _)
         (case si => rw [info84]; rfl)
         (case s3 => rfl)
         (case s4 => exact srcOne a0)
         have hrow := setRow_heap ((w.drewN nd).alloc (.cells (srcCells ⟨#[]⟩) 84)) w.heap.size _ (srcCells a0) _ _ (heap_alloc_new (w.drewN nd) (.cells (srcCells ⟨#[]⟩) 84))
         have HR := Lib.hid hrow
         clear hrow))
    have hrow := setRow_heap ((w.drewN nd).alloc (.cells (srcCells ⟨#[]⟩) 84)) w.heap.size _ (srcCells a0) _ _ (heap_alloc_new (w.drewN nd) (.cells (srcCells ⟨#[]⟩) 84))
    have h3 := cell_of_row _ _ 3 _ _ _ hrow
    have hB := below_setRow ((pw_below_drewN (Below.refl w.heap.size w) nd).alloc (Nat.le_refl _) (.cells (srcCells ⟨#[]⟩) 84)) (Nat.le_refl _) (srcCells a0)
    refine (loc_calls w.heap.size a0 n _ h3 hn2 hs (GTab.below HT.out hB)).mono ?_
    rintro e w2 ⟨rfl, hb2⟩
    have hfd := field86
    have hw64 : wrap64 (back a0 n : Int) = (back a0 n : Int) := by have := back_le a0 n; unfold wrap64; omega
    go_wp2
    go_ret
    exact ⟨by rw [hw64]; rfl, hB.trans (hb2.mono (by simp [World.setRow]))⟩
  · rw [if_neg hn] at h
    subst h
    have H1 := Lib.hid (within_false a0 a1 hn)
    go_enter Tryd.func13, Tryd.ntmps13
    go_wp2_with (go_at_call 30; (with_reducible refine (impl_within.calls a0 a1 0 false _ H1.out).mono ?_); rintro e w' ⟨rfl, ⟨nd, rfl⟩⟩)
    go_ret
    exact ⟨rfl, pw_below_drewN (Below.refl _ _) _⟩
end Go.Proofs.YtccabfpojnpheaaRRDoor
