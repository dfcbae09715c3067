/- The builder and the four bytes beside it, while the pairs are packed. -/
import Derived.Test.YthepcahgipglcaaExtMap
set_option linter.unusedVariables false
namespace Go.Proofs.Ythepcahgipglcaa
open Go.RowKit Go.Maps Go.Sort Go.Proofs.YthepcahgipglcaaW.PrintWords Go.Proofs.YthepcahgipglcaaW.PrintLast
theorem put_grown (w : World) (g i : Nat) (u : Value) : w.grownBy (w.setCell ⟨g, i, none⟩ u) (some g) :=
  ⟨rfl, rfl, rfl, by simp [World.setCell], fun k hk hne => Below.heap_setCell _ _ _ _ (by simpa using fun e => hne (by rw [e]))⟩
theorem builder_kept {B b nb : Nat} {bs : List Value} {cs : Array Value} {w w' : World} (h : Lib.IsBuilderF 40 5 B b bs w) (hn : w.heap[nb]? = some (.cells cs 41 (0, 0))) (hnb : nb ≠ b) (hg : w.grownBy w' (some nb)) : Lib.IsBuilderF 40 5 B b bs w' := by
  rcases h with h | h
  · obtain ⟨hB, v, hb, hown, hne⟩ := h
    exact Or.inl ⟨hB, v, blk_grown hb hg (by simpa using fun e => hnb e.symm), hown.kept hg (Or.inr (Lib.ownBlock_neF hown hn (by decide))), hne⟩
  · obtain ⟨hB, v, hb, hown, hne⟩ := h
    exact Or.inr ⟨hB, v, blk_grown hb hg (by simpa using fun e => hnb e.symm), hown.kept hg (Or.inr (Lib.ownBlock_neF hown hn (by decide))), hne⟩
/-- The builder at b holds bs; the four bytes lie behind it. -/
def ES (w5 : World) (b : Nat) (bs : List Value) (w : World) : Prop :=
  Lib.IsBuilderF 40 5 b b bs w ∧ (∃ a0 a1 a2 a3, w.heap[b + 1]? = some (.cells #[a0, a1, a2, a3] 41 (0, 0))) ∧ Below b w5 w
theorem ES.drew {w5 w : World} {b : Nat} {bs : List Value} (h : ES w5 b bs w) : ES w5 b bs w.drew := ⟨h.1, h.2.1, h.2.2.drew⟩
theorem leBytes4 (v : Nat) : ∃ x0 x1 x2 x3, Lib.leBytes 4 v = [x0, x1, x2, x3] := ⟨_, _, _, _, rfl⟩
theorem ES.put {w5 w : World} {b : Nat} {bs : List Value} (h : ES w5 b bs w) (v : Nat) (o : Obj) :
    ES w5 b bs ((w.alloc o).setCells (b + 1) 0 (Lib.byteCells (Lib.leBytes 4 v))) ∧ ((w.alloc o).setCells (b + 1) 0 (Lib.byteCells (Lib.leBytes 4 v))).heap[b + 1]? = some (.cells (Lib.byteCells (Lib.leBytes 4 v)).toArray 41 (0, 0)) := by
  obtain ⟨h1, ⟨a0, a1, a2, a3, h2⟩, h3⟩ := h
  obtain ⟨x0, x1, x2, x3, e⟩ := leBytes4 v
  rw [e]
  have hlt : b < w.heap.size := by
    rcases h1 with h | h
    · exact h.lt
    · exact h.lt
  have k0 : (w.alloc o).heap[b + 1]? = some (.cells #[a0, a1, a2, a3] 41 (0, 0)) := blk_alloc h2 o
  have g0 : Lib.IsBuilderF 40 5 b b bs (w.alloc o) := Lib.IsBuilderF.alloc h1 o
  have q0 : Below b w5 (w.alloc o) := h3.alloc (by omega) o
  simp only [Lib.byteCells, List.map_cons, List.map_nil, World.setCells]
  have k1 := blk_put k0 0 (.int .u8 x0.toNat) rfl
  have g1 := builder_kept g0 k0 (by omega) (put_grown _ _ 0 (.int .u8 x0.toNat))
  have q1 := q0.setCell (p := ⟨b + 1, 0, none⟩) (by show b ≤ b + 1; omega) (.int .u8 x0.toNat)
  have k2 := blk_put k1 1 (.int .u8 x1.toNat) rfl
  have g2 := builder_kept g1 k1 (by omega) (put_grown _ _ 1 (.int .u8 x1.toNat))
  have q2 := q1.setCell (p := ⟨b + 1, 1, none⟩) (by show b ≤ b + 1; omega) (.int .u8 x1.toNat)
  have k3 := blk_put k2 2 (.int .u8 x2.toNat) rfl
  have g3 := builder_kept g2 k2 (by omega) (put_grown _ _ 2 (.int .u8 x2.toNat))
  have q3 := q2.setCell (p := ⟨b + 1, 2, none⟩) (by show b ≤ b + 1; omega) (.int .u8 x2.toNat)
  have k4 := blk_put k3 3 (.int .u8 x3.toNat) rfl
  have g4 := builder_kept g3 k3 (by omega) (put_grown _ _ 3 (.int .u8 x3.toNat))
  have q4 := q3.setCell (p := ⟨b + 1, 3, none⟩) (by show b ≤ b + 1; omega) (.int .u8 x3.toNat)
  exact ⟨⟨g4, ⟨_, _, _, _, k4⟩, q4⟩, k4⟩
/-- The number is laid down. -/
theorem Put.calls {w5 w : World} {b : Nat} {bs : List Value} (h : ES w5 b bs w) (v : Nat) (hv : v < 4294967296) :
    Calls Try.prog 10 #[.agg #[], .slice (some ⟨b + 1, 0, none⟩) 4 4, .int .u32 v] w fun e w' => e = .returned (.tuple #[]) ∧ (ES w5 b bs w' ∧ w'.heap[b + 1]? = some (.cells (Lib.byteCells (Lib.leBytes 4 v)).toArray 41 (0, 0))) := by
  obtain ⟨a0, a1, a2, a3, h2⟩ := h.2.1
  refine (Try.binary_LE_PutUint32 (b + 1) 0 4 4 v hv a0 a1 a2 a3 w (by decide) (blk_cell h2 0) (blk_cell h2 1) (blk_cell h2 2) (blk_cell h2 3) (blk_frozen h2 0) (blk_frozen h2 1) (blk_frozen h2 2) (blk_frozen h2 3)).mono ?_
  rintro e w' ⟨rfl, rfl⟩
  exact ⟨rfl, h.put v _⟩
theorem kept41 {w w' : World} {b : Nat} {cs : Array Value} (hk : Lib.OthersKept 5 (some b) w w') (h : w.heap[b + 1]? = some (.cells cs 41 (0, 0))) : w'.heap[b + 1]? = some (.cells cs 41 (0, 0)) :=
  hk _ _ h (by simp) (fun c fz e => by injection e with _ e2 _; exact absurd e2 (by decide))
/-- .. and written. -/
theorem Wrote.calls {w5 w : World} {b v : Nat} {bs : List Value} (h : ES w5 b bs w) (hn : w.heap[b + 1]? = some (.cells (Lib.byteCells (Lib.leBytes 4 v)).toArray 41 (0, 0))) (hlen : bs.length + 4 ≤ 140737488355328) :
    Calls Try.prog 11 #[.pointer (some ⟨b, 0, none⟩), .slice (some ⟨b + 1, 0, none⟩) 4 4] w fun e w' => e = .returned (.tuple #[.int .i64 4, .nilIface]) ∧ ES w5 b (bs ++ Lib.byteCells (Lib.leBytes 4 v)) w' := by
  have hlt : b < w.heap.size := Nat.lt_of_succ_lt (blk_lt hn)
  refine (Write_k b b bs ⟨b + 1, 0, none⟩ 4 4 (Lib.byteCells (Lib.leBytes 4 v)) w h.1 (by rw [Lib.byteCells_length, leBytes_length]) (fun j u hj => ?_) (by show b + 1 ≠ b; omega) (fun u hu => ?_) hlen (by omega)).mono ?_
  · have e : (⟨b + 1, 0, none⟩ : Addr).add j = ⟨b + 1, j, none⟩ := by simp [Addr.add]; exact fun h => h.symm
    rw [e, blk_cell hn, ← hj]
    simp
  · obtain ⟨x, _, rfl⟩ := List.mem_map.1 hu
    rfl
  · rintro e w' ⟨rfl, h1, h2, h3⟩
    refine ⟨rfl, Or.inr h1, ?_, h.2.2.trans (h2.mono (Nat.le_refl _))⟩
    obtain ⟨x0, x1, x2, x3, e⟩ := leBytes4 v
    have := kept41 h3 hn
    rw [e] at this
    exact ⟨_, _, _, _, this⟩
/-- A text is written. -/
theorem WroteS.calls {w5 w : World} {b : Nat} {bs : List Value} (h : ES w5 b bs w) (s : ByteArray) (hlen : bs.length + s.size ≤ 140737488355328) :
    Calls Try.prog 12 #[.pointer (some ⟨b, 0, none⟩), .string s] w fun e w' => e = .returned (.tuple #[.int .i64 s.size, .nilIface]) ∧ ES w5 b (bs ++ Lib.byteCells s.data.toList) w' := by
  obtain ⟨a0, a1, a2, a3, h2⟩ := h.2.1
  have hlt : b < w.heap.size := Nat.lt_of_succ_lt (blk_lt h2)
  refine (WriteString_k b b bs s w h.1 hlen (by omega)).mono ?_
  rintro e w' ⟨rfl, k1, k2, k3⟩
  exact ⟨rfl, Or.inr k1, ⟨_, _, _, _, kept41 k3 h2⟩, h.2.2.trans k2⟩
end Go.Proofs.Ythepcahgipglcaa
