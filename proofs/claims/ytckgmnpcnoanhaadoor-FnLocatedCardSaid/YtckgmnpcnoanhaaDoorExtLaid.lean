/- What the card of FnLocated needs: the two tables of package utf8 as they are laid; a world for the witness; a slice of pairs that came in, read. -/
import Derived.Test.YtckgmnpcnoanhaaDoorRows
import Derived.Test.YtckgmnpcnoanhaaDoorExtLaw
import Derived.Lib.LaidU8T
import Derived.PinnedBridge
import Derived.KernelRfl
import Derived.Lib.LaidTab
import Derived.Lib.SmallJoins
import Derived.Deep.Slices
import Derived.Deep.DeepHandedRow
set_option linter.unusedVariables false
namespace Go.Proofs.YtckgmnpcnoanhaaDoor
open Go.RowKit Go.Lib Go.ChangeShapes Go.WideShapes Go.Proofs.YtckgmnpcnoanhaaDoorW.PrintWords Go.Proofs.YtckgmnpcnoanhaaDoor.PFnLocated
theorem laidOut : laidOutB Tryd.prog = true := by kernel_rfl
set_option maxRecDepth 100000 in
theorem accept_eq : (Rows.laid_unicode_utf8_acceptRanges : DataW Unit) = acceptData := by kernel_rfl
theorem gtab_fnLocated {W : World} (h : laidMet Tryd.prog Rows.fnLocatedRow.laid W) : GTab W := by
  have h1 : VarReads Tryd.prog W "unicode/utf8.acceptRanges" acceptData := accept_eq ▸ laidMet.reads h (.head _)
  have h2 : VarReads Tryd.prog W "unicode/utf8.first" firstData := Pinned.utf8First_eq ▸ (laidMet.reads h (.tail _ (.head _)) : VarReads Tryd.prog W "unicode/utf8.first" Rows.laid_unicode_utf8_first)
  exact utf8Tabs_of_readsT (ρ := Tryd.lays271_ren) { Tryd.lays271 with } ⟨by kernel_rfl, by kernel_rfl, by kernel_rfl, by kernel_rfl, by kernel_rfl, by kernel_rfl, by kernel_rfl⟩ h2 h1
/-- A WORLD FOR THE WITNESS: the settled one, the tables holding what their initialisers lay. -/
noncomputable def laidWorld (os : Os) : World :=
  let w0 := World.holding Tryd.prog os ⟨#[], #[], []⟩
  let put (h : Array Obj) (g : Nat) (cs : Array Value) : Array Obj := h.modify g fun
    | .cells _ t frozen => .cells cs t frozen
    | o => o
  let h1 := put w0.heap 0 (Lib.firstTab.map fun z => Value.int .u8 z).toArray
  let h2 := put h1 1 ((List.range 16).flatMap fun i => [Value.int .u8 (Lib.accLo i), Value.int .u8 (Lib.accHi i)]).toArray
  { w0 with heap := h2 }
theorem read26 {H : Type} {enc : TypeId × Value → H} {w : World} {base : Nat} {sp : Nat → Bool} {held : Bool} {n : Nat} {cs : List Value} {y : DataW H × List MemPlace} (h : DataW.trod enc Tryd.prog w base sp held n 26 cs = some y) : ∃ x : Int × Int, cs = encP x := by
  cases n with
  | zero => simp [DataW.trod] at h
  | succ m =>
    rw [DataW.trod_step] at h
    unfold DataW.trodStep at h
    have hc26 : Tryd.prog.cellsOf 26 = 2 := by kernel_rfl
    have hc3 : Tryd.prog.cellsOf 3 = 1 := by kernel_rfl
    simp only [Tryd.underlying26] at h
    split at h
    · rename_i hl
      rw [hc26] at hl
      match cs, hl with
      | [v0, v1], _ =>
        simp only [Option.map_eq_some_iff] at h
        obtain ⟨ys, hy, e1⟩ := h
        have hr : List.range 2 = [0, 1] := rfl
        rw [hr, hc3] at hy
        simp only [List.mapM_cons, List.mapM_nil, bind, Option.bind_eq_some_iff, pure, Option.some.injEq] at hy
        obtain ⟨y0, h0, _, ⟨y1, h1, _⟩, _⟩ := hy
        have g0 : DataW.trod enc Tryd.prog w base sp held m 3 [v0] = some y0 := h0
        have g1 : DataW.trod enc Tryd.prog w base sp held m 3 [v1] = some y1 := h1
        obtain ⟨s0, c0, _⟩ := DataW.trod_int Tryd.underlying3 g0
        obtain ⟨s1, c1, _⟩ := DataW.trod_int Tryd.underlying3 g1
        cases c0
        cases c1
        exact ⟨(s0, s1), rfl⟩
    · cases h
theorem rowsP {H : Type} {enc : TypeId × Value → H} {W : World} {a0 : Option Addr} {len0 cap0 : Nat} {d : DataW H} {ps : List MemPlace} (h : DataW.Trod enc Tryd.prog W 0 (fun _ => true) true 22 (.slice a0 len0 cap0) d ps) :
    ∃ zs : List (Int × Int), zs.length = len0 ∧ Kd.C kP W a0 zs.length zs ∧ len0 ≤ cap0 := by
  obtain ⟨fuel, hf⟩ := h
  rcases Go.Deep.open_slice Tryd.underlying22 hf with ⟨hcs, _⟩ | ⟨a, len, cap, m, n, D, Pl, hcs, _, hl, hm, hmm, _, hel⟩
  · simp [Value.cells] at hcs
    obtain ⟨rfl, rfl, rfl⟩ := hcs
    exact ⟨[], rfl, Kd.C_nil _ _, Nat.le_refl _⟩
  · simp [Value.cells] at hcs
    obtain ⟨rfl, rfl, rfl⟩ := hcs
    have hm2 : m = cap0 := by simpa using hmm
    have hx : ∀ i, ∃ x : Int × Int, i < len0 → ∀ j u, (encP x)[j]? = some u → W.cell? (a.add (i * 2 + j)) = some u := by
      intro i
      by_cases hi : i < len0
      · obtain ⟨cs', h1, h2⟩ := hel i (by omega)
        obtain ⟨x, rfl⟩ := read26 h2
        refine ⟨x, fun _ j u hu => ?_⟩
        have hc4 : Tryd.prog.cellsOf 26 = 2 := by kernel_rfl
        rw [hc4] at h1
        have hj : j < 2 := (List.getElem?_eq_some_iff.1 hu).1
        have hcell := (World.cells?_some h1).2.2 j hj
        rw [Addr.add_add] at hcell
        rw [hcell]
        exact hu
      · exact ⟨(0, 0), fun h => absurd h hi⟩
    obtain ⟨f, hf2⟩ := Classical.axiomOfChoice hx
    have hlen : ((List.range len0).map f).length = len0 := by simp
    refine ⟨(List.range len0).map f, hlen, ⟨rfl, by rw [hlen]; unfold maxLen at hm; omega, fun _ => ⟨a, rfl, fun j p hj => ?_⟩⟩, hl⟩
    have hjl : j < len0 := by
      have := (List.getElem?_eq_some_iff.1 hj).1
      rwa [hlen] at this
    have hp : f j = p := by
      rw [List.getElem?_map, List.getElem?_range hjl] at hj
      simpa using hj
    subst hp
    exact ⟨encP (f j), rfl, rfl, fun i u hu => hf2 j hjl i u hu⟩
end Go.Proofs.YtckgmnpcnoanhaaDoor
