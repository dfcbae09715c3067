/- What the card of FnMerged needs: the variable InvalidRef as it is laid; a world for the witness; a slice of symbols that came in, read. -/
import Derived.Test.YtfjfacgbambbdaaDoorRows
import Derived.Test.YtfjfacgbambbdaaDoorExtLaw
import Derived.KernelRfl
import Derived.Lib.LaidTab
import Derived.Lib.LaidU8T
import Derived.Lib.SmallJoins
import Derived.Deep.Slices
import Derived.Deep.DeepHandedRow
set_option linter.unusedVariables false
namespace Go.Proofs.YtfjfacgbambbdaaDoor
open Go.RowKit Go.Lib Go.ChangeShapes Go.WideShapes Go.Proofs.YtfjfacgbambbdaaDoorW.PrintWords Go.Proofs.YtfjfacgbambbdaaDoor.PFnMerged
theorem laidOut : laidOutB Tryd.prog = true := by kernel_rfl
set_option maxRecDepth 100000 in
theorem datum_eq : (Rows.laid_given_example_pub_frisket_pub_esbuild_inner_ast_InvalidRef : DataW Unit) = .agg (([4294967295, 4294967295] : List Int).map fun z => .lit (.int .u32 z)) := by kernel_rfl
theorem named0 : Tryd.prog.globalNamed "given.example/pub-frisket/pub/esbuild/inner/ast.InvalidRef" = some 0 := by kernel_rfl
theorem typed0 : (Tryd.prog.globals[0]?).map (·.type) = some 47 := by kernel_rfl
theorem inv_of_laid {W : World} (h : laidMet Tryd.prog Rows.fnMergedRow.laid W) : Inv W := by
  obtain ⟨ps, hv, _, hps⟩ := h
  obtain ⟨g, t, cs, fuel, p, q, h1, h2, h3, h4, h5, h6⟩ := hv
  obtain rfl := Option.some.inj (named0.symm.trans h1)
  obtain rfl := Option.some.inj (typed0.symm.trans h2)
  rw [datum_eq] at h4
  have hcs := ints_of_struct Tryd.underlying47 (fun j f hj => by
    match j, hj with
    | 0, hj => simp at hj; subst hj; exact ⟨Tryd.underlying33, rfl, by kernel_rfl⟩
    | 1, hj => simp at hj; subst hj; exact ⟨Tryd.underlying33, rfl, by kernel_rfl⟩
    | j + 2, hj => simp at hj) (by kernel_rfl) h4
  have hcs2 : cs = #[.int .u32 4294967295, .int .u32 4294967295] := by
    have e := congrArg List.toArray hcs
    simpa using e
  subst hcs2
  obtain ⟨⟨c, t, hb⟩, _⟩ := hps 0 0 (by rw [h6]; simp [MemPlace.row])
  refine ⟨t, ?_⟩
  simp only [World.var?, h1, Option.bind_some, hb, Option.some.injEq] at h3
  rw [hb, h3]
/-- A WORLD FOR THE WITNESS: the settled one, the variable holding what its initialiser lays. -/
noncomputable def laidWorld (os : Os) : World :=
  let w0 := World.holding Tryd.prog os ⟨#[], #[], []⟩
  let put (h : Array Obj) (g : Nat) (cs : Array Value) : Array Obj := h.modify g fun
    | .cells _ t frozen => .cells cs t frozen
    | o => o
  { w0 with heap := put w0.heap 0 #[.int .u32 4294967295, .int .u32 4294967295] }
def cells35 (x : S35) : List Value := [.string x.f0, .int .u32 x.f1, .int .i64 x.f2, .int .i64 x.f3]
theorem read35 {H : Type} {enc : TypeId × Value → H} {w : World} {base : Nat} {sp : Nat → Bool} {held : Bool} {n : Nat} {cs : List Value} {y : DataW H × List MemPlace} (h : DataW.trod enc Tryd.prog w base sp held n 35 cs = some y) : ∃ x : S35, cs = cells35 x := by
  obtain ⟨y0, y1, y2, y3, m, _, hl, h0, h1, h2, h3⟩ := Go.Joins.trod_struct4 Tryd.underlying35 h
  have hl4 : cs.length = 4 := hl.trans (by kernel_rfl)
  match cs, hl4 with
  | [v0, v1, v2, v3], _ =>
    have e0 : DataW.trod enc Tryd.prog w base sp held m 9 [v0] = some y0 := h0
    have e1 : DataW.trod enc Tryd.prog w base sp held m 33 [v1] = some y1 := h1
    have e2 : DataW.trod enc Tryd.prog w base sp held m 3 [v2] = some y2 := h2
    have e3 : DataW.trod enc Tryd.prog w base sp held m 3 [v3] = some y3 := h3
    obtain ⟨s0, c0, _⟩ := DataW.trod_string Tryd.underlying9 e0
    obtain ⟨s1, c1, _⟩ := DataW.trod_int Tryd.underlying33 e1
    obtain ⟨s2, c2, _⟩ := DataW.trod_int Tryd.underlying3 e2
    obtain ⟨s3, c3, _⟩ := DataW.trod_int Tryd.underlying3 e3
    cases c0
    cases c1
    cases c2
    cases c3
    exact ⟨⟨s0, s1, s2, s3⟩, rfl⟩
theorem rows35 {H : Type} {enc : TypeId × Value → H} {W : World} {a0 : Option Addr} {len0 cap0 : Nat} {d : DataW H} {ps : List MemPlace} (h : DataW.Trod enc Tryd.prog W 0 (fun _ => true) true 22 (.slice a0 len0 cap0) d ps) :
    ∃ zs : List S35, zs.length = len0 ∧ Kd.C k35 W a0 zs.length zs ∧ len0 ≤ cap0 := by
  obtain ⟨fuel, hf⟩ := h
  rcases Go.Deep.open_slice Tryd.underlying22 hf with ⟨hcs, _⟩ | ⟨a, len, cap, m, n, D, Pl, hcs, _, hl, hm, hmm, _, hel⟩
  · simp [Value.cells] at hcs
    obtain ⟨rfl, rfl, rfl⟩ := hcs
    exact ⟨[], rfl, Kd.C_nil _ _, Nat.le_refl _⟩
  · simp [Value.cells] at hcs
    obtain ⟨rfl, rfl, rfl⟩ := hcs
    have hm2 : m = cap0 := by simpa using hmm
    have hx : ∀ i, ∃ x : S35, i < len0 → ∀ j u, (cells35 x)[j]? = some u → W.cell? (a.add (i * 4 + j)) = some u := by
      intro i
      by_cases hi : i < len0
      · obtain ⟨cs', h1, h2⟩ := hel i (by omega)
        obtain ⟨x, rfl⟩ := read35 h2
        refine ⟨x, fun _ j u hu => ?_⟩
        have hc4 : Tryd.prog.cellsOf 35 = 4 := by kernel_rfl
        rw [hc4] at h1
        have hj : j < 4 := (List.getElem?_eq_some_iff.1 hu).1
        have hcell := (World.cells?_some h1).2.2 j hj
        rw [Addr.add_add] at hcell
        rw [hcell]
        exact hu
      · exact ⟨z35, fun h => absurd h hi⟩
    obtain ⟨f, hf2⟩ := Classical.axiomOfChoice hx
    have hlen : ((List.range len0).map f).length = len0 := by simp
    refine ⟨(List.range len0).map f, hlen, ⟨rfl, by rw [hlen]; unfold maxLen at hm; omega, fun _ => ⟨a, rfl, fun j p hj => ?_⟩⟩, hl⟩
    have hjl : j < len0 := by
      have := (List.getElem?_eq_some_iff.1 hj).1
      rwa [hlen] at this
    have hp : f j = p := by
      rw [List.getElem?_map, List.getElem?_range hjl] at hj
      simpa using hj
    subst hp
    exact ⟨cells35 (f j), rfl, k35_mk W (f j), fun i u hu => hf2 j hjl i u hu⟩
theorem rowsInt {H : Type} {enc : TypeId × Value → H} {W : World} {a0 : Option Addr} {len0 cap0 : Nat} {d : DataW H} {ps : List MemPlace} (h : DataW.Trod enc Tryd.prog W 0 (fun _ => true) true 23 (.slice a0 len0 cap0) d ps) :
    ∃ zs : List Int, zs.length = len0 ∧ Kd.C (Kd.int .i64) W a0 zs.length zs ∧ len0 ≤ cap0 := by
  obtain ⟨fuel, hf⟩ := h
  rcases open_ints Tryd.underlying23 Tryd.underlying3 (by kernel_rfl) hf with ⟨hcs, _⟩ | ⟨x, l, c, zs, hcs, _, hl, hm, hz, _, hcell, hwz⟩
  · simp [Value.cells] at hcs
    obtain ⟨rfl, rfl, rfl⟩ := hcs
    exact ⟨[], rfl, Kd.C_nil _ _, Nat.le_refl _⟩
  · simp [Value.cells] at hcs
    obtain ⟨rfl, rfl, rfl⟩ := hcs
    have hz' : zs.length = cap0 := by simpa using hz
    have hlt : (zs.take len0).length = len0 := by rw [List.length_take]; omega
    refine ⟨zs.take len0, hlt, Kd.C_of_reads (d := (0 : Int)) ⟨rfl, by rw [hlt]; unfold maxLen at hm; omega, fun _ => ⟨x, rfl, fun i hi => ?_⟩⟩, hl⟩
    rw [hlt] at hi
    rw [hcell i (by omega)]
    simp [List.getD_eq_getElem?_getD, hi]
end Go.Proofs.YtfjfacgbambbdaaDoor
