/- What the card needs: the variable DefaultNameMinifierJS as it is laid; a world for the witness; a slice of counts that came in, read. -/
import Derived.Test.YtlbamdlegloieaaDoorRows
import Derived.Test.YtlbamdlegloieaaDoorExtLaw
import Derived.KernelRfl
import Derived.Lib.LaidTab
import Derived.Lib.LaidU8T
import Derived.Lib.SmallJoins
import Derived.Deep.Slices
import Derived.Deep.DeepHandedRow
set_option linter.unusedVariables false
namespace Go.Proofs.YtlbamdlegloieaaDoor
open Go Go.RowKit Go.Lib Go.ChangeShapes Go.WideShapes Go.Proofs.YtlbamdlegloieaaDoorW.PrintWords
theorem laidOut : laidOutB Tryd.prog = true := by kernel_rfl
set_option maxRecDepth 100000 in
theorem datum_eq : (Rows.laid_given_example_pub_frisket_pub_esbuild_inner_ast_DefaultNameMinifierJS : DataW Unit) = .agg [.lit (.string abcH.data.toList), .lit (.string abcT.data.toList)] := by kernel_rfl
theorem named0 : Tryd.prog.globalNamed "given.example/pub-frisket/pub/esbuild/inner/ast.DefaultNameMinifierJS" = some 0 := by kernel_rfl
theorem typed0 : (Tryd.prog.globals[0]?).map (·.type) = some 30 := by kernel_rfl
theorem text_of {s t : ByteArray} (h : s.data.toList = t.data.toList) : s = t := ByteArray.ext (Array.ext' h)
theorem inv_of_laid {W : World} (h : laidMet Tryd.prog Rows.fnShuffledNameRow.laid W) : Inv W := by
  obtain ⟨ps, hv, _, hps⟩ := h
  obtain ⟨g, t, cs, fuel, p, q, h1, h2, h3, h4, h5, h6⟩ := hv
  obtain rfl := Option.some.inj (named0.symm.trans h1)
  obtain rfl := Option.some.inj (typed0.symm.trans h2)
  rw [datum_eq] at h4
  obtain ⟨xs, n, _, hx, hl, hlen, hf⟩ := DataW.trod_struct Tryd.underlying30 h4
  have hl2 : cs.toList.length = 2 := hl.trans (by kernel_rfl)
  obtain ⟨v0, v1, hcs⟩ : ∃ v0 v1, cs.toList = [v0, v1] := by
    match hh : cs.toList, hl2 with
    | [v0, v1], _ => exact ⟨v0, v1, rfl⟩
  match xs, hlen with
  | [y0, y1], _ =>
    have e0 := hf 0 _ rfl
    have e1 := hf 1 _ rfl
    rw [hcs] at e0 e1
    obtain ⟨s0, c0, x0, _⟩ := DataW.trod_string Tryd.underlying9 e0
    obtain ⟨s1, c1, x1, _⟩ := DataW.trod_string Tryd.underlying9 e1
    have hc9 : Tryd.prog.cellsOf 9 = 1 := by kernel_rfl
    have d0 : v0 = .string s0 := by
      have := c0
      simp [hc9] at this
      exact this
    have d1 : v1 = .string s1 := by
      have := c1
      simp [hc9] at this
      exact this
    subst x0 x1
    have hx2 := congrArg Prod.fst hx
    have hx3 : abcH.data.toList = s0.data.toList ∧ abcT.data.toList = s1.data.toList := by
      have e := DataW.agg.inj hx2
      injection e with ea eb
      injection eb with eb _
      exact ⟨Lit.string.inj (DataW.lit.inj ea), Lit.string.inj (DataW.lit.inj eb)⟩
    obtain rfl := text_of hx3.1
    obtain rfl := text_of hx3.2
    subst d0 d1
    have hcs2 : cs = #[.string abcH, .string abcT] := by
      have e := congrArg List.toArray hcs
      simpa using e
    subst hcs2
    obtain ⟨⟨c, t, hb⟩, _⟩ := hps 0 0 (by rw [h6]; simp [MemPlace.row])
    refine ⟨t, ?_⟩
    simp only [World.var?, h1, Option.bind_some, hb, Option.some.injEq] at h3
    rw [hb, h3]
/-- A WORLD FOR THE WITNESS: the settled one, the variable holding what its initialiser lays. -/
noncomputable def laidWorld (os : Os) : World :=
  let w0 := World.holding Tryd.prog os ⟨#[], #[], []⟩
  let put (h : Array Obj) (g : Nat) (cs : Array Value) : Array Obj := h.modify g fun
    | .cells _ t frozen => .cells cs t frozen
    | o => o
  { w0 with heap := put w0.heap 0 #[.string abcH, .string abcT] }
theorem rowsInt {H : Type} {enc : TypeId × Value → H} {W : World} {a0 : Option Addr} {len0 cap0 : Nat} {d : DataW H} {ps : List MemPlace} (h : DataW.Trod enc Tryd.prog W 0 (fun _ => true) true 22 (.slice a0 len0 cap0) d ps) :
    ∃ zs : List Int, zs.length = len0 ∧ Kd.C (Kd.int .i32) W a0 zs.length zs ∧ len0 ≤ cap0 := by
  obtain ⟨fuel, hf⟩ := h
  rcases open_ints Tryd.underlying22 Tryd.underlying21 (by kernel_rfl) hf with ⟨hcs, _⟩ | ⟨x, l, c, zs, hcs, _, hl, hm, hz, _, hcell, hwz⟩
  · simp [Value.cells] at hcs
    obtain ⟨rfl, rfl, rfl⟩ := hcs
    exact ⟨[], rfl, Kd.C_nil _ _, Nat.le_refl _⟩
  · simp [Value.cells] at hcs
    obtain ⟨rfl, rfl, rfl⟩ := hcs
    have hz' : zs.length = cap0 := by simpa using hz
    have hlt : (zs.take len0).length = len0 := by rw [List.length_take]; omega
    refine ⟨zs.take len0, hlt, Kd.C_of_reads (d := (0 : Int)) ⟨rfl, by rw [hlt]; unfold maxLen at hm; omega, fun _ => ⟨x, rfl, fun i hi => ?_⟩⟩, hl⟩
    rw [hlt] at hi
    rw [hcell i (by omega)]
    simp [List.getD_eq_getElem?_getD, hi]
end Go.Proofs.YtlbamdlegloieaaDoor
