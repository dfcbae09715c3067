/- FnAttributes: pairs that are packed are unpacked as they were, in the order of their keys; at most 20 pairs with unlike keys. For every input. -/
import Derived.Test.YthepcahgipglcaaRows
import Derived.Test.YthepcahgipglcaaExtLaw
import Derived.WalkKit
import Derived.ProofKit
import Derived.OpenShut
import Derived.ShutString
import Derived.SliceStrings
import Derived.ChangeOld
import Derived.Below
import Derived.SizedLaws
import Derived.Lib.SmallJoins
import Derived.Deep.Slices
namespace Go.Proofs.Ythepcahgipglcaa.fnAttributes
open Go.ChangeShapes Go.WideShapes Go.ChangeAt Go.RowKit Go.Proofs.YthepcahgipglcaaW.PrintWords
open Go.ChangeMaps (open_string shut_string)
set_option linter.unusedVariables false
theorem own : ownKnob Try.prog.godebug = none := by kernel_rfl
theorem laidOut : laidOutB Try.prog = true := by kernel_rfl
theorem read24 {H : Type} {enc : TypeId × Value → H} {w : World} {base : Nat} {sp : Nat → Bool} {held : Bool} {n : Nat} {cs : List Value} {y : DataW H × List MemPlace} (h : DataW.trod enc Try.prog w base sp held n 24 cs = some y) : ∃ x : SP, cs = encP x := by
  cases n with
  | zero => simp [DataW.trod] at h
  | succ m =>
    rw [DataW.trod_step] at h
    unfold DataW.trodStep at h
    have hc24 : Try.prog.cellsOf 24 = 2 := by kernel_rfl
    have hc9 : Try.prog.cellsOf 9 = 1 := by kernel_rfl
    simp only [Try.underlying24] at h
    split at h
    · rename_i hl
      rw [hc24] at hl
      match cs, hl with
      | [v0, v1], _ =>
        simp only [Option.map_eq_some_iff] at h
        obtain ⟨ys, hy, e1⟩ := h
        have hr : List.range 2 = [0, 1] := rfl
        rw [hr, hc9] at hy
        simp only [List.mapM_cons, List.mapM_nil, bind, Option.bind_eq_some_iff, pure, Option.some.injEq] at hy
        obtain ⟨y0, h0, _, ⟨y1, h1, _⟩, _⟩ := hy
        have g0 : DataW.trod enc Try.prog w base sp held m 9 [v0] = some y0 := h0
        have g1 : DataW.trod enc Try.prog w base sp held m 9 [v1] = some y1 := h1
        obtain ⟨s0, c0, _⟩ := DataW.trod_string Try.underlying9 g0
        obtain ⟨s1, c1, _⟩ := DataW.trod_string Try.underlying9 g1
        cases c0
        cases c1
        exact ⟨(s0, s1), rfl⟩
    · cases h
theorem rowsP {H : Type} {enc : TypeId × Value → H} {W : World} {a0 : Option Addr} {len0 cap0 : Nat} {d : DataW H} {ps : List MemPlace} (h : DataW.Trod enc Try.prog W 0 (fun _ => true) true 22 (.slice a0 len0 cap0) d ps) :
    ∃ zs : List SP, zs.length = len0 ∧ Kd.C kP W a0 zs.length zs ∧ len0 ≤ cap0 := by
  obtain ⟨fuel, hf⟩ := h
  rcases Go.Deep.open_slice Try.underlying22 hf with ⟨hcs, _⟩ | ⟨a, len, cap, m, n, D, Pl, hcs, _, hl, hm, hmm, _, hel⟩
  · simp [Value.cells] at hcs
    obtain ⟨rfl, rfl, rfl⟩ := hcs
    exact ⟨[], rfl, Kd.C_nil _ _, Nat.le_refl _⟩
  · simp [Value.cells] at hcs
    obtain ⟨rfl, rfl, rfl⟩ := hcs
    have hm2 : m = cap0 := by simpa using hmm
    have hx : ∀ i, ∃ x : SP, i < len0 → ∀ j u, (encP x)[j]? = some u → W.cell? (a.add (i * 2 + j)) = some u := by
      intro i
      by_cases hi : i < len0
      · obtain ⟨cs', h1, h2⟩ := hel i (by omega)
        obtain ⟨x, rfl⟩ := read24 h2
        refine ⟨x, fun _ j u hu => ?_⟩
        have hc4 : Try.prog.cellsOf 24 = 2 := by kernel_rfl
        rw [hc4] at h1
        have hj : j < 2 := (List.getElem?_eq_some_iff.1 hu).1
        have hcell := (World.cells?_some h1).2.2 j hj
        rw [Addr.add_add] at hcell
        rw [hcell]
        exact hu
      · exact ⟨zP, fun h => absurd h hi⟩
    obtain ⟨f, hf2⟩ := Classical.axiomOfChoice hx
    have hlen : ((List.range len0).map f).length = len0 := by simp
    refine ⟨(List.range len0).map f, hlen, ⟨rfl, by rw [hlen]; unfold maxLen at hm; omega, fun _ => ⟨a, rfl, fun j p hj => ?_⟩⟩, hl⟩
    have hjl : j < len0 := by
      have := (List.getElem?_eq_some_iff.1 hj).1
      rwa [hlen] at this
    have hp : f j = p := by
      rw [List.getElem?_map, List.getElem?_range hjl] at hj
      simpa using hj
    subst hp
    exact ⟨encP (f j), rfl, rfl, fun i u hu => hf2 j hjl i u hu⟩
set_option maxRecDepth 100000 in
theorem lifted (os : Os) (started : os.Started) (H : Type) (enc : TypeId × Value → H) :
    ReturnsInHanded {} Try.checked os 3 .any (Rows.fnAttributesSpec.pre6 enc Try.prog Try.f3 Rows.fnAttributesRow.domain false) (Rows.fnAttributesSpec.post enc Try.prog Try.f3 false true false false) := by
  refine returnsInHanded_of_change_sized (C := Try.checked) own started (by kernel_rfl) Try.func3
    (ChangeSpec.witness6 (enc := enc) (C := Try.checked) false ⟨#[], #[.slice none 0 0], []⟩ 8 (by kernel_rfl) (by kernel_rfl) (by kernel_rfl) (by kernel_rfl)) ?_
  intro W base args ds gs before hval0 hW hcnd hsz0 _
  have hval : ∀ (j : Nat) t v, Try.f3.params[j]? = some t → args[j]? = some v → Value.okWide Try.prog W .any base t v := hval0
  have hW' := hW
  obtain ⟨p, q, hA0, hV, rfl, hfz, hnd⟩ := hW
  have hA : DataW.TrodAll enc Try.prog W 0 (fun _ => true) true Try.f3.params.toList args.toList ds p := hA0
  rw [Try.params3] at hA hval
  obtain ⟨v0, vs0, d0, ds0, p0, q0, hargs, rfl, rfl, h0, r0⟩ := trodAll_cons hA
  obtain ⟨rfl, rfl, rfl⟩ := trodAll_nil r0
  obtain rfl : args = #[v0] := by cases args; simp_all
  obtain ⟨rfl, rfl⟩ := trodVars_none hV
  obtain ⟨a0, len0, cap0, rfl⟩ := okWide_slice Try.underlying22 (hval 0 22 v0 rfl rfl)
  have k0 := h0
  have lt0 : ∀ x ∈ p0, x.block < W.heap.size := by obtain ⟨m, hm⟩ := k0; exact DataW.trod_lt m _ _ _ hm
  obtain ⟨z0, e0, w0, y0⟩ := rowsP h0
  subst e0
  clear hA0 hval0 hsz0
  refine (Law.calls a0 cap0 z0 W w0 y0).mono fun e W' ⟨he, bel⟩ => ?_
  subst he
  exact ⟨_, rfl, _, _, _, [], _, [], hW', trodAll_mk1 (shut_bool Try.underlying4 _), (trodAll_cons_mk (Below.trod laidOut (by kernel_rfl) (of_decide_eq_true (by kernel_rfl)) k0 bel lt0) trodAll_mk0), rfl, bel.frame _, fun h => by cases h⟩
theorem over : Rows.fnAttributesRow.holds Try.pinned (OpenSpec.ofChange Rows.fnAttributesSpec) :=
  OpenClaim.holds_of_wide 3 Try.f3 rfl rfl rfl rfl rfl rfl rfl ⟨rfl, rfl, rfl, rfl, rfl⟩ rfl rfl rfl rfl rfl (by kernel_rfl) Try.func3 (by kernel_rfl)
    (of_decide_eq_true (by kernel_rfl)) (by unfold Func.isWrapper; first | (rw [if_pos (by decide +kernel)]; kernel_rfl) | (rw [if_neg (by decide +kernel)]; exact ⟨rfl, rfl⟩))
    (fun os started H enc _ => lifted os started H enc)
theorem proved : Rows.FnAttributesSaid := over
#print axioms proved
end Go.Proofs.Ythepcahgipglcaa.fnAttributes
namespace Go.Proofs.Ythepcahgipglcaa
/-- The row, under a short name, for the claim. -/
theorem fnAttributes_holds : Rows.FnAttributesSaid := fnAttributes.proved
end Go.Proofs.Ythepcahgipglcaa
