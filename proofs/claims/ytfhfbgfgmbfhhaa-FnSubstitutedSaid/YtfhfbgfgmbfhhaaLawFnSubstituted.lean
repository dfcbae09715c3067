/- FnSubstituted: a template, in which some placeholders stand behind texts, becomes the text in which those that are set are replaced, and the others stand in brackets; it says which ones it still has. For every input. -/
import Derived.Test.YtfhfbgfgmbfhhaaRows
import Derived.Test.YtfhfbgfgmbfhhaaExtLaw
import Derived.WalkKit
import Derived.ProofKit
import Derived.OpenShut
import Derived.ShutString
import Derived.SliceStrings
import Derived.ChangeOld
import Derived.Below
import Derived.SizedLaws
namespace Go.Proofs.Ytfhfbgfgmbfhhaa.fnSubstituted
open Go.ChangeShapes Go.WideShapes Go.ChangeAt Go.RowKit Go.Proofs.YtfhfbgfgmbfhhaaW.PrintWords
open Go.ChangeMaps (open_string shut_string)
set_option linter.unusedVariables false
theorem own : ownKnob Try.prog.godebug = none := by kernel_rfl
theorem laidOut : laidOutB Try.prog = true := by kernel_rfl
section
variable {H : Type} {enc : TypeId × Value → H} {W : World} {base b0 : Nat} {sp : Nat → Bool} {held : Bool} {r : Reach}
theorem range4 : List.range 4 = [0, 1, 2, 3] := rfl
theorem open_four {P : Program} {k e : TypeId} (hu : P.underlying k = some (.array 4 e)) (hck : P.cellsOf k = 4) (hce : P.cellsOf e = 1) {v : Value} {d : DataW H} {ps : List MemPlace} (hv : Value.okWide P W r b0 k v) (hd : DataW.Trod enc P W base sp held k v d ps) :
    ∃ (x0 x1 x2 x3 : Value) (n : Nat) (y0 y1 y2 y3 : DataW H × List MemPlace), v = .agg #[x0, x1, x2, x3] ∧ DataW.trod enc P W base sp held n e [x0] = some y0 ∧ DataW.trod enc P W base sp held n e [x1] = some y1 ∧ DataW.trod enc P W base sp held n e [x2] = some y2 ∧ DataW.trod enc P W base sp held n e [x3] = some y3 := by
  obtain ⟨xs, rfl, hxs⟩ : ∃ xs : Array Value, v = .agg xs ∧ xs.size = 4 := by
    simp only [Value.okWide, hu] at hv
    obtain ⟨cs, h1, h2, _⟩ := hv
    exact ⟨cs, h1, by rw [h2, hck]⟩
  obtain ⟨x0, x1, x2, x3, rfl⟩ : ∃ x0 x1 x2 x3, xs = #[x0, x1, x2, x3] := by
    obtain ⟨l⟩ := xs
    match l, hxs with
    | [x0, x1, x2, x3], _ => exact ⟨x0, x1, x2, x3, rfl⟩
  obtain ⟨fuel, hf⟩ := hd
  cases fuel with
  | zero => simp [DataW.trod] at hf
  | succ m =>
    rw [DataW.trod_step] at hf
    unfold DataW.trodStep at hf
    simp only [hu, Value.cells] at hf
    rw [if_pos (by rw [hck]; rfl)] at hf
    simp only [Option.map_eq_some_iff] at hf
    obtain ⟨ys, hy, e1⟩ := hf
    rw [range4, hce] at hy
    simp only [List.mapM_cons, List.mapM_nil, bind, Option.bind_eq_some_iff, pure, Option.some.injEq] at hy
    obtain ⟨y0, h0, _, ⟨y1, h1, _, ⟨y2, h2, _, ⟨y3, h3, _⟩, _⟩, _⟩, _⟩ := hy
    exact ⟨x0, x1, x2, x3, m, y0, y1, y2, y3, rfl, h0, h1, h2, h3⟩
end
set_option maxRecDepth 100000 in
theorem lifted (os : Os) (started : os.Started) (H : Type) (enc : TypeId × Value → H) :
    ReturnsInHanded {} Try.checked os 3 .any (Rows.fnSubstitutedSpec.pre6 enc Try.prog Try.f3 Rows.fnSubstitutedRow.domain false) (Rows.fnSubstitutedSpec.post enc Try.prog Try.f3 false true false false) := by
  refine returnsInHanded_of_change_sized (C := Try.checked) own started (by kernel_rfl) Try.func3
    (ChangeSpec.witness6 (enc := enc) (C := Try.checked) false ⟨#[], #[.slice none 0 0, .slice none 0 0, .agg #[.string ByteArray.empty, .string ByteArray.empty, .string ByteArray.empty, .string ByteArray.empty], .agg #[.bool false, .bool false, .bool false, .bool false]], []⟩ 8 (by kernel_rfl) (by kernel_rfl) (by kernel_rfl) (by kernel_rfl)) ?_
  intro W base args ds gs before hval0 hW hcnd hsz0 _
  have hval : ∀ (j : Nat) t v, Try.f3.params[j]? = some t → args[j]? = some v → Value.okWide Try.prog W .any base t v := hval0
  have hW' := hW
  obtain ⟨p, q, hA0, hV, rfl, hfz, hnd⟩ := hW
  have hA : DataW.TrodAll enc Try.prog W 0 (fun _ => true) true Try.f3.params.toList args.toList ds p := hA0
  rw [Try.params3] at hA hval
  obtain ⟨v0, vs0, d0, ds0, p0, q0, hargs, rfl, rfl, h0, r0⟩ := trodAll_cons hA
  obtain ⟨v1, vs1, d1, ds1, p1, q1, rfl, rfl, rfl, h1, r1⟩ := trodAll_cons r0
  obtain ⟨v2, vs2, d2, ds2, p2, q2, rfl, rfl, rfl, h2, r2⟩ := trodAll_cons r1
  obtain ⟨v3, vs3, d3, ds3, p3, q3, rfl, rfl, rfl, h3, r3⟩ := trodAll_cons r2
  obtain ⟨rfl, rfl, rfl⟩ := trodAll_nil r3
  obtain rfl : args = #[v0, v1, v2, v3] := by cases args; simp_all
  obtain ⟨rfl, rfl⟩ := trodVars_none hV
  obtain ⟨a0, len0, cap0, rfl⟩ := okWide_slice Try.underlying22 (hval 0 22 v0 rfl rfl)
  obtain ⟨a1, len1, cap1, rfl⟩ := okWide_slice Try.underlying23 (hval 1 23 v1 rfl rfl)
  have k0 := h0
  have k1 := h1
  have k2 := h2
  have k3 := h3
  have lt0 : ∀ x ∈ p0, x.block < W.heap.size := by obtain ⟨m, hm⟩ := k0; exact DataW.trod_lt m _ _ _ hm
  have lt1 : ∀ x ∈ p1, x.block < W.heap.size := by obtain ⟨m, hm⟩ := k1; exact DataW.trod_lt m _ _ _ hm
  have lt2 : ∀ x ∈ p2, x.block < W.heap.size := by obtain ⟨m, hm⟩ := k2; exact DataW.trod_lt m _ _ _ hm
  have lt3 : ∀ x ∈ p3, x.block < W.heap.size := by obtain ⟨m, hm⟩ := k3; exact DataW.trod_lt m _ _ _ hm
  obtain ⟨z0, e0, w0, y0⟩ : ∃ zs : List ByteArray, zs.length = len0 ∧ Kd.C Kd.string W a0 zs.length zs ∧ len0 ≤ cap0 := by
    obtain ⟨fuel, hf⟩ := h0
    rcases open_strings Try.underlying22 Try.underlying9 (by kernel_rfl) hf with ⟨hcs, _⟩ | ⟨x, l, c, zs, hcs, _, hl, hm, hz, _, hcell, hwz⟩
    · simp [Value.cells] at hcs
      obtain ⟨rfl, rfl, rfl⟩ := hcs
      exact ⟨[], rfl, Kd.C_nil _ _, Nat.le_refl _⟩
    · simp [Value.cells] at hcs
      obtain ⟨rfl, rfl, rfl⟩ := hcs
      have hz' : zs.length = cap0 := by simpa using hz
      have hlt : (zs.take len0).length = len0 := by rw [List.length_take]; omega
      refine ⟨zs.take len0, hlt, Kd.C_of_reads (d := ByteArray.empty) ⟨rfl, by rw [hlt]; unfold maxLen at hm; omega, fun _ => ⟨x, rfl, fun i hi => ?_⟩⟩, hl⟩
      rw [hlt] at hi
      rw [hcell i (by omega)]
      simp [List.getD_eq_getElem?_getD, hi]
  obtain ⟨z1, e1, w1, y1⟩ : ∃ zs : List Int, zs.length = len1 ∧ Kd.C (Kd.int .i64) W a1 zs.length zs ∧ len1 ≤ cap1 := by
    obtain ⟨fuel, hf⟩ := h1
    rcases open_ints Try.underlying23 Try.underlying3 (by kernel_rfl) hf with ⟨hcs, _⟩ | ⟨x, l, c, zs, hcs, _, hl, hm, hz, _, hcell, hwz⟩
    · simp [Value.cells] at hcs
      obtain ⟨rfl, rfl, rfl⟩ := hcs
      exact ⟨[], rfl, Kd.C_nil _ _, Nat.le_refl _⟩
    · simp [Value.cells] at hcs
      obtain ⟨rfl, rfl, rfl⟩ := hcs
      have hz' : zs.length = cap1 := by simpa using hz
      have hlt : (zs.take len1).length = len1 := by rw [List.length_take]; omega
      refine ⟨zs.take len1, hlt, Kd.C_of_reads (d := (0 : Int)) ⟨rfl, by rw [hlt]; unfold maxLen at hm; omega, fun _ => ⟨x, rfl, fun i hi => ?_⟩⟩, hl⟩
      rw [hlt] at hi
      rw [hcell i (by omega)]
      simp [List.getD_eq_getElem?_getD, hi]
  subst e0
  subst e1
  obtain ⟨x0, x1, x2, x3, n2, t0, t1, t2, t3, rfl, g0, g1, g2, g3⟩ := open_four Try.underlying24 (by kernel_rfl) (by kernel_rfl) (hval 2 24 v2 rfl rfl) h2
  obtain ⟨s0, c0, _⟩ := DataW.trod_string Try.underlying9 g0
  obtain ⟨s1, c1, _⟩ := DataW.trod_string Try.underlying9 g1
  obtain ⟨s2, c2, _⟩ := DataW.trod_string Try.underlying9 g2
  obtain ⟨s3, c3, _⟩ := DataW.trod_string Try.underlying9 g3
  cases c0
  cases c1
  cases c2
  cases c3
  obtain ⟨x0, x1, x2, x3, n3, t0, t1, t2, t3, rfl, g0, g1, g2, g3⟩ := open_four Try.underlying25 (by kernel_rfl) (by kernel_rfl) (hval 3 25 v3 rfl rfl) h3
  obtain ⟨b0, c0, _⟩ := DataW.trod_bool Try.underlying4 g0
  obtain ⟨b1, c1, _⟩ := DataW.trod_bool Try.underlying4 g1
  obtain ⟨b2, c2, _⟩ := DataW.trod_bool Try.underlying4 g2
  obtain ⟨b3, c3, _⟩ := DataW.trod_bool Try.underlying4 g3
  cases c0
  cases c1
  cases c2
  cases c3
  clear hA0 hval0 hsz0
  refine (Law.calls a0 a1 cap0 cap1 z0 z1 s0 s1 s2 s3 b0 b1 b2 b3 W w0 y0 w1 y1).mono fun e W' ⟨he, bel⟩ => ?_
  subst he
  exact ⟨_, rfl, _, _, _, [], _, [], hW', trodAll_mk1 (shut_bool Try.underlying4 _), (trodAll_cons_mk (Below.trod laidOut (by kernel_rfl) (of_decide_eq_true (by kernel_rfl)) k0 bel lt0) (trodAll_cons_mk (Below.trod laidOut (by kernel_rfl) (of_decide_eq_true (by kernel_rfl)) k1 bel lt1) (trodAll_cons_mk (Below.trod laidOut (by kernel_rfl) (of_decide_eq_true (by kernel_rfl)) k2 bel lt2) (trodAll_cons_mk (Below.trod laidOut (by kernel_rfl) (of_decide_eq_true (by kernel_rfl)) k3 bel lt3) trodAll_mk0)))), rfl, bel.frame _, fun h => by cases h⟩
theorem over : Rows.fnSubstitutedRow.holds Try.pinned (OpenSpec.ofChange Rows.fnSubstitutedSpec) :=
  OpenClaim.holds_of_wide 3 Try.f3 rfl rfl rfl rfl rfl rfl rfl ⟨rfl, rfl, rfl, rfl, rfl⟩ rfl rfl rfl rfl rfl (by kernel_rfl) Try.func3 (by kernel_rfl)
    (of_decide_eq_true (by kernel_rfl)) (by unfold Func.isWrapper; first | (rw [if_pos (by decide +kernel)]; kernel_rfl) | (rw [if_neg (by decide +kernel)]; exact ⟨rfl, rfl⟩))
    (fun os started H enc _ => lifted os started H enc)
theorem proved : Rows.FnSubstitutedSaid := over
#print axioms proved
end Go.Proofs.Ytfhfbgfgmbfhhaa.fnSubstituted
namespace Go.Proofs.Ytfhfbgfgmbfhhaa
/-- The row, under a short name, for the claim. -/
theorem fnSubstituted_holds : Rows.FnSubstitutedSaid := fnSubstituted.proved
end Go.Proofs.Ytfhfbgfgmbfhhaa
