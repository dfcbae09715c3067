/- FnShuffledName's card: short names with shuffled signs are names, unlike for unlike numbers, and as long as without shuffling; for every input, the variable DefaultNameMinifierJS as the program's text lays it. -/
import Derived.Test.YtlbamdlegloieaaDoorRows
import Derived.WalkKit
import Derived.ProofKit
import Derived.OpenShut
import Derived.ShutString
import Derived.ChangeOld
import Derived.Below
import Derived.SizedLaws
import Derived.Test.YtlbamdlegloieaaDoorWSized
import Derived.Test.YtlbamdlegloieaaDoorCards
import Derived.Test.YtlbamdlegloieaaDoorTie
import Derived.Test.YtlbamdlegloieaaDoorExtLaid
import Derived.Deep.DeepHandedRow
import Derived.OpenVars
import Derived.Lib.LaidTab
namespace Go.Proofs.YtlbamdlegloieaaDoor.fnShuffledNameCard
open Go.ChangeShapes Go.WideShapes Go.ChangeAt Go.RowKit
open Go.ChangeMaps (open_string shut_string)
open Go.Proofs.YtlbamdlegloieaaDoor
set_option linter.unusedVariables false
theorem own : ownKnob Tryd.prog.godebug = none := by kernel_rfl
set_option maxRecDepth 100000 in
theorem laid_met (os : Os) : laidMet Tryd.prog Rows.fnShuffledNameRow.laid ((laidWorld os).forCall (fun _ _ => 0) ⟨#[], #[.slice none 0 0, .int .i64 0, .int .i64 0], []⟩).memory :=
  laidMet_of_run' 8 (by kernel_rfl) (by kernel_rfl)
theorem reads (os : Os) {H : Type} (enc : TypeId × Value → H) : (DataW.whole enc Tryd.prog ((laidWorld os).forCall (fun _ _ => 0) ⟨#[], #[.slice none 0 0, .int .i64 0, .int .i64 0], []⟩).memory Tryd.f3.params.toList Rows.fnShuffledNameSpec.vars false (#[.slice none 0 0, .int .i64 0, .int .i64 0] : Array Value).toList 8).isSome = true := by kernel_rfl
set_option maxRecDepth 100000 in
theorem contract (H : Type) (enc : TypeId × Value → H) : ∀ (W : World) (base : Nat) (args : Array Value) (ds gs : List (DataW H)) (before : List MemPlace),
    (∀ (j : Nat) t v, Tryd.f3.params[j]? = some t → args[j]? = some v → Value.okWide Tryd.prog W .any base t v) →
    DataW.Whole enc Tryd.prog Tryd.f3.params.toList Rows.fnShuffledNameSpec.vars false W args.toList ds gs before →
    Rows.fnShuffledNameRow.domain.all (PathCond.test Tryd.prog ⟨Tryd.f3.params.toList, ds, Rows.fnShuffledNameSpec.plain.varTypes Tryd.prog, gs⟩) = true → True →
    (DataW.weightsEach Tryd.prog (Tryd.f3.params.toList ++ Rows.fnShuffledNameSpec.plain.varTypes Tryd.prog) (ds ++ gs)).all (· ≤ reachBytes) = true →
    laidMet Tryd.prog Rows.fnShuffledNameRow.laid W → True → True →
    Calls Tryd.prog 3 args W fun e W' => ∃ v, e = .returned v ∧ Rows.fnShuffledNameSpec.post enc Tryd.prog Tryd.f3 false true false false W args v W' := by
  intro W base args ds gs before hval0 hW hcnd _ hsz0 hL _ _
  have hsz : (DataW.weightsEach Tryd.prog (Tryd.f3.params.toList ++ Rows.fnShuffledNameSpec.plain.varTypes Tryd.prog) (ds ++ gs)).all (· ≤ reachBytes) = true := hsz0
  have hval : ∀ (j : Nat) t v, Tryd.f3.params[j]? = some t → args[j]? = some v → Value.okWide Tryd.prog W .any base t v := hval0
  have hW' := hW
  obtain ⟨p, q, hA0, hV, rfl, hfz, hnd⟩ := hW
  have hA : DataW.TrodAll enc Tryd.prog W 0 (fun _ => true) true Tryd.f3.params.toList args.toList ds p := hA0
  rw [Tryd.params3] at hA hval hsz
  obtain ⟨v0, vs0, d0, ds0, p0, q0, hargs, rfl, rfl, h0, r0⟩ := trodAll_cons hA
  obtain ⟨v1, vs1, d1, ds1, p1, q1, rfl, rfl, rfl, h1, r1⟩ := trodAll_cons r0
  obtain ⟨v2, vs2, d2, ds2, p2, q2, rfl, rfl, rfl, h2, r2⟩ := trodAll_cons r1
  obtain ⟨rfl, rfl, rfl⟩ := trodAll_nil r2
  obtain rfl : args = #[v0, v1, v2] := by cases args; simp_all
  have hVs := hV
  obtain ⟨gv, tv, csv, fuelv, dv, pv, rfl, _, _, _, _, _⟩ := trodVars_one hV
  obtain ⟨a0, len0, cap0, rfl⟩ := okWide_slice Tryd.underlying22 (hval 0 22 v0 rfl rfl)
  obtain ⟨i, rfl, rfl, rfl, wi⟩ := open_int Tryd.underlying3 (hval 1 3 v1 rfl rfl) h1
  obtain ⟨k, rfl, rfl, rfl, wk⟩ := open_int Tryd.underlying3 (hval 2 3 v2 rfl rfl) h2
  have k0 := h0
  have lt0 : ∀ x ∈ p0, x.block < W.heap.size := by obtain ⟨m, hm⟩ := k0; exact DataW.trod_lt m _ _ _ hm
  obtain ⟨z0, e0, w0, y0⟩ := rowsInt h0
  subst e0
  clear hA0 hval0 hsz0 hsz
  refine (Law.calls W a0 cap0 z0 i k w0 y0 (inv_of_laid hL)).mono fun e W' ⟨he, bel⟩ => ?_
  subst he
  exact ⟨_, rfl, _, _, _, [], _, _, hW', trodAll_mk1 (shut_bool Tryd.underlying4 _), (trodAll_cons_mk (Below.trod laidOut (by kernel_rfl) (of_decide_eq_true (by kernel_rfl)) k0 bel lt0) (trodAll_cons_mk (shut_int Tryd.underlying3 wi) (trodAll_cons_mk (shut_int Tryd.underlying3 wk) trodAll_mk0))), Below.trodVars laidOut bel (by kernel_rfl) hVs, bel.frame _, fun h => by cases h⟩
set_option maxRecDepth 100000 in
theorem lifted (os : Os) (started : os.Started) (H : Type) (enc : TypeId × Value → H) (F : Stop.Interp) :
    ReturnsInHanded {} Tryd.checked os 3 .any ((OpenSpec.ofChange Rows.fnShuffledNameSpec).preRow enc Tryd.prog Tryd.f3 Rows.fnShuffledNameRow.domain false Rows.fnShuffledNameRow.laid) (((OpenSpec.ofChange Rows.fnShuffledNameSpec).at F).post enc Tryd.prog Tryd.f3 false true false false) := by
  obtain ⟨x, hx⟩ := Option.isSome_iff_exists.1 (reads os enc)
  refine returnsInHanded_of_row (C := Tryd.checked) (s := OpenSpec.ofChange Rows.fnShuffledNameSpec) own started (by kernel_rfl) Tryd.func3
    (witness_row_at (enc := enc) (C := Tryd.checked) false (laidWorld os) #[.slice none 0 0, .int .i64 0, .int .i64 0] rfl (by kernel_rfl) (by kernel_rfl) (by kernel_rfl)
      (OpenSpec.preRow_of_cond 8 hx rfl (fun k hk => by cases hk) (by kernel_rfl) (laid_met os))) ?_
  intro W base args ds gs before hval hW hcnd _ hsz hL _ _
  exact contract H enc W base args ds gs before hval hW hcnd trivial hsz hL trivial trivial

set_option maxRecDepth 100000 in
theorem said : Rows.FnShuffledNameSaid :=
  OpenClaim.holds_of_cond 3 Tryd.f3 rfl rfl rfl rfl rfl rfl rfl ⟨rfl, rfl, rfl, rfl, rfl⟩ rfl rfl rfl rfl rfl (by kernel_rfl) Tryd.func3 (by kernel_rfl)
    (of_decide_eq_true (by kernel_rfl)) (by unfold Func.isWrapper; first | (rw [if_pos (by decide +kernel)]; kernel_rfl) | (rw [if_neg (by decide +kernel)]; exact ⟨rfl, rfl⟩))
    (fun os started H enc _ F => by rw [OpenClaim.pre_eq_preRow]; exact lifted os started H enc F)

set_option maxRecDepth 100000 in
/-- No parameter wants a stand-in; the looks are as the card says. -/
theorem plain (f : FuncId) (fn : Func) (hf : Tryd.pinned.checked.prog.funcNamed "given.example/pub-frisket/laws.FnShuffledName" = some f) (hfn : Tryd.pinned.checked.prog.funcs[f]? = some fn) :
    false = Tryd.pinned.checked.prog.looks [] ∧ ∀ (j : Nat) t, fn.params[j]? = some t → Tryd.pinned.checked.prog.wantsStandIn t = false := by
  obtain rfl : f = 3 := Option.some.inj ((show Tryd.prog.funcNamed "given.example/pub-frisket/laws.FnShuffledName" = some 3 by kernel_rfl).symm.trans hf) |>.symm
  obtain rfl : fn = Tryd.f3 := (Option.some.inj (Tryd.func3.symm.trans hfn)).symm
  refine ⟨by kernel_rfl, fun j t ht => ?_⟩
  rw [Tryd.params3] at ht
  have hm : t ∈ ([22, 3, 3] : List TypeId) := by simpa using Array.mem_of_getElem? ht
  simp only [List.mem_cons, List.mem_nil_iff, or_false] at hm
  rcases hm with rfl | rfl | rfl
  all_goals first | exact (show Tryd.prog.wantsStandIn 22 = false by kernel_rfl) | exact (show Tryd.prog.wantsStandIn 3 = false by kernel_rfl)

set_option maxRecDepth 100000 in
theorem card : Rows.FnShuffledNameCardSaid :=
  Claim7.holds_tied_plain_at .later [] _ _ _ _ said (fun _ h => by cases h) (by kernel_rfl) (fun _ h => by cases h) fnShuffledName_row_tie rfl ⟨rfl, rfl⟩ (by kernel_rfl) rfl plain (by kernel_rfl)
#print axioms card
end Go.Proofs.YtlbamdlegloieaaDoor.fnShuffledNameCard
namespace Go.Proofs.YtlbamdlegloieaaDoor
/-- The card, under a short name, for the claim. -/
theorem fnShuffledNameCard_holds : Rows.FnShuffledNameCardSaid := fnShuffledNameCard.card
end Go.Proofs.YtlbamdlegloieaaDoor
