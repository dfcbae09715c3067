/- FnNumberBack's card: a double that is told as a decimal string is the number of this string; for every input, the tables of the program as its text lays them. -/
import Derived.Test.YtheichpmhfledaaDoorRows
import Derived.Test.YtheichpmhfledaaDoorExtLaw
import Derived.Test.YtheichpmhfledaaDoorWSized
import Derived.WalkKit
import Derived.ProofKit
import Derived.OpenShut
import Derived.Laws.Cover2
import Derived.ChangeOld
import Derived.Below
import Derived.SizedLaws
import Derived.Test.YtheichpmhfledaaDoorCards
import Derived.Test.YtheichpmhfledaaDoorTie
import Derived.Test.YtheichpmhfledaaDoorExtLaid
import Derived.Deep.DeepHandedRow
import Derived.Lib.LaidTab
import Derived.Lib.SmallJoins
namespace Go.Proofs.YtheichpmhfledaaDoor.fnNumberBackCard
open Go.ChangeShapes Go.WideShapes Go.ChangeAt Go.RowKit
open Go.Proofs.YtheichpmhfledaaDoor
set_option linter.unusedVariables false
theorem own : ownKnob Tryd.prog.godebug = none := by kernel_rfl
set_option maxRecDepth 100000 in
theorem laid_met (os : Os) : laidMet Tryd.prog Rows.fnNumberBackRow.laid ((laidWorld os).forCall (fun _ _ => 0) ⟨#[], #[.float .f64 0], []⟩).memory :=
  laidMet_of_run' 8 (by kernel_rfl) (by kernel_rfl)
theorem reads (os : Os) {H : Type} (enc : TypeId × Value → H) : (DataW.whole enc Tryd.prog ((laidWorld os).forCall (fun _ _ => 0) ⟨#[], #[.float .f64 0], []⟩).memory Tryd.f3.params.toList Rows.fnNumberBackSpec.vars false (#[.float .f64 0] : Array Value).toList 8).isSome = true := by kernel_rfl
set_option maxRecDepth 100000 in
theorem contract (H : Type) (enc : TypeId × Value → H) : ∀ (W : World) (base : Nat) (args : Array Value) (ds gs : List (DataW H)) (before : List MemPlace),
    (∀ (j : Nat) t v, Tryd.f3.params[j]? = some t → args[j]? = some v → Value.okWide Tryd.prog W .any base t v) →
    DataW.Whole enc Tryd.prog Tryd.f3.params.toList Rows.fnNumberBackSpec.vars false W args.toList ds gs before →
    Rows.fnNumberBackRow.domain.all (PathCond.test Tryd.prog ⟨Tryd.f3.params.toList, ds, Rows.fnNumberBackSpec.plain.varTypes Tryd.prog, gs⟩) = true → True →
    (DataW.weightsEach Tryd.prog (Tryd.f3.params.toList ++ Rows.fnNumberBackSpec.plain.varTypes Tryd.prog) (ds ++ gs)).all (· ≤ reachBytes) = true →
    laidMet Tryd.prog Rows.fnNumberBackRow.laid W → True → True →
    Calls Tryd.prog 3 args W fun e W' => ∃ v, e = .returned v ∧ Rows.fnNumberBackSpec.post enc Tryd.prog Tryd.f3 false true false false W args v W' := by
  intro W base args ds gs before hval0 hW hcnd _ hsz0 hL _ _
  have hsz : (DataW.weightsEach Tryd.prog (Tryd.f3.params.toList ++ Rows.fnNumberBackSpec.plain.varTypes Tryd.prog) (ds ++ gs)).all (· ≤ reachBytes) = true := hsz0
  have hval : ∀ (j : Nat) t v, Tryd.f3.params[j]? = some t → args[j]? = some v → Value.okWide Tryd.prog W .any base t v := hval0
  have hW' := hW
  obtain ⟨p, q, hA0, hV, rfl, hfz, hnd⟩ := hW
  have hA : DataW.TrodAll enc Tryd.prog W 0 (fun _ => true) true Tryd.f3.params.toList args.toList ds p := hA0
  rw [Tryd.params3] at hA hval hsz
  obtain ⟨v0, vs0, d0, ds0, p0, q0, hargs, rfl, rfl, h0, r0⟩ := trodAll_cons hA
  obtain ⟨rfl, rfl, rfl⟩ := trodAll_nil r0
  obtain rfl : args = #[v0] := by cases args; simp_all
  obtain ⟨rfl, rfl⟩ := trodVars_none hV
  obtain ⟨x, rfl, rfl, rfl, wx⟩ := open_float Tryd.underlying22 (hval 0 22 v0 rfl rfl) h0
  have hx : x < 18446744073709551616 := by
    have h2 := wx
    simp only [Lit.wf, decide_eq_true_eq] at h2
    exact h2
  obtain ⟨s, r, hr, rfl⟩ := wd_of x hx
  clear hA0 hval0 hsz0 hsz
  refine (Law.calls s r W hr (tab_back hL)).mono fun e W' ⟨he, bel⟩ => ?_
  subst he
  exact ⟨_, rfl, _, _, _, [], _, [], hW', trodAll_mk1 (shut_bool Tryd.underlying4 _), trodAll_mk1 (shut_float Tryd.underlying22 wx), rfl, bel.frame _, fun h => by cases h⟩
set_option maxRecDepth 100000 in
theorem lifted (os : Os) (started : os.Started) (H : Type) (enc : TypeId × Value → H) (F : Stop.Interp) :
    ReturnsInHanded {} Tryd.checked os 3 .any ((OpenSpec.ofChange Rows.fnNumberBackSpec).preRow enc Tryd.prog Tryd.f3 Rows.fnNumberBackRow.domain false Rows.fnNumberBackRow.laid) (((OpenSpec.ofChange Rows.fnNumberBackSpec).at F).post enc Tryd.prog Tryd.f3 false true false false) := by
  obtain ⟨x, hx⟩ := Option.isSome_iff_exists.1 (reads os enc)
  refine returnsInHanded_of_row (C := Tryd.checked) (s := OpenSpec.ofChange Rows.fnNumberBackSpec) own started (by kernel_rfl) Tryd.func3
    (witness_row_at (enc := enc) (C := Tryd.checked) false (laidWorld os) #[.float .f64 0] rfl (by kernel_rfl) (by kernel_rfl) (by kernel_rfl)
      (OpenSpec.preRow_of_cond 8 hx rfl (fun k hk => by cases hk) (by kernel_rfl) (laid_met os))) ?_
  intro W base args ds gs before hval hW hcnd _ hsz hL _ _
  exact contract H enc W base args ds gs before hval hW hcnd trivial hsz hL trivial trivial

set_option maxRecDepth 100000 in
theorem said : Rows.FnNumberBackSaid :=
  OpenClaim.holds_of_cond 3 Tryd.f3 rfl rfl rfl rfl rfl rfl rfl ⟨rfl, rfl, rfl, rfl, rfl⟩ rfl rfl rfl rfl rfl (by kernel_rfl) Tryd.func3 (by kernel_rfl)
    (of_decide_eq_true (by kernel_rfl)) (by unfold Func.isWrapper; first | (rw [if_pos (by decide +kernel)]; kernel_rfl) | (rw [if_neg (by decide +kernel)]; exact ⟨rfl, rfl⟩))
    (fun os started H enc _ F => by rw [OpenClaim.pre_eq_preRow]; exact lifted os started H enc F)

set_option maxRecDepth 100000 in
/-- No parameter wants a stand-in; the program's own looks are off: what the card asks. -/
theorem plain (f : FuncId) (fn : Func) (hf : Tryd.pinned.checked.prog.funcNamed "given.example/pub-frisket/laws.FnNumberBack" = some f) (hfn : Tryd.pinned.checked.prog.funcs[f]? = some fn) :
    false = Tryd.pinned.checked.prog.looks [] ∧ ∀ (j : Nat) t, fn.params[j]? = some t → Tryd.pinned.checked.prog.wantsStandIn t = false := by
  obtain rfl : f = 3 := Option.some.inj ((show Tryd.prog.funcNamed "given.example/pub-frisket/laws.FnNumberBack" = some 3 by kernel_rfl).symm.trans hf) |>.symm
  obtain rfl : fn = Tryd.f3 := (Option.some.inj (Tryd.func3.symm.trans hfn)).symm
  refine ⟨by kernel_rfl, fun j t ht => ?_⟩
  rw [Tryd.params3] at ht
  have hm : t ∈ ([22] : List TypeId) := by simpa using Array.mem_of_getElem? ht
  simp only [List.mem_cons, List.mem_nil_iff, or_false] at hm
  subst hm
  exact (show Tryd.prog.wantsStandIn 22 = false by kernel_rfl)

set_option maxRecDepth 100000 in
theorem card : Rows.FnNumberBackCardSaid :=
  Claim7.holds_tied_plain_at .later [] _ _ _ _ said (fun _ h => by cases h) (by kernel_rfl) (fun _ h => by cases h) fnNumberBack_row_tie rfl ⟨rfl, rfl⟩ (by kernel_rfl) rfl plain (by kernel_rfl)
#print axioms card
end Go.Proofs.YtheichpmhfledaaDoor.fnNumberBackCard
namespace Go.Proofs.YtheichpmhfledaaDoor
/-- The card, under a short name, for the claim. -/
theorem fnNumberBackCard_holds : Rows.FnNumberBackCardSaid := fnNumberBackCard.card
end Go.Proofs.YtheichpmhfledaaDoor
