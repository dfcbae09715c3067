/- What the card of FnNumberWhole needs besides: the table for trailing zeros as it is laid. FnNumberWhole's card: a whole number from -2147483648 to 2147483647 is told as a string with each radix from 2 to 36; for every input, the tables of the program as its text lays them. -/
import Derived.Test.YtheichpmhfledaaDoorExtLaid
import Derived.Test.YtheichpmhfledaaDoorExtWhole
import Derived.Test.YtheichpmhfledaaDoorRows
import Derived.Test.YtheichpmhfledaaDoorWSized
import Derived.WalkKit
import Derived.ProofKit
import Derived.OpenShut
import Derived.Laws.Cover2
import Derived.ChangeOld
import Derived.Below
import Derived.SizedLaws
import Derived.Test.YtheichpmhfledaaDoorCards
import Derived.Test.YtheichpmhfledaaDoorTie
import Derived.Deep.DeepHandedRow
import Derived.Lib.LaidTab
import Derived.Lib.SmallJoins
set_option linter.unusedVariables false
namespace Go.Proofs.YtheichpmhfledaaDoor
open Go.RowKit Go.Lib Go.ChangeShapes Go.WideShapes Go.Proofs.YtheichpmhfledaaDoorW.PrintWords
theorem ty3 : (Tryd.prog.globals[3]?).map (·.type) = some 103 := by kernel_rfl
theorem und103 : Tryd.prog.underlying 103 = some (.array 64 5) := by kernel_rfl
theorem und5 : Tryd.prog.underlying 5 = some (.int .u8) := by kernel_rfl
theorem cells5 : Tryd.prog.cellsOf 5 = 1 := by kernel_rfl
theorem cells103 : Tryd.prog.cellsOf 103 = 64 := by kernel_rfl
theorem tz_eq : (Rows.laid_math_bits_deBruijn64tab : DataW Unit) = tabData .u8 bruijn64 := by kernel_rfl
theorem tab64_of_reads {W : World} (h : VarReads Tryd.prog W "math/bits.deBruijn64tab" (tabData .u8 bruijn64)) : Tab64 W := by
  obtain ⟨g', t', cs, fuel, p, hg', ht', hvar, hd⟩ := h
  obtain rfl := Option.some.inj (gtab64.symm.trans hg')
  obtain rfl := Option.some.inj (ty3.symm.trans ht')
  show W.var? Tryd.prog _ = _
  rw [hvar, ← cells_of_tab und103 und5 cells5 cells103 hd]
theorem tab64_whole {W : World} (h : laidMet Tryd.prog Rows.fnNumberWholeRow.laid W) : Tab64 W :=
  tab64_of_reads (tz_eq ▸ laidMet.reads h (.tail _ (.head _)))
end Go.Proofs.YtheichpmhfledaaDoor
namespace Go.Proofs.YtheichpmhfledaaDoor.fnNumberWholeCard
open Go.ChangeShapes Go.WideShapes Go.ChangeAt Go.RowKit
open Go.Proofs.YtheichpmhfledaaDoor
set_option linter.unusedVariables false
theorem own : ownKnob Tryd.prog.godebug = none := by kernel_rfl
set_option maxRecDepth 100000 in
theorem laid_met (os : Os) : laidMet Tryd.prog Rows.fnNumberWholeRow.laid ((laidWorld os).forCall (fun _ _ => 0) ⟨#[], #[.int .i32 0, .int .i64 0], []⟩).memory :=
  laidMet_of_run' 8 (by kernel_rfl) (by kernel_rfl)
theorem reads (os : Os) {H : Type} (enc : TypeId × Value → H) : (DataW.whole enc Tryd.prog ((laidWorld os).forCall (fun _ _ => 0) ⟨#[], #[.int .i32 0, .int .i64 0], []⟩).memory Tryd.f4.params.toList Rows.fnNumberWholeSpec.vars false (#[.int .i32 0, .int .i64 0] : Array Value).toList 8).isSome = true := by kernel_rfl
set_option maxRecDepth 100000 in
theorem contract (H : Type) (enc : TypeId × Value → H) : ∀ (W : World) (base : Nat) (args : Array Value) (ds gs : List (DataW H)) (before : List MemPlace),
    (∀ (j : Nat) t v, Tryd.f4.params[j]? = some t → args[j]? = some v → Value.okWide Tryd.prog W .any base t v) →
    DataW.Whole enc Tryd.prog Tryd.f4.params.toList Rows.fnNumberWholeSpec.vars false W args.toList ds gs before →
    Rows.fnNumberWholeRow.domain.all (PathCond.test Tryd.prog ⟨Tryd.f4.params.toList, ds, Rows.fnNumberWholeSpec.plain.varTypes Tryd.prog, gs⟩) = true → True →
    (DataW.weightsEach Tryd.prog (Tryd.f4.params.toList ++ Rows.fnNumberWholeSpec.plain.varTypes Tryd.prog) (ds ++ gs)).all (· ≤ reachBytes) = true →
    laidMet Tryd.prog Rows.fnNumberWholeRow.laid W → True → True →
    Calls Tryd.prog 4 args W fun e W' => ∃ v, e = .returned v ∧ Rows.fnNumberWholeSpec.post enc Tryd.prog Tryd.f4 false true false false W args v W' := by
  intro W base args ds gs before hval0 hW hcnd _ hsz0 hL _ _
  have hsz : (DataW.weightsEach Tryd.prog (Tryd.f4.params.toList ++ Rows.fnNumberWholeSpec.plain.varTypes Tryd.prog) (ds ++ gs)).all (· ≤ reachBytes) = true := hsz0
  have hval : ∀ (j : Nat) t v, Tryd.f4.params[j]? = some t → args[j]? = some v → Value.okWide Tryd.prog W .any base t v := hval0
  have hW' := hW
  obtain ⟨p, q, hA0, hV, rfl, hfz, hnd⟩ := hW
  have hA : DataW.TrodAll enc Tryd.prog W 0 (fun _ => true) true Tryd.f4.params.toList args.toList ds p := hA0
  rw [Tryd.params4] at hA hval hsz
  obtain ⟨v0, vs0, d0, ds0, p0, q0, hargs, rfl, rfl, h0, r0⟩ := trodAll_cons hA
  obtain ⟨v1, vs1, d1, ds1, p1, q1, rfl, rfl, rfl, h1, r1⟩ := trodAll_cons r0
  obtain ⟨rfl, rfl, rfl⟩ := trodAll_nil r1
  obtain rfl : args = #[v0, v1] := by cases args; simp_all
  obtain ⟨rfl, rfl⟩ := trodVars_none hV
  obtain ⟨n, rfl, rfl, rfl, wn⟩ := open_int Tryd.underlying21 (hval 0 21 v0 rfl rfl) h0
  obtain ⟨x, rfl, rfl, rfl, wx⟩ := open_int Tryd.underlying3 (hval 1 3 v1 rfl rfl) h1
  have hn := wn
  simp only [Lit.wf, decide_eq_true_eq, Bool.and_eq_true] at hn
  have hn0 : -2147483648 ≤ n ∧ n ≤ 2147483647 := by
    have hmin : IntKind.i32.min = -2147483648 := by decide
    have hmax : IntKind.i32.max = 2147483647 := by decide
    rw [hmin, hmax] at hn
    exact hn
  clear hA0 hval0 hsz0 hsz
  refine (WLaw.calls n x hn0.1 hn0.2 W (tab64_whole hL) (tab_whole hL)).mono fun e W' ⟨he, bel⟩ => ?_
  subst he
  exact ⟨_, rfl, _, _, _, [], _, [], hW', trodAll_mk1 (shut_bool Tryd.underlying4 _), (trodAll_cons_mk (shut_int Tryd.underlying21 wn) (trodAll_cons_mk (shut_int Tryd.underlying3 wx) trodAll_mk0)), rfl, bel.frame _, fun h => by cases h⟩
set_option maxRecDepth 100000 in
theorem lifted (os : Os) (started : os.Started) (H : Type) (enc : TypeId × Value → H) (F : Stop.Interp) :
    ReturnsInHanded {} Tryd.checked os 4 .any ((OpenSpec.ofChange Rows.fnNumberWholeSpec).preRow enc Tryd.prog Tryd.f4 Rows.fnNumberWholeRow.domain false Rows.fnNumberWholeRow.laid) (((OpenSpec.ofChange Rows.fnNumberWholeSpec).at F).post enc Tryd.prog Tryd.f4 false true false false) := by
  obtain ⟨x, hx⟩ := Option.isSome_iff_exists.1 (reads os enc)
  refine returnsInHanded_of_row (C := Tryd.checked) (s := OpenSpec.ofChange Rows.fnNumberWholeSpec) own started (by kernel_rfl) Tryd.func4
    (witness_row_at (enc := enc) (C := Tryd.checked) false (laidWorld os) #[.int .i32 0, .int .i64 0] rfl (by kernel_rfl) (by kernel_rfl) (by kernel_rfl)
      (OpenSpec.preRow_of_cond 8 hx rfl (fun k hk => by cases hk) (by kernel_rfl) (laid_met os))) ?_
  intro W base args ds gs before hval hW hcnd _ hsz hL _ _
  exact contract H enc W base args ds gs before hval hW hcnd trivial hsz hL trivial trivial

set_option maxRecDepth 100000 in
theorem said : Rows.FnNumberWholeSaid :=
  OpenClaim.holds_of_cond 4 Tryd.f4 rfl rfl rfl rfl rfl rfl rfl ⟨rfl, rfl, rfl, rfl, rfl⟩ rfl rfl rfl rfl rfl (by kernel_rfl) Tryd.func4 (by kernel_rfl)
    (of_decide_eq_true (by kernel_rfl)) (by unfold Func.isWrapper; first | (rw [if_pos (by decide +kernel)]; kernel_rfl) | (rw [if_neg (by decide +kernel)]; exact ⟨rfl, rfl⟩))
    (fun os started H enc _ F => by rw [OpenClaim.pre_eq_preRow]; exact lifted os started H enc F)

set_option maxRecDepth 100000 in
/-- No parameter wants a stand-in; the program's own looks are off: what the card asks. -/
theorem plain (f : FuncId) (fn : Func) (hf : Tryd.pinned.checked.prog.funcNamed "given.example/pub-frisket/laws.FnNumberWhole" = some f) (hfn : Tryd.pinned.checked.prog.funcs[f]? = some fn) :
    false = Tryd.pinned.checked.prog.looks [] ∧ ∀ (j : Nat) t, fn.params[j]? = some t → Tryd.pinned.checked.prog.wantsStandIn t = false := by
  obtain rfl : f = 4 := Option.some.inj ((show Tryd.prog.funcNamed "given.example/pub-frisket/laws.FnNumberWhole" = some 4 by kernel_rfl).symm.trans hf) |>.symm
  obtain rfl : fn = Tryd.f4 := (Option.some.inj (Tryd.func4.symm.trans hfn)).symm
  refine ⟨by kernel_rfl, fun j t ht => ?_⟩
  rw [Tryd.params4] at ht
  have hm : t ∈ ([21, 3] : List TypeId) := by simpa using Array.mem_of_getElem? ht
  simp only [List.mem_cons, List.mem_nil_iff, or_false] at hm
  rcases hm with rfl | rfl
  all_goals first | exact (show Tryd.prog.wantsStandIn 21 = false by kernel_rfl) | exact (show Tryd.prog.wantsStandIn 3 = false by kernel_rfl)

set_option maxRecDepth 100000 in
theorem card : Rows.FnNumberWholeCardSaid :=
  Claim7.holds_tied_plain_at .later [] _ _ _ _ said (fun _ h => by cases h) (by kernel_rfl) (fun _ h => by cases h) fnNumberWhole_row_tie rfl ⟨rfl, rfl⟩ (by kernel_rfl) rfl plain (by kernel_rfl)
#print axioms card
end Go.Proofs.YtheichpmhfledaaDoor.fnNumberWholeCard
namespace Go.Proofs.YtheichpmhfledaaDoor
/-- The card, under a short name, for the claim. -/
theorem fnNumberWholeCard_holds : Rows.FnNumberWholeCardSaid := fnNumberWholeCard.card
end Go.Proofs.YtheichpmhfledaaDoor
