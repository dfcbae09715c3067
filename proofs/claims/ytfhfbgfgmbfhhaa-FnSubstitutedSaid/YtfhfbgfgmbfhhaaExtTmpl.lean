/- config.TemplateToString, walked: the text that a template is told as. -/
import Derived.Test.YtfhfbgfgmbfhhaaExtBuild
import Derived.Test.YtfhfbgfgmbfhhaaExtGet
set_option linter.unusedVariables false
namespace Go.Proofs.Ytfhfbgfgmbfhhaa
open Go.RowKit Go.Proofs.YtfhfbgfgmbfhhaaW.PrintWords Go.Proofs.YtfhfbgfgmbfhhaaW.PrintMore Go.Proofs.Ytfhfbgfgmbfhhaa.PFnSubstituted
/-- A placeholder's name in brackets. -/
def nameB (c : Int) : ByteArray := pick4 (⟨#[]⟩ : ByteArray) ⟨#[91, 100, 105, 114, 93]⟩ ⟨#[91, 110, 97, 109, 101, 93]⟩ ⟨#[91, 104, 97, 115, 104, 93]⟩ ⟨#[91, 101, 120, 116, 93]⟩ c
/-- The bytes that a template is told as. -/
def rend (l : List S35) : List UInt8 := l.flatMap fun x => x.f0.data.toList ++ (nameB x.f1).data.toList
theorem rend_append (a b : List S35) : rend (a ++ b) = rend a ++ rend b := by simp [rend]
theorem rend_one (x : S35) : rend [x] = x.f0.data.toList ++ (nameB x.f1).data.toList := by simp [rend]
theorem take_succ_rd (l : List S35) (i : Nat) (h : i < l.length) : l.take (i + 1) = l.take i ++ [rd_T35 l i] := by
  rw [List.take_succ_eq_append_getElem h]
  simp [rd_T35, List.getD, h]
theorem rend_take_le (l : List S35) (i : Nat) : (rend (l.take i)).length ≤ (rend l).length := by
  have h := rend_append (l.take i) (l.drop i)
  rw [List.take_append_drop] at h
  rw [h]
  simp
theorem rend_single (l : List S35) (h1 : l.length = 1) (h2 : (rd_T35 l 0).f1 = 0) : (⟨(rend l).toArray⟩ : ByteArray) = (rd_T35 l 0).f0 := by
  obtain ⟨x, rfl⟩ := List.length_eq_one_iff.1 h1
  have e : rd_T35 [x] 0 = x := rfl
  rw [e] at h2 ⊢
  rw [rend_one, h2]
  have e2 : (nameB 0).data.toList = [] := rfl
  rw [e2, List.append_nil]
theorem bldF_below {B b : Nat} {p : Value} {bs : List Value} {w w' : World} (h : Lib.BuilderAtF 49 5 B b p bs w) (hb : Below w.heap.size w w') : Lib.BuilderAtF 49 5 B b p bs w' := by
  have hlt := h.lt
  obtain ⟨hB, v, hx, hown, hne⟩ := h
  refine ⟨hB, v, (hb.block b hlt).trans hx, hown.kept (row := none) ⟨hb.os, hb.tape, hb.output, hb.size, fun k hk _ => hb.block k hk⟩ ?_, hne⟩
  cases hv : v.ownBlock <;> simp
theorem isB_below {B b : Nat} {bs : List Value} {w w' : World} (h : Lib.IsBuilderF 49 5 B b bs w) (hb : Below w.heap.size w w') : Lib.IsBuilderF 49 5 B b bs w' :=
  h.elim (fun x => .inl (bldF_below x hb)) (fun x => .inr (bldF_below x hb))
theorem isB_new {B b : Nat} {w : World} (hB : B ≤ b) (h : w.heap[b]? = some (.cells #[.pointer none, .slice none 0 0] 49 (0, 0))) : Lib.IsBuilderF 49 5 B b [] w :=
  .inl ⟨hB, .slice none 0 0, h, ⟨rfl, .inl ⟨rfl, rfl⟩⟩, by simp [Value.ownBlock]⟩
theorem meas_step {n i : Nat} (h : i < n) (hw : wrap64 ((i : Int) + 1) = ((i + 1 : Nat) : Int)) : n - (intOf (.int .i64 (wrap64 ((i : Int) + 1)))).toNat < n - (intOf (.int .i64 (i : Int))).toNat := by
  rw [hw]
  show n - ((i + 1 : Nat) : Int).toNat < n - ((i : Int)).toNat
  rw [Int.toNat_natCast, Int.toNat_natCast]
  omega
/-- A box that stands at g in w1 was not there in w. -/
theorem isB_box {B b g : Nat} {bs : List Value} {w w1 : World} (h : Lib.IsBuilderF 49 5 B b bs w) (hg : g = w.heap.size) (hb : Below w.heap.size w w1) (i j : Nat) (u v : Value) :
    Lib.IsBuilderF 49 5 B b bs ((w1.setCell ⟨g, i, none⟩ u).setCell ⟨g, j, none⟩ v) := by
  subst hg
  exact isB_below h ((hb.setCell (p := ⟨w.heap.size, i, none⟩) (Nat.le_refl _) u).setCell (p := ⟨w.heap.size, j, none⟩) (Nat.le_refl _) v)
theorem isB_lt {B b : Nat} {bs : List Value} {w : World} (h : Lib.IsBuilderF 49 5 B b bs w) : b < w.heap.size := by
  rcases h with h | h
  · exact h.lt
  · exact h.lt
theorem fits_in {t s n r : List UInt8} (h : r = t ++ (s ++ n)) {m : Nat} (hr : r.length ≤ m) : (Lib.byteCells t).length + s.length ≤ m ∧ (Lib.byteCells (t ++ s)).length + n.length ≤ m := by
  subst h
  rw [Lib.byteCells_length, Lib.byteCells_length]
  simp at hr ⊢
  omega
theorem kept_box {b g : Nat} {s : ByteArray} {c : Int} {w7 w8 : World} (hX : w7.heap[g]? = some (.cells #[.string (⟨#[]⟩ : ByteArray), .int .u8 0] 35 (0, 0))) (hne : b < g)
    (hk : Lib.OthersKept 5 (some b) ((w7.setCell ⟨g, 0, none⟩ (.string s)).setCell ⟨g, 1, none⟩ (.int .u8 c)) w8) : w8.heap[g]? = some (.cells #[.string s, .int .u8 c] 35 (0, 0)) :=
  hk g _ (blk_put (blk_put hX 0 (.string s) rfl) 1 (.int .u8 c) rfl) (fun e => by have := Option.some.inj e; omega) (fun _ _ e => by injection e with _ e _; cases e)
set_option maxHeartbeats 4000000 in
set_option maxRecDepth 100000 in
theorem ToString.calls (A0 : Option Addr) (c0 : Nat) (l0 : List S35) (w : World) (hr0 : Kd.C k35 w A0 l0.length l0) (hc0 : l0.length ≤ c0) (hsz : (rend l0).length ≤ 140737488355328) (hll : l0.length ≤ 2147483647) :
    Calls Try.prog 9 #[.slice A0 l0.length c0] w fun e w' => e = .returned (.string ⟨(rend l0).toArray⟩) ∧ Below w.heap.size w w' := by
  have HR0 := Lib.hid hr0
  clear hr0
  by_cases h1 : l0.length = 1 ∧ (rd_T35 l0 0).f1 = 0
  · have HE := Lib.hid (rend_single l0 h1.1 h1.2)
    have b1 : ((l0.length : Int) == 1) = true := by simp; omega
    have b2 : ((rd_T35 l0 0).f1 == 0) = true := beq_iff_eq.mpr h1.2
    obtain ⟨ad, e0, x0, x1⟩ := at_T35 HR0.out 0 (by decide) (by omega)
    cases e0
    have b3 : ((0 : Int) < (l0.length : Int)) = True := eq_true (by omega)
    have b4 : (0 < l0.length) = True := eq_true (by omega)
    have ea : ad.add (Int.toNat 0 * 2) = ad := by unfold Addr.add; split <;> simp_all
    rw [ea] at x0 x1
    clear ea h1
    go_enter Try.func9, Try.ntmps9
    go_wp2
    go_ret
    exact ⟨by rw [HE.out]; rfl, Below.refl _ _⟩
  · by_cases h2 : l0.length = 1
    · have b1 : ((l0.length : Int) == 1) = true := by simp; omega
      have b2 : ((rd_T35 l0 0).f1 == 0) = false := beq_eq_false_iff_ne.mpr (fun e => h1 ⟨h2, e⟩)
      obtain ⟨ad, e0, x0, x1⟩ := at_T35 HR0.out 0 (by decide) (by omega)
      cases e0
      have b3 : ((0 : Int) < (l0.length : Int)) = True := eq_true (by omega)
      have b4 : (0 < l0.length) = True := eq_true (by omega)
      have ea : ad.add (Int.toNat 0 * 2) = ad := by unfold Addr.add; split <;> simp_all
      rw [ea] at x0 x1
      clear ea h1 h2
      go_enter Try.func9, Try.ntmps9
      go_wp2
      go_loopw [23] (fun v23 wr => ∃ (i : Nat), v23 = .int .i64 (i : Int) ∧ i ≤ l0.length ∧ Hid (Lib.IsBuilderF 49 5 w.heap.size w.heap.size (Lib.byteCells (rend (l0.take i))) wr) ∧ Hid (Below w.heap.size w wr)) (fun v23 _ => l0.length - (intOf v23).toNat)
      case atStart => exact ⟨0, rfl, Nat.zero_le _, Lib.hid (isB_new (Nat.le_refl _) (heap_alloc_new w _)), Lib.hid (below_alloc (Below.refl _ _) _)⟩
      case round =>
        obtain ⟨i, rfl, hi, HI, HB⟩ := hrel
        by_cases hlt : i < l0.length
        · clear x0 x1 b2 b3 b4
          have p1 : (0 : Int) ≤ (i : Int) := by omega
          have q1 : (i : Int) < (l0.length : Int) := by omega
          have d1 : decide ((i : Int) < (l0.length : Int)) = true := decide_eq_true q1
          have d2 : decide (i < l0.length) = true := decide_eq_true hlt
          have hw : wrap64 ((i : Int) + 1) = ((i + 1 : Nat) : Int) := by unfold wrap64; omega
          have HT := Lib.hid (show rend (l0.take (i + 1)) = rend (l0.take i) ++ ((rd_T35 l0 i).f0.data.toList ++ (nameB (rd_T35 l0 i).f1).data.toList) by rw [take_succ_rd l0 i hlt, rend_append, rend_one])
          have HL := Lib.hid (fits_in HT.out (Nat.le_trans (rend_take_le l0 (i + 1)) hsz))
          have HS := Lib.hid (isB_lt HI.out)
          obtain ⟨ad, e1, x0, x1⟩ := at_T35 HR0.out i p1 q1
          cases e1
          rw [Int.toNat_natCast] at x0 x1
          replace x0 := (HB.out.cell (World.block_lt_of_cell? w _ x0)).trans x0
          replace x1 := (HB.out.cell (World.block_lt_of_cell? w _ x1)).trans x1
          generalize rd_T35 l0 i = x at *
          obtain ⟨s, c⟩ := x
          have HZ := Lib.hid hlt
          clear hi hlt
          replace p1 := eq_true p1
          replace q1 := eq_true q1
          by_cases h1 : c = 1
          · as_aux_lemma =>
            subst h1
            have e1 : nameB 1 = ⟨#[91, 100, 105, 114, 93]⟩ := rfl
            rw [e1] at HT HL
            clear e1
            go_wp2_with (first
              | ((with_reducible refine gate_dst (N := 5) rfl ?_); refine box_event ?hg (N := 5) ?hd (cs := #[.string (⟨#[]⟩ : ByteArray), .int .u8 0]) (t := 35) ?hr ?_; (case hd => rfl); (case hg => rfl); (case hr => first | (go_simp; done) | (go_simp; rfl)); intro gb hg w7 hbox hb; have HG := Lib.hid hg; have HX := Lib.hid hbox; have HY := Lib.hid hb; clear hg hbox hb; have z0 : w7.cell? ⟨gb, 0, none⟩ = some (.string (⟨#[]⟩ : ByteArray)) := (blk_cell HX.out 0).trans rfl; have z1 : w7.cell? ⟨gb, 1, none⟩ = some (.int .u8 0) := (blk_cell HX.out 1).trans rfl; have fz0 := blk_frozen HX.out 0; have fz1 := blk_frozen HX.out 1)
              | (go_at_call 11; (with_reducible refine (WriteString_k w.heap.size w.heap.size _ s _ (isB_box HI.out HG.out HY.out 0 1 _ _) ?q2 ?q3).mono ?_); (case q2 => exact HL.out.1); (case q3 => have h1 := HS.out; have h2 := HY.out.size; simp only [World.size_setCell]; omega); rintro e w8 ⟨rfl, hB8, hb8, hk8⟩; have HB8 := Lib.hid (show Lib.IsBuilderF 49 5 w.heap.size w.heap.size (Lib.byteCells (rend (l0.take i) ++ s.data.toList)) w8 by rw [Lib.byteCells_append, ← Lib.strCells_eq]; exact .inr hB8); have hx8 := kept_box HX.out (by have h1 := HS.out; have h2 := HG.out; omega) hk8; have y1 := (blk_cell hx8 1).trans rfl; have HW8 := Lib.hid (below_step HB.out ((HY.out.setCell (p := ⟨gb, 0, none⟩) (Nat.le_of_eq HG.out.symm) (.string s)).setCell (p := ⟨gb, 1, none⟩) (Nat.le_of_eq HG.out.symm) (.int .u8 1))); have HV8 := Lib.hid (HW8.out.trans hb8); clear hB8 hb8 hk8 hx8)
              | (go_at_call 11; (with_reducible refine (WriteString_k w.heap.size w.heap.size _ ⟨#[91, 100, 105, 114, 93]⟩ _ HB8.out ?q2 ?q3).mono ?_); (case q2 => exact HL.out.2); (case q3 => have h1 := isB_lt HB8.out; omega); rintro e w9 ⟨rfl, hB9, hb9, hk9⟩; have HB9 := Lib.hid (show Lib.IsBuilderF 49 5 w.heap.size w.heap.size (Lib.byteCells ((rend (l0.take i) ++ s.data.toList) ++ (⟨#[91, 100, 105, 114, 93]⟩ : ByteArray).data.toList)) w9 by rw [Lib.byteCells_append, ← Lib.strCells_eq ⟨#[91, 100, 105, 114, 93]⟩]; exact .inr hB9); have HV9 := Lib.hid (HV8.out.trans hb9); clear hB9 hb9 hk9))
            go_roundw
            case rel => exact ⟨i + 1, by first | rfl | rw [hw], HZ.out, Lib.hid (by rw [HT.out, ← List.append_assoc]; exact HB9.out), HV9⟩
            case measure => exact meas_step HZ.out hw
          have b1 : (c == 1) = false := beq_eq_false_iff_ne.mpr h1
          by_cases h2 : c = 2
          · as_aux_lemma =>
            subst h2
            have e2 : nameB 2 = ⟨#[91, 110, 97, 109, 101, 93]⟩ := rfl
            rw [e2] at HT HL
            clear e2
            go_wp2_with (first
              | ((with_reducible refine gate_dst (N := 5) rfl ?_); refine box_event ?hg (N := 5) ?hd (cs := #[.string (⟨#[]⟩ : ByteArray), .int .u8 0]) (t := 35) ?hr ?_; (case hd => rfl); (case hg => rfl); (case hr => first | (go_simp; done) | (go_simp; rfl)); intro gb hg w7 hbox hb; have HG := Lib.hid hg; have HX := Lib.hid hbox; have HY := Lib.hid hb; clear hg hbox hb; have z0 : w7.cell? ⟨gb, 0, none⟩ = some (.string (⟨#[]⟩ : ByteArray)) := (blk_cell HX.out 0).trans rfl; have z1 : w7.cell? ⟨gb, 1, none⟩ = some (.int .u8 0) := (blk_cell HX.out 1).trans rfl; have fz0 := blk_frozen HX.out 0; have fz1 := blk_frozen HX.out 1)
              | (go_at_call 11; (with_reducible refine (WriteString_k w.heap.size w.heap.size _ s _ (isB_box HI.out HG.out HY.out 0 1 _ _) ?q2 ?q3).mono ?_); (case q2 => exact HL.out.1); (case q3 => have h1 := HS.out; have h2 := HY.out.size; simp only [World.size_setCell]; omega); rintro e w8 ⟨rfl, hB8, hb8, hk8⟩; have HB8 := Lib.hid (show Lib.IsBuilderF 49 5 w.heap.size w.heap.size (Lib.byteCells (rend (l0.take i) ++ s.data.toList)) w8 by rw [Lib.byteCells_append, ← Lib.strCells_eq]; exact .inr hB8); have hx8 := kept_box HX.out (by have h1 := HS.out; have h2 := HG.out; omega) hk8; have y1 := (blk_cell hx8 1).trans rfl; have HW8 := Lib.hid (below_step HB.out ((HY.out.setCell (p := ⟨gb, 0, none⟩) (Nat.le_of_eq HG.out.symm) (.string s)).setCell (p := ⟨gb, 1, none⟩) (Nat.le_of_eq HG.out.symm) (.int .u8 2))); have HV8 := Lib.hid (HW8.out.trans hb8); clear hB8 hb8 hk8 hx8)
              | (go_at_call 11; (with_reducible refine (WriteString_k w.heap.size w.heap.size _ ⟨#[91, 110, 97, 109, 101, 93]⟩ _ HB8.out ?q2 ?q3).mono ?_); (case q2 => exact HL.out.2); (case q3 => have h1 := isB_lt HB8.out; omega); rintro e w9 ⟨rfl, hB9, hb9, hk9⟩; have HB9 := Lib.hid (show Lib.IsBuilderF 49 5 w.heap.size w.heap.size (Lib.byteCells ((rend (l0.take i) ++ s.data.toList) ++ (⟨#[91, 110, 97, 109, 101, 93]⟩ : ByteArray).data.toList)) w9 by rw [Lib.byteCells_append, ← Lib.strCells_eq ⟨#[91, 110, 97, 109, 101, 93]⟩]; exact .inr hB9); have HV9 := Lib.hid (HV8.out.trans hb9); clear hB9 hb9 hk9))
            go_roundw
            case rel => exact ⟨i + 1, by first | rfl | rw [hw], HZ.out, Lib.hid (by rw [HT.out, ← List.append_assoc]; exact HB9.out), HV9⟩
            case measure => exact meas_step HZ.out hw
          have b2 : (c == 2) = false := beq_eq_false_iff_ne.mpr h2
          by_cases h3 : c = 3
          · as_aux_lemma =>
            subst h3
            have e3 : nameB 3 = ⟨#[91, 104, 97, 115, 104, 93]⟩ := rfl
            rw [e3] at HT HL
            clear e3
            go_wp2_with (first
              | ((with_reducible refine gate_dst (N := 5) rfl ?_); refine box_event ?hg (N := 5) ?hd (cs := #[.string (⟨#[]⟩ : ByteArray), .int .u8 0]) (t := 35) ?hr ?_; (case hd => rfl); (case hg => rfl); (case hr => first | (go_simp; done) | (go_simp; rfl)); intro gb hg w7 hbox hb; have HG := Lib.hid hg; have HX := Lib.hid hbox; have HY := Lib.hid hb; clear hg hbox hb; have z0 : w7.cell? ⟨gb, 0, none⟩ = some (.string (⟨#[]⟩ : ByteArray)) := (blk_cell HX.out 0).trans rfl; have z1 : w7.cell? ⟨gb, 1, none⟩ = some (.int .u8 0) := (blk_cell HX.out 1).trans rfl; have fz0 := blk_frozen HX.out 0; have fz1 := blk_frozen HX.out 1)
              | (go_at_call 11; (with_reducible refine (WriteString_k w.heap.size w.heap.size _ s _ (isB_box HI.out HG.out HY.out 0 1 _ _) ?q2 ?q3).mono ?_); (case q2 => exact HL.out.1); (case q3 => have h1 := HS.out; have h2 := HY.out.size; simp only [World.size_setCell]; omega); rintro e w8 ⟨rfl, hB8, hb8, hk8⟩; have HB8 := Lib.hid (show Lib.IsBuilderF 49 5 w.heap.size w.heap.size (Lib.byteCells (rend (l0.take i) ++ s.data.toList)) w8 by rw [Lib.byteCells_append, ← Lib.strCells_eq]; exact .inr hB8); have hx8 := kept_box HX.out (by have h1 := HS.out; have h2 := HG.out; omega) hk8; have y1 := (blk_cell hx8 1).trans rfl; have HW8 := Lib.hid (below_step HB.out ((HY.out.setCell (p := ⟨gb, 0, none⟩) (Nat.le_of_eq HG.out.symm) (.string s)).setCell (p := ⟨gb, 1, none⟩) (Nat.le_of_eq HG.out.symm) (.int .u8 3))); have HV8 := Lib.hid (HW8.out.trans hb8); clear hB8 hb8 hk8 hx8)
              | (go_at_call 11; (with_reducible refine (WriteString_k w.heap.size w.heap.size _ ⟨#[91, 104, 97, 115, 104, 93]⟩ _ HB8.out ?q2 ?q3).mono ?_); (case q2 => exact HL.out.2); (case q3 => have h1 := isB_lt HB8.out; omega); rintro e w9 ⟨rfl, hB9, hb9, hk9⟩; have HB9 := Lib.hid (show Lib.IsBuilderF 49 5 w.heap.size w.heap.size (Lib.byteCells ((rend (l0.take i) ++ s.data.toList) ++ (⟨#[91, 104, 97, 115, 104, 93]⟩ : ByteArray).data.toList)) w9 by rw [Lib.byteCells_append, ← Lib.strCells_eq ⟨#[91, 104, 97, 115, 104, 93]⟩]; exact .inr hB9); have HV9 := Lib.hid (HV8.out.trans hb9); clear hB9 hb9 hk9))
            go_roundw
            case rel => exact ⟨i + 1, by first | rfl | rw [hw], HZ.out, Lib.hid (by rw [HT.out, ← List.append_assoc]; exact HB9.out), HV9⟩
            case measure => exact meas_step HZ.out hw
          have b3 : (c == 3) = false := beq_eq_false_iff_ne.mpr h3
          by_cases h4 : c = 4
          · as_aux_lemma =>
            subst h4
            have e4 : nameB 4 = ⟨#[91, 101, 120, 116, 93]⟩ := rfl
            rw [e4] at HT HL
            clear e4
            go_wp2_with (first
              | ((with_reducible refine gate_dst (N := 5) rfl ?_); refine box_event ?hg (N := 5) ?hd (cs := #[.string (⟨#[]⟩ : ByteArray), .int .u8 0]) (t := 35) ?hr ?_; (case hd => rfl); (case hg => rfl); (case hr => first | (go_simp; done) | (go_simp; rfl)); intro gb hg w7 hbox hb; have HG := Lib.hid hg; have HX := Lib.hid hbox; have HY := Lib.hid hb; clear hg hbox hb; have z0 : w7.cell? ⟨gb, 0, none⟩ = some (.string (⟨#[]⟩ : ByteArray)) := (blk_cell HX.out 0).trans rfl; have z1 : w7.cell? ⟨gb, 1, none⟩ = some (.int .u8 0) := (blk_cell HX.out 1).trans rfl; have fz0 := blk_frozen HX.out 0; have fz1 := blk_frozen HX.out 1)
              | (go_at_call 11; (with_reducible refine (WriteString_k w.heap.size w.heap.size _ s _ (isB_box HI.out HG.out HY.out 0 1 _ _) ?q2 ?q3).mono ?_); (case q2 => exact HL.out.1); (case q3 => have h1 := HS.out; have h2 := HY.out.size; simp only [World.size_setCell]; omega); rintro e w8 ⟨rfl, hB8, hb8, hk8⟩; have HB8 := Lib.hid (show Lib.IsBuilderF 49 5 w.heap.size w.heap.size (Lib.byteCells (rend (l0.take i) ++ s.data.toList)) w8 by rw [Lib.byteCells_append, ← Lib.strCells_eq]; exact .inr hB8); have hx8 := kept_box HX.out (by have h1 := HS.out; have h2 := HG.out; omega) hk8; have y1 := (blk_cell hx8 1).trans rfl; have HW8 := Lib.hid (below_step HB.out ((HY.out.setCell (p := ⟨gb, 0, none⟩) (Nat.le_of_eq HG.out.symm) (.string s)).setCell (p := ⟨gb, 1, none⟩) (Nat.le_of_eq HG.out.symm) (.int .u8 4))); have HV8 := Lib.hid (HW8.out.trans hb8); clear hB8 hb8 hk8 hx8)
              | (go_at_call 11; (with_reducible refine (WriteString_k w.heap.size w.heap.size _ ⟨#[91, 101, 120, 116, 93]⟩ _ HB8.out ?q2 ?q3).mono ?_); (case q2 => exact HL.out.2); (case q3 => have h1 := isB_lt HB8.out; omega); rintro e w9 ⟨rfl, hB9, hb9, hk9⟩; have HB9 := Lib.hid (show Lib.IsBuilderF 49 5 w.heap.size w.heap.size (Lib.byteCells ((rend (l0.take i) ++ s.data.toList) ++ (⟨#[91, 101, 120, 116, 93]⟩ : ByteArray).data.toList)) w9 by rw [Lib.byteCells_append, ← Lib.strCells_eq ⟨#[91, 101, 120, 116, 93]⟩]; exact .inr hB9); have HV9 := Lib.hid (HV8.out.trans hb9); clear hB9 hb9 hk9))
            go_roundw
            case rel => exact ⟨i + 1, by first | rfl | rw [hw], HZ.out, Lib.hid (by rw [HT.out, ← List.append_assoc]; exact HB9.out), HV9⟩
            case measure => exact meas_step HZ.out hw
          have b4 : (c == 4) = false := beq_eq_false_iff_ne.mpr h4
          have HE := Lib.hid (show nameB c = ⟨#[]⟩ by unfold nameB pick4; rw [if_neg h1, if_neg h2, if_neg h3, if_neg h4])
          clear h1 h2 h3 h4
          as_aux_lemma =>
          go_wp2_with (first
            | ((with_reducible refine gate_dst (N := 5) rfl ?_); refine box_event ?hg (N := 5) ?hd (cs := #[.string (⟨#[]⟩ : ByteArray), .int .u8 0]) (t := 35) ?hr ?_; (case hd => rfl); (case hg => rfl); (case hr => first | (go_simp; done) | (go_simp; rfl)); intro gb hg w7 hbox hb; have HG := Lib.hid hg; have HX := Lib.hid hbox; have HY := Lib.hid hb; clear hg hbox hb; have z0 : w7.cell? ⟨gb, 0, none⟩ = some (.string (⟨#[]⟩ : ByteArray)) := (blk_cell HX.out 0).trans rfl; have z1 : w7.cell? ⟨gb, 1, none⟩ = some (.int .u8 0) := (blk_cell HX.out 1).trans rfl; have fz0 := blk_frozen HX.out 0; have fz1 := blk_frozen HX.out 1)
            | (go_at_call 11; (with_reducible refine (WriteString_k w.heap.size w.heap.size _ s _ (isB_box HI.out HG.out HY.out 0 1 _ _) ?q2 ?q3).mono ?_); (case q2 => exact HL.out.1); (case q3 => have h1 := HS.out; have h2 := HY.out.size; simp only [World.size_setCell]; omega); rintro e w8 ⟨rfl, hB8, hb8, hk8⟩; have HB8 := Lib.hid (show Lib.IsBuilderF 49 5 w.heap.size w.heap.size (Lib.byteCells (rend (l0.take i) ++ s.data.toList)) w8 by rw [Lib.byteCells_append, ← Lib.strCells_eq]; exact .inr hB8); have hx8 := kept_box HX.out (by have h1 := HS.out; have h2 := HG.out; omega) hk8; have y1 := (blk_cell hx8 1).trans rfl; have HW8 := Lib.hid (below_step HB.out ((HY.out.setCell (p := ⟨gb, 0, none⟩) (Nat.le_of_eq HG.out.symm) (.string s)).setCell (p := ⟨gb, 1, none⟩) (Nat.le_of_eq HG.out.symm) (.int .u8 c))); have HV8 := Lib.hid (HW8.out.trans hb8); clear hB8 hb8 hk8 hx8))
          go_roundw
          case rel => exact ⟨i + 1, by first | rfl | rw [hw], HZ.out, Lib.hid (by rw [HT.out, HE.out, show ((⟨#[]⟩ : ByteArray).data.toList) = [] from rfl, List.append_nil]; exact HB8.out), HV8⟩
          case measure => exact meas_step HZ.out hw
        · have d1 : decide ((i : Int) < (l0.length : Int)) = false := decide_eq_false (by omega)
          have d2 : decide (i < l0.length) = false := decide_eq_false hlt
          have HI2 := Lib.hid (show Lib.IsBuilderF 49 5 w.heap.size w.heap.size (Lib.byteCells (rend l0)) wr by have h := HI.out; rw [List.take_of_length_le (by omega)] at h; exact h)
          clear hi hlt HI
          go_wp2_with (first | (go_at_call 12; (refine (String_any w.heap.size w.heap.size (rend l0) _ HI2.out ?q1).mono ?_); (case q1 => have := isB_lt HI2.out; omega); rintro e w9 ⟨rfl, _, hb9⟩))
          go_ret
          exact ⟨rfl, HB.out.trans hb9⟩
    · have b1 : ((l0.length : Int) == 1) = false := by simp; omega
      clear h1 h2
      go_enter Try.func9, Try.ntmps9
      go_wp2
      go_loopw [23] (fun v23 wr => ∃ (i : Nat), v23 = .int .i64 (i : Int) ∧ i ≤ l0.length ∧ Hid (Lib.IsBuilderF 49 5 w.heap.size w.heap.size (Lib.byteCells (rend (l0.take i))) wr) ∧ Hid (Below w.heap.size w wr)) (fun v23 _ => l0.length - (intOf v23).toNat)
      case atStart => exact ⟨0, rfl, Nat.zero_le _, Lib.hid (isB_new (Nat.le_refl _) (heap_alloc_new w _)), Lib.hid (below_alloc (Below.refl _ _) _)⟩
      case round =>
        obtain ⟨i, rfl, hi, HI, HB⟩ := hrel
        by_cases hlt : i < l0.length
        · have p1 : (0 : Int) ≤ (i : Int) := by omega
          have q1 : (i : Int) < (l0.length : Int) := by omega
          have d1 : decide ((i : Int) < (l0.length : Int)) = true := decide_eq_true q1
          have d2 : decide (i < l0.length) = true := decide_eq_true hlt
          have hw : wrap64 ((i : Int) + 1) = ((i + 1 : Nat) : Int) := by unfold wrap64; omega
          have HT := Lib.hid (show rend (l0.take (i + 1)) = rend (l0.take i) ++ ((rd_T35 l0 i).f0.data.toList ++ (nameB (rd_T35 l0 i).f1).data.toList) by rw [take_succ_rd l0 i hlt, rend_append, rend_one])
          have HL := Lib.hid (fits_in HT.out (Nat.le_trans (rend_take_le l0 (i + 1)) hsz))
          have HS := Lib.hid (isB_lt HI.out)
          obtain ⟨ad, e1, x0, x1⟩ := at_T35 HR0.out i p1 q1
          cases e1
          rw [Int.toNat_natCast] at x0 x1
          replace x0 := (HB.out.cell (World.block_lt_of_cell? w _ x0)).trans x0
          replace x1 := (HB.out.cell (World.block_lt_of_cell? w _ x1)).trans x1
          generalize rd_T35 l0 i = x at *
          obtain ⟨s, c⟩ := x
          have HZ := Lib.hid hlt
          clear hi hlt
          replace p1 := eq_true p1
          replace q1 := eq_true q1
          by_cases h1 : c = 1
          · as_aux_lemma =>
            subst h1
            have e1 : nameB 1 = ⟨#[91, 100, 105, 114, 93]⟩ := rfl
            rw [e1] at HT HL
            clear e1
            go_wp2_with (first
              | ((with_reducible refine gate_dst (N := 5) rfl ?_); refine box_event ?hg (N := 5) ?hd (cs := #[.string (⟨#[]⟩ : ByteArray), .int .u8 0]) (t := 35) ?hr ?_; (case hd => rfl); (case hg => rfl); (case hr => first | (go_simp; done) | (go_simp; rfl)); intro gb hg w7 hbox hb; have HG := Lib.hid hg; have HX := Lib.hid hbox; have HY := Lib.hid hb; clear hg hbox hb; have z0 : w7.cell? ⟨gb, 0, none⟩ = some (.string (⟨#[]⟩ : ByteArray)) := (blk_cell HX.out 0).trans rfl; have z1 : w7.cell? ⟨gb, 1, none⟩ = some (.int .u8 0) := (blk_cell HX.out 1).trans rfl; have fz0 := blk_frozen HX.out 0; have fz1 := blk_frozen HX.out 1)
              | (go_at_call 11; (with_reducible refine (WriteString_k w.heap.size w.heap.size _ s _ (isB_box HI.out HG.out HY.out 0 1 _ _) ?q2 ?q3).mono ?_); (case q2 => exact HL.out.1); (case q3 => have h1 := HS.out; have h2 := HY.out.size; simp only [World.size_setCell]; omega); rintro e w8 ⟨rfl, hB8, hb8, hk8⟩; have HB8 := Lib.hid (show Lib.IsBuilderF 49 5 w.heap.size w.heap.size (Lib.byteCells (rend (l0.take i) ++ s.data.toList)) w8 by rw [Lib.byteCells_append, ← Lib.strCells_eq]; exact .inr hB8); have hx8 := kept_box HX.out (by have h1 := HS.out; have h2 := HG.out; omega) hk8; have y1 := (blk_cell hx8 1).trans rfl; have HW8 := Lib.hid (below_step HB.out ((HY.out.setCell (p := ⟨gb, 0, none⟩) (Nat.le_of_eq HG.out.symm) (.string s)).setCell (p := ⟨gb, 1, none⟩) (Nat.le_of_eq HG.out.symm) (.int .u8 1))); have HV8 := Lib.hid (HW8.out.trans hb8); clear hB8 hb8 hk8 hx8)
              | (go_at_call 11; (with_reducible refine (WriteString_k w.heap.size w.heap.size _ ⟨#[91, 100, 105, 114, 93]⟩ _ HB8.out ?q2 ?q3).mono ?_); (case q2 => exact HL.out.2); (case q3 => have h1 := isB_lt HB8.out; omega); rintro e w9 ⟨rfl, hB9, hb9, hk9⟩; have HB9 := Lib.hid (show Lib.IsBuilderF 49 5 w.heap.size w.heap.size (Lib.byteCells ((rend (l0.take i) ++ s.data.toList) ++ (⟨#[91, 100, 105, 114, 93]⟩ : ByteArray).data.toList)) w9 by rw [Lib.byteCells_append, ← Lib.strCells_eq ⟨#[91, 100, 105, 114, 93]⟩]; exact .inr hB9); have HV9 := Lib.hid (HV8.out.trans hb9); clear hB9 hb9 hk9))
            go_roundw
            case rel => exact ⟨i + 1, by first | rfl | rw [hw], HZ.out, Lib.hid (by rw [HT.out, ← List.append_assoc]; exact HB9.out), HV9⟩
            case measure => exact meas_step HZ.out hw
          have b1 : (c == 1) = false := beq_eq_false_iff_ne.mpr h1
          by_cases h2 : c = 2
          · as_aux_lemma =>
            subst h2
            have e2 : nameB 2 = ⟨#[91, 110, 97, 109, 101, 93]⟩ := rfl
            rw [e2] at HT HL
            clear e2
            go_wp2_with (first
              | ((with_reducible refine gate_dst (N := 5) rfl ?_); refine box_event ?hg (N := 5) ?hd (cs := #[.string (⟨#[]⟩ : ByteArray), .int .u8 0]) (t := 35) ?hr ?_; (case hd => rfl); (case hg => rfl); (case hr => first | (go_simp; done) | (go_simp; rfl)); intro gb hg w7 hbox hb; have HG := Lib.hid hg; have HX := Lib.hid hbox; have HY := Lib.hid hb; clear hg hbox hb; have z0 : w7.cell? ⟨gb, 0, none⟩ = some (.string (⟨#[]⟩ : ByteArray)) := (blk_cell HX.out 0).trans rfl; have z1 : w7.cell? ⟨gb, 1, none⟩ = some (.int .u8 0) := (blk_cell HX.out 1).trans rfl; have fz0 := blk_frozen HX.out 0; have fz1 := blk_frozen HX.out 1)
              | (go_at_call 11; (with_reducible refine (WriteString_k w.heap.size w.heap.size _ s _ (isB_box HI.out HG.out HY.out 0 1 _ _) ?q2 ?q3).mono ?_); (case q2 => exact HL.out.1); (case q3 => have h1 := HS.out; have h2 := HY.out.size; simp only [World.size_setCell]; omega); rintro e w8 ⟨rfl, hB8, hb8, hk8⟩; have HB8 := Lib.hid (show Lib.IsBuilderF 49 5 w.heap.size w.heap.size (Lib.byteCells (rend (l0.take i) ++ s.data.toList)) w8 by rw [Lib.byteCells_append, ← Lib.strCells_eq]; exact .inr hB8); have hx8 := kept_box HX.out (by have h1 := HS.out; have h2 := HG.out; omega) hk8; have y1 := (blk_cell hx8 1).trans rfl; have HW8 := Lib.hid (below_step HB.out ((HY.out.setCell (p := ⟨gb, 0, none⟩) (Nat.le_of_eq HG.out.symm) (.string s)).setCell (p := ⟨gb, 1, none⟩) (Nat.le_of_eq HG.out.symm) (.int .u8 2))); have HV8 := Lib.hid (HW8.out.trans hb8); clear hB8 hb8 hk8 hx8)
              | (go_at_call 11; (with_reducible refine (WriteString_k w.heap.size w.heap.size _ ⟨#[91, 110, 97, 109, 101, 93]⟩ _ HB8.out ?q2 ?q3).mono ?_); (case q2 => exact HL.out.2); (case q3 => have h1 := isB_lt HB8.out; omega); rintro e w9 ⟨rfl, hB9, hb9, hk9⟩; have HB9 := Lib.hid (show Lib.IsBuilderF 49 5 w.heap.size w.heap.size (Lib.byteCells ((rend (l0.take i) ++ s.data.toList) ++ (⟨#[91, 110, 97, 109, 101, 93]⟩ : ByteArray).data.toList)) w9 by rw [Lib.byteCells_append, ← Lib.strCells_eq ⟨#[91, 110, 97, 109, 101, 93]⟩]; exact .inr hB9); have HV9 := Lib.hid (HV8.out.trans hb9); clear hB9 hb9 hk9))
            go_roundw
            case rel => exact ⟨i + 1, by first | rfl | rw [hw], HZ.out, Lib.hid (by rw [HT.out, ← List.append_assoc]; exact HB9.out), HV9⟩
            case measure => exact meas_step HZ.out hw
          have b2 : (c == 2) = false := beq_eq_false_iff_ne.mpr h2
          by_cases h3 : c = 3
          · as_aux_lemma =>
            subst h3
            have e3 : nameB 3 = ⟨#[91, 104, 97, 115, 104, 93]⟩ := rfl
            rw [e3] at HT HL
            clear e3
            go_wp2_with (first
              | ((with_reducible refine gate_dst (N := 5) rfl ?_); refine box_event ?hg (N := 5) ?hd (cs := #[.string (⟨#[]⟩ : ByteArray), .int .u8 0]) (t := 35) ?hr ?_; (case hd => rfl); (case hg => rfl); (case hr => first | (go_simp; done) | (go_simp; rfl)); intro gb hg w7 hbox hb; have HG := Lib.hid hg; have HX := Lib.hid hbox; have HY := Lib.hid hb; clear hg hbox hb; have z0 : w7.cell? ⟨gb, 0, none⟩ = some (.string (⟨#[]⟩ : ByteArray)) := (blk_cell HX.out 0).trans rfl; have z1 : w7.cell? ⟨gb, 1, none⟩ = some (.int .u8 0) := (blk_cell HX.out 1).trans rfl; have fz0 := blk_frozen HX.out 0; have fz1 := blk_frozen HX.out 1)
              | (go_at_call 11; (with_reducible refine (WriteString_k w.heap.size w.heap.size _ s _ (isB_box HI.out HG.out HY.out 0 1 _ _) ?q2 ?q3).mono ?_); (case q2 => exact HL.out.1); (case q3 => have h1 := HS.out; have h2 := HY.out.size; simp only [World.size_setCell]; omega); rintro e w8 ⟨rfl, hB8, hb8, hk8⟩; have HB8 := Lib.hid (show Lib.IsBuilderF 49 5 w.heap.size w.heap.size (Lib.byteCells (rend (l0.take i) ++ s.data.toList)) w8 by rw [Lib.byteCells_append, ← Lib.strCells_eq]; exact .inr hB8); have hx8 := kept_box HX.out (by have h1 := HS.out; have h2 := HG.out; omega) hk8; have y1 := (blk_cell hx8 1).trans rfl; have HW8 := Lib.hid (below_step HB.out ((HY.out.setCell (p := ⟨gb, 0, none⟩) (Nat.le_of_eq HG.out.symm) (.string s)).setCell (p := ⟨gb, 1, none⟩) (Nat.le_of_eq HG.out.symm) (.int .u8 3))); have HV8 := Lib.hid (HW8.out.trans hb8); clear hB8 hb8 hk8 hx8)
              | (go_at_call 11; (with_reducible refine (WriteString_k w.heap.size w.heap.size _ ⟨#[91, 104, 97, 115, 104, 93]⟩ _ HB8.out ?q2 ?q3).mono ?_); (case q2 => exact HL.out.2); (case q3 => have h1 := isB_lt HB8.out; omega); rintro e w9 ⟨rfl, hB9, hb9, hk9⟩; have HB9 := Lib.hid (show Lib.IsBuilderF 49 5 w.heap.size w.heap.size (Lib.byteCells ((rend (l0.take i) ++ s.data.toList) ++ (⟨#[91, 104, 97, 115, 104, 93]⟩ : ByteArray).data.toList)) w9 by rw [Lib.byteCells_append, ← Lib.strCells_eq ⟨#[91, 104, 97, 115, 104, 93]⟩]; exact .inr hB9); have HV9 := Lib.hid (HV8.out.trans hb9); clear hB9 hb9 hk9))
            go_roundw
            case rel => exact ⟨i + 1, by first | rfl | rw [hw], HZ.out, Lib.hid (by rw [HT.out, ← List.append_assoc]; exact HB9.out), HV9⟩
            case measure => exact meas_step HZ.out hw
          have b3 : (c == 3) = false := beq_eq_false_iff_ne.mpr h3
          by_cases h4 : c = 4
          · as_aux_lemma =>
            subst h4
            have e4 : nameB 4 = ⟨#[91, 101, 120, 116, 93]⟩ := rfl
            rw [e4] at HT HL
            clear e4
            go_wp2_with (first
              | ((with_reducible refine gate_dst (N := 5) rfl ?_); refine box_event ?hg (N := 5) ?hd (cs := #[.string (⟨#[]⟩ : ByteArray), .int .u8 0]) (t := 35) ?hr ?_; (case hd => rfl); (case hg => rfl); (case hr => first | (go_simp; done) | (go_simp; rfl)); intro gb hg w7 hbox hb; have HG := Lib.hid hg; have HX := Lib.hid hbox; have HY := Lib.hid hb; clear hg hbox hb; have z0 : w7.cell? ⟨gb, 0, none⟩ = some (.string (⟨#[]⟩ : ByteArray)) := (blk_cell HX.out 0).trans rfl; have z1 : w7.cell? ⟨gb, 1, none⟩ = some (.int .u8 0) := (blk_cell HX.out 1).trans rfl; have fz0 := blk_frozen HX.out 0; have fz1 := blk_frozen HX.out 1)
              | (go_at_call 11; (with_reducible refine (WriteString_k w.heap.size w.heap.size _ s _ (isB_box HI.out HG.out HY.out 0 1 _ _) ?q2 ?q3).mono ?_); (case q2 => exact HL.out.1); (case q3 => have h1 := HS.out; have h2 := HY.out.size; simp only [World.size_setCell]; omega); rintro e w8 ⟨rfl, hB8, hb8, hk8⟩; have HB8 := Lib.hid (show Lib.IsBuilderF 49 5 w.heap.size w.heap.size (Lib.byteCells (rend (l0.take i) ++ s.data.toList)) w8 by rw [Lib.byteCells_append, ← Lib.strCells_eq]; exact .inr hB8); have hx8 := kept_box HX.out (by have h1 := HS.out; have h2 := HG.out; omega) hk8; have y1 := (blk_cell hx8 1).trans rfl; have HW8 := Lib.hid (below_step HB.out ((HY.out.setCell (p := ⟨gb, 0, none⟩) (Nat.le_of_eq HG.out.symm) (.string s)).setCell (p := ⟨gb, 1, none⟩) (Nat.le_of_eq HG.out.symm) (.int .u8 4))); have HV8 := Lib.hid (HW8.out.trans hb8); clear hB8 hb8 hk8 hx8)
              | (go_at_call 11; (with_reducible refine (WriteString_k w.heap.size w.heap.size _ ⟨#[91, 101, 120, 116, 93]⟩ _ HB8.out ?q2 ?q3).mono ?_); (case q2 => exact HL.out.2); (case q3 => have h1 := isB_lt HB8.out; omega); rintro e w9 ⟨rfl, hB9, hb9, hk9⟩; have HB9 := Lib.hid (show Lib.IsBuilderF 49 5 w.heap.size w.heap.size (Lib.byteCells ((rend (l0.take i) ++ s.data.toList) ++ (⟨#[91, 101, 120, 116, 93]⟩ : ByteArray).data.toList)) w9 by rw [Lib.byteCells_append, ← Lib.strCells_eq ⟨#[91, 101, 120, 116, 93]⟩]; exact .inr hB9); have HV9 := Lib.hid (HV8.out.trans hb9); clear hB9 hb9 hk9))
            go_roundw
            case rel => exact ⟨i + 1, by first | rfl | rw [hw], HZ.out, Lib.hid (by rw [HT.out, ← List.append_assoc]; exact HB9.out), HV9⟩
            case measure => exact meas_step HZ.out hw
          have b4 : (c == 4) = false := beq_eq_false_iff_ne.mpr h4
          have HE := Lib.hid (show nameB c = ⟨#[]⟩ by unfold nameB pick4; rw [if_neg h1, if_neg h2, if_neg h3, if_neg h4])
          clear h1 h2 h3 h4
          as_aux_lemma =>
          go_wp2_with (first
            | ((with_reducible refine gate_dst (N := 5) rfl ?_); refine box_event ?hg (N := 5) ?hd (cs := #[.string (⟨#[]⟩ : ByteArray), .int .u8 0]) (t := 35) ?hr ?_; (case hd => rfl); (case hg => rfl); (case hr => first | (go_simp; done) | (go_simp; rfl)); intro gb hg w7 hbox hb; have HG := Lib.hid hg; have HX := Lib.hid hbox; have HY := Lib.hid hb; clear hg hbox hb; have z0 : w7.cell? ⟨gb, 0, none⟩ = some (.string (⟨#[]⟩ : ByteArray)) := (blk_cell HX.out 0).trans rfl; have z1 : w7.cell? ⟨gb, 1, none⟩ = some (.int .u8 0) := (blk_cell HX.out 1).trans rfl; have fz0 := blk_frozen HX.out 0; have fz1 := blk_frozen HX.out 1)
            | (go_at_call 11; (with_reducible refine (WriteString_k w.heap.size w.heap.size _ s _ (isB_box HI.out HG.out HY.out 0 1 _ _) ?q2 ?q3).mono ?_); (case q2 => exact HL.out.1); (case q3 => have h1 := HS.out; have h2 := HY.out.size; simp only [World.size_setCell]; omega); rintro e w8 ⟨rfl, hB8, hb8, hk8⟩; have HB8 := Lib.hid (show Lib.IsBuilderF 49 5 w.heap.size w.heap.size (Lib.byteCells (rend (l0.take i) ++ s.data.toList)) w8 by rw [Lib.byteCells_append, ← Lib.strCells_eq]; exact .inr hB8); have hx8 := kept_box HX.out (by have h1 := HS.out; have h2 := HG.out; omega) hk8; have y1 := (blk_cell hx8 1).trans rfl; have HW8 := Lib.hid (below_step HB.out ((HY.out.setCell (p := ⟨gb, 0, none⟩) (Nat.le_of_eq HG.out.symm) (.string s)).setCell (p := ⟨gb, 1, none⟩) (Nat.le_of_eq HG.out.symm) (.int .u8 c))); have HV8 := Lib.hid (HW8.out.trans hb8); clear hB8 hb8 hk8 hx8))
          go_roundw
          case rel => exact ⟨i + 1, by first | rfl | rw [hw], HZ.out, Lib.hid (by rw [HT.out, HE.out, show ((⟨#[]⟩ : ByteArray).data.toList) = [] from rfl, List.append_nil]; exact HB8.out), HV8⟩
          case measure => exact meas_step HZ.out hw
        · have d1 : decide ((i : Int) < (l0.length : Int)) = false := decide_eq_false (by omega)
          have d2 : decide (i < l0.length) = false := decide_eq_false hlt
          have HI2 := Lib.hid (show Lib.IsBuilderF 49 5 w.heap.size w.heap.size (Lib.byteCells (rend l0)) wr by have h := HI.out; rw [List.take_of_length_le (by omega)] at h; exact h)
          clear hi hlt HI
          go_wp2_with (first | (go_at_call 12; (refine (String_any w.heap.size w.heap.size (rend l0) _ HI2.out ?q1).mono ?_); (case q1 => have := isB_lt HI2.out; omega); rintro e w9 ⟨rfl, _, hb9⟩))
          go_ret
          exact ⟨rfl, HB.out.trans hb9⟩
end Go.Proofs.Ytfhfbgfgmbfhhaa
