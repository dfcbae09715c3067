/- NumberToMinifiedName, walked. -/
import Derived.Test.YtlbamdlegloieaaDoorExtBuild
import Derived.Test.YtlbamdlegloieaaDoorExtIns
import Derived.Deep.Cut
set_option linter.unusedVariables false
set_option linter.unusedSimpArgs false
namespace Go.Proofs.YtlbamdlegloieaaDoor
open Go Go.RowKit Go.Proofs.YtlbamdlegloieaaDoorW.PrintWords Go.Proofs.YtlbamdlegloieaaDoorW.PrintLast Go.Proofs.YtlbamdlegloieaaDoorW.PrintMore
/-- The signs behind the first one. -/
def tails (t : ByteArray) (n : Nat) : List UInt8 := if h : n = 0 then [] else t.data[(n - 1) % t.size]! :: tails t ((n - 1) / t.size)
termination_by n
decreasing_by exact Nat.lt_of_le_of_lt (Nat.div_le_self _ _) (by omega)
def mini (h t : ByteArray) (i : Nat) : List UInt8 := h.data[i % h.size]! :: tails t (i / h.size)
theorem tails_zero (t : ByteArray) : tails t 0 = [] := by rw [tails]; rfl
theorem tails_succ (t : ByteArray) (n : Nat) : tails t (n + 1) = t.data[n % t.size]! :: tails t (n / t.size) := by
  rw [tails, dif_neg (by omega), Nat.add_sub_cancel]
theorem tails_len (t : ByteArray) : ∀ n, (tails t n).length ≤ n := by
  intro n
  induction n using Nat.strongRecOn with
  | _ n ih =>
    cases n with
    | zero => rw [tails_zero]; exact Nat.le_refl _
    | succ n =>
      rw [tails_succ, List.length_cons]
      have h := ih (n / t.size) (Nat.lt_succ_of_le (Nat.div_le_self _ _))
      have := Nat.div_le_self n t.size
      omega
theorem bldF_below {B b : Nat} {p : Value} {bs : List Value} {w w' : World} (h : Lib.BuilderAtF 38 5 B b p bs w) (hb : Below w.heap.size w w') : Lib.BuilderAtF 38 5 B b p bs w' := by
  have hlt := h.lt
  obtain ⟨hB, v, hx, hown, hne⟩ := h
  refine ⟨hB, v, (hb.block b hlt).trans hx, hown.kept (row := none) ⟨hb.os, hb.tape, hb.output, hb.size, fun k hk _ => hb.block k hk⟩ ?_, hne⟩
  cases hv : v.ownBlock <;> simp
theorem isB_below {B b : Nat} {bs : List Value} {w w' : World} (h : Lib.IsBuilderF 38 5 B b bs w) (hb : Below w.heap.size w w') : Lib.IsBuilderF 38 5 B b bs w' :=
  h.elim (fun x => .inl (bldF_below x hb)) (fun x => .inr (bldF_below x hb))
theorem isB_new {B b : Nat} {w : World} (hB : B ≤ b) (h : w.heap[b]? = some (.cells #[.pointer none, .slice none 0 0] 38 (0, 0))) : Lib.IsBuilderF 38 5 B b [] w :=
  .inl ⟨hB, .slice none 0 0, h, ⟨rfl, .inl ⟨rfl, rfl⟩⟩, by simp [Value.ownBlock]⟩
theorem isB_lt {B b : Nat} {bs : List Value} {w : World} (h : Lib.IsBuilderF 38 5 B b bs w) : b < w.heap.size := by
  rcases h with h | h
  · exact h.lt
  · exact h.lt
/-- The minifier's two texts at block ga, a builder with the bytes l at block gb. -/
def MB (w0 : World) (h t : ByteArray) (ga gb : Nat) (l : List UInt8) (w : World) : Prop :=
  w.heap[ga]? = some (.cells #[.string h, .string t] 30 (0, 0)) ∧ Lib.IsBuilderF 38 5 w0.heap.size gb (Lib.byteCells l) w ∧ Below w0.heap.size w0 w ∧ ga ≠ gb
theorem MB.new {w0 w1 w2 : World} {h t : ByteArray} {ga gb : Nat} (h1 : w1.heap[ga]? = some (.cells #[.string h, .string t] 30 (0, 0))) (b1 : Below w0.heap.size w0 w1) (g1 : ga = w0.heap.size)
    (g2 : gb = w1.heap.size) (h2 : w2.heap[gb]? = some (.cells #[.pointer none, .slice none 0 0] 38 (0, 0))) (b2 : Below w1.heap.size w1 w2) : MB w0 h t ga gb [] w2 :=
  ⟨blk_below h1 b2, isB_new (by rw [g2]; exact b1.size) h2, b1.trans (b2.mono b1.size), by
    have := blk_lt h1
    omega⟩
theorem one_sign (s : ByteArray) (j j1 : Nat) (hj : j1 = j + 1) (h : j < s.size) : (s.extract j j1).data.toList = [s.data[j]!] := by
  subst hj
  have hs : j < s.data.size := h
  rw [ByteArray.data_extract, Array.toList_extract, List.extract_eq_take_drop, show j + 1 - j = 1 by omega, getElem!_pos s.data j hs]
  rw [List.drop_eq_getElem_cons (by simpa using hs)]
  simp
theorem one_size (s : ByteArray) (j j1 : Nat) (hj : j1 = j + 1) (h : j < s.size) : (s.extract j j1).size = 1 := by
  have e := congrArg List.length (one_sign s j j1 hj h)
  rw [Array.length_toList] at e
  exact e
theorem wlen (l : List UInt8) (s : ByteArray) (h1 : l.length ≤ 1073741825) (h2 : s.size = 1) : (Lib.byteCells l).length + s.size ≤ 140737488355328 := by
  rw [Lib.byteCells_length, h2]
  omega
theorem MB.wrote {w0 w w' : World} {h t : ByteArray} {ga gb : Nat} {l : List UInt8} (s : ByteArray) (hm : MB w0 h t ga gb l w)
    (hB : Lib.BuilderAtF 38 5 w0.heap.size gb (.pointer (some ⟨gb, 0, none⟩)) (Lib.byteCells l ++ Lib.strCells s) w') (hb : Below w0.heap.size w w') (hk : Lib.OthersKept 5 (some gb) w w') : MB w0 h t ga gb (l ++ s.data.toList) w' :=
  ⟨hk ga _ hm.1 (fun e => hm.2.2.2 (Option.some.inj e)) (fun _ _ e => by injection e with _ e _; cases e), by rw [Lib.byteCells_append, ← Lib.strCells_eq]; exact .inr hB, hm.2.2.1.trans hb, hm.2.2.2⟩
set_option maxHeartbeats 4000000 in
set_option maxRecDepth 100000 in
theorem Mini.calls (w : World) (h t : ByteArray) (i nh nt : Nat) (hnh : h.size = nh) (hnt : t.size = nt) (h1 : 1 ≤ nh) (h2 : nh ≤ 64) (t1 : 1 ≤ nt) (t2 : nt ≤ 64) (hi : i ≤ 1073741824) :
    Calls Tryd.prog 9 #[.agg #[.string h, .string t], .int .i64 (i : Int)] w fun e w' => e = .returned (.string ⟨(mini h t i).toArray⟩) ∧ Below w.heap.size w w' := by
  obtain ⟨j, hj⟩ : ∃ j, j = i % nh := ⟨_, rfl⟩
  obtain ⟨m, hm⟩ : ∃ m, m = i / nh := ⟨_, rfl⟩
  obtain ⟨j1, hj1⟩ : ∃ j1, j1 = j + 1 := ⟨_, rfl⟩
  have hjl : j < nh := by rw [hj]; exact Nat.mod_lt _ h1
  have hmi : m ≤ i := by rw [hm]; exact Nat.div_le_self _ _
  have dz1 : ((nh : Int) == 0) = false := beq_eq_false_iff_ne.2 (by omega)
  have dz2 : ((nt : Int) == 0) = false := beq_eq_false_iff_ne.2 (by omega)
  have W1 := Lib.hid (show Int.tmod (i : Int) (nh : Int) = (j : Int) by rw [hj, Int.tmod_eq_emod_of_nonneg (by omega)]; rfl)
  have W2 := Lib.hid (show Int.tdiv (i : Int) (nh : Int) = (m : Int) by rw [hm, Int.tdiv_eq_ediv_of_nonneg (by omega)]; rfl)
  have W3 := Lib.hid (show wrap64 ((j : Int) + 1) = (j1 : Int) by rw [i64 _ (by omega) (by omega)]; omega)
  have W4 := Lib.hid (show wrap64 (m : Int) = (m : Int) by rw [i64 _ (by omega) (by omega)])
  have W5 := Lib.hid (show wrap64 (j : Int) = (j : Int) by rw [i64 _ (by omega) (by omega)])
  have nz1 : ¬ nh = 0 := by omega
  have nz2 : ¬ nt = 0 := by omega
  have p1 : (0 : Int) ≤ (j : Int) := by omega
  have p2 : (j1 : Int) ≤ (nh : Int) := by omega
  have p3 : (j : Int) ≤ (j1 : Int) := by omega
  have hH : (h.size : Int) = (nh : Int) := by omega
  have hT : (t.size : Int) = (nt : Int) := by omega
  have HF := Lib.hid (show h.size = nh ∧ t.size = nt ∧ 1 ≤ nh ∧ nh ≤ 64 ∧ 1 ≤ nt ∧ nt ≤ 64 ∧ i ≤ 1073741824 ∧ j = i % nh ∧ m = i / nh ∧ j1 = j + 1 ∧ j < nh ∧ m ≤ i from ⟨hnh, hnt, h1, h2, t1, t2, hi, hj, hm, hj1, hjl, hmi⟩)
  clear hj hm hj1 hjl hmi hnh hnt h1 h2 t1 t2 hi
  have HE1 := Lib.hid (show (h.extract j j1).data.toList = [h.data[j]!] ∧ (h.extract j j1).size = 1 from ⟨one_sign h j j1 HF.out.2.2.2.2.2.2.2.2.2.1 (by have := HF.out; omega), one_size h j j1 HF.out.2.2.2.2.2.2.2.2.2.1 (by have := HF.out; omega)⟩)
  have w1 := W1.out
  have w2 := W2.out
  have w3 := W3.out
  have w4 := W4.out
  have w5 := W5.out
  go_enter Tryd.func9, Tryd.ntmps9
  go_wp2_with (first
    | ((with_reducible refine gate_dst (N := 2) rfl ?_); refine box_event ?hg (N := 2) ?hd (cs := #[.string h, .string t]) (t := 30) ?hr ?_; (case hd => rfl); (case hg => rfl); (case hr => first | (go_simp; done) | (go_simp; rfl)); intro ga hga wq1 hbox1 hb1; have z0 := (blk_cell hbox1 0).trans rfl; have z1 := (blk_cell hbox1 1).trans rfl; have HA1 := Lib.hid hbox1; have HB1 := Lib.hid hb1; have HGA := Lib.hid hga; clear hbox1 hb1 hga)
    | ((with_reducible refine gate_dst (N := 8) rfl ?_); refine box_event ?hg (N := 8) ?hd (cs := #[.pointer none, .slice none 0 0]) (t := 38) ?hr ?_; (case hd => rfl); (case hg => rfl); (case hr => first | (go_simp; done) | (go_simp; rfl)); intro gb hgb wq2 hbox2 hb2; have HM2 := Lib.hid (MB.new HA1.out HB1.out HGA.out hgb hbox2 hb2); clear hbox2 hb2 hgb z0 z1; have z0 := (blk_cell HM2.out.1 0).trans rfl; have z1 := (blk_cell HM2.out.1 1).trans rfl)
    | (go_at_call 14; (refine (WriteString_k w.heap.size gb (Lib.byteCells []) (h.extract j j1) wq2 HM2.out.2.1 (wlen [] _ (Nat.zero_le _) HE1.out.2) HM2.out.2.2.1.size).mono ?_); rintro e wq3 ⟨rfl, hB, hb, hk⟩; have HM3 := Lib.hid (MB.wrote (h.extract j j1) HM2.out hB hb hk); clear hB hb hk z0 z1; have z0 := (blk_cell HM3.out.1 0).trans rfl; have z1 := (blk_cell HM3.out.1 1).trans rfl))
  (try rw [W3.out])
  (try rw [W2.out])
  (try rw [W1.out])
  (try rw [W4.out])
  (try rw [W5.out])
  clear w1 w2 w3 w4 w5 z0 z1
  have HM := Lib.hid (show MB w h t ga gb [h.data[j]!] wq3 ∧ [h.data[j]!] ++ tails t m = mini h t i by
    refine ⟨by have := HM3.out; rw [HE1.out.1] at this; exact this, ?_⟩
    have := HF.out
    unfold mini
    rw [this.1, ← this.2.2.2.2.2.2.2.1, ← this.2.2.2.2.2.2.2.2.1]
    rfl)
  clear HM3 HM2 HA1 HB1 HGA HE1 p1 p2 p3
  go_loopw [1] (fun v1 wr => ∃ (n : Nat) (l : List UInt8), v1 = .int .i64 (n : Int) ∧ Hid (n ≤ m ∧ MB w h t ga gb l wr ∧ l ++ tails t n = mini h t i)) (fun v1 _ => (intOf v1).toNat)
  case atStart => exact ⟨m, _, rfl, Lib.hid ⟨Nat.le_refl _, HM.out.1, HM.out.2⟩⟩
  obtain ⟨n, l, rfl, HR⟩ := hrel
  clear HM
  have z0 := (blk_cell HR.out.2.1.1 0).trans rfl
  have z1 := (blk_cell HR.out.2.1.1 1).trans rfl
  by_cases hn : 0 < n
  · have d1 : decide ((0 : Int) < (n : Int)) = true := decide_eq_true (by omega)
    have d2 : decide (0 < n) = true := decide_eq_true (by omega)
    have d3 : decide ((n : Int) > 0) = true := decide_eq_true (by omega)
    obtain ⟨n1, hn1⟩ : ∃ n1, n1 = n - 1 := ⟨_, rfl⟩
    obtain ⟨k, hk⟩ : ∃ k, k = n1 % nt := ⟨_, rfl⟩
    obtain ⟨k1, hk1⟩ : ∃ k1, k1 = k + 1 := ⟨_, rfl⟩
    obtain ⟨n2, hn2⟩ : ∃ n2, n2 = n1 / nt := ⟨_, rfl⟩
    have hf := HF.out
    have hnm := HR.out.1
    have hkl : k < nt := by rw [hk]; exact Nat.mod_lt _ (by omega)
    have hn21 : n2 ≤ n1 := by rw [hn2]; exact Nat.div_le_self _ _
    have V1 := Lib.hid (show wrap64 ((n : Int) - 1) = (n1 : Int) by rw [i64 _ (by omega) (by omega)]; omega)
    have V2 := Lib.hid (show Int.tmod (n1 : Int) (nt : Int) = (k : Int) by rw [hk, Int.tmod_eq_emod_of_nonneg (by omega)]; rfl)
    have V3 := Lib.hid (show wrap64 ((k : Int) + 1) = (k1 : Int) by rw [i64 _ (by omega) (by omega)]; omega)
    have V4 := Lib.hid (show Int.tdiv (n1 : Int) (nt : Int) = (n2 : Int) by rw [hn2, Int.tdiv_eq_ediv_of_nonneg (by omega)]; rfl)
    have V5 := Lib.hid (show wrap64 (n2 : Int) = (n2 : Int) by rw [i64 _ (by omega) (by omega)])
    have V6 := Lib.hid (show wrap64 (k : Int) = (k : Int) by rw [i64 _ (by omega) (by omega)])
    have p1 : (0 : Int) ≤ (k : Int) := by omega
    have p2 : (k1 : Int) ≤ (nt : Int) := by omega
    have p3 : (k : Int) ≤ (k1 : Int) := by omega
    have HE2 := Lib.hid (show (t.extract k k1).data.toList = [t.data[k]!] ∧ (t.extract k k1).size = 1 from ⟨one_sign t k k1 hk1 (by omega), one_size t k k1 hk1 (by omega)⟩)
    have HL := Lib.hid (show l.length ≤ 1073741825 by
      have e := congrArg List.length HR.out.2.2
      rw [List.length_append] at e
      have e2 : (mini h t i).length = 1 + (tails t (i / h.size)).length := by unfold mini; rw [List.length_cons]; omega
      have e3 := tails_len t (i / h.size)
      have e4 := Nat.div_le_self i h.size
      omega)
    have HN := Lib.hid (show n2 ≤ m ∧ n2 < n ∧ ∀ l', l' = l ++ [t.data[k]!] → l' ++ tails t n2 = mini h t i by
      refine ⟨by omega, by omega, fun l' hl' => ?_⟩
      rw [← HR.out.2.2, hl', show n = n1 + 1 by omega, tails_succ, hf.2.1, ← hk, ← hn2, List.append_assoc]
      rfl)
    clear hn hn1 hk hk1 hn2 hf hnm hkl hn21
    have v1 := V1.out
    have v2 := V2.out
    have v3 := V3.out
    have v4 := V4.out
    have v5 := V5.out
    have v6 := V6.out
    go_wp2_with (first
      | (go_at_call 14; (refine (WriteString_k w.heap.size gb (Lib.byteCells l) (t.extract k k1) wr HR.out.2.1.2.1 (wlen l _ HL.out HE2.out.2) HR.out.2.1.2.2.1.size).mono ?_); rintro e wq4 ⟨rfl, hB, hb, hk⟩; have HM4 := Lib.hid (MB.wrote (t.extract k k1) HR.out.2.1 hB hb hk); clear hB hb hk z0 z1; have z0 := (blk_cell HM4.out.1 0).trans rfl; have z1 := (blk_cell HM4.out.1 1).trans rfl))
    go_roundw
    case rel => exact ⟨n2, _, by first | rfl | rw [v5], Lib.hid ⟨HN.out.1, HM4.out, HN.out.2.2 _ (by rw [HE2.out.1])⟩⟩
    case measure =>
      (try rw [v4])
      (try rw [v5])
      show ((n2 : Int)).toNat < ((n : Int)).toNat
      rw [Int.toNat_natCast, Int.toNat_natCast]
      exact HN.out.2.1
  · have d1 : decide ((0 : Int) < (n : Int)) = false := decide_eq_false (by omega)
    have d2 : decide (0 < n) = false := decide_eq_false (by omega)
    have d3 : decide ((n : Int) > 0) = false := decide_eq_false (by omega)
    have HE := Lib.hid (show l = mini h t i by
      have := HR.out.2.2
      rw [show n = 0 by omega, tails_zero, List.append_nil] at this
      exact this)
    clear hn
    go_wp2_with (first
      | (go_at_call 15; (refine (String_any w.heap.size gb l wr HR.out.2.1.2.1 HR.out.2.1.2.2.1.size).mono ?_); rintro e wq5 ⟨rfl, hB, hb⟩; have HB5 := Lib.hid hb; clear hB hb))
    go_ret
    exact ⟨by rw [HE.out]; rfl, HR.out.2.1.2.2.1.trans HB5.out⟩
end Go.Proofs.YtlbamdlegloieaaDoor
