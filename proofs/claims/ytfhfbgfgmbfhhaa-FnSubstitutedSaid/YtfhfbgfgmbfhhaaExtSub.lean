/- config.SubstituteTemplate, walked: the template that is left when the placeholders that are set are put in. -/
import Derived.Test.YtfhfbgfgmbfhhaaExtTmpl
set_option linter.unusedVariables false
namespace Go.Proofs.Ytfhfbgfgmbfhhaa
open Go.RowKit Go.Proofs.YtfhfbgfgmbfhhaaW.PrintWords Go.Proofs.YtfhfbgfgmbfhhaaW.PrintMore Go.Proofs.Ytfhfbgfgmbfhhaa.PFnSubstituted
theorem info35 : (Try.prog.info? 35).map (fun i => (i.zero, i.size, i.bytes)) = some (some (.agg #[.string ⟨#[]⟩, .int .u8 0]), 2, 24) := by kernel_rfl
/-- What a pointer points to: nothing, or a text. -/
def PAt (w : World) : Option Addr → Option ByteArray → Prop
  | none, none => True
  | some a, some s => w.cell? a = some (.string s)
  | _, _ => False
theorem PAt.below {w w' : World} {p : Option Addr} {v : Option ByteArray} (h : PAt w p v) (hb : Below w.heap.size w w') : PAt w' p v := by
  cases p <;> cases v <;> try exact h
  exact (hb.cell (World.block_lt_of_cell? w _ h)).trans h
theorem PAt.pick {w : World} {p1 p2 p3 p4 : Option Addr} {v1 v2 v3 v4 : Option ByteArray} (h1 : PAt w p1 v1) (h2 : PAt w p2 v2) (h3 : PAt w p3 v3) (h4 : PAt w p4 v4) (c : Int) : PAt w (pick4 none p1 p2 p3 p4 c) (pick4 none v1 v2 v3 v4 c) := by
  unfold pick4
  split
  · exact h1
  split
  · exact h2
  split
  · exact h3
  split
  · exact h4
  exact trivial
theorem Get.calls' (p1 p2 p3 p4 P : Option Addr) (a : Int) (w : World) (hP : pick4 none p1 p2 p3 p4 a = P) :
    Calls Try.prog 10 #[.agg #[.pointer p1, .pointer p2, .pointer p3, .pointer p4], .int .u8 a] w fun e w' => e = .returned (.pointer P) ∧ Below w.heap.size w w' := hP ▸ Get.calls p1 p2 p3 p4 a w
/-- A part in which a placeholder is put in. -/
def subOne (v : Option ByteArray) (x : S35) : S35 := match v with
  | none => x
  | some s => ⟨x.f0 ++ s, 0⟩
/-- A part set behind others: it goes on the last one, if no placeholder stands behind that. -/
def put35 (acc : List S35) (x : S35) : List S35 :=
  if 0 < acc.length ∧ (rd_T35 acc ((acc.length : Int) - 1)).f1 = 0 then acc.set (acc.length - 1) ⟨(rd_T35 acc ((acc.length : Int) - 1)).f0 ++ x.f0, x.f1⟩ else acc ++ [x]
def substs (v1 v2 v3 v4 : Option ByteArray) (l : List S35) : List S35 := l.foldl (fun acc x => put35 acc (subOne (pick4 none v1 v2 v3 v4 x.f1) x)) []
def dsz (l : List S35) : Nat := (l.map fun x => x.f0.size).sum
theorem put35_add {acc : List S35} {m : Nat} (hm : acc.length = m + 1) (hc : (rd_T35 acc m).f1 ≠ 0) (x : S35) : put35 acc x = acc ++ [x] := by
  unfold put35
  have e : (acc.length : Int) - 1 = (m : Int) := by omega
  rw [e, if_neg (fun h => hc h.2)]
theorem put35_set {acc : List S35} {m : Nat} (hm : acc.length = m + 1) (hc : (rd_T35 acc m).f1 = 0) (x : S35) : put35 acc x = acc.set m ⟨(rd_T35 acc m).f0 ++ x.f0, x.f1⟩ := by
  unfold put35
  have e : (acc.length : Int) - 1 = (m : Int) := by omega
  have e2 : acc.length - 1 = m := by omega
  rw [e, e2, if_pos ⟨by omega, hc⟩]
theorem put35_nil (x : S35) : put35 [] x = [] ++ [x] := rfl
theorem substs_take (v1 v2 v3 v4 : Option ByteArray) (l : List S35) (i : Nat) (h : i < l.length) :
    substs v1 v2 v3 v4 (l.take (i + 1)) = put35 (substs v1 v2 v3 v4 (l.take i)) (subOne (pick4 none v1 v2 v3 v4 (rd_T35 l i).f1) (rd_T35 l i)) := by
  rw [take_succ_rd l i h]
  unfold substs
  rw [List.foldl_append]
  rfl
theorem put35_length (acc : List S35) (x : S35) : (put35 acc x).length ≤ acc.length + 1 := by
  unfold put35
  split <;> simp
theorem substs_length (v1 v2 v3 v4 : Option ByteArray) (l : List S35) : (substs v1 v2 v3 v4 l).length ≤ l.length := by
  suffices h : ∀ (l acc : List S35), (l.foldl (fun acc x => put35 acc (subOne (pick4 none v1 v2 v3 v4 x.f1) x)) acc).length ≤ acc.length + l.length by
    have := h l []
    simpa [substs] using this
  intro l
  induction l with
  | nil => intro acc; simp
  | cons x l ih =>
    intro acc
    have h1 := ih (put35 acc (subOne (pick4 none v1 v2 v3 v4 x.f1) x))
    have h2 := put35_length acc (subOne (pick4 none v1 v2 v3 v4 x.f1) x)
    simp only [List.foldl_cons, List.length_cons]
    omega
theorem dsz_append (a b : List S35) : dsz (a ++ b) = dsz a + dsz b := by simp [dsz]
theorem dsz_put (acc : List S35) (x : S35) : dsz (put35 acc x) = dsz acc + x.f0.size := by
  unfold put35
  split
  · next h =>
    obtain ⟨ys, y, rfl⟩ : ∃ ys y, acc = ys ++ [y] := by
      rcases List.eq_nil_or_concat acc with rfl | ⟨ys, y, rfl⟩
      · exact absurd h.1 (by simp)
      · exact ⟨ys, y, by simp⟩
    have hr : rd_T35 (ys ++ [y]) (((ys ++ [y]).length : Int) - 1) = y := by
      unfold rd_T35
      have : ((((ys ++ [y]).length : Nat) : Int) - 1).toNat = ys.length := by simp
      rw [this]
      simp [List.getD]
    rw [hr]
    have hs : (ys ++ [y]).set ((ys ++ [y]).length - 1) ⟨y.f0 ++ x.f0, x.f1⟩ = ys ++ [⟨y.f0 ++ x.f0, x.f1⟩] := by
      have : (ys ++ [y]).length - 1 = ys.length := by simp
      rw [this, List.set_append_right _ _ (Nat.le_refl _)]
      simp
    rw [hs, dsz_append, dsz_append]
    simp [dsz]
    omega
  · rw [dsz_append]
    simp [dsz]
/-- The texts' bytes, with what is put in. -/
def tsz (v1 v2 v3 v4 : Option ByteArray) (l : List S35) : Nat := (l.map fun x => (subOne (pick4 none v1 v2 v3 v4 x.f1) x).f0.size).sum
theorem dsz_substs (v1 v2 v3 v4 : Option ByteArray) (l : List S35) : dsz (substs v1 v2 v3 v4 l) = tsz v1 v2 v3 v4 l := by
  suffices h : ∀ (l acc : List S35), dsz (l.foldl (fun acc x => put35 acc (subOne (pick4 none v1 v2 v3 v4 x.f1) x)) acc) = dsz acc + tsz v1 v2 v3 v4 l by
    have := h l []
    simpa [substs, dsz] using this
  intro l
  induction l with
  | nil => intro acc; simp [tsz]
  | cons x l ih =>
    intro acc
    simp only [List.foldl_cons]
    rw [ih, dsz_put]
    simp [tsz]
    omega
theorem tsz_take (v1 v2 v3 v4 : Option ByteArray) (l : List S35) (i : Nat) : tsz v1 v2 v3 v4 (l.take i) ≤ tsz v1 v2 v3 v4 l := by
  have h : tsz v1 v2 v3 v4 (l.take i ++ l.drop i) = tsz v1 v2 v3 v4 (l.take i) + tsz v1 v2 v3 v4 (l.drop i) := by
    unfold tsz
    rw [List.map_append, List.sum_append]
  rw [List.take_append_drop] at h
  omega
theorem le_sum_mem : ∀ (l : List Nat) (x : Nat), x ∈ l → x ≤ l.sum
  | [], _, h => by cases h
  | y :: l, x, h => by
    rw [List.sum_cons]
    rcases List.mem_cons.1 h with rfl | h
    · omega
    · have := le_sum_mem l x h
      omega
theorem dsz_elem (l : List S35) (i : Int) (h0 : 0 ≤ i) (h1 : i < l.length) : (rd_T35 l i).f0.size ≤ dsz l := by
  unfold rd_T35 dsz
  have hi : i.toNat < l.length := by omega
  rw [List.getD_eq_getElem?_getD, List.getElem?_eq_getElem hi]
  exact le_sum_mem _ _ (List.mem_map.2 ⟨_, List.getElem_mem hi, rfl⟩)
theorem row_elem {W : World} {B g n cap : Nat} {ok : Nat → Prop} {acc : List S35} (h : k35.R 35 W B ok (.slice (some ⟨g, 0, none⟩) n cap) acc) (m : Nat) (hm : m < n) :
    W.cell? ⟨g, m * 2, none⟩ = some (.string (rd_T35 acc m).f0) ∧ W.cell? ⟨g, m * 2 + 1, none⟩ = some (.int .u8 (rd_T35 acc m).f1) ∧ W.frozen? ⟨g, m * 2, none⟩ = false ∧ W.frozen? ⟨g, m * 2 + 1, none⟩ = false := by
  obtain ⟨c, _, hM, hc, hf⟩ := Kd.R_elem h z35 (m : Int) (by omega) (by omega)
  obtain rfl := k35_openM hM
  have e : (m : Int).toNat = m := Int.toNat_natCast m
  rw [e] at hc hf
  exact ⟨hc 0 _ rfl, hc 1 _ rfl, hf 0, hf 1⟩
theorem row_set0 {W : World} {B g n cap : Nat} {ok : Nat → Prop} {acc : List S35} (h : k35.R 35 W B ok (.slice (some ⟨g, 0, none⟩) n cap) acc) (m : Nat) (hm : m < n) (u : ByteArray) :
    k35.R 35 (W.setCell ⟨g, m * 2, none⟩ (.string u)) B ok (.slice (some ⟨g, 0, none⟩) n cap) (acc.set m ⟨u, (rd_T35 acc m).f1⟩) := by
  obtain ⟨c, hcl, hM, hc, hf⟩ := Kd.R_elem h z35 (m : Int) (by omega) (by omega)
  obtain rfl := k35_openM hM
  have h2 := (Kd.R_seg h (m : Int) (by omega) (by omega) hcl hc (seg := [.string u]) (j := 0) (by show 1 ≤ 2; decide) (x' := ⟨u, (rd_T35 acc m).f1⟩) (okp := fun _ => False) (k35_mkM _ _ _ _) (fun _ hk => hk.elim)).1
  have e : (m : Int).toNat = m := Int.toNat_natCast m
  rw [e] at h2
  exact h2
theorem row_set1 {W : World} {B g n cap : Nat} {ok : Nat → Prop} {acc : List S35} (h : k35.R 35 W B ok (.slice (some ⟨g, 0, none⟩) n cap) acc) (m : Nat) (hm : m < n) (u : Int) :
    k35.R 35 (W.setCell ⟨g, m * 2 + 1, none⟩ (.int .u8 u)) B ok (.slice (some ⟨g, 0, none⟩) n cap) (acc.set m ⟨(rd_T35 acc m).f0, u⟩) := by
  obtain ⟨c, hcl, hM, hc, hf⟩ := Kd.R_elem h z35 (m : Int) (by omega) (by omega)
  obtain rfl := k35_openM hM
  have h2 := (Kd.R_seg h (m : Int) (by omega) (by omega) hcl hc (seg := [.int .u8 u]) (j := 1) (by show 2 ≤ 2; decide) (x' := ⟨(rd_T35 acc m).f0, u⟩) (okp := fun _ => False) (k35_mkM _ _ _ _) (fun _ hk => hk.elim)).1
  have e : (m : Int).toNat = m := Int.toNat_natCast m
  rw [e] at h2
  exact h2
theorem rd_set (acc : List S35) (m : Nat) (h : m < acc.length) (x : S35) : rd_T35 (acc.set m x) m = x := by
  unfold rd_T35
  rw [Int.toNat_natCast, List.getD_eq_getElem?_getD, List.getElem?_set_self h]
  rfl
theorem row_set2 {W : World} {B g n cap : Nat} {ok : Nat → Prop} {acc : List S35} (h : k35.R 35 W B ok (.slice (some ⟨g, 0, none⟩) n cap) acc) (m : Nat) (hm : m < n) (s : ByteArray) (u : Int) :
    k35.R 35 ((W.setCell ⟨g, m * 2, none⟩ (.string s)).setCell ⟨g, m * 2 + 1, none⟩ (.int .u8 u)) B ok (.slice (some ⟨g, 0, none⟩) n cap) (acc.set m ⟨s, u⟩) := by
  have h2 := row_set1 (row_set0 h m hm s) m hm u
  have hn := (Kd.R_reads' h).1
  rw [rd_set _ _ (by omega), List.set_set] at h2
  exact h2
section
variable {ops : Array Oper} {rest : List Oper} {o : Oper} {a : Act} {Q : Exit → Act → World → Prop}
/-- make([]T, 0, n). -/
theorem make_event {W : World} (hgd : o.guard = none) (x y : Operand) (ho : o.op = .makeSlice 32 x y) (n : Nat) (hx : a.eval x = .int .i64 0) (hy : a.eval y = .int .i64 (n : Int)) (hn : n ≤ 50) (B : Nat) (hB : B ≤ W.heap.size)
    (h : ∀ v1 w1, k35.R 35 w1 B (fun _ => True) v1 [] → W.grownBy w1 none → wpList Try.prog ops Q rest (a.put o.dst v1) w1) : wpList Try.prog ops Q (o :: rest) a W := by
  obtain ⟨i0, hi, hz⟩ := Option.map_eq_some_iff.1 info35
  simp only [Prod.mk.injEq] at hz
  obtain ⟨hz0, hz1, hz2⟩ := hz
  obtain ⟨w1, hr, ho1, hg⟩ := run_make_own (P := Try.prog) W B 32 35 i0 _ 2 Try.underlying32 hi hz0 hz1 .i64 .i64 n (by rw [hz2]; omega) (by unfold maxLen; omega) hB
  refine Kd.event_run hgd ?_ (h _ _ ⟨fun _ _ => trivial, [], ho1, ⟨rfl, fun j p hj => by simp at hj⟩⟩ hg)
  simp [execOp, ho, hx, hy, hr]
end
theorem cat_fits {nxt acc : List S35} {m : Nat} {y : S35} (hE : nxt = put35 acc y) (hm : acc.length = m + 1) (hD : dsz nxt ≤ 140737488355328) : (9223372036854775807 < (rd_T35 acc m).f0.size + y.f0.size) = False := by
  subst hE
  rw [dsz_put] at hD
  have h := dsz_elem acc m (by omega) (by omega)
  exact eq_false (by omega)
theorem cat_new {nxt acc : List S35} {s t : ByteArray} (hE : nxt = put35 acc ⟨s ++ t, 0⟩) (hD : dsz nxt ≤ 140737488355328) : (9223372036854775807 < s.size + t.size) = False := by
  subst hE
  rw [dsz_put] at hD
  have h : (s ++ t).size = s.size + t.size := ByteArray.size_append
  have h2 : (⟨s ++ t, 0⟩ : S35).f0.size = (s ++ t).size := rfl
  exact eq_false (by omega)
theorem heap_below1 (w : World) (o : Obj) : Below w.heap.size w (w.alloc o) := below_alloc (Below.refl _ _) o
set_option maxHeartbeats 4000000 in
set_option maxRecDepth 100000 in
theorem Sub.calls (A0 : Option Addr) (c0 : Nat) (l0 : List S35) (p1 p2 p3 p4 : Option Addr) (v1 v2 v3 v4 : Option ByteArray) (w : World) (hr0 : Kd.C k35 w A0 l0.length l0) (hc0 : l0.length ≤ c0) (hll : l0.length ≤ 50)
    (h1 : PAt w p1 v1) (h2 : PAt w p2 v2) (h3 : PAt w p3 v3) (h4 : PAt w p4 v4) (hT : tsz v1 v2 v3 v4 l0 ≤ 140737488355328) :
    Calls Try.prog 7 #[.slice A0 l0.length c0, .agg #[.pointer p1, .pointer p2, .pointer p3, .pointer p4]] w fun e w' => ∃ (A : Option Addr) (c : Nat) (xs : List S35), e = .returned (.slice A xs.length c) ∧ xs.length ≤ c ∧ Kd.C k35 w' A xs.length xs ∧ (xs = substs v1 v2 v3 v4 l0 ∨ (xs = l0 ∧ ∀ i : Nat, i < l0.length → pick4 none v1 v2 v3 v4 (rd_T35 l0 i).f1 = none)) ∧ Below w.heap.size w w' := by
  have HA := Lib.hid (show ∀ c : Int, PAt w (pick4 none p1 p2 p3 p4 c) (pick4 none v1 v2 v3 v4 c) from fun c => PAt.pick h1 h2 h3 h4 c)
  have HR0 := Lib.hid hr0
  have HT := Lib.hid hT
  have HL := Lib.hid hll
  have HC := Lib.hid hc0
  clear h1 h2 h3 h4 hr0 hT hll hc0
  go_enter Try.func7, Try.ntmps7
  go_wp2
  generalize hW : w.alloc _ = W
  have HW := Lib.hid (show Below w.heap.size w W by rw [← hW]; exact heap_below1 w _)
  have hbx : W.heap[w.heap.size]? = some (.cells #[.pointer p1, .pointer p2, .pointer p3, .pointer p4] 38 (0, 0)) := by rw [← hW]; exact heap_alloc_new w _
  have HZ := Lib.hid (show w.heap.size < W.heap.size by rw [← hW]; simp)
  have HX := Lib.hid hbx
  clear hbx hW
  go_loopw [16, 5] (fun v16 v5 wr => ∃ (i : Nat), v16 = .int .i64 (i : Int) ∧ v5 = .bool false ∧ i ≤ l0.length ∧ Hid (∀ j : Nat, j < i → pick4 none v1 v2 v3 v4 (rd_T35 l0 j).f1 = none) ∧ Hid (Below W.heap.size W wr)) (fun v16 _ _ => l0.length - (intOf v16).toNat)
  case atStart => exact ⟨0, rfl, rfl, Nat.zero_le _, Lib.hid (fun j hj => absurd hj (Nat.not_lt_zero j)), Lib.hid (Below.refl _ _)⟩
  case round =>
    obtain ⟨i, rfl, rfl, hi, HI, HB⟩ := hrel
    by_cases hlt : i < l0.length
    · have p1' : (0 : Int) ≤ (i : Int) := by omega
      have q1' : (i : Int) < (l0.length : Int) := by omega
      have d1 : decide ((i : Int) < (l0.length : Int)) = true := decide_eq_true q1'
      have d2 : decide (i < l0.length) = true := decide_eq_true hlt
      have hw : wrap64 ((i : Int) + 1) = ((i + 1 : Nat) : Int) := by have := HL.out; unfold wrap64; omega
      have HF := Lib.hid (show Below w.heap.size w wr from HW.out.trans (HB.out.mono (Nat.le_of_lt HZ.out)))
      obtain ⟨ad, e1, x0, x1⟩ := at_T35 HR0.out i p1' q1'
      cases e1
      rw [Int.toNat_natCast] at x0 x1
      replace x0 := (HF.out.cell (World.block_lt_of_cell? w _ x0)).trans x0
      replace x1 := (HF.out.cell (World.block_lt_of_cell? w _ x1)).trans x1
      have HK := Lib.hid ((HB.out.block w.heap.size HZ.out).trans HX.out)
      have HS := Lib.hid (blk_lt HK.out)
      have HN := Lib.hid (show pick4 none v1 v2 v3 v4 (rd_T35 l0 i).f1 = none → ∀ j : Nat, j < i + 1 → pick4 none v1 v2 v3 v4 (rd_T35 l0 j).f1 = none from fun h j hj => by
        by_cases e : j = i
        · rw [e]; exact h
        · exact HI.out j (by omega))
      have hA := HA.out (rd_T35 l0 i).f1
      generalize rd_T35 l0 i = x at *
      obtain ⟨s, c⟩ := x
      change PAt w (pick4 none p1 p2 p3 p4 c) (pick4 none v1 v2 v3 v4 c) at hA
      have HM := Lib.hid hlt
      generalize hP : pick4 none p1 p2 p3 p4 c = P at hA
      generalize hV : pick4 none v1 v2 v3 v4 c = V at hA
      replace hP := Lib.hid hP
      replace hV := Lib.hid hV
      clear hi hlt
      replace p1' := eq_true p1'
      replace q1' := eq_true q1'
      rcases P with _ | a
      · rcases V with _ | t
        · have HN2 := Lib.hid (HN.out hV.out)
          clear hA HN hV
          by_cases hc : c = 0
          · have b1 : (c == 0) = true := beq_iff_eq.mpr hc
            clear hc
            by_cases hl : i + 1 < l0.length
            · have d3 : decide (((i + 1 : Nat) : Int) < (l0.length : Int)) = true := decide_eq_true (by omega)
              go_wp2_with (first | ((with_reducible refine gate_dst (N := 7) rfl ?_); refine box_event ?hg (N := 7) ?hd (cs := #[.string (⟨#[]⟩ : ByteArray), .int .u8 0]) (t := 35) ?hr ?_; (case hd => rfl); (case hg => rfl); (case hr => first | (go_simp; done) | (go_simp; rfl)); intro gb hg w7 hbox hb; have HG := Lib.hid hg; have HY := Lib.hid hb; have HX7 := Lib.hid hbox; clear hg hbox hb; have z0 : w7.cell? ⟨gb, 0, none⟩ = some (.string (⟨#[]⟩ : ByteArray)) := (blk_cell HX7.out 0).trans rfl; have z1 : w7.cell? ⟨gb, 1, none⟩ = some (.int .u8 0) := (blk_cell HX7.out 1).trans rfl; have fz0 := blk_frozen HX7.out 0; have fz1 := blk_frozen HX7.out 1; have HW8 := Lib.hid ((HY.out.setCell (p := ⟨gb, 0, none⟩) (Nat.le_of_eq HG.out.symm) (.string s)).setCell (p := ⟨gb, 1, none⟩) (Nat.le_of_eq HG.out.symm) (.int .u8 c)); have hk8 := (HW8.out.block w.heap.size HS.out).trans HK.out; have y0 := (blk_cell hk8 0).trans rfl; have y1 := (blk_cell hk8 1).trans rfl; have y2 := (blk_cell hk8 2).trans rfl; have y3 := (blk_cell hk8 3).trans rfl; clear hk8) | (go_at_call 10; (with_reducible refine (Get.calls' p1 p2 p3 p4 none c _ hP.out).mono ?_); rintro e w9 ⟨rfl, hb9⟩; have HV9 := Lib.hid (below_step HW8.out hb9); have HX9 := Lib.hid ((hb9.block gb (blk_lt (blk_put (blk_put HX7.out 0 (.string s) rfl) 1 (.int .u8 c) rfl))).trans (blk_put (blk_put HX7.out 0 (.string s) rfl) 1 (.int .u8 c) rfl)); have t0 := (blk_cell HX9.out 0).trans rfl; have t1 := (blk_cell HX9.out 1).trans rfl; have ft0 := blk_frozen HX9.out 0; have ft1 := blk_frozen HX9.out 1; clear hb9) | ((with_reducible refine gate_dst (N := 44) rfl ?_); refine make_event ?hgd (.const (.int .i64 0)) (.tmp 43) ?ho l0.length ?hx ?hy HL.out W.heap.size ?hB ?_; (case hgd => rfl); (case ho => rfl); (case hx => rfl); (case hy => rfl); (case hB => exact Nat.le_trans HB.out.size HV9.out.size); intro vm wm hom hgm; have HOm := Lib.hid hom; have HBm := Lib.hid ((HB.out.trans (HV9.out.mono HB.out.size)).grown hgm (Nat.le_trans HB.out.size HV9.out.size) (fun k hk => by cases hk)); clear hom hgm))
              clear x0 x1 HB HV9 HX9 HW8 HY HX7 HG HF HK HS HM hP p1' q1' d1 d2 hw z0 z1 fz0 fz1 y0 y1 y2 y3 t0 t1 ft0 ft1
              go_loopw [47, 8] (fun v47 v8 wr => ∃ (k : Nat), v47 = .int .i64 (k : Int) ∧ k ≤ l0.length ∧ Hid (k35.R 35 wr W.heap.size (fun _ => True) v8 (substs v1 v2 v3 v4 (l0.take k))) ∧ Hid (Below W.heap.size W wr)) (fun v47 _ _ => l0.length - (intOf v47).toNat)
              case atStart => exact ⟨0, rfl, Nat.zero_le _, HOm, HBm⟩
              case round =>
                clear HOm HBm
                obtain ⟨k, rfl, hk, HO, HB2⟩ := hrel
                by_cases hlt : k < l0.length
                · have p1' : (0 : Int) ≤ (k : Int) := by omega
                  have q1' : (k : Int) < (l0.length : Int) := by omega
                  have d1 : decide ((k : Int) < (l0.length : Int)) = true := decide_eq_true q1'
                  have d2 : decide (k < l0.length) = true := decide_eq_true hlt
                  have hw : wrap64 ((k : Int) + 1) = ((k + 1 : Nat) : Int) := by have := HL.out; unfold wrap64; omega
                  have HF2 := Lib.hid (show Below w.heap.size w wr from HW.out.trans (HB2.out.mono (Nat.le_of_lt HZ.out)))
                  obtain ⟨ad2, e1, x0, x1⟩ := at_T35 HR0.out k p1' q1'
                  have e2 : ad2 = ad := (Option.some.inj e1).symm
                  subst e2
                  clear e1
                  rw [Int.toNat_natCast] at x0 x1
                  replace x0 := (HF2.out.cell (World.block_lt_of_cell? w _ x0)).trans x0
                  replace x1 := (HF2.out.cell (World.block_lt_of_cell? w _ x1)).trans x1
                  have HK2 := Lib.hid ((HB2.out.block w.heap.size HZ.out).trans HX.out)
                  have HS2 := Lib.hid (blk_lt HK2.out)
                  have HE := Lib.hid (substs_take v1 v2 v3 v4 l0 k hlt)
                  have HD := Lib.hid (show dsz (substs v1 v2 v3 v4 (l0.take (k + 1))) ≤ 140737488355328 from by rw [dsz_substs]; exact Nat.le_trans (tsz_take v1 v2 v3 v4 l0 (k + 1)) HT.out)
                  have HQ := Lib.hid (show (substs v1 v2 v3 v4 (l0.take k)).length ≤ 50 from Nat.le_trans (substs_length v1 v2 v3 v4 (l0.take k)) (by have := HL.out; rw [List.length_take]; omega))
                  have HG2 := Lib.hid (show PAt wr (pick4 none p1 p2 p3 p4 (rd_T35 l0 k).f1) (pick4 none v1 v2 v3 v4 (rd_T35 l0 k).f1) from ((HA.out (rd_T35 l0 k).f1).below HF2.out))
                  generalize rd_T35 l0 k = x at *
                  obtain ⟨s2, c2⟩ := x
                  generalize substs v1 v2 v3 v4 (l0.take k) = acc at *
                  have hg2 : PAt wr (pick4 none p1 p2 p3 p4 c2) (pick4 none v1 v2 v3 v4 c2) := HG2.out
                  have hE : substs v1 v2 v3 v4 (l0.take (k + 1)) = put35 acc (subOne (pick4 none v1 v2 v3 v4 c2) ⟨s2, c2⟩) := HE.out
                  clear HG2 HE
                  have HM2 := Lib.hid hlt
                  generalize hP2 : pick4 none p1 p2 p3 p4 c2 = P2 at hg2
                  generalize pick4 none v1 v2 v3 v4 c2 = V2 at hg2 hE
                  replace hP2 := Lib.hid hP2
                  have HE := Lib.hid hE
                  clear hE hk hlt
                  replace p1' := eq_true p1'
                  replace q1' := eq_true q1'
                  rcases P2 with _ | a2
                  · rcases V2 with _ | t2
                    · have HE2 := Lib.hid (show substs v1 v2 v3 v4 (l0.take (k + 1)) = put35 acc ⟨s2, c2⟩ from HE.out)
                      clear HE hg2
                      by_cases hn : acc.length = 0
                      · obtain rfl : acc = [] := List.length_eq_zero_iff.1 hn
                        obtain ⟨Ax, cx, hvv⟩ := Kd.R_slice HO.out
                        rw [List.length_nil] at hvv
                        subst hvv
                        clear hn
                        go_wp2_with (first | ((with_reducible refine gate_dst (N := 10) rfl ?_); refine box_event ?hg (N := 10) ?hd (cs := #[.string (⟨#[]⟩ : ByteArray), .int .u8 0]) (t := 35) ?hr ?_; (case hd => rfl); (case hg => rfl); (case hr => first | (go_simp; done) | (go_simp; rfl)); intro gb hg w7 hbox hb; have HG := Lib.hid hg; have HY := Lib.hid hb; have HX7 := Lib.hid hbox; clear hg hbox hb; have z0 : w7.cell? ⟨gb, 0, none⟩ = some (.string (⟨#[]⟩ : ByteArray)) := (blk_cell HX7.out 0).trans rfl; have z1 : w7.cell? ⟨gb, 1, none⟩ = some (.int .u8 0) := (blk_cell HX7.out 1).trans rfl; have fz0 := blk_frozen HX7.out 0; have fz1 := blk_frozen HX7.out 1; have HW8 := Lib.hid ((HY.out.setCell (p := ⟨gb, 0, none⟩) (Nat.le_of_eq HG.out.symm) (.string s2)).setCell (p := ⟨gb, 1, none⟩) (Nat.le_of_eq HG.out.symm) (.int .u8 c2)); have hk8 := (HW8.out.block w.heap.size HS2.out).trans HK2.out; have y0 := (blk_cell hk8 0).trans rfl; have y1 := (blk_cell hk8 1).trans rfl; have y2 := (blk_cell hk8 2).trans rfl; have y3 := (blk_cell hk8 3).trans rfl; clear hk8) | ((go_at_call 10; (with_reducible refine (Get.calls' p1 p2 p3 p4 none c2 _ hP2.out).mono ?_); rintro e w9 ⟨rfl, hb9⟩; have HV9 := Lib.hid (below_step HW8.out hb9); have HX9 := Lib.hid ((hb9.block gb (blk_lt (blk_put (blk_put HX7.out 0 (.string s2) rfl) 1 (.int .u8 c2) rfl))).trans (blk_put (blk_put HX7.out 0 (.string s2) rfl) 1 (.int .u8 c2) rfl)); have t0 := (blk_cell HX9.out 0).trans rfl; have t1 := (blk_cell HX9.out 1).trans rfl; have ft0 := blk_frozen HX9.out 0; have ft1 := blk_frozen HX9.out 1; clear hb9); have HO9 := Lib.hid (Kd.R_below HO.out HV9.out); have HB9 := Lib.hid (HB2.out.trans (HV9.out.mono HB2.out.size))) | ((with_reducible refine gate_builtin (b := .append) (xs := #[.tmp 95, .tmp 97]) rfl ?_); at_builtin; refine Kd.R_append k35 (w0 := W) W.heap.size rfl (.tmp 95) (.tmp 97) 32 35 (.agg #[(.string ⟨#[]⟩), (.int .u8 0)]) 24 rfl Try.underlying32 info35 rfl (by decide) (by omega) (.slice Ax 0 cx) [] (⟨s2, c2⟩ : S35) [.string (s2), .int .u8 (c2)] (fun _ => True) (fun _ => False) rfl ?aX ?aP (fun _ hk => hk.elim) ?aF ?aO ?aB ?aS ?aL ?_; (case aX => first | rfl | (simp only [World.size_setCell]; rfl)); (case aP => exact k35_mkM _ _ _ (⟨s2, c2⟩ : S35)); (case aF => exact (fun _ _ => trivial)); (case aO => exact HO9.out); (case aB => exact HB9.out); (case aS => exact HB9.out.size); (case aL => have := HQ.out; omega); intro v9 w12 ho hb hg hat; have HO12 := Lib.hid ho; have HB12 := Lib.hid hb; clear ho hb hg hat))
                        go_roundw
                        case rel => exact ⟨k + 1, by rw [hw], HM2.out, Lib.hid (by rw [HE2.out, put35_nil]; exact HO12.out), HB12⟩
                        case measure => exact meas_step HM2.out hw
                      · obtain ⟨m, hm⟩ : ∃ m, acc.length = m + 1 := ⟨acc.length - 1, by omega⟩
                        obtain ⟨g, cap, hvv, hBg, hlg, _, _⟩ := Kd.R_form HO.out (by omega)
                        rw [hm] at hvv
                        subst hvv
                        have HM3 := Lib.hid hm
                        have HBg := Lib.hid hBg
                        have HLg := Lib.hid hlg
                        clear hn hm hBg hlg
                        have hm64 : wrap64 (m : Int) = (m : Int) := by have := HM3.out; have := HQ.out; unfold wrap64; omega
                        by_cases hc : (rd_T35 acc m).f1 = 0
                        · have b3 : ((rd_T35 acc m).f1 == 0) = true := beq_iff_eq.mpr hc
                          have HC3 := Lib.hid hc
                          clear hc
                          have hcat := cat_fits HE2.out HM3.out HD.out
                          go_wp2_with (first | ((with_reducible refine gate_dst (N := 10) rfl ?_); refine box_event ?hg (N := 10) ?hd (cs := #[.string (⟨#[]⟩ : ByteArray), .int .u8 0]) (t := 35) ?hr ?_; (case hd => rfl); (case hg => rfl); (case hr => first | (go_simp; done) | (go_simp; rfl)); intro gb hg w7 hbox hb; have HG := Lib.hid hg; have HY := Lib.hid hb; have HX7 := Lib.hid hbox; clear hg hbox hb; have z0 : w7.cell? ⟨gb, 0, none⟩ = some (.string (⟨#[]⟩ : ByteArray)) := (blk_cell HX7.out 0).trans rfl; have z1 : w7.cell? ⟨gb, 1, none⟩ = some (.int .u8 0) := (blk_cell HX7.out 1).trans rfl; have fz0 := blk_frozen HX7.out 0; have fz1 := blk_frozen HX7.out 1; have HW8 := Lib.hid ((HY.out.setCell (p := ⟨gb, 0, none⟩) (Nat.le_of_eq HG.out.symm) (.string s2)).setCell (p := ⟨gb, 1, none⟩) (Nat.le_of_eq HG.out.symm) (.int .u8 c2)); have hk8 := (HW8.out.block w.heap.size HS2.out).trans HK2.out; have y0 := (blk_cell hk8 0).trans rfl; have y1 := (blk_cell hk8 1).trans rfl; have y2 := (blk_cell hk8 2).trans rfl; have y3 := (blk_cell hk8 3).trans rfl; clear hk8) | ((go_at_call 10; (with_reducible refine (Get.calls' p1 p2 p3 p4 none c2 _ hP2.out).mono ?_); rintro e w9 ⟨rfl, hb9⟩; have HV9 := Lib.hid (below_step HW8.out hb9); have HX9 := Lib.hid ((hb9.block gb (blk_lt (blk_put (blk_put HX7.out 0 (.string s2) rfl) 1 (.int .u8 c2) rfl))).trans (blk_put (blk_put HX7.out 0 (.string s2) rfl) 1 (.int .u8 c2) rfl)); have t0 := (blk_cell HX9.out 0).trans rfl; have t1 := (blk_cell HX9.out 1).trans rfl; have ft0 := blk_frozen HX9.out 0; have ft1 := blk_frozen HX9.out 1; clear hb9); have HO9 := Lib.hid (Kd.R_below HO.out HV9.out); have HB9 := Lib.hid (HB2.out.trans (HV9.out.mono HB2.out.size)); obtain ⟨r0, r1, r2, r3⟩ := row_elem HO9.out m (Nat.lt_succ_self m)))
                          go_region
                          go_wp2
                          go_roundw
                          case rel => exact ⟨k + 1, by rw [hw], HM2.out, Lib.hid (by rw [HE2.out, put35_set HM3.out HC3.out]; exact Kd.R_drew (row_set2 HO9.out m (Nat.lt_succ_self m) _ _)), Lib.hid ((HB9.out.setCell (p := ⟨g, m * 2, none⟩) HBg.out _).setCell (p := ⟨g, m * 2 + 1, none⟩) HBg.out _).drew⟩
                          case measure => exact meas_step HM2.out hw
                        · have b3 : ((rd_T35 acc m).f1 == 0) = false := beq_eq_false_iff_ne.mpr hc
                          have HC3 := Lib.hid hc
                          clear hc
                          go_wp2_with (first | ((with_reducible refine gate_dst (N := 10) rfl ?_); refine box_event ?hg (N := 10) ?hd (cs := #[.string (⟨#[]⟩ : ByteArray), .int .u8 0]) (t := 35) ?hr ?_; (case hd => rfl); (case hg => rfl); (case hr => first | (go_simp; done) | (go_simp; rfl)); intro gb hg w7 hbox hb; have HG := Lib.hid hg; have HY := Lib.hid hb; have HX7 := Lib.hid hbox; clear hg hbox hb; have z0 : w7.cell? ⟨gb, 0, none⟩ = some (.string (⟨#[]⟩ : ByteArray)) := (blk_cell HX7.out 0).trans rfl; have z1 : w7.cell? ⟨gb, 1, none⟩ = some (.int .u8 0) := (blk_cell HX7.out 1).trans rfl; have fz0 := blk_frozen HX7.out 0; have fz1 := blk_frozen HX7.out 1; have HW8 := Lib.hid ((HY.out.setCell (p := ⟨gb, 0, none⟩) (Nat.le_of_eq HG.out.symm) (.string s2)).setCell (p := ⟨gb, 1, none⟩) (Nat.le_of_eq HG.out.symm) (.int .u8 c2)); have hk8 := (HW8.out.block w.heap.size HS2.out).trans HK2.out; have y0 := (blk_cell hk8 0).trans rfl; have y1 := (blk_cell hk8 1).trans rfl; have y2 := (blk_cell hk8 2).trans rfl; have y3 := (blk_cell hk8 3).trans rfl; clear hk8) | ((go_at_call 10; (with_reducible refine (Get.calls' p1 p2 p3 p4 none c2 _ hP2.out).mono ?_); rintro e w9 ⟨rfl, hb9⟩; have HV9 := Lib.hid (below_step HW8.out hb9); have HX9 := Lib.hid ((hb9.block gb (blk_lt (blk_put (blk_put HX7.out 0 (.string s2) rfl) 1 (.int .u8 c2) rfl))).trans (blk_put (blk_put HX7.out 0 (.string s2) rfl) 1 (.int .u8 c2) rfl)); have t0 := (blk_cell HX9.out 0).trans rfl; have t1 := (blk_cell HX9.out 1).trans rfl; have ft0 := blk_frozen HX9.out 0; have ft1 := blk_frozen HX9.out 1; clear hb9); have HO9 := Lib.hid (Kd.R_below HO.out HV9.out); have HB9 := Lib.hid (HB2.out.trans (HV9.out.mono HB2.out.size)); obtain ⟨r0, r1, r2, r3⟩ := row_elem HO9.out m (Nat.lt_succ_self m)) | ((with_reducible refine gate_builtin (b := .append) (xs := #[.tmp 95, .tmp 97]) rfl ?_); at_builtin; refine Kd.R_append k35 (w0 := W) W.heap.size rfl (.tmp 95) (.tmp 97) 32 35 (.agg #[(.string ⟨#[]⟩), (.int .u8 0)]) 24 rfl Try.underlying32 info35 rfl (by decide) (by omega) (.slice (some ⟨g, 0, none⟩) (m + 1) cap) acc (⟨s2, c2⟩ : S35) [.string (s2), .int .u8 (c2)] (fun _ => True) (fun _ => False) rfl ?aX ?aP (fun _ hk => hk.elim) ?aF ?aO ?aB ?aS ?aL ?_; (case aX => first | rfl | (simp only [World.size_setCell]; rfl)); (case aP => exact k35_mkM _ _ _ (⟨s2, c2⟩ : S35)); (case aF => exact (fun _ _ => trivial)); (case aO => exact HO9.out); (case aB => exact HB9.out); (case aS => exact HB9.out.size); (case aL => have := HQ.out; omega); intro v9 w12 ho hb hg hat; have HO12 := Lib.hid ho; have HB12 := Lib.hid hb; clear ho hb hg hat))
                          go_roundw
                          case rel => exact ⟨k + 1, by rw [hw], HM2.out, Lib.hid (by rw [HE2.out, put35_add HM3.out HC3.out]; exact HO12.out), HB12⟩
                          case measure => exact meas_step HM2.out hw
                    · exact hg2.elim
                  · rcases V2 with _ | t2
                    · exact hg2.elim
                    · have HE2 := Lib.hid (show substs v1 v2 v3 v4 (l0.take (k + 1)) = put35 acc ⟨s2 ++ t2, 0⟩ from HE.out)
                      have hz2 : wr.cell? a2 = some (.string t2) := hg2
                      clear HE hg2
                      have hcat2 : (9223372036854775807 < s2.size + t2.size) = False := cat_new HE2.out HD.out
                      by_cases hn : acc.length = 0
                      · obtain rfl : acc = [] := List.length_eq_zero_iff.1 hn
                        obtain ⟨Ax, cx, hvv⟩ := Kd.R_slice HO.out
                        rw [List.length_nil] at hvv
                        subst hvv
                        clear hn
                        go_wp2_with (first | ((with_reducible refine gate_dst (N := 10) rfl ?_); refine box_event ?hg (N := 10) ?hd (cs := #[.string (⟨#[]⟩ : ByteArray), .int .u8 0]) (t := 35) ?hr ?_; (case hd => rfl); (case hg => rfl); (case hr => first | (go_simp; done) | (go_simp; rfl)); intro gb hg w7 hbox hb; have HG := Lib.hid hg; have HY := Lib.hid hb; have HX7 := Lib.hid hbox; clear hg hbox hb; have z0 : w7.cell? ⟨gb, 0, none⟩ = some (.string (⟨#[]⟩ : ByteArray)) := (blk_cell HX7.out 0).trans rfl; have z1 : w7.cell? ⟨gb, 1, none⟩ = some (.int .u8 0) := (blk_cell HX7.out 1).trans rfl; have fz0 := blk_frozen HX7.out 0; have fz1 := blk_frozen HX7.out 1; have HW8 := Lib.hid ((HY.out.setCell (p := ⟨gb, 0, none⟩) (Nat.le_of_eq HG.out.symm) (.string s2)).setCell (p := ⟨gb, 1, none⟩) (Nat.le_of_eq HG.out.symm) (.int .u8 c2)); have hk8 := (HW8.out.block w.heap.size HS2.out).trans HK2.out; have y0 := (blk_cell hk8 0).trans rfl; have y1 := (blk_cell hk8 1).trans rfl; have y2 := (blk_cell hk8 2).trans rfl; have y3 := (blk_cell hk8 3).trans rfl; clear hk8) | (go_at_call 10; (with_reducible refine (Get.calls' p1 p2 p3 p4 (some a2) c2 _ hP2.out).mono ?_); rintro e w9 ⟨rfl, hb9⟩; have HV9 := Lib.hid (below_step HW8.out hb9); have HX9 := Lib.hid ((hb9.block gb (blk_lt (blk_put (blk_put HX7.out 0 (.string s2) rfl) 1 (.int .u8 c2) rfl))).trans (blk_put (blk_put HX7.out 0 (.string s2) rfl) 1 (.int .u8 c2) rfl)); have t0 := (blk_cell HX9.out 0).trans rfl; have t1 := (blk_cell HX9.out 1).trans rfl; have ft0 := blk_frozen HX9.out 0; have ft1 := blk_frozen HX9.out 1; clear hb9); have hz9 := (HV9.out.cell (World.block_lt_of_cell? wr _ hz2)).trans hz2)
                        go_region
                        generalize hw16 : (w9.setCell ⟨gb, 0, none⟩ (.string (s2 ++ t2))).drew = w16; have HX16 := Lib.hid (show w16.heap[gb]? = some (.cells #[.string (s2 ++ t2), .int .u8 c2] 35 (0, 0)) by rw [← hw16]; exact blk_put HX9.out 0 _ rfl); have HV16 := Lib.hid (show Below wr.heap.size wr w16 by rw [← hw16]; exact (HV9.out.setCell (p := ⟨gb, 0, none⟩) (Nat.le_of_eq HG.out.symm) _).drew); have j0 := (blk_cell HX16.out 0).trans rfl; have j1 := (blk_cell HX16.out 1).trans rfl; have fj0 := blk_frozen HX16.out 0; have fj1 := blk_frozen HX16.out 1; have HX17 := Lib.hid (blk_put HX16.out 1 (.int .u8 0) rfl); have HV17 := Lib.hid (HV16.out.setCell (p := ⟨gb, 1, none⟩) (Nat.le_of_eq HG.out.symm) (.int .u8 0)); have n0 := (blk_cell HX17.out 0).trans rfl; have n1 := (blk_cell HX17.out 1).trans rfl; have HO9 := Lib.hid (Kd.R_below HO.out HV17.out); have HB9 := Lib.hid (HB2.out.trans (HV17.out.mono HB2.out.size))
                        clear hw16
                        go_wp2_with (first | ((with_reducible refine gate_builtin (b := .append) (xs := #[.tmp 95, .tmp 97]) rfl ?_); at_builtin; refine Kd.R_append k35 (w0 := W) W.heap.size rfl (.tmp 95) (.tmp 97) 32 35 (.agg #[(.string ⟨#[]⟩), (.int .u8 0)]) 24 rfl Try.underlying32 info35 rfl (by decide) (by omega) (.slice Ax 0 cx) [] (⟨s2 ++ t2, 0⟩ : S35) [.string (s2 ++ t2), .int .u8 (0)] (fun _ => True) (fun _ => False) rfl ?aX ?aP (fun _ hk => hk.elim) ?aF ?aO ?aB ?aS ?aL ?_; (case aX => first | rfl | (simp only [World.size_setCell]; rfl)); (case aP => exact k35_mkM _ _ _ (⟨s2 ++ t2, 0⟩ : S35)); (case aF => exact (fun _ _ => trivial)); (case aO => exact HO9.out); (case aB => exact HB9.out); (case aS => exact HB9.out.size); (case aL => have := HQ.out; omega); intro v9 w12 ho hb hg hat; have HO12 := Lib.hid ho; have HB12 := Lib.hid hb; clear ho hb hg hat))
                        go_roundw
                        case rel => exact ⟨k + 1, by rw [hw], HM2.out, Lib.hid (by rw [HE2.out, put35_nil]; exact HO12.out), HB12⟩
                        case measure => exact meas_step HM2.out hw
                      · obtain ⟨m, hm⟩ : ∃ m, acc.length = m + 1 := ⟨acc.length - 1, by omega⟩
                        obtain ⟨g, cap, hvv, hBg, hlg, _, _⟩ := Kd.R_form HO.out (by omega)
                        rw [hm] at hvv
                        subst hvv
                        have HM3 := Lib.hid hm
                        have HBg := Lib.hid hBg
                        have HLg := Lib.hid hlg
                        clear hn hm hBg hlg
                        have hm64 : wrap64 (m : Int) = (m : Int) := by have := HM3.out; have := HQ.out; unfold wrap64; omega
                        by_cases hc : (rd_T35 acc m).f1 = 0
                        · have b3 : ((rd_T35 acc m).f1 == 0) = true := beq_iff_eq.mpr hc
                          have HC3 := Lib.hid hc
                          clear hc
                          have hcat : (9223372036854775807 < (rd_T35 acc m).f0.size + (s2 ++ t2).size) = False := cat_fits HE2.out HM3.out HD.out
                          have hcat3 : (9223372036854775807 < (rd_T35 acc m).f0.size + (s2.size + t2.size)) = False := by rw [← ByteArray.size_append]; exact hcat
                          go_wp2_with (first | ((with_reducible refine gate_dst (N := 10) rfl ?_); refine box_event ?hg (N := 10) ?hd (cs := #[.string (⟨#[]⟩ : ByteArray), .int .u8 0]) (t := 35) ?hr ?_; (case hd => rfl); (case hg => rfl); (case hr => first | (go_simp; done) | (go_simp; rfl)); intro gb hg w7 hbox hb; have HG := Lib.hid hg; have HY := Lib.hid hb; have HX7 := Lib.hid hbox; clear hg hbox hb; have z0 : w7.cell? ⟨gb, 0, none⟩ = some (.string (⟨#[]⟩ : ByteArray)) := (blk_cell HX7.out 0).trans rfl; have z1 : w7.cell? ⟨gb, 1, none⟩ = some (.int .u8 0) := (blk_cell HX7.out 1).trans rfl; have fz0 := blk_frozen HX7.out 0; have fz1 := blk_frozen HX7.out 1; have HW8 := Lib.hid ((HY.out.setCell (p := ⟨gb, 0, none⟩) (Nat.le_of_eq HG.out.symm) (.string s2)).setCell (p := ⟨gb, 1, none⟩) (Nat.le_of_eq HG.out.symm) (.int .u8 c2)); have hk8 := (HW8.out.block w.heap.size HS2.out).trans HK2.out; have y0 := (blk_cell hk8 0).trans rfl; have y1 := (blk_cell hk8 1).trans rfl; have y2 := (blk_cell hk8 2).trans rfl; have y3 := (blk_cell hk8 3).trans rfl; clear hk8) | (go_at_call 10; (with_reducible refine (Get.calls' p1 p2 p3 p4 (some a2) c2 _ hP2.out).mono ?_); rintro e w9 ⟨rfl, hb9⟩; have HV9 := Lib.hid (below_step HW8.out hb9); have HX9 := Lib.hid ((hb9.block gb (blk_lt (blk_put (blk_put HX7.out 0 (.string s2) rfl) 1 (.int .u8 c2) rfl))).trans (blk_put (blk_put HX7.out 0 (.string s2) rfl) 1 (.int .u8 c2) rfl)); have t0 := (blk_cell HX9.out 0).trans rfl; have t1 := (blk_cell HX9.out 1).trans rfl; have ft0 := blk_frozen HX9.out 0; have ft1 := blk_frozen HX9.out 1; clear hb9); have hz9 := (HV9.out.cell (World.block_lt_of_cell? wr _ hz2)).trans hz2)
                          go_region
                          generalize hw16 : (w9.setCell ⟨gb, 0, none⟩ (.string (s2 ++ t2))).drew = w16; have HX16 := Lib.hid (show w16.heap[gb]? = some (.cells #[.string (s2 ++ t2), .int .u8 c2] 35 (0, 0)) by rw [← hw16]; exact blk_put HX9.out 0 _ rfl); have HV16 := Lib.hid (show Below wr.heap.size wr w16 by rw [← hw16]; exact (HV9.out.setCell (p := ⟨gb, 0, none⟩) (Nat.le_of_eq HG.out.symm) _).drew); have j0 := (blk_cell HX16.out 0).trans rfl; have j1 := (blk_cell HX16.out 1).trans rfl; have fj0 := blk_frozen HX16.out 0; have fj1 := blk_frozen HX16.out 1; have HX17 := Lib.hid (blk_put HX16.out 1 (.int .u8 0) rfl); have HV17 := Lib.hid (HV16.out.setCell (p := ⟨gb, 1, none⟩) (Nat.le_of_eq HG.out.symm) (.int .u8 0)); have n0 := (blk_cell HX17.out 0).trans rfl; have n1 := (blk_cell HX17.out 1).trans rfl; have HO9 := Lib.hid (Kd.R_below HO.out HV17.out); have HB9 := Lib.hid (HB2.out.trans (HV17.out.mono HB2.out.size))
                          clear hw16
                          obtain ⟨r0, r1, r2, r3⟩ := row_elem HO9.out m (Nat.lt_succ_self m)
                          go_wp2
                          go_region
                          go_wp2
                          go_roundw
                          case rel => exact ⟨k + 1, by rw [hw], HM2.out, Lib.hid (by rw [HE2.out, put35_set HM3.out HC3.out]; exact Kd.R_drew (row_set2 HO9.out m (Nat.lt_succ_self m) _ _)), Lib.hid ((HB9.out.setCell (p := ⟨g, m * 2, none⟩) HBg.out _).setCell (p := ⟨g, m * 2 + 1, none⟩) HBg.out _).drew⟩
                          case measure => exact meas_step HM2.out hw
                        · have b3 : ((rd_T35 acc m).f1 == 0) = false := beq_eq_false_iff_ne.mpr hc
                          have HC3 := Lib.hid hc
                          clear hc
                          go_wp2_with (first | ((with_reducible refine gate_dst (N := 10) rfl ?_); refine box_event ?hg (N := 10) ?hd (cs := #[.string (⟨#[]⟩ : ByteArray), .int .u8 0]) (t := 35) ?hr ?_; (case hd => rfl); (case hg => rfl); (case hr => first | (go_simp; done) | (go_simp; rfl)); intro gb hg w7 hbox hb; have HG := Lib.hid hg; have HY := Lib.hid hb; have HX7 := Lib.hid hbox; clear hg hbox hb; have z0 : w7.cell? ⟨gb, 0, none⟩ = some (.string (⟨#[]⟩ : ByteArray)) := (blk_cell HX7.out 0).trans rfl; have z1 : w7.cell? ⟨gb, 1, none⟩ = some (.int .u8 0) := (blk_cell HX7.out 1).trans rfl; have fz0 := blk_frozen HX7.out 0; have fz1 := blk_frozen HX7.out 1; have HW8 := Lib.hid ((HY.out.setCell (p := ⟨gb, 0, none⟩) (Nat.le_of_eq HG.out.symm) (.string s2)).setCell (p := ⟨gb, 1, none⟩) (Nat.le_of_eq HG.out.symm) (.int .u8 c2)); have hk8 := (HW8.out.block w.heap.size HS2.out).trans HK2.out; have y0 := (blk_cell hk8 0).trans rfl; have y1 := (blk_cell hk8 1).trans rfl; have y2 := (blk_cell hk8 2).trans rfl; have y3 := (blk_cell hk8 3).trans rfl; clear hk8) | (go_at_call 10; (with_reducible refine (Get.calls' p1 p2 p3 p4 (some a2) c2 _ hP2.out).mono ?_); rintro e w9 ⟨rfl, hb9⟩; have HV9 := Lib.hid (below_step HW8.out hb9); have HX9 := Lib.hid ((hb9.block gb (blk_lt (blk_put (blk_put HX7.out 0 (.string s2) rfl) 1 (.int .u8 c2) rfl))).trans (blk_put (blk_put HX7.out 0 (.string s2) rfl) 1 (.int .u8 c2) rfl)); have t0 := (blk_cell HX9.out 0).trans rfl; have t1 := (blk_cell HX9.out 1).trans rfl; have ft0 := blk_frozen HX9.out 0; have ft1 := blk_frozen HX9.out 1; clear hb9); have hz9 := (HV9.out.cell (World.block_lt_of_cell? wr _ hz2)).trans hz2)
                          go_region
                          generalize hw16 : (w9.setCell ⟨gb, 0, none⟩ (.string (s2 ++ t2))).drew = w16; have HX16 := Lib.hid (show w16.heap[gb]? = some (.cells #[.string (s2 ++ t2), .int .u8 c2] 35 (0, 0)) by rw [← hw16]; exact blk_put HX9.out 0 _ rfl); have HV16 := Lib.hid (show Below wr.heap.size wr w16 by rw [← hw16]; exact (HV9.out.setCell (p := ⟨gb, 0, none⟩) (Nat.le_of_eq HG.out.symm) _).drew); have j0 := (blk_cell HX16.out 0).trans rfl; have j1 := (blk_cell HX16.out 1).trans rfl; have fj0 := blk_frozen HX16.out 0; have fj1 := blk_frozen HX16.out 1; have HX17 := Lib.hid (blk_put HX16.out 1 (.int .u8 0) rfl); have HV17 := Lib.hid (HV16.out.setCell (p := ⟨gb, 1, none⟩) (Nat.le_of_eq HG.out.symm) (.int .u8 0)); have n0 := (blk_cell HX17.out 0).trans rfl; have n1 := (blk_cell HX17.out 1).trans rfl; have HO9 := Lib.hid (Kd.R_below HO.out HV17.out); have HB9 := Lib.hid (HB2.out.trans (HV17.out.mono HB2.out.size))
                          clear hw16
                          obtain ⟨r0, r1, r2, r3⟩ := row_elem HO9.out m (Nat.lt_succ_self m)
                          go_wp2_with (first | ((with_reducible refine gate_builtin (b := .append) (xs := #[.tmp 95, .tmp 97]) rfl ?_); at_builtin; refine Kd.R_append k35 (w0 := W) W.heap.size rfl (.tmp 95) (.tmp 97) 32 35 (.agg #[(.string ⟨#[]⟩), (.int .u8 0)]) 24 rfl Try.underlying32 info35 rfl (by decide) (by omega) (.slice (some ⟨g, 0, none⟩) (m + 1) cap) acc (⟨s2 ++ t2, 0⟩ : S35) [.string (s2 ++ t2), .int .u8 (0)] (fun _ => True) (fun _ => False) rfl ?aX ?aP (fun _ hk => hk.elim) ?aF ?aO ?aB ?aS ?aL ?_; (case aX => first | rfl | (simp only [World.size_setCell]; rfl)); (case aP => exact k35_mkM _ _ _ (⟨s2 ++ t2, 0⟩ : S35)); (case aF => exact (fun _ _ => trivial)); (case aO => exact HO9.out); (case aB => exact HB9.out); (case aS => exact HB9.out.size); (case aL => have := HQ.out; omega); intro v9 w12 ho hb hg hat; have HO12 := Lib.hid ho; have HB12 := Lib.hid hb; clear ho hb hg hat))
                          go_roundw
                          case rel => exact ⟨k + 1, by rw [hw], HM2.out, Lib.hid (by rw [HE2.out, put35_add HM3.out HC3.out]; exact HO12.out), HB12⟩
                          case measure => exact meas_step HM2.out hw
                · have d1 : decide ((k : Int) < (l0.length : Int)) = false := decide_eq_false (by omega)
                  have d2 : decide (k < l0.length) = false := decide_eq_false hlt
                  have e3 : l0.take k = l0 := List.take_of_length_le (by omega)
                  rw [e3] at HO
                  obtain ⟨A2, c2, hv2, hlc, hC⟩ := Kd.R_reads HO.out
                  subst hv2
                  have HC2 := Lib.hid hC
                  have HL2 := Lib.hid hlc
                  clear hC hlc hk hlt e3 HO
                  go_wp2
                  go_ret
                  exact ⟨A2, c2, substs v1 v2 v3 v4 l0, rfl, HL2.out, HC2.out, .inl rfl, HW.out.trans (HB2.out.mono (Nat.le_of_lt HZ.out))⟩
            · have d3 : decide (((i + 1 : Nat) : Int) < (l0.length : Int)) = false := decide_eq_false (by omega)
              go_wp2_with (first | ((with_reducible refine gate_dst (N := 7) rfl ?_); refine box_event ?hg (N := 7) ?hd (cs := #[.string (⟨#[]⟩ : ByteArray), .int .u8 0]) (t := 35) ?hr ?_; (case hd => rfl); (case hg => rfl); (case hr => first | (go_simp; done) | (go_simp; rfl)); intro gb hg w7 hbox hb; have HG := Lib.hid hg; have HY := Lib.hid hb; have HX7 := Lib.hid hbox; clear hg hbox hb; have z0 : w7.cell? ⟨gb, 0, none⟩ = some (.string (⟨#[]⟩ : ByteArray)) := (blk_cell HX7.out 0).trans rfl; have z1 : w7.cell? ⟨gb, 1, none⟩ = some (.int .u8 0) := (blk_cell HX7.out 1).trans rfl; have fz0 := blk_frozen HX7.out 0; have fz1 := blk_frozen HX7.out 1; have HW8 := Lib.hid ((HY.out.setCell (p := ⟨gb, 0, none⟩) (Nat.le_of_eq HG.out.symm) (.string s)).setCell (p := ⟨gb, 1, none⟩) (Nat.le_of_eq HG.out.symm) (.int .u8 c)); have hk8 := (HW8.out.block w.heap.size HS.out).trans HK.out; have y0 := (blk_cell hk8 0).trans rfl; have y1 := (blk_cell hk8 1).trans rfl; have y2 := (blk_cell hk8 2).trans rfl; have y3 := (blk_cell hk8 3).trans rfl; clear hk8) | (go_at_call 10; (with_reducible refine (Get.calls' p1 p2 p3 p4 none c _ hP.out).mono ?_); rintro e w9 ⟨rfl, hb9⟩; have HV9 := Lib.hid (below_step HW8.out hb9); have HX9 := Lib.hid ((hb9.block gb (blk_lt (blk_put (blk_put HX7.out 0 (.string s) rfl) 1 (.int .u8 c) rfl))).trans (blk_put (blk_put HX7.out 0 (.string s) rfl) 1 (.int .u8 c) rfl)); have t0 := (blk_cell HX9.out 0).trans rfl; have t1 := (blk_cell HX9.out 1).trans rfl; have ft0 := blk_frozen HX9.out 0; have ft1 := blk_frozen HX9.out 1; clear hb9))
              go_roundw
              case rel => exact ⟨i + 1, by rw [hw], rfl, HM.out, HN2, Lib.hid (HB.out.trans (HV9.out.mono HB.out.size))⟩
              case measure => exact meas_step HM.out hw
          · have b1 : (c == 0) = false := beq_eq_false_iff_ne.mpr hc
            clear hc
            go_wp2_with (first | ((with_reducible refine gate_dst (N := 7) rfl ?_); refine box_event ?hg (N := 7) ?hd (cs := #[.string (⟨#[]⟩ : ByteArray), .int .u8 0]) (t := 35) ?hr ?_; (case hd => rfl); (case hg => rfl); (case hr => first | (go_simp; done) | (go_simp; rfl)); intro gb hg w7 hbox hb; have HG := Lib.hid hg; have HY := Lib.hid hb; have HX7 := Lib.hid hbox; clear hg hbox hb; have z0 : w7.cell? ⟨gb, 0, none⟩ = some (.string (⟨#[]⟩ : ByteArray)) := (blk_cell HX7.out 0).trans rfl; have z1 : w7.cell? ⟨gb, 1, none⟩ = some (.int .u8 0) := (blk_cell HX7.out 1).trans rfl; have fz0 := blk_frozen HX7.out 0; have fz1 := blk_frozen HX7.out 1; have HW8 := Lib.hid ((HY.out.setCell (p := ⟨gb, 0, none⟩) (Nat.le_of_eq HG.out.symm) (.string s)).setCell (p := ⟨gb, 1, none⟩) (Nat.le_of_eq HG.out.symm) (.int .u8 c)); have hk8 := (HW8.out.block w.heap.size HS.out).trans HK.out; have y0 := (blk_cell hk8 0).trans rfl; have y1 := (blk_cell hk8 1).trans rfl; have y2 := (blk_cell hk8 2).trans rfl; have y3 := (blk_cell hk8 3).trans rfl; clear hk8) | (go_at_call 10; (with_reducible refine (Get.calls' p1 p2 p3 p4 none c _ hP.out).mono ?_); rintro e w9 ⟨rfl, hb9⟩; have HV9 := Lib.hid (below_step HW8.out hb9); have HX9 := Lib.hid ((hb9.block gb (blk_lt (blk_put (blk_put HX7.out 0 (.string s) rfl) 1 (.int .u8 c) rfl))).trans (blk_put (blk_put HX7.out 0 (.string s) rfl) 1 (.int .u8 c) rfl)); have t0 := (blk_cell HX9.out 0).trans rfl; have t1 := (blk_cell HX9.out 1).trans rfl; have ft0 := blk_frozen HX9.out 0; have ft1 := blk_frozen HX9.out 1; clear hb9))
            go_roundw
            case rel => exact ⟨i + 1, by rw [hw], rfl, HM.out, HN2, Lib.hid (HB.out.trans (HV9.out.mono HB.out.size))⟩
            case measure => exact meas_step HM.out hw
        · exact hA.elim
      · rcases V with _ | t
        · exact hA.elim
        · clear hA HN hV
          go_wp2_with (first | ((with_reducible refine gate_dst (N := 7) rfl ?_); refine box_event ?hg (N := 7) ?hd (cs := #[.string (⟨#[]⟩ : ByteArray), .int .u8 0]) (t := 35) ?hr ?_; (case hd => rfl); (case hg => rfl); (case hr => first | (go_simp; done) | (go_simp; rfl)); intro gb hg w7 hbox hb; have HG := Lib.hid hg; have HY := Lib.hid hb; have HX7 := Lib.hid hbox; clear hg hbox hb; have z0 : w7.cell? ⟨gb, 0, none⟩ = some (.string (⟨#[]⟩ : ByteArray)) := (blk_cell HX7.out 0).trans rfl; have z1 : w7.cell? ⟨gb, 1, none⟩ = some (.int .u8 0) := (blk_cell HX7.out 1).trans rfl; have fz0 := blk_frozen HX7.out 0; have fz1 := blk_frozen HX7.out 1; have HW8 := Lib.hid ((HY.out.setCell (p := ⟨gb, 0, none⟩) (Nat.le_of_eq HG.out.symm) (.string s)).setCell (p := ⟨gb, 1, none⟩) (Nat.le_of_eq HG.out.symm) (.int .u8 c)); have hk8 := (HW8.out.block w.heap.size HS.out).trans HK.out; have y0 := (blk_cell hk8 0).trans rfl; have y1 := (blk_cell hk8 1).trans rfl; have y2 := (blk_cell hk8 2).trans rfl; have y3 := (blk_cell hk8 3).trans rfl; clear hk8) | (go_at_call 10; (with_reducible refine (Get.calls' p1 p2 p3 p4 (some a) c _ hP.out).mono ?_); rintro e w9 ⟨rfl, hb9⟩; have HV9 := Lib.hid (below_step HW8.out hb9); have HX9 := Lib.hid ((hb9.block gb (blk_lt (blk_put (blk_put HX7.out 0 (.string s) rfl) 1 (.int .u8 c) rfl))).trans (blk_put (blk_put HX7.out 0 (.string s) rfl) 1 (.int .u8 c) rfl)); have t0 := (blk_cell HX9.out 0).trans rfl; have t1 := (blk_cell HX9.out 1).trans rfl; have ft0 := blk_frozen HX9.out 0; have ft1 := blk_frozen HX9.out 1; clear hb9) | ((with_reducible refine gate_dst (N := 44) rfl ?_); refine make_event ?hgd (.const (.int .i64 0)) (.tmp 43) ?ho l0.length ?hx ?hy HL.out W.heap.size ?hB ?_; (case hgd => rfl); (case ho => rfl); (case hx => rfl); (case hy => rfl); (case hB => exact Nat.le_trans HB.out.size HV9.out.size); intro vm wm hom hgm; have HOm := Lib.hid hom; have HBm := Lib.hid ((HB.out.trans (HV9.out.mono HB.out.size)).grown hgm (Nat.le_trans HB.out.size HV9.out.size) (fun k hk => by cases hk)); clear hom hgm))
          clear x0 x1 HB HV9 HX9 HW8 HY HX7 HG HF HK HS HM hP p1' q1' d1 d2 hw z0 z1 fz0 fz1 y0 y1 y2 y3 t0 t1 ft0 ft1
          go_loopw [47, 8] (fun v47 v8 wr => ∃ (k : Nat), v47 = .int .i64 (k : Int) ∧ k ≤ l0.length ∧ Hid (k35.R 35 wr W.heap.size (fun _ => True) v8 (substs v1 v2 v3 v4 (l0.take k))) ∧ Hid (Below W.heap.size W wr)) (fun v47 _ _ => l0.length - (intOf v47).toNat)
          case atStart => exact ⟨0, rfl, Nat.zero_le _, HOm, HBm⟩
          case round =>
            clear HOm HBm
            obtain ⟨k, rfl, hk, HO, HB2⟩ := hrel
            by_cases hlt : k < l0.length
            · have p1' : (0 : Int) ≤ (k : Int) := by omega
              have q1' : (k : Int) < (l0.length : Int) := by omega
              have d1 : decide ((k : Int) < (l0.length : Int)) = true := decide_eq_true q1'
              have d2 : decide (k < l0.length) = true := decide_eq_true hlt
              have hw : wrap64 ((k : Int) + 1) = ((k + 1 : Nat) : Int) := by have := HL.out; unfold wrap64; omega
              have HF2 := Lib.hid (show Below w.heap.size w wr from HW.out.trans (HB2.out.mono (Nat.le_of_lt HZ.out)))
              obtain ⟨ad2, e1, x0, x1⟩ := at_T35 HR0.out k p1' q1'
              have e2 : ad2 = ad := (Option.some.inj e1).symm
              subst e2
              clear e1
              rw [Int.toNat_natCast] at x0 x1
              replace x0 := (HF2.out.cell (World.block_lt_of_cell? w _ x0)).trans x0
              replace x1 := (HF2.out.cell (World.block_lt_of_cell? w _ x1)).trans x1
              have HK2 := Lib.hid ((HB2.out.block w.heap.size HZ.out).trans HX.out)
              have HS2 := Lib.hid (blk_lt HK2.out)
              have HE := Lib.hid (substs_take v1 v2 v3 v4 l0 k hlt)
              have HD := Lib.hid (show dsz (substs v1 v2 v3 v4 (l0.take (k + 1))) ≤ 140737488355328 from by rw [dsz_substs]; exact Nat.le_trans (tsz_take v1 v2 v3 v4 l0 (k + 1)) HT.out)
              have HQ := Lib.hid (show (substs v1 v2 v3 v4 (l0.take k)).length ≤ 50 from Nat.le_trans (substs_length v1 v2 v3 v4 (l0.take k)) (by have := HL.out; rw [List.length_take]; omega))
              have HG2 := Lib.hid (show PAt wr (pick4 none p1 p2 p3 p4 (rd_T35 l0 k).f1) (pick4 none v1 v2 v3 v4 (rd_T35 l0 k).f1) from ((HA.out (rd_T35 l0 k).f1).below HF2.out))
              generalize rd_T35 l0 k = x at *
              obtain ⟨s2, c2⟩ := x
              generalize substs v1 v2 v3 v4 (l0.take k) = acc at *
              have hg2 : PAt wr (pick4 none p1 p2 p3 p4 c2) (pick4 none v1 v2 v3 v4 c2) := HG2.out
              have hE : substs v1 v2 v3 v4 (l0.take (k + 1)) = put35 acc (subOne (pick4 none v1 v2 v3 v4 c2) ⟨s2, c2⟩) := HE.out
              clear HG2 HE
              have HM2 := Lib.hid hlt
              generalize hP2 : pick4 none p1 p2 p3 p4 c2 = P2 at hg2
              generalize pick4 none v1 v2 v3 v4 c2 = V2 at hg2 hE
              replace hP2 := Lib.hid hP2
              have HE := Lib.hid hE
              clear hE hk hlt
              replace p1' := eq_true p1'
              replace q1' := eq_true q1'
              rcases P2 with _ | a2
              · rcases V2 with _ | t2
                · have HE2 := Lib.hid (show substs v1 v2 v3 v4 (l0.take (k + 1)) = put35 acc ⟨s2, c2⟩ from HE.out)
                  clear HE hg2
                  by_cases hn : acc.length = 0
                  · obtain rfl : acc = [] := List.length_eq_zero_iff.1 hn
                    obtain ⟨Ax, cx, hvv⟩ := Kd.R_slice HO.out
                    rw [List.length_nil] at hvv
                    subst hvv
                    clear hn
                    go_wp2_with (first | ((with_reducible refine gate_dst (N := 10) rfl ?_); refine box_event ?hg (N := 10) ?hd (cs := #[.string (⟨#[]⟩ : ByteArray), .int .u8 0]) (t := 35) ?hr ?_; (case hd => rfl); (case hg => rfl); (case hr => first | (go_simp; done) | (go_simp; rfl)); intro gb hg w7 hbox hb; have HG := Lib.hid hg; have HY := Lib.hid hb; have HX7 := Lib.hid hbox; clear hg hbox hb; have z0 : w7.cell? ⟨gb, 0, none⟩ = some (.string (⟨#[]⟩ : ByteArray)) := (blk_cell HX7.out 0).trans rfl; have z1 : w7.cell? ⟨gb, 1, none⟩ = some (.int .u8 0) := (blk_cell HX7.out 1).trans rfl; have fz0 := blk_frozen HX7.out 0; have fz1 := blk_frozen HX7.out 1; have HW8 := Lib.hid ((HY.out.setCell (p := ⟨gb, 0, none⟩) (Nat.le_of_eq HG.out.symm) (.string s2)).setCell (p := ⟨gb, 1, none⟩) (Nat.le_of_eq HG.out.symm) (.int .u8 c2)); have hk8 := (HW8.out.block w.heap.size HS2.out).trans HK2.out; have y0 := (blk_cell hk8 0).trans rfl; have y1 := (blk_cell hk8 1).trans rfl; have y2 := (blk_cell hk8 2).trans rfl; have y3 := (blk_cell hk8 3).trans rfl; clear hk8) | ((go_at_call 10; (with_reducible refine (Get.calls' p1 p2 p3 p4 none c2 _ hP2.out).mono ?_); rintro e w9 ⟨rfl, hb9⟩; have HV9 := Lib.hid (below_step HW8.out hb9); have HX9 := Lib.hid ((hb9.block gb (blk_lt (blk_put (blk_put HX7.out 0 (.string s2) rfl) 1 (.int .u8 c2) rfl))).trans (blk_put (blk_put HX7.out 0 (.string s2) rfl) 1 (.int .u8 c2) rfl)); have t0 := (blk_cell HX9.out 0).trans rfl; have t1 := (blk_cell HX9.out 1).trans rfl; have ft0 := blk_frozen HX9.out 0; have ft1 := blk_frozen HX9.out 1; clear hb9); have HO9 := Lib.hid (Kd.R_below HO.out HV9.out); have HB9 := Lib.hid (HB2.out.trans (HV9.out.mono HB2.out.size))) | ((with_reducible refine gate_builtin (b := .append) (xs := #[.tmp 95, .tmp 97]) rfl ?_); at_builtin; refine Kd.R_append k35 (w0 := W) W.heap.size rfl (.tmp 95) (.tmp 97) 32 35 (.agg #[(.string ⟨#[]⟩), (.int .u8 0)]) 24 rfl Try.underlying32 info35 rfl (by decide) (by omega) (.slice Ax 0 cx) [] (⟨s2, c2⟩ : S35) [.string (s2), .int .u8 (c2)] (fun _ => True) (fun _ => False) rfl ?aX ?aP (fun _ hk => hk.elim) ?aF ?aO ?aB ?aS ?aL ?_; (case aX => first | rfl | (simp only [World.size_setCell]; rfl)); (case aP => exact k35_mkM _ _ _ (⟨s2, c2⟩ : S35)); (case aF => exact (fun _ _ => trivial)); (case aO => exact HO9.out); (case aB => exact HB9.out); (case aS => exact HB9.out.size); (case aL => have := HQ.out; omega); intro v9 w12 ho hb hg hat; have HO12 := Lib.hid ho; have HB12 := Lib.hid hb; clear ho hb hg hat))
                    go_roundw
                    case rel => exact ⟨k + 1, by rw [hw], HM2.out, Lib.hid (by rw [HE2.out, put35_nil]; exact HO12.out), HB12⟩
                    case measure => exact meas_step HM2.out hw
                  · obtain ⟨m, hm⟩ : ∃ m, acc.length = m + 1 := ⟨acc.length - 1, by omega⟩
                    obtain ⟨g, cap, hvv, hBg, hlg, _, _⟩ := Kd.R_form HO.out (by omega)
                    rw [hm] at hvv
                    subst hvv
                    have HM3 := Lib.hid hm
                    have HBg := Lib.hid hBg
                    have HLg := Lib.hid hlg
                    clear hn hm hBg hlg
                    have hm64 : wrap64 (m : Int) = (m : Int) := by have := HM3.out; have := HQ.out; unfold wrap64; omega
                    by_cases hc : (rd_T35 acc m).f1 = 0
                    · have b3 : ((rd_T35 acc m).f1 == 0) = true := beq_iff_eq.mpr hc
                      have HC3 := Lib.hid hc
                      clear hc
                      have hcat := cat_fits HE2.out HM3.out HD.out
                      go_wp2_with (first | ((with_reducible refine gate_dst (N := 10) rfl ?_); refine box_event ?hg (N := 10) ?hd (cs := #[.string (⟨#[]⟩ : ByteArray), .int .u8 0]) (t := 35) ?hr ?_; (case hd => rfl); (case hg => rfl); (case hr => first | (go_simp; done) | (go_simp; rfl)); intro gb hg w7 hbox hb; have HG := Lib.hid hg; have HY := Lib.hid hb; have HX7 := Lib.hid hbox; clear hg hbox hb; have z0 : w7.cell? ⟨gb, 0, none⟩ = some (.string (⟨#[]⟩ : ByteArray)) := (blk_cell HX7.out 0).trans rfl; have z1 : w7.cell? ⟨gb, 1, none⟩ = some (.int .u8 0) := (blk_cell HX7.out 1).trans rfl; have fz0 := blk_frozen HX7.out 0; have fz1 := blk_frozen HX7.out 1; have HW8 := Lib.hid ((HY.out.setCell (p := ⟨gb, 0, none⟩) (Nat.le_of_eq HG.out.symm) (.string s2)).setCell (p := ⟨gb, 1, none⟩) (Nat.le_of_eq HG.out.symm) (.int .u8 c2)); have hk8 := (HW8.out.block w.heap.size HS2.out).trans HK2.out; have y0 := (blk_cell hk8 0).trans rfl; have y1 := (blk_cell hk8 1).trans rfl; have y2 := (blk_cell hk8 2).trans rfl; have y3 := (blk_cell hk8 3).trans rfl; clear hk8) | ((go_at_call 10; (with_reducible refine (Get.calls' p1 p2 p3 p4 none c2 _ hP2.out).mono ?_); rintro e w9 ⟨rfl, hb9⟩; have HV9 := Lib.hid (below_step HW8.out hb9); have HX9 := Lib.hid ((hb9.block gb (blk_lt (blk_put (blk_put HX7.out 0 (.string s2) rfl) 1 (.int .u8 c2) rfl))).trans (blk_put (blk_put HX7.out 0 (.string s2) rfl) 1 (.int .u8 c2) rfl)); have t0 := (blk_cell HX9.out 0).trans rfl; have t1 := (blk_cell HX9.out 1).trans rfl; have ft0 := blk_frozen HX9.out 0; have ft1 := blk_frozen HX9.out 1; clear hb9); have HO9 := Lib.hid (Kd.R_below HO.out HV9.out); have HB9 := Lib.hid (HB2.out.trans (HV9.out.mono HB2.out.size)); obtain ⟨r0, r1, r2, r3⟩ := row_elem HO9.out m (Nat.lt_succ_self m)))
                      go_region
                      go_wp2
                      go_roundw
                      case rel => exact ⟨k + 1, by rw [hw], HM2.out, Lib.hid (by rw [HE2.out, put35_set HM3.out HC3.out]; exact Kd.R_drew (row_set2 HO9.out m (Nat.lt_succ_self m) _ _)), Lib.hid ((HB9.out.setCell (p := ⟨g, m * 2, none⟩) HBg.out _).setCell (p := ⟨g, m * 2 + 1, none⟩) HBg.out _).drew⟩
                      case measure => exact meas_step HM2.out hw
                    · have b3 : ((rd_T35 acc m).f1 == 0) = false := beq_eq_false_iff_ne.mpr hc
                      have HC3 := Lib.hid hc
                      clear hc
                      go_wp2_with (first | ((with_reducible refine gate_dst (N := 10) rfl ?_); refine box_event ?hg (N := 10) ?hd (cs := #[.string (⟨#[]⟩ : ByteArray), .int .u8 0]) (t := 35) ?hr ?_; (case hd => rfl); (case hg => rfl); (case hr => first | (go_simp; done) | (go_simp; rfl)); intro gb hg w7 hbox hb; have HG := Lib.hid hg; have HY := Lib.hid hb; have HX7 := Lib.hid hbox; clear hg hbox hb; have z0 : w7.cell? ⟨gb, 0, none⟩ = some (.string (⟨#[]⟩ : ByteArray)) := (blk_cell HX7.out 0).trans rfl; have z1 : w7.cell? ⟨gb, 1, none⟩ = some (.int .u8 0) := (blk_cell HX7.out 1).trans rfl; have fz0 := blk_frozen HX7.out 0; have fz1 := blk_frozen HX7.out 1; have HW8 := Lib.hid ((HY.out.setCell (p := ⟨gb, 0, none⟩) (Nat.le_of_eq HG.out.symm) (.string s2)).setCell (p := ⟨gb, 1, none⟩) (Nat.le_of_eq HG.out.symm) (.int .u8 c2)); have hk8 := (HW8.out.block w.heap.size HS2.out).trans HK2.out; have y0 := (blk_cell hk8 0).trans rfl; have y1 := (blk_cell hk8 1).trans rfl; have y2 := (blk_cell hk8 2).trans rfl; have y3 := (blk_cell hk8 3).trans rfl; clear hk8) | ((go_at_call 10; (with_reducible refine (Get.calls' p1 p2 p3 p4 none c2 _ hP2.out).mono ?_); rintro e w9 ⟨rfl, hb9⟩; have HV9 := Lib.hid (below_step HW8.out hb9); have HX9 := Lib.hid ((hb9.block gb (blk_lt (blk_put (blk_put HX7.out 0 (.string s2) rfl) 1 (.int .u8 c2) rfl))).trans (blk_put (blk_put HX7.out 0 (.string s2) rfl) 1 (.int .u8 c2) rfl)); have t0 := (blk_cell HX9.out 0).trans rfl; have t1 := (blk_cell HX9.out 1).trans rfl; have ft0 := blk_frozen HX9.out 0; have ft1 := blk_frozen HX9.out 1; clear hb9); have HO9 := Lib.hid (Kd.R_below HO.out HV9.out); have HB9 := Lib.hid (HB2.out.trans (HV9.out.mono HB2.out.size)); obtain ⟨r0, r1, r2, r3⟩ := row_elem HO9.out m (Nat.lt_succ_self m)) | ((with_reducible refine gate_builtin (b := .append) (xs := #[.tmp 95, .tmp 97]) rfl ?_); at_builtin; refine Kd.R_append k35 (w0 := W) W.heap.size rfl (.tmp 95) (.tmp 97) 32 35 (.agg #[(.string ⟨#[]⟩), (.int .u8 0)]) 24 rfl Try.underlying32 info35 rfl (by decide) (by omega) (.slice (some ⟨g, 0, none⟩) (m + 1) cap) acc (⟨s2, c2⟩ : S35) [.string (s2), .int .u8 (c2)] (fun _ => True) (fun _ => False) rfl ?aX ?aP (fun _ hk => hk.elim) ?aF ?aO ?aB ?aS ?aL ?_; (case aX => first | rfl | (simp only [World.size_setCell]; rfl)); (case aP => exact k35_mkM _ _ _ (⟨s2, c2⟩ : S35)); (case aF => exact (fun _ _ => trivial)); (case aO => exact HO9.out); (case aB => exact HB9.out); (case aS => exact HB9.out.size); (case aL => have := HQ.out; omega); intro v9 w12 ho hb hg hat; have HO12 := Lib.hid ho; have HB12 := Lib.hid hb; clear ho hb hg hat))
                      go_roundw
                      case rel => exact ⟨k + 1, by rw [hw], HM2.out, Lib.hid (by rw [HE2.out, put35_add HM3.out HC3.out]; exact HO12.out), HB12⟩
                      case measure => exact meas_step HM2.out hw
                · exact hg2.elim
              · rcases V2 with _ | t2
                · exact hg2.elim
                · have HE2 := Lib.hid (show substs v1 v2 v3 v4 (l0.take (k + 1)) = put35 acc ⟨s2 ++ t2, 0⟩ from HE.out)
                  have hz2 : wr.cell? a2 = some (.string t2) := hg2
                  clear HE hg2
                  have hcat2 : (9223372036854775807 < s2.size + t2.size) = False := cat_new HE2.out HD.out
                  by_cases hn : acc.length = 0
                  · obtain rfl : acc = [] := List.length_eq_zero_iff.1 hn
                    obtain ⟨Ax, cx, hvv⟩ := Kd.R_slice HO.out
                    rw [List.length_nil] at hvv
                    subst hvv
                    clear hn
                    go_wp2_with (first | ((with_reducible refine gate_dst (N := 10) rfl ?_); refine box_event ?hg (N := 10) ?hd (cs := #[.string (⟨#[]⟩ : ByteArray), .int .u8 0]) (t := 35) ?hr ?_; (case hd => rfl); (case hg => rfl); (case hr => first | (go_simp; done) | (go_simp; rfl)); intro gb hg w7 hbox hb; have HG := Lib.hid hg; have HY := Lib.hid hb; have HX7 := Lib.hid hbox; clear hg hbox hb; have z0 : w7.cell? ⟨gb, 0, none⟩ = some (.string (⟨#[]⟩ : ByteArray)) := (blk_cell HX7.out 0).trans rfl; have z1 : w7.cell? ⟨gb, 1, none⟩ = some (.int .u8 0) := (blk_cell HX7.out 1).trans rfl; have fz0 := blk_frozen HX7.out 0; have fz1 := blk_frozen HX7.out 1; have HW8 := Lib.hid ((HY.out.setCell (p := ⟨gb, 0, none⟩) (Nat.le_of_eq HG.out.symm) (.string s2)).setCell (p := ⟨gb, 1, none⟩) (Nat.le_of_eq HG.out.symm) (.int .u8 c2)); have hk8 := (HW8.out.block w.heap.size HS2.out).trans HK2.out; have y0 := (blk_cell hk8 0).trans rfl; have y1 := (blk_cell hk8 1).trans rfl; have y2 := (blk_cell hk8 2).trans rfl; have y3 := (blk_cell hk8 3).trans rfl; clear hk8) | (go_at_call 10; (with_reducible refine (Get.calls' p1 p2 p3 p4 (some a2) c2 _ hP2.out).mono ?_); rintro e w9 ⟨rfl, hb9⟩; have HV9 := Lib.hid (below_step HW8.out hb9); have HX9 := Lib.hid ((hb9.block gb (blk_lt (blk_put (blk_put HX7.out 0 (.string s2) rfl) 1 (.int .u8 c2) rfl))).trans (blk_put (blk_put HX7.out 0 (.string s2) rfl) 1 (.int .u8 c2) rfl)); have t0 := (blk_cell HX9.out 0).trans rfl; have t1 := (blk_cell HX9.out 1).trans rfl; have ft0 := blk_frozen HX9.out 0; have ft1 := blk_frozen HX9.out 1; clear hb9); have hz9 := (HV9.out.cell (World.block_lt_of_cell? wr _ hz2)).trans hz2)
                    go_region
                    generalize hw16 : (w9.setCell ⟨gb, 0, none⟩ (.string (s2 ++ t2))).drew = w16; have HX16 := Lib.hid (show w16.heap[gb]? = some (.cells #[.string (s2 ++ t2), .int .u8 c2] 35 (0, 0)) by rw [← hw16]; exact blk_put HX9.out 0 _ rfl); have HV16 := Lib.hid (show Below wr.heap.size wr w16 by rw [← hw16]; exact (HV9.out.setCell (p := ⟨gb, 0, none⟩) (Nat.le_of_eq HG.out.symm) _).drew); have j0 := (blk_cell HX16.out 0).trans rfl; have j1 := (blk_cell HX16.out 1).trans rfl; have fj0 := blk_frozen HX16.out 0; have fj1 := blk_frozen HX16.out 1; have HX17 := Lib.hid (blk_put HX16.out 1 (.int .u8 0) rfl); have HV17 := Lib.hid (HV16.out.setCell (p := ⟨gb, 1, none⟩) (Nat.le_of_eq HG.out.symm) (.int .u8 0)); have n0 := (blk_cell HX17.out 0).trans rfl; have n1 := (blk_cell HX17.out 1).trans rfl; have HO9 := Lib.hid (Kd.R_below HO.out HV17.out); have HB9 := Lib.hid (HB2.out.trans (HV17.out.mono HB2.out.size))
                    clear hw16
                    go_wp2_with (first | ((with_reducible refine gate_builtin (b := .append) (xs := #[.tmp 95, .tmp 97]) rfl ?_); at_builtin; refine Kd.R_append k35 (w0 := W) W.heap.size rfl (.tmp 95) (.tmp 97) 32 35 (.agg #[(.string ⟨#[]⟩), (.int .u8 0)]) 24 rfl Try.underlying32 info35 rfl (by decide) (by omega) (.slice Ax 0 cx) [] (⟨s2 ++ t2, 0⟩ : S35) [.string (s2 ++ t2), .int .u8 (0)] (fun _ => True) (fun _ => False) rfl ?aX ?aP (fun _ hk => hk.elim) ?aF ?aO ?aB ?aS ?aL ?_; (case aX => first | rfl | (simp only [World.size_setCell]; rfl)); (case aP => exact k35_mkM _ _ _ (⟨s2 ++ t2, 0⟩ : S35)); (case aF => exact (fun _ _ => trivial)); (case aO => exact HO9.out); (case aB => exact HB9.out); (case aS => exact HB9.out.size); (case aL => have := HQ.out; omega); intro v9 w12 ho hb hg hat; have HO12 := Lib.hid ho; have HB12 := Lib.hid hb; clear ho hb hg hat))
                    go_roundw
                    case rel => exact ⟨k + 1, by rw [hw], HM2.out, Lib.hid (by rw [HE2.out, put35_nil]; exact HO12.out), HB12⟩
                    case measure => exact meas_step HM2.out hw
                  · obtain ⟨m, hm⟩ : ∃ m, acc.length = m + 1 := ⟨acc.length - 1, by omega⟩
                    obtain ⟨g, cap, hvv, hBg, hlg, _, _⟩ := Kd.R_form HO.out (by omega)
                    rw [hm] at hvv
                    subst hvv
                    have HM3 := Lib.hid hm
                    have HBg := Lib.hid hBg
                    have HLg := Lib.hid hlg
                    clear hn hm hBg hlg
                    have hm64 : wrap64 (m : Int) = (m : Int) := by have := HM3.out; have := HQ.out; unfold wrap64; omega
                    by_cases hc : (rd_T35 acc m).f1 = 0
                    · have b3 : ((rd_T35 acc m).f1 == 0) = true := beq_iff_eq.mpr hc
                      have HC3 := Lib.hid hc
                      clear hc
                      have hcat : (9223372036854775807 < (rd_T35 acc m).f0.size + (s2 ++ t2).size) = False := cat_fits HE2.out HM3.out HD.out
                      have hcat3 : (9223372036854775807 < (rd_T35 acc m).f0.size + (s2.size + t2.size)) = False := by rw [← ByteArray.size_append]; exact hcat
                      go_wp2_with (first | ((with_reducible refine gate_dst (N := 10) rfl ?_); refine box_event ?hg (N := 10) ?hd (cs := #[.string (⟨#[]⟩ : ByteArray), .int .u8 0]) (t := 35) ?hr ?_; (case hd => rfl); (case hg => rfl); (case hr => first | (go_simp; done) | (go_simp; rfl)); intro gb hg w7 hbox hb; have HG := Lib.hid hg; have HY := Lib.hid hb; have HX7 := Lib.hid hbox; clear hg hbox hb; have z0 : w7.cell? ⟨gb, 0, none⟩ = some (.string (⟨#[]⟩ : ByteArray)) := (blk_cell HX7.out 0).trans rfl; have z1 : w7.cell? ⟨gb, 1, none⟩ = some (.int .u8 0) := (blk_cell HX7.out 1).trans rfl; have fz0 := blk_frozen HX7.out 0; have fz1 := blk_frozen HX7.out 1; have HW8 := Lib.hid ((HY.out.setCell (p := ⟨gb, 0, none⟩) (Nat.le_of_eq HG.out.symm) (.string s2)).setCell (p := ⟨gb, 1, none⟩) (Nat.le_of_eq HG.out.symm) (.int .u8 c2)); have hk8 := (HW8.out.block w.heap.size HS2.out).trans HK2.out; have y0 := (blk_cell hk8 0).trans rfl; have y1 := (blk_cell hk8 1).trans rfl; have y2 := (blk_cell hk8 2).trans rfl; have y3 := (blk_cell hk8 3).trans rfl; clear hk8) | (go_at_call 10; (with_reducible refine (Get.calls' p1 p2 p3 p4 (some a2) c2 _ hP2.out).mono ?_); rintro e w9 ⟨rfl, hb9⟩; have HV9 := Lib.hid (below_step HW8.out hb9); have HX9 := Lib.hid ((hb9.block gb (blk_lt (blk_put (blk_put HX7.out 0 (.string s2) rfl) 1 (.int .u8 c2) rfl))).trans (blk_put (blk_put HX7.out 0 (.string s2) rfl) 1 (.int .u8 c2) rfl)); have t0 := (blk_cell HX9.out 0).trans rfl; have t1 := (blk_cell HX9.out 1).trans rfl; have ft0 := blk_frozen HX9.out 0; have ft1 := blk_frozen HX9.out 1; clear hb9); have hz9 := (HV9.out.cell (World.block_lt_of_cell? wr _ hz2)).trans hz2)
                      go_region
                      generalize hw16 : (w9.setCell ⟨gb, 0, none⟩ (.string (s2 ++ t2))).drew = w16; have HX16 := Lib.hid (show w16.heap[gb]? = some (.cells #[.string (s2 ++ t2), .int .u8 c2] 35 (0, 0)) by rw [← hw16]; exact blk_put HX9.out 0 _ rfl); have HV16 := Lib.hid (show Below wr.heap.size wr w16 by rw [← hw16]; exact (HV9.out.setCell (p := ⟨gb, 0, none⟩) (Nat.le_of_eq HG.out.symm) _).drew); have j0 := (blk_cell HX16.out 0).trans rfl; have j1 := (blk_cell HX16.out 1).trans rfl; have fj0 := blk_frozen HX16.out 0; have fj1 := blk_frozen HX16.out 1; have HX17 := Lib.hid (blk_put HX16.out 1 (.int .u8 0) rfl); have HV17 := Lib.hid (HV16.out.setCell (p := ⟨gb, 1, none⟩) (Nat.le_of_eq HG.out.symm) (.int .u8 0)); have n0 := (blk_cell HX17.out 0).trans rfl; have n1 := (blk_cell HX17.out 1).trans rfl; have HO9 := Lib.hid (Kd.R_below HO.out HV17.out); have HB9 := Lib.hid (HB2.out.trans (HV17.out.mono HB2.out.size))
                      clear hw16
                      obtain ⟨r0, r1, r2, r3⟩ := row_elem HO9.out m (Nat.lt_succ_self m)
                      go_wp2
                      go_region
                      go_wp2
                      go_roundw
                      case rel => exact ⟨k + 1, by rw [hw], HM2.out, Lib.hid (by rw [HE2.out, put35_set HM3.out HC3.out]; exact Kd.R_drew (row_set2 HO9.out m (Nat.lt_succ_self m) _ _)), Lib.hid ((HB9.out.setCell (p := ⟨g, m * 2, none⟩) HBg.out _).setCell (p := ⟨g, m * 2 + 1, none⟩) HBg.out _).drew⟩
                      case measure => exact meas_step HM2.out hw
                    · have b3 : ((rd_T35 acc m).f1 == 0) = false := beq_eq_false_iff_ne.mpr hc
                      have HC3 := Lib.hid hc
                      clear hc
                      go_wp2_with (first | ((with_reducible refine gate_dst (N := 10) rfl ?_); refine box_event ?hg (N := 10) ?hd (cs := #[.string (⟨#[]⟩ : ByteArray), .int .u8 0]) (t := 35) ?hr ?_; (case hd => rfl); (case hg => rfl); (case hr => first | (go_simp; done) | (go_simp; rfl)); intro gb hg w7 hbox hb; have HG := Lib.hid hg; have HY := Lib.hid hb; have HX7 := Lib.hid hbox; clear hg hbox hb; have z0 : w7.cell? ⟨gb, 0, none⟩ = some (.string (⟨#[]⟩ : ByteArray)) := (blk_cell HX7.out 0).trans rfl; have z1 : w7.cell? ⟨gb, 1, none⟩ = some (.int .u8 0) := (blk_cell HX7.out 1).trans rfl; have fz0 := blk_frozen HX7.out 0; have fz1 := blk_frozen HX7.out 1; have HW8 := Lib.hid ((HY.out.setCell (p := ⟨gb, 0, none⟩) (Nat.le_of_eq HG.out.symm) (.string s2)).setCell (p := ⟨gb, 1, none⟩) (Nat.le_of_eq HG.out.symm) (.int .u8 c2)); have hk8 := (HW8.out.block w.heap.size HS2.out).trans HK2.out; have y0 := (blk_cell hk8 0).trans rfl; have y1 := (blk_cell hk8 1).trans rfl; have y2 := (blk_cell hk8 2).trans rfl; have y3 := (blk_cell hk8 3).trans rfl; clear hk8) | (go_at_call 10; (with_reducible refine (Get.calls' p1 p2 p3 p4 (some a2) c2 _ hP2.out).mono ?_); rintro e w9 ⟨rfl, hb9⟩; have HV9 := Lib.hid (below_step HW8.out hb9); have HX9 := Lib.hid ((hb9.block gb (blk_lt (blk_put (blk_put HX7.out 0 (.string s2) rfl) 1 (.int .u8 c2) rfl))).trans (blk_put (blk_put HX7.out 0 (.string s2) rfl) 1 (.int .u8 c2) rfl)); have t0 := (blk_cell HX9.out 0).trans rfl; have t1 := (blk_cell HX9.out 1).trans rfl; have ft0 := blk_frozen HX9.out 0; have ft1 := blk_frozen HX9.out 1; clear hb9); have hz9 := (HV9.out.cell (World.block_lt_of_cell? wr _ hz2)).trans hz2)
                      go_region
                      generalize hw16 : (w9.setCell ⟨gb, 0, none⟩ (.string (s2 ++ t2))).drew = w16; have HX16 := Lib.hid (show w16.heap[gb]? = some (.cells #[.string (s2 ++ t2), .int .u8 c2] 35 (0, 0)) by rw [← hw16]; exact blk_put HX9.out 0 _ rfl); have HV16 := Lib.hid (show Below wr.heap.size wr w16 by rw [← hw16]; exact (HV9.out.setCell (p := ⟨gb, 0, none⟩) (Nat.le_of_eq HG.out.symm) _).drew); have j0 := (blk_cell HX16.out 0).trans rfl; have j1 := (blk_cell HX16.out 1).trans rfl; have fj0 := blk_frozen HX16.out 0; have fj1 := blk_frozen HX16.out 1; have HX17 := Lib.hid (blk_put HX16.out 1 (.int .u8 0) rfl); have HV17 := Lib.hid (HV16.out.setCell (p := ⟨gb, 1, none⟩) (Nat.le_of_eq HG.out.symm) (.int .u8 0)); have n0 := (blk_cell HX17.out 0).trans rfl; have n1 := (blk_cell HX17.out 1).trans rfl; have HO9 := Lib.hid (Kd.R_below HO.out HV17.out); have HB9 := Lib.hid (HB2.out.trans (HV17.out.mono HB2.out.size))
                      clear hw16
                      obtain ⟨r0, r1, r2, r3⟩ := row_elem HO9.out m (Nat.lt_succ_self m)
                      go_wp2_with (first | ((with_reducible refine gate_builtin (b := .append) (xs := #[.tmp 95, .tmp 97]) rfl ?_); at_builtin; refine Kd.R_append k35 (w0 := W) W.heap.size rfl (.tmp 95) (.tmp 97) 32 35 (.agg #[(.string ⟨#[]⟩), (.int .u8 0)]) 24 rfl Try.underlying32 info35 rfl (by decide) (by omega) (.slice (some ⟨g, 0, none⟩) (m + 1) cap) acc (⟨s2 ++ t2, 0⟩ : S35) [.string (s2 ++ t2), .int .u8 (0)] (fun _ => True) (fun _ => False) rfl ?aX ?aP (fun _ hk => hk.elim) ?aF ?aO ?aB ?aS ?aL ?_; (case aX => first | rfl | (simp only [World.size_setCell]; rfl)); (case aP => exact k35_mkM _ _ _ (⟨s2 ++ t2, 0⟩ : S35)); (case aF => exact (fun _ _ => trivial)); (case aO => exact HO9.out); (case aB => exact HB9.out); (case aS => exact HB9.out.size); (case aL => have := HQ.out; omega); intro v9 w12 ho hb hg hat; have HO12 := Lib.hid ho; have HB12 := Lib.hid hb; clear ho hb hg hat))
                      go_roundw
                      case rel => exact ⟨k + 1, by rw [hw], HM2.out, Lib.hid (by rw [HE2.out, put35_add HM3.out HC3.out]; exact HO12.out), HB12⟩
                      case measure => exact meas_step HM2.out hw
            · have d1 : decide ((k : Int) < (l0.length : Int)) = false := decide_eq_false (by omega)
              have d2 : decide (k < l0.length) = false := decide_eq_false hlt
              have e3 : l0.take k = l0 := List.take_of_length_le (by omega)
              rw [e3] at HO
              obtain ⟨A2, c2, hv2, hlc, hC⟩ := Kd.R_reads HO.out
              subst hv2
              have HC2 := Lib.hid hC
              have HL2 := Lib.hid hlc
              clear hC hlc hk hlt e3 HO
              go_wp2
              go_ret
              exact ⟨A2, c2, substs v1 v2 v3 v4 l0, rfl, HL2.out, HC2.out, .inl rfl, HW.out.trans (HB2.out.mono (Nat.le_of_lt HZ.out))⟩
    · have d1 : decide ((i : Int) < (l0.length : Int)) = false := decide_eq_false (by omega)
      have d2 : decide (i < l0.length) = false := decide_eq_false hlt
      have HE := Lib.hid (show ∀ j : Nat, j < l0.length → pick4 none v1 v2 v3 v4 (rd_T35 l0 j).f1 = none from fun j hj => HI.out j (by omega))
      have HC2 := Lib.hid (Kd.C_below HR0.out (HW.out.trans (HB.out.mono (Nat.le_of_lt HZ.out))))
      clear hi hlt HI
      go_wp2
      go_ret
      exact ⟨A0, c0, l0, rfl, HC.out, HC2.out, .inr ⟨rfl, HE.out⟩, HW.out.trans (HB.out.mono (Nat.le_of_lt HZ.out))⟩
end Go.Proofs.Ytfhfbgfgmbfhhaa
