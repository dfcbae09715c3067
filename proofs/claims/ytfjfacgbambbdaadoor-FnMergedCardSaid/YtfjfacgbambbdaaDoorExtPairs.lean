/- pairsOf and the reference's SymMerge, walked. -/
import Derived.Test.YtfjfacgbambbdaaDoorExtClos
set_option linter.unusedVariables false
set_option linter.unusedSimpArgs false
namespace Go.Proofs.YtfjfacgbambbdaaDoor
open Go.RowKit Go.Proofs.YtfjfacgbambbdaaDoorW.PrintWords Go.Proofs.YtfjfacgbambbdaaDoorW.PrintLast Go.Proofs.YtfjfacgbambbdaaDoorW.PrintMore Go.Proofs.YtfjfacgbambbdaaDoor.PFnMerged
theorem info37 : (Tryd.prog.info? 37).map (fun i => (i.zero, i.size, i.bytes)) = some (some (.agg #[.int .i64 0, .int .i64 0]), 2, 16) := by kernel_rfl
theorem info3 : (Tryd.prog.info? 3).map (fun i => (i.zero, i.size, i.bytes)) = some (some (.int .i64 0), 1, 8) := by kernel_rfl
/-- The first k pairs of a list of numbers. -/
def pairsN (l : List Int) (k : Nat) : List (Int × Int) := (List.range k).map fun j => (rd l ((2 * j : Nat) : Int), rd l ((2 * j + 1 : Nat) : Int))
theorem pairsN_succ (l : List Int) (k : Nat) : pairsN l (k + 1) = pairsN l k ++ [(rd l ((2 * k : Nat) : Int), rd l ((2 * k + 1 : Nat) : Int))] := by
  unfold pairsN
  rw [List.range_succ, List.map_append]
  rfl
theorem pairsN_length (l : List Int) (k : Nat) : (pairsN l k).length = k := by simp [pairsN]
set_option maxHeartbeats 4000000 in
set_option maxRecDepth 100000 in
theorem Pairs.calls (A0 : Option Addr) (c0 : Nat) (l : List Int) (w : World) (hr : Kd.C (Kd.int .i64) w A0 l.length l) (hll : l.length ≤ 800) :
    Calls Tryd.prog 8 #[.slice A0 l.length c0] w fun e w' => ∃ (A : Option Addr) (c : Nat), (Kd.C kP w' A (l.length / 2) (pairsN l (l.length / 2)) ∧ l.length / 2 ≤ c ∧ Below w.heap.size w w') ∧ e = .returned (.slice A (l.length / 2) c) := by
  have HR := Lib.hid hr
  have HL := Lib.hid hll
  clear hr hll
  go_enter Tryd.func8, Tryd.ntmps8
  go_wp2
  go_loopw [4, 3] (fun v4 v3 wr => ∃ (i k : Nat), v4 = .int .i64 (i : Int) ∧ Hid (i = 2 * k) ∧ i ≤ l.length ∧ Hid (kP.R 37 wr w.heap.size (fun _ => True) v3 (pairsN l k)) ∧ Hid (Below w.heap.size w wr)) (fun v4 _ _ => l.length + 1 - (intOf v4).toNat)
  case atStart => exact ⟨0, 0, rfl, Lib.hid rfl, Nat.zero_le _, Lib.hid (Kd.R_nil _ _ _ _ _), Lib.hid (Below.refl _ _)⟩
  obtain ⟨i, k, rfl, HK, hi, HO, HB⟩ := hrel
  have w1 : wrap64 ((i : Int) + 1) = ((i + 1 : Nat) : Int) := by have := HL.out; unfold wrap64; omega
  have w2 : wrap64 ((i : Int) + 2) = ((i + 2 : Nat) : Int) := by have := HL.out; unfold wrap64; omega
  have w3 : IntKind.i64.wrap ((i : Int) + 1) = ((i + 1 : Nat) : Int) := by rw [IntKind.wrap_i64]; have := HL.out; omega
  by_cases hlt : i + 1 < l.length
  · have p1 : (0 : Int) ≤ (i : Int) := by omega
    have q1 : (i : Int) < (l.length : Int) := by omega
    have p2 : (0 : Int) ≤ ((i + 1 : Nat) : Int) := by omega
    have q2 : ((i + 1 : Nat) : Int) < (l.length : Int) := by omega
    have q3 : (i : Int) + 1 < (l.length : Int) := by omega
    have d1 : decide ((i : Int) + 1 < (l.length : Int)) = true := decide_eq_true q3
    have d2 : decide (i + 1 < l.length) = true := decide_eq_true hlt
    obtain ⟨ad, e1, x0⟩ := Kd.at_int HR.out i p1 q1
    cases e1
    obtain ⟨ad2, e2, x1⟩ := Kd.at_int HR.out ((i + 1 : Nat) : Int) p2 q2
    have e3 : ad2 = ad := (Option.some.inj e2).symm
    subst e3
    clear e2
    rw [Int.toNat_natCast] at x0 x1
    replace x0 := (HB.out.cell (World.block_lt_of_cell? w _ x0)).trans x0
    replace x1 := (HB.out.cell (World.block_lt_of_cell? w _ x1)).trans x1
    have ea : ad2.add (i + 1) = ⟨ad2.block, ad2.off + (i + 1), none⟩ := by unfold Addr.add; split <;> simp_all
    rw [ea] at x1
    have p3 : (0 ≤ (i : Int) + 1) = True := eq_true (by omega)
    clear ea
    have HE := Lib.hid (show pairsN l (k + 1) = pairsN l k ++ [(rd l (i : Int), rd l ((i + 1 : Nat) : Int))] from by rw [pairsN_succ, HK.out])
    have HQ := Lib.hid (show (pairsN l k).length ≤ 800 from by rw [pairsN_length]; have := HK.out; have := HL.out; omega)
    generalize rd l (i : Int) = a at *
    generalize rd l ((i + 1 : Nat) : Int) = b at *
    have HM := Lib.hid hlt
    clear hi
    go_wp2
    go_region_law (refine Kd.R_append_step kP (w0 := w) (W := wr.drew) w.heap.size (by rfl) (.tmp 12) (.tmp 23) 29 37 (.agg #[.int .i64 0, .int .i64 0]) 16 rfl Tryd.underlying29 info37 rfl (by decide) (by omega) u3 (pairsN l k) (a, b) [.int .i64 a, .int .i64 b] (fun _ => True) (fun _ => False) rfl rfl ?aP (fun _ hk => hk.elim) ?aF ?aO ?aB ?aS ?aL ?_; (case aP => exact rfl); (case aF => exact (fun _ _ => trivial)); (case aO => exact Kd.R_drew HO.out); (case aB => exact HB.out.drew); (case aS => exact HB.out.size); (case aL => have := HQ.out; omega); intro v9 w12 ho hb hg hat; have HO12 := Lib.hid ho; have HB12 := Lib.hid hb; clear ho hb hg hat)
    all_goals go_wp2
    all_goals go_roundw
    all_goals first
      | exact ⟨i + 2, k + 1, by rw [w2], Lib.hid (by have := HK.out; omega), by have := HM.out; omega, Lib.hid (by rw [HE.out]; exact HO12.out), HB12⟩
      | (rw [w2]; have hm := HM.out; show l.length + 1 - ((i + 2 : Nat) : Int).toNat < l.length + 1 - ((i : Int)).toNat; rw [Int.toNat_natCast, Int.toNat_natCast]; omega)
  · have q3 : ¬ (i : Int) + 1 < (l.length : Int) := by omega
    have d1 : decide ((i : Int) + 1 < (l.length : Int)) = false := decide_eq_false q3
    have d2 : decide (i + 1 < l.length) = false := decide_eq_false hlt
    have hk : k = l.length / 2 := by have := HK.out; omega
    subst hk
    obtain ⟨A2, c2, hv2, hlc, hC⟩ := Kd.R_reads HO.out
    rw [pairsN_length] at hv2 hlc hC
    subst hv2
    have HC2 := Lib.hid hC
    have HL2 := Lib.hid hlc
    clear hC hlc hi hlt HO q3
    go_wp2
    go_ret
    exact ⟨A2, c2, ⟨HC2.out, HL2.out, HB.out⟩, rfl⟩
/-- What stands for what, when those that a stands for are stood for by what b stands for. -/
def sw (f t x : Int) : Int := if x = f then t else x
def stepM (o : List Int) (p : Int × Int) : List Int := o.map (sw (rd o p.1) (rd o p.2))
def symM (many : Nat) (ps : List (Int × Int)) : List Int := ps.foldl stepM ((List.range many).map Int.ofNat)
theorem stepM_length (o : List Int) (p : Int × Int) : (stepM o p).length = o.length := by simp [stepM]
theorem foldM_length : ∀ (ps : List (Int × Int)) (o : List Int), (ps.foldl stepM o).length = o.length
  | [], _ => rfl
  | p :: ps, o => by rw [List.foldl_cons, foldM_length ps, stepM_length]
theorem symM_length (many : Nat) (ps : List (Int × Int)) : (symM many ps).length = many := by
  unfold symM
  rw [foldM_length]
  simp
theorem symM_take (many : Nat) (ps : List (Int × Int)) (i : Nat) (h : i < ps.length) : symM many (ps.take (i + 1)) = stepM (symM many (ps.take i)) (rdP ps i) := by
  have e : rdP ps i = ps[i] := by
    unfold rdP
    rw [Int.toNat_natCast, List.getD_eq_getElem?_getD, List.getElem?_eq_getElem h]
    rfl
  rw [List.take_succ_eq_append_getElem h, e]
  unfold symM
  rw [List.foldl_append]
  rfl
/-- Half way through a step. -/
def halfM (o : List Int) (f t : Int) (i : Nat) : List Int := (o.take i).map (sw f t) ++ o.drop i
theorem halfM_length (o : List Int) (f t : Int) (i : Nat) (h : i ≤ o.length) : (halfM o f t i).length = o.length := by
  unfold halfM
  rw [List.length_append, List.length_map, List.length_take, List.length_drop]
  omega
theorem halfM_rd (o : List Int) (f t : Int) (i : Nat) (h : i < o.length) : rd (halfM o f t i) i = rd o i := by
  unfold rd halfM
  rw [Int.toNat_natCast, List.getD_eq_getElem?_getD, List.getD_eq_getElem?_getD, List.getElem?_append_right (by rw [List.length_map, List.length_take]; omega), List.length_map, List.length_take, List.getElem?_drop]
  congr 2
  omega
theorem halfM_succ (o : List Int) (f t : Int) (i : Nat) (h : i < o.length) : halfM o f t (i + 1) = (halfM o f t i).set i (sw f t (rd o i)) := by
  have e : rd o i = o[i] := by
    unfold rd
    rw [Int.toNat_natCast, List.getD_eq_getElem?_getD, List.getElem?_eq_getElem h]
    rfl
  unfold halfM
  rw [List.set_append_right _ _ (by rw [List.length_map, List.length_take]; omega), List.length_map, List.length_take, e]
  have e2 : i - min i o.length = 0 := by omega
  rw [e2, List.drop_eq_getElem_cons h, List.set_cons_zero, List.take_succ_eq_append_getElem h, List.map_append, List.append_assoc]
  rfl
theorem halfM_same (o : List Int) (f t : Int) (i : Nat) (h : i < o.length) (hne : rd o i ≠ f) : halfM o f t (i + 1) = halfM o f t i := by
  have e : rd o i = o[i] := by
    unfold rd
    rw [Int.toNat_natCast, List.getD_eq_getElem?_getD, List.getElem?_eq_getElem h]
    rfl
  have e2 : sw f t o[i] = o[i] := by
    unfold sw
    rw [if_neg (by rw [← e]; exact hne)]
  unfold halfM
  rw [List.drop_eq_getElem_cons h, List.take_succ_eq_append_getElem h, List.map_append, List.append_assoc]
  show _ ++ ([sw f t o[i]] ++ _) = _
  rw [e2]
  rfl
section
variable {ops : Array Oper} {rest : List Oper} {o : Oper} {a : Act} {Q : Exit → Act → World → Prop}
/-- make([]int, 0, n). -/
theorem make_event {W : World} (hgd : o.guard = none) (x y : Operand) (ho : o.op = .makeSlice 23 x y) (n : Nat) (hx : a.eval x = .int .i64 0) (hy : a.eval y = .int .i64 (n : Int)) (hn : n ≤ 200) (B : Nat) (hB : B ≤ W.heap.size)
    (h : ∀ v1 w1, (Kd.int .i64).R 3 w1 B (fun _ => True) v1 [] → W.grownBy w1 none → wpList Tryd.prog ops Q rest (a.put o.dst v1) w1) : wpList Tryd.prog ops Q (o :: rest) a W := by
  obtain ⟨i0, hi, hz⟩ := Option.map_eq_some_iff.1 info3
  simp only [Prod.mk.injEq] at hz
  obtain ⟨hz0, hz1, hz2⟩ := hz
  obtain ⟨w1, hr, ho1, hg⟩ := run_make_own (P := Tryd.prog) W B 23 3 i0 _ 1 Tryd.underlying23 hi hz0 hz1 .i64 .i64 n (by rw [hz2]; omega) (by unfold maxLen; omega) hB
  refine Kd.event_run hgd ?_ (h _ _ ⟨fun _ _ => trivial, [], ho1, ⟨rfl, fun j p hj => by simp at hj⟩⟩ hg)
  simp [execOp, ho, hx, hy, hr]
end
set_option maxHeartbeats 4000000 in
set_option maxRecDepth 100000 in
theorem SymM.calls (many : Nat) (A1 : Option Addr) (c1 : Nat) (ps : List (Int × Int)) (w : World) (hr : Kd.C kP w A1 ps.length ps) (hm : many ≤ 200) (hl : ps.length ≤ 400) (hx : ∀ i : Nat, i < ps.length → (0 ≤ (rdP ps i).1 ∧ (rdP ps i).1 < many) ∧ (0 ≤ (rdP ps i).2 ∧ (rdP ps i).2 < many)) :
    Calls Tryd.prog 9 #[.int .i64 (many : Int), .slice A1 ps.length c1] w fun e w' => ∃ (A : Option Addr) (c : Nat), (Kd.C (Kd.int .i64) w' A many (symM many ps) ∧ many ≤ c ∧ Below w.heap.size w w') ∧ e = .returned (.slice A many c) := by
  have HR := Lib.hid hr
  have HM := Lib.hid hm
  have HL := Lib.hid hl
  have HX := Lib.hid hx
  clear hr hm hl hx
  go_enter Tryd.func9, Tryd.ntmps9
  go_wp2_with (first | ((with_reducible refine gate_dst (N := 13) rfl ?_); refine make_event ?hgd (.const (.int .i64 0)) (.tmp 12) ?ho many ?hx ?hy HM.out w.heap.size ?hB ?_; (case hgd => rfl); (case ho => rfl); (case hx => rfl); (case hy => rfl); (case hB => exact Nat.le_refl _); intro vm wm hom hgm; have HOm := Lib.hid hom; have HBm := Lib.hid ((Below.refl w.heap.size w).grown hgm (Nat.le_refl _) (fun k hk => by cases hk)); clear hom hgm))
  go_loopw [6, 5] (fun v6 v5 wr => ∃ (i : Nat), v6 = .int .i64 (i : Int) ∧ i ≤ many ∧ Hid ((Kd.int .i64).R 3 wr w.heap.size (fun _ => True) v5 ((List.range i).map Int.ofNat)) ∧ Hid (Below w.heap.size w wr)) (fun v6 _ _ => many - (intOf v6).toNat)
  case atStart => exact ⟨0, rfl, Nat.zero_le _, HOm, HBm⟩
  clear HOm HBm
  obtain ⟨i, rfl, hi, HO, HB⟩ := hrel
  have hw : wrap64 ((i : Int) + 1) = ((i + 1 : Nat) : Int) := by have := HM.out; unfold wrap64; omega
  by_cases hlt : i < many
  · have d1 : decide ((i : Int) < (many : Int)) = true := decide_eq_true (by omega)
    have d2 : decide (i < many) = true := decide_eq_true hlt
    have HE := Lib.hid (show (List.range (i + 1)).map Int.ofNat = (List.range i).map Int.ofNat ++ [(i : Int)] from by rw [List.range_succ, List.map_append]; rfl)
    have HQ := Lib.hid (show ((List.range i).map Int.ofNat).length ≤ 200 from by have := HM.out; rw [List.length_map, List.length_range]; omega)
    have HLT := Lib.hid hlt
    clear hi hlt
    go_wp2_with (first | ((with_reducible refine gate_builtin (b := .append) (xs := #[.tmp 19, .tmp 21]) rfl ?_); at_builtin; refine Kd.R_append (Kd.int .i64) (w0 := w) w.heap.size rfl (.tmp 19) (.tmp 21) 23 3 (.int .i64 0) 8 rfl Tryd.underlying23 info3 rfl (by decide) (by omega) u5 ((List.range i).map Int.ofNat) (i : Int) [.int .i64 (i : Int)] (fun _ => True) (fun _ => False) rfl rfl ?aP (fun _ hk => hk.elim) ?aF ?aO ?aB ?aS ?aL ?_; (case aP => exact rfl); (case aF => exact (fun _ _ => trivial)); (case aO => exact HO.out); (case aB => exact HB.out); (case aS => exact HB.out.size); (case aL => have := HQ.out; omega); intro v9 w12 ho hb hg hat; have HO12 := Lib.hid ho; have HB12 := Lib.hid hb; clear ho hb hg hat))
    go_roundw
    case rel => exact ⟨i + 1, by rw [hw], HLT.out, Lib.hid (by rw [HE.out]; exact HO12.out), HB12⟩
    case measure =>
      rw [hw]
      have hm := HLT.out
      show many - ((i + 1 : Nat) : Int).toNat < many - ((i : Int)).toNat
      rw [Int.toNat_natCast, Int.toNat_natCast]
      omega
  · have d1 : decide ((i : Int) < (many : Int)) = false := decide_eq_false (by omega)
    have d2 : decide (i < many) = false := decide_eq_false hlt
    have hie : i = many := by omega
    subst hie
    clear hi hlt hw
    go_wp2
    go_loopw [25] (fun v25 wr => ∃ (j : Nat), v25 = .int .i64 (j : Int) ∧ j ≤ ps.length ∧ Hid ((Kd.int .i64).R 3 wr w.heap.size (fun _ => True) u5 (symM i (ps.take j))) ∧ Hid (Below w.heap.size w wr)) (fun v25 _ => ps.length - (intOf v25).toNat)
    case atStart => exact ⟨0, rfl, Nat.zero_le _, Lib.hid HO.out, HB⟩
    clear HO HB d1 d2
    obtain ⟨j, rfl, hj, HO, HB⟩ := hrel
    have hw : wrap64 ((j : Int) + 1) = ((j + 1 : Nat) : Int) := by have := HL.out; unfold wrap64; omega
    by_cases hlt : j < ps.length
    · have p1 : (0 : Int) ≤ (j : Int) := by omega
      have q1 : (j : Int) < (ps.length : Int) := by omega
      have d1 : decide ((j : Int) < (ps.length : Int)) = true := decide_eq_true q1
      have d2 : decide (j < ps.length) = true := decide_eq_true hlt
      obtain ⟨ad, e1, x0, x1⟩ := at_P HR.out j hlt
      cases e1
      replace x0 := (HB.out.cell (World.block_lt_of_cell? w _ x0)).trans x0
      replace x1 := (HB.out.cell (World.block_lt_of_cell? w _ x1)).trans x1
      have HE := Lib.hid (symM_take i ps j hlt)
      have HLj := Lib.hid hlt
      obtain ⟨⟨a0, a1⟩, b0, b1⟩ := HX.out j hlt
      generalize rdP ps j = pr at *
      obtain ⟨a, b⟩ := pr
      change 0 ≤ a at a0
      change a < (i : Int) at a1
      change 0 ≤ b at b0
      change b < (i : Int) at b1
      have hlen := symM_length i (ps.take j)
      obtain ⟨g, cap, hvv, hBg, hlg, _, _⟩ := Kd.R_form HO.out (by omega)
      subst hvv
      have HC0 := Kd.R_celln (0 : Int) HO.out a a0 (by rw [hlen]; exact a1)
      have HC1 := Kd.R_celln (0 : Int) HO.out b b0 (by rw [hlen]; exact b1)
      rw [hlen] at HO
      have hc0 : wr.cell? ⟨g, a.toNat, none⟩ = some (.int .i64 (rd (symM i (ps.take j)) a)) := HC0.1
      have hc1 : wr.cell? ⟨g, b.toNat, none⟩ = some (.int .i64 (rd (symM i (ps.take j)) b)) := HC1.1
      clear HC0 HC1
      have HBg := Lib.hid hBg
      have HLg := Lib.hid hlg
      have HLN := Lib.hid hlen
      generalize symM i (ps.take j) = o at *
      rw [hlen]
      have n0 : (a < 0) = False := eq_false (by omega)
      have n1 : (b < 0) = False := eq_false (by omega)
      have n2 : ((i : Int) ≤ a) = False := eq_false (by omega)
      have n3 : ((i : Int) ≤ b) = False := eq_false (by omega)
      have m0 : decide (a < 0) = false := decide_eq_false (by omega)
      have m1 : decide (b < 0) = false := decide_eq_false (by omega)
      have m2 : decide ((i : Int) ≤ a) = false := decide_eq_false (by omega)
      have m3 : decide ((i : Int) ≤ b) = false := decide_eq_false (by omega)
      replace a0 := eq_true a0
      replace a1 := eq_true a1
      replace b0 := eq_true b0
      replace b1 := eq_true b1
      clear hj hlt hBg hlg hlen
      replace p1 := eq_true p1
      replace q1 := eq_true q1
      go_wp2_with (first | ((with_reducible refine gate_dst (N := 8) rfl ?_); refine box_event ?hg (N := 8) ?hd (cs := #[.int .i64 0, .int .i64 0]) (t := 37) ?hr ?_; (case hd => rfl); (case hg => rfl); (case hr => first | (go_simp; done) | (go_simp; rfl)); intro gb hg w7 hbox hb; have HG := Lib.hid hg; have HY := Lib.hid hb; have HX7 := Lib.hid hbox; clear hg hbox hb; have z0 := (blk_cell HX7.out 0).trans rfl; have z1 := (blk_cell HX7.out 1).trans rfl; have fz0 := blk_frozen HX7.out 0; have fz1 := blk_frozen HX7.out 1))
      have hb8 := (HY.out.setCell (p := ⟨gb, 0, none⟩) (Nat.le_of_eq HG.out.symm) (.int .i64 a)).setCell (p := ⟨gb, 1, none⟩) (Nat.le_of_eq HG.out.symm) (.int .i64 b)
      have hx8 := blk_put (blk_put HX7.out 0 (.int .i64 a) rfl) 1 (.int .i64 b) rfl
      generalize World.setCell (World.setCell w7 _ _) _ _ = w8 at *
      clear x0 x1 z0 z1 fz0 fz1 HX7 HY
      have x0 := (blk_cell hx8 0).trans rfl
      have x1 := (blk_cell hx8 1).trans rfl
      replace hc0 := (hb8.cell (World.block_lt_of_cell? wr _ hc0)).trans hc0
      replace hc1 := (hb8.cell (World.block_lt_of_cell? wr _ hc1)).trans hc1
      have HO8 := Lib.hid (Kd.R_below HO.out hb8)
      have HB8 := Lib.hid (HB.out.trans (hb8.mono HB.out.size))
      clear hx8 hb8 HO HB
      go_quiet (fail)
      generalize hw9 : w8.drewN _ = w9
      have hb9 : Below w8.heap.size w8 w9 := by rw [← hw9]; exact pw_below_drewN (Below.refl _ _) _
      have HO9 := Lib.hid (Kd.R_below HO8.out hb9)
      have HB9 := Lib.hid (HB8.out.trans (hb9.mono HB8.out.size))
      clear hw9 hb9 HO8 HB8 x0 x1 hc0 hc1
      have HNX := Lib.hid (show stepM o (a, b) = o.map (sw (rd o a) (rd o b)) from rfl)
      generalize rd o a = f at *
      generalize rd o b = tt at *
      clear n0 n1 n2 n3 m0 m1 m2 m3 a0 a1 b0 b1
      go_wp2
      go_loopw [11] (fun v11 wr => ∃ (k : Nat), v11 = .int .i64 (k : Int) ∧ k ≤ i ∧ Hid ((Kd.int .i64).R 3 wr w.heap.size (fun _ => True) (.slice (some ⟨g, 0, none⟩) i cap) (halfM o f tt k)) ∧ Hid (Below w.heap.size w wr)) (fun v11 _ => i - (intOf v11).toNat)
      case atStart => exact ⟨0, rfl, Nat.zero_le _, HO9, HB9⟩
      clear HO9 HB9
      obtain ⟨k, rfl, hk, HO, HB⟩ := hrel
      have hwk : wrap64 ((k : Int) + 1) = ((k + 1 : Nat) : Int) := by have := HM.out; unfold wrap64; omega
      by_cases hlt : k < i
      · have e1 : decide ((k : Int) < (i : Int)) = true := decide_eq_true (by omega)
        have e2 : decide (k < i) = true := decide_eq_true hlt
        have e3 : (0 : Int) ≤ (k : Int) := by omega
        have e4 : (k : Int) < (i : Int) := by omega
        have hkl : k < o.length := by rw [HLN.out]; exact hlt
        have HC := Kd.R_celln (0 : Int) HO.out (k : Int) e3 e4
        rw [Int.toNat_natCast] at HC
        have hc : wr.cell? ⟨g, k, none⟩ = some (.int .i64 (rd o k)) := by rw [← halfM_rd o f tt k hkl]; exact HC.1
        have hf := HC.2
        have HKL := Lib.hid hkl
        have HLT := Lib.hid hlt
        clear HC hkl hk hlt
        by_cases hfe : rd o k = f
        · have HP := Lib.hid (Kd.R_putn HO.out (k : Int) tt)
          have HS := Lib.hid (show halfM o f tt (k + 1) = (halfM o f tt k).set k tt from by rw [halfM_succ o f tt k HKL.out]; unfold sw; rw [if_pos hfe])
          rw [hfe] at hc
          clear hfe
          go_wp2
          go_roundw
          case rel => exact ⟨k + 1, by rw [hwk], HLT.out, Lib.hid (by rw [HS.out]; exact HP.out), Lib.hid (HB.out.setCell (p := ⟨g, k, none⟩) HBg.out _)⟩
          case measure =>
            rw [hwk]
            have hm := HLT.out
            show i - ((k + 1 : Nat) : Int).toNat < i - ((k : Int)).toNat
            rw [Int.toNat_natCast, Int.toNat_natCast]
            omega
        · have hfb : (rd o k == f) = false := beq_eq_false_iff_ne.mpr hfe
          have HS := Lib.hid (halfM_same o f tt k HKL.out hfe)
          clear hfe
          go_wp2
          go_roundw
          case rel => exact ⟨k + 1, by rw [hwk], HLT.out, Lib.hid (by rw [HS.out]; exact HO.out), HB⟩
          case measure =>
            rw [hwk]
            have hm := HLT.out
            show i - ((k + 1 : Nat) : Int).toNat < i - ((k : Int)).toNat
            rw [Int.toNat_natCast, Int.toNat_natCast]
            omega
      · have e1 : decide ((k : Int) < (i : Int)) = false := decide_eq_false (by omega)
        have e2 : decide (k < i) = false := decide_eq_false hlt
        have e5 : halfM o f tt k = stepM o (a, b) := by
          rw [HNX.out]
          unfold halfM
          rw [List.take_of_length_le (by rw [HLN.out]; omega), List.drop_eq_nil_of_le (by rw [HLN.out]; omega), List.append_nil]
        rw [e5] at HO
        clear hk hlt e5
        go_wp2
        go_roundw
        case rel => exact ⟨j + 1, by rw [hw], HLj.out, Lib.hid (by rw [HE.out]; exact HO.out), HB⟩
        case measure =>
          rw [hw]
          have hm := HLj.out
          show ps.length - ((j + 1 : Nat) : Int).toNat < ps.length - ((j : Int)).toNat
          rw [Int.toNat_natCast, Int.toNat_natCast]
          omega
    · have d1 : decide ((j : Int) < (ps.length : Int)) = false := decide_eq_false (by omega)
      have d2 : decide (j < ps.length) = false := decide_eq_false hlt
      have e3 : ps.take j = ps := List.take_of_length_le (by omega)
      rw [e3] at HO
      obtain ⟨A2, c2, hv2, hlc, hC⟩ := Kd.R_reads HO.out
      rw [symM_length] at hv2 hlc hC
      subst hv2
      have HC2 := Lib.hid hC
      have HL2 := Lib.hid hlc
      clear hC hlc hj hlt HO e3
      go_wp2
      go_ret
      exact ⟨A2, c2, ⟨HC2.out, HL2.out, HB.out⟩, rfl⟩
end Go.Proofs.YtfjfacgbambbdaaDoor
