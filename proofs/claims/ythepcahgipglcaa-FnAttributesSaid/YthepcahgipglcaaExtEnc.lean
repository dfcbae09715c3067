/- EncodeImportAttributes, walked: the pairs of a map, packed, in the order of the keys. -/
import Derived.Test.YthepcahgipglcaaExtES
set_option linter.unusedVariables false
set_option linter.unusedSimpArgs false
namespace Go.Proofs.Ythepcahgipglcaa
open Go.RowKit Go.Maps Go.Sort Go.Proofs.YthepcahgipglcaaW.PrintWords Go.Proofs.YthepcahgipglcaaW.PrintLast
theorem info9 : (Try.prog.info? 9).map (fun i => (i.zero, i.size, i.bytes)) = some (some (.string ⟨#[]⟩), 1, 16) := by kernel_rfl
theorem info30 : (Try.prog.info? 30).map (·.size) = some 1 := by kernel_rfl
theorem size0_none {w : World} {b n : Nat} {D : DataW Unit} (h : w.ownsMap Try.prog 9 (plainElem Try.prog 9) b n D) (h0 : Maps.size D = 0) (x : Bs) : Maps.has D (.string x) = false := by
  obtain ⟨es, rfl, _⟩ := h.entries law9
  have : es = [] := List.eq_nil_of_length_eq_zero h0
  subst this
  rfl
theorem pack_le {D : DataW Unit} : ∀ {l : List Bs} {m : Nat}, (∀ y ∈ l, y.length ≤ 2147483647 ∧ (valOf D y).length ≤ 2147483647) → l.length ≤ m → (pack (pairsOf D l)).length ≤ m * 4294967310 := by
  intro l
  induction l with
  | nil => intro m _ _; exact Nat.zero_le _
  | cons y l ih =>
    intro m h hm
    cases m with
    | zero => simp at hm
    | succ m =>
      have h1 := h y (List.mem_cons_self ..)
      have h2 := ih (m := m) (fun z hz => h z (List.mem_cons_of_mem _ hz)) (by simp at hm; omega)
      have e : pairsOf D (y :: l) = (y, valOf D y) :: pairsOf D l := rfl
      rw [e, pack_cons, List.length_append, packOne_length]
      simp only
      omega
theorem ownsMap_below {w w' : World} {b n B : Nat} {D : DataW Unit} (h : w.ownsMap Try.prog 9 (plainElem Try.prog 9) b n D) (hB : Below B w w') (hlt : b < B) : w'.ownsMap Try.prog 9 (plainElem Try.prog 9) b n D := by
  obtain ⟨es, clock, hb, rest⟩ := h
  exact ⟨es, clock, (hB.block b hlt).trans hb, rest⟩
set_option maxHeartbeats 8000000 in
set_option maxRecDepth 100000 in
theorem Encode.calls (b n : Nat) (D : DataW Unit) (w : World) (hown : w.ownsMap Try.prog 9 (plainElem Try.prog 9) b n D) (hn : Maps.size D ≤ 20)
    (hk : ∀ x : Bs, Maps.has D (.string x) = true → x.length ≤ 2147483647 ∧ (valOf D x).length ≤ 2147483647) :
    Calls Try.prog 7 #[.map (some b)] w fun e w' => ∃ ks : List Bs, (ks.Nodup ∧ (∀ x, x ∈ ks ↔ Maps.has D (.string x) = true) ∧ Below w.heap.size w w') ∧ e = .returned (.agg #[.string ⟨(pack (pairsOf D (ks.mergeSort leB))).toArray⟩]) := by
  obtain ⟨i0, hi, hz0, hz1, hz2⟩ := info_parts info9
  have HO := Lib.hid hown
  have HN := Lib.hid hn
  have HK := Lib.hid hk
  clear hown hn hk
  go_enter Try.func7, Try.ntmps7
  go_upto_region 1 with (fail)
  have hb := below_alloc (Below.refl w.heap.size w) (.cells #[.string ⟨#[]⟩] 30 (0, 0))
  have hx := heap_alloc_new w (.cells #[.string ⟨#[]⟩] 30 (0, 0))
  have HO1 := Lib.hid (HO.out.alloc (.cells #[.string ⟨#[]⟩] 30 (0, 0)))
  have hsz : (w.alloc (.cells #[.string ⟨#[]⟩] 30 (0, 0))).heap.size = w.heap.size + 1 := by simp
  generalize World.alloc w _ = W1 at *
  have HB1 := Lib.hid hb
  have HX1 := Lib.hid hx
  have HS1 := Lib.hid hsz
  have z0 := blk_frozen hx 0
  have z1 : W1.cell? ⟨w.heap.size, 0, none⟩ = some (.string ⟨#[]⟩) := (blk_cell hx 0).trans rfl
  clear hb hx hsz
  by_cases h0 : Maps.size D = 0
  · have d1 : ((Maps.size D : Int) == 0) = true := by rw [h0]; rfl
    have HNone := Lib.hid (size0_none HO.out h0)
    clear h0
    go_wp2_with (first
      | (at_len; refine wpList_len_own _ rfl _ 27 rfl 9 9 Try.underlying27 _ b n _ rfl HO1.out ?_))
    have hx3 := blk_put HX1.out 0 (.string ⟨#[]⟩) rfl
    have hb3 : Below w.heap.size w (W1.setCell ⟨w.heap.size, 0, none⟩ (.string ⟨#[]⟩)) := HB1.out.setCell (p := ⟨w.heap.size, 0, none⟩) (Nat.le_refl _) _
    exact bodyPost_ret (results_cell_row rfl _ _ w.heap.size 30 #[.string ⟨#[]⟩] (0, 0) _ rfl hx3 Try.underlying30 rfl (by rw [info30]; rfl)) rfl ⟨[], ⟨List.nodup_nil, fun x => by rw [HNone.out x]; simp, hb3⟩, by rw [List.mergeSort_nil]; rfl⟩
  · have d1 : ((Maps.size D : Int) == 0) = false := by simp; omega
    clear h0
    go_upto_region 3 with (first
      | (at_len; refine wpList_len_own _ rfl _ 27 rfl 9 9 Try.underlying27 _ b n _ rfl HO1.out ?_))
    go_upto_region 4 with (first
      | (at_len; refine wpList_len_own _ rfl _ 27 rfl 9 9 Try.underlying27 _ b n _ rfl HO1.out ?_)
      | (at_make; refine wpList_make_own _ rfl _ _ 35 rfl W1.heap.size 9 i0 (.string ⟨#[]⟩) 1 Try.underlying35 hi hz0 hz1 _ _ _ (Maps.size D) rfl rfl rfl (by rw [hz2]; have := HN.out; omega) (by have := HN.out; unfold maxLen; omega) (Nat.le_refl _) ?_; intro w2 hrow2 hg2; have HRow2 := Lib.hid hrow2; have HG2 := Lib.hid hg2; clear hrow2 hg2))
    go_wp2_with (first
      | (at_range; refine wpList_range_own _ rfl _ 27 rfl 9 9 law9 Try.underlying27 _ b n _ rfl (HO1.out.kept HG2.out (by simp)) ?_; intro w3 hrg3 hg3 hs3; have HRg3 := Lib.hid hrg3; have HG3 := Lib.hid hg3; clear hrg3 hg3 hs3))
    have HNx := Lib.hid (show Below W1.heap.size W1 w3 from ((Below.refl _ _).grown HG2.out (Nat.le_refl _) (fun j hj => by cases hj)).grown HG3.out HG2.out.size (fun j hj => by cases hj))
    have HRow3 := Lib.hid (HRow2.out.kept HG3.out (Or.inr (by simp [Value.ownBlock])))
    have HR := Lib.hid (show W1.heap.size ≤ w2.heap.size ∧ b < W1.heap.size from ⟨HG2.out.size, HO1.out.lt⟩)
    generalize hrr : w2.heap.size = r at HRg3 HR
    clear HRow2 HG2 HG3 hrr
    go_frame
    go_loopw [3, 4] (fun v3 v4 wr => ∃ (left : Lit → Bool) (cnt : Nat) (ss : List Bs), Hid (wr.ranges Try.prog 9 (plainElem Try.prog 9) b r n D left cnt) ∧ Hid (ss.length + cnt ≤ Maps.size D) ∧ Hid (wr.ownsRow W1.heap.size 9 1 v3 ss.length (ss.map encStr)) ∧ v3 ≠ .slice none 0 0 ∧ Hid (Collected D left ss) ∧ Hid (Below W1.heap.size W1 wr)) (fun _ _ wr => wr.rangeLeft b r)
    case atStart => exact ⟨_, _, [], HRg3, Lib.hid (by simp), HRow3, by simp, Lib.hid (Collected.start D), HNx⟩
    clear HRg3 HRow3 HNx
    obtain ⟨left, cnt, ss, HRg, HCs, HRow, hnn, HC, HNx⟩ := hrel
    go_upto_region 6 with (first
      | (at_next; refine wpList_next_ranges _ rfl _ rfl 9 law9 (plainElem Try.prog 9) encStr Value.string (fun key kl hk => by obtain ⟨x, hx, _⟩ := Maps.keyOf_str Try.underlying9 hk; exact ⟨x, hx⟩) (fun v y hv => by obtain ⟨c, rfl, _⟩ := plainElem_string_inv Try.underlying9 hv; exact ⟨c, rfl⟩) b r n _ _ _ rfl HRg.out ?_ ?_))
    · intro hc0 hl0
      rcases HRow.out.2 with ⟨hnil, _⟩ | ⟨g, cap, cur, rfl, hbase, hb, h1, h2, h3, h4⟩
      · exact absurd hnil hnn
      have hH : Holds encStr wr g 0 ss.toArray := holds_of_block hb (by simpa using h4)
      have hgl : g < wr.heap.size := (Array.getElem?_eq_some_iff.1 hb).1
      have hle : ss.length ≤ 20 := by have := HCs.out; have := HN.out; omega
      have hc : Calls Try.prog 9 #[.slice (some ⟨g, 0, none⟩) ss.length cap] wr fun e w5 => e = .returned (.tuple #[]) ∧ (w5.ownsRow W1.heap.size 9 1 (.slice (some ⟨g, 0, none⟩) ss.length cap) ss.length ((ss.mergeSort leB).map encStr) ∧ wr.grownBy w5 (some g)) :=
        (Try.sort_Strings g 0 cap ss wr hH hgl (by omega)).mono (by rintro e w5 ⟨rfl, nn, os, rfl⟩; exact ⟨rfl, ownsRow_sorted (by simp) hbase hb h1 h2 h3, grownBy_sorted _⟩)
      have HCall := Lib.hid hc
      have HG := Lib.hid hbase
      have HLe := Lib.hid hle
      have HKs := Lib.hid (show ss.Nodup ∧ ∀ x, x ∈ ss ↔ Maps.has D (.string x) = true from ⟨HC.out.1, fun x => by rw [HC.out.2 x, hl0]; simp⟩)
      have HOr := Lib.hid (World.ranges.owns HRg.out)
      clear hc0 hl0 hb h1 h2 h3 h4 hH hgl hle hc hbase hnn HC HRow HRg HCs
      go_upto_region 9 with (first
        | (go_at_call 9; (with_reducible refine HCall.out.mono ?_); rintro e w5 ⟨rfl, hr5, hg5⟩; have HRow5 := Lib.hid hr5; have HG5 := Lib.hid hg5; clear hr5 hg5))
      have hnx5 : Below W1.heap.size W1 w5 := HNx.out.grown HG5.out HNx.out.size (fun j hj => by cases hj; exact HG.out)
      have HNx5 := Lib.hid hnx5
      have HO5 := Lib.hid (HOr.out.kept HG5.out (by have := HR.out.2; have := HG.out; simp; omega))
      have HLo := Lib.hid (show W1.heap.size ≤ w5.heap.size from hnx5.size)
      clear hnx5 HG5 HOr HNx HCall
      rcases HRow5.out.2 with ⟨hnil, _⟩ | ⟨g', cap', cur5, hv5, hbase5, hb5, h51, h52, h53, h54⟩
      · cases hnil
      obtain ⟨rfl, rfl⟩ : g = g' ∧ cap = cap' := by cases hv5; exact ⟨rfl, rfl⟩
      have HTs := Lib.hid (show (ss.mergeSort leB).length = ss.length by simp)
      have HKt := Lib.hid (show ∀ x, x ∈ ss.mergeSort leB ↔ Maps.has D (.string x) = true from fun x => by rw [List.mem_mergeSort]; exact HKs.out.2 x)
      generalize hts : ss.mergeSort leB = ts at *
      have HTd := Lib.hid hts
      have HCell := Lib.hid (show ∀ (k : Nat) (x : Bs), ts[k]? = some x → w5.cell? ⟨g, k, none⟩ = some (encStr x) from fun k x hx => by
        have hk : k < ss.length := by rw [← HTs.out]; exact (List.getElem?_eq_some_iff.1 hx).1
        rw [blk_cell hb5, ← Array.getElem?_toList]
        have := congrArg (fun l : List Value => l[k]?) h54
        simp only [Nat.mul_one] at this
        rw [List.getElem?_take_of_lt hk, List.getElem?_map, hx] at this
        exact this)
      have HGl := Lib.hid (show g < w5.heap.size from blk_lt hb5)
      clear hv5 hbase5 hb5 h51 h52 h53 h54 HRow5 hts
      go_upto_region 11 with (fail)
      have hES : ES w5 w5.heap.size [] ((w5.alloc (.cells #[.pointer none, .slice none 0 0] 40)).alloc (.cells #[.int .u8 0, .int .u8 0, .int .u8 0, .int .u8 0] 41)) := by
        have hx1 := heap_alloc_new w5 (.cells #[.pointer none, .slice none 0 0] 40)
        have hsz : (w5.alloc (.cells #[.pointer none, .slice none 0 0] 40)).heap.size = w5.heap.size + 1 := by simp
        have hx2 := heap_alloc_new (w5.alloc (.cells #[.pointer none, .slice none 0 0] 40)) (.cells #[.int .u8 0, .int .u8 0, .int .u8 0, .int .u8 0] 41)
        rw [hsz] at hx2
        refine ⟨Or.inl ⟨Nat.le_refl _, .slice none 0 0, blk_alloc hx1 _, World.ownsRowF_nil _ _ _ _, by simp [Value.ownBlock]⟩, ⟨_, _, _, _, hx2⟩, ((Below.refl _ _).alloc (Nat.le_refl _) _).alloc (by rw [hsz]; omega) _⟩
      have hsz5 : (w5.alloc (.cells #[.pointer none, .slice none 0 0] 40)).heap.size = w5.heap.size + 1 := by simp
      clear hsz5
      generalize World.alloc (World.alloc w5 _) _ = w6 at *
      have HES := Lib.hid hES
      clear hES
      generalize hbb : w5.heap.size = bb at *
      clear hbb
      go_wp2
      go_loopw [31, 8, 9] (fun v31 v8 v9 wr => ∃ k : Nat, v31 = .int .i64 (k : Int) ∧ k ≤ ss.length ∧ Hid (ES w5 bb (Lib.byteCells (pack (pairsOf D (ts.take k)))) wr)) (fun v31 _ _ _ => ss.length - (intOf v31).toNat)
      case atStart => exact ⟨0, rfl, Nat.zero_le _, HES⟩
      clear HES
      obtain ⟨k, rfl, hk, HES⟩ := hrel
      have hw : wrap64 ((k : Int) + 1) = ((k + 1 : Nat) : Int) := by have := HLe.out; unfold wrap64; omega
      by_cases hlt : k < ss.length
      · have p1 : (0 : Int) ≤ (k : Int) := by omega
        have q1 : (k : Int) < (ss.length : Int) := by omega
        have d2 : decide ((k : Int) < (ss.length : Int)) = true := decide_eq_true q1
        have d3 : decide (k < ss.length) = true := decide_eq_true hlt
        have hkt : k < ts.length := by rw [HTs.out]; exact hlt
        have hx0 : ts[k]? = some ts[k] := List.getElem?_eq_getElem hkt
        have HTk := Lib.hid (show ts.take (k + 1) = ts.take k ++ [ts[k]] from List.take_succ_eq_append_getElem hkt)
        have hmem : Maps.has D (.string ts[k]) = true := (HKt.out _).1 (List.getElem_mem hkt)
        have HXl := Lib.hid (HK.out _ hmem)
        generalize ts[k] = x at hx0 HTk HXl hmem
        obtain ⟨sx, hsx⟩ : ∃ sx : ByteArray, sx = ⟨x.toArray⟩ := ⟨_, rfl⟩
        have hsd : sx.data.toList = x := by rw [hsx]
        have hsz : sx.size = x.length := by rw [hsx]; show x.toArray.size = _; simp
        have y0 : wr.cell? ⟨g, k, none⟩ = some (.string sx) := by rw [hsx]; exact (HES.out.2.2.cell (p := ⟨g, k, none⟩) HGl.out).trans (HCell.out k x hx0)
        have HOw := Lib.hid (ownsMap_below HO5.out HES.out.2.2 (Nat.lt_of_lt_of_le HR.out.2 HLo.out))
        have hkey : keyOf Try.prog 9 (.string sx) = some (.string x) := by
          rw [← hsd]
          exact Go.WideMaps.keyOf_string_mk Try.underlying9 (by have := HXl.out.1; unfold maxLen; omega)
        have HKey := Lib.hid hkey
        have HXs := Lib.hid (show sx.size ≤ 2147483647 by have := HXl.out.1; omega)
        have HXd := Lib.hid hsd
        have wx : IntKind.u32.wrap (sx.size : Int) = (sx.size : Int) := by rw [IntKind.wrap_u32]; have := HXs.out; omega
        have HLk := Lib.hid hlt
        have hpk : (pack (pairsOf D (ts.take k))).length ≤ 20 * 4294967310 := pack_le (fun y hy => HK.out y ((HKt.out y).1 (List.mem_of_mem_take hy))) (by rw [List.length_take]; have := HTs.out; have := HLe.out; omega)
        have HPk := Lib.hid hpk
        clear hkt hx0 hmem hkey hk hlt hsx hsd hsz hpk
        replace p1 := eq_true p1
        replace q1 := eq_true q1
        go_upto_region 15 with (first | (at_lookup; refine wpList_lookup_own_str _ rfl _ _ 27 rfl 9 9 law9 Try.underlying27 Try.underlying9 (zero9 _) b n D rfl HOw.out _ (.string x) rfl HKey.out ?_; intro s hat hs; have HV := Lib.hid (valOf_eq hat); clear hat hs))
        have HVs := Lib.hid (show s.size ≤ 2147483647 from by have h1 := HXl.out.2; rw [HV.out, Array.length_toList] at h1; exact h1)
        have ws : IntKind.u32.wrap (s.size : Int) = (s.size : Int) := by rw [IntKind.wrap_u32]; have := HVs.out; omega
        refine start_ (n := 6) (S := fun w' => True) (ds := []) #[false, false, false, false, false, false] (by kernel_rfl) rfl rfl trivial (fun hHeld => ?_)
        refine pure_ (i := 1) (N := some 39) (v := ?_) (a' := ?_) #[false, true, false, false, false, false] rfl rfl (by kernel_rfl) (fun _ _ _ h => h) (Or.inl ⟨by rfl, ?_⟩) ?_ ?_
        rotate_left
        · intro w'
          go_simp
          with_reducible rfl
        rotate_left
        · simp only [Act.put, List.setIfInBounds_toArray, List.set_cons_zero, List.set_cons_succ, i64_w, i32_w]
          rfl
        refine pure_ (i := 2) (N := some 40) (v := ?_) (a' := ?_) #[false, true, true, false, false, false] rfl rfl (by kernel_rfl) (fun _ _ _ h => h) (Or.inl ⟨by rfl, ?_⟩) ?_ ?_
        rotate_left
        · intro w'
          go_simp
          with_reducible rfl
        rotate_left
        · simp only [Act.put, List.setIfInBounds_toArray, List.set_cons_zero, List.set_cons_succ, i64_w, i32_w]
          rfl
        refine pure_ (i := 3) (N := some 41) (v := ?_) (a' := ?_) #[false, true, true, true, false, false] rfl rfl (by kernel_rfl) (fun _ _ _ h => h) (Or.inl ⟨by rfl, ?_⟩) ?_ ?_
        rotate_left
        · intro w'
          go_simp
          with_reducible rfl
        rotate_left
        · simp only [Act.put, List.setIfInBounds_toArray, List.set_cons_zero, List.set_cons_succ, i64_w, i32_w]
          rfl
        refine pure_ (i := 4) (N := some 42) (v := ?_) (a' := ?_) #[false, true, true, true, true, false] rfl rfl (by kernel_rfl) (fun _ _ _ h => h) (Or.inl ⟨by rfl, ?_⟩) ?_ ?_
        rotate_left
        · intro w'
          go_simp
          with_reducible rfl
        rotate_left
        · simp only [Act.put, List.setIfInBounds_toArray, List.set_cons_zero, List.set_cons_succ, i64_w, i32_w]
          rfl
        refine take_ (i := 0) (N := some 38) (v := ?_) (a' := ?_) #[true, true, true, true, true, false] rfl rfl (by kernel_rfl) (fun _ _ _ h => h) (Or.inl ⟨by rfl, ?_⟩) hHeld ?_ ?_
        rotate_left
        · intro w' _
          go_simp
          with_reducible rfl
        rotate_left
        · simp only [Act.put, List.setIfInBounds_toArray, List.set_cons_zero, List.set_cons_succ, i64_w, i32_w]
          rfl
        refine one_ (i := 5) (N := some 43) #[true, true, true, true, true, true] rfl rfl (by kernel_rfl) (by decide) (fun K hK => ?_)
        refine goes_ Try.func10 (by kernel_rfl) rfl #[.agg #[], .slice (some ⟨bb + 1, 0, none⟩) 4 4, .int .u32 (sx.size : Int)] (by rfl) rfl rfl (by simp only [List.map_toArray, List.map_cons, List.map_nil]; rfl) ?_
        with_reducible refine (Put.calls HES.out.drew sx.size (by have := HXs.out; omega)).mono ?_
        rintro e w7 ⟨rfl, hes7, hn7⟩
        refine ⟨_, rfl, ?_⟩
        have HES7 := Lib.hid hes7
        have HN7 := Lib.hid hn7
        clear hes7 hn7
        refine hK.out _ _ trivial (fun hHeld => ?_)
        clear hK K
        refine norm_ (a' := ?_) ?_ ?_
        rotate_left
        · show Act.put _ (some 43) _ = _
          simp only [Act.put, List.setIfInBounds_toArray, List.set_cons_zero, List.set_cons_succ, i64_w, i32_w]
          rfl
        refine done_ (by kernel_rfl) ?_
        go_upto_region 18 with (first
          | (go_at_call 11; (with_reducible refine (Wrote.calls HES7.out HN7.out (by rw [Lib.byteCells_length]; have := HPk.out; omega)).mono ?_); rintro e w8 ⟨rfl, hes8⟩; have HES8 := Lib.hid hes8; clear hes8)
          | (go_at_call 12; (with_reducible refine (WroteS.calls HES8.out sx (by rw [List.length_append, Lib.byteCells_length, Lib.byteCells_length, leBytes_length]; have := HPk.out; have := HXs.out; omega)).mono ?_); rintro e w9 ⟨rfl, hes9⟩; have HES9 := Lib.hid hes9; clear hes9))
        refine start_ (n := 6) (S := fun w' => True) (ds := []) #[false, false, false, false, false, false] (by kernel_rfl) rfl rfl trivial (fun hHeld => ?_)
        refine pure_ (i := 1) (N := some 49) (v := ?_) (a' := ?_) #[false, true, false, false, false, false] rfl rfl (by kernel_rfl) (fun _ _ _ h => h) (Or.inl ⟨by rfl, ?_⟩) ?_ ?_
        rotate_left
        · intro w'
          go_simp
          with_reducible rfl
        rotate_left
        · simp only [Act.put, List.setIfInBounds_toArray, List.set_cons_zero, List.set_cons_succ, i64_w, i32_w]
          rfl
        refine pure_ (i := 2) (N := some 50) (v := ?_) (a' := ?_) #[false, true, true, false, false, false] rfl rfl (by kernel_rfl) (fun _ _ _ h => h) (Or.inl ⟨by rfl, ?_⟩) ?_ ?_
        rotate_left
        · intro w'
          go_simp
          with_reducible rfl
        rotate_left
        · simp only [Act.put, List.setIfInBounds_toArray, List.set_cons_zero, List.set_cons_succ, i64_w, i32_w]
          rfl
        refine pure_ (i := 3) (N := some 51) (v := ?_) (a' := ?_) #[false, true, true, true, false, false] rfl rfl (by kernel_rfl) (fun _ _ _ h => h) (Or.inl ⟨by rfl, ?_⟩) ?_ ?_
        rotate_left
        · intro w'
          go_simp
          with_reducible rfl
        rotate_left
        · simp only [Act.put, List.setIfInBounds_toArray, List.set_cons_zero, List.set_cons_succ, i64_w, i32_w]
          rfl
        refine pure_ (i := 4) (N := some 52) (v := ?_) (a' := ?_) #[false, true, true, true, true, false] rfl rfl (by kernel_rfl) (fun _ _ _ h => h) (Or.inl ⟨by rfl, ?_⟩) ?_ ?_
        rotate_left
        · intro w'
          go_simp
          with_reducible rfl
        rotate_left
        · simp only [Act.put, List.setIfInBounds_toArray, List.set_cons_zero, List.set_cons_succ, i64_w, i32_w]
          rfl
        refine take_ (i := 0) (N := some 48) (v := ?_) (a' := ?_) #[true, true, true, true, true, false] rfl rfl (by kernel_rfl) (fun _ _ _ h => h) (Or.inl ⟨by rfl, ?_⟩) hHeld ?_ ?_
        rotate_left
        · intro w' _
          go_simp
          with_reducible rfl
        rotate_left
        · simp only [Act.put, List.setIfInBounds_toArray, List.set_cons_zero, List.set_cons_succ, i64_w, i32_w]
          rfl
        refine one_ (i := 5) (N := some 53) #[true, true, true, true, true, true] rfl rfl (by kernel_rfl) (by decide) (fun K hK => ?_)
        refine goes_ Try.func10 (by kernel_rfl) rfl #[.agg #[], .slice (some ⟨bb + 1, 0, none⟩) 4 4, .int .u32 (s.size : Int)] (by rfl) rfl rfl (by simp only [List.map_toArray, List.map_cons, List.map_nil]; rfl) ?_
        with_reducible refine (Put.calls HES9.out.drew s.size (by have := HVs.out; omega)).mono ?_
        rintro e w10 ⟨rfl, hes10, hn10⟩
        refine ⟨_, rfl, ?_⟩
        have HES10 := Lib.hid hes10
        have HN10 := Lib.hid hn10
        clear hes10 hn10
        refine hK.out _ _ trivial (fun hHeld => ?_)
        clear hK K
        refine norm_ (a' := ?_) ?_ ?_
        rotate_left
        · show Act.put _ (some 53) _ = _
          simp only [Act.put, List.setIfInBounds_toArray, List.set_cons_zero, List.set_cons_succ, i64_w, i32_w]
          rfl
        refine done_ (by kernel_rfl) ?_
        have hszx : sx.data.toList.length = sx.size := by rw [Array.length_toList]; rfl
        have hszs : s.data.toList.length = s.size := by rw [Array.length_toList]; rfl
        have H9 := Lib.hid (show (Lib.byteCells (pack (pairsOf D (ts.take k))) ++ Lib.byteCells (Lib.leBytes 4 sx.size) ++ Lib.byteCells sx.data.toList).length + 4 ≤ 140737488355328 from by
          rw [List.length_append, List.length_append, Lib.byteCells_length, Lib.byteCells_length, Lib.byteCells_length, leBytes_length, hszx]; have := HPk.out; have := HXs.out; omega)
        have H11 := Lib.hid (show (Lib.byteCells (pack (pairsOf D (ts.take k))) ++ Lib.byteCells (Lib.leBytes 4 sx.size) ++ Lib.byteCells sx.data.toList ++ Lib.byteCells (Lib.leBytes 4 s.size)).length + s.size ≤ 140737488355328 from by
          rw [List.length_append, List.length_append, List.length_append, Lib.byteCells_length, Lib.byteCells_length, Lib.byteCells_length, Lib.byteCells_length, leBytes_length, leBytes_length, hszx]; have := HPk.out; have := HXs.out; have := HVs.out; omega)
        clear hszx hszs
        go_wp2_with (first
          | (go_at_call 11; (with_reducible refine (Wrote.calls HES10.out HN10.out H9.out).mono ?_); rintro e w11 ⟨rfl, hes11⟩; have HES11 := Lib.hid hes11; clear hes11)
          | (go_at_call 12; (with_reducible refine (WroteS.calls HES11.out s H11.out).mono ?_); rintro e w12 ⟨rfl, hes12⟩; have HES12 := Lib.hid hes12; clear hes12))
        go_roundw
        case rel =>
          refine ⟨k + 1, by rw [hw], HLk.out, Lib.hid ?_⟩
          have e1 : pack (pairsOf D (ts.take (k + 1))) = pack (pairsOf D (ts.take k)) ++ packOne (x, valOf D x) := by
            rw [HTk.out]
            have e : pairsOf D (ts.take k ++ [x]) = pairsOf D (ts.take k) ++ [(x, valOf D x)] := by simp [pairsOf]
            rw [e, pack_snoc]
          have hsx : sx.size = x.length := by rw [← HXd.out, Array.length_toList]; rfl
          have hss : s.size = (valOf D x).length := by rw [HV.out, Array.length_toList]; rfl
          rw [e1]
          have h := HES12.out
          rw [HXd.out, hsx, hss, ← HV.out] at h
          have e2 : Lib.byteCells (pack (pairsOf D (ts.take k)) ++ packOne (x, valOf D x)) = Lib.byteCells (pack (pairsOf D (ts.take k))) ++ Lib.byteCells (Lib.leBytes 4 x.length) ++ Lib.byteCells x ++ Lib.byteCells (Lib.leBytes 4 (valOf D x).length) ++ Lib.byteCells (valOf D x) := by
            simp [Lib.byteCells, packOne, List.map_append, List.append_assoc]
          rw [e2]
          exact h
        case measure =>
          rw [hw]
          have hm := HLk.out
          show ss.length - ((k + 1 : Nat) : Int).toNat < ss.length - ((k : Int)).toNat
          rw [Int.toNat_natCast, Int.toNat_natCast]
          omega
      · have d2 : decide ((k : Int) < (ss.length : Int)) = false := decide_eq_false (by omega)
        have d3 : decide (k < ss.length) = false := decide_eq_false hlt
        have htk : ts.take k = ts := List.take_of_length_le (by have := HTs.out; omega)
        have hes := HES.out
        rw [htk] at hes
        have HEs := Lib.hid hes
        clear hk hlt htk hes HES
        have r0 : wr.cell? ⟨w.heap.size, 0, none⟩ = some (.string ⟨#[]⟩) := by
          have hlt1 : w.heap.size < W1.heap.size := by have := HS1.out; omega
          exact (HEs.out.2.2.cell (p := ⟨w.heap.size, 0, none⟩) (Nat.lt_of_lt_of_le hlt1 HLo.out)).trans ((HNx5.out.cell (p := ⟨w.heap.size, 0, none⟩) hlt1).trans z1)
        have HRb := Lib.hid (show wr.heap[w.heap.size]? = some (.cells #[.string ⟨#[]⟩] 30 (0, 0)) from by
          have hlt1 : w.heap.size < W1.heap.size := by have := HS1.out; omega
          exact (HEs.out.2.2.block w.heap.size (Nat.lt_of_lt_of_le hlt1 HLo.out)).trans ((HNx5.out.block w.heap.size hlt1).trans HX1.out))
        have HBw := Lib.hid (show Below w.heap.size w wr from HB1.out.trans ((HNx5.out.mono HB1.out.size).trans (HEs.out.2.2.mono (Nat.le_trans HB1.out.size HLo.out))))
        have hlb : bb < wr.heap.size := by
          rcases HEs.out.1 with h | h
          · exact h.lt
          · exact h.lt
        have HLb := Lib.hid hlb
        clear r0 hlb
        have HStr := Lib.hid (show Calls Try.prog 13 #[.pointer (some ⟨bb, 0, none⟩)] wr fun e w7 => e = .returned (.string ⟨(pack (pairsOf D ts)).toArray⟩) ∧ (Below w.heap.size w w7 ∧ w7.heap[w.heap.size]? = some (.cells #[.string ⟨#[]⟩] 30 (0, 0))) from
          (Try.Builder_String_any_f bb bb (pack (pairsOf D ts)) wr HEs.out.1 (Nat.le_of_lt HLb.out)).mono (by
            rintro e w7 ⟨rfl, _, hb7⟩
            have hlt1 : w.heap.size < bb := by have := HS1.out; have := HLo.out; omega
            exact ⟨rfl, HBw.out.trans (hb7.mono (Nat.le_of_lt hlt1)), (hb7.block w.heap.size hlt1).trans HRb.out⟩))
        clear HBw HRb HLb HNx5 HX1 HB1 HS1
        go_wp2_with (first
          | (go_at_call 13; (with_reducible refine HStr.out.mono ?_); rintro e w7 ⟨rfl, hb7, q0⟩; have HB7 := Lib.hid hb7; have HQ0 := Lib.hid q0; have c0 : w7.cell? ⟨w.heap.size, 0, none⟩ = some (.string ⟨#[]⟩) := (blk_cell q0 0).trans rfl; have f0 := blk_frozen q0 0; clear hb7 q0))
        have hx3 := blk_put HQ0.out 0 (.string ⟨(pack (pairsOf D ts)).toArray⟩) rfl
        have hb3 : Below w.heap.size w (w7.setCell ⟨w.heap.size, 0, none⟩ (.string ⟨(pack (pairsOf D ts)).toArray⟩)) := HB7.out.setCell (p := ⟨w.heap.size, 0, none⟩) (Nat.le_refl _) _
        exact bodyPost_ret (results_cell_row rfl _ _ w.heap.size 30 #[.string ⟨(pack (pairsOf D ts)).toArray⟩] (0, 0) _ rfl hx3 Try.underlying30 rfl (by rw [info30]; rfl)) rfl ⟨ss, ⟨HKs.out.1, HKs.out.2, hb3⟩, by rw [HTd.out]⟩
    · intro x c kl yd yp w4 cnt2 hkey hlk hv hat hrg2 hlt hg2 hs2 hen
      obtain ⟨x', ex, rfl, _⟩ := Maps.keyOf_str Try.underlying9 hkey
      obtain rfl : x = x' := encStr_inj ex
      have hrow2 := HRow.out.kept hg2 (Or.inr (row_ne_iter HRow.out HRg.out).symm)
      have hle : ss.length ≤ 20 := by have := HCs.out; have := HN.out; omega
      have hbs : W1.heap.size ≤ w4.heap.size + 1 := by have := HNx.out.size; have := hg2.size; omega
      have HLe := Lib.hid (show ss.length ≤ 20 from hle)
      have HLt := Lib.hid hlt
      have HRg2 := Lib.hid hrg2
      have HG2 := Lib.hid hg2
      have HRow2 := Lib.hid hrow2
      have HC2 := Lib.hid (HC.out.step hlk hat)
      have HBs := Lib.hid hbs
      clear hs2 hlt hrg2 hg2 hrow2 hle hkey hlk hv hat ex hbs
      go_wp2_with (first
        | (at_builtin; refine wpList_append_own _ rfl _ _ 35 rfl W1.heap.size 9 i0 (.string ⟨#[]⟩) 1 16 Try.underlying35 hi hz0 hz1 hz2 rfl (by decide) _ _ _ rfl (HRow2.out.alloc _) ⟨w4.heap.size, 0, none⟩ 1 1 [encStr x] rfl rfl (cell_one_new _ _ _) (by simp [Value.oneCell', encStr]) (by have := HLe.out; unfold maxLen; omega) (by have := HLe.out; omega) (by have := HBs.out; simp; omega) ?_; intro v' w5 hown' hg3 hnil3; have HOwn5 := Lib.hid hown'; have HG3 := Lib.hid hg3; have HNil := Lib.hid hnil3; clear hown' hg3 hnil3; go_frame)
        | go_in)
      have hrg3 := (HRg2.out.alloc _).kept HG3.out (row_ne_low HRow2.out HR.out.2) (row_ne_iter HRow2.out HRg2.out)
      go_roundw
      case rel =>
        refine ⟨_, cnt2, ss ++ [x], Lib.hid hrg3, Lib.hid (by have := HCs.out; have := HLt.out; simp; omega), Lib.hid (by simpa using HOwn5.out), fun hv' => by have := (HNil.out.1 hv').2; omega, HC2, Lib.hid ?_⟩
        exact ((HNx.out.grown HG2.out HNx.out.size (fun j hj => by cases hj; exact HR.out.1)).alloc (by have := HNx.out.size; have := HG2.out.size; omega) _).grown HG3.out (by have := HNx.out.size; have := HG2.out.size; simp; omega) (fun j hj => (HRow2.out.lt j hj).1)
      case measure => rw [hrg3.left_eq, HRg.out.left_eq]; exact HLt.out
end Go.Proofs.Ythepcahgipglcaa
