/- impl.Attributes, walked: pairs with unlike keys come back in the order of their keys. -/
import Derived.Test.YthepcahgipglcaaExtEnc
import Derived.Test.YthepcahgipglcaaExtPairs
set_option linter.unusedVariables false
set_option linter.unusedSimpArgs false
namespace Go.Proofs.Ythepcahgipglcaa
open Go.RowKit Go.Maps Go.Sort Go.Proofs.YthepcahgipglcaaW.PrintWords Go.Proofs.YthepcahgipglcaaW.PrintLast
theorem below_of_grown {w0 w w1 : World} {g : Nat} (hb : Below w0.heap.size w0 w) (hg : w.grownBy w1 (some g)) (h : w0.heap.size ≤ g) : Below w0.heap.size w0 w1 :=
  ⟨hg.os.trans hb.os, hg.tape.trans hb.tape, hg.output.trans hb.output, Nat.le_trans hb.size hg.size, fun k hk => (hg.block k (Nat.lt_of_lt_of_le hk hb.size) (by simp; omega)).trans (hb.block k hk)⟩
theorem size_le_of {w : World} {b n : Nat} {D : DataW Unit} (h : w.ownsMap Try.prog 9 (plainElem Try.prog 9) b n D) : Maps.size D ≤ n := by
  obtain ⟨es, clock, hb, F, hs, rfl⟩ := h
  rw [Maps.size_eq, length_sorted, List.length_map]
  simpa using hs
theorem take_rdP (ps : List SP) (k : Nat) (h : k < ps.length) : ps.take (k + 1) = ps.take k ++ [rdP ps k] := by
  have e : rdP ps k = ps[k] := by
    unfold rdP
    rw [List.getD_eq_getElem?_getD, List.getElem?_eq_getElem h]
    rfl
  rw [e]
  exact List.take_succ_eq_append_getElem h
theorem rdP_mem (ps : List SP) (k : Nat) (h : k < ps.length) : rdP ps k ∈ ps := by
  have e : rdP ps k = ps[k] := by
    unfold rdP
    rw [List.getD_eq_getElem?_getD, List.getElem?_eq_getElem h]
    rfl
  rw [e]
  exact List.getElem_mem h
theorem mapOf_snoc (ps : List SP) (p : SP) : mapOf (ps ++ [p]) = putP (mapOf ps) p := by simp [mapOf]
set_option maxHeartbeats 8000000 in
set_option maxRecDepth 100000 in
theorem Attr.calls (A0 : Option Addr) (c0 : Nat) (ps : List SP) (w : World) (hr : Kd.C kP w A0 ps.length ps) (hn : ps.length ≤ 20) (hl : ∀ p ∈ ps, p.1.size ≤ 2147483647 ∧ p.2.size ≤ 2147483647) (hd : (ps.map key).Nodup) :
    Calls Try.prog 5 #[.slice A0 ps.length c0] w fun e w' => ∃ (A : Option Addr) (c : Nat) (out : List SP), (Told ps out ∧ Kd.C kP w' A ps.length out ∧ ps.length ≤ c ∧ Below w.heap.size w w') ∧ e = .returned (.slice A ps.length c) := by
  have HR := Lib.hid hr
  have HN := Lib.hid hn
  have HL := Lib.hid hl
  have HD := Lib.hid hd
  clear hr hn hl hd
  have hmm := @run_makeMap Try.prog
  go_enter Try.func5, Try.ntmps5
  go_wp2
  have hown := World.ownsMap_made w Try.prog 9 (plainElem (H := Unit) Try.prog 9)
  have hb := below_alloc (Below.refl w.heap.size w) (.map #[] 0)
  clear hmm
  go_loopw [12] (fun v12 wr => ∃ k : Nat, v12 = .int .i64 (k : Int) ∧ k ≤ ps.length ∧ Hid (wr.ownsMap Try.prog 9 (plainElem Try.prog 9) w.heap.size k (mapOf (ps.take k))) ∧ Hid (Below w.heap.size w wr)) (fun v12 _ => ps.length - (intOf v12).toNat)
  case atStart => exact ⟨0, rfl, Nat.zero_le _, Lib.hid hown, Lib.hid hb⟩
  clear hown hb
  obtain ⟨k, rfl, hk, HO, HBw⟩ := hrel
  have hw : wrap64 ((k : Int) + 1) = ((k + 1 : Nat) : Int) := by have := HN.out; unfold wrap64; omega
  by_cases hlt : k < ps.length
  · have p1 : (0 : Int) ≤ (k : Int) := by omega
    have q1 : (k : Int) < (ps.length : Int) := by omega
    have d1 : decide ((k : Int) < (ps.length : Int)) = true := decide_eq_true q1
    have d2 : decide (k < ps.length) = true := decide_eq_true hlt
    obtain ⟨ad, e1, x0, x1⟩ := at_P HR.out k hlt
    cases e1
    replace x0 := (HBw.out.cell (World.block_lt_of_cell? w _ x0)).trans x0
    replace x1 := (HBw.out.cell (World.block_lt_of_cell? w _ x1)).trans x1
    have HTk := Lib.hid (take_rdP ps k hlt)
    have HXl := Lib.hid (HL.out _ (rdP_mem ps k hlt))
    generalize rdP ps k = pr at x0 x1 HTk HXl
    obtain ⟨s1, s2⟩ := pr
    change wr.cell? (ad.add (k * 2)) = some (.string s1) at x0
    change wr.cell? _ = some (.string s2) at x1
    have HLk := Lib.hid hlt
    clear hk hlt
    replace p1 := eq_true p1
    replace q1 := eq_true q1
    go_upto_region 5 with (first | ((with_reducible refine gate_dst (N := 5) rfl ?_); refine box_event ?hg (N := 5) ?hd (cs := #[.string ⟨#[]⟩, .string ⟨#[]⟩]) (t := 24) ?hr ?_; (case hd => rfl); (case hg => rfl); (case hr => first | (go_simp; done) | (go_simp; rfl)); intro gb hg w7 hbox hb; have HG := Lib.hid hg; have HY := Lib.hid hb; have HX7 := Lib.hid hbox; clear hg hbox hb; have z0 := (blk_cell HX7.out 0).trans rfl; have z1 := (blk_cell HX7.out 1).trans rfl; have fz0 := blk_frozen HX7.out 0; have fz1 := blk_frozen HX7.out 1))
    have hb8 := (HY.out.setCell (p := ⟨gb, 0, none⟩) (Nat.le_of_eq HG.out.symm) (.string s1)).setCell (p := ⟨gb, 1, none⟩) (Nat.le_of_eq HG.out.symm) (.string s2)
    have hx8 := blk_put (blk_put HX7.out 0 (.string s1) rfl) 1 (.string s2) rfl
    generalize World.setCell (World.setCell w7 _ _) _ _ = w8 at *
    clear x0 x1 z0 z1 fz0 fz1 HX7 HY HG
    have x0 : w8.cell? ⟨gb, 0, none⟩ = some (.string s1) := (blk_cell hx8 0).trans rfl
    have x1 : w8.cell? ⟨gb, 1, none⟩ = some (.string s2) := (blk_cell hx8 1).trans rfl
    have HO8 := Lib.hid (ownsMap_below HO.out hb8 HO.out.lt)
    have HB8 := Lib.hid (HBw.out.trans (hb8.mono HBw.out.size))
    have HK1 := Lib.hid (show keyOf Try.prog 9 (.string s1) = some (.string s1.data.toList) from Go.WideMaps.keyOf_string_mk Try.underlying9 (by have := HXl.out.1; change s1.size ≤ 2147483647 at this; unfold maxLen; omega))
    have HV1 := Lib.hid (show plainElem (H := Unit) Try.prog 9 (.string s2) = some (.lit (.string s2.data.toList), []) from plainElem_string Try.underlying9 (by have := HXl.out.2; change s2.size ≤ 2147483647 at this; unfold maxLen; omega))
    clear hx8 hb8 HO HBw
    go_wp2_with (first | (at_mapUpdate; refine wpList_mapUpdate_own _ rfl _ _ _ 27 rfl 9 9 law9 Try.underlying27 _ w.heap.size k _ rfl HO8.out (by have := HLk.out; have := HN.out; unfold maxLen; omega) _ _ _ rfl rfl HK1.out _ [] HV1.out ?_; intro w9 hown9 hg9; have HO9 := Lib.hid hown9; have HG9 := Lib.hid hg9; clear hown9 hg9))
    go_roundw
    case rel =>
      refine ⟨k + 1, by rw [hw], HLk.out, Lib.hid ?_, Lib.hid (below_of_grown HB8.out HG9.out (Nat.le_refl _))⟩
      rw [HTk.out, mapOf_snoc]
      exact HO9.out
    case measure =>
      rw [hw]
      have hm := HLk.out
      show ps.length - ((k + 1 : Nat) : Int).toNat < ps.length - ((k : Int)).toNat
      rw [Int.toNat_natCast, Int.toNat_natCast]
      omega
  · have d1 : decide ((k : Int) < (ps.length : Int)) = false := decide_eq_false (by omega)
    have d2 : decide (k < ps.length) = false := decide_eq_false hlt
    obtain rfl : k = ps.length := by omega
    rw [List.take_length] at HO
    clear hk hlt hw
    have HEnc := Lib.hid (Encode.calls w.heap.size ps.length (mapOf ps) wr HO.out (Nat.le_trans (size_le_of HO.out) HN.out) (fun x hx => by
      obtain ⟨p, hp, rfl⟩ := (has_mapOf ps x).1 hx
      rw [val_mapOf HD.out hp]
      have h := HL.out p hp
      have e1 : (key p).length = p.1.size := by unfold key; rw [Array.length_toList]; rfl
      have e2 : (val p).length = p.2.size := by unfold val; rw [Array.length_toList]; rfl
      rw [e1, e2]
      exact h))
    have HDec := Lib.hid (show ∀ (ks : List Bs) (u : World), ks.Nodup → (∀ x, x ∈ ks ↔ Maps.has (mapOf ps) (.string x) = true) → Calls Try.prog 8 #[.agg #[.string ⟨(pack (pairsOf (mapOf ps) (ks.mergeSort leB))).toArray⟩]] u fun e w' => ∃ (A : Option Addr) (c : Nat), (Kd.C kP w' A ps.length (back ps ks) ∧ ps.length ≤ c ∧ Below u.heap.size u w') ∧ e = .returned (.slice A ps.length c) from fun ks u h1 h2 => by
      have ht := back_told HD.out h1 h2
      have hlen : (pairsOf (mapOf ps) (ks.mergeSort leB)).length = ps.length := by
        have := ht.len
        unfold back at this
        rwa [List.length_map] at this
      have hkk : ∀ y ∈ ks.mergeSort leB, y.length ≤ 2147483647 ∧ (valOf (mapOf ps) y).length ≤ 2147483647 := fun y hy => by
        obtain ⟨p, hp, rfl⟩ := (has_mapOf ps y).1 ((h2 y).1 (List.mem_mergeSort.1 hy))
        rw [val_mapOf HD.out hp]
        have h := HL.out p hp
        have e1 : (key p).length = p.1.size := by unfold key; rw [Array.length_toList]; rfl
        have e2 : (val p).length = p.2.size := by unfold val; rw [Array.length_toList]; rfl
        rw [e1, e2]
        exact h
      have hpk := pack_le hkk (m := 20) (by
        have e : (pairsOf (mapOf ps) (ks.mergeSort leB)).length = (ks.mergeSort leB).length := by unfold pairsOf; rw [List.length_map]
        rw [← e, hlen]
        exact HN.out)
      have hc := Decode.calls (pairsOf (mapOf ps) (ks.mergeSort leB)) u (by rw [hlen]; exact HN.out) (fun p hp => by
        unfold pairsOf at hp
        obtain ⟨y, hy, rfl⟩ := List.mem_map.1 hp
        exact hkk y hy) (by omega)
      rw [hlen] at hc
      exact hc)
    have HT := Lib.hid (fun (ks : List Bs) (h1 : ks.Nodup) (h2 : ∀ x, x ∈ ks ↔ Maps.has (mapOf ps) (.string x) = true) => back_told HD.out h1 h2)
    go_wp2_with (first
      | (go_at_call 7; (with_reducible refine HEnc.out.mono ?_); rintro e w3 ⟨ks, ⟨h1, h2, hb3⟩, rfl⟩; have HK1 := Lib.hid h1; have HK2 := Lib.hid h2; have HB3 := Lib.hid (show Below w.heap.size w w3 from HBw.out.trans (hb3.mono HBw.out.size)); clear h1 h2 hb3)
      | (go_at_call 8; (with_reducible refine (HDec.out ks w3 HK1.out HK2.out).mono ?_); rintro e w4 ⟨A2, c2, ⟨hC, hc2, hb4⟩, rfl⟩; have HC2 := Lib.hid hC; have HTo := Lib.hid (HT.out ks HK1.out HK2.out); have HB4 := Lib.hid (show Below w.heap.size w w4 from HB3.out.trans (hb4.mono HB3.out.size)); clear hC hc2 hb4))
    generalize back ps ks = out at *
    clear HEnc HDec HT HK1 HK2 HB3 HO HBw d1 d2
    clear wr
    have HOn := Lib.hid HTo.out.len
    go_loopw [26, 6] (fun v26 v6 wr => ∃ k : Nat, v26 = .int .i64 (k : Int) ∧ k ≤ ps.length ∧ Hid (kP.R 24 wr w4.heap.size (fun _ => True) v6 (out.take k)) ∧ Hid (Below w4.heap.size w4 wr)) (fun v26 _ _ => ps.length - (intOf v26).toNat)
    case atStart => exact ⟨0, rfl, Nat.zero_le _, Lib.hid (Kd.R_nil _ _ _ _ _), Lib.hid (Below.refl _ _)⟩
    obtain ⟨k, rfl, hk, HO, HW⟩ := hrel
    have hw : wrap64 ((k : Int) + 1) = ((k + 1 : Nat) : Int) := by have := HN.out; unfold wrap64; omega
    by_cases hlt : k < ps.length
    · have p1 : (0 : Int) ≤ (k : Int) := by omega
      have q1 : (k : Int) < (ps.length : Int) := by omega
      have d1 : decide ((k : Int) < (ps.length : Int)) = true := decide_eq_true q1
      have d2 : decide (k < ps.length) = true := decide_eq_true hlt
      obtain ⟨ad, e1, x0, x1⟩ := at_P HC2.out k hlt
      cases e1
      replace x0 := (HW.out.cell (World.block_lt_of_cell? w4 _ x0)).trans x0
      replace x1 := (HW.out.cell (World.block_lt_of_cell? w4 _ x1)).trans x1
      have HTk := Lib.hid (take_rdP out k (by rw [HOn.out]; exact hlt))
      generalize rdP out k = pr at x0 x1 HTk
      obtain ⟨s1, s2⟩ := pr
      change wr.cell? (ad.add (k * 2)) = some (.string s1) at x0
      change wr.cell? _ = some (.string s2) at x1
      have HLk := Lib.hid hlt
      clear hk hlt
      replace p1 := eq_true p1
      replace q1 := eq_true q1
      go_upto_region 11 with (first | ((with_reducible refine gate_dst (N := 8) rfl ?_); refine box_event ?hg (N := 8) ?hd (cs := #[.string ⟨#[]⟩, .string ⟨#[]⟩]) (t := 34) ?hr ?_; (case hd => rfl); (case hg => rfl); (case hr => first | (go_simp; done) | (go_simp; rfl)); intro gb hg w7 hbox hb; have HG := Lib.hid hg; have HY := Lib.hid hb; have HX7 := Lib.hid hbox; clear hg hbox hb; have z0 := (blk_cell HX7.out 0).trans rfl; have z1 := (blk_cell HX7.out 1).trans rfl; have fz0 := blk_frozen HX7.out 0; have fz1 := blk_frozen HX7.out 1))
      have hb8 := (HY.out.setCell (p := ⟨gb, 0, none⟩) (Nat.le_of_eq HG.out.symm) (.string s1)).setCell (p := ⟨gb, 1, none⟩) (Nat.le_of_eq HG.out.symm) (.string s2)
      have hx8 := blk_put (blk_put HX7.out 0 (.string s1) rfl) 1 (.string s2) rfl
      generalize World.setCell (World.setCell w7 _ _) _ _ = w8 at *
      clear x0 x1 z0 z1 fz0 fz1 HX7 HY HG
      have x0 : w8.cell? ⟨gb, 0, none⟩ = some (.string s1) := (blk_cell hx8 0).trans rfl
      have x1 : w8.cell? ⟨gb, 1, none⟩ = some (.string s2) := (blk_cell hx8 1).trans rfl
      have HO8 := Lib.hid (Kd.R_below HO.out hb8)
      have HW8 := Lib.hid (HW.out.trans (hb8.mono HW.out.size))
      have HLen := Lib.hid (show (out.take k).length ≤ 20 from by rw [List.length_take]; have := HN.out; have := HLk.out; omega)
      clear hx8 hb8 HO HW
      go_wp2_with (first | (at_builtin; refine Kd.R_append kP (w0 := w4) (W := w8) w4.heap.size rfl (.tmp 30) (.tmp 36) 22 24 (.agg #[.string ⟨#[]⟩, .string ⟨#[]⟩]) 32 rfl Try.underlying22 info24 rfl (by decide) (by omega) u6 (out.take k) (s1, s2) [.string s1, .string s2] (fun _ => True) (fun _ => False) rfl rfl ?aP (fun _ hk => hk.elim) (fun _ _ => trivial) HO8.out HW8.out HW8.out.size (by have := HLen.out; omega) ?_; (case aP => exact rfl); intro v9 w9 ho hb hg hat; have HO9 := Lib.hid ho; have HB9 := Lib.hid hb; clear ho hb hg hat))
      go_roundw
      case rel => exact ⟨k + 1, by rw [hw], HLk.out, Lib.hid (by rw [HTk.out]; exact HO9.out), HB9⟩
      case measure =>
        rw [hw]
        have hm := HLk.out
        show ps.length - ((k + 1 : Nat) : Int).toNat < ps.length - ((k : Int)).toNat
        rw [Int.toNat_natCast, Int.toNat_natCast]
        omega
    · have d1 : decide ((k : Int) < (ps.length : Int)) = false := decide_eq_false (by omega)
      have d2 : decide (k < ps.length) = false := decide_eq_false hlt
      obtain rfl : k = ps.length := by omega
      obtain ⟨Ar, cr, hv2, hlc, hC⟩ := Kd.R_reads HO.out
      have htk : out.take ps.length = out := List.take_of_length_le (by rw [HOn.out]; exact Nat.le_refl _)
      rw [htk, HOn.out] at hv2 hlc hC
      subst hv2
      have HC3 := Lib.hid hC
      have HL2 := Lib.hid hlc
      clear hC hlc hk hlt HO htk
      go_wp2
      go_ret
      exact ⟨Ar, cr, out, ⟨HTo.out, HC3.out, HL2.out, HB4.out.trans (HW.out.mono HB4.out.size)⟩, rfl⟩
end Go.Proofs.Ythepcahgipglcaa
