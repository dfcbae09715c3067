/- DecodeIntoArray, walked: what was packed is unpacked. -/
import Derived.Test.YthepcahgipglcaaExtCut
set_option linter.unusedVariables false
set_option linter.unusedSimpArgs false
namespace Go.Proofs.Ythepcahgipglcaa
open Go.RowKit Go.Maps Go.Sort Go.Proofs.YthepcahgipglcaaW.PrintWords Go.Proofs.YthepcahgipglcaaW.PrintLast
def slLen : Value → Nat
  | .slice _ n _ => n
  | _ => 0
/-- The pairs as texts. -/
def asS (p : Bs × Bs) : SP := (⟨p.1.toArray⟩, ⟨p.2.toArray⟩)
theorem pack_nil_iff (kv : List (Bs × Bs)) (h : pack kv = []) : kv = [] := by
  cases kv with
  | nil => rfl
  | cons p l =>
    have := congrArg List.length h
    rw [pack_cons, List.length_append, packOne_length] at this
    simp at this
set_option maxHeartbeats 8000000 in
set_option maxRecDepth 100000 in
theorem Decode.calls (kv : List (Bs × Bs)) (w : World) (hn : kv.length ≤ 20) (hk : ∀ p ∈ kv, p.1.length ≤ 2147483647 ∧ p.2.length ≤ 2147483647) (hp : (pack kv).length ≤ 100000000000) :
    Calls Try.prog 8 #[.agg #[.string ⟨(pack kv).toArray⟩]] w fun e w' => ∃ (A : Option Addr) (c : Nat), (Kd.C kP w' A kv.length (kv.map asS) ∧ kv.length ≤ c ∧ Below w.heap.size w w') ∧ e = .returned (.slice A kv.length c) := by
  have HN := Lib.hid hn
  have HK := Lib.hid hk
  have HP := Lib.hid hp
  clear hn hk hp
  obtain ⟨s, hs⟩ : ∃ s : ByteArray, s = ⟨(pack kv).toArray⟩ := ⟨_, rfl⟩
  rw [← hs]
  have HS := Lib.hid hs
  have HSz := Lib.hid (show s.size = (pack kv).length by rw [hs]; show (pack kv).toArray.size = _; simp)
  clear hs
  go_enter Try.func8, Try.ntmps8
  go_upto_region 1 with (fail)
  have hb := below_alloc (Below.refl w.heap.size w) (.cells #[.string s] 30 (0, 0))
  have hx := heap_alloc_new w (.cells #[.string s] 30 (0, 0))
  generalize World.alloc w _ = W1 at *
  have HB1 := Lib.hid hb
  have z1 : W1.cell? ⟨w.heap.size, 0, none⟩ = some (.string s) := (blk_cell hx 0).trans rfl
  clear hb hx
  have hemp : s.toList.isEmpty = (pack kv).isEmpty := by rw [ByteArray.toList_eq, HS.out]
  by_cases h0 : pack kv = []
  · have d1 : s.toList.isEmpty = true := by rw [hemp, h0]; rfl
    have HKv := Lib.hid (show kv = [] from pack_nil_iff kv h0)
    clear h0 hemp
    go_wp2
    go_ret
    rw [HKv.out]
    exact ⟨none, 0, ⟨Kd.C_nil _ _, Nat.le_refl _, HB1.out⟩, rfl⟩
  · have d1 : s.toList.isEmpty = false := by
      rw [hemp]
      cases hh : pack kv with
      | nil => exact absurd hh h0
      | cons a l => rfl
    clear h0 hemp
    have kb := fun W => print_bytes (P := Try.prog) 9 38 5 Try.underlying9 Try.underlying38 Try.underlying5 s W
    go_wp2
    have hB3 : Below w.heap.size w (Lib.bytesWorld W1 5 s) := bytes_below HB1.out HB1.out.size 5 s
    have hgc : s.size ≤ grownCap W1 s.size 0 5 := grownCap_ge _ _ _ _
    have hByt : Byt (Lib.bytesWorld W1 5 s) W1.heap.size (some ⟨W1.heap.size, 0, none⟩) (grownCap W1 s.size 0 5) (pack kv) := by
      have hr := bytes_reads W1 5 s (by have := HSz.out; have := HP.out; omega)
      have e : bytesOf s = toI (pack kv) := by unfold bytesOf toI; rw [HS.out]
      rw [e, HSz.out] at hr
      refine ⟨?_, by rw [← HSz.out]; exact hgc, fun ad he => by cases he; rfl⟩
      rw [toI_length]
      exact Kd.C_of_reads (d := (0 : Int)) (h1 := fun _ => rfl) hr
    have hsl : Value.slice (some ⟨W1.heap.size, 0, none⟩) s.size (grownCap W1 s.size 0 5) = .slice (some ⟨W1.heap.size, 0, none⟩) (pack kv).length (grownCap W1 s.size 0 5) := by rw [HSz.out]
    have HByt := Lib.hid hByt
    have HB3 := Lib.hid hB3
    rw [hsl]
    generalize grownCap W1 s.size 0 5 = c0 at *
    have HNb := Lib.hid (show W1.heap.size < (Lib.bytesWorld W1 5 s).heap.size by rw [Lib.bytesWorld_size]; omega)
    have HNw := Lib.hid (show w.heap.size ≤ W1.heap.size from HB1.out.size)
    generalize hA0 : some (⟨W1.heap.size, 0, none⟩ : Addr) = A0 at *
    generalize hW3 : Lib.bytesWorld W1 5 s = W3 at *
    generalize hnb : W1.heap.size = nb at *
    clear hnb
    clear hsl hByt hB3 hgc kb z1 hA0 hW3 d1
    go_loopw [3, 2] (fun v3 v2 wr => ∃ (k : Nat) (A : Option Addr) (c : Nat), v3 = .slice A (pack (kv.drop k)).length c ∧ k ≤ kv.length ∧ Hid (Byt wr nb A c (pack (kv.drop k)) ∧ nb < wr.heap.size) ∧ Hid (kP.R 34 wr w.heap.size (fun q => q ≠ nb) v2 ((kv.take k).map asS)) ∧ Hid (Below w.heap.size w wr)) (fun v3 _ _ => slLen v3)
    case atStart => exact ⟨0, A0, c0, rfl, Nat.zero_le _, Lib.hid ⟨HByt.out, HNb.out⟩, Lib.hid (Kd.R_nil _ _ _ _ _), HB3⟩
    clear HByt HB3 HNb
    obtain ⟨k, A, c, rfl, hk, HBn, HO, HBw⟩ := hrel
    have HB := Lib.hid HBn.out.1
    have HNb := Lib.hid HBn.out.2
    clear HBn
    by_cases hlt : k < kv.length
    · have hd : kv.drop k = kv[k] :: kv.drop (k + 1) := List.drop_eq_getElem_cons hlt
      have HTk := Lib.hid (show kv.take (k + 1) = kv.take k ++ [kv[k]] from List.take_succ_eq_append_getElem hlt)
      have hXl := HK.out _ (List.getElem_mem hlt)
      rw [hd, pack_cons] at HB ⊢
      generalize kv[k] = pr at HTk hXl HB
      obtain ⟨x, y⟩ := pr
      have HLk := Lib.hid hlt
      generalize hrest : kv.drop (k + 1) = rest at HB
      have HRest := Lib.hid hrest
      have hel : packOne (x, y) ++ pack rest = Lib.leBytes 4 x.length ++ (x ++ (Lib.leBytes 4 y.length ++ (y ++ pack rest))) := by simp [packOne, List.append_assoc]
      generalize packOne (x, y) ++ pack rest = L at HB hel
      change x.length ≤ 2147483647 ∧ y.length ≤ 2147483647 at hXl
      have HXl := Lib.hid hXl
      have HEl := Lib.hid hel
      obtain ⟨n1, hn1⟩ : ∃ n1, n1 = 4 + x.length := ⟨_, rfl⟩
      obtain ⟨n2, hn2⟩ : ∃ n2, n2 = 4 + y.length := ⟨_, rfl⟩
      have hL : L.length = n1 + (n2 + (pack rest).length) := by
        rw [hel]
        simp only [List.length_append, leBytes_length]
        omega
      obtain ⟨L2, hL2⟩ : ∃ L2, L2 = L.drop n1 := ⟨_, rfl⟩
      have hel2 : L2 = Lib.leBytes 4 y.length ++ (y ++ pack rest) := by
        rw [hL2, hel, ← List.append_assoc]
        exact List.drop_left' (by rw [List.length_append, leBytes_length, hn1])
      have HEl2 := Lib.hid hel2
      have hx3 : (L.take n1).drop 4 = x := by
        rw [hel, ← List.append_assoc, List.take_left' (by rw [List.length_append, leBytes_length, hn1])]
        exact List.drop_left' (leBytes_length 4 _)
      have hy3 : (L2.take n2).drop 4 = y := by
        rw [hel2, ← List.append_assoc, List.take_left' (by rw [List.length_append, leBytes_length, hn2])]
        exact List.drop_left' (leBytes_length 4 _)
      have hL2l : L2.length = n2 + (pack rest).length := by rw [hL2, List.length_drop, hL]; omega
      have hr3 : L2.drop n2 = pack rest := by
        rw [hel2, ← List.append_assoc]
        exact List.drop_left' (by rw [List.length_append, leBytes_length, hn2])
      obtain ⟨A2, c2, q2, s2⟩ := HB.out.mid n1 (by omega) (by omega)
      obtain ⟨A3, c3, q3, s3⟩ := HB.out.from n1 (by omega)
      rw [← hL2] at s3
      have q1 := HB.out.to4 (by omega)
      have HB3p := Lib.hid s3
      have HS2 := Lib.hid s2
      have e3 : L.length - n1 = L2.length := by rw [hL, hL2l]; omega
      rw [e3] at q3
      have wx : IntKind.u32.wrap (4 + (x.length : Int)) = (n1 : Int) := by rw [IntKind.wrap_u32]; omega
      have wy : IntKind.u32.wrap (4 + (y.length : Int)) = (n2 : Int) := by rw [IntKind.wrap_u32]; omega
      have d1 : decide (0 < (L.length : Int)) = true := decide_eq_true (by omega)
      have d2 : decide (0 < L.length) = true := decide_eq_true (by omega)
      have HLs := Lib.hid (show (pack rest).length < L.length from by omega)
      have HX3 := Lib.hid hx3
      have HY3 := Lib.hid hy3
      have HR3 := Lib.hid hr3
      have HLl := Lib.hid (show n2 ≤ L2.length ∧ 4 ≤ n2 ∧ L2.length - n2 = (pack rest).length from by omega)
      clear hel hn1 hn2 hL hL2 hel2 hx3 hy3 hL2l hr3 s2 s3 e3 hk hlt hd hrest hXl
      go_upto_region 5 with (fail)
      refine start_ (n := 6) (S := fun w' => True) (ds := []) #[false, false, false, false, false, false] (by kernel_rfl) rfl rfl trivial (fun hHeld => ?_)
      refine pure_ (i := 1) (N := some 18) (v := ?_) (a' := ?_) #[false, true, false, false, false, false] rfl rfl (by kernel_rfl) (fun _ _ _ h => h) (Or.inl ⟨by rfl, ?_⟩) ?_ ?_
      rotate_left
      · intro w'
        go_simp
        with_reducible rfl
      rotate_left
      · simp only [Act.put, List.setIfInBounds_toArray, List.set_cons_zero, List.set_cons_succ, i64_w, i32_w]
        rfl
      refine pure_ (i := 2) (N := some 19) (v := ?_) (a' := ?_) #[false, true, true, false, false, false] rfl rfl (by kernel_rfl) (fun _ _ _ h => h) (Or.inl ⟨by rfl, ?_⟩) ?_ ?_
      rotate_left
      · intro w'
        go_simp
        with_reducible rfl
      rotate_left
      · simp only [Act.put, List.setIfInBounds_toArray, List.set_cons_zero, List.set_cons_succ, i64_w, i32_w]
        rfl
      refine take_ (i := 0) (N := some 17) (v := ?_) (a' := ?_) #[true, true, true, false, false, false] rfl rfl (by kernel_rfl) (fun _ _ _ h => h) (Or.inl ⟨by rfl, ?_⟩) hHeld ?_ ?_
      rotate_left
      · intro w' _
        go_simp
        with_reducible rfl
      rotate_left
      · simp only [Act.put, List.setIfInBounds_toArray, List.set_cons_zero, List.set_cons_succ, i64_w, i32_w]
        rfl
      refine one_ (i := 3) (N := some 20) #[true, true, true, true, false, false] rfl rfl (by kernel_rfl) (by decide) (fun K hK => ?_)
      refine goes_ Try.func14 (by kernel_rfl) rfl #[.agg #[], .slice A 4 c] (by rfl) rfl rfl (by simp only [List.map_toArray, List.map_cons, List.map_nil]; rfl) ?_
      with_reducible refine (U32.calls (v := x.length) (HB.out.below (Below.refl _ _).drew) HEl.out (by have := HXl.out; omega)).mono ?_
      rintro e w4 ⟨rfl, hb4⟩
      refine ⟨_, rfl, ?_⟩
      have HB4 := Lib.hid ((Below.refl wr.heap.size wr).drew.trans hb4)
      clear hb4
      refine hK.out _ _ trivial (fun hHeld => ?_)
      clear hK K
      refine norm_ (a' := ?_) ?_ ?_
      rotate_left
      · show Act.put _ (some 20) _ = _
        simp only [Act.put, List.setIfInBounds_toArray, List.set_cons_zero, List.set_cons_succ, i64_w, i32_w]
        rfl
      refine pure_ (i := 4) (N := some 21) (v := ?_) (a' := ?_) #[true, true, true, true, true, false] rfl rfl (by kernel_rfl) (fun _ _ _ h => h) (Or.inl ⟨by rfl, ?_⟩) ?_ ?_
      rotate_left
      · intro w'
        go_simp
        with_reducible rfl
      rotate_left
      · simp only [Act.put, List.setIfInBounds_toArray, List.set_cons_zero, List.set_cons_succ, i64_w, i32_w]
        rfl
      refine pure_ (i := 5) (N := some 4) (v := ?_) (a' := ?_) #[true, true, true, true, true, true] rfl rfl (by kernel_rfl) (fun _ _ _ h => h) (Or.inl ⟨by rfl, ?_⟩) ?_ ?_
      rotate_left
      · intro w'
        go_simp
        with_reducible rfl
      rotate_left
      · simp only [Act.put, List.setIfInBounds_toArray, List.set_cons_zero, List.set_cons_succ, i64_w, i32_w]
        rfl
      refine done_ (by kernel_rfl) ?_
      obtain ⟨sx, hsx⟩ : ∃ sx : ByteArray, sx = ⟨x.toArray⟩ := ⟨_, rfl⟩
      obtain ⟨sy, hsy⟩ : ∃ sy : ByteArray, sy = ⟨y.toArray⟩ := ⟨_, rfl⟩
      have HSx := Lib.hid hsx
      have HSy := Lib.hid hsy
      have k1 := HS2.out w4 (HB.out.below HB4.out)
      rw [HX3.out, ← hsx] at k1
      have hb3 := HB3p.out w4 (HB.out.below HB4.out)
      have q4 := hb3.to4 (by have := HLl.out; omega)
      obtain ⟨A4, c4, q5, s5⟩ := hb3.mid n2 HLl.out.2.1 HLl.out.1
      obtain ⟨A5, c5, q6, s6⟩ := hb3.from n2 HLl.out.1
      rw [HY3.out, ← hsy] at s5
      rw [HR3.out] at s6
      rw [HLl.out.2.2] at q6
      have HB3 := Lib.hid hb3
      have HS5 := Lib.hid s5
      have HS6 := Lib.hid s6
      have HO4 := Lib.hid (Kd.R_below HO.out HB4.out)
      have HBw4 := Lib.hid (HBw.out.trans (HB4.out.mono HBw.out.size))
      clear hsx hsy hb3 s5 s6 hHeld HO HBw HS2
      go_upto_region 8 with (fail)
      refine start_ (n := 6) (S := fun w' => True) (ds := []) #[false, false, false, false, false, false] (by kernel_rfl) rfl rfl trivial (fun hHeld => ?_)
      refine pure_ (i := 1) (N := some 30) (v := ?_) (a' := ?_) #[false, true, false, false, false, false] rfl rfl (by kernel_rfl) (fun _ _ _ h => h) (Or.inl ⟨by rfl, ?_⟩) ?_ ?_
      rotate_left
      · intro w'
        go_simp
        with_reducible rfl
      rotate_left
      · simp only [Act.put, List.setIfInBounds_toArray, List.set_cons_zero, List.set_cons_succ, i64_w, i32_w]
        rfl
      refine pure_ (i := 2) (N := some 31) (v := ?_) (a' := ?_) #[false, true, true, false, false, false] rfl rfl (by kernel_rfl) (fun _ _ _ h => h) (Or.inl ⟨by rfl, ?_⟩) ?_ ?_
      rotate_left
      · intro w'
        go_simp
        with_reducible rfl
      rotate_left
      · simp only [Act.put, List.setIfInBounds_toArray, List.set_cons_zero, List.set_cons_succ, i64_w, i32_w]
        rfl
      refine take_ (i := 0) (N := some 29) (v := ?_) (a' := ?_) #[true, true, true, false, false, false] rfl rfl (by kernel_rfl) (fun _ _ _ h => h) (Or.inl ⟨by rfl, ?_⟩) hHeld ?_ ?_
      rotate_left
      · intro w' _
        go_simp
        with_reducible rfl
      rotate_left
      · simp only [Act.put, List.setIfInBounds_toArray, List.set_cons_zero, List.set_cons_succ, i64_w, i32_w]
        rfl
      refine one_ (i := 3) (N := some 32) #[true, true, true, true, false, false] rfl rfl (by kernel_rfl) (by decide) (fun K hK => ?_)
      refine goes_ Try.func14 (by kernel_rfl) rfl #[.agg #[], .slice A3 4 c3] (by rfl) rfl rfl (by simp only [List.map_toArray, List.map_cons, List.map_nil]; rfl) ?_
      with_reducible refine (U32.calls (v := y.length) (HB3.out.below (Below.refl _ _).drew) HEl2.out (by have := HXl.out; omega)).mono ?_
      rintro e w6 ⟨rfl, hb6⟩
      refine ⟨_, rfl, ?_⟩
      have HB6 := Lib.hid ((Below.refl w4.heap.size w4).drew.trans hb6)
      clear hb6
      refine hK.out _ _ trivial (fun hHeld => ?_)
      clear hK K
      refine norm_ (a' := ?_) ?_ ?_
      rotate_left
      · show Act.put _ (some 32) _ = _
        simp only [Act.put, List.setIfInBounds_toArray, List.set_cons_zero, List.set_cons_succ, i64_w, i32_w]
        rfl
      refine pure_ (i := 4) (N := some 33) (v := ?_) (a' := ?_) #[true, true, true, true, true, false] rfl rfl (by kernel_rfl) (fun _ _ _ h => h) (Or.inl ⟨by rfl, ?_⟩) ?_ ?_
      rotate_left
      · intro w'
        go_simp
        with_reducible rfl
      rotate_left
      · simp only [Act.put, List.setIfInBounds_toArray, List.set_cons_zero, List.set_cons_succ, i64_w, i32_w]
        rfl
      refine pure_ (i := 5) (N := some 6) (v := ?_) (a' := ?_) #[true, true, true, true, true, true] rfl rfl (by kernel_rfl) (fun _ _ _ h => h) (Or.inl ⟨by rfl, ?_⟩) ?_ ?_
      rotate_left
      · intro w'
        go_simp
        with_reducible rfl
      rotate_left
      · simp only [Act.put, List.setIfInBounds_toArray, List.set_cons_zero, List.set_cons_succ, i64_w, i32_w]
        rfl
      refine done_ (by kernel_rfl) ?_
      have k2 := HS5.out w6 (HB3.out.below HB6.out)
      have HB7 := Lib.hid (HS6.out w6 (HB3.out.below HB6.out))
      have HO6 := Lib.hid (Kd.R_below HO4.out HB6.out)
      have HBw6 := Lib.hid (HBw4.out.trans (HB6.out.mono HBw4.out.size))
      have HNb6 := Lib.hid (show nb < w6.heap.size from Nat.lt_of_lt_of_le HNb.out (Nat.le_trans HB4.out.size HB6.out.size))
      have HLen := Lib.hid (show ((kv.take k).map asS).length ≤ 20 from by rw [List.length_map, List.length_take]; have := HN.out; omega)
      clear hHeld HO4 HBw4 HS5 HS6 HB HB3p
      go_wp2_with (first | (at_builtin; refine Kd.R_append kP (w0 := w) (W := w6) w.heap.size rfl (.tmp 41) (.tmp 45) 28 34 (.agg #[.string ⟨#[]⟩, .string ⟨#[]⟩]) 32 rfl Try.underlying28 info34 rfl (by decide) (by omega) u2 ((kv.take k).map asS) (sx, sy) [.string sx, .string sy] (fun q => q ≠ nb) (fun _ => False) rfl rfl ?aP (fun _ hk => hk.elim) (fun q hq => by have := HNb6.out; omega) HO6.out HBw6.out HBw6.out.size (by have := HLen.out; omega) ?_; (case aP => exact rfl); intro v9 w9 ho hb hg hat; have HO9 := Lib.hid ho; have HB9 := Lib.hid hb; have HG9 := Lib.hid hg; have HAt := Lib.hid hat; clear ho hb hg hat))
      have hne : some nb ≠ u2.ownBlock := fun e => HO6.out.1 nb e.symm rfl
      have hB9 : Byt w9 nb A5 c5 (pack rest) := HB7.out.keep (HG9.out.block nb HNb6.out hne)
      go_roundw
      case rel =>
        refine ⟨k + 1, A5, c5, by rw [HRest.out], HLk.out, Lib.hid ⟨by rw [HRest.out]; exact hB9, Nat.lt_of_lt_of_le HNb6.out HG9.out.size⟩, Lib.hid ?_, HB9⟩
        have h := HO9.out
        rw [HTk.out, List.map_append]
        have e : [(x, y)].map asS = [(sx, sy)] := by rw [HSx.out, HSy.out]; rfl
        rw [e]
        exact h
      case measure => exact HLs.out
    · obtain rfl : k = kv.length := by omega
      have d1 : decide (0 < ((pack (kv.drop kv.length)).length : Int)) = false := by rw [List.drop_length]; rfl
      have d2 : decide (0 < (pack (kv.drop kv.length)).length) = false := by rw [List.drop_length]; rfl
      obtain ⟨Ar, cr, hv2, hlc, hC⟩ := Kd.R_reads HO.out
      have hll : ((kv.take kv.length).map asS).length = kv.length := by rw [List.take_length, List.length_map]
      rw [hll] at hv2 hlc hC
      rw [List.take_length] at hC
      subst hv2
      have HC2 := Lib.hid hC
      have HL2 := Lib.hid hlc
      clear hC hlc hk hlt HO hll
      go_wp2
      go_ret
      exact ⟨Ar, cr, ⟨HC2.out, HL2.out, HBw.out⟩, rfl⟩
end Go.Proofs.Ythepcahgipglcaa
