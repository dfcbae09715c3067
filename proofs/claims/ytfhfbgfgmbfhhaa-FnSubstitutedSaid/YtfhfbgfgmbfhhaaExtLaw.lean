/- The law FnSubstituted, walked: it answers true whatever the input. -/
import Derived.Test.YtfhfbgfgmbfhhaaExtImpl
set_option linter.unusedVariables false
namespace Go.Proofs.Ytfhfbgfgmbfhhaa
open Go.RowKit Go.Proofs.YtfhfbgfgmbfhhaaW.PrintWords Go.Proofs.YtfhfbgfgmbfhhaaW.PrintMore Go.Proofs.Ytfhfbgfgmbfhhaa.PFnSubstituted
theorem fits5_total (l : List ByteArray) : ∃ k r, laws_zzFits5.f k l = some r := by
  by_cases hl : (l.length : Int) > 2147483647
  · exact ⟨0, false, by unfold laws_zzFits5.f; rw [if_pos hl]⟩
  · suffices h : ∀ (m i : Nat), l.length = i + m → ∃ r, laws_zzFits5.l0 (m + 1) l (l.length : Int) (i : Int) = some r by
      obtain ⟨r, hr⟩ := h l.length 0 (by omega)
      exact ⟨l.length + 1, r, by unfold laws_zzFits5.f; rw [if_neg hl]; exact hr⟩
    intro m
    induction m with
    | zero =>
      intro i hi
      exact ⟨true, by unfold laws_zzFits5.l0; rw [if_neg (by omega)]⟩
    | succ m ih =>
      intro i hi
      have ew : wrap64 ((i : Int) + 1) = ((i + 1 : Nat) : Int) := by unfold wrap64; omega
      obtain ⟨r, hr⟩ := ih (i + 1) (by omega)
      unfold laws_zzFits5.l0
      rw [if_pos (by omega), if_pos (by omega), if_pos (by omega), ew, hr]
      split
      · exact ⟨false, rfl⟩
      · exact ⟨r, rfl⟩
theorem fits5_calls (A0 : Option Addr) (c0 : Nat) (l0 : List ByteArray) (w : World) (hr0 : Kd.C Kd.string w A0 l0.length l0) (hc0 : l0.length ≤ c0) :
    ∃ r : Bool, Calls Try.prog 4 #[.slice A0 l0.length c0] w fun e w' => e = .returned (.bool r) ∧ Below w.heap.size w w' := by
  obtain ⟨k, r, h⟩ := fits5_total l0
  refine ⟨r, (laws_zzFits5.calls k A0 c0 l0 r w hr0 hc0 h).mono ?_⟩
  rintro e w' ⟨rfl, n, rfl⟩
  exact ⟨rfl, pw_below_drewN (Below.refl _ _) _⟩
theorem fits10_true {s0 s1 s2 s3 : ByteArray} (h : fit4 s0 s1 s2 s3 = true) : s0.size ≤ 2147483647 ∧ s1.size ≤ 2147483647 ∧ s2.size ≤ 2147483647 ∧ s3.size ≤ 2147483647 := of_decide_eq_true h
theorem below_alloc' {B : Nat} {w : World} (hB : B ≤ w.heap.size) (o : Obj) : Below B w (w.alloc o) := (Below.refl B w).alloc hB o
theorem step0 {s d : ByteArray} {S0 : List S35} (h : s.data.toList = rend S0) : (s ++ d).data.toList = rend (S0 ++ [⟨d, 0⟩]) := by
  have e2 : (nameB 0).data.toList = [] := rfl
  rw [rend_append, rend_one, e2, List.append_nil, ← h]
  simp [ByteArray.data_append]
theorem step_val {s d v : ByteArray} {S0 : List S35} (h : s.data.toList = rend S0) : (s ++ d ++ v).data.toList = rend (S0 ++ [⟨d ++ v, 0⟩]) := by
  have e2 : (nameB 0).data.toList = [] := rfl
  rw [rend_append, rend_one, e2, List.append_nil, ← h]
  simp [ByteArray.data_append]
theorem step_name {s d : ByteArray} {S0 : List S35} {c : Int} (h : s.data.toList = rend S0) : (s ++ d ++ nameB c).data.toList = rend (S0 ++ [⟨d, c⟩]) := by
  rw [rend_append, rend_one, ← h]
  simp [ByteArray.data_append]
theorem hasK_snoc (l : List S35) (x : S35) (k : Int) : hasK (l ++ [x]) k = (hasK l k || x.f1 == k) := by simp [hasK]
theorem subAll_take (v1 v2 v3 v4 : Option ByteArray) (l0 : List ByteArray) (l1 : List Int) (h : l0.length = l1.length) (i : Nat) (hi : i < l0.length) :
    subAll v1 v2 v3 v4 ((tmplOf l0 l1).take (i + 1)) = subAll v1 v2 v3 v4 ((tmplOf l0 l1).take i) ++ [subOne (pick4 none v1 v2 v3 v4 (rd l1 i)) ⟨rdOf ByteArray.empty l0 i, rd l1 i⟩] := by
  rw [take_succ_rd _ i (by rw [tmplOf_length l0 l1 h]; exact hi), tmplOf_rd l0 l1 h i hi]
  simp [subAll]
theorem size_app (a b : ByteArray) : (a ++ b).size = a.size + b.size := ByteArray.size_append
theorem Impl.calls2 (A0 A1 : Option Addr) (c0 c1 : Nat) (l0 : List ByteArray) (l1 : List Int) (s0 s1 s2 s3 : ByteArray) (b0 b1 b2 b3 : Bool) (w : World) (hr0 : Kd.C Kd.string w A0 l0.length l0) (hc0 : l0.length ≤ c0) (hr1 : Kd.C (Kd.int .i64) w A1 l1.length l1) (hc1 : l1.length ≤ c1)
    (hl : l0.length = l1.length) (hll : l0.length ≤ 50) (hk : ∀ i : Nat, i < l0.length → 0 ≤ rd l1 i ∧ rd l1 i ≤ 4)
    (hT : tsz (vOf b0 s0) (vOf b1 s1) (vOf b2 s2) (vOf b3 s3) (tmplOf l0 l1) ≤ 140737488355328) (s : ByteArray) (TS : List S35) (hTS : subAll (vOf b0 s0) (vOf b1 s1) (vOf b2 s2) (vOf b3 s3) (tmplOf l0 l1) = TS) (hs : s.data.toList = rend TS) (hT2 : s.size ≤ 140737488355328) :
    Calls Try.prog 6 #[.slice A0 l0.length c0, .slice A1 l0.length c1, .agg #[.string s0, .string s1, .string s2, .string s3], .agg #[.bool b0, .bool b1, .bool b2, .bool b3]] w fun e w' => ∃ h0 : Bool, e = .returned (.tuple #[.string s,
      .agg #[.bool h0, .bool (hasK TS 1), .bool (hasK TS 2), .bool (hasK TS 3), .bool (hasK TS 4)]]) ∧ Below w.heap.size w w' := by
  have hlen : (rend TS).length = s.size := by rw [← hs]; simp
  have h := Impl.calls A0 A1 c0 c1 l0 l1 s0 s1 s2 s3 b0 b1 b2 b3 w hr0 hc0 hr1 hc1 hl hll hk hT (by rw [hTS, hlen]; exact hT2)
  have e2 : (⟨(rend TS).toArray⟩ : ByteArray) = s := by rw [← hs]
  rw [← hl, hTS, e2] at h
  exact h
theorem tsz_le_rend (v1 v2 v3 v4 : Option ByteArray) (l : List S35) : tsz v1 v2 v3 v4 l ≤ (rend (subAll v1 v2 v3 v4 l)).length := by
  induction l with
  | nil => exact Nat.le_refl _
  | cons x l ih =>
    have e1 : tsz v1 v2 v3 v4 (x :: l) = (subOne (pick4 none v1 v2 v3 v4 x.f1) x).f0.size + tsz v1 v2 v3 v4 l := by simp [tsz]
    have e2 : subAll v1 v2 v3 v4 (x :: l) = [subOne (pick4 none v1 v2 v3 v4 x.f1) x] ++ subAll v1 v2 v3 v4 l := rfl
    rw [e1, e2, rend_append, rend_one, List.length_append, List.length_append]
    have e3 : (subOne (pick4 none v1 v2 v3 v4 x.f1) x).f0.data.toList.length = (subOne (pick4 none v1 v2 v3 v4 x.f1) x).f0.size := Array.length_toList
    omega
theorem C_lit_string (w : World) (g : Nat) (s : ByteArray) (h : w.heap[g]? = some (.cells #[.string s] 9 (0, 0))) : Kd.C Kd.string w (some ⟨g, 0, none⟩) [s].length [s] := by
  refine ⟨rfl, by show 1 ≤ 9223372036854775807; decide, fun _ => ⟨_, rfl, fun j p hj => ?_⟩⟩
  obtain rfl : j = 0 := by
    have := (List.getElem?_eq_some_iff.1 hj).1
    simp at this
    exact this
  have e := Option.some.inj hj
  subst e
  refine ⟨[.string s], rfl, rfl, fun i u hu => ?_⟩
  obtain rfl : i = 0 := by
    have := (List.getElem?_eq_some_iff.1 hu).1
    simp at this
    exact this
  have e := Option.some.inj hu
  subst e
  exact (blk_cell h 0).trans rfl
theorem C_lit_int (w : World) (g : Nat) (s : Int) (h : w.heap[g]? = some (.cells #[.int .i64 s] 3 (0, 0))) : Kd.C (Kd.int .i64) w (some ⟨g, 0, none⟩) [s].length [s] := by
  refine ⟨rfl, by show 1 ≤ 9223372036854775807; decide, fun _ => ⟨_, rfl, fun j p hj => ?_⟩⟩
  obtain rfl : j = 0 := by
    have := (List.getElem?_eq_some_iff.1 hj).1
    simp at this
    exact this
  have e := Option.some.inj hj
  subst e
  refine ⟨[.int .i64 s], rfl, rfl, fun i u hu => ?_⟩
  obtain rfl : i = 0 := by
    have := (List.getElem?_eq_some_iff.1 hu).1
    simp at this
    exact this
  have e := Option.some.inj hu
  subst e
  exact (blk_cell h 0).trans rfl
theorem one_calls (g1 g2 : Nat) (w : World) (h1 : w.heap[g1]? = some (.cells #[.string ⟨#[97]⟩] 9 (0, 0))) (h2 : w.heap[g2]? = some (.cells #[.int .i64 0] 3 (0, 0))) :
    Calls Try.prog 6 #[.slice (some ⟨g1, 0, none⟩) 1 1, .slice (some ⟨g2, 0, none⟩) 1 1, .agg #[.string ⟨#[]⟩, .string ⟨#[]⟩, .string ⟨#[]⟩, .string ⟨#[]⟩], .agg #[.bool false, .bool false, .bool false, .bool false]] w fun e w' =>
      (∃ x0 x1 x2 x3 x4 : Bool, e = .returned (.tuple #[.string ⟨#[97]⟩, .agg #[.bool x0, .bool x1, .bool x2, .bool x3, .bool x4]])) ∧ Below w.heap.size w w' := by
  refine (Impl.calls2 (some ⟨g1, 0, none⟩) (some ⟨g2, 0, none⟩) 1 1 [⟨#[97]⟩] [0] ⟨#[]⟩ ⟨#[]⟩ ⟨#[]⟩ ⟨#[]⟩ false false false false w (C_lit_string w g1 _ h1) (by decide) (C_lit_int w g2 _ h2) (by decide) rfl (by decide) ?_ ?_ ⟨#[97]⟩ _ rfl rfl (by decide)).mono ?_
  · intro i hi
    obtain rfl : i = 0 := by simp at hi; exact hi
    decide
  · decide
  · rintro e w' ⟨h0, rfl, hb⟩
    exact ⟨⟨_, _, _, _, _, rfl⟩, hb⟩
set_option maxHeartbeats 4000000 in
set_option maxRecDepth 100000 in
theorem Law.calls (A0 A1 : Option Addr) (c0 c1 : Nat) (l0 : List ByteArray) (l1 : List Int) (s0 s1 s2 s3 : ByteArray) (b0 b1 b2 b3 : Bool) (w : World) (hr0 : Kd.C Kd.string w A0 l0.length l0) (hc0 : l0.length ≤ c0) (hr1 : Kd.C (Kd.int .i64) w A1 l1.length l1) (hc1 : l1.length ≤ c1) :
    Calls Try.prog 3 #[.slice A0 l0.length c0, .slice A1 l1.length c1, .agg #[.string s0, .string s1, .string s2, .string s3], .agg #[.bool b0, .bool b1, .bool b2, .bool b3]] w fun e w' => e = .returned (.bool true) ∧ Below w.heap.size w w' := by
  have HR0 := Lib.hid hr0
  have HR1 := Lib.hid hr1
  have HC0 := Lib.hid hc0
  have HC1 := Lib.hid hc1
  clear hr0 hr1 hc0 hc1
  obtain ⟨hB1, hV1, hS1⟩ := alloc2 w (.cells #[.string s0, .string s1, .string s2, .string s3] 24 (0, 0)) (.cells #[.bool b0, .bool b1, .bool b2, .bool b3] 25 (0, 0))
  have hsz1 : ((w.alloc (.cells #[.string s0, .string s1, .string s2, .string s3] 24 (0, 0))).alloc (.cells #[.bool b0, .bool b1, .bool b2, .bool b3] 25 (0, 0))).heap.size = w.heap.size + 2 := by simp
  generalize hWW : (w.alloc (.cells #[.string s0, .string s1, .string s2, .string s3] 24 (0, 0))).alloc (.cells #[.bool b0, .bool b1, .bool b2, .bool b3] 25 (0, 0)) = W at *
  have HW := Lib.hid hB1
  have HV := Lib.hid hV1
  have HS := Lib.hid hS1
  have HZ := Lib.hid hsz1
  have HWW := Lib.hid hWW
  clear hB1 hV1 hS1 hsz1 hWW
  obtain ⟨r5, h5⟩ := fits5_calls A0 c0 l0 W (Kd.C_below HR0.out HW.out) HC0.out
  have H5 := Lib.hid h5
  clear h5
  by_cases hr5 : r5 = true
  · by_cases hm : l1.length > 2147483647
    · have d1 : decide (2147483647 < (l1.length : Int)) = true := decide_eq_true (by omega)
      have d2 : decide (2147483647 < l1.length) = true := decide_eq_true hm
      clear hm
      subst hr5
      go_enter Try.func3, Try.ntmps3
      go_wp2_with (first | (go_at_call 4; rw [HWW.out]; (with_reducible refine H5.out.mono ?_); rintro e w5 ⟨rfl, hb5⟩; have HB5 := Lib.hid hb5; have hk5 := (hb5.block w.heap.size (by have := HZ.out; omega)).trans HV.out; have y0 := (blk_cell hk5 0).trans rfl; have y1 := (blk_cell hk5 1).trans rfl; have y2 := (blk_cell hk5 2).trans rfl; have y3 := (blk_cell hk5 3).trans rfl; clear hb5 hk5))
      go_ret
      exact ⟨rfl, HW.out.trans (HB5.out.mono HW.out.size)⟩
    · have d1 : decide (2147483647 < (l1.length : Int)) = false := decide_eq_false (by omega)
      have d2 : decide (2147483647 < l1.length) = false := decide_eq_false hm
      clear hm
      subst hr5
      by_cases hf : fit4 s0 s1 s2 s3 = true
      · have HF := Lib.hid (fits10_true hf)
        by_cases hl : l0.length = l1.length
        · rw [← hl] at d1 d2 ⊢
          by_cases h50 : 50 < l0.length
          · have d3 : decide (50 < (l0.length : Int)) = true := decide_eq_true (by omega)
            have d4 : decide (50 < l0.length) = true := decide_eq_true h50
            clear h50 hl
            go_enter Try.func3, Try.ntmps3
            go_wp2_with (first | (go_at_call 4; rw [HWW.out]; (with_reducible refine H5.out.mono ?_); rintro e w5 ⟨rfl, hb5⟩; have HB5 := Lib.hid hb5; have hk5 := (hb5.block w.heap.size (by have := HZ.out; omega)).trans HV.out; have y0 := (blk_cell hk5 0).trans rfl; have y1 := (blk_cell hk5 1).trans rfl; have y2 := (blk_cell hk5 2).trans rfl; have y3 := (blk_cell hk5 3).trans rfl; clear hb5 hk5) | (go_at_call 5; (with_reducible refine (Fits10.calls s0 s1 s2 s3 w5).mono ?_); rintro e w6 ⟨rfl, hb6⟩; have HB6 := Lib.hid (below_step HB5.out hb6); clear hb6))
            go_ret
            exact ⟨rfl, HW.out.trans ((HB6.out.mono HW.out.size).trans (below_alloc' (Nat.le_trans HW.out.size HB6.out.size) _))⟩
          · have d3 : decide (50 < (l0.length : Int)) = false := decide_eq_false (by omega)
            have d4 : decide (50 < l0.length) = false := decide_eq_false h50
            have HL1 := Lib.hid hl
            have HL := Lib.hid (show l0.length ≤ 50 by omega)
            clear hl h50
            go_enter Try.func3, Try.ntmps3
            go_wp2_with (first | (go_at_call 4; rw [HWW.out]; (with_reducible refine H5.out.mono ?_); rintro e w5 ⟨rfl, hb5⟩; have HB5 := Lib.hid hb5; have hk5 := (hb5.block w.heap.size (by have := HZ.out; omega)).trans HV.out; have y0 := (blk_cell hk5 0).trans rfl; have y1 := (blk_cell hk5 1).trans rfl; have y2 := (blk_cell hk5 2).trans rfl; have y3 := (blk_cell hk5 3).trans rfl; clear hb5 hk5) | (go_at_call 5; (with_reducible refine (Fits10.calls s0 s1 s2 s3 w5).mono ?_); rintro e w6 ⟨rfl, hb6⟩; have HB6 := Lib.hid (below_step HB5.out hb6); clear hb6))
            obtain ⟨hB7, hN7, hL7⟩ := alloc2 w6 (.cells #[.string ⟨#[]⟩, .string ⟨#[91, 100, 105, 114, 93]⟩, .string ⟨#[91, 110, 97, 109, 101, 93]⟩, .string ⟨#[91, 104, 97, 115, 104, 93]⟩, .string ⟨#[91, 101, 120, 116, 93]⟩] 9 (0, 0)) (.cells #[.bool false, .bool false, .bool false, .bool false, .bool false] 28 (0, 0))
            have hg6 : w.heap.size + 2 ≤ w6.heap.size := by have := HB6.out.size; have := HZ.out; omega
            have HV7 := Lib.hid ((hB7.block w.heap.size (by omega)).trans ((HB6.out.block w.heap.size (by have := HZ.out; omega)).trans HV.out))
            have HS7 := Lib.hid ((hB7.block (w.heap.size + 1) (by omega)).trans ((HB6.out.block (w.heap.size + 1) (by have := HZ.out; omega)).trans HS.out))
            have HF7 := Lib.hid (show Below w.heap.size w _ from HW.out.trans ((HB6.out.mono HW.out.size).trans (hB7.mono (by omega))))
            generalize World.alloc (World.alloc w6 _) _ = W7 at *
            generalize w6.heap.size = gN at *
            have HG := Lib.hid hg6
            have HN7 := Lib.hid hN7
            have HL7 := Lib.hid hL7
            clear hB7 hN7 hL7 hg6 HB6 HB5 HV HS HZ HWW H5 HW y0 y1 y2 y3 d1 d2 d3 d4
            go_loopw [46, 10] (fun v46 v10 wr => ∃ (i : Nat) (s : ByteArray), v46 = .int .i64 (i : Int) ∧ v10 = .string s ∧ i ≤ l0.length ∧ Hid (s.data.toList = rend (subAll (vOf b0 s0) (vOf b1 s1) (vOf b2 s2) (vOf b3 s3) ((tmplOf l0 l1).take i))) ∧ Hid (s.size ≤ i * 2147483800) ∧ Hid (∀ j : Nat, j < i → (0 ≤ rd l1 j ∧ rd l1 j ≤ 4) ∧ (rdOf ByteArray.empty l0 j).size ≤ 100) ∧ Hid (wr.heap[gN + 1]? = some (.cells #[.bool false, .bool (hasK (subAll (vOf b0 s0) (vOf b1 s1) (vOf b2 s2) (vOf b3 s3) ((tmplOf l0 l1).take i)) 1), .bool (hasK (subAll (vOf b0 s0) (vOf b1 s1) (vOf b2 s2) (vOf b3 s3) ((tmplOf l0 l1).take i)) 2), .bool (hasK (subAll (vOf b0 s0) (vOf b1 s1) (vOf b2 s2) (vOf b3 s3) ((tmplOf l0 l1).take i)) 3), .bool (hasK (subAll (vOf b0 s0) (vOf b1 s1) (vOf b2 s2) (vOf b3 s3) ((tmplOf l0 l1).take i)) 4)] 28 (0, 0))) ∧ Hid (Below (gN + 1) W7 wr)) (fun v46 _ _ => l0.length - (intOf v46).toNat)
            case atStart => exact ⟨0, ⟨#[]⟩, rfl, rfl, Nat.zero_le _, Lib.hid rfl, Lib.hid (Nat.zero_le _), Lib.hid (fun j hj => absurd hj (Nat.not_lt_zero j)), HL7, Lib.hid (Below.refl _ _)⟩
            obtain ⟨i, s, rfl, rfl, hi, HE, HZ, HI, HH, HB⟩ := hrel
            by_cases hlt : i < l0.length
            · have p1' : (0 : Int) ≤ (i : Int) := by omega
              have q1' : (i : Int) < (l0.length : Int) := by omega
              have q2' : (i : Int) < (l1.length : Int) := by have := HL1.out; omega
              have d1 : decide ((i : Int) < (l0.length : Int)) = true := decide_eq_true q1'
              have d2 : decide (i < l0.length) = true := decide_eq_true hlt
              have hw : wrap64 ((i : Int) + 1) = ((i + 1 : Nat) : Int) := by have := HL.out; unfold wrap64; omega
              have HFr := Lib.hid (show Below w.heap.size w wr from HF7.out.trans (HB.out.mono (by have := HG.out; omega)))
              obtain ⟨a0, e0, x0⟩ := Kd.at_string HR0.out i p1' q1'
              obtain ⟨a1, e1, x1⟩ := Kd.at_int HR1.out i p1' q2'
              cases e0
              cases e1
              rw [Int.toNat_natCast] at x0 x1
              replace x0 := (HFr.out.cell (World.block_lt_of_cell? w _ x0)).trans x0
              replace x1 := (HFr.out.cell (World.block_lt_of_cell? w _ x1)).trans x1
              have HV8 := Lib.hid ((HB.out.block w.heap.size (by have := HG.out; omega)).trans HV7.out)
              have HS8 := Lib.hid ((HB.out.block (w.heap.size + 1) (by have := HG.out; omega)).trans HS7.out)
              have HN8 := Lib.hid ((HB.out.block gN (by omega)).trans HN7.out)
              have HU := Lib.hid (subAll_take (vOf b0 s0) (vOf b1 s1) (vOf b2 s2) (vOf b3 s3) l0 l1 HL1.out i hlt)
              have HJ := Lib.hid (show (0 ≤ rd l1 i ∧ rd l1 i ≤ 4) ∧ (rdOf ByteArray.empty l0 i).size ≤ 100 → ∀ j : Nat, j < i + 1 → (0 ≤ rd l1 j ∧ rd l1 j ≤ 4) ∧ (rdOf ByteArray.empty l0 j).size ≤ 100 from fun h j hj => by
                by_cases e : j = i
                · rw [e]; exact h
                · exact HI.out j (by omega))
              generalize subAll (vOf b0 s0) (vOf b1 s1) (vOf b2 s2) (vOf b3 s3) ((tmplOf l0 l1).take i) = S0 at *
              generalize rdOf ByteArray.empty l0 i = d at *
              generalize rd l1 i = c at *
              have HM := Lib.hid hlt
              clear hi hlt
              have hp1 := eq_true p1'
              have hq1 := eq_true q1'
              have hq2 := eq_true q2'
              clear p1' q1' q2'
              by_cases hc0 : c < 0
              · have b4 : decide (c < 0) = true := decide_eq_true hc0
                have b6 : (c < 0) = True := eq_true hc0
                clear hc0
                go_wp2
                go_ret
                exact ⟨rfl, HFr.out⟩
              · have b4 : decide (c < 0) = false := decide_eq_false hc0
                have b6 : (c < 0) = False := eq_false hc0
                by_cases hc4 : 4 < c
                · have b5 : decide (4 < c) = true := decide_eq_true hc4
                  have b7 : (4 < c) = True := eq_true hc4
                  clear hc0 hc4
                  go_wp2
                  go_ret
                  exact ⟨rfl, HFr.out⟩
                · have b5 : decide (4 < c) = false := decide_eq_false hc4
                  have b7 : (4 < c) = False := eq_false hc4
                  by_cases hd : 100 < d.size
                  · have b8 : decide (100 < (d.size : Int)) = true := decide_eq_true (by omega)
                    have b9 : decide (100 < d.size) = true := decide_eq_true hd
                    clear hc0 hc4 hd
                    go_wp2
                    go_ret
                    exact ⟨rfl, HFr.out⟩
                  · have b8 : decide (100 < (d.size : Int)) = false := decide_eq_false (by omega)
                    have b9 : decide (100 < d.size) = false := decide_eq_false hd
                    have HD := Lib.hid (show d.size ≤ 100 by omega)
                    have HJ2 := Lib.hid (HJ.out ⟨⟨by omega, by omega⟩, by omega⟩)
                    have hcat1 : (9223372036854775807 < s.size + d.size) = False := eq_false (by have := HZ.out; have := HL.out; have := HM.out; omega)
                    have hc : c = 0 ∨ c = 1 ∨ c = 2 ∨ c = 3 ∨ c = 4 := by omega
                    clear hc0 hc4 hd b4 b5 b6 b7 HJ HI
                    rcases hc with rfl | rfl | rfl | rfl | rfl
                    · have HU2 := Lib.hid (show subAll (vOf b0 s0) (vOf b1 s1) (vOf b2 s2) (vOf b3 s3) ((tmplOf l0 l1).take (i + 1)) = S0 ++ [⟨d, 0⟩] from HU.out)
                      go_wp2
                      go_roundw
                      case rel => exact ⟨i + 1, s ++ d, by rw [hw], rfl, HM.out, Lib.hid (by rw [HU2.out]; exact step0 HE.out), Lib.hid (by rw [size_app]; have := HZ.out; have := HD.out; omega), HJ2, Lib.hid (by rw [HU2.out]; simp only [hasK_snoc]; simpa using HH.out), HB⟩
                      case measure => exact meas_step HM.out hw
                    · have f0 := (blk_cell HS8.out 0).trans rfl
                      have f1 := (blk_cell HV8.out 0).trans rfl
                      have f2 := (blk_cell HN8.out 1).trans rfl
                      have f3 := (blk_cell HH.out 1).trans rfl
                      have f4 := blk_frozen HH.out 1
                      by_cases hb : b0 = true
                      · have HU2 := Lib.hid (show subAll (vOf b0 s0) (vOf b1 s1) (vOf b2 s2) (vOf b3 s3) ((tmplOf l0 l1).take (i + 1)) = S0 ++ [⟨d ++ s0, 0⟩] from by rw [HU.out]; simp [pick4, vOf, hb, subOne])
                        have hcat2 : (9223372036854775807 < (s ++ d).size + s0.size) = False := eq_false (by rw [size_app]; have := HZ.out; have := HL.out; have := HM.out; have := HF.out; have := HD.out; omega)
                        have hcat3 : (9223372036854775807 < s.size + d.size + s0.size) = False := by rw [← size_app]; exact hcat2
                        go_wp2
                        go_roundw
                        case rel => exact ⟨i + 1, s ++ d ++ s0, by rw [hw], rfl, HM.out, Lib.hid (by rw [HU2.out]; exact step_val HE.out), Lib.hid (by rw [size_app, size_app]; have := HZ.out; have := HD.out; have := HF.out; omega), HJ2, Lib.hid (by rw [HU2.out]; simp only [hasK_snoc]; simpa using HH.out), HB⟩
                        case measure => exact meas_step HM.out hw
                      · have hb' : b0 = false := Bool.eq_false_iff.2 hb
                        clear hb
                        have HU2 := Lib.hid (show subAll (vOf b0 s0) (vOf b1 s1) (vOf b2 s2) (vOf b3 s3) ((tmplOf l0 l1).take (i + 1)) = S0 ++ [⟨d, 1⟩] from by rw [HU.out]; simp [pick4, vOf, hb', subOne])
                        have hcat2 : (9223372036854775807 < (s ++ d).size + (⟨#[91, 100, 105, 114, 93]⟩ : ByteArray).size) = False := eq_false (by rw [size_app]; have := HZ.out; have := HL.out; have := HM.out; have := HD.out; show ¬ (_ < _ + 5); omega)
                        have hcat3 : (9223372036854775807 < s.size + d.size + 5) = False := eq_false (by have := HZ.out; have := HL.out; have := HM.out; have := HD.out; omega)
                        go_wp2
                        go_roundw
                        case rel => exact ⟨i + 1, s ++ d ++ nameB 1, by rw [hw], rfl, HM.out, Lib.hid (by rw [HU2.out]; exact step_name HE.out), Lib.hid (by rw [size_app, size_app]; have := HZ.out; have := HD.out; have e : (nameB 1).size = 5 := rfl; omega), HJ2, Lib.hid (blk_put HH.out 1 (.bool true) (by rw [HU2.out]; simp only [hasK_snoc]; simp)), Lib.hid (HB.out.setCell (p := ⟨gN + 1, 1, none⟩) (Nat.le_refl _) _)⟩
                        case measure => exact meas_step HM.out hw
                    · have f0 := (blk_cell HS8.out 1).trans rfl
                      have f1 := (blk_cell HV8.out 1).trans rfl
                      have f2 := (blk_cell HN8.out 2).trans rfl
                      have f3 := (blk_cell HH.out 2).trans rfl
                      have f4 := blk_frozen HH.out 2
                      by_cases hb : b1 = true
                      · have HU2 := Lib.hid (show subAll (vOf b0 s0) (vOf b1 s1) (vOf b2 s2) (vOf b3 s3) ((tmplOf l0 l1).take (i + 1)) = S0 ++ [⟨d ++ s1, 0⟩] from by rw [HU.out]; simp [pick4, vOf, hb, subOne])
                        have hcat2 : (9223372036854775807 < (s ++ d).size + s1.size) = False := eq_false (by rw [size_app]; have := HZ.out; have := HL.out; have := HM.out; have := HF.out; have := HD.out; omega)
                        have hcat3 : (9223372036854775807 < s.size + d.size + s1.size) = False := by rw [← size_app]; exact hcat2
                        go_wp2
                        go_roundw
                        case rel => exact ⟨i + 1, s ++ d ++ s1, by rw [hw], rfl, HM.out, Lib.hid (by rw [HU2.out]; exact step_val HE.out), Lib.hid (by rw [size_app, size_app]; have := HZ.out; have := HD.out; have := HF.out; omega), HJ2, Lib.hid (by rw [HU2.out]; simp only [hasK_snoc]; simpa using HH.out), HB⟩
                        case measure => exact meas_step HM.out hw
                      · have hb' : b1 = false := Bool.eq_false_iff.2 hb
                        clear hb
                        have HU2 := Lib.hid (show subAll (vOf b0 s0) (vOf b1 s1) (vOf b2 s2) (vOf b3 s3) ((tmplOf l0 l1).take (i + 1)) = S0 ++ [⟨d, 2⟩] from by rw [HU.out]; simp [pick4, vOf, hb', subOne])
                        have hcat2 : (9223372036854775807 < (s ++ d).size + (⟨#[91, 110, 97, 109, 101, 93]⟩ : ByteArray).size) = False := eq_false (by rw [size_app]; have := HZ.out; have := HL.out; have := HM.out; have := HD.out; show ¬ (_ < _ + 6); omega)
                        have hcat3 : (9223372036854775807 < s.size + d.size + 6) = False := eq_false (by have := HZ.out; have := HL.out; have := HM.out; have := HD.out; omega)
                        go_wp2
                        go_roundw
                        case rel => exact ⟨i + 1, s ++ d ++ nameB 2, by rw [hw], rfl, HM.out, Lib.hid (by rw [HU2.out]; exact step_name HE.out), Lib.hid (by rw [size_app, size_app]; have := HZ.out; have := HD.out; have e : (nameB 2).size = 6 := rfl; omega), HJ2, Lib.hid (blk_put HH.out 2 (.bool true) (by rw [HU2.out]; simp only [hasK_snoc]; simp)), Lib.hid (HB.out.setCell (p := ⟨gN + 1, 2, none⟩) (Nat.le_refl _) _)⟩
                        case measure => exact meas_step HM.out hw
                    · have f0 := (blk_cell HS8.out 2).trans rfl
                      have f1 := (blk_cell HV8.out 2).trans rfl
                      have f2 := (blk_cell HN8.out 3).trans rfl
                      have f3 := (blk_cell HH.out 3).trans rfl
                      have f4 := blk_frozen HH.out 3
                      by_cases hb : b2 = true
                      · have HU2 := Lib.hid (show subAll (vOf b0 s0) (vOf b1 s1) (vOf b2 s2) (vOf b3 s3) ((tmplOf l0 l1).take (i + 1)) = S0 ++ [⟨d ++ s2, 0⟩] from by rw [HU.out]; simp [pick4, vOf, hb, subOne])
                        have hcat2 : (9223372036854775807 < (s ++ d).size + s2.size) = False := eq_false (by rw [size_app]; have := HZ.out; have := HL.out; have := HM.out; have := HF.out; have := HD.out; omega)
                        have hcat3 : (9223372036854775807 < s.size + d.size + s2.size) = False := by rw [← size_app]; exact hcat2
                        go_wp2
                        go_roundw
                        case rel => exact ⟨i + 1, s ++ d ++ s2, by rw [hw], rfl, HM.out, Lib.hid (by rw [HU2.out]; exact step_val HE.out), Lib.hid (by rw [size_app, size_app]; have := HZ.out; have := HD.out; have := HF.out; omega), HJ2, Lib.hid (by rw [HU2.out]; simp only [hasK_snoc]; simpa using HH.out), HB⟩
                        case measure => exact meas_step HM.out hw
                      · have hb' : b2 = false := Bool.eq_false_iff.2 hb
                        clear hb
                        have HU2 := Lib.hid (show subAll (vOf b0 s0) (vOf b1 s1) (vOf b2 s2) (vOf b3 s3) ((tmplOf l0 l1).take (i + 1)) = S0 ++ [⟨d, 3⟩] from by rw [HU.out]; simp [pick4, vOf, hb', subOne])
                        have hcat2 : (9223372036854775807 < (s ++ d).size + (⟨#[91, 104, 97, 115, 104, 93]⟩ : ByteArray).size) = False := eq_false (by rw [size_app]; have := HZ.out; have := HL.out; have := HM.out; have := HD.out; show ¬ (_ < _ + 6); omega)
                        have hcat3 : (9223372036854775807 < s.size + d.size + 6) = False := eq_false (by have := HZ.out; have := HL.out; have := HM.out; have := HD.out; omega)
                        go_wp2
                        go_roundw
                        case rel => exact ⟨i + 1, s ++ d ++ nameB 3, by rw [hw], rfl, HM.out, Lib.hid (by rw [HU2.out]; exact step_name HE.out), Lib.hid (by rw [size_app, size_app]; have := HZ.out; have := HD.out; have e : (nameB 3).size = 6 := rfl; omega), HJ2, Lib.hid (blk_put HH.out 3 (.bool true) (by rw [HU2.out]; simp only [hasK_snoc]; simp)), Lib.hid (HB.out.setCell (p := ⟨gN + 1, 3, none⟩) (Nat.le_refl _) _)⟩
                        case measure => exact meas_step HM.out hw
                    · have f0 := (blk_cell HS8.out 3).trans rfl
                      have f1 := (blk_cell HV8.out 3).trans rfl
                      have f2 := (blk_cell HN8.out 4).trans rfl
                      have f3 := (blk_cell HH.out 4).trans rfl
                      have f4 := blk_frozen HH.out 4
                      by_cases hb : b3 = true
                      · have HU2 := Lib.hid (show subAll (vOf b0 s0) (vOf b1 s1) (vOf b2 s2) (vOf b3 s3) ((tmplOf l0 l1).take (i + 1)) = S0 ++ [⟨d ++ s3, 0⟩] from by rw [HU.out]; simp [pick4, vOf, hb, subOne])
                        have hcat2 : (9223372036854775807 < (s ++ d).size + s3.size) = False := eq_false (by rw [size_app]; have := HZ.out; have := HL.out; have := HM.out; have := HF.out; have := HD.out; omega)
                        have hcat3 : (9223372036854775807 < s.size + d.size + s3.size) = False := by rw [← size_app]; exact hcat2
                        go_wp2
                        go_roundw
                        case rel => exact ⟨i + 1, s ++ d ++ s3, by rw [hw], rfl, HM.out, Lib.hid (by rw [HU2.out]; exact step_val HE.out), Lib.hid (by rw [size_app, size_app]; have := HZ.out; have := HD.out; have := HF.out; omega), HJ2, Lib.hid (by rw [HU2.out]; simp only [hasK_snoc]; simpa using HH.out), HB⟩
                        case measure => exact meas_step HM.out hw
                      · have hb' : b3 = false := Bool.eq_false_iff.2 hb
                        clear hb
                        have HU2 := Lib.hid (show subAll (vOf b0 s0) (vOf b1 s1) (vOf b2 s2) (vOf b3 s3) ((tmplOf l0 l1).take (i + 1)) = S0 ++ [⟨d, 4⟩] from by rw [HU.out]; simp [pick4, vOf, hb', subOne])
                        have hcat2 : (9223372036854775807 < (s ++ d).size + (⟨#[91, 101, 120, 116, 93]⟩ : ByteArray).size) = False := eq_false (by rw [size_app]; have := HZ.out; have := HL.out; have := HM.out; have := HD.out; show ¬ (_ < _ + 5); omega)
                        have hcat3 : (9223372036854775807 < s.size + d.size + 5) = False := eq_false (by have := HZ.out; have := HL.out; have := HM.out; have := HD.out; omega)
                        go_wp2
                        go_roundw
                        case rel => exact ⟨i + 1, s ++ d ++ nameB 4, by rw [hw], rfl, HM.out, Lib.hid (by rw [HU2.out]; exact step_name HE.out), Lib.hid (by rw [size_app, size_app]; have := HZ.out; have := HD.out; have e : (nameB 4).size = 5 := rfl; omega), HJ2, Lib.hid (blk_put HH.out 4 (.bool true) (by rw [HU2.out]; simp only [hasK_snoc]; simp)), Lib.hid (HB.out.setCell (p := ⟨gN + 1, 4, none⟩) (Nat.le_refl _) _)⟩
                        case measure => exact meas_step HM.out hw
            · have d1 : decide ((i : Int) < (l0.length : Int)) = false := decide_eq_false (by omega)
              have d2 : decide (i < l0.length) = false := decide_eq_false hlt
              have e3 : (tmplOf l0 l1).take i = tmplOf l0 l1 := List.take_of_length_le (by rw [tmplOf_length l0 l1 HL1.out]; omega)
              rw [e3] at HE HH
              have hss : s.size ≤ 140737488355328 := by have := HZ.out; have := HL.out; omega
              have HFr := Lib.hid (show Below w.heap.size w wr from HF7.out.trans (HB.out.mono (by have := HG.out; omega)))
              have HV8 := Lib.hid ((HB.out.block w.heap.size (by have := HG.out; omega)).trans HV7.out)
              have HS8 := Lib.hid ((HB.out.block (w.heap.size + 1) (by have := HG.out; omega)).trans HS7.out)
              have f0 := (blk_cell HV8.out 0).trans rfl
              have f1 := (blk_cell HV8.out 1).trans rfl
              have f2 := (blk_cell HV8.out 2).trans rfl
              have f3 := (blk_cell HV8.out 3).trans rfl
              have f4 := (blk_cell HS8.out 0).trans rfl
              have f5 := (blk_cell HS8.out 1).trans rfl
              have f6 := (blk_cell HS8.out 2).trans rfl
              have f7 := (blk_cell HS8.out 3).trans rfl
              generalize hTS : subAll (vOf b0 s0) (vOf b1 s1) (vOf b2 s2) (vOf b3 s3) (tmplOf l0 l1) = TS at *
              have hts : tsz (vOf b0 s0) (vOf b1 s1) (vOf b2 s2) (vOf b3 s3) (tmplOf l0 l1) ≤ 140737488355328 := by
                refine Nat.le_trans (tsz_le_rend _ _ _ _ _) ?_
                rw [hTS, ← HE.out]
                exact Nat.le_trans (Nat.le_of_eq Array.length_toList) hss
              have HImp := Lib.hid (Impl.calls2 A0 A1 c0 c1 l0 l1 s0 s1 s2 s3 b0 b1 b2 b3 wr (Kd.C_below HR0.out HFr.out) HC0.out (Kd.C_below HR1.out HFr.out) HC1.out HL1.out HL.out (fun j hj => (HI.out j (by omega)).1) hts s TS hTS HE.out hss)
              have HLt := Lib.hid (blk_lt HH.out)
              clear hTS hts hss e3 hi hlt HI HZ HE HF hf
              go_wp2_with (first | (go_at_call 6; (with_reducible refine HImp.out.mono ?_); rintro e w8 ⟨h0, rfl, hb8⟩; have HH8 := Lib.hid ((hb8.block _ HLt.out).trans HH.out); have HF8 := Lib.hid (HFr.out.trans (hb8.mono HFr.out.size)); clear hb8) | (go_at_call 6; (with_reducible refine (one_calls (w8.heap.size + 1) (w8.heap.size + 1 + 1) _ ?qa ?qb).mono ?_); (case qa => exact (alloc3 w8 _ _ _).2.2.1); (case qb => exact (alloc3 w8 _ _ _).2.2.2.1); rintro e w9 ⟨⟨x0, x1, x2, x3, x4, rfl⟩, hb9⟩; have HX9 := Lib.hid ((hb9.block w8.heap.size (by simp; omega)).trans (alloc3 w8 _ _ _).2.1); have HH9 := Lib.hid ((hb9.block (gN + 1) (by have := blk_lt HH8.out; simp; omega)).trans (((alloc3 w8 _ _ _).1.block (gN + 1) (blk_lt HH8.out)).trans HH8.out)); have HF9 := Lib.hid (HF8.out.trans (((alloc3 w8 _ _ _).1.mono HF8.out.size).trans (hb9.mono (by have := HF8.out.size; simp; omega)))); clear hb9))
              have hb10 := below_alloc' (Nat.le_refl w9.heap.size) (.cells #[.bool x0, .bool x1, .bool x2, .bool x3, .bool x4] 28 (0, 0))
              have HX10 := Lib.hid ((hb10.block _ (blk_lt HX9.out)).trans HX9.out)
              have HH10 := Lib.hid ((hb10.block _ (blk_lt HH9.out)).trans HH9.out)
              have HF10 := Lib.hid (HF9.out.trans (hb10.mono HF9.out.size))
              generalize w9.alloc _ = W10 at *
              clear hb10 HX9 HH9 HF9 HF8 HH8 HLt HImp f0 f1 f2 f3 f4 f5 f6 f7 HV8 HS8 HFr HB HH HG HN7 HL7 HF7 HS7 HV7 HL1 HL HR0 HR1 HC0 HC1 d1 d2
              go_loopw [18] (fun v18 wr => ∃ (k : Nat), v18 = .int .i64 (k : Int) ∧ Hid (k = 1 ∨ k = 2 ∨ k = 3 ∨ k = 4 ∨ k = 5) ∧ Hid (wr.heap[w8.heap.size]? = some (.cells #[.bool h0, .bool (hasK TS 1), .bool (hasK TS 2), .bool (hasK TS 3), .bool (hasK TS 4)] 28 (0, 0))) ∧ Hid (wr.heap[gN + 1]? = some (.cells #[.bool false, .bool (hasK TS 1), .bool (hasK TS 2), .bool (hasK TS 3), .bool (hasK TS 4)] 28 (0, 0))) ∧ Hid (Below w.heap.size w wr)) (fun v18 _ => 5 - (intOf v18).toNat)
              case atStart => exact ⟨1, rfl, Lib.hid (.inl rfl), HX10, HH10, HF10⟩
              clear HX10 HH10 HF10
              obtain ⟨k, rfl, HK, HX, HH, HF⟩ := hrel
              rcases HK.out with rfl | rfl | rfl | rfl | rfl
              · have q0 := (blk_cell HX.out 1).trans rfl
                have q1 := (blk_cell HH.out 1).trans rfl
                go_wp2
                go_region
                go_wp2
                go_roundw
                case rel => exact ⟨2, rfl, Lib.hid (by omega), HX, HH, Lib.hid HF.out.drew⟩
                case measure => simp [intOf]
              · have q0 := (blk_cell HX.out 2).trans rfl
                have q1 := (blk_cell HH.out 2).trans rfl
                go_wp2
                go_region
                go_wp2
                go_roundw
                case rel => exact ⟨3, rfl, Lib.hid (by omega), HX, HH, Lib.hid HF.out.drew⟩
                case measure => simp [intOf]
              · have q0 := (blk_cell HX.out 3).trans rfl
                have q1 := (blk_cell HH.out 3).trans rfl
                go_wp2
                go_region
                go_wp2
                go_roundw
                case rel => exact ⟨4, rfl, Lib.hid (by omega), HX, HH, Lib.hid HF.out.drew⟩
                case measure => simp [intOf]
              · have q0 := (blk_cell HX.out 4).trans rfl
                have q1 := (blk_cell HH.out 4).trans rfl
                go_wp2
                go_region
                go_wp2
                go_roundw
                case rel => exact ⟨5, rfl, Lib.hid (by omega), HX, HH, Lib.hid HF.out.drew⟩
                case measure => simp [intOf]
              · go_wp2
                go_ret
                exact ⟨rfl, HF.out⟩
        · have hl' : ((l0.length : Int) == (l1.length : Int)) = false := beq_eq_false_iff_ne.mpr (by omega)
          have hl2 : ((l0.length : Int) != (l1.length : Int)) = true := bne_iff_ne.mpr (by omega)
          have hl3 : ((l0.length : Int) = (l1.length : Int)) = False := eq_false (by omega)
          clear hl
          go_enter Try.func3, Try.ntmps3
          go_wp2_with (first | (go_at_call 4; rw [HWW.out]; (with_reducible refine H5.out.mono ?_); rintro e w5 ⟨rfl, hb5⟩; have HB5 := Lib.hid hb5; have hk5 := (hb5.block w.heap.size (by have := HZ.out; omega)).trans HV.out; have y0 := (blk_cell hk5 0).trans rfl; have y1 := (blk_cell hk5 1).trans rfl; have y2 := (blk_cell hk5 2).trans rfl; have y3 := (blk_cell hk5 3).trans rfl; clear hb5 hk5) | (go_at_call 5; (with_reducible refine (Fits10.calls s0 s1 s2 s3 w5).mono ?_); rintro e w6 ⟨rfl, hb6⟩; have HB6 := Lib.hid (below_step HB5.out hb6); clear hb6))
          go_ret
          exact ⟨rfl, HW.out.trans ((HB6.out.mono HW.out.size).trans (below_alloc' (Nat.le_trans HW.out.size HB6.out.size) _))⟩
      · have hf' : fit4 s0 s1 s2 s3 = false := Bool.eq_false_iff.2 hf
        clear hf
        go_enter Try.func3, Try.ntmps3
        go_wp2_with (first | (go_at_call 4; rw [HWW.out]; (with_reducible refine H5.out.mono ?_); rintro e w5 ⟨rfl, hb5⟩; have HB5 := Lib.hid hb5; have hk5 := (hb5.block w.heap.size (by have := HZ.out; omega)).trans HV.out; have y0 := (blk_cell hk5 0).trans rfl; have y1 := (blk_cell hk5 1).trans rfl; have y2 := (blk_cell hk5 2).trans rfl; have y3 := (blk_cell hk5 3).trans rfl; clear hb5 hk5) | (go_at_call 5; (with_reducible refine (Fits10.calls s0 s1 s2 s3 w5).mono ?_); rintro e w6 ⟨rfl, hb6⟩; have HB6 := Lib.hid (below_step HB5.out hb6); clear hb6))
        go_ret
        exact ⟨rfl, HW.out.trans (HB6.out.mono HW.out.size)⟩
  · have hr5' : r5 = false := Bool.eq_false_iff.2 hr5
    subst hr5'
    clear hr5
    go_enter Try.func3, Try.ntmps3
    go_wp2_with (first | (go_at_call 4; rw [HWW.out]; (with_reducible refine H5.out.mono ?_); rintro e w5 ⟨rfl, hb5⟩; have HB5 := Lib.hid hb5; have hk5 := (hb5.block w.heap.size (by have := HZ.out; omega)).trans HV.out; have y0 := (blk_cell hk5 0).trans rfl; have y1 := (blk_cell hk5 1).trans rfl; have y2 := (blk_cell hk5 2).trans rfl; have y3 := (blk_cell hk5 3).trans rfl; clear hb5 hk5))
    go_ret
    exact ⟨rfl, HW.out.trans (HB5.out.mono HW.out.size)⟩
end Go.Proofs.Ytfhfbgfgmbfhhaa
