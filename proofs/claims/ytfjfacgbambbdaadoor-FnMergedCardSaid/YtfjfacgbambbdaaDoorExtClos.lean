/- The two lists' check in impl.Merged: ContainsFunc over closures; pairsOf. Walked. -/
import Derived.Test.YtfjfacgbambbdaaDoorExtFollow
import Derived.Deep.RegionLaw
set_option linter.unusedVariables false
namespace Go.Proofs.YtfjfacgbambbdaaDoor
open Go.RowKit Go.Proofs.YtfjfacgbambbdaaDoorW.PrintWords Go.Proofs.YtfjfacgbambbdaaDoorW.PrintLast Go.Proofs.YtfjfacgbambbdaaDoorW.PrintMore Go.Proofs.YtfjfacgbambbdaaDoor.PFnMerged
set_option maxHeartbeats 4000000 in
set_option maxRecDepth 100000 in
theorem Out.calls (gB : Nat) (A : Option Addr) (n c : Nat) (x : Int) (w : World) (hB : w.heap[gB]? = some (.cells #[.slice A n c] 22 (0, 0))) (h0 : 0 ≤ x) (h1 : x < n) :
    Calls Tryd.prog 11 #[.int .i64 x, .pointer (some ⟨gB, 0, none⟩)] w fun e w' => e = .returned (.bool false) ∧ Below w.heap.size w w' := by
  have x0 := (blk_cell hB 0).trans rfl
  have d1 : decide (x < 0) = false := decide_eq_false (by omega)
  have d2 : decide ((n : Int) ≤ x) = false := decide_eq_false (by omega)
  have d3 : (x < 0) = False := eq_false (by omega)
  have d4 : ((n : Int) ≤ x) = False := eq_false (by omega)
  go_enter Tryd.func11, Tryd.ntmps11
  go_wp2
  go_ret
  exact ⟨rfl, Below.refl _ _⟩
set_option maxHeartbeats 4000000 in
set_option maxRecDepth 100000 in
theorem Index2.calls (gB : Nat) (A A1 : Option Addr) (n c c1 : Nat) (l1 : List Int) (w : World) (hB : w.heap[gB]? = some (.cells #[.slice A n c] 22 (0, 0))) (hr : Kd.C (Kd.int .i64) w A1 l1.length l1) (hl : l1.length ≤ 2147483647) (hx : ∀ i : Nat, i < l1.length → 0 ≤ rd l1 i ∧ rd l1 i < n) :
    Calls Tryd.prog 20 #[.slice A1 l1.length c1, .func (.func 11) #[] #[.pointer (some ⟨gB, 0, none⟩)]] w fun e w' => e = .returned (.int .i64 (-1)) ∧ Below w.heap.size w w' := by
  have HB := Lib.hid hB
  have HR := Lib.hid hr
  have HX := Lib.hid hx
  have HL := Lib.hid hl
  clear hB hr hx hl
  go_enter Tryd.func20, Tryd.ntmps20
  go_wp2
  go_loopw [8] (fun v8 wr => ∃ (i : Nat), v8 = .int .i64 (i : Int) ∧ i ≤ l1.length ∧ Hid (Below w.heap.size w wr)) (fun v8 _ => l1.length - (intOf v8).toNat)
  case atStart => exact ⟨0, rfl, Nat.zero_le _, Lib.hid (Below.refl _ _)⟩
  obtain ⟨i, rfl, hi, HF⟩ := hrel
  by_cases hlt : i < l1.length
  · have p1 : (0 : Int) ≤ (i : Int) := by omega
    have q1 : (i : Int) < (l1.length : Int) := by omega
    have d1 : decide ((i : Int) < (l1.length : Int)) = true := decide_eq_true q1
    have d2 : decide (i < l1.length) = true := decide_eq_true hlt
    have hw : wrap64 ((i : Int) + 1) = ((i + 1 : Nat) : Int) := by have := HL.out; unfold wrap64; omega
    obtain ⟨ad, e1, x0⟩ := Kd.at_int HR.out i p1 q1
    cases e1
    rw [Int.toNat_natCast] at x0
    replace x0 := (HF.out.cell (World.block_lt_of_cell? w _ x0)).trans x0
    have HM := Lib.hid hlt
    have HXi := Lib.hid (HX.out i hlt)
    have HB2 := Lib.hid ((HF.out.block gB (blk_lt HB.out)).trans HB.out)
    clear hi hlt
    replace p1 := eq_true p1
    replace q1 := eq_true q1
    go_wp2_with (first | (go_at_call 11; (with_reducible refine (Out.calls gB A n c (rd l1 i) wr HB2.out HXi.out.1 HXi.out.2).mono ?_); rintro e w2 ⟨rfl, hb⟩; have HW2 := Lib.hid (HF.out.trans (hb.mono HF.out.size)); clear hb))
    go_roundw
    case rel => exact ⟨i + 1, by rw [hw], HM.out, HW2⟩
    case measure =>
      rw [hw]
      have hm := HM.out
      show l1.length - ((i + 1 : Nat) : Int).toNat < l1.length - ((i : Int)).toNat
      rw [Int.toNat_natCast, Int.toNat_natCast]
      omega
  · have d1 : decide ((i : Int) < (l1.length : Int)) = false := decide_eq_false (by omega)
    have d2 : decide (i < l1.length) = false := decide_eq_false hlt
    clear hi hlt
    go_wp2
    go_ret
    exact ⟨rfl, HF.out⟩
set_option maxHeartbeats 4000000 in
set_option maxRecDepth 100000 in
theorem Contains2.calls (gB : Nat) (A A1 : Option Addr) (n c c1 : Nat) (l1 : List Int) (w : World) (hB : w.heap[gB]? = some (.cells #[.slice A n c] 22 (0, 0))) (hr : Kd.C (Kd.int .i64) w A1 l1.length l1) (hl : l1.length ≤ 2147483647) (hx : ∀ i : Nat, i < l1.length → 0 ≤ rd l1 i ∧ rd l1 i < n) :
    Calls Tryd.prog 14 #[.slice A1 l1.length c1, .func (.func 11) #[] #[.pointer (some ⟨gB, 0, none⟩)]] w fun e w' => e = .returned (.bool false) ∧ Below w.heap.size w w' := by
  have H := Lib.hid (Index2.calls gB A A1 n c c1 l1 w hB hr hl hx)
  clear hB hr hl hx
  go_enter Tryd.func14, Tryd.ntmps14
  go_wp2_with (first | (go_at_call 20; (with_reducible refine H.out.mono ?_); rintro e w2 ⟨rfl, hb⟩; have HW2 := Lib.hid hb; clear hb))
  go_ret
  exact ⟨rfl, HW2.out⟩
/-- Pairs of numbers: their kind. -/
def encP (p : Int × Int) : List Value := [.int .i64 p.1, .int .i64 p.2]
theorem encP_one (x : Int × Int) : ∀ u ∈ encP x, u.oneCell' = true := by
  intro u hu
  simp only [encP, List.mem_cons, List.not_mem_nil, or_false] at hu
  rcases hu with rfl | rfl <;> rfl
def kP : Kd (Int × Int) := flat 2 encP (fun _ => rfl) encP_one
def rdP (ps : List (Int × Int)) (i : Int) : Int × Int := ps.getD i.toNat (0, 0)
theorem at_P {w : World} {A : Option Addr} {n : Nat} {ps : List (Int × Int)} (h : Kd.C kP w A n ps) (i : Nat) (h1 : i < n) : ∃ ad, A = some ad ∧ w.cell? (ad.add (i * 2)) = some (.int .i64 (rdP ps i).1) ∧ w.cell? ⟨(ad.add (i * 2)).block, (ad.add (i * 2)).off + 1, none⟩ = some (.int .i64 (rdP ps i).2) := by
  obtain ⟨ad, c, e, _, hK, hc0⟩ := Kd.C_get h (0, 0) (i : Int) (by omega) (by omega)
  have hc : ∀ j u, c[j]? = some u → w.cell? (ad.add ((i : Int).toNat * 2 + j)) = some u := hc0
  have hK' : c = encP (rdP ps i) := hK
  subst hK'
  rw [Int.toNat_natCast] at hc
  exact ⟨ad, e, hc 0 _ rfl, by rw [← add_field _ _ 1 (by omega)]; exact hc 1 _ rfl⟩
set_option maxHeartbeats 4000000 in
set_option maxRecDepth 100000 in
theorem Both.calls (gB gF : Nat) (A : Option Addr) (n c : Nat) (x y : Int) (w : World) (hB : w.heap[gB]? = some (.cells #[.slice A n c] 22 (0, 0))) (hF : w.heap[gF]? = some (.cells #[.func (.func 11) #[] #[.pointer (some ⟨gB, 0, none⟩)]] 38 (0, 0))) (hx : 0 ≤ x ∧ x < n) (hy : 0 ≤ y ∧ y < n) :
    Calls Tryd.prog 13 #[.agg #[.int .i64 x, .int .i64 y], .pointer (some ⟨gF, 0, none⟩)] w fun e w' => e = .returned (.bool false) ∧ Below w.heap.size w w' := by
  have hb := below_alloc (Below.refl w.heap.size w) (.cells #[.int .i64 x, .int .i64 y] 37 (0, 0))
  have hx2 := heap_alloc_new w (.cells #[.int .i64 x, .int .i64 y] 37 (0, 0))
  generalize hWW : w.alloc _ = W at hb hx2
  have HWW := Lib.hid hWW
  have HW := Lib.hid hb
  have HX := Lib.hid hx2
  have HB := Lib.hid ((hb.block gB (blk_lt hB)).trans hB)
  have HF := Lib.hid ((hb.block gF (blk_lt hF)).trans hF)
  have H1 := Lib.hid hx
  have H2 := Lib.hid hy
  clear hWW hb hx2 hB hF hx hy
  go_enter Tryd.func13, Tryd.ntmps13
  go_upto_region 1 with (fail)
  rw [HWW.out]
  have x0 := (blk_cell HX.out 0).trans rfl
  have x1 := (blk_cell HX.out 1).trans rfl
  have y0 := (blk_cell HF.out 0).trans rfl
  go_wp2_with (first | (go_at_call 11; (with_reducible refine (Out.calls gB A n c x W HB.out H1.out.1 H1.out.2).mono ?_); rintro e w2 ⟨rfl, hb⟩; have HB2 := Lib.hid ((hb.block gB (blk_lt HB.out)).trans HB.out); have z1 := (blk_cell ((hb.block _ (blk_lt HX.out)).trans HX.out) 1).trans rfl; have z0 := (blk_cell ((hb.block _ (blk_lt HF.out)).trans HF.out) 0).trans rfl; have HW2 := Lib.hid (HW.out.trans (hb.mono HW.out.size)); clear hb) | (go_at_call 11; (with_reducible refine (Out.calls gB A n c y w2 HB2.out H2.out.1 H2.out.2).mono ?_); rintro e w3 ⟨rfl, hb⟩; have HW3 := Lib.hid (HW2.out.trans (hb.mono HW2.out.size)); clear hb))
  go_ret
  exact ⟨rfl, HW3.out⟩
set_option maxHeartbeats 4000000 in
set_option maxRecDepth 100000 in
theorem Index1.calls (gB gF : Nat) (A A1 : Option Addr) (n c c1 : Nat) (ps : List (Int × Int)) (w : World) (hB : w.heap[gB]? = some (.cells #[.slice A n c] 22 (0, 0))) (hF : w.heap[gF]? = some (.cells #[.func (.func 11) #[] #[.pointer (some ⟨gB, 0, none⟩)]] 38 (0, 0))) (hr : Kd.C kP w A1 ps.length ps) (hl : ps.length ≤ 2147483647) (hx : ∀ i : Nat, i < ps.length → (0 ≤ (rdP ps i).1 ∧ (rdP ps i).1 < n) ∧ (0 ≤ (rdP ps i).2 ∧ (rdP ps i).2 < n)) :
    Calls Tryd.prog 19 #[.slice A1 ps.length c1, .func (.func 13) #[] #[.pointer (some ⟨gF, 0, none⟩)]] w fun e w' => e = .returned (.int .i64 (-1)) ∧ Below w.heap.size w w' := by
  have HB := Lib.hid hB
  have HFF := Lib.hid hF
  have HR := Lib.hid hr
  have HX := Lib.hid hx
  have HL := Lib.hid hl
  clear hB hF hr hx hl
  go_enter Tryd.func19, Tryd.ntmps19
  go_wp2
  go_loopw [8] (fun v8 wr => ∃ (i : Nat), v8 = .int .i64 (i : Int) ∧ i ≤ ps.length ∧ Hid (Below w.heap.size w wr)) (fun v8 _ => ps.length - (intOf v8).toNat)
  case atStart => exact ⟨0, rfl, Nat.zero_le _, Lib.hid (Below.refl _ _)⟩
  obtain ⟨i, rfl, hi, HF⟩ := hrel
  by_cases hlt : i < ps.length
  · have p1 : (0 : Int) ≤ (i : Int) := by omega
    have q1 : (i : Int) < (ps.length : Int) := by omega
    have d1 : decide ((i : Int) < (ps.length : Int)) = true := decide_eq_true q1
    have d2 : decide (i < ps.length) = true := decide_eq_true hlt
    have hw : wrap64 ((i : Int) + 1) = ((i + 1 : Nat) : Int) := by have := HL.out; unfold wrap64; omega
    obtain ⟨ad, e1, x0, x1⟩ := at_P HR.out i hlt
    cases e1
    replace x0 := (HF.out.cell (World.block_lt_of_cell? w _ x0)).trans x0
    replace x1 := (HF.out.cell (World.block_lt_of_cell? w _ x1)).trans x1
    have HM := Lib.hid hlt
    have HXi := Lib.hid (HX.out i hlt)
    have HB2 := Lib.hid ((HF.out.block gB (blk_lt HB.out)).trans HB.out)
    have HF2 := Lib.hid ((HF.out.block gF (blk_lt HFF.out)).trans HFF.out)
    clear hi hlt
    replace p1 := eq_true p1
    replace q1 := eq_true q1
    go_wp2_with (first | (go_at_call 13; (with_reducible refine (Both.calls gB gF A n c (rdP ps i).1 (rdP ps i).2 wr HB2.out HF2.out HXi.out.1 HXi.out.2).mono ?_); rintro e w2 ⟨rfl, hb⟩; have HW2 := Lib.hid (HF.out.trans (hb.mono HF.out.size)); clear hb))
    go_roundw
    case rel => exact ⟨i + 1, by rw [hw], HM.out, HW2⟩
    case measure =>
      rw [hw]
      have hm := HM.out
      show ps.length - ((i + 1 : Nat) : Int).toNat < ps.length - ((i : Int)).toNat
      rw [Int.toNat_natCast, Int.toNat_natCast]
      omega
  · have d1 : decide ((i : Int) < (ps.length : Int)) = false := decide_eq_false (by omega)
    have d2 : decide (i < ps.length) = false := decide_eq_false hlt
    clear hi hlt
    go_wp2
    go_ret
    exact ⟨rfl, HF.out⟩
set_option maxHeartbeats 4000000 in
set_option maxRecDepth 100000 in
theorem Contains1.calls (gB gF : Nat) (A A1 : Option Addr) (n c c1 : Nat) (ps : List (Int × Int)) (w : World) (hB : w.heap[gB]? = some (.cells #[.slice A n c] 22 (0, 0))) (hF : w.heap[gF]? = some (.cells #[.func (.func 11) #[] #[.pointer (some ⟨gB, 0, none⟩)]] 38 (0, 0))) (hr : Kd.C kP w A1 ps.length ps) (hl : ps.length ≤ 2147483647) (hx : ∀ i : Nat, i < ps.length → (0 ≤ (rdP ps i).1 ∧ (rdP ps i).1 < n) ∧ (0 ≤ (rdP ps i).2 ∧ (rdP ps i).2 < n)) :
    Calls Tryd.prog 12 #[.slice A1 ps.length c1, .func (.func 13) #[] #[.pointer (some ⟨gF, 0, none⟩)]] w fun e w' => e = .returned (.bool false) ∧ Below w.heap.size w w' := by
  have H := Lib.hid (Index1.calls gB gF A A1 n c c1 ps w hB hF hr hl hx)
  clear hB hF hr hl hx
  go_enter Tryd.func12, Tryd.ntmps12
  go_wp2_with (first | (go_at_call 19; (with_reducible refine H.out.mono ?_); rintro e w2 ⟨rfl, hb⟩; have HW2 := Lib.hid hb; clear hb))
  go_ret
  exact ⟨rfl, HW2.out⟩
end Go.Proofs.YtfjfacgbambbdaaDoor
