/- The contract of impl.Scan (with ast.CharFreq.Scan and impl.counts, which it calls): the histogram of 64 counts, each sign of the text counted. -/
import Derived.Test.YtkdinhbfidckdaaRProg
import Derived.Test.YtkdinhbfidckdaaRWWords
import Derived.WalkKit
import Derived.Below
import Derived.KernelRfl
import Derived.Laws.Rows
import Derived.Laws.CopyOwn
import Derived.Laws.IdiomCopy
import Derived.Laws.AppendOwn
import Derived.Laws.OwnMore
import Derived.Deep.OwnRows
import Derived.LoopTactic
import Derived.RegionTactic
import Derived.Deep.QuietTactic
import Derived.BigQuiet
import Derived.BigRegion
import Derived.Deep.LoopGhost
import Derived.Outline
import Derived.Lib.Hide
namespace Go.Proofs.YtkdinhbfidckdaaR
open Go.RowKit Go.Proofs.YtkdinhbfidckdaaRW.PrintWords

theorem info62 : (Try.prog.info? 62).map (·.size) = some 64 := by kernel_rfl
theorem info63 : (Try.prog.info? 63).map (·.size) = some 64 := by kernel_rfl
theorem info21 : (Try.prog.info? 21).map (·.size) = some 1 := by kernel_rfl

theorem nums_one (k : IntKind) (xs : List Int) : ∀ v ∈ nums k xs, v.oneCell' = true := by
  intro v hv
  obtain ⟨x, _, rfl⟩ := List.mem_map.1 hv
  rfl
theorem nums_length (k : IntKind) (xs : List Int) : (nums k xs).length = xs.length := by simp [nums]
theorem splice_all (L cs : List Value) (h : L.length = cs.length) : splice L 0 cs = cs := by
  unfold splice
  rw [List.drop_eq_nil_of_le (by omega)]
  simp
theorem nums_get {k : IntKind} {xs : List Int} {j : Nat} {v : Value} (h : (nums k xs)[j]? = some v) : ∃ hj : j < xs.length, v = .int k xs[j] := by
  unfold nums at h
  rw [List.getElem?_map] at h
  obtain ⟨x, hx, rfl⟩ := Option.map_eq_some_iff.1 h
  obtain ⟨hj, rfl⟩ := List.getElem?_eq_some_iff.1 hx
  exact ⟨hj, rfl⟩
theorem nums_src {w : World} {k : IntKind} {A : Option Addr} {xs : List Int} (h : Kd.C (Kd.int k) w A xs.length xs) (hp : 0 < xs.length) : ∃ ad, A = some ad ∧ ∀ j v, (nums k xs)[j]? = some v → w.cell? (ad.add j) = some v := by
  obtain ⟨ad, rfl, _⟩ := Kd.at_int h 0 (by omega) (by omega)
  refine ⟨ad, rfl, fun j v hv => ?_⟩
  obtain ⟨hj, rfl⟩ := nums_get hv
  obtain ⟨ad', e, hc⟩ := Kd.at_int h (j : Int) (by omega) (by omega)
  injection e with e
  subst e
  rw [Int.toNat_natCast] at hc
  rw [hc]
  unfold rd
  rw [Int.toNat_natCast, List.getD_eq_getElem?_getD, List.getElem?_eq_getElem hj]
  rfl

theorem nums_pos {w : World} {k : IntKind} {A : Option Addr} {xs : List Int} {p : Option Addr} (h : Kd.C (Kd.int k) w A xs.length xs) : 0 < (nums k xs).length → p = p ∧ ∃ ad, A = some ad ∧ ∀ j v, (nums k xs)[j]? = some v → w.cell? (ad.add j) = some v :=
  fun hp => ⟨rfl, nums_src h (by rwa [nums_length] at hp)⟩

set_option maxRecDepth 100000 in
theorem counts_calls (A0 : Option Addr) (c0 : Nat) (l0 : List Int) (w : World) (hr0 : Kd.C (Kd.int .i32) w A0 l0.length l0) (_hc0 : l0.length ≤ c0) (h64 : l0.length = 64) :
    Calls Try.prog 36 #[.slice A0 l0.length c0] w fun e w' => e = .returned (.agg (nums .i32 l0).toArray) ∧ Below w.heap.size w w' := by
  have H64 := Lib.hid h64
  have HR := Lib.hid hr0
  clear h64 hr0
  obtain ⟨Z, HZ⟩ : ∃ Z : List Value, Hid (Z = List.replicate 64 (.int .i32 0)) := ⟨_, Lib.hid rfl⟩
  go_enter Try.func36, Try.ntmps36
  go_wp2_with (first
    | (with_reducible (refine wpList_copy_splice rfl (.tmp 4) (.tmp 5) 31 31 rfl 21 Try.underlying31 info21 _ _ _ _ _ _ rfl rfl (w.heap.size + 1) 0 Z 63 ?hg (nums .i32 l0) ?hn ?hpos ?hfit ?h1 (w.heap.size + 1) _ (Below.refl _ _) (Nat.le_refl _) ?_)
       (case hg => rw [HZ.out]; exact heap_alloc2_new w _ _)
       (case hn => rw [nums_length, H64.out]; rfl)
       (case hpos => exact nums_pos (Kd.C_alloc (Kd.C_alloc HR.out _) _))
       (case hfit => rw [nums_length, H64.out, HZ.out]; simp)
       (case h1 => exact nums_one _ _)
       intro w2 HG2 hB2
       have HL : Hid (w2.heap[w.heap.size + 1]? = some (.cells (nums .i32 l0).toArray 63 (0, 0))) := by
         have := HG2.out
         rw [splice_all _ _ (by rw [HZ.out, nums_length, H64.out]; simp)] at this
         exact this
       have HO : Hid (∃ cs : Array Value, cs.size = 64 ∧ w2.heap[w.heap.size]? = some (.cells cs 63 (0, 0))) := ⟨_, rfl, (hB2.block _ (by omega)).trans (heap_alloc2_old w _ _)⟩
       have HB : Hid (Below w.heap.size w w2) := (((Below.refl w.heap.size w).alloc (Nat.le_refl _) _).alloc (by simp) _).trans (hB2.mono (by omega))
       clear HG2 hB2)
    | (refine wpList_load_row rfl 63 (.tmp 3) rfl (w.heap.size + 1) rfl 63 (nums .i32 l0).toArray (0, 0) _ ?lg Try.underlying63 rfl ?li ?_
       (case lg => exact HL.out)
       (case li => rw [info63]; simp [nums, H64.out]))
    | (refine wpList_store_row rfl 63 (.tmp 2) (.tmp 7) rfl w.heap.size (nums .i32 l0).toArray rfl rfl 63 (HO.out).choose ?sg ?si ?so ?s1 ?_
       (case sg => exact (HO.out).choose_spec.2)
       (case si => rw [info63]; simp [nums, H64.out])
       (case so => rw [(HO.out).choose_spec.1]; simp [nums, H64.out])
       (case s1 => exact Array.all_eq_true_iff_forall_mem.2 (fun v hv => nums_one .i32 l0 v (by simpa using hv)))))
  refine bodyPost_ret (v := .agg (nums .i32 l0).toArray) ?_ rfl ⟨rfl, ?_⟩
  · refine results_cell_row rfl _ _ w.heap.size 63 (nums .i32 l0).toArray (0, 0) _ rfl ?_ Try.underlying63 rfl ?_
    · exact setRow_heap _ _ _ _ _ _ (HO.out).choose_spec.2
    · rw [info63]; simp [nums, H64.out]
  · exact below_setRow HB.out (Nat.le_refl _) _

/-- The count that a byte raises. -/
def slotOf (c : Nat) : Option Nat :=
  if 97 ≤ c ∧ c ≤ 122 then some (c - 97) else if 65 ≤ c ∧ c ≤ 90 then some (c - 39) else if 48 ≤ c ∧ c ≤ 57 then some (c + 4) else if c = 95 then some 62 else if c = 36 then some 63 else none
def bump (d : Int) (xs : List Int) (c : UInt8) : List Int := match slotOf c.toNat with
  | some j => xs.set j (wrap32 (rd xs j + d))
  | none => xs
theorem bump_none {d : Int} {xs : List Int} {c : UInt8} (h : slotOf c.toNat = none) : bump d xs c = xs := by unfold bump; rw [h]
theorem bump_some {d : Int} {xs : List Int} {c : UInt8} {j : Nat} (h : slotOf c.toNat = some j) : bump d xs c = xs.set j (wrap32 (rd xs j + d)) := by unfold bump; rw [h]
/-- What scanning a text makes of the counts. -/
def scanned (xs : List Int) (s : ByteArray) (d : Int) : List Int := if d = 0 then xs else s.data.toList.foldl (bump d) xs
theorem bump_length (d : Int) (xs : List Int) (c : UInt8) : (bump d xs c).length = xs.length := by
  unfold bump; split <;> simp
theorem take_bump (s : ByteArray) (xs : List Int) (d : Int) (k : Nat) (h : k < s.size) :
    (s.data.toList.take (k + 1)).foldl (bump d) xs = bump d ((s.data.toList.take k).foldl (bump d) xs) s[k] := by
  rw [List.take_succ_eq_append_getElem (by simpa using h), List.foldl_append]; rfl
theorem fold_length (d : Int) (l : List UInt8) : ∀ xs : List Int, (l.foldl (bump d) xs).length = xs.length := by
  induction l with
  | nil => intro xs; rfl
  | cons c l ih => intro xs; rw [List.foldl_cons, ih, bump_length]
theorem cell_nums {w : World} {g : Nat} {t : TypeId} {xs : List Int} (h : w.heap[g]? = some (.cells (nums .i32 xs).toArray t (0, 0))) (j : Nat) (hj : j < xs.length) :
    w.cell? ⟨g, j, none⟩ = some (.int .i32 (rd xs (j : Int))) ∧ w.frozen? ⟨g, j, none⟩ = false := by
  refine ⟨?_, frozen_of_row _ _ _ _ _ h⟩
  rw [cell_of_row _ _ _ _ _ _ h]
  simp [nums, rd, List.getD_eq_getElem?_getD, List.getElem?_eq_getElem hj]
theorem set_nums {w : World} {g : Nat} {t : TypeId} {xs : List Int} (h : w.heap[g]? = some (.cells (nums .i32 xs).toArray t (0, 0))) (j : Nat) (x : Int) :
    (w.setCell ⟨g, j, none⟩ (.int .i32 x)).heap[g]? = some (.cells (nums .i32 (xs.set j x)).toArray t (0, 0)) := by
  rw [heap_setCell_same w g j _ t _ h]
  simp [nums]

theorem grown_put {w wr : World} {g : Nat} (h : w.grownBy wr (some g)) (j : Nat) (v : Value) : w.grownBy (wr.setCell ⟨g, j, none⟩ v).drew (some g) :=
  ⟨h.os, h.tape, h.output, by simpa [World.setCell] using h.size, fun i hi hne => (heap_setCell_other wr ⟨g, j, none⟩ i v (fun e => hne (by rw [e]))).trans (h.block i hi hne)⟩
theorem classes (c : Nat) : (slotOf c = none ∧ (c ≤ 35 ∨ (37 ≤ c ∧ c ≤ 47) ∨ (58 ≤ c ∧ c ≤ 64) ∨ (91 ≤ c ∧ c ≤ 94) ∨ (96 ≤ c ∧ c ≤ 96) ∨ 123 ≤ c)) ∨
    (∃ j, slotOf c = some j ∧ j < 64 ∧ ((97 ≤ c ∧ c ≤ 122 ∧ j = c - 97) ∨ (65 ≤ c ∧ c ≤ 90 ∧ j = c - 39) ∨ (48 ≤ c ∧ c ≤ 57 ∧ j = c + 4) ∨ (c = 95 ∧ j = 62) ∨ (c = 36 ∧ j = 63))) := by
  unfold slotOf
  by_cases h1 : 97 ≤ c ∧ c ≤ 122
  · rw [if_pos h1]; exact .inr ⟨_, rfl, by omega, by omega⟩
  rw [if_neg h1]
  by_cases h2 : 65 ≤ c ∧ c ≤ 90
  · rw [if_pos h2]; exact .inr ⟨_, rfl, by omega, by omega⟩
  rw [if_neg h2]
  by_cases h3 : 48 ≤ c ∧ c ≤ 57
  · rw [if_pos h3]; exact .inr ⟨_, rfl, by omega, by omega⟩
  rw [if_neg h3]
  by_cases h4 : c = 95
  · rw [if_pos h4]; exact .inr ⟨_, rfl, by omega, by omega⟩
  rw [if_neg h4]
  by_cases h5 : c = 36
  · rw [if_pos h5]; exact .inr ⟨_, rfl, by omega, by omega⟩
  rw [if_neg h5]; exact .inl ⟨rfl, by omega⟩

set_option maxHeartbeats 1000000 in
set_option maxRecDepth 100000 in
theorem scan_calls (g : Nat) (xs : List Int) (s : ByteArray) (d : Int) (w : World) (hg : w.heap[g]? = some (.cells (nums .i32 xs).toArray 63 (0, 0))) (h64 : xs.length = 64) (hs : s.size ≤ 140737488351232) :
    Calls Try.prog 37 #[.pointer (some ⟨g, 0, none⟩), .string s, .int .i32 d] w fun e w' => e = .returned (.tuple #[]) ∧ w'.heap[g]? = some (.cells (nums .i32 (scanned xs s d)).toArray 63 (0, 0)) ∧ w.grownBy w' (some g) := by
  have HG := Lib.hid hg
  have H64 := Lib.hid h64
  clear hg h64
  by_cases hd : d = 0
  · have hdb : (d == 0) = true := by simp [hd]
    have HD := Lib.hid hd
    clear hd
    go_enter Try.func37, Try.ntmps37
    go_wp2
    refine bodyPost_ret (results_none rfl _ _ _) rfl ⟨rfl, ?_, World.grownBy.refl w _⟩
    unfold scanned
    rw [if_pos HD.out]
    exact HG.out
  · have hdb : (d == 0) = false := by simp [hd]
    have HD := Lib.hid hd
    clear hd
    go_enter Try.func37, Try.ntmps37
    go_wp2
    go_loopw [6] (fun i wr => ∃ k : Nat, k ≤ s.size ∧ i = .int .i64 k ∧ Hid (wr.heap[g]? = some (.cells (nums .i32 ((s.data.toList.take k).foldl (bump d) xs)).toArray 63 (0, 0))) ∧ w.grownBy wr (some g)) (fun i _ => s.size - (intOf i).toNat)
    case atStart => exact ⟨0, Nat.zero_le _, rfl, HG, World.grownBy.refl w _⟩
    case round =>
      obtain ⟨k, hk, rfl, HK, hgr⟩ := hrel
      by_cases hlt : k < s.size
      · have HT := Lib.hid (take_bump s xs d k hlt)
        have HL := Lib.hid (fold_length d (s.data.toList.take k) xs)
        obtain ⟨ys, HY⟩ : ∃ ys, Hid (ys = (s.data.toList.take k).foldl (bump d) xs) := ⟨_, Lib.hid rfl⟩
        have HK' : Hid (wr.heap[g]? = some (.cells (nums .i32 ys).toArray 63 (0, 0))) := by rw [HY.out]; exact HK.out
        have HL' : Hid (ys.length = 64) := by rw [HY.out]; exact HL.out.trans H64.out
        have hcl := classes s[k].toNat
        rcases hcl with ⟨hc, h1⟩ | ⟨j, hc, hj, h1⟩
        · have HN := Lib.hid (HT.out.trans (bump_none hc))
          clear hc
          rcases h1 with h1 | ⟨h1, h2⟩ | ⟨h1, h2⟩ | ⟨h1, h2⟩ | ⟨h1, h2⟩ | h1
          all_goals
            go_wp2
            go_roundw
            case rel => exact ⟨k + 1, by omega, by go_num, by rw [HN.out]; exact HK, hgr⟩
            case measure => simp [intOf]; omega
        · have HN : Hid ((s.data.toList.take (k + 1)).foldl (bump d) xs = ys.set j (wrap32 (rd ys j + d))) := Lib.hid (by rw [HT.out, bump_some hc, HY.out])
          have hcf := cell_nums HK'.out j (by rw [HL'.out]; exact hj)
          have HS : Hid (∀ x, (wr.setCell ⟨g, j, none⟩ (.int .i32 x)).heap[g]? = some (.cells (nums .i32 (ys.set j x)).toArray 63 (0, 0))) := fun x => set_nums HK'.out j x
          clear hc HT HL
          obtain ⟨hcell, hfro⟩ := hcf
          rcases h1 with ⟨h1, h2, rfl⟩ | ⟨h1, h2, rfl⟩ | ⟨h1, h2, rfl⟩ | ⟨h1, rfl⟩ | ⟨h1, rfl⟩
          all_goals
            go_wp2
            go_region
            go_wp2
            go_roundw
            case rel => exact ⟨k + 1, by omega, by go_num, Lib.hid (by rw [HN.out]; exact HS.out _), grown_put hgr _ _⟩
            case measure => simp [intOf]; omega
      · go_wp2
        go_end0
        refine ⟨rfl, ?_, hgr⟩
        have e : s.data.toList.take k = s.data.toList := List.take_of_length_le (by simp; omega)
        have h := HK.out
        rw [e] at h
        unfold scanned
        rw [if_neg HD.out]
        exact h

theorem info21b : (Try.prog.info? 21).map (fun i => (i.zero, i.size, i.bytes)) = some (some (.int .i32 0), 1, 4) := by kernel_rfl
theorem scanned_length {xs : List Int} {s : ByteArray} {d : Int} (h : xs.length = 64) : (scanned xs s d).length = 64 := by
  unfold scanned; split
  · exact h
  · rw [fold_length]; exact h
theorem C_of_blk {w : World} {g : Nat} {t : TypeId} {xs : List Int} {n : Nat} (h : w.heap[g]? = some (.cells (nums .i32 xs).toArray t (0, 0))) (hn : xs.length = n) (hm : n ≤ 9223372036854775807 := by omega) :
    Kd.C (Kd.int .i32) w (some ⟨g, 0, none⟩) n xs := by
  subst hn
  refine ⟨rfl, hm, fun _ => ⟨_, rfl, fun j p hp => ⟨[.int .i32 p], rfl, rfl, fun i u hu => ?_⟩⟩⟩
  obtain ⟨hj, rfl⟩ := List.getElem?_eq_some_iff.1 hp
  have hi : i = 0 := by
    have := (List.getElem?_eq_some_iff.1 hu).1
    simpa using this
  subst hi
  simp at hu
  subst hu
  have e : (⟨g, 0, none⟩ : Addr).add (j * (Kd.int .i32).sz + 0) = ⟨g, j, none⟩ := by
    have : (Kd.int .i32).sz = 1 := rfl
    rw [this]
    unfold Addr.add
    split <;> simp_all
  rw [e, (cell_nums h j hj).1]
  simp [rd, List.getD_eq_getElem?_getD, List.getElem?_eq_getElem hj]
theorem scan_size {w1 w2 : World} {o : Obj} {cs : Array Value} (h : World.grownBy ((w1.alloc o).setRow w1.heap.size cs) w2 (some w1.heap.size)) : w1.heap.size < w2.heap.size := by
  have := h.size
  rw [size_setRow] at this
  have e : (w1.alloc o).heap.size = w1.heap.size + 1 := by show (w1.heap.push o).size = _; simp
  omega
theorem below_of_grown {w1 w2 : World} {o : Obj} {cs : Array Value} {B : Nat} (hB : B ≤ w1.heap.size) (h : World.grownBy ((w1.alloc o).setRow w1.heap.size cs) w2 (some w1.heap.size)) : Below B w1 w2 := by
  have h1 : Below B w1 ((w1.alloc o).setRow w1.heap.size cs) := below_setRow ((Below.refl _ _).alloc hB o) hB _
  exact h1.grown h (Nat.le_trans hB h1.size) (fun k hk => by injection hk with hk; omega)

def impl_Scan.f (l0 : List Int) (a1 : ByteArray) (a2 : Int) : Option (List Int) := if l0.length = 64 ∧ a1.size ≤ 140737488351232 then some (scanned l0 a1 a2) else none

set_option maxRecDepth 100000 in
theorem impl_Scan.calls (A0 : Option Addr) (c0 : Nat) (l0 : List Int) (a1 : ByteArray) (a2 : Int) (r : List Int) (w : World) (hr0 : Kd.C (Kd.int .i32) w A0 l0.length l0) (hc0 : l0.length ≤ c0) (h : impl_Scan.f l0 a1 a2 = some r) :
    Calls Try.prog 20 #[.slice A0 l0.length c0, .string a1, .int .i32 a2] w fun e w' => ∃ v0_ : Value, e = .returned v0_ ∧ Kd.R (Kd.int .i32) 21 w' w.heap.size (fun _ => True) v0_ r ∧ Below w.heap.size w w' := by
  unfold impl_Scan.f at h
  split at h
  case isFalse => cases h
  rename_i hs
  obtain rfl := Option.some.inj h
  obtain ⟨h64, hs⟩ := hs
  have H64 := Lib.hid h64
  have HR := Lib.hid hr0
  clear h h64 hr0
  go_enter Try.func20, Try.ntmps20
  go_wp2_with (first
    | (go_at_call 36; (with_reducible refine (counts_calls _ _ l0 _ HR.out hc0 H64.out).mono ?_); rintro e w1 ⟨rfl, hb1⟩; have HB1 := Lib.hid hb1; clear hb1)
    | ((refine wpList_store_row rfl 63 (.tmp 7) (.tmp 9) rfl w1.heap.size (nums .i32 l0).toArray rfl rfl 63 (nums .i32 (List.replicate 64 0)).toArray ?sg ?si ?so ?s1 ?_)
       (case sg => exact heap_alloc_new w1 _)
       (case si => rw [info63]; simp [nums, H64.out])
       (case so => simp [nums, H64.out])
       (case s1 => exact Array.all_eq_true_iff_forall_mem.2 (fun v hv => nums_one .i32 l0 v (by simpa using hv))))
    | (go_at_call 37; (refine (scan_calls w1.heap.size l0 a1 a2 _ (by exact setRow_heap _ _ _ _ _ _ (heap_alloc_new w1 _)) H64.out hs).mono ?_); rintro e w2 ⟨rfl, hg2, hgr2⟩; have HG2 := Lib.hid hg2; have HGR2 := Lib.hid hgr2; clear hg2 hgr2)
    | ((with_reducible refine gate_dst (N := 13) rfl ?_); refine Kd.R_lit (Kd.int .i32) (w0 := w2) w2.heap.size 21 ?hg (N := 13) ?hd (xs := ([] : List Int)) (inner := []) (ok := fun _ => True) (okp := fun _ => True) ?hr ?hp (fun _ hk => hk) trivial (Below.refl _ _) (Nat.le_refl _) (by simp) ?_; (case hd => rfl); (case hg => rfl); (case hr => first | (go_simp; done) | (go_simp; rfl)); (case hp => exact Reps.none _ _); intro v13 w3 ho hb hg_ hnew_; have HO := Lib.hid ho; have HB3 := Lib.hid hb; clear ho hb hg_ hnew_)
    | (refine Kd.R_append_rows (Kd.int .i32) (w0 := w2) w2.heap.size rfl (.tmp 13) (.tmp 14) 31 21 (.int .i32 0) 4 rfl Try.underlying31 info21b rfl (by decide) (by omega) v13 [] (scanned l0 a1 a2) (some ⟨w1.heap.size, 0, none⟩) 64 64 (fun _ => True) (fun _ => False) rfl rfl ?aO ?aR (fun _ _ h => h) (fun _ h => h.elim) ?aF ?aB ?aS ?aL ?_
       (case aO => exact HO.out)
       (case aR => exact C_of_blk ((HB3.out.block _ (scan_size HGR2.out)).trans HG2.out) (scanned_length H64.out))
       (case aF => exact fun _ _ => trivial)
       (case aB => exact HB3.out)
       (case aS => exact HB3.out.size)
       (case aL => simp)
       intro v15 w4 ho4 hb4 hg4 hat4; have HO4 := Lib.hid ho4; have HB4 := Lib.hid hb4; clear ho4 hb4 hg4 hat4))
  go_ret
  have hsz := HGR2.out.size
  have hsz' : w1.heap.size < w2.heap.size := scan_size HGR2.out
  have hs1 := HB1.out.size
  refine ⟨_, rfl, Kd.R_lower HO4.out (by omega), HB1.out.trans (Below.trans ?_ (HB4.out.mono (by omega)))⟩
  exact below_of_grown hs1 HGR2.out
end Go.Proofs.YtkdinhbfidckdaaR
