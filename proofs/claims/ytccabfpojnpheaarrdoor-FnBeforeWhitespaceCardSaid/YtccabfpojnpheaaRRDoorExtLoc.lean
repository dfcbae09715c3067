/- The contract of the source location walk (func 31): the place before the blanks, tabs and line ends that stand before a place. -/
import Derived.Test.YtccabfpojnpheaaRRDoorProg
import Derived.Test.YtccabfpojnpheaaRRDoorExtUtf8
import Derived.Test.YtccabfpojnpheaaRRDoorPwithinx1
import Derived.WalkKit
import Derived.KernelRfl
import Derived.Below
import Derived.LoopTactic
import Derived.RegionTactic
import Derived.BigRegion
import Derived.Deep.RegionWith
import Derived.Deep.QuietTactic
import Derived.BigQuiet
import Derived.Outline
import Derived.Lib.Hide
import Derived.Laws.Rows
import Derived.Lib.SpaceU
import Derived.Lib.TrimUEq
import Derived.Laws.RangeAny
namespace Go.Proofs.YtccabfpojnpheaaRRDoor
open Go.RowKit Go.Proofs.YtccabfpojnpheaaRRDoorW.PrintWords Go.Proofs.YtccabfpojnpheaaRRDoor.Pwithin

def isBlank (c : Int) : Bool := decide (c = 32 ∨ c = 9 ∨ c = 10 ∨ c = 13)
/-- The place before the blanks that stand before place n. -/
def back (s : ByteArray) : Nat → Nat
  | 0 => 0
  | n + 1 => if isBlank (bt s (n : Int)) then back s n else n + 1
/-- What the last rune is, as far as it matters. -/
theorem last_rune (s : ByteArray) (k : Nat) (hk : k + 1 ≤ s.size) :
    (bt s (k : Int) < 128 → Lib.decodeLastL (s.extract 0 (k + 1)).data.toList = ((bt s (k : Int)).toNat, 1)) ∧ (128 ≤ bt s (k : Int) → 128 ≤ (Lib.decodeLastL (s.extract 0 (k + 1)).data.toList).1) := by
  obtain ⟨l, hl⟩ : ∃ l, l = (s.extract 0 (k + 1)).data.toList := ⟨_, rfl⟩
  have hlen : l.length = k + 1 := by
    rw [hl, Array.length_toList]
    show (s.extract 0 (k + 1)).size = _
    simp; omega
  have hne : l ≠ [] := by intro e; rw [e] at hlen; simp at hlen
  have hlast : l.getD (l.length - 1) 0 = s[k]'(by omega) := by
    rw [hlen, List.getD_eq_getElem?_getD, Nat.add_sub_cancel, List.getElem?_eq_getElem (by omega)]
    simp only [Option.getD_some, hl, Array.getElem_toList]
    show (s.extract 0 (k + 1))[k]'(by simp; omega) = _
    rw [ByteArray.getElem_extract]
    simp
  have hbt : bt s (k : Int) = ((s[k]'(by omega)).toNat : Int) := by
    unfold bt
    rw [dif_pos (by omega)]
    simp
  rw [← hl, hbt]
  unfold Lib.decodeLastL
  rw [if_neg hne, hlast]
  constructor
  · intro h
    rw [if_pos (by omega)]
    simp
  · intro h
    rw [if_neg (by omega)]
    have hls := Lib.lastStart_lt' l hne
    have hdrop : l.drop (Lib.lastStart l) ≠ [] := by
      intro e
      have := congrArg List.length e
      rw [List.length_drop] at this
      simp at this
      omega
    by_cases hq : Lib.lastStart l + (Lib.decodeL (l.drop (Lib.lastStart l))).2 = l.length
    · simp only [hq, if_true]
      by_cases hfirst : ((l.drop (Lib.lastStart l)).getD 0 0).toNat < 128
      · exfalso
        have hsz : 0 < (⟨(l.drop (Lib.lastStart l)).toArray⟩ : ByteArray).size := by
          show 0 < (l.drop (Lib.lastStart l)).toArray.size
          simp; omega
        have e0 : ((⟨(l.drop (Lib.lastStart l)).toArray⟩ : ByteArray)[0]'hsz) = (l.drop (Lib.lastStart l)).getD 0 0 := by
          show (l.drop (Lib.lastStart l)).toArray[0]'(by simp; omega) = _
          simp [List.getD_eq_getElem?_getD]
          rw [List.getElem?_eq_getElem (by omega)]
          rfl
        have hd := decode_ascii (⟨(l.drop (Lib.lastStart l)).toArray⟩ : ByteArray) 0 hsz (by rw [e0]; exact hfirst)
        have hw : (Lib.decodeL (l.drop (Lib.lastStart l))).2 = 1 := by unfold Lib.decodeL; rw [hd]
        rw [hw] at hq
        have e1 : (l.drop (Lib.lastStart l)).getD 0 0 = l.getD (l.length - 1) 0 := by
          have : Lib.lastStart l = l.length - 1 := by omega
          rw [List.getD_eq_getElem?_getD, List.getD_eq_getElem?_getD, List.getElem?_drop, this]
          simp
        rw [e1, hlast] at hfirst
        omega
      · have hsz : 0 < (⟨(l.drop (Lib.lastStart l)).toArray⟩ : ByteArray).size := by
          show 0 < (l.drop (Lib.lastStart l)).toArray.size
          simp; omega
        have e0 : ((⟨(l.drop (Lib.lastStart l)).toArray⟩ : ByteArray)[0]'hsz) = (l.drop (Lib.lastStart l)).getD 0 0 := by
          show (l.drop (Lib.lastStart l)).toArray[0]'(by simp; omega) = _
          simp [List.getD_eq_getElem?_getD]
          rw [List.getElem?_eq_getElem (by omega)]
          rfl
        exact (decode_high (⟨(l.drop (Lib.lastStart l)).toArray⟩ : ByteArray) 0 hsz (by rw [e0]; omega)).1
    · simp only [hq, if_false]
      decide

def At (w : World) (n k : Nat) (s : ByteArray) (wr : World) : Prop :=
  k ≤ n ∧ back s k = back s n ∧ Below w.heap.size w wr ∧ wr.heap[w.heap.size]? = some (.cells #[.int .i32 k] 86 (0, 0)) ∧ wr.heap[w.heap.size + 1]? = some (.cells #[.int .i32 0] 86 (0, 0))

theorem At.size {w wr : World} {n k : Nat} {s : ByteArray} (h : At w n k s wr) : w.heap.size + 1 < wr.heap.size := by
  rcases Nat.lt_or_ge (w.heap.size + 1) wr.heap.size with hlt | hge
  · exact hlt
  · have := h.2.2.2.2
    rw [Array.getElem?_eq_none hge] at this
    cases this
theorem At.next {w wr w2 : World} {n k : Nat} {s : ByteArray} (h : At w n k s wr) (hk : ¬ k = 0) (hbk : back s k = back s (k - 1)) (hb : Below wr.drew.heap.size wr.drew w2) :
    At w n (k - 1) s (w2.setCell ⟨w.heap.size, 0, none⟩ (.int .i32 ((k : Int) - 1))) := by
  have hsz := h.size
  have hb' : Below wr.heap.size wr w2 := ((Below.refl wr.heap.size wr).drew).trans hb
  have h0 := (hb'.block w.heap.size (by omega)).trans h.2.2.2.1
  have h1 := (hb'.block (w.heap.size + 1) (by omega)).trans h.2.2.2.2
  refine ⟨by have := h.1; omega, by rw [← hbk]; exact h.2.1, (h.2.2.1.trans (hb'.mono (by omega))).setCell (p := ⟨w.heap.size, 0, none⟩) (by simp) _, ?_, ?_⟩
  · rw [heap_setCell_same _ _ _ _ _ _ h0]
    have e : ((k - 1 : Nat) : Int) = (k : Int) - 1 := by omega
    rw [e]; rfl
  · rw [heap_setCell_other _ _ _ _ (by simp)]
    exact h1
theorem lower {w wr w2 : World} {n k : Nat} {s : ByteArray} (h : At w n k s wr) (hk : ¬ k = 0) (hb : Below wr.drew.heap.size wr.drew w2) :
    (match (w2.setCell ⟨w.heap.size, 0, none⟩ (.int .i32 ((k : Int) - 1))).cell? ⟨w.heap.size, 0, none⟩ with | some (.int _ k) => k.toNat | _ => 0) < (match wr.cell? ⟨w.heap.size, 0, none⟩ with | some (.int _ k) => k.toNat | _ => 0) := by
  have hsz := h.size
  have hb' : Below wr.heap.size wr w2 := ((Below.refl wr.heap.size wr).drew).trans hb
  have h0 := (hb'.block w.heap.size (by omega)).trans h.2.2.2.1
  have e1 := cell_of_row _ _ 0 _ _ _ h.2.2.2.1
  have e2 := cell_of_row _ _ 0 _ _ _ (heap_setCell_same _ _ 0 _ _ (.int .i32 ((k : Int) - 1)) h0)
  rw [e1, e2]
  show ((k : Int) - 1).toNat < ((k : Int)).toNat
  omega

set_option maxHeartbeats 1000000 in
set_option maxRecDepth 100000 in
theorem loc_calls (g : Nat) (s : ByteArray) (n : Nat) (w : World) (hc : w.cell? ⟨g, 3, none⟩ = some (.string s)) (hn : n ≤ s.size) (hs : s.size ≤ 2147483647) (hT : GTab w) :
    Calls Tryd.prog 31 #[.pointer (some ⟨g, 0, none⟩), .agg #[.int .i32 n]] w fun e w' => e = .returned (.agg #[.int .i32 (back s n)]) ∧ Below w.heap.size w w' := by
  have HC := Lib.hid hc
  have HT := Lib.hid hT
  clear hc hT
  go_enter Tryd.func31, Tryd.ntmps31
  go_wp2
  go_loopw [] (fun wr => ∃ k : Nat, Hid (At w n k s wr)) (fun wr => match wr.cell? ⟨w.heap.size, 0, none⟩ with | some (.int _ k) => k.toNat | _ => 0)
  case atStart => exact ⟨n, Lib.hid ⟨Nat.le_refl _, rfl, ((Below.refl _ _).alloc (Nat.le_refl _) _).alloc (by simp) _, heap_alloc2_old w _ _, heap_alloc2_new w _ _⟩⟩
  case round =>
    obtain ⟨k, HA⟩ := hrel
    have hb0 := cell_of_row _ _ 0 _ _ _ HA.out.2.2.2.1
    have hg : wr.cell? ⟨g, 3, none⟩ = some (.string s) := (HA.out.2.2.1.cell (block_lt_of_cell HC.out)).trans HC.out
    have hb1 := cell_of_row _ _ 0 _ _ _ HA.out.2.2.2.2
    have f0 := frozen_of_row _ _ 0 _ _ HA.out.2.2.2.1
    have f1 := frozen_of_row _ _ 0 _ _ HA.out.2.2.2.2
    simp at hb0 hb1
    have hkn := HA.out.1
    by_cases hk : k = 0
    · subst hk
      go_wp2
      refine bodyPost_ret (v := .agg #[.int .i32 0]) (by simp [results, Tryd.results31, go_sem, hb1]) rfl ⟨?_, ?_⟩
      · rw [← HA.out.2.1]; rfl
      · exact HA.out.2.2.1.setCell (p := ⟨w.heap.size + 1, 0, none⟩) (by simp) _
    · have hk0 : (0 : Int) < (k : Int) := by omega
      have hlr := last_rune s (k - 1) (by omega)
      have ek : k - 1 + 1 = k := by omega
      rw [ek] at hlr
      have hbk : back s k = if isBlank (bt s ((k - 1 : Nat) : Int)) then back s (k - 1) else k := by
        obtain ⟨m, rfl⟩ : ∃ m, k = m + 1 := ⟨k - 1, by omega⟩
        rfl
      have hX := utf8_DecodeLastRuneInString.calls (s.extract 0 k) ((Lib.decodeLastL (s.extract 0 k).data.toList).1 : Int) ((Lib.decodeLastL (s.extract 0 k).data.toList).2 : Int) wr.drew (show GTab wr.drew from (GTab.below HT.out HA.out.2.2.1 : GTab wr)) (if_pos (by simp; omega))
      generalize Lib.decodeLastL (s.extract 0 k).data.toList = rr at hX hlr
      obtain ⟨c, wd⟩ := rr
      simp only [] at hX hlr
      have hrange := bt_range s ((k - 1 : Nat) : Int)
      by_cases hbl : isBlank (bt s ((k - 1 : Nat) : Int)) = true
      · have hv : bt s ((k - 1 : Nat) : Int) = 32 ∨ bt s ((k - 1 : Nat) : Int) = 9 ∨ bt s ((k - 1 : Nat) : Int) = 10 ∨ bt s ((k - 1 : Nat) : Int) = 13 := by simpa [isBlank] using hbl
        rw [if_pos hbl] at hbk
        have HBK := Lib.hid hbk
        have hcw := hlr.1 (by omega)
        obtain ⟨rfl, rfl⟩ := Prod.mk.inj hcw
        clear hlr hbk ek hcw hbl
        have hc4 : ∃ c4 : Int, ((bt s ((k - 1 : Nat) : Int)).toNat : Int) = c4 ∧ (c4 = 32 ∨ c4 = 9 ∨ c4 = 10 ∨ c4 = 13) := ⟨_, rfl, by omega⟩
        obtain ⟨c4, e4, h4⟩ := hc4
        rw [e4] at hX
        clear e4 hv hrange
        have HX := Lib.hid hX
        clear hX
        rcases h4 with rfl | rfl | rfl | rfl
        all_goals
          go_wp2_with fail
          go_region_with (go_at_call 51; refine (HX.out).mono ?_; rintro e w2 ⟨rfl, hb⟩; have HB2 := Lib.hid hb; have g0 := (hb.cell (p := ⟨w.heap.size, 0, none⟩) (block_lt_of_cell hb0)).trans hb0; have z0 := (hb.frozen (p := ⟨w.heap.size, 0, none⟩) (block_lt_of_cell hb0)).trans f0; clear hb)
          all_goals
            go_wp2
            exact ⟨⟨k - 1, Lib.hid (HA.out.next hk HBK.out HB2.out)⟩, lower HA.out hk HB2.out⟩
      · rw [if_neg hbl] at hbk
        have HBK := Lib.hid hbk
        have hne : (c : Int) ≠ 32 ∧ (c : Int) ≠ 9 ∧ (c : Int) ≠ 10 ∧ (c : Int) ≠ 13 := by
          have hnv : ¬ (bt s ((k - 1 : Nat) : Int) = 32 ∨ bt s ((k - 1 : Nat) : Int) = 9 ∨ bt s ((k - 1 : Nat) : Int) = 10 ∨ bt s ((k - 1 : Nat) : Int) = 13) := by simpa [isBlank] using hbl
          by_cases h128 : bt s ((k - 1 : Nat) : Int) < 128
          · have := hlr.1 h128
            obtain ⟨rfl, rfl⟩ := Prod.mk.inj this
            omega
          · have := hlr.2 (by omega)
            omega
        obtain ⟨n1, n2, n3, n4⟩ := hne
        have m1 : ((c : Int) == 32) = false := by simpa using n1
        have m2 : ((c : Int) == 9) = false := by simpa using n2
        have m3 : ((c : Int) == 10) = false := by simpa using n3
        have m4 : ((c : Int) == 13) = false := by simpa using n4
        have q1 : ((c : Int) != 32) = true := by simpa using n1
        have q2 : ((c : Int) != 9) = true := by simpa using n2
        have q3 : ((c : Int) != 10) = true := by simpa using n3
        have q4 : ((c : Int) != 13) = true := by simpa using n4
        clear hlr hbk ek hbl n1 n2 n3 n4
        have HX := Lib.hid hX
        clear hX
        go_wp2_with fail
        go_region_with (go_at_call 51; refine (HX.out).mono ?_; rintro e w2 ⟨rfl, hb⟩; have HB2 := Lib.hid hb; have g0 := (hb.cell (p := ⟨w.heap.size, 0, none⟩) (block_lt_of_cell hb0)).trans hb0; have g1 := (hb.cell (p := ⟨w.heap.size + 1, 0, none⟩) (block_lt_of_cell hb1)).trans hb1; have z1 := (hb.frozen (p := ⟨w.heap.size + 1, 0, none⟩) (block_lt_of_cell hb1)).trans f1; clear hb)
        all_goals
          go_wp2
          refine bodyPost_ret (v := .agg #[.int .i32 k]) (by simp [results, Tryd.results31, go_sem, g1]) rfl ⟨?_, ?_⟩
          · rw [← HA.out.2.1, HBK.out]
          · have hb' : Below wr.heap.size wr w2 := ((Below.refl wr.heap.size wr).drew).trans HB2.out
            exact (HA.out.2.2.1.trans (hb'.mono (by have := HA.out.size; omega))).setCell (p := ⟨w.heap.size + 1, 0, none⟩) (by simp) _
end Go.Proofs.YtccabfpojnpheaaRRDoor
