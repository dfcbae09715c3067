/- The contract of js_ast.EnsureValidIdentifier: the letters and digits of a text, with _ for what stands between them. -/
import Derived.Test.YtbcljhedleemdaaProg
import Derived.Test.YtbcljhedleemdaaWWords
import Derived.Test.YtbcljhedleemdaaWMore
import Derived.OwnWalk
import Derived.WalkKit
import Derived.KernelRfl
import Derived.Below
import Derived.Laws.RangeAny
import Derived.Laws.RangeString
import Derived.Laws.Rows
import Derived.Laws.AppendOwn
import Derived.Laws.OwnMore
import Derived.Deep.OwnRows
import Derived.Lib.OthersKept
import Derived.LoopTactic
import Derived.RegionTactic
import Derived.BigRegion
import Derived.BigQuiet
import Derived.Deep.QuietTactic
import Derived.Outline
import Derived.Lib.Hide
namespace Go.Proofs.Ytbcljhedleemdaa
open Go.RowKit Go.Proofs.YtbcljhedleemdaaW.PrintWords Go.Proofs.YtbcljhedleemdaaW.PrintMore

def letter (c : Int) : Bool := decide ((97 ≤ c ∧ c ≤ 122) ∨ (65 ≤ c ∧ c ≤ 90))
def digit (c : Int) : Bool := decide (48 ≤ c ∧ c ≤ 57)
/-- What one code point makes of what was gathered. -/
def gather (st : List Int × Bool) (c : Int) : List Int × Bool :=
  if letter c = true ∨ (st.1 ≠ [] ∧ digit c = true) then ((if st.2 = true then st.1 ++ [95] else st.1) ++ [c], false)
  else if st.1 ≠ [] then (st.1, true) else st
/-- From byte i on, in at most b steps of Go's decoder. -/
def gathered (s : ByteArray) : Nat → Nat → List Int × Bool → List Int × Bool
  | 0, _, st => st
  | b + 1, i, st => if i < s.size then gathered s b (i + (Utf8.decode s i).2) (gather st ((Utf8.decode s i).1 : Int)) else st
def js_ast_EnsureValidIdentifier.f (a0 : ByteArray) : Option ByteArray :=
  if a0.size ≤ 1000000 then some (if (gathered a0 a0.size 0 ([], false)).1 = [] then ⟨#[95]⟩ else strOfNums (gathered a0 a0.size 0 ([], false)).1) else none

theorem width_pos (s : ByteArray) (pos : Nat) (h : pos < s.size) : 1 ≤ (Utf8.decode s pos).2 := by
  by_cases ha : (s[pos]'h).toNat < 128
  · rw [decode_ascii s pos h ha]
    exact Nat.le_refl _
  · exact (decode_high s pos h (by omega)).2
theorem gathered_end (s : ByteArray) (b pos : Nat) (st : List Int × Bool) (h : ¬ pos < s.size) : gathered s b pos st = st := by
  cases b with
  | zero => rfl
  | succ b => simp [gathered, h]
theorem iterPos_of {w : World} {k : Nat} {s : ByteArray} {p : Nat} (h : w.heap[k]? = some (.stringIter s p)) : w.iterPos k = p := by simp [World.iterPos, h]
theorem info5 : (Try.prog.info? 5).map (fun i => (i.zero, i.size, i.bytes)) = some (some (.int .u8 0), 1, 1) := by kernel_rfl

/-- What holds before each step: the iterator's place, the row, the gap. -/
def Gat (w : World) (s : ByteArray) (pos : Nat) (xs : List Int) (v : Value) (wr : World) : Prop :=
  wr.heap[w.heap.size + 1]? = some (.stringIter s pos) ∧ Kd.R (Kd.int .u8) 5 wr w.heap.size (fun j => j ≠ w.heap.size + 1) v xs ∧ Below w.heap.size w wr
theorem Gat.iter {w wr : World} {s : ByteArray} {pos : Nat} {xs : List Int} {v : Value} (h : Gat w s pos xs v wr) (q : Nat) : Gat w s q xs v (wr.iterAt (w.heap.size + 1) s q) :=
  ⟨Lib.iterAt_heap wr _ s pos q h.1, Kd.R_step h.2.1 (fun k hk _ => Lib.iterAt_other wr _ k s q hk), Lib.below_iterAt h.2.2 (by omega) s q⟩
theorem Gat.drewN {w wr : World} {s : ByteArray} {pos : Nat} {xs : List Int} {v : Value} (h : Gat w s pos xs v wr) (n : Nat) : Gat w s pos xs v (wr.drewN n) := ⟨h.1, Kd.R_drewN h.2.1 n, pw_below_drewN h.2.2 n⟩
theorem Gat.start (w : World) (s : ByteArray) : Gat w s 0 [] (.slice (some ⟨w.heap.size, 0, none⟩) 0 0) ((w.alloc (.cells #[] 5)).alloc (.stringIter s 0)) := by
  refine ⟨?_, Kd.R_alloc ⟨fun k hk => ?_, [], ?_, Reps.none _ _⟩ _, ((Below.refl w.heap.size w).alloc (Nat.le_refl _) _).alloc (by simp) _⟩
  · have := heap_alloc_new (w.alloc (.cells #[] 5)) (.stringIter s 0)
    simpa using this
  · have : w.heap.size = k := by simpa [Value.ownBlock] using hk
    omega
  · have h2 := World.ownsRow_lit (base := w.heap.size) (e := 5) (size := 1) w #[] 0 (Nat.le_refl _) (by simp [maxLen]) (by simp)
    have h3 : (w.alloc (.cells #[] 5)).ownsRow w.heap.size 5 1 (.slice (some ⟨w.heap.size, 0, none⟩) 0 0) 0 [] := by simpa using h2
    exact h3
theorem Gat.grown {w wr w1 : World} {s : ByteArray} {pos : Nat} {xs ys : List Int} {v v1 : Value} (h : Gat w s pos xs v wr) (hr : Kd.R (Kd.int .u8) 5 w1 w.heap.size (fun j => j ≠ w.heap.size + 1) v1 ys) (hb : Below w.heap.size w w1) (hg : wr.grownBy w1 v.ownBlock) : Gat w s pos ys v1 w1 :=
  ⟨blk_grown h.1 hg (fun e => h.2.1.1 _ e.symm rfl), hr, hb⟩
theorem Gat.lt {w wr : World} {s : ByteArray} {pos : Nat} {xs : List Int} {v : Value} (h : Gat w s pos xs v wr) : w.heap.size + 1 < wr.heap.size := blk_lt h.1

set_option maxHeartbeats 4000000 in
set_option maxRecDepth 100000 in
theorem js_ast_EnsureValidIdentifier.calls (s : ByteArray) (r : ByteArray) (w : World) (h : js_ast_EnsureValidIdentifier.f s = some r) :
    Calls Try.prog 10 #[.string s] w fun e w' => e = .returned (.string r) ∧ Below w.heap.size w w' := by
  unfold js_ast_EnsureValidIdentifier.f at h
  by_cases hs : s.size ≤ 1000000
  case neg => rw [if_neg hs] at h; cases h
  rw [if_pos hs] at h
  have HF := Lib.hid (Option.some.inj h)
  clear h
  have HS := Lib.hid hs
  obtain ⟨fin, hfin⟩ : ∃ fin, gathered s s.size 0 ([], false) = fin := ⟨_, rfl⟩
  rw [hfin] at HF
  go_enter Try.func10, Try.ntmps10
  go_wp2
  go_loopw [3, 4] (fun v3 v4 wr => ∃ (pos fuel : Nat) (xs : List Int) (gap : Bool) (A : Option Addr) (c : Nat), v3 = .slice A xs.length c ∧ v4 = .bool gap ∧ Hid (Gat w s pos xs v3 wr) ∧ Hid (gathered s fuel pos (xs, gap) = fin) ∧ Hid (s.size ≤ pos + fuel) ∧ Hid (xs.length ≤ 2 * pos)) (fun _ _ wr => s.size - wr.iterPos (w.heap.size + 1))
  case atStart => exact ⟨0, s.size, [], false, _, _, rfl, rfl, Lib.hid (Gat.start w s), Lib.hid hfin, Lib.hid (by omega), Lib.hid (by simp)⟩
  case round =>
    obtain ⟨pos, fuel, xs, gap, A, cap, rfl, rfl, HG, HC, HL, HX⟩ := hrel
    by_cases hp : pos < s.size
    · have hnx : ∀ ty, (Instr.next (.pointer (some ⟨w.heap.size + 1, 0, none⟩)) true ty).run Try.prog wr = _ := fun ty => Lib.run_next_any_at wr (w.heap.size + 1) s pos ty HG.out.1 hp
      have hwd := width_pos s pos hp
      have HPo := Lib.hid (iterPos_of HG.out.1)
      have HP := Lib.hid hp
      obtain ⟨fuel, rfl⟩ : ∃ m, fuel = m + 1 := ⟨fuel - 1, by have := HL.out; omega⟩
      have HG2 := Lib.hid (HG.out.iter (pos + (Utf8.decode s pos).2))
      have hC := HC.out
      simp only [gathered] at hC
      rw [if_pos hp] at hC
      have hr0 : (0 : Int) ≤ ((Utf8.decode s pos).1 : Int) := by omega
      obtain ⟨W1, hW1⟩ : ∃ W1, W1 = wr.iterAt (w.heap.size + 1) s (pos + (Utf8.decode s pos).2) := ⟨_, rfl⟩
      rw [← hW1] at hnx HG2
      generalize ((Utf8.decode s pos).1 : Int) = c at hnx hC hr0
      generalize (Utf8.decode s pos).2 = wd at hnx hC hwd HG2 hW1
      have HW := Lib.hid hwd
      clear hW1 HG HC hwd hp
      have hcls : (97 ≤ c ∧ c ≤ 122) ∨ (65 ≤ c ∧ c ≤ 90) ∨ (48 ≤ c ∧ c ≤ 57) ∨ (122 < c) ∨ (90 < c ∧ c < 97) ∨ (57 < c ∧ c < 65) ∨ (c < 48) := by omega
      rcases hcls with hc | hc | hc | hc | hc | hc | hc
      · have d97g : decide (c ≥ 97) = true := decide_eq_true (by omega)
        have d122l : decide (c ≤ 122) = true := decide_eq_true (by omega)
        have hL : letter c = true := by unfold letter; exact decide_eq_true (by omega)
        have hD : digit c = false := by unfold digit; exact decide_eq_false (by omega)
        have HC8 := Lib.hid (show c % 256 = c by omega)
        cases gap with
        | true =>
          replace hC : gathered s fuel (pos + wd) (xs ++ [95] ++ [c], false) = fin := by rw [← hC]; simp [gather, hL, hD]
          have HN := Lib.hid hC
          clear hC hc hr0
          go_wp2_with (first
            | ((with_reducible refine gate_builtin (b := .append) (xs := #[.tmp 41, .tmp 42]) rfl ?_)
               at_builtin
               refine Kd.R_append (Kd.int .u8) (w0 := w) w.heap.size rfl (.tmp 41) (.tmp 42) 34 5 (.int .u8 0) 1 rfl Try.underlying34 info5 rfl (by decide) (by omega) (.slice A (xs).length cap) (xs) (95) [.int .u8 (95)] (fun j => j ≠ w.heap.size + 1) (fun _ => False) ?e1 ?e2 ?aP (fun _ hk => hk.elim) ?aF ?aO ?aB ?aS ?aL ?_
               (case e1 => first | rfl | (rw [List.length_append]; rfl))
               (case e2 => rfl)
               (case aP => exact rfl)
               (case aF => exact fun k hk e => by subst e; exact Nat.not_lt.2 hk (Gat.lt HG2.out))
               (case aO => first | exact HG2.out.2.1 | exact (HG2.out.drewN _).2.1)
               (case aB => first | exact HG2.out.2.2 | exact (HG2.out.drewN _).2.2)
               (case aS => exact HG2.out.2.2.size)
               (case aL => have := HX.out; have := HP.out; have := HS.out; simp; omega)
               intro Gav Gaw ho hb hg hat
               obtain ⟨GaA, Gac, e1, hc1, _⟩ := Kd.R_reads ho
               subst e1
               have Ga := Lib.hid (Gat.grown (by first | exact HG2.out | exact HG2.out.drewN _) ho hb hg)
               clear ho hb hg hat hc1)
            | ((with_reducible refine gate_builtin (b := .append) (xs := #[.tmp 44, .tmp 47]) rfl ?_)
               at_builtin
               refine Kd.R_append (Kd.int .u8) (w0 := w) w.heap.size rfl (.tmp 44) (.tmp 47) 34 5 (.int .u8 0) 1 rfl Try.underlying34 info5 rfl (by decide) (by omega) (.slice GaA (xs ++ [95]).length Gac) (xs ++ [95]) (c % 256) [.int .u8 (c % 256)] (fun j => j ≠ w.heap.size + 1) (fun _ => False) ?e1 ?e2 ?aP (fun _ hk => hk.elim) ?aF ?aO ?aB ?aS ?aL ?_
               (case e1 => first | rfl | (rw [List.length_append]; rfl))
               (case e2 => rfl)
               (case aP => exact rfl)
               (case aF => exact fun k hk e => by subst e; exact Nat.not_lt.2 hk (Gat.lt Ga.out))
               (case aO => first | exact Ga.out.2.1 | exact (Ga.out.drewN _).2.1)
               (case aB => first | exact Ga.out.2.2 | exact (Ga.out.drewN _).2.2)
               (case aS => exact Ga.out.2.2.size)
               (case aL => have := HX.out; have := HP.out; have := HS.out; simp; omega)
               intro Gbv Gbw ho hb hg hat
               obtain ⟨GbA, Gbc, e1, hc1, _⟩ := Kd.R_reads ho
               subst e1
               have Gb := Lib.hid (Gat.grown (by first | exact Ga.out | exact Ga.out.drewN _) ho hb hg)
               clear ho hb hg hat hc1))
          go_roundw
          case rel => exact ⟨pos + wd, fuel, xs ++ [95] ++ [c % 256], false, GbA, Gbc, (by simp), rfl, Lib.hid (by have g := Gb.out; simp only [List.length_append, List.length_cons, List.length_nil] at g; exact g), Lib.hid (by rw [HC8.out]; exact HN.out), Lib.hid (by have := HL.out; have := HW.out; omega), Lib.hid (by have := HX.out; have := HW.out; simp; omega)⟩
          case measure => first | (rw [iterPos_of Gb.out.1, HPo.out]; have := HP.out; have := HW.out; omega) | (simp only [iterPos_of Gb.out.1, HPo.out]; have := HP.out; have := HW.out; omega)
        | false =>
          replace hC : gathered s fuel (pos + wd) (xs ++ [c], false) = fin := by rw [← hC]; simp [gather, hL, hD]
          have HN := Lib.hid hC
          clear hC hc hr0
          go_wp2_with (first
            | ((with_reducible refine gate_builtin (b := .append) (xs := #[.tmp 44, .tmp 47]) rfl ?_)
               at_builtin
               refine Kd.R_append (Kd.int .u8) (w0 := w) w.heap.size rfl (.tmp 44) (.tmp 47) 34 5 (.int .u8 0) 1 rfl Try.underlying34 info5 rfl (by decide) (by omega) (.slice A (xs).length cap) (xs) (c % 256) [.int .u8 (c % 256)] (fun j => j ≠ w.heap.size + 1) (fun _ => False) ?e1 ?e2 ?aP (fun _ hk => hk.elim) ?aF ?aO ?aB ?aS ?aL ?_
               (case e1 => first | rfl | (rw [List.length_append]; rfl))
               (case e2 => rfl)
               (case aP => exact rfl)
               (case aF => exact fun k hk e => by subst e; exact Nat.not_lt.2 hk (Gat.lt HG2.out))
               (case aO => first | exact HG2.out.2.1 | exact (HG2.out.drewN _).2.1)
               (case aB => first | exact HG2.out.2.2 | exact (HG2.out.drewN _).2.2)
               (case aS => exact HG2.out.2.2.size)
               (case aL => have := HX.out; have := HP.out; have := HS.out; simp; omega)
               intro Gbv Gbw ho hb hg hat
               obtain ⟨GbA, Gbc, e1, hc1, _⟩ := Kd.R_reads ho
               subst e1
               have Gb := Lib.hid (Gat.grown (by first | exact HG2.out | exact HG2.out.drewN _) ho hb hg)
               clear ho hb hg hat hc1))
          go_roundw
          case rel => exact ⟨pos + wd, fuel, xs ++ [c % 256], false, GbA, Gbc, (by simp), rfl, Lib.hid (by have g := Gb.out; simp only [List.length_append, List.length_cons, List.length_nil] at g; exact g), Lib.hid (by rw [HC8.out]; exact HN.out), Lib.hid (by have := HL.out; have := HW.out; omega), Lib.hid (by have := HX.out; have := HW.out; simp; omega)⟩
          case measure => first | (rw [iterPos_of Gb.out.1, HPo.out]; have := HP.out; have := HW.out; omega) | (simp only [iterPos_of Gb.out.1, HPo.out]; have := HP.out; have := HW.out; omega)
      · have d97g : decide (c ≥ 97) = false := decide_eq_false (by omega)
        have d65g : decide (c ≥ 65) = true := decide_eq_true (by omega)
        have d90l : decide (c ≤ 90) = true := decide_eq_true (by omega)
        have hL : letter c = true := by unfold letter; exact decide_eq_true (by omega)
        have hD : digit c = false := by unfold digit; exact decide_eq_false (by omega)
        have HC8 := Lib.hid (show c % 256 = c by omega)
        cases gap with
        | true =>
          replace hC : gathered s fuel (pos + wd) (xs ++ [95] ++ [c], false) = fin := by rw [← hC]; simp [gather, hL, hD]
          have HN := Lib.hid hC
          clear hC hc hr0
          go_wp2_with (first
            | ((with_reducible refine gate_builtin (b := .append) (xs := #[.tmp 41, .tmp 42]) rfl ?_)
               at_builtin
               refine Kd.R_append (Kd.int .u8) (w0 := w) w.heap.size rfl (.tmp 41) (.tmp 42) 34 5 (.int .u8 0) 1 rfl Try.underlying34 info5 rfl (by decide) (by omega) (.slice A (xs).length cap) (xs) (95) [.int .u8 (95)] (fun j => j ≠ w.heap.size + 1) (fun _ => False) ?e1 ?e2 ?aP (fun _ hk => hk.elim) ?aF ?aO ?aB ?aS ?aL ?_
               (case e1 => first | rfl | (rw [List.length_append]; rfl))
               (case e2 => rfl)
               (case aP => exact rfl)
               (case aF => exact fun k hk e => by subst e; exact Nat.not_lt.2 hk (Gat.lt HG2.out))
               (case aO => first | exact HG2.out.2.1 | exact (HG2.out.drewN _).2.1)
               (case aB => first | exact HG2.out.2.2 | exact (HG2.out.drewN _).2.2)
               (case aS => exact HG2.out.2.2.size)
               (case aL => have := HX.out; have := HP.out; have := HS.out; simp; omega)
               intro Gav Gaw ho hb hg hat
               obtain ⟨GaA, Gac, e1, hc1, _⟩ := Kd.R_reads ho
               subst e1
               have Ga := Lib.hid (Gat.grown (by first | exact HG2.out | exact HG2.out.drewN _) ho hb hg)
               clear ho hb hg hat hc1)
            | ((with_reducible refine gate_builtin (b := .append) (xs := #[.tmp 44, .tmp 47]) rfl ?_)
               at_builtin
               refine Kd.R_append (Kd.int .u8) (w0 := w) w.heap.size rfl (.tmp 44) (.tmp 47) 34 5 (.int .u8 0) 1 rfl Try.underlying34 info5 rfl (by decide) (by omega) (.slice GaA (xs ++ [95]).length Gac) (xs ++ [95]) (c % 256) [.int .u8 (c % 256)] (fun j => j ≠ w.heap.size + 1) (fun _ => False) ?e1 ?e2 ?aP (fun _ hk => hk.elim) ?aF ?aO ?aB ?aS ?aL ?_
               (case e1 => first | rfl | (rw [List.length_append]; rfl))
               (case e2 => rfl)
               (case aP => exact rfl)
               (case aF => exact fun k hk e => by subst e; exact Nat.not_lt.2 hk (Gat.lt Ga.out))
               (case aO => first | exact Ga.out.2.1 | exact (Ga.out.drewN _).2.1)
               (case aB => first | exact Ga.out.2.2 | exact (Ga.out.drewN _).2.2)
               (case aS => exact Ga.out.2.2.size)
               (case aL => have := HX.out; have := HP.out; have := HS.out; simp; omega)
               intro Gbv Gbw ho hb hg hat
               obtain ⟨GbA, Gbc, e1, hc1, _⟩ := Kd.R_reads ho
               subst e1
               have Gb := Lib.hid (Gat.grown (by first | exact Ga.out | exact Ga.out.drewN _) ho hb hg)
               clear ho hb hg hat hc1))
          go_roundw
          case rel => exact ⟨pos + wd, fuel, xs ++ [95] ++ [c % 256], false, GbA, Gbc, (by simp), rfl, Lib.hid (by have g := Gb.out; simp only [List.length_append, List.length_cons, List.length_nil] at g; exact g), Lib.hid (by rw [HC8.out]; exact HN.out), Lib.hid (by have := HL.out; have := HW.out; omega), Lib.hid (by have := HX.out; have := HW.out; simp; omega)⟩
          case measure => first | (rw [iterPos_of Gb.out.1, HPo.out]; have := HP.out; have := HW.out; omega) | (simp only [iterPos_of Gb.out.1, HPo.out]; have := HP.out; have := HW.out; omega)
        | false =>
          replace hC : gathered s fuel (pos + wd) (xs ++ [c], false) = fin := by rw [← hC]; simp [gather, hL, hD]
          have HN := Lib.hid hC
          clear hC hc hr0
          go_wp2_with (first
            | ((with_reducible refine gate_builtin (b := .append) (xs := #[.tmp 44, .tmp 47]) rfl ?_)
               at_builtin
               refine Kd.R_append (Kd.int .u8) (w0 := w) w.heap.size rfl (.tmp 44) (.tmp 47) 34 5 (.int .u8 0) 1 rfl Try.underlying34 info5 rfl (by decide) (by omega) (.slice A (xs).length cap) (xs) (c % 256) [.int .u8 (c % 256)] (fun j => j ≠ w.heap.size + 1) (fun _ => False) ?e1 ?e2 ?aP (fun _ hk => hk.elim) ?aF ?aO ?aB ?aS ?aL ?_
               (case e1 => first | rfl | (rw [List.length_append]; rfl))
               (case e2 => rfl)
               (case aP => exact rfl)
               (case aF => exact fun k hk e => by subst e; exact Nat.not_lt.2 hk (Gat.lt HG2.out))
               (case aO => first | exact HG2.out.2.1 | exact (HG2.out.drewN _).2.1)
               (case aB => first | exact HG2.out.2.2 | exact (HG2.out.drewN _).2.2)
               (case aS => exact HG2.out.2.2.size)
               (case aL => have := HX.out; have := HP.out; have := HS.out; simp; omega)
               intro Gbv Gbw ho hb hg hat
               obtain ⟨GbA, Gbc, e1, hc1, _⟩ := Kd.R_reads ho
               subst e1
               have Gb := Lib.hid (Gat.grown (by first | exact HG2.out | exact HG2.out.drewN _) ho hb hg)
               clear ho hb hg hat hc1))
          go_roundw
          case rel => exact ⟨pos + wd, fuel, xs ++ [c % 256], false, GbA, Gbc, (by simp), rfl, Lib.hid (by have g := Gb.out; simp only [List.length_append, List.length_cons, List.length_nil] at g; exact g), Lib.hid (by rw [HC8.out]; exact HN.out), Lib.hid (by have := HL.out; have := HW.out; omega), Lib.hid (by have := HX.out; have := HW.out; simp; omega)⟩
          case measure => first | (rw [iterPos_of Gb.out.1, HPo.out]; have := HP.out; have := HW.out; omega) | (simp only [iterPos_of Gb.out.1, HPo.out]; have := HP.out; have := HW.out; omega)
      · have d97g : decide (c ≥ 97) = false := decide_eq_false (by omega)
        have d65g : decide (c ≥ 65) = false := decide_eq_false (by omega)
        have d48g : decide (c ≥ 48) = true := decide_eq_true (by omega)
        have d57l : decide (c ≤ 57) = true := decide_eq_true (by omega)
        have hL : letter c = false := by unfold letter; exact decide_eq_false (by omega)
        have hD : digit c = true := by unfold digit; exact decide_eq_true (by omega)
        have HC8 := Lib.hid (show c % 256 = c by omega)
        by_cases hx : xs = []
        · subst hx
          replace hC : gathered s fuel (pos + wd) ([], gap) = fin := by rw [← hC]; simp [gather, hL, hD]
          have HN := Lib.hid hC
          clear hC hc hr0
          go_wp2
          go_roundw
          case rel => exact ⟨pos + wd, fuel, [], gap, _, _, rfl, rfl, (by first | exact HG2 | exact Lib.hid (HG2.out.drewN _)), HN, Lib.hid (by have := HL.out; have := HW.out; omega), Lib.hid (by have := HX.out; have := HW.out; omega)⟩
          case measure => first | (rw [iterPos_of HG2.out.1, HPo.out]; have := HP.out; have := HW.out; omega) | (simp only [iterPos_of (HG2.out.drewN _).1, HPo.out]; have := HP.out; have := HW.out; omega)
        · have hlen : (0 : Int) < (xs.length : Int) := by have := List.length_pos_iff.2 hx; omega
          have dlen : decide ((xs.length : Int) > 0) = true := decide_eq_true hlen
          cases gap with
          | true =>
            replace hC : gathered s fuel (pos + wd) (xs ++ [95] ++ [c], false) = fin := by rw [← hC]; simp [gather, hL, hD, hx]
            have HN := Lib.hid hC
            clear hC hc hr0
            go_wp2_with (first
              | ((with_reducible refine gate_builtin (b := .append) (xs := #[.tmp 41, .tmp 42]) rfl ?_)
                 at_builtin
                 refine Kd.R_append (Kd.int .u8) (w0 := w) w.heap.size rfl (.tmp 41) (.tmp 42) 34 5 (.int .u8 0) 1 rfl Try.underlying34 info5 rfl (by decide) (by omega) (.slice A (xs).length cap) (xs) (95) [.int .u8 (95)] (fun j => j ≠ w.heap.size + 1) (fun _ => False) ?e1 ?e2 ?aP (fun _ hk => hk.elim) ?aF ?aO ?aB ?aS ?aL ?_
                 (case e1 => first | rfl | (rw [List.length_append]; rfl))
                 (case e2 => rfl)
                 (case aP => exact rfl)
                 (case aF => exact fun k hk e => by subst e; exact Nat.not_lt.2 hk (Gat.lt HG2.out))
                 (case aO => first | exact HG2.out.2.1 | exact (HG2.out.drewN _).2.1)
                 (case aB => first | exact HG2.out.2.2 | exact (HG2.out.drewN _).2.2)
                 (case aS => exact HG2.out.2.2.size)
                 (case aL => have := HX.out; have := HP.out; have := HS.out; simp; omega)
                 intro Gav Gaw ho hb hg hat
                 obtain ⟨GaA, Gac, e1, hc1, _⟩ := Kd.R_reads ho
                 subst e1
                 have Ga := Lib.hid (Gat.grown (by first | exact HG2.out | exact HG2.out.drewN _) ho hb hg)
                 clear ho hb hg hat hc1)
              | ((with_reducible refine gate_builtin (b := .append) (xs := #[.tmp 44, .tmp 47]) rfl ?_)
                 at_builtin
                 refine Kd.R_append (Kd.int .u8) (w0 := w) w.heap.size rfl (.tmp 44) (.tmp 47) 34 5 (.int .u8 0) 1 rfl Try.underlying34 info5 rfl (by decide) (by omega) (.slice GaA (xs ++ [95]).length Gac) (xs ++ [95]) (c % 256) [.int .u8 (c % 256)] (fun j => j ≠ w.heap.size + 1) (fun _ => False) ?e1 ?e2 ?aP (fun _ hk => hk.elim) ?aF ?aO ?aB ?aS ?aL ?_
                 (case e1 => first | rfl | (rw [List.length_append]; rfl))
                 (case e2 => rfl)
                 (case aP => exact rfl)
                 (case aF => exact fun k hk e => by subst e; exact Nat.not_lt.2 hk (Gat.lt Ga.out))
                 (case aO => first | exact Ga.out.2.1 | exact (Ga.out.drewN _).2.1)
                 (case aB => first | exact Ga.out.2.2 | exact (Ga.out.drewN _).2.2)
                 (case aS => exact Ga.out.2.2.size)
                 (case aL => have := HX.out; have := HP.out; have := HS.out; simp; omega)
                 intro Gbv Gbw ho hb hg hat
                 obtain ⟨GbA, Gbc, e1, hc1, _⟩ := Kd.R_reads ho
                 subst e1
                 have Gb := Lib.hid (Gat.grown (by first | exact Ga.out | exact Ga.out.drewN _) ho hb hg)
                 clear ho hb hg hat hc1))
            go_roundw
            case rel => exact ⟨pos + wd, fuel, xs ++ [95] ++ [c % 256], false, GbA, Gbc, (by simp), rfl, Lib.hid (by have g := Gb.out; simp only [List.length_append, List.length_cons, List.length_nil] at g; exact g), Lib.hid (by rw [HC8.out]; exact HN.out), Lib.hid (by have := HL.out; have := HW.out; omega), Lib.hid (by have := HX.out; have := HW.out; simp; omega)⟩
            case measure => first | (rw [iterPos_of Gb.out.1, HPo.out]; have := HP.out; have := HW.out; omega) | (simp only [iterPos_of Gb.out.1, HPo.out]; have := HP.out; have := HW.out; omega)
          | false =>
            replace hC : gathered s fuel (pos + wd) (xs ++ [c], false) = fin := by rw [← hC]; simp [gather, hL, hD, hx]
            have HN := Lib.hid hC
            clear hC hc hr0
            go_wp2_with (first
              | ((with_reducible refine gate_builtin (b := .append) (xs := #[.tmp 44, .tmp 47]) rfl ?_)
                 at_builtin
                 refine Kd.R_append (Kd.int .u8) (w0 := w) w.heap.size rfl (.tmp 44) (.tmp 47) 34 5 (.int .u8 0) 1 rfl Try.underlying34 info5 rfl (by decide) (by omega) (.slice A (xs).length cap) (xs) (c % 256) [.int .u8 (c % 256)] (fun j => j ≠ w.heap.size + 1) (fun _ => False) ?e1 ?e2 ?aP (fun _ hk => hk.elim) ?aF ?aO ?aB ?aS ?aL ?_
                 (case e1 => first | rfl | (rw [List.length_append]; rfl))
                 (case e2 => rfl)
                 (case aP => exact rfl)
                 (case aF => exact fun k hk e => by subst e; exact Nat.not_lt.2 hk (Gat.lt HG2.out))
                 (case aO => first | exact HG2.out.2.1 | exact (HG2.out.drewN _).2.1)
                 (case aB => first | exact HG2.out.2.2 | exact (HG2.out.drewN _).2.2)
                 (case aS => exact HG2.out.2.2.size)
                 (case aL => have := HX.out; have := HP.out; have := HS.out; simp; omega)
                 intro Gbv Gbw ho hb hg hat
                 obtain ⟨GbA, Gbc, e1, hc1, _⟩ := Kd.R_reads ho
                 subst e1
                 have Gb := Lib.hid (Gat.grown (by first | exact HG2.out | exact HG2.out.drewN _) ho hb hg)
                 clear ho hb hg hat hc1))
            go_roundw
            case rel => exact ⟨pos + wd, fuel, xs ++ [c % 256], false, GbA, Gbc, (by simp), rfl, Lib.hid (by have g := Gb.out; simp only [List.length_append, List.length_cons, List.length_nil] at g; exact g), Lib.hid (by rw [HC8.out]; exact HN.out), Lib.hid (by have := HL.out; have := HW.out; omega), Lib.hid (by have := HX.out; have := HW.out; simp; omega)⟩
            case measure => first | (rw [iterPos_of Gb.out.1, HPo.out]; have := HP.out; have := HW.out; omega) | (simp only [iterPos_of Gb.out.1, HPo.out]; have := HP.out; have := HW.out; omega)
      · have d97g : decide (c ≥ 97) = true := decide_eq_true (by omega)
        have d122l : decide (c ≤ 122) = false := decide_eq_false (by omega)
        have d65g : decide (c ≥ 65) = true := decide_eq_true (by omega)
        have d90l : decide (c ≤ 90) = false := decide_eq_false (by omega)
        have d48g : decide (c ≥ 48) = true := decide_eq_true (by omega)
        have d57l : decide (c ≤ 57) = false := decide_eq_false (by omega)
        have hL : letter c = false := by unfold letter; exact decide_eq_false (by omega)
        have hD : digit c = false := by unfold digit; exact decide_eq_false (by omega)
        by_cases hx : xs = []
        · subst hx
          replace hC : gathered s fuel (pos + wd) ([], gap) = fin := by rw [← hC]; simp [gather, hL, hD]
          have HN := Lib.hid hC
          clear hC hc hr0
          go_wp2
          go_roundw
          case rel => exact ⟨pos + wd, fuel, [], gap, _, _, rfl, rfl, (by first | exact HG2 | exact Lib.hid (HG2.out.drewN _)), HN, Lib.hid (by have := HL.out; have := HW.out; omega), Lib.hid (by have := HX.out; have := HW.out; omega)⟩
          case measure => first | (rw [iterPos_of HG2.out.1, HPo.out]; have := HP.out; have := HW.out; omega) | (simp only [iterPos_of (HG2.out.drewN _).1, HPo.out]; have := HP.out; have := HW.out; omega)
        · have hlen : (0 : Int) < (xs.length : Int) := by have := List.length_pos_iff.2 hx; omega
          have dlen : decide ((xs.length : Int) > 0) = true := decide_eq_true hlen
          replace hC : gathered s fuel (pos + wd) (xs, true) = fin := by rw [← hC]; simp [gather, hL, hD, hx]
          have HN := Lib.hid hC
          clear hC hc hr0
          go_wp2
          go_roundw
          case rel => exact ⟨pos + wd, fuel, xs, true, _, _, rfl, rfl, (by first | exact HG2 | exact Lib.hid (HG2.out.drewN _)), HN, Lib.hid (by have := HL.out; have := HW.out; omega), Lib.hid (by have := HX.out; have := HW.out; omega)⟩
          case measure => first | (rw [iterPos_of HG2.out.1, HPo.out]; have := HP.out; have := HW.out; omega) | (simp only [iterPos_of (HG2.out.drewN _).1, HPo.out]; have := HP.out; have := HW.out; omega)
      · have d97g : decide (c ≥ 97) = false := decide_eq_false (by omega)
        have d65g : decide (c ≥ 65) = true := decide_eq_true (by omega)
        have d90l : decide (c ≤ 90) = false := decide_eq_false (by omega)
        have d48g : decide (c ≥ 48) = true := decide_eq_true (by omega)
        have d57l : decide (c ≤ 57) = false := decide_eq_false (by omega)
        have hL : letter c = false := by unfold letter; exact decide_eq_false (by omega)
        have hD : digit c = false := by unfold digit; exact decide_eq_false (by omega)
        by_cases hx : xs = []
        · subst hx
          replace hC : gathered s fuel (pos + wd) ([], gap) = fin := by rw [← hC]; simp [gather, hL, hD]
          have HN := Lib.hid hC
          clear hC hc hr0
          go_wp2
          go_roundw
          case rel => exact ⟨pos + wd, fuel, [], gap, _, _, rfl, rfl, (by first | exact HG2 | exact Lib.hid (HG2.out.drewN _)), HN, Lib.hid (by have := HL.out; have := HW.out; omega), Lib.hid (by have := HX.out; have := HW.out; omega)⟩
          case measure => first | (rw [iterPos_of HG2.out.1, HPo.out]; have := HP.out; have := HW.out; omega) | (simp only [iterPos_of (HG2.out.drewN _).1, HPo.out]; have := HP.out; have := HW.out; omega)
        · have hlen : (0 : Int) < (xs.length : Int) := by have := List.length_pos_iff.2 hx; omega
          have dlen : decide ((xs.length : Int) > 0) = true := decide_eq_true hlen
          replace hC : gathered s fuel (pos + wd) (xs, true) = fin := by rw [← hC]; simp [gather, hL, hD, hx]
          have HN := Lib.hid hC
          clear hC hc hr0
          go_wp2
          go_roundw
          case rel => exact ⟨pos + wd, fuel, xs, true, _, _, rfl, rfl, (by first | exact HG2 | exact Lib.hid (HG2.out.drewN _)), HN, Lib.hid (by have := HL.out; have := HW.out; omega), Lib.hid (by have := HX.out; have := HW.out; omega)⟩
          case measure => first | (rw [iterPos_of HG2.out.1, HPo.out]; have := HP.out; have := HW.out; omega) | (simp only [iterPos_of (HG2.out.drewN _).1, HPo.out]; have := HP.out; have := HW.out; omega)
      · have d97g : decide (c ≥ 97) = false := decide_eq_false (by omega)
        have d65g : decide (c ≥ 65) = false := decide_eq_false (by omega)
        have d48g : decide (c ≥ 48) = true := decide_eq_true (by omega)
        have d57l : decide (c ≤ 57) = false := decide_eq_false (by omega)
        have hL : letter c = false := by unfold letter; exact decide_eq_false (by omega)
        have hD : digit c = false := by unfold digit; exact decide_eq_false (by omega)
        by_cases hx : xs = []
        · subst hx
          replace hC : gathered s fuel (pos + wd) ([], gap) = fin := by rw [← hC]; simp [gather, hL, hD]
          have HN := Lib.hid hC
          clear hC hc hr0
          go_wp2
          go_roundw
          case rel => exact ⟨pos + wd, fuel, [], gap, _, _, rfl, rfl, (by first | exact HG2 | exact Lib.hid (HG2.out.drewN _)), HN, Lib.hid (by have := HL.out; have := HW.out; omega), Lib.hid (by have := HX.out; have := HW.out; omega)⟩
          case measure => first | (rw [iterPos_of HG2.out.1, HPo.out]; have := HP.out; have := HW.out; omega) | (simp only [iterPos_of (HG2.out.drewN _).1, HPo.out]; have := HP.out; have := HW.out; omega)
        · have hlen : (0 : Int) < (xs.length : Int) := by have := List.length_pos_iff.2 hx; omega
          have dlen : decide ((xs.length : Int) > 0) = true := decide_eq_true hlen
          replace hC : gathered s fuel (pos + wd) (xs, true) = fin := by rw [← hC]; simp [gather, hL, hD, hx]
          have HN := Lib.hid hC
          clear hC hc hr0
          go_wp2
          go_roundw
          case rel => exact ⟨pos + wd, fuel, xs, true, _, _, rfl, rfl, (by first | exact HG2 | exact Lib.hid (HG2.out.drewN _)), HN, Lib.hid (by have := HL.out; have := HW.out; omega), Lib.hid (by have := HX.out; have := HW.out; omega)⟩
          case measure => first | (rw [iterPos_of HG2.out.1, HPo.out]; have := HP.out; have := HW.out; omega) | (simp only [iterPos_of (HG2.out.drewN _).1, HPo.out]; have := HP.out; have := HW.out; omega)
      · have d97g : decide (c ≥ 97) = false := decide_eq_false (by omega)
        have d65g : decide (c ≥ 65) = false := decide_eq_false (by omega)
        have d48g : decide (c ≥ 48) = false := decide_eq_false (by omega)
        have hL : letter c = false := by unfold letter; exact decide_eq_false (by omega)
        have hD : digit c = false := by unfold digit; exact decide_eq_false (by omega)
        by_cases hx : xs = []
        · subst hx
          replace hC : gathered s fuel (pos + wd) ([], gap) = fin := by rw [← hC]; simp [gather, hL, hD]
          have HN := Lib.hid hC
          clear hC hc hr0
          go_wp2
          go_roundw
          case rel => exact ⟨pos + wd, fuel, [], gap, _, _, rfl, rfl, (by first | exact HG2 | exact Lib.hid (HG2.out.drewN _)), HN, Lib.hid (by have := HL.out; have := HW.out; omega), Lib.hid (by have := HX.out; have := HW.out; omega)⟩
          case measure => first | (rw [iterPos_of HG2.out.1, HPo.out]; have := HP.out; have := HW.out; omega) | (simp only [iterPos_of (HG2.out.drewN _).1, HPo.out]; have := HP.out; have := HW.out; omega)
        · have hlen : (0 : Int) < (xs.length : Int) := by have := List.length_pos_iff.2 hx; omega
          have dlen : decide ((xs.length : Int) > 0) = true := decide_eq_true hlen
          replace hC : gathered s fuel (pos + wd) (xs, true) = fin := by rw [← hC]; simp [gather, hL, hD, hx]
          have HN := Lib.hid hC
          clear hC hc hr0
          go_wp2
          go_roundw
          case rel => exact ⟨pos + wd, fuel, xs, true, _, _, rfl, rfl, (by first | exact HG2 | exact Lib.hid (HG2.out.drewN _)), HN, Lib.hid (by have := HL.out; have := HW.out; omega), Lib.hid (by have := HX.out; have := HW.out; omega)⟩
          case measure => first | (rw [iterPos_of HG2.out.1, HPo.out]; have := HP.out; have := HW.out; omega) | (simp only [iterPos_of (HG2.out.drewN _).1, HPo.out]; have := HP.out; have := HW.out; omega)
    · have hnx : ∀ ty, (Instr.next (.pointer (some ⟨w.heap.size + 1, 0, none⟩)) true ty).run Try.prog wr = _ := fun ty => Lib.run_next_end_at wr (w.heap.size + 1) s pos ty HG.out.1 hp
      have hC := HC.out
      rw [gathered_end s fuel pos _ hp] at hC
      subst hC
      have HG3 := HG
      have hC5 := (Kd.R_reads' HG.out.2.1).2.2
      have hcv := Kd.C_string (P := Try.prog) (src := 34) (dst := 9) (e := 5) (c := cap) Try.underlying34 Try.underlying5 Try.underlying9 hC5
      clear HC HL HX hp hfin HG hC5
      by_cases hx : xs = []
      · subst hx
        clear hcv
        go_wp2
        go_ret
        exact ⟨by have := HF.out; simp at this; subst this; rfl, by first | exact HG3.out.2.2 | exact (HG3.out.drewN _).2.2⟩
      · have hlen : (0 : Int) < (xs.length : Int) := by have := List.length_pos_iff.2 hx; omega
        have dlen : ((xs.length : Int) == 0) = false := by simpa using hx
        clear hlen
        go_wp2
        go_ret
        exact ⟨by have := HF.out; simp [hx] at this; subst this; rfl, by first | exact HG3.out.2.2 | exact (HG3.out.drewN _).2.2⟩
end Go.Proofs.Ytbcljhedleemdaa
