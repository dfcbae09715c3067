/- The contract of impl.DecodeVLQ16: the closure that calls the package's decoder, called under a deferred recover. -/
import Derived.Test.YtkdinhbfidckdaaRProg
import Derived.Test.YtkdinhbfidckdaaRWWords
import Derived.Test.YtkdinhbfidckdaaRPDecodeVLQUTF16x1
import Derived.WalkKit
import Derived.KernelRfl
import Derived.Defers
import Derived.Recover
import Derived.Laws.Pointers
import Derived.Laws.NewBlocks
import Derived.RegionTactic
import Derived.BigRegion
import Derived.Outline
import Derived.Lib.Hide
namespace Go.Proofs.YtkdinhbfidckdaaR
set_option linter.unusedSimpArgs false
open Go.RowKit Go.Proofs.YtkdinhbfidckdaaRW.PrintWords Go.Proofs.YtkdinhbfidckdaaR.PDecodeVLQUTF16

theorem calm1_idle (p : Addr) (w : World) :
    CallsD Try.prog 55 #[.pointer (some p)] .returning w fun e u' w' => e = .returned (.tuple #[]) ∧ u' = .returning ∧ w' = w := by
  refine callsD_of_wpS Try.func55 rfl fun c₀ cs hu => ?_
  apply wpS_seq
  apply wpS_region
  simp [wpOpsS, go_sem, recoverD, hu, Try.ntmps55, Exit.thenS]
  refine wpS_cond (t := false) (by simp [Act.eval, Array.replicate]) ?_
  simp only [Bool.false_eq_true, if_false]
  refine wpS_of_wp (wp_skip ?_)
  cases c₀
  simp_all [bodyPostS, results, Try.results55]

theorem info46b : (Try.prog.info? 46).map (fun i => (i.zero, i.size, i.bytes)) = some (some (.int .u16 0), 1, 2) := by kernel_rfl

theorem Below.drewN {B : Nat} {a w : World} (h : Below B a w) (n : Nat) : Below B a (w.drewN n) := ⟨h.os, h.tape, h.output, h.size, h.block⟩
theorem facts_below {W w : World} {b n : Nat} (hb : Below W.heap.size W w) (hlt : b + 3 < W.heap.size)
    (h : (∃ v, W.cell? ⟨b + 1, 0, none⟩ = some v) ∧ (∃ v, W.cell? ⟨b + 2, 0, none⟩ = some v) ∧ (∃ v, W.cell? ⟨b + 3, 0, none⟩ = some v) ∧ W.frozen? ⟨b + 1, 0, none⟩ = false ∧ W.frozen? ⟨b + 2, 0, none⟩ = false ∧ W.frozen? ⟨b + 3, 0, none⟩ = false) :
    (∃ v, (w.drewN n).cell? ⟨b + 1, 0, none⟩ = some v) ∧ (∃ v, (w.drewN n).cell? ⟨b + 2, 0, none⟩ = some v) ∧ (∃ v, (w.drewN n).cell? ⟨b + 3, 0, none⟩ = some v) ∧ (w.drewN n).frozen? ⟨b + 1, 0, none⟩ = false ∧ (w.drewN n).frozen? ⟨b + 2, 0, none⟩ = false ∧ (w.drewN n).frozen? ⟨b + 3, 0, none⟩ = false := by
  have hc : ∀ p : Addr, p.block < W.heap.size → (w.drewN n).cell? p = W.cell? p := fun p hp => hb.cell hp
  have hf : ∀ p : Addr, p.block < W.heap.size → (w.drewN n).frozen? p = W.frozen? p := fun p hp => hb.frozen hp
  rw [hc _ (by simp; omega), hc _ (by simp; omega), hc _ (by simp; omega), hf _ (by simp; omega), hf _ (by simp; omega), hf _ (by simp; omega)]
  exact h

set_option maxRecDepth 100000 in
theorem decoded_calls (k b : Nat) (A0 : Option Addr) (c0 : Nat) (l0 : List Int) (r1 r2 : Int) (r3 : Bool) (W : World) (hb : b + 3 < W.heap.size)
    (hr : Kd.C (Kd.int .u16) W A0 l0.length l0) (hl : l0.length ≤ 2147483647)
    (h0 : W.cell? ⟨b, 0, none⟩ = some (.slice A0 l0.length c0)) (h1 : ∃ v, W.cell? ⟨b + 1, 0, none⟩ = some v) (h2 : ∃ v, W.cell? ⟨b + 2, 0, none⟩ = some v) (h3 : ∃ v, W.cell? ⟨b + 3, 0, none⟩ = some v)
    (f1 : W.frozen? ⟨b + 1, 0, none⟩ = false) (f2 : W.frozen? ⟨b + 2, 0, none⟩ = false) (f3 : W.frozen? ⟨b + 3, 0, none⟩ = false)
    (h : sourcemap_DecodeVLQUTF16.f k l0 = some (r1, r2, r3)) :
    Calls Try.prog 49 #[.pointer (some ⟨b, 0, none⟩), .pointer (some ⟨b + 1, 0, none⟩), .pointer (some ⟨b + 2, 0, none⟩), .pointer (some ⟨b + 3, 0, none⟩)] W fun e w' =>
      e = .returned (.tuple #[]) ∧ ∃ w1, Below W.heap.size W w1 ∧ w' = ((w1.setCell ⟨b + 1, 0, none⟩ (.int .i32 r1)).setCell ⟨b + 2, 0, none⟩ (.int .i64 r2)).setCell ⟨b + 3, 0, none⟩ (.bool r3) := by
  have HR := Lib.hid hr
  have H := Lib.hid h
  have HH := Lib.hid (And.intro h1 (And.intro h2 (And.intro h3 (And.intro f1 (And.intro f2 f3)))))
  clear hr h h1 h2 h3 f1 f2 f3
  go_enter Try.func49, Try.ntmps49
  go_wp2_with (first
    | ((with_reducible refine gate_dst (N := 5) rfl ?_); refine Kd.R_lit (Kd.int .u16) (w0 := W) W.heap.size 46 ?hg (N := 5) ?hd (xs := ([] : List Int)) (inner := []) (ok := fun _ => True) (okp := fun _ => True) ?hr ?hp (fun _ hk => hk) trivial (Below.refl _ _) (Nat.le_refl _) (by simp) ?_; (case hd => rfl); (case hg => rfl); (case hr => first | (go_simp; done) | (go_simp; rfl)); (case hp => exact Reps.none _ _); intro v5 w3 ho hb3 hg_ hnew_; have HO := Lib.hid ho; have HB3 := Lib.hid hb3; have hc3 := (hb3.cell (p := ⟨b, 0, none⟩) (by simp; omega)).trans h0; clear ho hb3 hg_ hnew_)
    | (refine Kd.R_append_rows (Kd.int .u16) (w0 := W) W.heap.size rfl (.tmp 5) (.tmp 6) 26 46 (.int .u16 0) 2 rfl Try.underlying26 info46b rfl (by decide) (by omega) v5 [] l0 A0 l0.length c0 (fun _ => True) (fun _ => False) rfl rfl ?aO ?aR (fun _ _ h => h) (fun _ h => h.elim) ?aF ?aB ?aS ?aL ?_
       (case aO => exact HO.out)
       (case aR => exact Kd.C_below HR.out HB3.out)
       (case aF => exact fun _ _ => trivial)
       (case aB => exact HB3.out)
       (case aS => exact HB3.out.size)
       (case aL => simp; omega)
       clear hc3
       intro v7 w4 ho4 hb4 hg4 hat4
       obtain ⟨A7, c7, e7, hc7, hC7⟩ := Kd.R_reads ho4
       subst e7
       simp only [List.nil_append] at hc7 hC7
       have HC7 := Lib.hid hC7; have HB4 := Lib.hid hb4; clear ho4 hb4 hg4 hat4 hC7)
    | (go_at_call 50; (refine (sourcemap_DecodeVLQUTF16.calls k A7 c7 l0 r1 r2 r3 _ HC7.out hc7 H.out).mono ?_); rintro e w5 ⟨rfl, ⟨n5, rfl⟩⟩
       obtain ⟨⟨q1, h1⟩, ⟨q2, h2⟩, ⟨q3, h3⟩, f1, f2, f3⟩ := facts_below (n := n5) HB4.out hb HH.out))
  go_end0
  exact ⟨rfl, w4.drewN n5, Below.drewN HB4.out _, rfl⟩

set_option maxRecDepth 100000 in
theorem calm_calls (p1 p2 p3 p4 : Value) (w : World) (R : World → Prop)
    (h : Calls Try.prog 49 #[p1, p2, p3, p4] (w.alloc (.cells #[.bool false] 4)) fun e w' => e = .returned (.tuple #[]) ∧ Hid (R w' ∧ w'.cell? ⟨w.heap.size, 0, none⟩ = some (.bool false) ∧ w'.frozen? ⟨w.heap.size, 0, none⟩ = false)) :
    Calls Try.prog 48 #[.func (Fn.func 49) #[] #[p1, p2, p3, p4]] w fun e w' => e = .returned (.bool true) ∧ ∃ w1, R w1 ∧ w' = w1.setCell ⟨w.heap.size, 0, none⟩ (.bool true) := by
  have hmf : ∀ (fn : Fn) (first cap : Array Value) (w : World), (Instr.makeFunc fn first cap).run Try.prog w = .ok (.func fn first cap) w := fun _ _ _ _ => rfl
  have HC := Lib.hid h
  clear h
  go_enter_defers Try.func48, Try.ntmps48
  go_wp2_with (go_at_call 49; refine (HC.out).mono ?_; rintro e w1 ⟨rfl, hw1⟩; have hw2 := hw1.out.2.1; have hw3 := hw1.out.2.2)
  refine leaves_cons (f := 55) (args := #[.pointer (some ⟨w.heap.size, 0, none⟩)]) (by simp) (by simp [go_sem]) ?_
  refine (calm1_idle ⟨w.heap.size, 0, none⟩ _).mono ?_
  rintro e u' w'' ⟨rfl, rfl, rfl⟩
  simp [Leaves, settle, results, Try.results48, go_sem, hw2]
  exact ⟨w1, hw1.out.1, rfl⟩

/-- What the closure has left: its three results, in the variables that it captured. -/
def Told (w : World) (n : Nat) (r1 r2 : Int) (r3 : Bool) (w' : World) : Prop :=
  Below n w w' ∧ w'.cell? ⟨n + 1, 0, none⟩ = some (.int .i32 r1) ∧ w'.cell? ⟨n + 1 + 1, 0, none⟩ = some (.int .i64 r2) ∧ w'.cell? ⟨n + 1 + 1 + 1, 0, none⟩ = some (.bool r3) ∧
    w'.frozen? ⟨n + 1, 0, none⟩ = false ∧ w'.frozen? ⟨n + 1 + 1, 0, none⟩ = false ∧ w'.frozen? ⟨n + 1 + 1 + 1, 0, none⟩ = false
theorem told_of {W w1 : World} {b : Nat} {r1 r2 : Int} {r3 : Bool} (hb : b + 3 < W.heap.size) (hB : Below (W.heap.size + 1) (W.alloc (.cells #[.bool false] 4)) w1)
    (h1 : ∃ v, W.cell? ⟨b + 1, 0, none⟩ = some v) (h2 : ∃ v, W.cell? ⟨b + 2, 0, none⟩ = some v) (h3 : ∃ v, W.cell? ⟨b + 3, 0, none⟩ = some v)
    (f1 : W.frozen? ⟨b + 1, 0, none⟩ = false) (f2 : W.frozen? ⟨b + 2, 0, none⟩ = false) (f3 : W.frozen? ⟨b + 3, 0, none⟩ = false) (u : Value) :
    Told W b r1 r2 r3 ((((w1.setCell ⟨b + 1, 0, none⟩ (.int .i32 r1)).setCell ⟨b + 2, 0, none⟩ (.int .i64 r2)).setCell ⟨b + 3, 0, none⟩ (.bool r3)).setCell ⟨W.heap.size, 0, none⟩ u) := by
  have hc : ∀ p : Addr, p.block < W.heap.size → w1.cell? p = W.cell? p := fun p hp => (hB.cell (p := p) (by omega)).trans (World.cell?_alloc_lt W _ p hp)
  have hB2 : Below W.heap.size W w1 := ((Below.refl W.heap.size W).alloc (Nat.le_refl _) _).trans (hB.mono (by omega))
  have hf : ∀ p : Addr, p.block < W.heap.size → w1.frozen? p = W.frozen? p := fun p hp => hB2.frozen hp
  obtain ⟨v1, h1⟩ := h1
  obtain ⟨v2, h2⟩ := h2
  obtain ⟨v3, h3⟩ := h3
  have g1 := (hc ⟨b + 1, 0, none⟩ (by simp; omega)).trans h1
  have g2 := (hc ⟨b + 2, 0, none⟩ (by simp; omega)).trans h2
  have g3 := (hc ⟨b + 3, 0, none⟩ (by simp; omega)).trans h3
  have k1 := (hf ⟨b + 1, 0, none⟩ (by simp; omega)).trans f1
  have k2 := (hf ⟨b + 2, 0, none⟩ (by simp; omega)).trans f2
  have k3 := (hf ⟨b + 3, 0, none⟩ (by simp; omega)).trans f3
  have n1 : ¬ W.heap.size = b + 1 := by omega
  have n2 : ¬ W.heap.size = b + 2 := by omega
  have n3 : ¬ W.heap.size = b + 3 := by omega
  have m1 : ¬ b + 1 = W.heap.size := by omega
  have m2 : ¬ b + 2 = W.heap.size := by omega
  have m3 : ¬ b + 3 = W.heap.size := by omega
  refine ⟨?_, ?_, ?_, ?_, ?_, ?_, ?_⟩
  · exact ((((hB2.mono (by omega)).setCell (p := ⟨b + 1, 0, none⟩) (by simp) _).setCell (p := ⟨b + 2, 0, none⟩) (by simp) _).setCell (p := ⟨b + 3, 0, none⟩) (by simp) _).setCell (p := ⟨W.heap.size, 0, none⟩) (by simp; omega) _
  · simp [go_sem, g1, g2, g3, n1, n2, n3, m1, m2, m3]
  · simp [go_sem, g1, g2, g3, n1, n2, n3, m1, m2, m3]
  · simp [go_sem, g1, g2, g3, n1, n2, n3, m1, m2, m3]
  · simp [go_sem, k1, k2, k3]
  · simp [go_sem, k1, k2, k3]
  · simp [go_sem, k1, k2, k3]

theorem calm_decoded (k b : Nat) (A0 : Option Addr) (c0 : Nat) (l0 : List Int) (r1 r2 : Int) (r3 : Bool) (W : World) (hb : b + 3 < W.heap.size)
    (hr : Kd.C (Kd.int .u16) W A0 l0.length l0) (hl : l0.length ≤ 2147483647)
    (h0 : W.cell? ⟨b, 0, none⟩ = some (.slice A0 l0.length c0)) (h1 : ∃ v, W.cell? ⟨b + 1, 0, none⟩ = some v) (h2 : ∃ v, W.cell? ⟨b + 2, 0, none⟩ = some v) (h3 : ∃ v, W.cell? ⟨b + 3, 0, none⟩ = some v)
    (f1 : W.frozen? ⟨b + 1, 0, none⟩ = false) (f2 : W.frozen? ⟨b + 2, 0, none⟩ = false) (f3 : W.frozen? ⟨b + 3, 0, none⟩ = false)
    (h : sourcemap_DecodeVLQUTF16.f k l0 = some (r1, r2, r3)) :
    Calls Try.prog 48 #[.func (Fn.func 49) #[] #[.pointer (some ⟨b, 0, none⟩), .pointer (some ⟨b + 1, 0, none⟩), .pointer (some ⟨b + 1 + 1, 0, none⟩), .pointer (some ⟨b + 1 + 1 + 1, 0, none⟩)]] W fun e w' =>
      e = .returned (.bool true) ∧ Told W b r1 r2 r3 w' := by
  have hsz : (W.alloc (.cells #[.bool false] 4)).heap.size = W.heap.size + 1 := by show (W.heap.push _).size = _; simp
  have ha : ∀ p : Addr, p.block < W.heap.size → (W.alloc (.cells #[.bool false] 4)).cell? p = W.cell? p := fun p hp => World.cell?_alloc_lt W _ p hp
  have hB0 : Below W.heap.size W (W.alloc (.cells #[.bool false] 4)) := (Below.refl _ _).alloc (Nat.le_refl _) _
  have hf : ∀ p : Addr, p.block < W.heap.size → (W.alloc (.cells #[.bool false] 4)).frozen? p = W.frozen? p := fun p hp => hB0.frozen hp
  have hd := decoded_calls k b A0 c0 l0 r1 r2 r3 (W.alloc (.cells #[.bool false] 4)) (by omega) (Kd.C_below hr hB0) hl
    (by rw [ha _ (by simp; omega)]; exact h0) (by rw [ha _ (by simp; omega)]; exact h1) (by rw [ha _ (by simp; omega)]; exact h2) (by rw [ha _ (by simp; omega)]; exact h3)
    (by rw [hf _ (by simp; omega)]; exact f1) (by rw [hf _ (by simp; omega)]; exact f2) (by rw [hf _ (by simp; omega)]; exact f3) h
  rw [hsz] at hd
  refine (calm_calls _ _ _ _ W (fun w' => ∃ w1, Below (W.heap.size + 1) (W.alloc (.cells #[.bool false] 4)) w1 ∧ w' = ((w1.setCell ⟨b + 1, 0, none⟩ (.int .i32 r1)).setCell ⟨b + 2, 0, none⟩ (.int .i64 r2)).setCell ⟨b + 3, 0, none⟩ (.bool r3)) (hd.mono ?_)).mono ?_
  · rintro e w' ⟨rfl, w1, hB, rfl⟩
    have n1 : ¬ b + 1 = W.heap.size := by omega
    have n2 : ¬ b + 2 = W.heap.size := by omega
    have n3 : ¬ b + 3 = W.heap.size := by omega
    have m1 : ¬ W.heap.size = b + 1 := by omega
    have m2 : ¬ W.heap.size = b + 2 := by omega
    have m3 : ¬ W.heap.size = b + 3 := by omega
    have c4 : w1.cell? ⟨W.heap.size, 0, none⟩ = some (.bool false) := (hB.cell (p := ⟨W.heap.size, 0, none⟩) (by simp)).trans (by simp [go_sem])
    have z4 : w1.frozen? ⟨W.heap.size, 0, none⟩ = false := (hB.frozen (p := ⟨W.heap.size, 0, none⟩) (by simp)).trans (by simp [go_sem])
    refine ⟨rfl, Lib.hid ⟨⟨w1, hB, rfl⟩, ?_, ?_⟩⟩
    · simp [go_sem, c4, n1, n2, n3, m1, m2, m3]
    · simp [go_sem, z4]
  · rintro e w' ⟨rfl, w2, ⟨w1, hB, rfl⟩, rfl⟩
    exact ⟨rfl, told_of hb hB h1 h2 h3 f1 f2 f3 _⟩

theorem four_size (w : World) (a b c d : Obj) : w.heap.size + 3 < ((((w.alloc a).alloc b).alloc c).alloc d).heap.size := by
  show _ < ((((w.heap.push a).push b).push c).push d).size
  simp

def impl_DecodeVLQ16.f (k : Nat) (l0 : List Int) : Option (Int × Int × Bool) := if l0.length ≤ 2147483647 then sourcemap_DecodeVLQUTF16.f k l0 else none
theorem impl_DecodeVLQ16.mono : ∀ l0 k, LeO (impl_DecodeVLQ16.f k l0) (impl_DecodeVLQ16.f (k + 1) l0) := by
  intro l0 k r h
  unfold impl_DecodeVLQ16.f at h ⊢
  by_cases c : l0.length ≤ 2147483647
  · rw [if_pos c] at h ⊢
    exact sourcemap_DecodeVLQUTF16.mono _ _ r h
  · rw [if_neg c] at h; cases h

set_option maxRecDepth 100000 in
theorem impl_DecodeVLQ16.calls (k : Nat) (A0 : Option Addr) (c0 : Nat) (l0 : List Int) (r1 : Int) (r2 : Int) (r3 : Bool) (w : World) (hr0 : Kd.C (Kd.int .u16) w A0 l0.length l0) (_hc0 : l0.length ≤ c0) (h : impl_DecodeVLQ16.f k l0 = some (r1, r2, r3)) :
    Calls Try.prog 26 #[.slice A0 l0.length c0] w fun e w' => e = .returned (.tuple #[.int .i32 r1, .int .i64 r2, .bool r3]) ∧ Below w.heap.size w w' := by
  unfold impl_DecodeVLQ16.f at h
  by_cases hl : l0.length ≤ 2147483647
  case neg => rw [if_neg hl] at h; cases h
  rw [if_pos hl] at h
  have HR := Lib.hid hr0
  have H := Lib.hid h
  clear hr0 h
  have hmf : ∀ (fn : Fn) (first cap : Array Value) (w : World), (Instr.makeFunc fn first cap).run Try.prog w = .ok (.func fn first cap) w := fun _ _ _ _ => rfl
  go_enter Try.func26, Try.ntmps26
  go_wp2_with (
    go_at_call 48
    refine (calm_decoded k w.heap.size A0 c0 l0 r1 r2 r3 _ ?b1 ?b2 hl ?b3 ?b4 ?b5 ?b6 ?b7 ?b8 ?b9 H.out).mono ?_
    (case b1 => exact four_size w _ _ _ _)
    (case b2 => exact Kd.C_alloc (Kd.C_alloc (Kd.C_alloc (Kd.C_alloc HR.out _) _) _) _)
    (case b3 => simp [go_sem])
    (case b4 => exact ⟨_, by simp [go_sem]; rfl⟩)
    (case b5 => exact ⟨_, by simp [go_sem]; rfl⟩)
    (case b6 => exact ⟨_, by simp [go_sem]; rfl⟩)
    (case b7 => simp [go_sem])
    (case b8 => simp [go_sem])
    (case b9 => simp [go_sem])
    rintro e w2 ⟨rfl, hw2⟩
    obtain ⟨hB2, g1, g2, g3, z1, z2, z3⟩ := hw2
    have HB2 := Lib.hid hB2
    clear hB2)
  go_region
  all_goals go_wp2
  refine bodyPost_ret (v := .tuple #[.int .i32 r1, .int .i64 r2, .bool r3]) (by simp [results, Try.results26, go_sem, g1, g2, g3]) rfl ⟨rfl, ?_⟩
  have hb0 : Below w.heap.size w w2 := ((((((Below.refl w.heap.size w).alloc (Nat.le_refl _) _).alloc (by simp) _).alloc (by simp; omega) _).alloc (by simp; omega) _)).trans HB2.out
  exact (((hb0.setCell (p := ⟨w.heap.size + 1, 0, none⟩) (by simp) _).setCell (p := ⟨w.heap.size + 1 + 1, 0, none⟩) (by simp; omega) _).setCell (p := ⟨w.heap.size + 1 + 1 + 1, 0, none⟩) (by simp; omega) _).drew
end Go.Proofs.YtkdinhbfidckdaaR
