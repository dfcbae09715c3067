/- The table of symbols in memory; Get, FollowSymbols, MergeSymbols, MergeContentsWith, walked. -/
import Derived.Test.YtfjfacgbambbdaaDoorExtForest
import Derived.WalkKit
import Derived.KernelRfl
import Derived.RegionTactic
import Derived.BigRegion
import Derived.BigQuiet
import Derived.LoopTactic
import Derived.Outline
import Derived.OwnWalk
import Derived.Deep.RegionLaw
set_option linter.unusedVariables false
namespace Go.Proofs.YtfjfacgbambbdaaDoor
open Go.RowKit Go.Proofs.YtfjfacgbambbdaaDoorW.PrintWords Go.Proofs.YtfjfacgbambbdaaDoorW.PrintMore Go.Proofs.YtfjfacgbambbdaaDoor.PFnMerged
/-- A symbol: what the table holds of it. -/
structure Sy where
  name : ByteArray
  link : Option Nat
  uses : Int
  flags : Int
  kind : Int
def lsrc : Option Nat → Int
  | none => 4294967295
  | some _ => 0
def lidx : Option Nat → Int
  | none => 4294967295
  | some j => (j : Int)
def encSy (x : Sy) : List Value := [.pointer none, .string x.name, .int .u32 (lsrc x.link), .int .u32 (lidx x.link), .int .u32 x.uses, .int .u32 0, .int .u32 0, .int .u16 x.flags, .int .u8 x.kind, .int .u8 0]
def zSy : Sy := ⟨⟨#[]⟩, none, 0, 0, 0⟩
/-- A kind whose cells are told by a list of values. -/
def flat {α : Type} (n : Nat) (enc : α → List Value) (hl : ∀ x, (enc x).length = n) (h1 : ∀ x, ∀ u ∈ enc x, u.oneCell' = true) : Kd α where
  sz := n
  E := []
  K := fun _ x cs => cs = enc x
  M := fun _ _ _ x cs => cs = enc x
  K_len := fun h => by rw [h]; exact hl _
  K_one := fun h u hu => by
    rw [h] at hu
    exact h1 _ u hu
  K_below := fun _ h => h
  K_of_M := fun h => h
  M_mono := fun _ h => h
  M_bound := fun h => h
  M_move := fun _ h => h
  M_lower := fun _ h => h
theorem encSy_one (x : Sy) : ∀ u ∈ encSy x, u.oneCell' = true := by
  intro u hu
  simp only [encSy, List.mem_cons, List.not_mem_nil, or_false] at hu
  rcases hu with rfl | rfl | rfl | rfl | rfl | rfl | rfl | rfl | rfl | rfl <;> rfl
def kSy : Kd Sy := flat 10 encSy (fun _ => rfl) encSy_one
def rdS (xs : List Sy) (i : Nat) : Sy := xs.getD i zSy
theorem info60 : (Tryd.prog.info? 60).map (fun i => (i.zero, i.size, i.bytes)) = some (some (.agg #[.pointer none, .string ⟨#[]⟩, .int .u32 0, .int .u32 0, .int .u32 0, .int .u32 0, .int .u32 0, .int .u16 0, .int .u8 0, .int .u8 0]), 10, 48) := by kernel_rfl
/-- The variable InvalidRef, as its initialiser lays it. -/
def Inv (w : World) : Prop := ∃ t : TypeId, w.heap[0]? = some (.cells #[.int .u32 4294967295, .int .u32 4294967295] t (0, 0))
theorem Inv.lt {w : World} (h : Inv w) : 0 < w.heap.size := by
  obtain ⟨t, h⟩ := h
  exact blk_lt h
theorem Inv.c0 {w : World} (h : Inv w) : w.cell? ⟨0, 0, none⟩ = some (.int .u32 4294967295) := by
  obtain ⟨t, h⟩ := h
  exact (blk_cell h 0).trans rfl
theorem Inv.c1 {w : World} (h : Inv w) : w.cell? ⟨0, 1, none⟩ = some (.int .u32 4294967295) := by
  obtain ⟨t, h⟩ := h
  exact (blk_cell h 1).trans rfl
theorem Inv.via {w w' : World} (e : w'.heap[0]? = w.heap[0]?) (h : Inv w) : Inv w' := by
  obtain ⟨t, h⟩ := h
  exact ⟨t, e.trans h⟩
/-- The table: the variable InvalidRef, the outer row, the row of symbols at g. -/
structure St (w : World) (gO g cap : Nat) (xs : List Sy) : Prop where
  inv : Inv w
  out : w.heap[gO]? = some (.cells #[.slice (some ⟨g, 0, none⟩) xs.length cap] 51 (0, 0))
  row : kSy.R 60 w 0 (fun k => k ≠ 0 ∧ k ≠ gO) (.slice (some ⟨g, 0, none⟩) xs.length cap) xs
theorem St.ne0 {w : World} {gO g cap : Nat} {xs : List Sy} (h : St w gO g cap xs) : g ≠ 0 ∧ g ≠ gO := h.row.1 g (by simp [Value.ownBlock])
theorem St.lt {w : World} {gO g cap : Nat} {xs : List Sy} (h : St w gO g cap xs) : g < w.heap.size := Kd.R_lt h.row g (by simp [Value.ownBlock])
theorem St.below {w w' : World} {gO g cap : Nat} {xs : List Sy} (h : St w gO g cap xs) (hb : Below w.heap.size w w') : St w' gO g cap xs :=
  ⟨Inv.via (hb.block 0 (Inv.lt h.inv)) h.inv, (hb.block gO (blk_lt h.out)).trans h.out, Kd.R_below h.row hb⟩
theorem St.elem {w : World} {gO g cap : Nat} {xs : List Sy} (h : St w gO g cap xs) (i : Nat) (hi : i < xs.length) :
    (∀ j u, (encSy (rdS xs i))[j]? = some u → w.cell? ⟨g, i * 10 + j, none⟩ = some u) ∧ (∀ j, w.frozen? ⟨g, i * 10 + j, none⟩ = false) := by
  obtain ⟨c, _, hM, hc, hf⟩ := Kd.R_elem h.row zSy (i : Int) (by omega) (by omega)
  have e : (i : Int).toNat = i := Int.toNat_natCast i
  rw [e] at hc hf hM
  have hM' : c = encSy (rdS xs i) := hM
  subst hM'
  exact ⟨hc, hf⟩
theorem St.set {w : World} {gO g cap : Nat} {xs : List Sy} (h : St w gO g cap xs) (i : Nat) (hi : i < xs.length) (j : Nat) (seg : List Value) (x' : Sy) (hs : j + seg.length ≤ 10) (he : encSy x' = (encSy (rdS xs i)).take j ++ seg ++ (encSy (rdS xs i)).drop (j + seg.length)) :
    St (w.setCells g (i * 10 + j) seg) gO g cap (xs.set i x') := by
  obtain ⟨c, hcl, hM, hc, hf⟩ := Kd.R_elem h.row zSy (i : Int) (by omega) (by omega)
  have e : (i : Int).toNat = i := Int.toNat_natCast i
  have hM' : c = encSy (rdS xs i) := by rw [e] at hM; exact hM
  have h2 := Kd.R_seg h.row (i : Int) (by omega) (by omega) hcl hc (seg := seg) (j := j) hs (x' := x') (okp := fun _ => False) (by rw [hM']; exact he.symm) (fun _ hk => hk.elim)
  rw [e] at h2
  have h2 : kSy.R 60 (w.setCells g (i * 10 + j) seg) 0 (fun k => k ≠ 0 ∧ k ≠ gO) (.slice (some ⟨g, 0, none⟩) xs.length cap) (xs.set i x') ∧ w.grownBy (w.setCells g (i * 10 + j) seg) (some g) := h2
  have hne := h.ne0
  refine ⟨?_, ?_, ?_⟩
  · exact Inv.via (h2.2.block 0 (Inv.lt h.inv) (by simp; omega)) h.inv
  · rw [h2.2.block gO (blk_lt h.out) (by simp; omega), List.length_set]; exact h.out
  · rw [List.length_set]; exact h2.1
theorem grown_set {w0 w : World} {g : Nat} (h : w0.grownBy w (some g)) (o : Nat) (seg : List Value) : w0.grownBy (w.setCells g o seg) (some g) := by
  obtain ⟨s1, s2, s3, s4⟩ := setCells_same g seg o w
  refine ⟨s1.trans h.os, s2.trans h.tape, s3.trans h.output, by rw [s4]; exact h.size, fun k hk hne => ?_⟩
  rw [setCells_far seg _ k (fun e => hne (by rw [e])), h.block k hk hne]
theorem grown_below {w0 w w1 : World} {g : Nat} (h : w0.grownBy w (some g)) (hb : Below w.heap.size w w1) : w0.grownBy w1 (some g) :=
  ⟨hb.os.trans h.os, hb.tape.trans h.tape, hb.output.trans h.output, Nat.le_trans h.size hb.size, fun k hk hne => (hb.block k (Nat.lt_of_lt_of_le hk h.size)).trans (h.block k hk hne)⟩
theorem grown_refl (w : World) (g : Nat) : w.grownBy w (some g) := ⟨rfl, rfl, rfl, Nat.le_refl _, fun _ _ _ => rfl⟩
theorem grown_trans {w0 w w1 : World} {g : Nat} (h : w0.grownBy w (some g)) (h2 : w.grownBy w1 (some g)) : w0.grownBy w1 (some g) :=
  ⟨h2.os.trans h.os, h2.tape.trans h.tape, h2.output.trans h.output, Nat.le_trans h.size h2.size, fun k hk hne => (h2.block k (Nat.lt_of_lt_of_le hk h.size) hne).trans (h.block k hk hne)⟩
theorem below_grown {w0 w w1 : World} {g : Nat} (hb : Below w0.heap.size w0 w) (h : w.grownBy w1 (some g)) : w0.grownBy w1 (some g) := grown_trans (grown_below (grown_refl w0 g) hb) h
/-- The links that a list of symbols holds. -/
def lk (xs : List Sy) (i : Nat) : Option Nat := (rdS xs i).link
theorem lk_set (xs : List Sy) (i : Nat) (hi : i < xs.length) (x' : Sy) (x : Nat) : lk (xs.set i x') x = if x = i then x'.link else lk xs x := by
  unfold lk rdS
  rw [List.getD_eq_getElem?_getD, List.getD_eq_getElem?_getD]
  by_cases e : x = i
  · subst e
    rw [if_pos rfl, List.getElem?_set_self hi]
    rfl
  · rw [if_neg e, List.getElem?_set_ne (Ne.symm e)]
set_option maxHeartbeats 4000000 in
set_option maxRecDepth 100000 in
theorem Get.calls (gO g cap : Nat) (xs : List Sy) (i : Nat) (w : World) (h : St w gO g cap xs) (hi : i < xs.length) (h64 : xs.length ≤ 200) :
    Calls Tryd.prog 22 #[.agg #[.slice (some ⟨gO, 0, none⟩) 1 1], .agg #[.int .u32 0, .int .u32 (i : Int)]] w fun e w' => e = .returned (.pointer (some ⟨g, i * 10, none⟩)) ∧ Below w.heap.size w w' := by
  have HS := Lib.hid h
  clear h
  have d1 : (0 : Int) ≤ (i : Int) := by omega
  have d2 : ((i : Int) < (xs.length : Int)) := by omega
  go_enter Tryd.func22, Tryd.ntmps22
  go_wp2
  generalize hW : World.alloc (World.alloc w _) _ = W
  have HB := Lib.hid (show Below w.heap.size w W by rw [← hW]; exact below_alloc (below_alloc (Below.refl _ _) _) _)
  have h1 : W.heap[w.heap.size]? = some (.cells #[.slice (some ⟨gO, 0, none⟩) 1 1] 44 (0, 0)) := by
    rw [← hW, Below.heap_alloc _ _ _ (by simp)]
    exact heap_alloc_new w _
  have h2 : W.heap[w.heap.size + 1]? = some (.cells #[.int .u32 0, .int .u32 (i : Int)] 47 (0, 0)) := by
    have e : (w.alloc (.cells #[.slice (some ⟨gO, 0, none⟩) 1 1] 44 (0, 0))).heap.size = w.heap.size + 1 := by simp
    rw [← hW, ← e]
    exact heap_alloc_new _ _
  clear hW
  have x0 := (blk_cell h1 0).trans rfl
  have x1 := (blk_cell h2 0).trans rfl
  have x2 := (blk_cell h2 1).trans rfl
  have x3 := (blk_cell (HS.out.below HB.out).out 0).trans rfl
  clear h1 h2
  go_quiet (fail)
  go_wp2
  go_ret
  exact ⟨rfl, pw_below_drewN HB.out _⟩
theorem setCells1 (w : World) (g o : Nat) (u : Value) : w.setCells g o [u] = w.setCell ⟨g, o, none⟩ u := rfl
theorem setCells2 (w : World) (g o : Nat) (u v : Value) : w.setCells g o [u, v] = (w.setCell ⟨g, o, none⟩ u).setCell ⟨g, o + 1, none⟩ v := rfl
theorem cell_ne (w : World) (a : Addr) (u : Value) (p : Addr) (h : ¬ (p.block = a.block ∧ p.off = a.off)) : (w.setCell a u).cell? p = w.cell? p := by
  by_cases hb : p.block = a.block
  · have ho : p.off ≠ a.off := fun e => h ⟨hb, e⟩
    unfold World.cell? World.setCell
    simp only [Array.getElem?_modify, hb]
    rcases w.heap[a.block]? with _ | o
    · simp
    · cases o <;> simp
      split
      · rfl
      · split
        · rfl
        · rw [Array.getElem?_setIfInBounds, if_neg (Ne.symm ho)]
  · exact World.cell?_of_block (Below.heap_setCell w a u p.block hb)
/-- A symbol's three cells that merging may turn. -/
theorem St.uses {w : World} {gO g cap : Nat} {xs : List Sy} (h : St w gO g cap xs) (j : Nat) (hj : j < xs.length) (u : Int) : St (w.setCell ⟨g, j * 10 + 4, none⟩ (.int .u32 u)) gO g cap (xs.set j { rdS xs j with uses := u }) := h.set j hj 4 [.int .u32 u] _ (Nat.le_of_ble_eq_true rfl) rfl
theorem St.name {w : World} {gO g cap : Nat} {xs : List Sy} (h : St w gO g cap xs) (j : Nat) (hj : j < xs.length) (u : ByteArray) : St (w.setCell ⟨g, j * 10 + 1, none⟩ (.string u)) gO g cap (xs.set j { rdS xs j with name := u }) := h.set j hj 1 [.string u] _ (Nat.le_of_ble_eq_true rfl) rfl
theorem St.flags {w : World} {gO g cap : Nat} {xs : List Sy} (h : St w gO g cap xs) (j : Nat) (hj : j < xs.length) (u : Int) : St (w.setCell ⟨g, j * 10 + 7, none⟩ (.int .u16 u)) gO g cap (xs.set j { rdS xs j with flags := u }) := h.set j hj 7 [.int .u16 u] _ (Nat.le_of_ble_eq_true rfl) rfl
theorem St.link {w : World} {gO g cap : Nat} {xs : List Sy} (h : St w gO g cap xs) (j : Nat) (hj : j < xs.length) (r : Nat) : St ((w.setCell ⟨g, j * 10 + 2, none⟩ (.int .u32 0)).setCell ⟨g, j * 10 + 2 + 1, none⟩ (.int .u32 (r : Int))) gO g cap (xs.set j { rdS xs j with link := some r }) := h.set j hj 2 [.int .u32 0, .int .u32 (r : Int)] _ (Nat.le_of_ble_eq_true rfl) rfl
/-- As before but for what is neither link nor number. -/
def Like (xs ys : List Sy) : Prop := ys.length = xs.length ∧ ∀ x, lk ys x = lk xs x
theorem like_set {xs ys : List Sy} (h : Like xs ys) (j : Nat) (hj : j < xs.length) (x' : Sy) (hx : x'.link = (rdS ys j).link) : Like xs (ys.set j x') := by
  refine ⟨by rw [List.length_set]; exact h.1, fun x => ?_⟩
  rw [lk_set _ _ (by rw [h.1]; exact hj)]
  split
  · next e => rw [hx, e, ← h.2]; rfl
  · exact h.2 x
theorem like_refl (xs : List Sy) : Like xs xs := ⟨rfl, fun _ => rfl⟩
theorem has_calls' (a0 a1 : Int) (w : World) : Calls Tryd.prog 24 #[.int .u16 a0, .int .u16 a1] w fun e w' => e = .returned (.bool ((Go.bits .and .u16 a0 a1) != 0)) ∧ Below w.heap.size w w' := by
  refine (ast_SymbolFlags_Has.calls a0 a1 _ w rfl).mono ?_
  rintro e w' ⟨rfl, n, rfl⟩
  exact ⟨rfl, pw_below_drewN (Below.refl _ _) _⟩
theorem has_calls2 (a0 a1 : Int) (b : Bool) (w : World) (hb : (Go.bits .and .u16 a0 a1 != 0) = b) : Calls Tryd.prog 24 #[.int .u16 a0, .int .u16 a1] w fun e w' => e = .returned (.bool b) ∧ Below w.heap.size w w' := hb ▸ has_calls' a0 a1 w
set_option maxHeartbeats 4000000 in
set_option maxRecDepth 100000 in
theorem Contents.calls (gO g cap : Nat) (xs : List Sy) (j i : Nat) (w : World) (h : St w gO g cap xs) (hi : i < xs.length) (hj : j < xs.length) (hij : i ≠ j) :
    Calls Tryd.prog 23 #[.pointer (some ⟨g, j * 10, none⟩), .pointer (some ⟨g, i * 10, none⟩)] w fun e w' => e = .returned (.tuple #[]) ∧ ∃ ys, St w' gO g cap ys ∧ Like xs ys ∧ w.grownBy w' (some g) := by
  have HS := Lib.hid h
  have HI := Lib.hid hi
  have HJ := Lib.hid hj
  have HN := Lib.hid hij
  clear h hi hj hij
  obtain ⟨x0, f0⟩ := HS.out.elem i HI.out
  obtain ⟨y0, g0⟩ := HS.out.elem j HJ.out
  have x4 := x0 4 _ rfl
  have y4 := y0 4 _ rfl
  have g4 := g0 4
  clear x0 f0 y0 g0
  go_enter Tryd.func23, Tryd.ntmps23
  go_wp2
  go_region
  generalize hw1 : World.drew _ = w1
  have HS1' := Lib.hid (show St w1 gO g cap (xs.set j { rdS xs j with uses := ((rdS xs j).uses + (rdS xs i).uses) % 4294967296 }) by rw [← hw1]; exact (HS.out.uses j HJ.out _).below (Below.refl _ _).drew)
  have HG1 := Lib.hid (show w.grownBy w1 (some g) by rw [← hw1]; exact grown_below (grown_set (grown_refl w g) (j * 10 + 4) [_]) (Below.refl _ _).drew)
  have HK' := Lib.hid (like_set (like_refl xs) j HJ.out { rdS xs j with uses := ((rdS xs j).uses + (rdS xs i).uses) % 4294967296 } rfl)
  clear hw1 x4 y4 g4
  generalize xs.set j _ = ys at HS1' HK'
  have HS1 := HS1'
  have HK := HK'
  clear HS1' HK'
  obtain ⟨ax, af⟩ := HS1.out.elem i (by have := HK.out.1; have := HI.out; omega); obtain ⟨ay, ag⟩ := HS1.out.elem j (by have := HK.out.1; have := HJ.out; omega); have ax7 := ax 7 _ rfl; have ax1 := ax 1 _ rfl; have ay7 := ay 7 _ rfl; have ay1 := ay 1 _ rfl; have ag7 := ag 7; have ag1 := ag 1; clear ax af ay ag
  generalize hfi : (rdS ys i).flags = fi at *
  generalize hfj : (rdS ys j).flags = fj at *
  generalize hni : (rdS ys i).name = ni at *
  have HFi := Lib.hid hfi
  have HFj := Lib.hid hfj
  have HNi := Lib.hid hni
  clear hfi hfj hni
  cases hb1 : (Go.bits .and .u16 fi 1 != 0) <;> cases hb2 : (Go.bits .and .u16 fj 1 != 0) <;> cases hb3 : (Go.bits .and .u16 fi 2 != 0) <;> (have HB1 := Lib.hid hb1; have HB2 := Lib.hid hb2; have HB3 := Lib.hid hb3; clear hb1 hb2 hb3)
  · go_wp2_with (first | (go_at_call 24; (with_reducible refine (has_calls2 fi 1 false _ HB1.out).mono ?_); rintro e w2 ⟨rfl, hb⟩; have HSw2 := Lib.hid ((HS1.out).below hb); have HGw2 := Lib.hid (grown_below (HG1.out) hb); clear hb; obtain ⟨hx, hf⟩ := HSw2.out.elem i (by have := HK.out.1; have := HI.out; omega); obtain ⟨hy, hg⟩ := HSw2.out.elem j (by have := HK.out.1; have := HJ.out; omega); have hx7 := hx 7 _ rfl; have hx1 := hx 1 _ rfl; have hy7 := hy 7 _ rfl; have hy1 := hy 1 _ rfl; have hg7 := hg 7; have hg1 := hg 1; clear hx hf hy hg; rw [HFi.out] at hx7; rw [HNi.out] at hx1; rw [HFj.out] at hy7) | (go_at_call 24; (with_reducible refine (has_calls2 fi 2 false _ HB3.out).mono ?_); rintro e w4 ⟨rfl, hb⟩; have HSw4 := Lib.hid ((HSw2.out).below hb); have HGw4 := Lib.hid (grown_below (HGw2.out) hb); clear hb; obtain ⟨dy, dg⟩ := HSw4.out.elem j (by have := HK.out.1; have := HJ.out; omega); have dy7 := dy 7 _ rfl; have dg7 := dg 7; clear dy dg))
    go_end0
    exact ⟨rfl, _, HSw4.out, HK.out, HGw4.out⟩
  · go_wp2_with (first | (go_at_call 24; (with_reducible refine (has_calls2 fi 1 false _ HB1.out).mono ?_); rintro e w2 ⟨rfl, hb⟩; have HSw2 := Lib.hid ((HS1.out).below hb); have HGw2 := Lib.hid (grown_below (HG1.out) hb); clear hb; obtain ⟨hx, hf⟩ := HSw2.out.elem i (by have := HK.out.1; have := HI.out; omega); obtain ⟨hy, hg⟩ := HSw2.out.elem j (by have := HK.out.1; have := HJ.out; omega); have hx7 := hx 7 _ rfl; have hx1 := hx 1 _ rfl; have hy7 := hy 7 _ rfl; have hy1 := hy 1 _ rfl; have hg7 := hg 7; have hg1 := hg 1; clear hx hf hy hg; rw [HFi.out] at hx7; rw [HNi.out] at hx1; rw [HFj.out] at hy7) | (go_at_call 24; (with_reducible refine (has_calls2 fi 2 true _ HB3.out).mono ?_); rintro e w4 ⟨rfl, hb⟩; have HSw4 := Lib.hid ((HSw2.out).below hb); have HGw4 := Lib.hid (grown_below (HGw2.out) hb); clear hb; obtain ⟨dy, dg⟩ := HSw4.out.elem j (by have := HK.out.1; have := HJ.out; omega); have dy7 := dy 7 _ rfl; have dg7 := dg 7; clear dy dg))
    go_end0
    exact ⟨rfl, _, HSw4.out.flags j (by have := HK.out.1; have := HJ.out; omega) _, like_set HK.out j HJ.out _ rfl, grown_set HGw4.out (j * 10 + 7) [_]⟩
  · go_wp2_with (first | (go_at_call 24; (with_reducible refine (has_calls2 fi 1 false _ HB1.out).mono ?_); rintro e w2 ⟨rfl, hb⟩; have HSw2 := Lib.hid ((HS1.out).below hb); have HGw2 := Lib.hid (grown_below (HG1.out) hb); clear hb; obtain ⟨hx, hf⟩ := HSw2.out.elem i (by have := HK.out.1; have := HI.out; omega); obtain ⟨hy, hg⟩ := HSw2.out.elem j (by have := HK.out.1; have := HJ.out; omega); have hx7 := hx 7 _ rfl; have hx1 := hx 1 _ rfl; have hy7 := hy 7 _ rfl; have hy1 := hy 1 _ rfl; have hg7 := hg 7; have hg1 := hg 1; clear hx hf hy hg; rw [HFi.out] at hx7; rw [HNi.out] at hx1; rw [HFj.out] at hy7) | (go_at_call 24; (with_reducible refine (has_calls2 fi 2 false _ HB3.out).mono ?_); rintro e w4 ⟨rfl, hb⟩; have HSw4 := Lib.hid ((HSw2.out).below hb); have HGw4 := Lib.hid (grown_below (HGw2.out) hb); clear hb; obtain ⟨dy, dg⟩ := HSw4.out.elem j (by have := HK.out.1; have := HJ.out; omega); have dy7 := dy 7 _ rfl; have dg7 := dg 7; clear dy dg))
    go_end0
    exact ⟨rfl, _, HSw4.out, HK.out, HGw4.out⟩
  · go_wp2_with (first | (go_at_call 24; (with_reducible refine (has_calls2 fi 1 false _ HB1.out).mono ?_); rintro e w2 ⟨rfl, hb⟩; have HSw2 := Lib.hid ((HS1.out).below hb); have HGw2 := Lib.hid (grown_below (HG1.out) hb); clear hb; obtain ⟨hx, hf⟩ := HSw2.out.elem i (by have := HK.out.1; have := HI.out; omega); obtain ⟨hy, hg⟩ := HSw2.out.elem j (by have := HK.out.1; have := HJ.out; omega); have hx7 := hx 7 _ rfl; have hx1 := hx 1 _ rfl; have hy7 := hy 7 _ rfl; have hy1 := hy 1 _ rfl; have hg7 := hg 7; have hg1 := hg 1; clear hx hf hy hg; rw [HFi.out] at hx7; rw [HNi.out] at hx1; rw [HFj.out] at hy7) | (go_at_call 24; (with_reducible refine (has_calls2 fi 2 true _ HB3.out).mono ?_); rintro e w4 ⟨rfl, hb⟩; have HSw4 := Lib.hid ((HSw2.out).below hb); have HGw4 := Lib.hid (grown_below (HGw2.out) hb); clear hb; obtain ⟨dy, dg⟩ := HSw4.out.elem j (by have := HK.out.1; have := HJ.out; omega); have dy7 := dy 7 _ rfl; have dg7 := dg 7; clear dy dg))
    go_end0
    exact ⟨rfl, _, HSw4.out.flags j (by have := HK.out.1; have := HJ.out; omega) _, like_set HK.out j HJ.out _ rfl, grown_set HGw4.out (j * 10 + 7) [_]⟩
  · go_wp2_with (first | (go_at_call 24; (with_reducible refine (has_calls2 fi 1 true _ HB1.out).mono ?_); rintro e w2 ⟨rfl, hb⟩; have HSw2 := Lib.hid ((HS1.out).below hb); have HGw2 := Lib.hid (grown_below (HG1.out) hb); clear hb; obtain ⟨hx, hf⟩ := HSw2.out.elem i (by have := HK.out.1; have := HI.out; omega); obtain ⟨hy, hg⟩ := HSw2.out.elem j (by have := HK.out.1; have := HJ.out; omega); have hx7 := hx 7 _ rfl; have hx1 := hx 1 _ rfl; have hy7 := hy 7 _ rfl; have hy1 := hy 1 _ rfl; have hg7 := hg 7; have hg1 := hg 1; clear hx hf hy hg; rw [HFi.out] at hx7; rw [HNi.out] at hx1; rw [HFj.out] at hy7) | (go_at_call 24; (with_reducible refine (has_calls2 fj 1 false _ HB2.out).mono ?_); rintro e w3 ⟨rfl, hb⟩; have HSw3 := Lib.hid ((HSw2.out).below hb); have HGw3 := Lib.hid (grown_below (HGw2.out) hb); clear hb; obtain ⟨cx, cf⟩ := HSw3.out.elem i (by have := HK.out.1; have := HI.out; omega); obtain ⟨cy, cg⟩ := HSw3.out.elem j (by have := HK.out.1; have := HJ.out; omega); have cx7 := cx 7 _ rfl; have cx1 := cx 1 _ rfl; have cy7 := cy 7 _ rfl; have cy1 := cy 1 _ rfl; have cg7 := cg 7; have cg1 := cg 1; clear cx cf cy cg; rw [HFi.out] at cx7; rw [HNi.out] at cx1; rw [HFj.out] at cy7; have HJ3 := Lib.hid (show j < ys.length from by have := HK.out.1; have := HJ.out; omega); have HSE := Lib.hid ((HSw3.out.name j HJ3.out ni).flags j (by rw [List.length_set]; exact HJ3.out) (Go.bits .or .u16 fj 1)); have HGE := Lib.hid (grown_set (grown_set HGw3.out (j * 10 + 1) [.string ni]) (j * 10 + 7) [.int .u16 (Go.bits .or .u16 fj 1)]); have HKE := Lib.hid (like_set (like_set HK.out j HJ.out { rdS ys j with name := ni } rfl) j HJ.out { rdS (ys.set j { rdS ys j with name := ni }) j with flags := Go.bits .or .u16 fj 1 } rfl); generalize (List.set (List.set ys j _) j _) = zs at HSE HKE; have ex7 : ((w3.setCell ⟨g, j * 10 + 1, none⟩ (.string ni)).setCell ⟨g, j * 10 + 7, none⟩ (.int .u16 (Go.bits .or .u16 fj 1))).cell? ⟨g, i * 10 + 7, none⟩ = some (.int .u16 fi) := (cell_ne _ _ _ _ (by have := HN.out; simp; omega)).trans ((cell_ne _ _ _ _ (by have := HN.out; simp; omega)).trans cx7)) | (go_at_call 24; (with_reducible refine (has_calls2 fi 2 false _ HB3.out).mono ?_); rintro e w4 ⟨rfl, hb⟩; have HSw4 := Lib.hid ((HSE.out).below hb); have HGw4 := Lib.hid (grown_below (HGE.out) hb); clear hb; obtain ⟨dy, dg⟩ := HSw4.out.elem j (by have := HKE.out.1; have := HJ.out; omega); have dy7 := dy 7 _ rfl; have dg7 := dg 7; clear dy dg))
    go_end0
    exact ⟨rfl, _, HSw4.out, HKE.out, HGw4.out⟩
  · go_wp2_with (first | (go_at_call 24; (with_reducible refine (has_calls2 fi 1 true _ HB1.out).mono ?_); rintro e w2 ⟨rfl, hb⟩; have HSw2 := Lib.hid ((HS1.out).below hb); have HGw2 := Lib.hid (grown_below (HG1.out) hb); clear hb; obtain ⟨hx, hf⟩ := HSw2.out.elem i (by have := HK.out.1; have := HI.out; omega); obtain ⟨hy, hg⟩ := HSw2.out.elem j (by have := HK.out.1; have := HJ.out; omega); have hx7 := hx 7 _ rfl; have hx1 := hx 1 _ rfl; have hy7 := hy 7 _ rfl; have hy1 := hy 1 _ rfl; have hg7 := hg 7; have hg1 := hg 1; clear hx hf hy hg; rw [HFi.out] at hx7; rw [HNi.out] at hx1; rw [HFj.out] at hy7) | (go_at_call 24; (with_reducible refine (has_calls2 fj 1 false _ HB2.out).mono ?_); rintro e w3 ⟨rfl, hb⟩; have HSw3 := Lib.hid ((HSw2.out).below hb); have HGw3 := Lib.hid (grown_below (HGw2.out) hb); clear hb; obtain ⟨cx, cf⟩ := HSw3.out.elem i (by have := HK.out.1; have := HI.out; omega); obtain ⟨cy, cg⟩ := HSw3.out.elem j (by have := HK.out.1; have := HJ.out; omega); have cx7 := cx 7 _ rfl; have cx1 := cx 1 _ rfl; have cy7 := cy 7 _ rfl; have cy1 := cy 1 _ rfl; have cg7 := cg 7; have cg1 := cg 1; clear cx cf cy cg; rw [HFi.out] at cx7; rw [HNi.out] at cx1; rw [HFj.out] at cy7; have HJ3 := Lib.hid (show j < ys.length from by have := HK.out.1; have := HJ.out; omega); have HSE := Lib.hid ((HSw3.out.name j HJ3.out ni).flags j (by rw [List.length_set]; exact HJ3.out) (Go.bits .or .u16 fj 1)); have HGE := Lib.hid (grown_set (grown_set HGw3.out (j * 10 + 1) [.string ni]) (j * 10 + 7) [.int .u16 (Go.bits .or .u16 fj 1)]); have HKE := Lib.hid (like_set (like_set HK.out j HJ.out { rdS ys j with name := ni } rfl) j HJ.out { rdS (ys.set j { rdS ys j with name := ni }) j with flags := Go.bits .or .u16 fj 1 } rfl); generalize (List.set (List.set ys j _) j _) = zs at HSE HKE; have ex7 : ((w3.setCell ⟨g, j * 10 + 1, none⟩ (.string ni)).setCell ⟨g, j * 10 + 7, none⟩ (.int .u16 (Go.bits .or .u16 fj 1))).cell? ⟨g, i * 10 + 7, none⟩ = some (.int .u16 fi) := (cell_ne _ _ _ _ (by have := HN.out; simp; omega)).trans ((cell_ne _ _ _ _ (by have := HN.out; simp; omega)).trans cx7)) | (go_at_call 24; (with_reducible refine (has_calls2 fi 2 true _ HB3.out).mono ?_); rintro e w4 ⟨rfl, hb⟩; have HSw4 := Lib.hid ((HSE.out).below hb); have HGw4 := Lib.hid (grown_below (HGE.out) hb); clear hb; obtain ⟨dy, dg⟩ := HSw4.out.elem j (by have := HKE.out.1; have := HJ.out; omega); have dy7 := dy 7 _ rfl; have dg7 := dg 7; clear dy dg))
    go_end0
    exact ⟨rfl, _, HSw4.out.flags j (by have := HKE.out.1; have := HJ.out; omega) _, like_set HKE.out j HJ.out _ rfl, grown_set HGw4.out (j * 10 + 7) [_]⟩
  · go_wp2_with (first | (go_at_call 24; (with_reducible refine (has_calls2 fi 1 true _ HB1.out).mono ?_); rintro e w2 ⟨rfl, hb⟩; have HSw2 := Lib.hid ((HS1.out).below hb); have HGw2 := Lib.hid (grown_below (HG1.out) hb); clear hb; obtain ⟨hx, hf⟩ := HSw2.out.elem i (by have := HK.out.1; have := HI.out; omega); obtain ⟨hy, hg⟩ := HSw2.out.elem j (by have := HK.out.1; have := HJ.out; omega); have hx7 := hx 7 _ rfl; have hx1 := hx 1 _ rfl; have hy7 := hy 7 _ rfl; have hy1 := hy 1 _ rfl; have hg7 := hg 7; have hg1 := hg 1; clear hx hf hy hg; rw [HFi.out] at hx7; rw [HNi.out] at hx1; rw [HFj.out] at hy7) | (go_at_call 24; (with_reducible refine (has_calls2 fj 1 true _ HB2.out).mono ?_); rintro e w3 ⟨rfl, hb⟩; have HSw3 := Lib.hid ((HSw2.out).below hb); have HGw3 := Lib.hid (grown_below (HGw2.out) hb); clear hb; obtain ⟨cx, cf⟩ := HSw3.out.elem i (by have := HK.out.1; have := HI.out; omega); obtain ⟨cy, cg⟩ := HSw3.out.elem j (by have := HK.out.1; have := HJ.out; omega); have cx7 := cx 7 _ rfl; have cx1 := cx 1 _ rfl; have cy7 := cy 7 _ rfl; have cy1 := cy 1 _ rfl; have cg7 := cg 7; have cg1 := cg 1; clear cx cf cy cg; rw [HFi.out] at cx7; rw [HNi.out] at cx1; rw [HFj.out] at cy7) | (go_at_call 24; (with_reducible refine (has_calls2 fi 2 false _ HB3.out).mono ?_); rintro e w4 ⟨rfl, hb⟩; have HSw4 := Lib.hid ((HSw3.out).below hb); have HGw4 := Lib.hid (grown_below (HGw3.out) hb); clear hb; obtain ⟨dy, dg⟩ := HSw4.out.elem j (by have := HK.out.1; have := HJ.out; omega); have dy7 := dy 7 _ rfl; have dg7 := dg 7; clear dy dg))
    go_end0
    exact ⟨rfl, _, HSw4.out, HK.out, HGw4.out⟩
  · go_wp2_with (first | (go_at_call 24; (with_reducible refine (has_calls2 fi 1 true _ HB1.out).mono ?_); rintro e w2 ⟨rfl, hb⟩; have HSw2 := Lib.hid ((HS1.out).below hb); have HGw2 := Lib.hid (grown_below (HG1.out) hb); clear hb; obtain ⟨hx, hf⟩ := HSw2.out.elem i (by have := HK.out.1; have := HI.out; omega); obtain ⟨hy, hg⟩ := HSw2.out.elem j (by have := HK.out.1; have := HJ.out; omega); have hx7 := hx 7 _ rfl; have hx1 := hx 1 _ rfl; have hy7 := hy 7 _ rfl; have hy1 := hy 1 _ rfl; have hg7 := hg 7; have hg1 := hg 1; clear hx hf hy hg; rw [HFi.out] at hx7; rw [HNi.out] at hx1; rw [HFj.out] at hy7) | (go_at_call 24; (with_reducible refine (has_calls2 fj 1 true _ HB2.out).mono ?_); rintro e w3 ⟨rfl, hb⟩; have HSw3 := Lib.hid ((HSw2.out).below hb); have HGw3 := Lib.hid (grown_below (HGw2.out) hb); clear hb; obtain ⟨cx, cf⟩ := HSw3.out.elem i (by have := HK.out.1; have := HI.out; omega); obtain ⟨cy, cg⟩ := HSw3.out.elem j (by have := HK.out.1; have := HJ.out; omega); have cx7 := cx 7 _ rfl; have cx1 := cx 1 _ rfl; have cy7 := cy 7 _ rfl; have cy1 := cy 1 _ rfl; have cg7 := cg 7; have cg1 := cg 1; clear cx cf cy cg; rw [HFi.out] at cx7; rw [HNi.out] at cx1; rw [HFj.out] at cy7) | (go_at_call 24; (with_reducible refine (has_calls2 fi 2 true _ HB3.out).mono ?_); rintro e w4 ⟨rfl, hb⟩; have HSw4 := Lib.hid ((HSw3.out).below hb); have HGw4 := Lib.hid (grown_below (HGw3.out) hb); clear hb; obtain ⟨dy, dg⟩ := HSw4.out.elem j (by have := HK.out.1; have := HJ.out; omega); have dy7 := dy 7 _ rfl; have dg7 := dg 7; clear dy dg))
    go_end0
    exact ⟨rfl, _, HSw4.out.flags j (by have := HK.out.1; have := HJ.out; omega) _, like_set HK.out j HJ.out _ rfl, grown_set HGw4.out (j * 10 + 7) [_]⟩
theorem alloc3' (w : World) (o1 o2 o3 : Obj) : Below w.heap.size w (((w.alloc o1).alloc o2).alloc o3) ∧ (((w.alloc o1).alloc o2).alloc o3).heap[w.heap.size]? = some o1 ∧ (((w.alloc o1).alloc o2).alloc o3).heap[w.heap.size + 1]? = some o2 ∧ (((w.alloc o1).alloc o2).alloc o3).heap[w.heap.size + 1 + 1]? = some o3 ∧ (((w.alloc o1).alloc o2).alloc o3).heap.size = w.heap.size + 3 := by
  have e1 : (w.alloc o1).heap.size = w.heap.size + 1 := by simp
  have e2 : ((w.alloc o1).alloc o2).heap.size = w.heap.size + 1 + 1 := by simp
  have f1 := heap_alloc_new w o1
  have f2 := heap_alloc_new (w.alloc o1) o2
  have f3 := heap_alloc_new ((w.alloc o1).alloc o2) o3
  rw [e1] at f2
  rw [e2] at f3
  refine ⟨below_alloc (below_alloc (below_alloc (Below.refl _ _) _) _) _, ?_, ?_, f3, by simp⟩
  · rw [Below.heap_alloc _ _ _ (by omega), Below.heap_alloc _ _ _ (by omega), f1]
  · rw [Below.heap_alloc _ _ _ (by omega), f2]
theorem St.keep {w w' : World} {gO g cap : Nat} {xs : List Sy} (h : St w gO g cap xs) (h0 : w'.heap[0]? = w.heap[0]?) (hO : w'.heap[gO]? = w.heap[gO]?) (hg : w'.heap[g]? = w.heap[g]?) : St w' gO g cap xs := by
  refine ⟨Inv.via h0 h.inv, hO.trans h.out, ?_⟩
  have e : ∀ k, (Value.slice (some ⟨g, 0, none⟩) xs.length cap).ownBlock = some k → k = g := by
    intro k hk
    simp [Value.ownBlock] at hk
    exact hk.symm
  have r1 := Kd.R_flat (ok' := fun k => k = g) (fun hp => hp) h.row (fun k hk _ => e k hk)
  have r2 := Kd.R_move (w1 := w') r1 (fun k hk => by rw [hk]; exact hg)
  exact Kd.R_flat (fun hp => hp) r2 (fun k hk _ => by rw [e k hk]; exact h.ne0)
theorem St.far {w : World} {gO g cap : Nat} {xs : List Sy} (h : St w gO g cap xs) (p : Addr) (u : Value) (h0 : p.block ≠ 0) (hO : p.block ≠ gO) (hg : p.block ≠ g) : St (w.setCell p u) gO g cap xs :=
  h.keep (Below.heap_setCell _ _ _ _ (Ne.symm h0)) (Below.heap_setCell _ _ _ _ (Ne.symm hO)) (Below.heap_setCell _ _ _ _ (Ne.symm hg))
theorem St.ltO {w : World} {gO g cap : Nat} {xs : List Sy} (h : St w gO g cap xs) : gO < w.heap.size ∧ 0 < w.heap.size := ⟨blk_lt h.out, Inv.lt h.inv⟩
theorem blk_grown {w w1 : World} {g k : Nat} {o : Obj} (h : w.grownBy w1 (some g)) (hk : w.heap[k]? = some o) (hne : k ≠ g) : w1.heap[k]? = some o :=
  (h.block k (by
    rcases Nat.lt_or_ge k w.heap.size with h' | h'
    · exact h'
    · simp [Array.getElem?_eq_none h'] at hk) (by simpa using hne)).trans hk
theorem grown_far {w0 w : World} {g : Nat} (h : w0.grownBy w (some g)) (p : Addr) (u : Value) (hp : w0.heap.size ≤ p.block) : w0.grownBy (w.setCell p u) (some g) :=
  ⟨h.os, h.tape, h.output, by simpa [World.setCell] using h.size, fun k hk hne => (Below.heap_setCell _ _ _ _ (by omega)).trans (h.block k hk hne)⟩
/-- Slot 6 of FollowSymbols behind its region: made behind the call, or ahead of it. -/
theorem slot_new {w w3 : World} {gO g cap g4 : Nat} {ys : List Sy} {o4 : Obj} (hS : St w3 gO g cap ys) (hG : w.grownBy w3 (some g)) (h4 : w3.heap[g4]? = some o4) (o : Obj) :
    St (w3.alloc o) gO g cap ys ∧ w.grownBy (w3.alloc o) (some g) ∧ (w3.alloc o).heap[g4]? = some o4 ∧ (w3.alloc o).heap[w3.heap.size]? = some o ∧ w.heap.size ≤ w3.heap.size := by
  have hb : Below w3.heap.size w3 (w3.alloc o) := below_alloc (Below.refl _ _) o
  refine ⟨hS.below hb, grown_below hG hb, (hb.block g4 ?_).trans h4, heap_alloc_new _ _, hG.size⟩
  rcases Nat.lt_or_ge g4 w3.heap.size with h' | h'
  · exact h'
  · simp [Array.getElem?_eq_none h'] at h4
theorem slot_old {w w3 : World} {gO g cap g4 g6 : Nat} {ys : List Sy} {o4 : Obj} (hS : St w3 gO g cap ys) (hG : w.grownBy w3 (some g)) (h4 : w3.heap[g4]? = some o4) (a b u v : Value) (h6 : w3.heap[g6]? = some (.cells #[a, b] 47 (0, 0))) (hlt : w.heap.size ≤ g6) (hgl : g < w.heap.size) (hol : gO < w.heap.size) (hpos : 0 < w.heap.size) (h46 : g4 ≠ g6) :
    St ((w3.setCell ⟨g6, 0, none⟩ u).setCell ⟨g6, 1, none⟩ v) gO g cap ys ∧ w.grownBy ((w3.setCell ⟨g6, 0, none⟩ u).setCell ⟨g6, 1, none⟩ v) (some g) ∧ ((w3.setCell ⟨g6, 0, none⟩ u).setCell ⟨g6, 1, none⟩ v).heap[g4]? = some o4 ∧ ((w3.setCell ⟨g6, 0, none⟩ u).setCell ⟨g6, 1, none⟩ v).heap[g6]? = some (.cells #[u, v] 47 (0, 0)) ∧ w.heap.size ≤ g6 := by
  refine ⟨(hS.far ⟨g6, 0, none⟩ u (by show g6 ≠ 0; omega) (by show g6 ≠ gO; omega) (by show g6 ≠ g; omega)).far ⟨g6, 1, none⟩ v (by show g6 ≠ 0; omega) (by show g6 ≠ gO; omega) (by show g6 ≠ g; omega), grown_far (grown_far hG ⟨g6, 0, none⟩ u hlt) ⟨g6, 1, none⟩ v hlt, ?_, blk_put (blk_put h6 0 u rfl) 1 v rfl, hlt⟩
  rw [Below.heap_setCell _ _ _ _ h46, Below.heap_setCell _ _ _ _ h46]
  exact h4
/-- How FollowSymbols, MergeSymbols end: their answer lies in the block g4. -/
theorem ends {w w4 : World} {gO g cap g4 : Nat} {ys : List Sy} (hS : St w4 gO g cap ys) (hG : w.grownBy w4 (some g)) (h4 : w4.heap[g4]? = some (.cells #[.int .u32 0, .int .u32 0] 47 (0, 0))) (hlt : w.heap.size ≤ g4) (hgl : g < w.heap.size) (hol : gO < w.heap.size) (hpos : 0 < w.heap.size) (u v : Value) :
    St ((w4.setCell ⟨g4, 0, none⟩ u).setCell ⟨g4, 1, none⟩ v) gO g cap ys ∧ w.grownBy ((w4.setCell ⟨g4, 0, none⟩ u).setCell ⟨g4, 1, none⟩ v) (some g) ∧ ((w4.setCell ⟨g4, 0, none⟩ u).setCell ⟨g4, 1, none⟩ v).heap[g4]? = some (.cells #[u, v] 47 (0, 0)) :=
  ⟨(hS.far ⟨g4, 0, none⟩ u (by show g4 ≠ 0; omega) (by show g4 ≠ gO; omega) (by show g4 ≠ g; omega)).far ⟨g4, 1, none⟩ v (by show g4 ≠ 0; omega) (by show g4 ≠ gO; omega) (by show g4 ≠ g; omega), grown_far (grown_far hG ⟨g4, 0, none⟩ u hlt) ⟨g4, 1, none⟩ v hlt, blk_put (blk_put h4 0 u rfl) 1 v rfl⟩
def FollowSays (m : Nat) : Prop := ∀ (gO g cap : Nat) (xs : List Sy) (ρ d : Nat → Nat) (i : Nat) (w : World), St w gO g cap xs → xs.length ≤ 200 → Forest (lk xs) xs.length ρ d → i < xs.length → d i ≤ m →
  Calls Tryd.prog 18 #[.agg #[.slice (some ⟨gO, 0, none⟩) 1 1], .agg #[.int .u32 0, .int .u32 (i : Int)]] w fun e w' => e = .returned (.agg #[.int .u32 0, .int .u32 (ρ i : Int)]) ∧ ∃ ys, St w' gO g cap ys ∧ ys.length = xs.length ∧ Forest (lk ys) xs.length ρ d ∧ w.grownBy w' (some g)
set_option maxHeartbeats 4000000 in
set_option maxRecDepth 100000 in
theorem follow_step (m : Nat) (ih : ∀ m', m' < m → FollowSays m') : FollowSays m := by
  intro gO g cap xs ρ d i w h h200 hF hi hm
  obtain ⟨hB, h1, h2, h3, hsz⟩ := alloc3' w (.cells #[.slice (some ⟨gO, 0, none⟩) 1 1] 44 (0, 0)) (.cells #[.int .u32 0, .int .u32 (i : Int)] 47 (0, 0)) (.cells #[.int .u32 0, .int .u32 0] 47 (0, 0))
  generalize hWW : World.alloc (World.alloc (World.alloc w _) _) _ = W at hB h1 h2 h3 hsz
  have HWW := Lib.hid hWW
  have HW := Lib.hid hB
  have HA := Lib.hid h1
  have HB := Lib.hid h2
  have HC := Lib.hid h3
  have HS := Lib.hid (h.below hB)
  have HF := Lib.hid hF
  have HI := Lib.hid hi
  have HM := Lib.hid hm
  have H2 := Lib.hid h200
  have HG0 := Lib.hid (show g < w.heap.size ∧ gO < w.heap.size ∧ 0 < w.heap.size from ⟨h.lt, h.ltO.1, h.ltO.2⟩)
  have HIH := Lib.hid ih
  clear hWW hB h1 h2 h3 hsz hF hi hm h200 h ih
  cases hl : lk xs i with
  | none =>
    have HN := Lib.hid (HF.out.none_root HI.out hl)
    have HL := Lib.hid (show (rdS xs i).link = none from hl)
    clear hl
    go_enter Tryd.func18, Tryd.ntmps18
    go_wp2_with (first | (go_at_call 22; rw [HWW.out]; (with_reducible refine (Get.calls gO g cap xs i W HS.out HI.out H2.out).mono ?_); rintro e w1 ⟨rfl, hb⟩; have HB1 := Lib.hid hb; have HS1 := Lib.hid (HS.out.below hb); have b1 := (blk_cell ((hb.block _ (blk_lt HB.out)).trans HB.out) 0).trans rfl; have b2 := (blk_cell ((hb.block _ (blk_lt HB.out)).trans HB.out) 1).trans rfl; have hc1 := (hb.block _ (blk_lt HC.out)).trans HC.out; have HC1 := Lib.hid hc1; have c1 := (blk_cell hc1 0).trans rfl; have c2 := (blk_cell hc1 1).trans rfl; have cf1 := blk_frozen hc1 0; have cf2 := blk_frozen hc1 1; clear hb hc1; obtain ⟨xx, xf⟩ := HS1.out.elem i HI.out; have x2 : w1.cell? ⟨g, i * 10 + 2, none⟩ = some (.int .u32 4294967295) := (xx 2 _ rfl).trans (by rw [HL.out]; rfl); have x3 : w1.cell? ⟨g, i * 10 + 2 + 1, none⟩ = some (.int .u32 4294967295) := (xx 3 _ rfl).trans (by rw [HL.out]; rfl); clear xx xf; have z0 := Inv.c0 HS1.out.inv; have z1 := Inv.c1 HS1.out.inv))
    go_quiet (fail)
    go_wp2
    have hbl := (HW.out.trans (HB1.out.mono HW.out.size)).trans (pw_below_drewN (Below.refl w.heap.size w1) nq)
    have hg1 : w.heap.size ≤ w.heap.size + 1 + 1 := by omega
    have hn0 := HG0.out
    refine bodyPost_ret (results_cell_row rfl _ _ (w.heap.size + 1 + 1) 47 _ (0, 0) _ rfl (blk_put (blk_put (w := w1.drewN nq) HC1.out 0 (.int .u32 0) rfl) 1 (.int .u32 (i : Int)) rfl) Tryd.underlying47 rfl (by kernel_rfl)) rfl ?_
    exact ⟨by rw [HN.out]; rfl, xs, ((HS1.out.below (pw_below_drewN (Below.refl _ _) nq)).far ⟨w.heap.size + 1 + 1, 0, none⟩ _ (by show w.heap.size + 1 + 1 ≠ 0; omega) (by show w.heap.size + 1 + 1 ≠ gO; omega) (by show w.heap.size + 1 + 1 ≠ g; omega)).far ⟨w.heap.size + 1 + 1, 1, none⟩ _ (by show w.heap.size + 1 + 1 ≠ 0; omega) (by show w.heap.size + 1 + 1 ≠ gO; omega) (by show w.heap.size + 1 + 1 ≠ g; omega), rfl, HF.out, grown_below (grown_refl w g) ((hbl.setCell (p := ⟨w.heap.size + 1 + 1, 0, none⟩) hg1 _).setCell (p := ⟨w.heap.size + 1 + 1, 1, none⟩) hg1 _)⟩
  | some k =>
    have HX := Lib.hid (HF.out.some_next HI.out hl)
    have HL := Lib.hid (show (rdS xs i).link = some k from hl)
    clear hl
    have HCall := Lib.hid (fun (u : World) (hs : St u gO g cap xs) => HIH.out (d k) (Nat.lt_of_lt_of_le HX.out.2.2.1 HM.out) gO g cap xs ρ d k u hs H2.out HF.out HX.out.1 (Nat.le_refl _))
    go_enter Tryd.func18, Tryd.ntmps18
    go_wp2_with (first | (go_at_call 22; rw [HWW.out]; (with_reducible refine (Get.calls gO g cap xs i W HS.out HI.out H2.out).mono ?_); rintro e w1 ⟨rfl, hb⟩; have HB1 := Lib.hid hb; have HS1 := Lib.hid (HS.out.below hb); obtain ⟨xx, xf⟩ := HS1.out.elem i HI.out; have x2 : w1.cell? ⟨g, i * 10 + 2, none⟩ = some (.int .u32 0) := (xx 2 _ rfl).trans (by rw [HL.out]; rfl); have x3 : w1.cell? ⟨g, i * 10 + 2 + 1, none⟩ = some (.int .u32 (k : Int)) := (xx 3 _ rfl).trans (by rw [HL.out]; rfl); clear xx xf hb; have z0 := Inv.c0 HS1.out.inv; have z1 := Inv.c1 HS1.out.inv))
    go_quiet (fail)
    go_wp2
    generalize hw2 : w1.drewN nq = w2
    have hb2 : Below w1.heap.size w1 w2 := by rw [← hw2]; exact pw_below_drewN (Below.refl _ _) nq
    have HS2 := Lib.hid (HS1.out.below hb2)
    have HB2 := Lib.hid (show Below w.heap.size w w2 from (HW.out.trans (HB1.out.mono HW.out.size)).trans (hb2.mono (Nat.le_trans HW.out.size HB1.out.size)))
    have HA2 := Lib.hid ((hb2.block _ (Nat.lt_of_lt_of_le (blk_lt HA.out) HB1.out.size)).trans ((HB1.out.block _ (blk_lt HA.out)).trans HA.out))
    have HBB2 := Lib.hid ((hb2.block _ (Nat.lt_of_lt_of_le (blk_lt HB.out) HB1.out.size)).trans ((HB1.out.block _ (blk_lt HB.out)).trans HB.out))
    have HC2 := Lib.hid ((hb2.block _ (Nat.lt_of_lt_of_le (blk_lt HC.out) HB1.out.size)).trans ((HB1.out.block _ (blk_lt HC.out)).trans HC.out))
    clear hw2 hb2 x2 x3 z0 z1 HS1 HB1
    obtain ⟨xx, xf⟩ := HS2.out.elem i HI.out
    have x2 : w2.cell? ⟨g, i * 10 + 2, none⟩ = some (.int .u32 0) := (xx 2 _ rfl).trans (by rw [HL.out]; rfl)
    have x3 : w2.cell? ⟨g, i * 10 + 2 + 1, none⟩ = some (.int .u32 (k : Int)) := (xx 3 _ rfl).trans (by rw [HL.out]; rfl)
    clear xx xf
    have a1 := (blk_cell HA2.out 0).trans rfl
    have hglt : g < w2.heap.size := Nat.lt_of_lt_of_le HG0.out.1 HB2.out.size
    have hgne : (g = w2.heap.size) = False := eq_false (by omega)
    have hwlt : w.heap.size < w2.heap.size := blk_lt HA2.out
    have hwne : (w.heap.size = w2.heap.size) = False := eq_false (by omega)
    go_region_with (go_at_call 18; (with_reducible refine (HCall.out _ ?s).mono ?_); (case s => first | exact HS2.out.below (Below.refl _ _).drew | exact HS2.out.below (below_alloc (Below.refl _ _).drew _)); rintro e w3 ⟨rfl, ys, hS3, hlen, hF3, hg3⟩; have HS3 := Lib.hid hS3; have HN3 := Lib.hid hlen; have HF3 := Lib.hid hF3; have HG3 := Lib.hid (show w2.grownBy w3 (some g) from by first | exact below_grown (Below.refl _ _).drew hg3 | exact below_grown (below_alloc (Below.refl _ _) _).drew hg3 | exact below_grown (below_alloc (Below.refl _ _).drew _) hg3); (try (have hq := (hg3.block w2.heap.size (by simp) (by have := HG0.out; have := HB2.out.size; simp; omega)).trans (heap_alloc_new _ _); have HQ6 := Lib.hid hq; have y2 := (blk_cell hq 0).trans rfl; have y3 := (blk_cell hq 1).trans rfl; have yf2 := blk_frozen hq 0; have yf3 := blk_frozen hq 1; clear hq)); clear hS3 hlen hF3 hg3)
    all_goals
      have HY := Lib.hid (show ∃ k5, lk ys i = some k5 from by obtain ⟨q, hq, _⟩ := HF3.out.deep HI.out HX.out.2.2.2.1; exact ⟨q, hq⟩)
      have HG5 := Lib.hid (below_grown HB2.out HG3.out)
      have HC5 := Lib.hid (blk_grown HG3.out HC2.out (by have := HG0.out; omega))
      have hlast : ∃ (g6 : Nat) (w4 : World), True := ⟨0, w, trivial⟩
    all_goals first
      | (obtain ⟨h1, h2, h3, h4, h5⟩ := slot_old HS3.out HG5.out HC5.out _ _ (.int .u32 0) (.int .u32 (ρ k : Int)) HQ6.out HB2.out.size HG0.out.1 HG0.out.2.1 HG0.out.2.2 (by have := blk_lt HC2.out; omega); generalize World.setCell (World.setCell w3 _ _) _ _ = w4 at *; generalize w2.heap.size = g6 at h4 h5 ⊢; have HS4 := Lib.hid h1; have HG4 := Lib.hid h2; have HC4 := Lib.hid h3; have HX4 := Lib.hid h4; have HL4 := Lib.hid h5; clear h1 h2 h3 h4 h5 y2 y3 yf2 yf3)
      | (obtain ⟨h1, h2, h3, h4, h5⟩ := slot_new HS3.out HG5.out HC5.out (.cells #[.int .u32 0, .int .u32 (ρ k : Int)] 47 (0, 0)); generalize World.alloc w3 _ = w4 at *; generalize w3.heap.size = g6 at h4 h5 ⊢; have HS4 := Lib.hid h1; have HG4 := Lib.hid h2; have HC4 := Lib.hid h3; have HX4 := Lib.hid h4; have HL4 := Lib.hid h5; clear h1 h2 h3 h4 h5)
    all_goals clear hlast x2 x3 a1 hglt hgne hwlt hwne
    all_goals
      obtain ⟨k5, hk5⟩ := HY.out
      obtain ⟨xx, xf⟩ := HS4.out.elem i (by rw [HN3.out]; exact HI.out)
      have x2 : w4.cell? ⟨g, i * 10 + 2, none⟩ = some (.int .u32 0) := (xx 2 _ rfl).trans (by rw [show (rdS ys i).link = some k5 from hk5]; rfl)
      have x3 : w4.cell? ⟨g, i * 10 + 2 + 1, none⟩ = some (.int .u32 (k5 : Int)) := (xx 3 _ rfl).trans (by rw [show (rdS ys i).link = some k5 from hk5]; rfl)
      have xf2 := xf 2
      have xf3 : w4.frozen? ⟨g, i * 10 + 2 + 1, none⟩ = false := xf 3
      have y2 := (blk_cell HX4.out 0).trans rfl
      have y3 := (blk_cell HX4.out 1).trans rfl
      have c2 := (blk_cell HC4.out 0).trans rfl
      have c3 := (blk_cell HC4.out 1).trans rfl
      have cf2 := blk_frozen HC4.out 0
      have cf3 := blk_frozen HC4.out 1
      have hgl : g < g6 := Nat.lt_of_lt_of_le HG0.out.1 HL4.out
      have hg4 : g < w.heap.size + 1 + 1 := by have := HG0.out; omega
      have HK5 := Lib.hid hk5
      clear hk5 xx xf
      have hn0 := HG0.out
      have hl4 : w.heap.size ≤ w.heap.size + 1 + 1 := by omega
      have hiy : i < ys.length := by rw [HN3.out]; exact HI.out
      by_cases hr : k5 = ρ k
      · have hD : ∀ n : Nat, _ := fun n => ends (HS4.out.below (pw_below_drewN (Below.refl _ _) n)) (grown_below HG4.out (pw_below_drewN (Below.refl _ _) n)) (w4 := w4.drewN n) HC4.out hl4 hn0.1 hn0.2.1 hn0.2.2 (.int .u32 0) (.int .u32 (ρ k : Int))
        have HD := Lib.hid hD
        clear hD
        subst hr
        go_wp2
        go_quiet (fail)
        go_wp2
        refine bodyPost_ret (results_cell_row rfl _ _ (w.heap.size + 1 + 1) 47 _ (0, 0) _ rfl (HD.out _).2.2 Tryd.underlying47 rfl (by kernel_rfl)) rfl ?_
        exact ⟨by rw [← HX.out.2.1], ys, (HD.out _).1, HN3.out, HF3.out, (HD.out _).2.1⟩
      · have q1 : ((k5 : Int) == (ρ k : Int)) = false := beq_eq_false_iff_ne.mpr (by omega)
        have q2 : ((k5 : Int) = (ρ k : Int)) = False := eq_false (by omega)
        have q3 : (k5 = ρ k) = False := eq_false hr
        have hD : ∀ n : Nat, _ := fun n => ends ((HS4.out.below (pw_below_drewN (Below.refl _ _) n)).link i hiy (ρ k)) (grown_set (grown_below HG4.out (pw_below_drewN (Below.refl _ _) n)) (i * 10 + 2) [.int .u32 0, .int .u32 (ρ k : Int)]) (w4 := ((w4.drewN n).setCell ⟨g, i * 10 + 2, none⟩ (.int .u32 0)).setCell ⟨g, i * 10 + 2 + 1, none⟩ (.int .u32 (ρ k : Int))) (by rw [Below.heap_setCell _ _ _ _ (by show w.heap.size + 1 + 1 ≠ g; omega), Below.heap_setCell _ _ _ _ (by show w.heap.size + 1 + 1 ≠ g; omega)]; exact HC4.out) hl4 hn0.1 hn0.2.1 hn0.2.2 (.int .u32 0) (.int .u32 (ρ k : Int))
        have HD := Lib.hid hD
        have HR := Lib.hid (show Forest (lk (ys.set i { rdS ys i with link := some (ρ k) })) xs.length ρ d from HF3.out.short (by rw [HX.out.2.1]; exact HF.out.lt HI.out) (by rw [HX.out.2.1]; exact HF.out.idem HI.out) (by rw [HX.out.2.1]; exact HX.out.2.2.2.2) (fun x => lk_set ys i hiy _ x))
        clear hr hD
        go_wp2
        go_quiet (fail)
        go_wp2
        refine bodyPost_ret (results_cell_row rfl _ _ (w.heap.size + 1 + 1) 47 _ (0, 0) _ rfl (HD.out _).2.2 Tryd.underlying47 rfl (by kernel_rfl)) rfl ?_
        exact ⟨by rw [← HX.out.2.1], _, (HD.out _).1, by rw [List.length_set]; exact HN3.out, HR.out, (HD.out _).2.1⟩
theorem Follow.calls (gO g cap : Nat) (xs : List Sy) (ρ d : Nat → Nat) (i : Nat) (w : World) (h : St w gO g cap xs) (h200 : xs.length ≤ 200) (hF : Forest (lk xs) xs.length ρ d) (hi : i < xs.length) :
    Calls Tryd.prog 18 #[.agg #[.slice (some ⟨gO, 0, none⟩) 1 1], .agg #[.int .u32 0, .int .u32 (i : Int)]] w fun e w' => e = .returned (.agg #[.int .u32 0, .int .u32 (ρ i : Int)]) ∧ ∃ ys, St w' gO g cap ys ∧ ys.length = xs.length ∧ Forest (lk ys) xs.length ρ d ∧ w.grownBy w' (some g) := by
  have h2 : ∀ m, FollowSays m := fun m => Nat.strongRecOn m follow_step
  exact h2 (d i) gO g cap xs ρ d i w h h200 hF hi (Nat.le_refl _)
end Go.Proofs.YtfjfacgbambbdaaDoor
