/- The contract of helpers.internalQuote: what a text becomes in quotes. The first loop, over the text's runes, is walked by hand; the rest is the printed walk. -/
import Derived.Test.YtmgepjnaalnckaaPinternalQuotex0
import Derived.Test.YtmgepjnaalnckaaPinternalQuotex1
import Derived.Test.YtmgepjnaalnckaaPRuneLenx1
import Derived.Laws.RangeAny
import Derived.Laws.RangeString
import Derived.Laws.MakeOwn
import Derived.Lib.OthersKept
import Derived.Lib.QuoteLoop
import Derived.Lib.DecodeN
import Derived.LoopTactic
import Derived.Lib.Hide
import Derived.Below
import Derived.Deep.CutBlock
import Derived.Deep.DeepCutAuto
namespace Go.Proofs.Ytmgepjnaalnckaa.PinternalQuote
open Go.RowKit Go.Proofs.YtmgepjnaalnckaaW.PrintWords Go.Proofs.YtmgepjnaalnckaaW.PrintLast Go.Proofs.YtmgepjnaalnckaaW.PrintMore
attribute [local go_sem] max2_int min2_int max_two min_two max_three min_three max_four min_four   -- for this text's walks alone
set_option linter.unusedVariables false
set_option linter.unusedSimpArgs false

/-! ### helpers_internalQuote: function 25 -/
mutual
def helpers_internalQuote.l0 : Nat → ByteArray → Bool → Int → List Int → Int → Int → Option (List Int)
  | 0, _, _, _, _, _, _ => none
  | k + 1, x0, x1, x2, x10, x11, x12 => if x11 < x12 then (if 0 ≤ x11 then (if x11 ≤ (x0.size : Int) then ((helpers_DecodeWTF8Rune.f k (x0.extract (x11 : Int).toNat x0.size)).bind fun bt110 => ((helpers_canPrintWithoutEscape.f bt110.1 x1).bind fun t112 => (if t112 = true then (helpers_internalQuote.l1 k x0 x1 x2 x10 (wrap64 (x11 + bt110.2)) x12 x11) else (if bt110.1 = 8 then (if x10.length + 2 < 140737488355328 then (helpers_internalQuote.l0 k x0 x1 x2 (x10 ++ bytesOf (⟨#[92, 98]⟩ : ByteArray)) (wrap64 (x11 + 1)) x12) else (none)) else (if bt110.1 = 12 then (if x10.length + 2 < 140737488355328 then (helpers_internalQuote.l0 k x0 x1 x2 (x10 ++ bytesOf (⟨#[92, 102]⟩ : ByteArray)) (wrap64 (x11 + 1)) x12) else (none)) else (if bt110.1 = 10 then (if x10.length + 2 < 140737488355328 then (helpers_internalQuote.l0 k x0 x1 x2 (x10 ++ bytesOf (⟨#[92, 110]⟩ : ByteArray)) (wrap64 (x11 + 1)) x12) else (none)) else (if bt110.1 = 13 then (if x10.length + 2 < 140737488355328 then (helpers_internalQuote.l0 k x0 x1 x2 (x10 ++ bytesOf (⟨#[92, 114]⟩ : ByteArray)) (wrap64 (x11 + 1)) x12) else (none)) else (if bt110.1 = 9 then (if x10.length + 2 < 140737488355328 then (helpers_internalQuote.l0 k x0 x1 x2 (x10 ++ bytesOf (⟨#[92, 116]⟩ : ByteArray)) (wrap64 (x11 + 1)) x12) else (none)) else (if bt110.1 = 92 then (if x10.length + 2 < 140737488355328 then (helpers_internalQuote.l0 k x0 x1 x2 (x10 ++ bytesOf (⟨#[92, 92]⟩ : ByteArray)) (wrap64 (x11 + 1)) x12) else (none)) else (if bt110.1 = 34 then (if x2 = 34 then (none) else (if x10.length < 140737488355328 then (helpers_internalQuote.l0 k x0 x1 x2 (x10 ++ [34]) (wrap64 (x11 + 1)) x12) else (none))) else (if bt110.1 = 39 then (none) else (if bt110.1 ≤ 65535 then (if 0 ≤ (bt110.1 / 4096) then (if (bt110.1 / 4096) < 16 then (if 0 ≤ (Go.bits .and .i32 (bt110.1 / 256) 15) then (if (Go.bits .and .i32 (bt110.1 / 256) 15) < 16 then (if 0 ≤ (Go.bits .and .i32 (bt110.1 / 16) 15) then (if (Go.bits .and .i32 (bt110.1 / 16) 15) < 16 then (if 0 ≤ (Go.bits .and .i32 bt110.1 15) then (if (Go.bits .and .i32 bt110.1 15) < 16 then ((some (([92, 117, bt (⟨#[48, 49, 50, 51, 52, 53, 54, 55, 56, 57, 65, 66, 67, 68, 69, 70]⟩ : ByteArray) (bt110.1 / 4096), bt (⟨#[48, 49, 50, 51, 52, 53, 54, 55, 56, 57, 65, 66, 67, 68, 69, 70]⟩ : ByteArray) (Go.bits .and .i32 (bt110.1 / 256) 15), bt (⟨#[48, 49, 50, 51, 52, 53, 54, 55, 56, 57, 65, 66, 67, 68, 69, 70]⟩ : ByteArray) (Go.bits .and .i32 (bt110.1 / 16) 15), bt (⟨#[48, 49, 50, 51, 52, 53, 54, 55, 56, 57, 65, 66, 67, 68, 69, 70]⟩ : ByteArray) (Go.bits .and .i32 bt110.1 15)] : List Int) : List Int)).bind fun y152 => (if x10.length + y152.length < 140737488355328 then (helpers_internalQuote.l0 k x0 x1 x2 (x10 ++ y152) (wrap64 (x11 + bt110.2)) x12) else (none))) else (none)) else (none)) else (none)) else (none)) else (none)) else (none)) else (none)) else (none)) else (if 0 ≤ ((wrap32 (55296 + (Go.bits .and .i32 ((wrap32 (bt110.1 - 65536)) / 1024) 1023))) / 4096) then (if ((wrap32 (55296 + (Go.bits .and .i32 ((wrap32 (bt110.1 - 65536)) / 1024) 1023))) / 4096) < 16 then (if 0 ≤ (Go.bits .and .i32 ((wrap32 (55296 + (Go.bits .and .i32 ((wrap32 (bt110.1 - 65536)) / 1024) 1023))) / 256) 15) then (if (Go.bits .and .i32 ((wrap32 (55296 + (Go.bits .and .i32 ((wrap32 (bt110.1 - 65536)) / 1024) 1023))) / 256) 15) < 16 then (if 0 ≤ (Go.bits .and .i32 ((wrap32 (55296 + (Go.bits .and .i32 ((wrap32 (bt110.1 - 65536)) / 1024) 1023))) / 16) 15) then (if (Go.bits .and .i32 ((wrap32 (55296 + (Go.bits .and .i32 ((wrap32 (bt110.1 - 65536)) / 1024) 1023))) / 16) 15) < 16 then (if 0 ≤ (Go.bits .and .i32 (wrap32 (55296 + (Go.bits .and .i32 ((wrap32 (bt110.1 - 65536)) / 1024) 1023))) 15) then (if (Go.bits .and .i32 (wrap32 (55296 + (Go.bits .and .i32 ((wrap32 (bt110.1 - 65536)) / 1024) 1023))) 15) < 16 then (if 0 ≤ ((wrap32 (56320 + (Go.bits .and .i32 (wrap32 (bt110.1 - 65536)) 1023))) / 4096) then (if ((wrap32 (56320 + (Go.bits .and .i32 (wrap32 (bt110.1 - 65536)) 1023))) / 4096) < 16 then (if 0 ≤ (Go.bits .and .i32 ((wrap32 (56320 + (Go.bits .and .i32 (wrap32 (bt110.1 - 65536)) 1023))) / 256) 15) then (if (Go.bits .and .i32 ((wrap32 (56320 + (Go.bits .and .i32 (wrap32 (bt110.1 - 65536)) 1023))) / 256) 15) < 16 then (if 0 ≤ (Go.bits .and .i32 ((wrap32 (56320 + (Go.bits .and .i32 (wrap32 (bt110.1 - 65536)) 1023))) / 16) 15) then (if (Go.bits .and .i32 ((wrap32 (56320 + (Go.bits .and .i32 (wrap32 (bt110.1 - 65536)) 1023))) / 16) 15) < 16 then (if 0 ≤ (Go.bits .and .i32 (wrap32 (56320 + (Go.bits .and .i32 (wrap32 (bt110.1 - 65536)) 1023))) 15) then (if (Go.bits .and .i32 (wrap32 (56320 + (Go.bits .and .i32 (wrap32 (bt110.1 - 65536)) 1023))) 15) < 16 then ((some (([92, 117, bt (⟨#[48, 49, 50, 51, 52, 53, 54, 55, 56, 57, 65, 66, 67, 68, 69, 70]⟩ : ByteArray) ((wrap32 (55296 + (Go.bits .and .i32 ((wrap32 (bt110.1 - 65536)) / 1024) 1023))) / 4096), bt (⟨#[48, 49, 50, 51, 52, 53, 54, 55, 56, 57, 65, 66, 67, 68, 69, 70]⟩ : ByteArray) (Go.bits .and .i32 ((wrap32 (55296 + (Go.bits .and .i32 ((wrap32 (bt110.1 - 65536)) / 1024) 1023))) / 256) 15), bt (⟨#[48, 49, 50, 51, 52, 53, 54, 55, 56, 57, 65, 66, 67, 68, 69, 70]⟩ : ByteArray) (Go.bits .and .i32 ((wrap32 (55296 + (Go.bits .and .i32 ((wrap32 (bt110.1 - 65536)) / 1024) 1023))) / 16) 15), bt (⟨#[48, 49, 50, 51, 52, 53, 54, 55, 56, 57, 65, 66, 67, 68, 69, 70]⟩ : ByteArray) (Go.bits .and .i32 (wrap32 (55296 + (Go.bits .and .i32 ((wrap32 (bt110.1 - 65536)) / 1024) 1023))) 15), 92, 117, bt (⟨#[48, 49, 50, 51, 52, 53, 54, 55, 56, 57, 65, 66, 67, 68, 69, 70]⟩ : ByteArray) ((wrap32 (56320 + (Go.bits .and .i32 (wrap32 (bt110.1 - 65536)) 1023))) / 4096), bt (⟨#[48, 49, 50, 51, 52, 53, 54, 55, 56, 57, 65, 66, 67, 68, 69, 70]⟩ : ByteArray) (Go.bits .and .i32 ((wrap32 (56320 + (Go.bits .and .i32 (wrap32 (bt110.1 - 65536)) 1023))) / 256) 15), bt (⟨#[48, 49, 50, 51, 52, 53, 54, 55, 56, 57, 65, 66, 67, 68, 69, 70]⟩ : ByteArray) (Go.bits .and .i32 ((wrap32 (56320 + (Go.bits .and .i32 (wrap32 (bt110.1 - 65536)) 1023))) / 16) 15), bt (⟨#[48, 49, 50, 51, 52, 53, 54, 55, 56, 57, 65, 66, 67, 68, 69, 70]⟩ : ByteArray) (Go.bits .and .i32 (wrap32 (56320 + (Go.bits .and .i32 (wrap32 (bt110.1 - 65536)) 1023))) 15)] : List Int) : List Int)).bind fun y158 => (if x10.length + y158.length < 140737488355328 then (helpers_internalQuote.l0 k x0 x1 x2 (x10 ++ y158) (wrap64 (x11 + bt110.2)) x12) else (none))) else (none)) else (none)) else (none)) else (none)) else (none)) else (none)) else (none)) else (none)) else (none)) else (none)) else (none)) else (none)) else (none)) else (none)) else (none)) else (none)))))))))))))) else (none)) else (none)) else (if x10.length < 140737488355328 then (some (x10 ++ [x2])) else (none))
def helpers_internalQuote.l1 : Nat → ByteArray → Bool → Int → List Int → Int → Int → Int → Option (List Int)
  | 0, _, _, _, _, _, _, _ => none
  | k + 1, x0, x1, x2, x10, x11, x12, x15 => if x11 < x12 then (if 0 ≤ x11 then (if x11 ≤ (x0.size : Int) then ((helpers_DecodeWTF8Rune.f k (x0.extract (x11 : Int).toNat x0.size)).bind fun bt116 => ((helpers_canPrintWithoutEscape.f bt116.1 x1).bind fun t118 => (if t118 = true then (helpers_internalQuote.l1 k x0 x1 x2 x10 (wrap64 (x11 + bt116.2)) x12 x15) else (if 0 ≤ x15 then (if x15 ≤ x11 then (if x10.length + (x0.extract (x15 : Int).toNat (x11 : Int).toNat).size < 140737488355328 then (helpers_internalQuote.l0 k x0 x1 x2 (x10 ++ bytesOf (x0.extract (x15 : Int).toNat (x11 : Int).toNat)) x11 x12) else (none)) else (none)) else (none))))) else (none)) else (none)) else (if 0 ≤ x15 then (if x15 ≤ x11 then (if x11 ≤ (x0.size : Int) then (if x10.length + (x0.extract (x15 : Int).toNat (x11 : Int).toNat).size < 140737488355328 then (helpers_internalQuote.l0 k x0 x1 x2 (x10 ++ bytesOf (x0.extract (x15 : Int).toNat (x11 : Int).toNat)) x11 x12) else (none)) else (none)) else (none)) else (none))
end
def helpers_internalQuote.f (k : Nat) (a0 : ByteArray) (a1 : Bool) (a2 : Int) : Option (List Int) := (some (([] : List Int) : List Int)).bind fun y101 => (if y101.length < 140737488355328 then (helpers_internalQuote.l0 k a0 a1 a2 (y101 ++ [a2]) 0 (a0.size : Int)) else (none))
theorem helpers_internalQuote.mono_l : ∀ k, (∀ y0 y1 y2 y3 y4 y5, LeO (helpers_internalQuote.l0 k y0 y1 y2 y3 y4 y5) (helpers_internalQuote.l0 (k + 1) y0 y1 y2 y3 y4 y5)) ∧ (∀ y0 y1 y2 y3 y4 y5 y6, LeO (helpers_internalQuote.l1 k y0 y1 y2 y3 y4 y5 y6) (helpers_internalQuote.l1 (k + 1) y0 y1 y2 y3 y4 y5 y6))
  | 0 => ⟨fun _ _ _ _ _ _ r h => by simp [helpers_internalQuote.l0] at h, fun _ _ _ _ _ _ _ r h => by simp [helpers_internalQuote.l1] at h⟩
  | k + 1 => by
    obtain ⟨ih0, ih1⟩ := helpers_internalQuote.mono_l k
    refine ⟨?_, ?_⟩
    · intro y0 y1 y2 y3 y4 y5
      unfold helpers_internalQuote.l0
      repeat' first
      | (with_reducible exact ih0 _ _ _ _ _ _)
      | (with_reducible exact ih1 _ _ _ _ _ _ _)
      | (with_reducible exact helpers_DecodeWTF8Rune.mono _ _)
      | (with_reducible exact LeO.refl _)
      | (with_reducible exact LeO.none _)
      | (with_reducible refine LeO.ite ?_ ?_)
      | (with_reducible refine LeO.bind ?_ (fun _ => ?_))
      | exact ih0 _ _ _ _ _ _
      | exact ih1 _ _ _ _ _ _ _
      | exact helpers_DecodeWTF8Rune.mono _ _
      | exact LeO.none _
      | refine LeO.ite ?_ ?_
      | refine LeO.bind ?_ (fun _ => ?_)
    · intro y0 y1 y2 y3 y4 y5 y6
      unfold helpers_internalQuote.l1
      repeat' first
      | (with_reducible exact ih0 _ _ _ _ _ _)
      | (with_reducible exact ih1 _ _ _ _ _ _ _)
      | (with_reducible exact helpers_DecodeWTF8Rune.mono _ _)
      | (with_reducible exact LeO.refl _)
      | (with_reducible exact LeO.none _)
      | (with_reducible refine LeO.ite ?_ ?_)
      | (with_reducible refine LeO.bind ?_ (fun _ => ?_))
      | exact ih0 _ _ _ _ _ _
      | exact ih1 _ _ _ _ _ _ _
      | exact helpers_DecodeWTF8Rune.mono _ _
      | exact LeO.none _
      | refine LeO.ite ?_ ?_
      | refine LeO.bind ?_ (fun _ => ?_)
theorem helpers_internalQuote.mono : ∀ a0 a1 a2 k, LeO (helpers_internalQuote.f k a0 a1 a2) (helpers_internalQuote.f (k + 1) a0 a1 a2) := by
  intro a0 a1 a2 k
  obtain ⟨ih0, ih1⟩ := helpers_internalQuote.mono_l k
  unfold helpers_internalQuote.f
  repeat' first
      | (with_reducible exact ih0 _ _ _ _ _ _)
      | (with_reducible exact ih1 _ _ _ _ _ _ _)
      | (with_reducible exact helpers_DecodeWTF8Rune.mono _ _)
      | (with_reducible exact LeO.refl _)
      | (with_reducible exact LeO.none _)
      | (with_reducible refine LeO.ite ?_ ?_)
      | (with_reducible refine LeO.bind ?_ (fun _ => ?_))
      | exact ih0 _ _ _ _ _ _
      | exact ih1 _ _ _ _ _ _ _
      | exact helpers_DecodeWTF8Rune.mono _ _
      | exact LeO.none _
      | refine LeO.ite ?_ ?_
      | refine LeO.bind ?_ (fun _ => ?_)
def helpers_internalQuote.T41 : Bool × List (List Nat × List Nat) := (true, [([], []), ([], []), ([1], [1]), ([2], [2]), ([], []), ([4], [4]), ([5], [5]), ([6], [6]), ([], []), ([8], [8]), ([9], [9]), ([10], [10]), ([], []), ([12], [12]), ([13], [13]), ([3, 7, 11, 14], [3, 7, 11, 14]), ([0, 15], [0, 15]), ([16, 16, 0, 1, 2, 3, 4, 5, 6, 7, 8, 9, 10, 11, 12, 13, 14, 15, 16], [0, 16])])
def helpers_internalQuote.B41 : List Nat := [0, 0, 2, 6, 0, 16, 48, 112, 0, 256, 768, 1792, 0, 4096, 12288, 32766, 65535, 131071]
theorem helpers_internalQuote.tab41 : rtab .any (opsOf Try.f25 41) = helpers_internalQuote.T41 := by kernel_rfl
theorem helpers_internalQuote.bits41 : waitsOk helpers_internalQuote.T41.2 helpers_internalQuote.B41 = true := by kernel_rfl
def helpers_internalQuote.T45 : Bool × List (List Nat × List Nat) := (true, [([], []), ([], []), ([1], [1]), ([2], [2]), ([], []), ([4], [4]), ([5], [5]), ([6], [6]), ([], []), ([8], [8]), ([9], [9]), ([10], [10]), ([], []), ([12], [12]), ([13], [13]), ([], []), ([15], [15]), ([16], [16]), ([], []), ([18], [18]), ([19], [19]), ([20], [20]), ([], []), ([22], [22]), ([23], [23]), ([24], [24]), ([], []), ([26], [26]), ([27], [27]), ([3, 7, 11, 14, 17, 21, 25, 28], [3, 7, 11, 14, 17, 21, 25, 28]), ([0, 29], [0, 29]), ([30, 30, 0, 1, 2, 3, 4, 5, 6, 7, 8, 9, 10, 11, 12, 13, 14, 15, 16, 17, 18, 19, 20, 21, 22, 23, 24, 25, 26, 27, 28, 29, 30], [0, 30])])
def helpers_internalQuote.B45 : List Nat := [0, 0, 2, 6, 0, 16, 48, 112, 0, 256, 768, 1792, 0, 4096, 12288, 0, 32768, 98304, 0, 262144, 786432, 1835008, 0, 4194304, 12582912, 29360128, 0, 67108864, 201326592, 536870910, 1073741823, 2147483647]
theorem helpers_internalQuote.tab45 : rtab .any (opsOf Try.f25 45) = helpers_internalQuote.T45 := by kernel_rfl
theorem helpers_internalQuote.bits45 : waitsOk helpers_internalQuote.T45.2 helpers_internalQuote.B45 = true := by kernel_rfl

/-! ### the first loop: an estimate of the length -/
theorem width_pos (s : ByteArray) (pos : Nat) (h : pos < s.size) : 1 ≤ (Utf8.decode s pos).2 := by
  by_cases ha : (s[pos]'h).toNat < 128
  · rw [decode_ascii s pos h ha]
    exact Nat.le_refl _
  · exact (decode_high s pos h (by omega)).2
theorem decode_valid (s : ByteArray) (pos : Nat) : (Utf8.decode s pos).1 < 55296 ∨ (57343 < (Utf8.decode s pos).1 ∧ (Utf8.decode s pos).1 ≤ 1114111) := by
  rw [Lib.decode_at]
  exact Lib.decodeN_valid _ _ _ _ _ (UInt8.toNat_lt _)
theorem runeLen_tells (c : Int) (h0 : 0 ≤ c) (h : c < 55296 ∨ (57343 < c ∧ c ≤ 1114111)) : ∃ n, PRuneLen.utf8_RuneLen.f 2 c = some n ∧ 1 ≤ n ∧ n ≤ 4 := by
  unfold PRuneLen.utf8_RuneLen.f
  rw [if_neg (by omega)]
  by_cases c1 : c ≤ 127
  · exact ⟨1, by rw [if_pos c1], by omega, by omega⟩
  rw [if_neg c1]
  by_cases c2 : c ≤ 2047
  · exact ⟨2, by rw [if_pos c2], by omega, by omega⟩
  rw [if_neg c2]
  have hj : ∃ n, PRuneLen.utf8_RuneLen.j0 2 c false = some n ∧ 1 ≤ n ∧ n ≤ 4 := by
    simp only [PRuneLen.utf8_RuneLen.j0, Bool.false_eq_true, if_false]
    by_cases c3 : c ≤ 65535
    · exact ⟨3, by rw [if_pos c3], by omega, by omega⟩
    · exact ⟨4, by rw [if_neg c3, if_pos (by omega)], by omega, by omega⟩
  by_cases c4 : 55296 ≤ c
  · rw [if_pos c4, decide_eq_false (by omega)]; exact hj
  · rw [if_neg c4]; exact hj
theorem canPrint_total (c : Int) (a : Bool) : ∃ b, helpers_canPrintWithoutEscape.f c a = some b := by
  have h : (helpers_canPrintWithoutEscape.f c a).isSome = true := by
    cases a <;> (unfold helpers_canPrintWithoutEscape.f; repeat' split) <;> first | rfl | simp_all
  exact Option.isSome_iff_exists.1 h
/-- The iterator's block, and nothing else made. -/
def GI (w : World) (s : ByteArray) (pos : Nat) (wr : World) : Prop := wr.heap[w.heap.size]? = some (.stringIter s pos) ∧ Below w.heap.size w wr
theorem GI.iter {w wr : World} {s : ByteArray} {pos : Nat} (h : GI w s pos wr) (q : Nat) : GI w s q (wr.iterAt w.heap.size s q) := ⟨Lib.iterAt_heap wr _ s pos q h.1, Lib.below_iterAt h.2 (Nat.le_refl _) s q⟩
theorem GI.drewN {w wr : World} {s : ByteArray} {pos : Nat} (h : GI w s pos wr) (n : Nat) : GI w s pos (wr.drewN n) := ⟨h.1, pw_below_drewN h.2 n⟩
theorem GI.start (w : World) (s : ByteArray) : GI w s 0 (w.iter s 0) := ⟨heap_alloc_new w _, below_alloc (Below.refl _ _) _⟩
theorem GI.pos {w wr : World} {s : ByteArray} {pos : Nat} (h : GI w s pos wr) : wr.iterPos w.heap.size = pos := by simp [World.iterPos, h.1]
theorem decode_width_le (s : ByteArray) (pos : Nat) (h : pos < s.size) : (Utf8.decode s pos).2 ≤ s.size - pos := by
  rw [Lib.decode_at]
  exact Lib.decodeN_width_le _ _ _ _ _ (by omega)
section
variable {ops : Array Oper} {rest : List Oper} {o : Oper} {a : Act} {Q : Exit → Act → World → Prop}
theorem R_make_cap {w0 W : World} (base : Nat) {N : Tmp} (hgd : o.guard = none) (_hd : o.dst = some N) (ho : o.op = .makeSlice 34 (.const (.int .i64 0)) (.tmp 58)) (est : Nat) (hx : a.eval (.tmp 58) = .int .i64 (est : Int))
    (hl : est ≤ 281474976710656) (HB : Below base w0 W) (hbase : base ≤ W.heap.size)
    (h : ∀ v1 w1, Kd.R (Kd.int .u8) 5 w1 base (fun _ => True) v1 ([] : List Int) → Below base w0 w1 → wpList Try.prog ops Q rest (a.put o.dst v1) w1) : wpList Try.prog ops Q (o :: rest) a W := by
  obtain ⟨i, hi, hz⟩ := Option.map_eq_some_iff.1 info5
  simp only [Prod.mk.injEq] at hz
  obtain ⟨hz0, hz1, hz2⟩ := hz
  have hr := run_make (P := Try.prog) W 34 5 i _ Try.underlying34 hi hz0 .i64 .i64 0 (est : Int) (by omega) (by omega) (by rw [hz2]; omega) (by omega)
  simp only [Int.toNat_zero, Int.toNat_natCast, hz1, Nat.mul_one] at hr
  have he : ∀ t, (execOp a.eval t).run Try.prog W = (execOp a.eval t).run Try.prog W := fun _ => rfl
  refine Kd.event_run hgd (v := .slice (some ⟨W.heap.size, 0, none⟩) 0 est) (w1 := W.alloc (.cells (madeCells (Value.int .u8 0).cells est) 5)) ?_ (h _ _ ⟨fun _ _ => trivial, [], World.ownsRow_made W _ est hbase (by simp [maxLen]; omega) (by rw [size_madeCells]; exact (Nat.mul_one _).symm), Reps.none _ _⟩ (HB.alloc hbase _))
  have hc : a.eval (.const (.int .i64 0)) = .int .i64 0 := rfl
  simp [execOp, ho, hx, hc, hr]
end

def seqR : Code → Code
  | .seq _ b => b
  | c => c
/-- The region of a code with a number. -/
def findR (n : Nat) : Code → Option Code
  | .region m ops d => if m = n then some (.region m ops d) else none
  | .seq a b => (findR n a).orElse fun _ => findR n b
  | .cond _ a b => (findR n a).orElse fun _ => findR n b
  | .block _ a => findR n a
  | .loop a => findR n a
  | _ => none
/-! ### the contract -/
set_option maxHeartbeats 16000000 in
set_option maxRecDepth 100000 in
theorem quote_region41 {u0 u1 u2 u3 u4 u5 u6 u7 u8 u9 u10 u11 u12 u14 u15 u16 u17 u18 u19 u20 u21 u22 u23 u24 u25 u26 u27 u28 u29 u30 u31 u32 u33 u34 u35 u36 u37 u38 u39 u40 u41 u42 u43 u44 u45 u46 u47 u48 u49 u50 u51 u52 u53 u54 u55 u56 u57 u58 u59 u60 u61 u62 u63 u64 u65 u66 u67 u68 u69 u70 u71 u72 u73 u74 u75 u76 u77 u78 u79 u80 u81 u82 u83 u84 u85 u86 u87 u88 u89 u90 u91 u92 u93 u94 u95 u96 u97 u98 u99 u100 u101 u102 u103 u104 u105 u106 u107 u108 u109 u110 u111 u112 u113 u114 u115 u116 u117 u118 u119 u120 u121 u122 u123 u124 u125 u126 u127 u128 u129 u130 u131 u132 u133 u134 u135 u136 u137 u138 u139 u140 u141 u142 u143 u144 u145 u146 u147 u148 u149 u150 u151 u152 u153 u154 u155 u156 u157 u158 u159 u160 u161 u162 u163 u164 u165 u166 u167 u168 u169 u170 u171 u172 u173 u174 u175 u176 u177 u178 u179 u180 u181 u182 u183 u184 u185 u186 u187 u188 u189 u190 u191 u192 u193 u194 u195 u196 u197 u198 u199 u200 u201 u202 u203 u204 u205 u206 u207 u208 u209 u210 u211 u212 u213 u214 u215 u216 u217 u218 u219 u220 u221 u222 u223 u224 u225 u226 u227 u228 u229 u230 : Value} (w wr : World) (t110 : Int) (x10_1 : List Int) (HO_10 : Aside0 (Kd.R (Kd.int .u8) 5 wr w.heap.size (fun _ => True) u10 x10_1)) (HB : Aside0 (Below w.heap.size w wr)) (c60b0 : decide (t110 ≤ 65535) = true) (ji61 : Int) (hji61 : (t110 / 4096) = ji61) (c62b0 : decide (0 ≤ (ji61)) = true) (c63b0 : decide ((ji61) < 16) = true) (ji65 : Int) (hji65 : (Go.bits .and .i32 (t110 / 256) 15) = ji65) (c66b0 : decide (0 ≤ (ji65)) = true) (c67b0 : decide ((ji65) < 16) = true) (ji69 : Int) (hji69 : (Go.bits .and .i32 (t110 / 16) 15) = ji69) (c70b0 : decide (0 ≤ (ji69)) = true) (c71b0 : decide ((ji69) < 16) = true) (c73b0 : decide (0 ≤ (Go.bits .and .i32 t110 15)) = true) (c74b0 : decide ((Go.bits .and .i32 t110 15) < 16) = true) (y152 : List Int) (Ny152 : Aside0 (y152 = (([92, 117, bt (⟨#[48, 49, 50, 51, 52, 53, 54, 55, 56, 57, 65, 66, 67, 68, 69, 70]⟩ : ByteArray) (ji61), bt (⟨#[48, 49, 50, 51, 52, 53, 54, 55, 56, 57, 65, 66, 67, 68, 69, 70]⟩ : ByteArray) (ji65), bt (⟨#[48, 49, 50, 51, 52, 53, 54, 55, 56, 57, 65, 66, 67, 68, 69, 70]⟩ : ByteArray) (ji69), bt (⟨#[48, 49, 50, 51, 52, 53, 54, 55, 56, 57, 65, 66, 67, 68, 69, 70]⟩ : ByteArray) (Go.bits .and .i32 t110 15)] : List Int)))) (LMc76 : Aside0 (x10_1.length + y152.length < 140737488355328)) (y155 : List Int) (Ny155 : Aside0 (y155 = (x10_1 ++ y152))) (R : Code) (hR : Try.f25.body.bind (findR 41) = some R) (K : Exit → Act → World → Prop) (hP : ∀ x a d v w, K (.panic x) (Act.put a (some d) v) w → K (.panic x) a w)
    (hK : ∀ (t_112 t_113 t_114 t_115 t_116 t_117 t_118 t_119 t_120 t_121 t_122 t_123 t_124 t_125 t_126 t_127 t_128 v10 : Value) (w' : World), Aside0 (Kd.R (Kd.int .u8) 5 w' w.heap.size (fun _ => True) v10 y155) → Aside0 (Below w.heap.size w w') → K .normal ⟨#[u0, u1, u2, u3, u4, u5, u6, u7, u8, u9, v10, u11, u12, .int .i32 t110, u14, u15, u16, u17, u18, u19, u20, u21, u22, u23, u24, u25, u26, u27, u28, u29, u30, u31, u32, u33, u34, u35, u36, u37, u38, u39, u40, u41, u42, u43, u44, u45, u46, u47, u48, u49, u50, u51, u52, u53, u54, u55, u56, u57, u58, u59, u60, u61, u62, u63, u64, u65, u66, u67, u68, u69, u70, u71, u72, u73, u74, u75, u76, u77, u78, u79, u80, u81, u82, u83, u84, u85, u86, u87, u88, u89, u90, u91, u92, u93, u94, u95, u96, u97, u98, u99, u100, u101, u102, u103, u104, u105, u106, u107, u108, u109, u110, u111, t_112, t_113, t_114, t_115, t_116, t_117, t_118, t_119, t_120, t_121, t_122, t_123, t_124, t_125, t_126, t_127, t_128, u129, u130, u131, u132, u133, u134, u135, u136, u137, u138, u139, u140, u141, u142, u143, u144, u145, u146, u147, u148, u149, u150, u151, u152, u153, u154, u155, u156, u157, u158, u159, u160, u161, u162, u163, u164, u165, u166, u167, u168, u169, u170, u171, u172, u173, u174, u175, u176, u177, u178, u179, u180, u181, u182, u183, u184, u185, u186, u187, u188, u189, u190, u191, u192, u193, u194, u195, u196, u197, u198, u199, u200, u201, u202, u203, u204, u205, u206, u207, u208, u209, u210, u211, u212, u213, u214, u215, u216, u217, u218, u219, u220, u221, u222, u223, u224, u225, u226, u227, u228, u229, u230], []⟩ w') :
    Code.wp Try.prog R K ⟨#[u0, u1, u2, u3, u4, u5, u6, u7, u8, u9, u10, u11, u12, .int .i32 t110, u14, u15, u16, u17, u18, u19, u20, u21, u22, u23, u24, u25, u26, u27, u28, u29, u30, u31, u32, u33, u34, u35, u36, u37, u38, u39, u40, u41, u42, u43, u44, u45, u46, u47, u48, u49, u50, u51, u52, u53, u54, u55, u56, u57, u58, u59, u60, u61, u62, u63, u64, u65, u66, u67, u68, u69, u70, u71, u72, u73, u74, u75, u76, u77, u78, u79, u80, u81, u82, u83, u84, u85, u86, u87, u88, u89, u90, u91, u92, u93, u94, u95, u96, u97, u98, u99, u100, u101, u102, u103, u104, u105, u106, u107, u108, u109, u110, u111, u112, u113, u114, u115, u116, u117, u118, u119, u120, u121, u122, u123, u124, u125, u126, u127, u128, u129, u130, u131, u132, u133, u134, u135, u136, u137, u138, u139, u140, u141, u142, u143, u144, u145, u146, u147, u148, u149, u150, u151, u152, u153, u154, u155, u156, u157, u158, u159, u160, u161, u162, u163, u164, u165, u166, u167, u168, u169, u170, u171, u172, u173, u174, u175, u176, u177, u178, u179, u180, u181, u182, u183, u184, u185, u186, u187, u188, u189, u190, u191, u192, u193, u194, u195, u196, u197, u198, u199, u200, u201, u202, u203, u204, u205, u206, u207, u208, u209, u210, u211, u212, u213, u214, u215, u216, u217, u218, u219, u220, u221, u222, u223, u224, u225, u226, u227, u228, u229, u230], []⟩ wr := by
  have HKK := Lib.hid hK
  clear hK
  have hR2 := (show some _ = Try.f25.body.bind (findR 41) from rfl).trans hR
  injection hR2 with hR2
  subst hR2
  clear hR
  have n0_ := Aside0.mk (Kd.R_drew HO_10.out)
  have n1_ := Aside0.mk (below_drew1 HB.out)
  clear HO_10
  clear HB
  have HO_10 := n0_
  have HB := n1_
  clear n0_ n1_
  have p64 : 0 ≤ ((ji61) : Int) := of_decide_eq_true (by first | (with_reducible assumption) | assumption)
  have q64 : (ji61) < (16 : Int) := of_decide_eq_true (by first | (with_reducible assumption) | assumption)
  have hx64 := bt_at (⟨#[48, 49, 50, 51, 52, 53, 54, 55, 56, 57, 65, 66, 67, 68, 69, 70]⟩ : ByteArray) (ji61)
  replace p64 := eq_true p64
  replace q64 := eq_true q64
  have p68 : 0 ≤ ((ji65) : Int) := of_decide_eq_true (by first | (with_reducible assumption) | assumption)
  have q68 : (ji65) < (16 : Int) := of_decide_eq_true (by first | (with_reducible assumption) | assumption)
  have hx68 := bt_at (⟨#[48, 49, 50, 51, 52, 53, 54, 55, 56, 57, 65, 66, 67, 68, 69, 70]⟩ : ByteArray) (ji65)
  replace p68 := eq_true p68
  replace q68 := eq_true q68
  have p72 : 0 ≤ ((ji69) : Int) := of_decide_eq_true (by first | (with_reducible assumption) | assumption)
  have q72 : (ji69) < (16 : Int) := of_decide_eq_true (by first | (with_reducible assumption) | assumption)
  have hx72 := bt_at (⟨#[48, 49, 50, 51, 52, 53, 54, 55, 56, 57, 65, 66, 67, 68, 69, 70]⟩ : ByteArray) (ji69)
  replace p72 := eq_true p72
  replace q72 := eq_true q72
  have p75 : 0 ≤ ((Go.bits .and .i32 t110 15) : Int) := of_decide_eq_true (by first | (with_reducible assumption) | assumption)
  have q75 : (Go.bits .and .i32 t110 15) < (16 : Int) := of_decide_eq_true (by first | (with_reducible assumption) | assumption)
  have hx75 := bt_at (⟨#[48, 49, 50, 51, 52, 53, 54, 55, 56, 57, 65, 66, 67, 68, 69, 70]⟩ : ByteArray) (Go.bits .and .i32 t110 15)
  replace p75 := eq_true p75
  replace q75 := eq_true q75
  refine start_ (n := 18) (S := fun w' => True) (ds := []) #[false, false, false, false, false, false, false, false, false, false, false, false, false, false, false, false, false, false] (by as_aux_lemma => kernel_rfl) rfl rfl trivial (fun hHeld => ?_); refine with_tabW helpers_internalQuote.tab41 helpers_internalQuote.bits41 (fun HT_ HW_ => ?_)
  generalize wr.drew = w77 at HO_10 HB hHeld ⊢
  refine pure_ (i := 0) (N := some 112) (v := ?_) (a' := ?_) #[true, false, false, false, false, false, false, false, false, false, false, false, false, false, false, false, false, false] rfl rfl (any_of HT_.out (by as_aux_lemma => kernel_rfl)) (fun x_ _ w_ h_ => hP x_ _ _ _ w_ h_) (Or.inl ⟨by rfl, ?_⟩) ?_ ?_
  rotate_left
  · intro w'
    go_simp
    with_reducible rfl
  rotate_left
  · simp only [Act.put, List.setIfInBounds_toArray, List.set_cons_zero, List.set_cons_succ, i64_w, i32_w]
    rfl
  refine pure_ (i := 1) (N := some 113) (v := ?_) (a' := ?_) #[true, true, false, false, false, false, false, false, false, false, false, false, false, false, false, false, false, false] rfl rfl (any_of HT_.out (by as_aux_lemma => kernel_rfl)) (fun x_ _ w_ h_ => hP x_ _ _ _ w_ h_) (Or.inl ⟨by rfl, ?_⟩) ?_ ?_
  rotate_left
  · intro w'
    go_simp
    with_reducible rfl
  rotate_left
  · simp only [Act.put, List.setIfInBounds_toArray, List.set_cons_zero, List.set_cons_succ, i64_w, i32_w]
    rfl
  refine pure_ (i := 2) (N := some 114) (v := ?_) (a' := ?_) #[true, true, true, false, false, false, false, false, false, false, false, false, false, false, false, false, false, false] rfl rfl (any_of HT_.out (by as_aux_lemma => kernel_rfl)) (fun x_ _ w_ h_ => hP x_ _ _ _ w_ h_) (Or.inl ⟨by rfl, ?_⟩) ?_ ?_
  rotate_left
  · intro w'
    go_simp
    with_reducible rfl
  rotate_left
  · simp only [Act.put, List.setIfInBounds_toArray, List.set_cons_zero, List.set_cons_succ, i64_w, i32_w]
    rfl
  refine pure_ (i := 4) (N := some 116) (v := ?_) (a' := ?_) #[true, true, true, false, true, false, false, false, false, false, false, false, false, false, false, false, false, false] rfl rfl (any_of HT_.out (by as_aux_lemma => kernel_rfl)) (fun x_ _ w_ h_ => hP x_ _ _ _ w_ h_) (Or.inl ⟨by rfl, ?_⟩) ?_ ?_
  rotate_left
  · intro w'
    go_simp
    with_reducible rfl
  rotate_left
  · simp only [Act.put, List.setIfInBounds_toArray, List.set_cons_zero, List.set_cons_succ, i64_w, i32_w]
    rfl
  refine pure_ (i := 5) (N := some 117) (v := ?_) (a' := ?_) #[true, true, true, false, true, true, false, false, false, false, false, false, false, false, false, false, false, false] rfl rfl (any_of HT_.out (by as_aux_lemma => kernel_rfl)) (fun x_ _ w_ h_ => hP x_ _ _ _ w_ h_) (Or.inl ⟨by rfl, ?_⟩) ?_ ?_
  rotate_left
  · intro w'
    go_simp
    with_reducible rfl
  rotate_left
  · simp only [Act.put, List.setIfInBounds_toArray, List.set_cons_zero, List.set_cons_succ, i64_w, i32_w]
    rfl
  refine pure_ (i := 6) (N := some 118) (v := ?_) (a' := ?_) #[true, true, true, false, true, true, true, false, false, false, false, false, false, false, false, false, false, false] rfl rfl (any_of HT_.out (by as_aux_lemma => kernel_rfl)) (fun x_ _ w_ h_ => hP x_ _ _ _ w_ h_) (Or.inl ⟨by rfl, ?_⟩) ?_ ?_
  rotate_left
  · intro w'
    go_simp
    with_reducible rfl
  rotate_left
  · simp only [Act.put, List.setIfInBounds_toArray, List.set_cons_zero, List.set_cons_succ, i64_w, i32_w]
    rfl
  refine pure_ (i := 8) (N := some 120) (v := ?_) (a' := ?_) #[true, true, true, false, true, true, true, false, true, false, false, false, false, false, false, false, false, false] rfl rfl (any_of HT_.out (by as_aux_lemma => kernel_rfl)) (fun x_ _ w_ h_ => hP x_ _ _ _ w_ h_) (Or.inl ⟨by rfl, ?_⟩) ?_ ?_
  rotate_left
  · intro w'
    go_simp
    with_reducible rfl
  rotate_left
  · simp only [Act.put, List.setIfInBounds_toArray, List.set_cons_zero, List.set_cons_succ, i64_w, i32_w]
    rfl
  refine pure_ (i := 9) (N := some 121) (v := ?_) (a' := ?_) #[true, true, true, false, true, true, true, false, true, true, false, false, false, false, false, false, false, false] rfl rfl (any_of HT_.out (by as_aux_lemma => kernel_rfl)) (fun x_ _ w_ h_ => hP x_ _ _ _ w_ h_) (Or.inl ⟨by rfl, ?_⟩) ?_ ?_
  rotate_left
  · intro w'
    go_simp
    with_reducible rfl
  rotate_left
  · simp only [Act.put, List.setIfInBounds_toArray, List.set_cons_zero, List.set_cons_succ, i64_w, i32_w]
    rfl
  refine pure_ (i := 10) (N := some 122) (v := ?_) (a' := ?_) #[true, true, true, false, true, true, true, false, true, true, true, false, false, false, false, false, false, false] rfl rfl (any_of HT_.out (by as_aux_lemma => kernel_rfl)) (fun x_ _ w_ h_ => hP x_ _ _ _ w_ h_) (Or.inl ⟨by rfl, ?_⟩) ?_ ?_
  rotate_left
  · intro w'
    go_simp
    with_reducible rfl
  rotate_left
  · simp only [Act.put, List.setIfInBounds_toArray, List.set_cons_zero, List.set_cons_succ, i64_w, i32_w]
    rfl
  refine pure_ (i := 12) (N := some 124) (v := ?_) (a' := ?_) #[true, true, true, false, true, true, true, false, true, true, true, false, true, false, false, false, false, false] rfl rfl (any_of HT_.out (by as_aux_lemma => kernel_rfl)) (fun x_ _ w_ h_ => hP x_ _ _ _ w_ h_) (Or.inl ⟨by rfl, ?_⟩) ?_ ?_
  rotate_left
  · intro w'
    go_simp
    with_reducible rfl
  rotate_left
  · simp only [Act.put, List.setIfInBounds_toArray, List.set_cons_zero, List.set_cons_succ, i64_w, i32_w]
    rfl
  refine pure_ (i := 13) (N := some 125) (v := ?_) (a' := ?_) #[true, true, true, false, true, true, true, false, true, true, true, false, true, true, false, false, false, false] rfl rfl (any_of HT_.out (by as_aux_lemma => kernel_rfl)) (fun x_ _ w_ h_ => hP x_ _ _ _ w_ h_) (Or.inl ⟨by rfl, ?_⟩) ?_ ?_
  rotate_left
  · intro w'
    go_simp
    with_reducible rfl
  rotate_left
  · simp only [Act.put, List.setIfInBounds_toArray, List.set_cons_zero, List.set_cons_succ, i64_w, i32_w]
    rfl
  refine take_ (i := 3) (N := some 115) (v := ?_) (a' := ?_) #[true, true, true, true, true, true, true, false, true, true, true, false, true, true, false, false, false, false] rfl rfl (take_ofW HT_.out HW_.out (by as_aux_lemma => kernel_rfl)) (fun x_ _ w_ h_ => hP x_ _ _ _ w_ h_) (Or.inl ⟨by rfl, ?_⟩) hHeld ?_ ?_
  rotate_left
  · intro w' _
    go_simp
    with_reducible rfl
  rotate_left
  · simp only [Act.put, List.setIfInBounds_toArray, List.set_cons_zero, List.set_cons_succ, i64_w, i32_w]
    rfl
  refine take_ (i := 7) (N := some 119) (v := ?_) (a' := ?_) #[true, true, true, true, true, true, true, true, true, true, true, false, true, true, false, false, false, false] rfl rfl (take_ofW HT_.out HW_.out (by as_aux_lemma => kernel_rfl)) (fun x_ _ w_ h_ => hP x_ _ _ _ w_ h_) (Or.inl ⟨by rfl, ?_⟩) hHeld ?_ ?_
  rotate_left
  · intro w' _
    go_simp
    with_reducible rfl
  rotate_left
  · simp only [Act.put, List.setIfInBounds_toArray, List.set_cons_zero, List.set_cons_succ, i64_w, i32_w]
    rfl
  refine take_ (i := 11) (N := some 123) (v := ?_) (a' := ?_) #[true, true, true, true, true, true, true, true, true, true, true, true, true, true, false, false, false, false] rfl rfl (take_ofW HT_.out HW_.out (by as_aux_lemma => kernel_rfl)) (fun x_ _ w_ h_ => hP x_ _ _ _ w_ h_) (Or.inl ⟨by rfl, ?_⟩) hHeld ?_ ?_
  rotate_left
  · intro w' _
    go_simp
    with_reducible rfl
  rotate_left
  · simp only [Act.put, List.setIfInBounds_toArray, List.set_cons_zero, List.set_cons_succ, i64_w, i32_w]
    rfl
  refine take_ (i := 14) (N := some 126) (v := ?_) (a' := ?_) #[true, true, true, true, true, true, true, true, true, true, true, true, true, true, true, false, false, false] rfl rfl (take_ofW HT_.out HW_.out (by as_aux_lemma => kernel_rfl)) (fun x_ _ w_ h_ => hP x_ _ _ _ w_ h_) (Or.inl ⟨by rfl, ?_⟩) hHeld ?_ ?_
  rotate_left
  · intro w' _
    go_simp
    with_reducible rfl
  rotate_left
  · simp only [Act.put, List.setIfInBounds_toArray, List.set_cons_zero, List.set_cons_succ, i64_w, i32_w]
    rfl
  refine one_ (i := 15) (N := some 127) #[true, true, true, true, true, true, true, true, true, true, true, true, true, true, true, true, false, false] rfl rfl (one_of HT_.out (by as_aux_lemma => kernel_rfl)) (by decide) (fun K hK => ?_)
  refine Kd.R_lit_step (Kd.int .u8) _ 5 ?hg (N := 127) ?hd (xs := ([92, 117, bt (⟨#[48, 49, 50, 51, 52, 53, 54, 55, 56, 57, 65, 66, 67, 68, 69, 70]⟩ : ByteArray) (ji61), bt (⟨#[48, 49, 50, 51, 52, 53, 54, 55, 56, 57, 65, 66, 67, 68, 69, 70]⟩ : ByteArray) (ji65), bt (⟨#[48, 49, 50, 51, 52, 53, 54, 55, 56, 57, 65, 66, 67, 68, 69, 70]⟩ : ByteArray) (ji69), bt (⟨#[48, 49, 50, 51, 52, 53, 54, 55, 56, 57, 65, 66, 67, 68, 69, 70]⟩ : ByteArray) (Go.bits .and .i32 t110 15)] : List Int)) (inner := [.int .u8 92, .int .u8 117, .int .u8 (bt (⟨#[48, 49, 50, 51, 52, 53, 54, 55, 56, 57, 65, 66, 67, 68, 69, 70]⟩ : ByteArray) (ji61)), .int .u8 (bt (⟨#[48, 49, 50, 51, 52, 53, 54, 55, 56, 57, 65, 66, 67, 68, 69, 70]⟩ : ByteArray) (ji65)), .int .u8 (bt (⟨#[48, 49, 50, 51, 52, 53, 54, 55, 56, 57, 65, 66, 67, 68, 69, 70]⟩ : ByteArray) (ji69)), .int .u8 (bt (⟨#[48, 49, 50, 51, 52, 53, 54, 55, 56, 57, 65, 66, 67, 68, 69, 70]⟩ : ByteArray) (Go.bits .and .i32 t110 15))]) (ok := fun _ => True) (okp := fun _ => True) ?hr ?hp (fun _ hk => hk) trivial (Below.refl _ _) (Nat.le_refl _) (by simp) ?_; (case hd => rfl); (case hg => rfl); (case hr => first | (go_simp; done) | (go_simp; rfl)); (case hp => exact (Reps.one (show Kd.M (Kd.int .u8) _ _ _ 92 [.int .u8 92] from rfl) (Reps.one (show Kd.M (Kd.int .u8) _ _ _ 117 [.int .u8 117] from rfl) (Reps.one (show Kd.M (Kd.int .u8) _ _ _ (bt (⟨#[48, 49, 50, 51, 52, 53, 54, 55, 56, 57, 65, 66, 67, 68, 69, 70]⟩ : ByteArray) (ji61)) [.int .u8 (bt (⟨#[48, 49, 50, 51, 52, 53, 54, 55, 56, 57, 65, 66, 67, 68, 69, 70]⟩ : ByteArray) (ji61))] from rfl) (Reps.one (show Kd.M (Kd.int .u8) _ _ _ (bt (⟨#[48, 49, 50, 51, 52, 53, 54, 55, 56, 57, 65, 66, 67, 68, 69, 70]⟩ : ByteArray) (ji65)) [.int .u8 (bt (⟨#[48, 49, 50, 51, 52, 53, 54, 55, 56, 57, 65, 66, 67, 68, 69, 70]⟩ : ByteArray) (ji65))] from rfl) (Reps.one (show Kd.M (Kd.int .u8) _ _ _ (bt (⟨#[48, 49, 50, 51, 52, 53, 54, 55, 56, 57, 65, 66, 67, 68, 69, 70]⟩ : ByteArray) (ji69)) [.int .u8 (bt (⟨#[48, 49, 50, 51, 52, 53, 54, 55, 56, 57, 65, 66, 67, 68, 69, 70]⟩ : ByteArray) (ji69))] from rfl) (Reps.one (show Kd.M (Kd.int .u8) _ _ _ (bt (⟨#[48, 49, 50, 51, 52, 53, 54, 55, 56, 57, 65, 66, 67, 68, 69, 70]⟩ : ByteArray) (Go.bits .and .i32 t110 15)) [.int .u8 (bt (⟨#[48, 49, 50, 51, 52, 53, 54, 55, 56, 57, 65, 66, 67, 68, 69, 70]⟩ : ByteArray) (Go.bits .and .i32 t110 15))] from rfl) (Reps.none _ _))))))))
  intro v153 w78 ho79 hb hg_ hnew_
  clear hg_ hnew_
  (first | rw [← Ny152.out] at ho79 | (simp only [Int.reduceToNat] at ho79; rw [← Ny152.out] at ho79))
  have n0_ := Aside0.mk (Kd.R_elder' (by (with_reducible repeat (first | apply Kd.R_alloc | apply Kd.R_drewN | apply Kd.R_drew)); exact HO_10.out) (Kd.R_base ho79) hb)
  have n1_ := Aside0.mk (Kd.R_lower (Kd.R_new' ho79 (Kd.R_lt (by (with_reducible repeat (first | apply Kd.R_alloc | apply Kd.R_drewN | apply Kd.R_drew)); exact HO_10.out))) (below_size (by repeat (first | (with_reducible first | exact HB.out | apply below_alloc | apply pw_below_drewN | apply below_drew1) | exact HB.out))))
  have n2_ := Aside0.mk (below_step (by repeat (first | (with_reducible first | exact HB.out | apply below_alloc | apply pw_below_drewN | apply below_drew1) | exact HB.out)) hb)
  clear HO_10
  clear HB
  have HO_10 := n0_
  have HO154 := n1_
  have HB := n2_
  clear n0_ n1_ n2_
  clear hb ho79
  obtain ⟨Ao81, co81, eo81⟩ := Kd.R_slice HO154.out
  (first | subst eo81 | (injection eo81 with f1_ f2_ f3_; have f4_ := f1_.symm; have f5_ := f3_.symm; clear f1_ f2_ f3_; subst f4_; subst f5_))
  refine hK.out _ _ trivial (fun hHeld => ?_)
  clear hK K
  refine norm_ (a' := ?_) ?_ ?_
  rotate_left
  · show Act.put _ (some 127) _ = _
    simp only [Act.put, List.setIfInBounds_toArray, List.set_cons_zero, List.set_cons_succ, i64_w, i32_w]
    rfl
  refine one_ (i := 16) (N := some 128) #[true, true, true, true, true, true, true, true, true, true, true, true, true, true, true, true, true, false] rfl rfl (one_of HT_.out (by as_aux_lemma => kernel_rfl)) (by decide) (fun K hK => ?_)
  refine Kd.R_append_rows_step (Kd.int .u8) (w0 := w) w.heap.size (by rfl) (.tmp 112) (.tmp 127) 34 5 (.int .u8 0) 1 rfl Try.underlying34 info5 rfl (by decide) (by omega) u10 x10_1 y152 _ _ _ (fun k_ => some k_ ≠ (.slice Ao81 y152.length co81 : Value).ownBlock) (fun _ => False) rfl rfl ?aO ?aR (fun _ _ h => h) (fun _ h => h.elim) ?aF ?aB ?aS ?aL ?_
  (case aR => repeat (first | exact (Kd.R_reads' HO154.out).2.2 | (with_reducible refine Kd.C_alloc ?_ _) | (with_reducible refine Kd.C_drewN ?_ _) | (with_reducible refine Kd.C_drew ?_)))
  (case aB => exact (by repeat (first | (with_reducible first | exact HB.out | apply below_alloc | apply pw_below_drewN | apply below_drew1) | exact HB.out)))
  (case aF => exact (fun k_ hk => Kd.fresh' (Kd.R_lt (by (with_reducible repeat (first | apply Kd.R_alloc | apply Kd.R_drewN | apply Kd.R_drew)); exact HO154.out)) k_ hk))
  (case aO => exact (by (with_reducible repeat (first | apply Kd.R_alloc | apply Kd.R_drewN | apply Kd.R_drew)); exact Kd.R_mono HO_10.out (fun _ hk => hk.2)))
  (case aS => exact (below_size (by repeat (first | (with_reducible first | exact HB.out | apply below_alloc | apply pw_below_drewN | apply below_drew1) | exact HB.out))))
  (case aL => have := LMc76.out; omega)
  intro v156 w80 ho hb hg hat
  rw [← Ny155.out] at ho
  have n0_ := Aside0.mk (Kd.R_after (ok := (fun _ => True)) (by (with_reducible repeat (first | apply Kd.R_alloc | apply Kd.R_drewN | apply Kd.R_drew)); exact HO154.out) hg hat)
  have n1_ := Aside0.mk (hb)
  have n2_ := Aside0.mk (ho)
  clear HO154
  clear HB
  clear HO_10
  have HO154 := n0_
  have HB := n1_
  have HO157 := n2_
  clear n0_ n1_ n2_
  clear ho hb hg hat
  refine hK.out _ _ trivial (fun hHeld => ?_)
  clear hK K
  refine norm_ (a' := ?_) ?_ ?_
  rotate_left
  · show Act.put _ (some 128) _ = _
    simp only [Act.put, List.setIfInBounds_toArray, List.set_cons_zero, List.set_cons_succ, i64_w, i32_w]
    rfl
  refine pure_ (i := 17) (N := some 10) (v := ?_) (a' := ?_) #[true, true, true, true, true, true, true, true, true, true, true, true, true, true, true, true, true, true] rfl rfl (any_of HT_.out (by as_aux_lemma => kernel_rfl)) (fun x_ _ w_ h_ => hP x_ _ _ _ w_ h_) (Or.inl ⟨by rfl, ?_⟩) ?_ ?_
  rotate_left
  · intro w'
    go_simp
    with_reducible rfl
  rotate_left
  · simp only [Act.put, List.setIfInBounds_toArray, List.set_cons_zero, List.set_cons_succ, i64_w, i32_w]
    rfl
  refine done_ (done_of HT_.out (by as_aux_lemma => kernel_rfl)) ?_
  exact HKK.out _ _ _ _ _ _ _ _ _ _ _ _ _ _ _ _ _ _ _ ⟨by (with_reducible repeat (first | apply Kd.R_alloc | apply Kd.R_drewN | apply Kd.R_drew)); exact Kd.R_mono HO157.out (fun _ hk => trivial)⟩ ⟨by repeat (first | (with_reducible first | exact HB.out | apply below_alloc | apply pw_below_drewN | apply below_drew1) | exact HB.out)⟩

set_option maxHeartbeats 16000000 in
set_option maxRecDepth 100000 in
theorem quote_region45 {u0 u1 u2 u3 u4 u5 u6 u7 u8 u9 u10 u11 u12 u13 u14 u15 u18 u19 u20 u21 u22 u23 u24 u25 u26 u27 u28 u29 u30 u31 u32 u33 u34 u35 u36 u37 u38 u39 u40 u41 u42 u43 u44 u45 u46 u47 u48 u49 u50 u51 u52 u53 u54 u55 u56 u57 u58 u59 u60 u61 u62 u63 u64 u65 u66 u67 u68 u69 u70 u71 u72 u73 u74 u75 u76 u77 u78 u79 u80 u81 u82 u83 u84 u85 u86 u87 u88 u89 u90 u91 u92 u93 u94 u95 u96 u97 u98 u99 u100 u101 u102 u103 u104 u105 u106 u107 u108 u109 u110 u111 u112 u113 u114 u115 u116 u117 u118 u119 u120 u121 u122 u123 u124 u125 u126 u127 u128 u129 u130 u131 u132 u133 u134 u135 u136 u137 u138 u139 u140 u141 u142 u143 u144 u145 u146 u147 u148 u149 u150 u151 u152 u153 u154 u155 u156 u157 u158 u159 u160 u161 u162 u163 u164 u165 u166 u167 u168 u169 u170 u171 u172 u173 u174 u175 u176 u177 u178 u179 u180 u181 u182 u183 u184 u185 u186 u187 u188 u189 u190 u191 u192 u193 u194 u195 u196 u197 u198 u199 u200 u201 u202 u203 u204 u205 u206 u207 u208 u209 u210 u211 u212 u213 u214 u215 u216 u217 u218 u219 u220 u221 u222 u223 u224 u225 u226 u227 u228 u229 u230 : Value} (w wr : World) (t110 : Int) (lo hi : Int) (x10_1 : List Int) (HO_10 : Aside0 (Kd.R (Kd.int .u8) 5 wr w.heap.size (fun _ => True) u10 x10_1)) (HB : Aside0 (Below w.heap.size w wr)) (c60b0 : decide (t110 ≤ 65535) = false) (ji82 : Int) (hji82 : (lo / 4096) = ji82) (c83b0 : decide (0 ≤ (ji82)) = true) (c84b0 : decide ((ji82) < 16) = true) (ji86 : Int) (hji86 : (Go.bits .and .i32 (lo / 256) 15) = ji86) (c87b0 : decide (0 ≤ (ji86)) = true) (c88b0 : decide ((ji86) < 16) = true) (ji90 : Int) (hji90 : (Go.bits .and .i32 (lo / 16) 15) = ji90) (c91b0 : decide (0 ≤ (ji90)) = true) (c92b0 : decide ((ji90) < 16) = true) (ji94 : Int) (hji94 : (Go.bits .and .i32 lo 15) = ji94) (c95b0 : decide (0 ≤ (ji94)) = true) (c96b0 : decide ((ji94) < 16) = true) (ji98 : Int) (hji98 : (hi / 4096) = ji98) (c99b0 : decide (0 ≤ (ji98)) = true) (c100b0 : decide ((ji98) < 16) = true) (ji102 : Int) (hji102 : (Go.bits .and .i32 (hi / 256) 15) = ji102) (c103b0 : decide (0 ≤ (ji102)) = true) (c104b0 : decide ((ji102) < 16) = true) (ji106 : Int) (hji106 : (Go.bits .and .i32 (hi / 16) 15) = ji106) (c107b0 : decide (0 ≤ (ji106)) = true) (c108b0 : decide ((ji106) < 16) = true) (ji110 : Int) (hji110 : (Go.bits .and .i32 hi 15) = ji110) (c111b0 : decide (0 ≤ (ji110)) = true) (c112b0 : decide ((ji110) < 16) = true) (y158 : List Int) (Ny158 : Aside0 (y158 = (([92, 117, bt (⟨#[48, 49, 50, 51, 52, 53, 54, 55, 56, 57, 65, 66, 67, 68, 69, 70]⟩ : ByteArray) (ji82), bt (⟨#[48, 49, 50, 51, 52, 53, 54, 55, 56, 57, 65, 66, 67, 68, 69, 70]⟩ : ByteArray) (ji86), bt (⟨#[48, 49, 50, 51, 52, 53, 54, 55, 56, 57, 65, 66, 67, 68, 69, 70]⟩ : ByteArray) (ji90), bt (⟨#[48, 49, 50, 51, 52, 53, 54, 55, 56, 57, 65, 66, 67, 68, 69, 70]⟩ : ByteArray) (ji94), 92, 117, bt (⟨#[48, 49, 50, 51, 52, 53, 54, 55, 56, 57, 65, 66, 67, 68, 69, 70]⟩ : ByteArray) (ji98), bt (⟨#[48, 49, 50, 51, 52, 53, 54, 55, 56, 57, 65, 66, 67, 68, 69, 70]⟩ : ByteArray) (ji102), bt (⟨#[48, 49, 50, 51, 52, 53, 54, 55, 56, 57, 65, 66, 67, 68, 69, 70]⟩ : ByteArray) (ji106), bt (⟨#[48, 49, 50, 51, 52, 53, 54, 55, 56, 57, 65, 66, 67, 68, 69, 70]⟩ : ByteArray) (ji110)] : List Int)))) (LMc114 : Aside0 (x10_1.length + y158.length < 140737488355328)) (y161 : List Int) (Ny161 : Aside0 (y161 = (x10_1 ++ y158))) (R : Code) (hR : Try.f25.body.bind (findR 45) = some R) (K : Exit → Act → World → Prop) (hP : ∀ x a d v w, K (.panic x) (Act.put a (some d) v) w → K (.panic x) a w)
    (hK : ∀ (t_138 t_139 t_140 t_141 t_142 t_143 t_144 t_145 t_146 t_147 t_148 t_149 t_150 t_151 t_152 t_153 t_154 t_155 t_156 t_157 t_158 t_159 t_160 t_161 t_162 t_163 t_164 t_165 t_166 t_167 t_168 v10 : Value) (w' : World), Aside0 (Kd.R (Kd.int .u8) 5 w' w.heap.size (fun _ => True) v10 y161) → Aside0 (Below w.heap.size w w') → K .normal ⟨#[u0, u1, u2, u3, u4, u5, u6, u7, u8, u9, v10, u11, u12, u13, u14, u15, .int .i32 lo, .int .i32 hi, u18, u19, u20, u21, u22, u23, u24, u25, u26, u27, u28, u29, u30, u31, u32, u33, u34, u35, u36, u37, u38, u39, u40, u41, u42, u43, u44, u45, u46, u47, u48, u49, u50, u51, u52, u53, u54, u55, u56, u57, u58, u59, u60, u61, u62, u63, u64, u65, u66, u67, u68, u69, u70, u71, u72, u73, u74, u75, u76, u77, u78, u79, u80, u81, u82, u83, u84, u85, u86, u87, u88, u89, u90, u91, u92, u93, u94, u95, u96, u97, u98, u99, u100, u101, u102, u103, u104, u105, u106, u107, u108, u109, u110, u111, u112, u113, u114, u115, u116, u117, u118, u119, u120, u121, u122, u123, u124, u125, u126, u127, u128, u129, u130, u131, u132, u133, u134, u135, u136, u137, t_138, t_139, t_140, t_141, t_142, t_143, t_144, t_145, t_146, t_147, t_148, t_149, t_150, t_151, t_152, t_153, t_154, t_155, t_156, t_157, t_158, t_159, t_160, t_161, t_162, t_163, t_164, t_165, t_166, t_167, t_168, u169, u170, u171, u172, u173, u174, u175, u176, u177, u178, u179, u180, u181, u182, u183, u184, u185, u186, u187, u188, u189, u190, u191, u192, u193, u194, u195, u196, u197, u198, u199, u200, u201, u202, u203, u204, u205, u206, u207, u208, u209, u210, u211, u212, u213, u214, u215, u216, u217, u218, u219, u220, u221, u222, u223, u224, u225, u226, u227, u228, u229, u230], []⟩ w') :
    Code.wp Try.prog R K ⟨#[u0, u1, u2, u3, u4, u5, u6, u7, u8, u9, u10, u11, u12, u13, u14, u15, .int .i32 lo, .int .i32 hi, u18, u19, u20, u21, u22, u23, u24, u25, u26, u27, u28, u29, u30, u31, u32, u33, u34, u35, u36, u37, u38, u39, u40, u41, u42, u43, u44, u45, u46, u47, u48, u49, u50, u51, u52, u53, u54, u55, u56, u57, u58, u59, u60, u61, u62, u63, u64, u65, u66, u67, u68, u69, u70, u71, u72, u73, u74, u75, u76, u77, u78, u79, u80, u81, u82, u83, u84, u85, u86, u87, u88, u89, u90, u91, u92, u93, u94, u95, u96, u97, u98, u99, u100, u101, u102, u103, u104, u105, u106, u107, u108, u109, u110, u111, u112, u113, u114, u115, u116, u117, u118, u119, u120, u121, u122, u123, u124, u125, u126, u127, u128, u129, u130, u131, u132, u133, u134, u135, u136, u137, u138, u139, u140, u141, u142, u143, u144, u145, u146, u147, u148, u149, u150, u151, u152, u153, u154, u155, u156, u157, u158, u159, u160, u161, u162, u163, u164, u165, u166, u167, u168, u169, u170, u171, u172, u173, u174, u175, u176, u177, u178, u179, u180, u181, u182, u183, u184, u185, u186, u187, u188, u189, u190, u191, u192, u193, u194, u195, u196, u197, u198, u199, u200, u201, u202, u203, u204, u205, u206, u207, u208, u209, u210, u211, u212, u213, u214, u215, u216, u217, u218, u219, u220, u221, u222, u223, u224, u225, u226, u227, u228, u229, u230], []⟩ wr := by
  have HKK := Lib.hid hK
  clear hK
  have hR2 := (show some _ = Try.f25.body.bind (findR 45) from rfl).trans hR
  injection hR2 with hR2
  subst hR2
  clear hR
  have n0_ := Aside0.mk (Kd.R_drew HO_10.out)
  have n1_ := Aside0.mk (below_drew1 HB.out)
  clear HO_10
  clear HB
  have HO_10 := n0_
  have HB := n1_
  clear n0_ n1_
  have p85 : 0 ≤ ((ji82) : Int) := of_decide_eq_true (by first | (with_reducible assumption) | assumption)
  have q85 : (ji82) < (16 : Int) := of_decide_eq_true (by first | (with_reducible assumption) | assumption)
  have hx85 := bt_at (⟨#[48, 49, 50, 51, 52, 53, 54, 55, 56, 57, 65, 66, 67, 68, 69, 70]⟩ : ByteArray) (ji82)
  replace p85 := eq_true p85
  replace q85 := eq_true q85
  have p89 : 0 ≤ ((ji86) : Int) := of_decide_eq_true (by first | (with_reducible assumption) | assumption)
  have q89 : (ji86) < (16 : Int) := of_decide_eq_true (by first | (with_reducible assumption) | assumption)
  have hx89 := bt_at (⟨#[48, 49, 50, 51, 52, 53, 54, 55, 56, 57, 65, 66, 67, 68, 69, 70]⟩ : ByteArray) (ji86)
  replace p89 := eq_true p89
  replace q89 := eq_true q89
  have p93 : 0 ≤ ((ji90) : Int) := of_decide_eq_true (by first | (with_reducible assumption) | assumption)
  have q93 : (ji90) < (16 : Int) := of_decide_eq_true (by first | (with_reducible assumption) | assumption)
  have hx93 := bt_at (⟨#[48, 49, 50, 51, 52, 53, 54, 55, 56, 57, 65, 66, 67, 68, 69, 70]⟩ : ByteArray) (ji90)
  replace p93 := eq_true p93
  replace q93 := eq_true q93
  have p97 : 0 ≤ ((ji94) : Int) := of_decide_eq_true (by first | (with_reducible assumption) | assumption)
  have q97 : (ji94) < (16 : Int) := of_decide_eq_true (by first | (with_reducible assumption) | assumption)
  have hx97 := bt_at (⟨#[48, 49, 50, 51, 52, 53, 54, 55, 56, 57, 65, 66, 67, 68, 69, 70]⟩ : ByteArray) (ji94)
  replace p97 := eq_true p97
  replace q97 := eq_true q97
  have p101 : 0 ≤ ((ji98) : Int) := of_decide_eq_true (by first | (with_reducible assumption) | assumption)
  have q101 : (ji98) < (16 : Int) := of_decide_eq_true (by first | (with_reducible assumption) | assumption)
  have hx101 := bt_at (⟨#[48, 49, 50, 51, 52, 53, 54, 55, 56, 57, 65, 66, 67, 68, 69, 70]⟩ : ByteArray) (ji98)
  replace p101 := eq_true p101
  replace q101 := eq_true q101
  have p105 : 0 ≤ ((ji102) : Int) := of_decide_eq_true (by first | (with_reducible assumption) | assumption)
  have q105 : (ji102) < (16 : Int) := of_decide_eq_true (by first | (with_reducible assumption) | assumption)
  have hx105 := bt_at (⟨#[48, 49, 50, 51, 52, 53, 54, 55, 56, 57, 65, 66, 67, 68, 69, 70]⟩ : ByteArray) (ji102)
  replace p105 := eq_true p105
  replace q105 := eq_true q105
  have p109 : 0 ≤ ((ji106) : Int) := of_decide_eq_true (by first | (with_reducible assumption) | assumption)
  have q109 : (ji106) < (16 : Int) := of_decide_eq_true (by first | (with_reducible assumption) | assumption)
  have hx109 := bt_at (⟨#[48, 49, 50, 51, 52, 53, 54, 55, 56, 57, 65, 66, 67, 68, 69, 70]⟩ : ByteArray) (ji106)
  replace p109 := eq_true p109
  replace q109 := eq_true q109
  have p113 : 0 ≤ ((ji110) : Int) := of_decide_eq_true (by first | (with_reducible assumption) | assumption)
  have q113 : (ji110) < (16 : Int) := of_decide_eq_true (by first | (with_reducible assumption) | assumption)
  have hx113 := bt_at (⟨#[48, 49, 50, 51, 52, 53, 54, 55, 56, 57, 65, 66, 67, 68, 69, 70]⟩ : ByteArray) (ji110)
  replace p113 := eq_true p113
  replace q113 := eq_true q113
  refine start_ (n := 32) (S := fun w' => True) (ds := []) #[false, false, false, false, false, false, false, false, false, false, false, false, false, false, false, false, false, false, false, false, false, false, false, false, false, false, false, false, false, false, false, false] (by as_aux_lemma => kernel_rfl) rfl rfl trivial (fun hHeld => ?_); refine with_tabW helpers_internalQuote.tab45 helpers_internalQuote.bits45 (fun HT_ HW_ => ?_)
  generalize wr.drew = w115 at HO_10 HB hHeld ⊢
  refine pure_ (i := 0) (N := some 138) (v := ?_) (a' := ?_) #[true, false, false, false, false, false, false, false, false, false, false, false, false, false, false, false, false, false, false, false, false, false, false, false, false, false, false, false, false, false, false, false] rfl rfl (any_of HT_.out (by as_aux_lemma => kernel_rfl)) (fun x_ _ w_ h_ => hP x_ _ _ _ w_ h_) (Or.inl ⟨by rfl, ?_⟩) ?_ ?_
  rotate_left
  · intro w'
    go_simp
    with_reducible rfl
  rotate_left
  · simp only [Act.put, List.setIfInBounds_toArray, List.set_cons_zero, List.set_cons_succ, i64_w, i32_w]
    rfl
  refine pure_ (i := 1) (N := some 139) (v := ?_) (a' := ?_) #[true, true, false, false, false, false, false, false, false, false, false, false, false, false, false, false, false, false, false, false, false, false, false, false, false, false, false, false, false, false, false, false] rfl rfl (any_of HT_.out (by as_aux_lemma => kernel_rfl)) (fun x_ _ w_ h_ => hP x_ _ _ _ w_ h_) (Or.inl ⟨by rfl, ?_⟩) ?_ ?_
  rotate_left
  · intro w'
    go_simp
    with_reducible rfl
  rotate_left
  · simp only [Act.put, List.setIfInBounds_toArray, List.set_cons_zero, List.set_cons_succ, i64_w, i32_w]
    rfl
  refine pure_ (i := 2) (N := some 140) (v := ?_) (a' := ?_) #[true, true, true, false, false, false, false, false, false, false, false, false, false, false, false, false, false, false, false, false, false, false, false, false, false, false, false, false, false, false, false, false] rfl rfl (any_of HT_.out (by as_aux_lemma => kernel_rfl)) (fun x_ _ w_ h_ => hP x_ _ _ _ w_ h_) (Or.inl ⟨by rfl, ?_⟩) ?_ ?_
  rotate_left
  · intro w'
    go_simp
    with_reducible rfl
  rotate_left
  · simp only [Act.put, List.setIfInBounds_toArray, List.set_cons_zero, List.set_cons_succ, i64_w, i32_w]
    rfl
  refine pure_ (i := 4) (N := some 142) (v := ?_) (a' := ?_) #[true, true, true, false, true, false, false, false, false, false, false, false, false, false, false, false, false, false, false, false, false, false, false, false, false, false, false, false, false, false, false, false] rfl rfl (any_of HT_.out (by as_aux_lemma => kernel_rfl)) (fun x_ _ w_ h_ => hP x_ _ _ _ w_ h_) (Or.inl ⟨by rfl, ?_⟩) ?_ ?_
  rotate_left
  · intro w'
    go_simp
    with_reducible rfl
  rotate_left
  · simp only [Act.put, List.setIfInBounds_toArray, List.set_cons_zero, List.set_cons_succ, i64_w, i32_w]
    rfl
  refine pure_ (i := 5) (N := some 143) (v := ?_) (a' := ?_) #[true, true, true, false, true, true, false, false, false, false, false, false, false, false, false, false, false, false, false, false, false, false, false, false, false, false, false, false, false, false, false, false] rfl rfl (any_of HT_.out (by as_aux_lemma => kernel_rfl)) (fun x_ _ w_ h_ => hP x_ _ _ _ w_ h_) (Or.inl ⟨by rfl, ?_⟩) ?_ ?_
  rotate_left
  · intro w'
    go_simp
    with_reducible rfl
  rotate_left
  · simp only [Act.put, List.setIfInBounds_toArray, List.set_cons_zero, List.set_cons_succ, i64_w, i32_w]
    rfl
  refine pure_ (i := 6) (N := some 144) (v := ?_) (a' := ?_) #[true, true, true, false, true, true, true, false, false, false, false, false, false, false, false, false, false, false, false, false, false, false, false, false, false, false, false, false, false, false, false, false] rfl rfl (any_of HT_.out (by as_aux_lemma => kernel_rfl)) (fun x_ _ w_ h_ => hP x_ _ _ _ w_ h_) (Or.inl ⟨by rfl, ?_⟩) ?_ ?_
  rotate_left
  · intro w'
    go_simp
    with_reducible rfl
  rotate_left
  · simp only [Act.put, List.setIfInBounds_toArray, List.set_cons_zero, List.set_cons_succ, i64_w, i32_w]
    rfl
  refine pure_ (i := 8) (N := some 146) (v := ?_) (a' := ?_) #[true, true, true, false, true, true, true, false, true, false, false, false, false, false, false, false, false, false, false, false, false, false, false, false, false, false, false, false, false, false, false, false] rfl rfl (any_of HT_.out (by as_aux_lemma => kernel_rfl)) (fun x_ _ w_ h_ => hP x_ _ _ _ w_ h_) (Or.inl ⟨by rfl, ?_⟩) ?_ ?_
  rotate_left
  · intro w'
    go_simp
    with_reducible rfl
  rotate_left
  · simp only [Act.put, List.setIfInBounds_toArray, List.set_cons_zero, List.set_cons_succ, i64_w, i32_w]
    rfl
  refine pure_ (i := 9) (N := some 147) (v := ?_) (a' := ?_) #[true, true, true, false, true, true, true, false, true, true, false, false, false, false, false, false, false, false, false, false, false, false, false, false, false, false, false, false, false, false, false, false] rfl rfl (any_of HT_.out (by as_aux_lemma => kernel_rfl)) (fun x_ _ w_ h_ => hP x_ _ _ _ w_ h_) (Or.inl ⟨by rfl, ?_⟩) ?_ ?_
  rotate_left
  · intro w'
    go_simp
    with_reducible rfl
  rotate_left
  · simp only [Act.put, List.setIfInBounds_toArray, List.set_cons_zero, List.set_cons_succ, i64_w, i32_w]
    rfl
  refine pure_ (i := 10) (N := some 148) (v := ?_) (a' := ?_) #[true, true, true, false, true, true, true, false, true, true, true, false, false, false, false, false, false, false, false, false, false, false, false, false, false, false, false, false, false, false, false, false] rfl rfl (any_of HT_.out (by as_aux_lemma => kernel_rfl)) (fun x_ _ w_ h_ => hP x_ _ _ _ w_ h_) (Or.inl ⟨by rfl, ?_⟩) ?_ ?_
  rotate_left
  · intro w'
    go_simp
    with_reducible rfl
  rotate_left
  · simp only [Act.put, List.setIfInBounds_toArray, List.set_cons_zero, List.set_cons_succ, i64_w, i32_w]
    rfl
  refine pure_ (i := 12) (N := some 150) (v := ?_) (a' := ?_) #[true, true, true, false, true, true, true, false, true, true, true, false, true, false, false, false, false, false, false, false, false, false, false, false, false, false, false, false, false, false, false, false] rfl rfl (any_of HT_.out (by as_aux_lemma => kernel_rfl)) (fun x_ _ w_ h_ => hP x_ _ _ _ w_ h_) (Or.inl ⟨by rfl, ?_⟩) ?_ ?_
  rotate_left
  · intro w'
    go_simp
    with_reducible rfl
  rotate_left
  · simp only [Act.put, List.setIfInBounds_toArray, List.set_cons_zero, List.set_cons_succ, i64_w, i32_w]
    rfl
  refine pure_ (i := 13) (N := some 151) (v := ?_) (a' := ?_) #[true, true, true, false, true, true, true, false, true, true, true, false, true, true, false, false, false, false, false, false, false, false, false, false, false, false, false, false, false, false, false, false] rfl rfl (any_of HT_.out (by as_aux_lemma => kernel_rfl)) (fun x_ _ w_ h_ => hP x_ _ _ _ w_ h_) (Or.inl ⟨by rfl, ?_⟩) ?_ ?_
  rotate_left
  · intro w'
    go_simp
    with_reducible rfl
  rotate_left
  · simp only [Act.put, List.setIfInBounds_toArray, List.set_cons_zero, List.set_cons_succ, i64_w, i32_w]
    rfl
  refine pure_ (i := 15) (N := some 153) (v := ?_) (a' := ?_) #[true, true, true, false, true, true, true, false, true, true, true, false, true, true, false, true, false, false, false, false, false, false, false, false, false, false, false, false, false, false, false, false] rfl rfl (any_of HT_.out (by as_aux_lemma => kernel_rfl)) (fun x_ _ w_ h_ => hP x_ _ _ _ w_ h_) (Or.inl ⟨by rfl, ?_⟩) ?_ ?_
  rotate_left
  · intro w'
    go_simp
    with_reducible rfl
  rotate_left
  · simp only [Act.put, List.setIfInBounds_toArray, List.set_cons_zero, List.set_cons_succ, i64_w, i32_w]
    rfl
  refine pure_ (i := 16) (N := some 154) (v := ?_) (a' := ?_) #[true, true, true, false, true, true, true, false, true, true, true, false, true, true, false, true, true, false, false, false, false, false, false, false, false, false, false, false, false, false, false, false] rfl rfl (any_of HT_.out (by as_aux_lemma => kernel_rfl)) (fun x_ _ w_ h_ => hP x_ _ _ _ w_ h_) (Or.inl ⟨by rfl, ?_⟩) ?_ ?_
  rotate_left
  · intro w'
    go_simp
    with_reducible rfl
  rotate_left
  · simp only [Act.put, List.setIfInBounds_toArray, List.set_cons_zero, List.set_cons_succ, i64_w, i32_w]
    rfl
  refine pure_ (i := 18) (N := some 156) (v := ?_) (a' := ?_) #[true, true, true, false, true, true, true, false, true, true, true, false, true, true, false, true, true, false, true, false, false, false, false, false, false, false, false, false, false, false, false, false] rfl rfl (any_of HT_.out (by as_aux_lemma => kernel_rfl)) (fun x_ _ w_ h_ => hP x_ _ _ _ w_ h_) (Or.inl ⟨by rfl, ?_⟩) ?_ ?_
  rotate_left
  · intro w'
    go_simp
    with_reducible rfl
  rotate_left
  · simp only [Act.put, List.setIfInBounds_toArray, List.set_cons_zero, List.set_cons_succ, i64_w, i32_w]
    rfl
  refine pure_ (i := 19) (N := some 157) (v := ?_) (a' := ?_) #[true, true, true, false, true, true, true, false, true, true, true, false, true, true, false, true, true, false, true, true, false, false, false, false, false, false, false, false, false, false, false, false] rfl rfl (any_of HT_.out (by as_aux_lemma => kernel_rfl)) (fun x_ _ w_ h_ => hP x_ _ _ _ w_ h_) (Or.inl ⟨by rfl, ?_⟩) ?_ ?_
  rotate_left
  · intro w'
    go_simp
    with_reducible rfl
  rotate_left
  · simp only [Act.put, List.setIfInBounds_toArray, List.set_cons_zero, List.set_cons_succ, i64_w, i32_w]
    rfl
  refine pure_ (i := 20) (N := some 158) (v := ?_) (a' := ?_) #[true, true, true, false, true, true, true, false, true, true, true, false, true, true, false, true, true, false, true, true, true, false, false, false, false, false, false, false, false, false, false, false] rfl rfl (any_of HT_.out (by as_aux_lemma => kernel_rfl)) (fun x_ _ w_ h_ => hP x_ _ _ _ w_ h_) (Or.inl ⟨by rfl, ?_⟩) ?_ ?_
  rotate_left
  · intro w'
    go_simp
    with_reducible rfl
  rotate_left
  · simp only [Act.put, List.setIfInBounds_toArray, List.set_cons_zero, List.set_cons_succ, i64_w, i32_w]
    rfl
  refine pure_ (i := 22) (N := some 160) (v := ?_) (a' := ?_) #[true, true, true, false, true, true, true, false, true, true, true, false, true, true, false, true, true, false, true, true, true, false, true, false, false, false, false, false, false, false, false, false] rfl rfl (any_of HT_.out (by as_aux_lemma => kernel_rfl)) (fun x_ _ w_ h_ => hP x_ _ _ _ w_ h_) (Or.inl ⟨by rfl, ?_⟩) ?_ ?_
  rotate_left
  · intro w'
    go_simp
    with_reducible rfl
  rotate_left
  · simp only [Act.put, List.setIfInBounds_toArray, List.set_cons_zero, List.set_cons_succ, i64_w, i32_w]
    rfl
  refine pure_ (i := 23) (N := some 161) (v := ?_) (a' := ?_) #[true, true, true, false, true, true, true, false, true, true, true, false, true, true, false, true, true, false, true, true, true, false, true, true, false, false, false, false, false, false, false, false] rfl rfl (any_of HT_.out (by as_aux_lemma => kernel_rfl)) (fun x_ _ w_ h_ => hP x_ _ _ _ w_ h_) (Or.inl ⟨by rfl, ?_⟩) ?_ ?_
  rotate_left
  · intro w'
    go_simp
    with_reducible rfl
  rotate_left
  · simp only [Act.put, List.setIfInBounds_toArray, List.set_cons_zero, List.set_cons_succ, i64_w, i32_w]
    rfl
  refine pure_ (i := 24) (N := some 162) (v := ?_) (a' := ?_) #[true, true, true, false, true, true, true, false, true, true, true, false, true, true, false, true, true, false, true, true, true, false, true, true, true, false, false, false, false, false, false, false] rfl rfl (any_of HT_.out (by as_aux_lemma => kernel_rfl)) (fun x_ _ w_ h_ => hP x_ _ _ _ w_ h_) (Or.inl ⟨by rfl, ?_⟩) ?_ ?_
  rotate_left
  · intro w'
    go_simp
    with_reducible rfl
  rotate_left
  · simp only [Act.put, List.setIfInBounds_toArray, List.set_cons_zero, List.set_cons_succ, i64_w, i32_w]
    rfl
  refine pure_ (i := 26) (N := some 164) (v := ?_) (a' := ?_) #[true, true, true, false, true, true, true, false, true, true, true, false, true, true, false, true, true, false, true, true, true, false, true, true, true, false, true, false, false, false, false, false] rfl rfl (any_of HT_.out (by as_aux_lemma => kernel_rfl)) (fun x_ _ w_ h_ => hP x_ _ _ _ w_ h_) (Or.inl ⟨by rfl, ?_⟩) ?_ ?_
  rotate_left
  · intro w'
    go_simp
    with_reducible rfl
  rotate_left
  · simp only [Act.put, List.setIfInBounds_toArray, List.set_cons_zero, List.set_cons_succ, i64_w, i32_w]
    rfl
  refine pure_ (i := 27) (N := some 165) (v := ?_) (a' := ?_) #[true, true, true, false, true, true, true, false, true, true, true, false, true, true, false, true, true, false, true, true, true, false, true, true, true, false, true, true, false, false, false, false] rfl rfl (any_of HT_.out (by as_aux_lemma => kernel_rfl)) (fun x_ _ w_ h_ => hP x_ _ _ _ w_ h_) (Or.inl ⟨by rfl, ?_⟩) ?_ ?_
  rotate_left
  · intro w'
    go_simp
    with_reducible rfl
  rotate_left
  · simp only [Act.put, List.setIfInBounds_toArray, List.set_cons_zero, List.set_cons_succ, i64_w, i32_w]
    rfl
  refine take_ (i := 3) (N := some 141) (v := ?_) (a' := ?_) #[true, true, true, true, true, true, true, false, true, true, true, false, true, true, false, true, true, false, true, true, true, false, true, true, true, false, true, true, false, false, false, false] rfl rfl (take_ofW HT_.out HW_.out (by as_aux_lemma => kernel_rfl)) (fun x_ _ w_ h_ => hP x_ _ _ _ w_ h_) (Or.inl ⟨by rfl, ?_⟩) hHeld ?_ ?_
  rotate_left
  · intro w' _
    go_simp
    with_reducible rfl
  rotate_left
  · simp only [Act.put, List.setIfInBounds_toArray, List.set_cons_zero, List.set_cons_succ, i64_w, i32_w]
    rfl
  refine take_ (i := 7) (N := some 145) (v := ?_) (a' := ?_) #[true, true, true, true, true, true, true, true, true, true, true, false, true, true, false, true, true, false, true, true, true, false, true, true, true, false, true, true, false, false, false, false] rfl rfl (take_ofW HT_.out HW_.out (by as_aux_lemma => kernel_rfl)) (fun x_ _ w_ h_ => hP x_ _ _ _ w_ h_) (Or.inl ⟨by rfl, ?_⟩) hHeld ?_ ?_
  rotate_left
  · intro w' _
    go_simp
    with_reducible rfl
  rotate_left
  · simp only [Act.put, List.setIfInBounds_toArray, List.set_cons_zero, List.set_cons_succ, i64_w, i32_w]
    rfl
  refine take_ (i := 11) (N := some 149) (v := ?_) (a' := ?_) #[true, true, true, true, true, true, true, true, true, true, true, true, true, true, false, true, true, false, true, true, true, false, true, true, true, false, true, true, false, false, false, false] rfl rfl (take_ofW HT_.out HW_.out (by as_aux_lemma => kernel_rfl)) (fun x_ _ w_ h_ => hP x_ _ _ _ w_ h_) (Or.inl ⟨by rfl, ?_⟩) hHeld ?_ ?_
  rotate_left
  · intro w' _
    go_simp
    with_reducible rfl
  rotate_left
  · simp only [Act.put, List.setIfInBounds_toArray, List.set_cons_zero, List.set_cons_succ, i64_w, i32_w]
    rfl
  refine take_ (i := 14) (N := some 152) (v := ?_) (a' := ?_) #[true, true, true, true, true, true, true, true, true, true, true, true, true, true, true, true, true, false, true, true, true, false, true, true, true, false, true, true, false, false, false, false] rfl rfl (take_ofW HT_.out HW_.out (by as_aux_lemma => kernel_rfl)) (fun x_ _ w_ h_ => hP x_ _ _ _ w_ h_) (Or.inl ⟨by rfl, ?_⟩) hHeld ?_ ?_
  rotate_left
  · intro w' _
    go_simp
    with_reducible rfl
  rotate_left
  · simp only [Act.put, List.setIfInBounds_toArray, List.set_cons_zero, List.set_cons_succ, i64_w, i32_w]
    rfl
  refine take_ (i := 17) (N := some 155) (v := ?_) (a' := ?_) #[true, true, true, true, true, true, true, true, true, true, true, true, true, true, true, true, true, true, true, true, true, false, true, true, true, false, true, true, false, false, false, false] rfl rfl (take_ofW HT_.out HW_.out (by as_aux_lemma => kernel_rfl)) (fun x_ _ w_ h_ => hP x_ _ _ _ w_ h_) (Or.inl ⟨by rfl, ?_⟩) hHeld ?_ ?_
  rotate_left
  · intro w' _
    go_simp
    with_reducible rfl
  rotate_left
  · simp only [Act.put, List.setIfInBounds_toArray, List.set_cons_zero, List.set_cons_succ, i64_w, i32_w]
    rfl
  refine take_ (i := 21) (N := some 159) (v := ?_) (a' := ?_) #[true, true, true, true, true, true, true, true, true, true, true, true, true, true, true, true, true, true, true, true, true, true, true, true, true, false, true, true, false, false, false, false] rfl rfl (take_ofW HT_.out HW_.out (by as_aux_lemma => kernel_rfl)) (fun x_ _ w_ h_ => hP x_ _ _ _ w_ h_) (Or.inl ⟨by rfl, ?_⟩) hHeld ?_ ?_
  rotate_left
  · intro w' _
    go_simp
    with_reducible rfl
  rotate_left
  · simp only [Act.put, List.setIfInBounds_toArray, List.set_cons_zero, List.set_cons_succ, i64_w, i32_w]
    rfl
  refine take_ (i := 25) (N := some 163) (v := ?_) (a' := ?_) #[true, true, true, true, true, true, true, true, true, true, true, true, true, true, true, true, true, true, true, true, true, true, true, true, true, true, true, true, false, false, false, false] rfl rfl (take_ofW HT_.out HW_.out (by as_aux_lemma => kernel_rfl)) (fun x_ _ w_ h_ => hP x_ _ _ _ w_ h_) (Or.inl ⟨by rfl, ?_⟩) hHeld ?_ ?_
  rotate_left
  · intro w' _
    go_simp
    with_reducible rfl
  rotate_left
  · simp only [Act.put, List.setIfInBounds_toArray, List.set_cons_zero, List.set_cons_succ, i64_w, i32_w]
    rfl
  refine take_ (i := 28) (N := some 166) (v := ?_) (a' := ?_) #[true, true, true, true, true, true, true, true, true, true, true, true, true, true, true, true, true, true, true, true, true, true, true, true, true, true, true, true, true, false, false, false] rfl rfl (take_ofW HT_.out HW_.out (by as_aux_lemma => kernel_rfl)) (fun x_ _ w_ h_ => hP x_ _ _ _ w_ h_) (Or.inl ⟨by rfl, ?_⟩) hHeld ?_ ?_
  rotate_left
  · intro w' _
    go_simp
    with_reducible rfl
  rotate_left
  · simp only [Act.put, List.setIfInBounds_toArray, List.set_cons_zero, List.set_cons_succ, i64_w, i32_w]
    rfl
  refine one_ (i := 29) (N := some 167) #[true, true, true, true, true, true, true, true, true, true, true, true, true, true, true, true, true, true, true, true, true, true, true, true, true, true, true, true, true, true, false, false] rfl rfl (one_of HT_.out (by as_aux_lemma => kernel_rfl)) (by decide) (fun K hK => ?_)
  refine Kd.R_lit_step (Kd.int .u8) _ 5 ?hg (N := 167) ?hd (xs := ([92, 117, bt (⟨#[48, 49, 50, 51, 52, 53, 54, 55, 56, 57, 65, 66, 67, 68, 69, 70]⟩ : ByteArray) (ji82), bt (⟨#[48, 49, 50, 51, 52, 53, 54, 55, 56, 57, 65, 66, 67, 68, 69, 70]⟩ : ByteArray) (ji86), bt (⟨#[48, 49, 50, 51, 52, 53, 54, 55, 56, 57, 65, 66, 67, 68, 69, 70]⟩ : ByteArray) (ji90), bt (⟨#[48, 49, 50, 51, 52, 53, 54, 55, 56, 57, 65, 66, 67, 68, 69, 70]⟩ : ByteArray) (ji94), 92, 117, bt (⟨#[48, 49, 50, 51, 52, 53, 54, 55, 56, 57, 65, 66, 67, 68, 69, 70]⟩ : ByteArray) (ji98), bt (⟨#[48, 49, 50, 51, 52, 53, 54, 55, 56, 57, 65, 66, 67, 68, 69, 70]⟩ : ByteArray) (ji102), bt (⟨#[48, 49, 50, 51, 52, 53, 54, 55, 56, 57, 65, 66, 67, 68, 69, 70]⟩ : ByteArray) (ji106), bt (⟨#[48, 49, 50, 51, 52, 53, 54, 55, 56, 57, 65, 66, 67, 68, 69, 70]⟩ : ByteArray) (ji110)] : List Int)) (inner := [.int .u8 92, .int .u8 117, .int .u8 (bt (⟨#[48, 49, 50, 51, 52, 53, 54, 55, 56, 57, 65, 66, 67, 68, 69, 70]⟩ : ByteArray) (ji82)), .int .u8 (bt (⟨#[48, 49, 50, 51, 52, 53, 54, 55, 56, 57, 65, 66, 67, 68, 69, 70]⟩ : ByteArray) (ji86)), .int .u8 (bt (⟨#[48, 49, 50, 51, 52, 53, 54, 55, 56, 57, 65, 66, 67, 68, 69, 70]⟩ : ByteArray) (ji90)), .int .u8 (bt (⟨#[48, 49, 50, 51, 52, 53, 54, 55, 56, 57, 65, 66, 67, 68, 69, 70]⟩ : ByteArray) (ji94)), .int .u8 92, .int .u8 117, .int .u8 (bt (⟨#[48, 49, 50, 51, 52, 53, 54, 55, 56, 57, 65, 66, 67, 68, 69, 70]⟩ : ByteArray) (ji98)), .int .u8 (bt (⟨#[48, 49, 50, 51, 52, 53, 54, 55, 56, 57, 65, 66, 67, 68, 69, 70]⟩ : ByteArray) (ji102)), .int .u8 (bt (⟨#[48, 49, 50, 51, 52, 53, 54, 55, 56, 57, 65, 66, 67, 68, 69, 70]⟩ : ByteArray) (ji106)), .int .u8 (bt (⟨#[48, 49, 50, 51, 52, 53, 54, 55, 56, 57, 65, 66, 67, 68, 69, 70]⟩ : ByteArray) (ji110))]) (ok := fun _ => True) (okp := fun _ => True) ?hr ?hp (fun _ hk => hk) trivial (Below.refl _ _) (Nat.le_refl _) (by simp) ?_; (case hd => rfl); (case hg => rfl); (case hr => first | (go_simp; done) | (go_simp; rfl)); (case hp => exact (Reps.one (show Kd.M (Kd.int .u8) _ _ _ 92 [.int .u8 92] from rfl) (Reps.one (show Kd.M (Kd.int .u8) _ _ _ 117 [.int .u8 117] from rfl) (Reps.one (show Kd.M (Kd.int .u8) _ _ _ (bt (⟨#[48, 49, 50, 51, 52, 53, 54, 55, 56, 57, 65, 66, 67, 68, 69, 70]⟩ : ByteArray) (ji82)) [.int .u8 (bt (⟨#[48, 49, 50, 51, 52, 53, 54, 55, 56, 57, 65, 66, 67, 68, 69, 70]⟩ : ByteArray) (ji82))] from rfl) (Reps.one (show Kd.M (Kd.int .u8) _ _ _ (bt (⟨#[48, 49, 50, 51, 52, 53, 54, 55, 56, 57, 65, 66, 67, 68, 69, 70]⟩ : ByteArray) (ji86)) [.int .u8 (bt (⟨#[48, 49, 50, 51, 52, 53, 54, 55, 56, 57, 65, 66, 67, 68, 69, 70]⟩ : ByteArray) (ji86))] from rfl) (Reps.one (show Kd.M (Kd.int .u8) _ _ _ (bt (⟨#[48, 49, 50, 51, 52, 53, 54, 55, 56, 57, 65, 66, 67, 68, 69, 70]⟩ : ByteArray) (ji90)) [.int .u8 (bt (⟨#[48, 49, 50, 51, 52, 53, 54, 55, 56, 57, 65, 66, 67, 68, 69, 70]⟩ : ByteArray) (ji90))] from rfl) (Reps.one (show Kd.M (Kd.int .u8) _ _ _ (bt (⟨#[48, 49, 50, 51, 52, 53, 54, 55, 56, 57, 65, 66, 67, 68, 69, 70]⟩ : ByteArray) (ji94)) [.int .u8 (bt (⟨#[48, 49, 50, 51, 52, 53, 54, 55, 56, 57, 65, 66, 67, 68, 69, 70]⟩ : ByteArray) (ji94))] from rfl) (Reps.one (show Kd.M (Kd.int .u8) _ _ _ 92 [.int .u8 92] from rfl) (Reps.one (show Kd.M (Kd.int .u8) _ _ _ 117 [.int .u8 117] from rfl) (Reps.one (show Kd.M (Kd.int .u8) _ _ _ (bt (⟨#[48, 49, 50, 51, 52, 53, 54, 55, 56, 57, 65, 66, 67, 68, 69, 70]⟩ : ByteArray) (ji98)) [.int .u8 (bt (⟨#[48, 49, 50, 51, 52, 53, 54, 55, 56, 57, 65, 66, 67, 68, 69, 70]⟩ : ByteArray) (ji98))] from rfl) (Reps.one (show Kd.M (Kd.int .u8) _ _ _ (bt (⟨#[48, 49, 50, 51, 52, 53, 54, 55, 56, 57, 65, 66, 67, 68, 69, 70]⟩ : ByteArray) (ji102)) [.int .u8 (bt (⟨#[48, 49, 50, 51, 52, 53, 54, 55, 56, 57, 65, 66, 67, 68, 69, 70]⟩ : ByteArray) (ji102))] from rfl) (Reps.one (show Kd.M (Kd.int .u8) _ _ _ (bt (⟨#[48, 49, 50, 51, 52, 53, 54, 55, 56, 57, 65, 66, 67, 68, 69, 70]⟩ : ByteArray) (ji106)) [.int .u8 (bt (⟨#[48, 49, 50, 51, 52, 53, 54, 55, 56, 57, 65, 66, 67, 68, 69, 70]⟩ : ByteArray) (ji106))] from rfl) (Reps.one (show Kd.M (Kd.int .u8) _ _ _ (bt (⟨#[48, 49, 50, 51, 52, 53, 54, 55, 56, 57, 65, 66, 67, 68, 69, 70]⟩ : ByteArray) (ji110)) [.int .u8 (bt (⟨#[48, 49, 50, 51, 52, 53, 54, 55, 56, 57, 65, 66, 67, 68, 69, 70]⟩ : ByteArray) (ji110))] from rfl) (Reps.none _ _))))))))))))))
  intro v159 w116 ho117 hb hg_ hnew_
  clear hg_ hnew_
  (first | rw [← Ny158.out] at ho117 | (simp only [Int.reduceToNat] at ho117; rw [← Ny158.out] at ho117))
  have n0_ := Aside0.mk (Kd.R_elder' (by (with_reducible repeat (first | apply Kd.R_alloc | apply Kd.R_drewN | apply Kd.R_drew)); exact HO_10.out) (Kd.R_base ho117) hb)
  have n1_ := Aside0.mk (Kd.R_lower (Kd.R_new' ho117 (Kd.R_lt (by (with_reducible repeat (first | apply Kd.R_alloc | apply Kd.R_drewN | apply Kd.R_drew)); exact HO_10.out))) (below_size (by repeat (first | (with_reducible first | exact HB.out | apply below_alloc | apply pw_below_drewN | apply below_drew1) | exact HB.out))))
  have n2_ := Aside0.mk (below_step (by repeat (first | (with_reducible first | exact HB.out | apply below_alloc | apply pw_below_drewN | apply below_drew1) | exact HB.out)) hb)
  clear HO_10
  clear HB
  have HO_10 := n0_
  have HO160 := n1_
  have HB := n2_
  clear n0_ n1_ n2_
  clear hb ho117
  obtain ⟨Ao119, co119, eo119⟩ := Kd.R_slice HO160.out
  (first | subst eo119 | (injection eo119 with f1_ f2_ f3_; have f4_ := f1_.symm; have f5_ := f3_.symm; clear f1_ f2_ f3_; subst f4_; subst f5_))
  refine hK.out _ _ trivial (fun hHeld => ?_)
  clear hK K
  refine norm_ (a' := ?_) ?_ ?_
  rotate_left
  · show Act.put _ (some 167) _ = _
    simp only [Act.put, List.setIfInBounds_toArray, List.set_cons_zero, List.set_cons_succ, i64_w, i32_w]
    rfl
  refine one_ (i := 30) (N := some 168) #[true, true, true, true, true, true, true, true, true, true, true, true, true, true, true, true, true, true, true, true, true, true, true, true, true, true, true, true, true, true, true, false] rfl rfl (one_of HT_.out (by as_aux_lemma => kernel_rfl)) (by decide) (fun K hK => ?_)
  refine Kd.R_append_rows_step (Kd.int .u8) (w0 := w) w.heap.size (by rfl) (.tmp 138) (.tmp 167) 34 5 (.int .u8 0) 1 rfl Try.underlying34 info5 rfl (by decide) (by omega) u10 x10_1 y158 _ _ _ (fun k_ => some k_ ≠ (.slice Ao119 y158.length co119 : Value).ownBlock) (fun _ => False) rfl rfl ?aO ?aR (fun _ _ h => h) (fun _ h => h.elim) ?aF ?aB ?aS ?aL ?_
  (case aR => repeat (first | exact (Kd.R_reads' HO160.out).2.2 | (with_reducible refine Kd.C_alloc ?_ _) | (with_reducible refine Kd.C_drewN ?_ _) | (with_reducible refine Kd.C_drew ?_)))
  (case aB => exact (by repeat (first | (with_reducible first | exact HB.out | apply below_alloc | apply pw_below_drewN | apply below_drew1) | exact HB.out)))
  (case aF => exact (fun k_ hk => Kd.fresh' (Kd.R_lt (by (with_reducible repeat (first | apply Kd.R_alloc | apply Kd.R_drewN | apply Kd.R_drew)); exact HO160.out)) k_ hk))
  (case aO => exact (by (with_reducible repeat (first | apply Kd.R_alloc | apply Kd.R_drewN | apply Kd.R_drew)); exact Kd.R_mono HO_10.out (fun _ hk => hk.2)))
  (case aS => exact (below_size (by repeat (first | (with_reducible first | exact HB.out | apply below_alloc | apply pw_below_drewN | apply below_drew1) | exact HB.out))))
  (case aL => have := LMc114.out; omega)
  intro v162 w118 ho hb hg hat
  rw [← Ny161.out] at ho
  have n0_ := Aside0.mk (Kd.R_after (ok := (fun _ => True)) (by (with_reducible repeat (first | apply Kd.R_alloc | apply Kd.R_drewN | apply Kd.R_drew)); exact HO160.out) hg hat)
  have n1_ := Aside0.mk (hb)
  have n2_ := Aside0.mk (ho)
  clear HO160
  clear HB
  clear HO_10
  have HO160 := n0_
  have HB := n1_
  have HO163 := n2_
  clear n0_ n1_ n2_
  clear ho hb hg hat
  refine hK.out _ _ trivial (fun hHeld => ?_)
  clear hK K
  refine norm_ (a' := ?_) ?_ ?_
  rotate_left
  · show Act.put _ (some 168) _ = _
    simp only [Act.put, List.setIfInBounds_toArray, List.set_cons_zero, List.set_cons_succ, i64_w, i32_w]
    rfl
  refine pure_ (i := 31) (N := some 10) (v := ?_) (a' := ?_) #[true, true, true, true, true, true, true, true, true, true, true, true, true, true, true, true, true, true, true, true, true, true, true, true, true, true, true, true, true, true, true, true] rfl rfl (any_of HT_.out (by as_aux_lemma => kernel_rfl)) (fun x_ _ w_ h_ => hP x_ _ _ _ w_ h_) (Or.inl ⟨by rfl, ?_⟩) ?_ ?_
  rotate_left
  · intro w'
    go_simp
    with_reducible rfl
  rotate_left
  · simp only [Act.put, List.setIfInBounds_toArray, List.set_cons_zero, List.set_cons_succ, i64_w, i32_w]
    rfl
  refine done_ (done_of HT_.out (by as_aux_lemma => kernel_rfl)) ?_
  exact HKK.out _ _ _ _ _ _ _ _ _ _ _ _ _ _ _ _ _ _ _ _ _ _ _ _ _ _ _ _ _ _ _ _ _ ⟨by (with_reducible repeat (first | apply Kd.R_alloc | apply Kd.R_drewN | apply Kd.R_drew)); exact Kd.R_mono HO163.out (fun _ hk => trivial)⟩ ⟨by repeat (first | (with_reducible first | exact HB.out | apply below_alloc | apply pw_below_drewN | apply below_drew1) | exact HB.out)⟩

set_option maxHeartbeats 16000000 in
set_option maxRecDepth 100000 in
theorem quote_rest (k : Nat) (a0 : ByteArray) (a1 : Bool) (a2 : Int) (r : List Int) (w wr : World) (est : Nat) {u3 u4 u5 u8 u9 u10 u11 u12 u13 u14 u15 u16 u17 u18 u19 u20 u21 u22 u23 u24 u25 u26 u27 u28 u29 u30 u31 u32 u33 u34 u35 u36 u37 u38 u39 u40 u41 u42 u43 u44 u45 u46 u47 u48 u49 u50 u51 u52 u53 u54 u55 u56 u57 u58 u59 u60 u61 u62 u63 u64 u65 u66 u67 u68 u69 u70 u71 u72 u73 u74 u75 u76 u77 u78 u79 u80 u81 u82 u83 u84 u85 u86 u87 u88 u89 u90 u91 u92 u93 u94 u95 u96 u97 u98 u99 u100 u101 u102 u103 u104 u105 u106 u107 u108 u109 u110 u111 u112 u113 u114 u115 u116 u117 u118 u119 u120 u121 u122 u123 u124 u125 u126 u127 u128 u129 u130 u131 u132 u133 u134 u135 u136 u137 u138 u139 u140 u141 u142 u143 u144 u145 u146 u147 u148 u149 u150 u151 u152 u153 u154 u155 u156 u157 u158 u159 u160 u161 u162 u163 u164 u165 u166 u167 u168 u169 u170 u171 u172 u173 u174 u175 u176 u177 u178 u179 u180 u181 u182 u183 u184 u185 u186 u187 u188 u189 u190 u191 u192 u193 u194 u195 u196 u197 u198 u199 u200 u201 u202 u203 u204 u205 u206 u207 u208 u209 u210 u211 u212 u213 u214 u215 u216 u217 u218 u219 u220 u221 u222 u223 u224 u225 u226 u227 u228 u229 u230 : Value} (y101 y104 : List Int) (Ny101 : Aside0 (y101 = [])) (LMc4 : Aside0 (y101.length < 140737488355328)) (Ny104 : Aside0 (y104 = y101 ++ [a2])) (H' : Aside0 (helpers_internalQuote.l0 k a0 a1 a2 y104 0 (a0.size : Int) = some r)) (hs : a0.size ≤ 2147483647) (HE : Hid (est ≤ 2 + 12 * a0.size)) (HBw : Hid (Below w.heap.size w wr)) (B : Code) (hB : Try.f25.body = some B) :
    Code.wp Try.prog (seqR (seqR (seqR B))) (bodyPost Try.prog Try.f25 fun e w' => ∃ v0_ : Value, e = .returned (v0_) ∧ Kd.R (Kd.int .u8) 5 w' w.heap.size (fun _ => True) v0_ r ∧ Below w.heap.size w w') ⟨#[.string a0, .bool a1, .int .u8 a2, u3, u4, u5, .slice none 0 0, .int .i64 (est : Int), u8, u9, u10, u11, u12, u13, u14, u15, u16, u17, u18, u19, u20, u21, u22, u23, u24, u25, u26, u27, u28, u29, u30, u31, u32, u33, u34, u35, u36, u37, u38, u39, u40, u41, u42, u43, u44, u45, u46, u47, u48, u49, u50, u51, u52, u53, u54, u55, u56, u57, u58, u59, u60, u61, u62, u63, u64, u65, u66, u67, u68, u69, u70, u71, u72, u73, u74, u75, u76, u77, u78, u79, u80, u81, u82, u83, u84, u85, u86, u87, u88, u89, u90, u91, u92, u93, u94, u95, u96, u97, u98, u99, u100, u101, u102, u103, u104, u105, u106, u107, u108, u109, u110, u111, u112, u113, u114, u115, u116, u117, u118, u119, u120, u121, u122, u123, u124, u125, u126, u127, u128, u129, u130, u131, u132, u133, u134, u135, u136, u137, u138, u139, u140, u141, u142, u143, u144, u145, u146, u147, u148, u149, u150, u151, u152, u153, u154, u155, u156, u157, u158, u159, u160, u161, u162, u163, u164, u165, u166, u167, u168, u169, u170, u171, u172, u173, u174, u175, u176, u177, u178, u179, u180, u181, u182, u183, u184, u185, u186, u187, u188, u189, u190, u191, u192, u193, u194, u195, u196, u197, u198, u199, u200, u201, u202, u203, u204, u205, u206, u207, u208, u209, u210, u211, u212, u213, u214, u215, u216, u217, u218, u219, u220, u221, u222, u223, u224, u225, u226, u227, u228, u229, u230], []⟩ wr := by
  injection hB with hB
  subst hB
  dsimp only [seqR]
  go_wp2_with ((with_reducible refine gate_dst (N := 59) rfl ?_); refine R_make_cap (w0 := w) (N := 59) w.heap.size ?hg ?hd ?ho est ?hx ?hl ?hb ?hs ?_)
  case hd => rfl
  case hg => rfl
  case ho => rfl
  case hx => rfl
  case hl => have := HE.out; omega
  case hb => exact HBw.out
  case hs => exact HBw.out.size
  intro v102 w5 ho6 hb
  rw [← Ny101.out] at ho6
  have HO103 := Aside0.mk ho6
  have HB := Aside0.mk hb
  clear hb ho6
  go_wp2_with (first | ((with_reducible refine gate_builtin (b := .append) (xs := #[.tmp 62, .tmp 64]) rfl ?_); at_builtin; refine Kd.R_append (Kd.int .u8) (w0 := w) w.heap.size rfl (.tmp 62) (.tmp 64) 34 5 (.int .u8 0) 1 rfl Try.underlying34 info5 rfl (by decide) (by omega) v102 y101 a2 [.int .u8 a2] (fun _ => True) (fun _ => False) rfl rfl ?aP (fun _ hk => hk.elim) ?aF ?aO ?aB ?aS ?aL ?_; (case aP => exact rfl); (case aB => exact (by repeat (first | (with_reducible first | exact HB.out | apply below_alloc | apply pw_below_drewN | apply below_drew1) | exact HB.out))); (case aF => exact (fun _ _ => trivial)); (case aO => exact (by (with_reducible repeat (first | apply Kd.R_alloc | apply Kd.R_drewN | apply Kd.R_drew)); exact HO103.out)); (case aS => exact (below_size (by repeat (first | (with_reducible first | exact HB.out | apply below_alloc | apply pw_below_drewN | apply below_drew1) | exact HB.out)))); (case aL => have := LMc4.out; omega); intro v105 w7 ho hb hg hat; rw [← Ny104.out] at ho; have n0_ := Aside0.mk (hb); have n1_ := Aside0.mk (ho); clear HB; clear HO103; have HB := n0_; have HO106 := n1_; clear n0_ n1_; clear ho hb hg hat))
  go_loopg [10, 11] k (fun kq v10 v11 w' => ∃ (x10_1 : List Int) (x11_1 : Int), v11 = .int .i64 x11_1 ∧ Aside0 (helpers_internalQuote.l0 kq a0 a1 a2 x10_1 x11_1 (a0.size : Int) = some r) ∧ Aside0 (kq ≤ k) ∧ Aside0 (Kd.R (Kd.int .u8) 5 w' w.heap.size (fun _ => True) v10 x10_1) ∧ Aside0 (Below w.heap.size w w'))
  case atStart => exact ⟨(y104), (0), (by first | rfl | (simp; done) | (simp [*]; done)), H', ⟨Nat.le_refl _⟩, ⟨by (with_reducible repeat (first | apply Kd.R_alloc | apply Kd.R_drewN | apply Kd.R_drew)); exact HO106.out⟩, ⟨by repeat (first | (with_reducible first | exact HB.out | apply below_alloc | apply pw_below_drewN | apply below_drew1) | exact HB.out)⟩⟩
  case round =>
    clear H'
    try clear c2
    try clear p2
    try clear c4
    obtain ⟨x10_1, x11_1, rfl, HA, HK1, HO_10, HB⟩ := hrel
    cases gk with
    | zero => exact absurd HA.out (by simp [helpers_internalQuote.l0])
    | succ k1 =>
      have H := HA.out
      clear HA
      simp only [helpers_internalQuote.l0] at H
      by_cases c8 : x11_1 < (a0.size : Int)
      · rw [if_pos c8] at H
        have c8b0 : decide (x11_1 < (a0.size : Int)) = true := decide_eq_true c8
        clear c8
        by_cases c9 : 0 ≤ x11_1
        · rw [if_pos c9] at H
          have c9b0 := eq_true c9
          have c9b1 : decide (0 ≤ x11_1) = true := decide_eq_true c9
          clear c9
          by_cases c10 : x11_1 ≤ (a0.size : Int)
          · rw [if_pos c10] at H
            have c10b0 := eq_true c10
            have c10b1 : decide (x11_1 ≤ (a0.size : Int)) = true := decide_eq_true c10
            clear c10
            replace H := Option.bind_eq_some_iff.mp H
            obtain ⟨⟨t110, t111⟩, A110, H⟩ := H
            replace H : ((helpers_canPrintWithoutEscape.f t110 a1).bind fun t112 => (if t112 = true then (helpers_internalQuote.l1 k1 a0 a1 a2 x10_1 (wrap64 (x11_1 + t111)) (a0.size : Int) x11_1) else (if t110 = 8 then (if x10_1.length + 2 < 140737488355328 then (helpers_internalQuote.l0 k1 a0 a1 a2 (x10_1 ++ bytesOf (⟨#[92, 98]⟩ : ByteArray)) (wrap64 (x11_1 + 1)) (a0.size : Int)) else (none)) else (if t110 = 12 then (if x10_1.length + 2 < 140737488355328 then (helpers_internalQuote.l0 k1 a0 a1 a2 (x10_1 ++ bytesOf (⟨#[92, 102]⟩ : ByteArray)) (wrap64 (x11_1 + 1)) (a0.size : Int)) else (none)) else (if t110 = 10 then (if x10_1.length + 2 < 140737488355328 then (helpers_internalQuote.l0 k1 a0 a1 a2 (x10_1 ++ bytesOf (⟨#[92, 110]⟩ : ByteArray)) (wrap64 (x11_1 + 1)) (a0.size : Int)) else (none)) else (if t110 = 13 then (if x10_1.length + 2 < 140737488355328 then (helpers_internalQuote.l0 k1 a0 a1 a2 (x10_1 ++ bytesOf (⟨#[92, 114]⟩ : ByteArray)) (wrap64 (x11_1 + 1)) (a0.size : Int)) else (none)) else (if t110 = 9 then (if x10_1.length + 2 < 140737488355328 then (helpers_internalQuote.l0 k1 a0 a1 a2 (x10_1 ++ bytesOf (⟨#[92, 116]⟩ : ByteArray)) (wrap64 (x11_1 + 1)) (a0.size : Int)) else (none)) else (if t110 = 92 then (if x10_1.length + 2 < 140737488355328 then (helpers_internalQuote.l0 k1 a0 a1 a2 (x10_1 ++ bytesOf (⟨#[92, 92]⟩ : ByteArray)) (wrap64 (x11_1 + 1)) (a0.size : Int)) else (none)) else (if t110 = 34 then (if a2 = 34 then (none) else (if x10_1.length < 140737488355328 then (helpers_internalQuote.l0 k1 a0 a1 a2 (x10_1 ++ [34]) (wrap64 (x11_1 + 1)) (a0.size : Int)) else (none))) else (if t110 = 39 then (none) else (if t110 ≤ 65535 then (if 0 ≤ (t110 / 4096) then (if (t110 / 4096) < 16 then (if 0 ≤ (Go.bits .and .i32 (t110 / 256) 15) then (if (Go.bits .and .i32 (t110 / 256) 15) < 16 then (if 0 ≤ (Go.bits .and .i32 (t110 / 16) 15) then (if (Go.bits .and .i32 (t110 / 16) 15) < 16 then (if 0 ≤ (Go.bits .and .i32 t110 15) then (if (Go.bits .and .i32 t110 15) < 16 then ((some (([92, 117, bt (⟨#[48, 49, 50, 51, 52, 53, 54, 55, 56, 57, 65, 66, 67, 68, 69, 70]⟩ : ByteArray) (t110 / 4096), bt (⟨#[48, 49, 50, 51, 52, 53, 54, 55, 56, 57, 65, 66, 67, 68, 69, 70]⟩ : ByteArray) (Go.bits .and .i32 (t110 / 256) 15), bt (⟨#[48, 49, 50, 51, 52, 53, 54, 55, 56, 57, 65, 66, 67, 68, 69, 70]⟩ : ByteArray) (Go.bits .and .i32 (t110 / 16) 15), bt (⟨#[48, 49, 50, 51, 52, 53, 54, 55, 56, 57, 65, 66, 67, 68, 69, 70]⟩ : ByteArray) (Go.bits .and .i32 t110 15)] : List Int) : List Int)).bind fun y152 => (if x10_1.length + y152.length < 140737488355328 then (helpers_internalQuote.l0 k1 a0 a1 a2 (x10_1 ++ y152) (wrap64 (x11_1 + t111)) (a0.size : Int)) else (none))) else (none)) else (none)) else (none)) else (none)) else (none)) else (none)) else (none)) else (none)) else (if 0 ≤ ((wrap32 (55296 + (Go.bits .and .i32 ((wrap32 (t110 - 65536)) / 1024) 1023))) / 4096) then (if ((wrap32 (55296 + (Go.bits .and .i32 ((wrap32 (t110 - 65536)) / 1024) 1023))) / 4096) < 16 then (if 0 ≤ (Go.bits .and .i32 ((wrap32 (55296 + (Go.bits .and .i32 ((wrap32 (t110 - 65536)) / 1024) 1023))) / 256) 15) then (if (Go.bits .and .i32 ((wrap32 (55296 + (Go.bits .and .i32 ((wrap32 (t110 - 65536)) / 1024) 1023))) / 256) 15) < 16 then (if 0 ≤ (Go.bits .and .i32 ((wrap32 (55296 + (Go.bits .and .i32 ((wrap32 (t110 - 65536)) / 1024) 1023))) / 16) 15) then (if (Go.bits .and .i32 ((wrap32 (55296 + (Go.bits .and .i32 ((wrap32 (t110 - 65536)) / 1024) 1023))) / 16) 15) < 16 then (if 0 ≤ (Go.bits .and .i32 (wrap32 (55296 + (Go.bits .and .i32 ((wrap32 (t110 - 65536)) / 1024) 1023))) 15) then (if (Go.bits .and .i32 (wrap32 (55296 + (Go.bits .and .i32 ((wrap32 (t110 - 65536)) / 1024) 1023))) 15) < 16 then (if 0 ≤ ((wrap32 (56320 + (Go.bits .and .i32 (wrap32 (t110 - 65536)) 1023))) / 4096) then (if ((wrap32 (56320 + (Go.bits .and .i32 (wrap32 (t110 - 65536)) 1023))) / 4096) < 16 then (if 0 ≤ (Go.bits .and .i32 ((wrap32 (56320 + (Go.bits .and .i32 (wrap32 (t110 - 65536)) 1023))) / 256) 15) then (if (Go.bits .and .i32 ((wrap32 (56320 + (Go.bits .and .i32 (wrap32 (t110 - 65536)) 1023))) / 256) 15) < 16 then (if 0 ≤ (Go.bits .and .i32 ((wrap32 (56320 + (Go.bits .and .i32 (wrap32 (t110 - 65536)) 1023))) / 16) 15) then (if (Go.bits .and .i32 ((wrap32 (56320 + (Go.bits .and .i32 (wrap32 (t110 - 65536)) 1023))) / 16) 15) < 16 then (if 0 ≤ (Go.bits .and .i32 (wrap32 (56320 + (Go.bits .and .i32 (wrap32 (t110 - 65536)) 1023))) 15) then (if (Go.bits .and .i32 (wrap32 (56320 + (Go.bits .and .i32 (wrap32 (t110 - 65536)) 1023))) 15) < 16 then ((some (([92, 117, bt (⟨#[48, 49, 50, 51, 52, 53, 54, 55, 56, 57, 65, 66, 67, 68, 69, 70]⟩ : ByteArray) ((wrap32 (55296 + (Go.bits .and .i32 ((wrap32 (t110 - 65536)) / 1024) 1023))) / 4096), bt (⟨#[48, 49, 50, 51, 52, 53, 54, 55, 56, 57, 65, 66, 67, 68, 69, 70]⟩ : ByteArray) (Go.bits .and .i32 ((wrap32 (55296 + (Go.bits .and .i32 ((wrap32 (t110 - 65536)) / 1024) 1023))) / 256) 15), bt (⟨#[48, 49, 50, 51, 52, 53, 54, 55, 56, 57, 65, 66, 67, 68, 69, 70]⟩ : ByteArray) (Go.bits .and .i32 ((wrap32 (55296 + (Go.bits .and .i32 ((wrap32 (t110 - 65536)) / 1024) 1023))) / 16) 15), bt (⟨#[48, 49, 50, 51, 52, 53, 54, 55, 56, 57, 65, 66, 67, 68, 69, 70]⟩ : ByteArray) (Go.bits .and .i32 (wrap32 (55296 + (Go.bits .and .i32 ((wrap32 (t110 - 65536)) / 1024) 1023))) 15), 92, 117, bt (⟨#[48, 49, 50, 51, 52, 53, 54, 55, 56, 57, 65, 66, 67, 68, 69, 70]⟩ : ByteArray) ((wrap32 (56320 + (Go.bits .and .i32 (wrap32 (t110 - 65536)) 1023))) / 4096), bt (⟨#[48, 49, 50, 51, 52, 53, 54, 55, 56, 57, 65, 66, 67, 68, 69, 70]⟩ : ByteArray) (Go.bits .and .i32 ((wrap32 (56320 + (Go.bits .and .i32 (wrap32 (t110 - 65536)) 1023))) / 256) 15), bt (⟨#[48, 49, 50, 51, 52, 53, 54, 55, 56, 57, 65, 66, 67, 68, 69, 70]⟩ : ByteArray) (Go.bits .and .i32 ((wrap32 (56320 + (Go.bits .and .i32 (wrap32 (t110 - 65536)) 1023))) / 16) 15), bt (⟨#[48, 49, 50, 51, 52, 53, 54, 55, 56, 57, 65, 66, 67, 68, 69, 70]⟩ : ByteArray) (Go.bits .and .i32 (wrap32 (56320 + (Go.bits .and .i32 (wrap32 (t110 - 65536)) 1023))) 15)] : List Int) : List Int)).bind fun y158 => (if x10_1.length + y158.length < 140737488355328 then (helpers_internalQuote.l0 k1 a0 a1 a2 (x10_1 ++ y158) (wrap64 (x11_1 + t111)) (a0.size : Int)) else (none))) else (none)) else (none)) else (none)) else (none)) else (none)) else (none)) else (none)) else (none)) else (none)) else (none)) else (none)) else (none)) else (none)) else (none)) else (none)) else (none))))))))))))) = some r := H
            have A11 := Aside0.mk A110
            clear A110
            replace H := Option.bind_eq_some_iff.mp H
            obtain ⟨t112, A120, H⟩ := H
            replace H : (if t112 = true then (helpers_internalQuote.l1 k1 a0 a1 a2 x10_1 (wrap64 (x11_1 + t111)) (a0.size : Int) x11_1) else (if t110 = 8 then (if x10_1.length + 2 < 140737488355328 then (helpers_internalQuote.l0 k1 a0 a1 a2 (x10_1 ++ bytesOf (⟨#[92, 98]⟩ : ByteArray)) (wrap64 (x11_1 + 1)) (a0.size : Int)) else (none)) else (if t110 = 12 then (if x10_1.length + 2 < 140737488355328 then (helpers_internalQuote.l0 k1 a0 a1 a2 (x10_1 ++ bytesOf (⟨#[92, 102]⟩ : ByteArray)) (wrap64 (x11_1 + 1)) (a0.size : Int)) else (none)) else (if t110 = 10 then (if x10_1.length + 2 < 140737488355328 then (helpers_internalQuote.l0 k1 a0 a1 a2 (x10_1 ++ bytesOf (⟨#[92, 110]⟩ : ByteArray)) (wrap64 (x11_1 + 1)) (a0.size : Int)) else (none)) else (if t110 = 13 then (if x10_1.length + 2 < 140737488355328 then (helpers_internalQuote.l0 k1 a0 a1 a2 (x10_1 ++ bytesOf (⟨#[92, 114]⟩ : ByteArray)) (wrap64 (x11_1 + 1)) (a0.size : Int)) else (none)) else (if t110 = 9 then (if x10_1.length + 2 < 140737488355328 then (helpers_internalQuote.l0 k1 a0 a1 a2 (x10_1 ++ bytesOf (⟨#[92, 116]⟩ : ByteArray)) (wrap64 (x11_1 + 1)) (a0.size : Int)) else (none)) else (if t110 = 92 then (if x10_1.length + 2 < 140737488355328 then (helpers_internalQuote.l0 k1 a0 a1 a2 (x10_1 ++ bytesOf (⟨#[92, 92]⟩ : ByteArray)) (wrap64 (x11_1 + 1)) (a0.size : Int)) else (none)) else (if t110 = 34 then (if a2 = 34 then (none) else (if x10_1.length < 140737488355328 then (helpers_internalQuote.l0 k1 a0 a1 a2 (x10_1 ++ [34]) (wrap64 (x11_1 + 1)) (a0.size : Int)) else (none))) else (if t110 = 39 then (none) else (if t110 ≤ 65535 then (if 0 ≤ (t110 / 4096) then (if (t110 / 4096) < 16 then (if 0 ≤ (Go.bits .and .i32 (t110 / 256) 15) then (if (Go.bits .and .i32 (t110 / 256) 15) < 16 then (if 0 ≤ (Go.bits .and .i32 (t110 / 16) 15) then (if (Go.bits .and .i32 (t110 / 16) 15) < 16 then (if 0 ≤ (Go.bits .and .i32 t110 15) then (if (Go.bits .and .i32 t110 15) < 16 then ((some (([92, 117, bt (⟨#[48, 49, 50, 51, 52, 53, 54, 55, 56, 57, 65, 66, 67, 68, 69, 70]⟩ : ByteArray) (t110 / 4096), bt (⟨#[48, 49, 50, 51, 52, 53, 54, 55, 56, 57, 65, 66, 67, 68, 69, 70]⟩ : ByteArray) (Go.bits .and .i32 (t110 / 256) 15), bt (⟨#[48, 49, 50, 51, 52, 53, 54, 55, 56, 57, 65, 66, 67, 68, 69, 70]⟩ : ByteArray) (Go.bits .and .i32 (t110 / 16) 15), bt (⟨#[48, 49, 50, 51, 52, 53, 54, 55, 56, 57, 65, 66, 67, 68, 69, 70]⟩ : ByteArray) (Go.bits .and .i32 t110 15)] : List Int) : List Int)).bind fun y152 => (if x10_1.length + y152.length < 140737488355328 then (helpers_internalQuote.l0 k1 a0 a1 a2 (x10_1 ++ y152) (wrap64 (x11_1 + t111)) (a0.size : Int)) else (none))) else (none)) else (none)) else (none)) else (none)) else (none)) else (none)) else (none)) else (none)) else (if 0 ≤ ((wrap32 (55296 + (Go.bits .and .i32 ((wrap32 (t110 - 65536)) / 1024) 1023))) / 4096) then (if ((wrap32 (55296 + (Go.bits .and .i32 ((wrap32 (t110 - 65536)) / 1024) 1023))) / 4096) < 16 then (if 0 ≤ (Go.bits .and .i32 ((wrap32 (55296 + (Go.bits .and .i32 ((wrap32 (t110 - 65536)) / 1024) 1023))) / 256) 15) then (if (Go.bits .and .i32 ((wrap32 (55296 + (Go.bits .and .i32 ((wrap32 (t110 - 65536)) / 1024) 1023))) / 256) 15) < 16 then (if 0 ≤ (Go.bits .and .i32 ((wrap32 (55296 + (Go.bits .and .i32 ((wrap32 (t110 - 65536)) / 1024) 1023))) / 16) 15) then (if (Go.bits .and .i32 ((wrap32 (55296 + (Go.bits .and .i32 ((wrap32 (t110 - 65536)) / 1024) 1023))) / 16) 15) < 16 then (if 0 ≤ (Go.bits .and .i32 (wrap32 (55296 + (Go.bits .and .i32 ((wrap32 (t110 - 65536)) / 1024) 1023))) 15) then (if (Go.bits .and .i32 (wrap32 (55296 + (Go.bits .and .i32 ((wrap32 (t110 - 65536)) / 1024) 1023))) 15) < 16 then (if 0 ≤ ((wrap32 (56320 + (Go.bits .and .i32 (wrap32 (t110 - 65536)) 1023))) / 4096) then (if ((wrap32 (56320 + (Go.bits .and .i32 (wrap32 (t110 - 65536)) 1023))) / 4096) < 16 then (if 0 ≤ (Go.bits .and .i32 ((wrap32 (56320 + (Go.bits .and .i32 (wrap32 (t110 - 65536)) 1023))) / 256) 15) then (if (Go.bits .and .i32 ((wrap32 (56320 + (Go.bits .and .i32 (wrap32 (t110 - 65536)) 1023))) / 256) 15) < 16 then (if 0 ≤ (Go.bits .and .i32 ((wrap32 (56320 + (Go.bits .and .i32 (wrap32 (t110 - 65536)) 1023))) / 16) 15) then (if (Go.bits .and .i32 ((wrap32 (56320 + (Go.bits .and .i32 (wrap32 (t110 - 65536)) 1023))) / 16) 15) < 16 then (if 0 ≤ (Go.bits .and .i32 (wrap32 (56320 + (Go.bits .and .i32 (wrap32 (t110 - 65536)) 1023))) 15) then (if (Go.bits .and .i32 (wrap32 (56320 + (Go.bits .and .i32 (wrap32 (t110 - 65536)) 1023))) 15) < 16 then ((some (([92, 117, bt (⟨#[48, 49, 50, 51, 52, 53, 54, 55, 56, 57, 65, 66, 67, 68, 69, 70]⟩ : ByteArray) ((wrap32 (55296 + (Go.bits .and .i32 ((wrap32 (t110 - 65536)) / 1024) 1023))) / 4096), bt (⟨#[48, 49, 50, 51, 52, 53, 54, 55, 56, 57, 65, 66, 67, 68, 69, 70]⟩ : ByteArray) (Go.bits .and .i32 ((wrap32 (55296 + (Go.bits .and .i32 ((wrap32 (t110 - 65536)) / 1024) 1023))) / 256) 15), bt (⟨#[48, 49, 50, 51, 52, 53, 54, 55, 56, 57, 65, 66, 67, 68, 69, 70]⟩ : ByteArray) (Go.bits .and .i32 ((wrap32 (55296 + (Go.bits .and .i32 ((wrap32 (t110 - 65536)) / 1024) 1023))) / 16) 15), bt (⟨#[48, 49, 50, 51, 52, 53, 54, 55, 56, 57, 65, 66, 67, 68, 69, 70]⟩ : ByteArray) (Go.bits .and .i32 (wrap32 (55296 + (Go.bits .and .i32 ((wrap32 (t110 - 65536)) / 1024) 1023))) 15), 92, 117, bt (⟨#[48, 49, 50, 51, 52, 53, 54, 55, 56, 57, 65, 66, 67, 68, 69, 70]⟩ : ByteArray) ((wrap32 (56320 + (Go.bits .and .i32 (wrap32 (t110 - 65536)) 1023))) / 4096), bt (⟨#[48, 49, 50, 51, 52, 53, 54, 55, 56, 57, 65, 66, 67, 68, 69, 70]⟩ : ByteArray) (Go.bits .and .i32 ((wrap32 (56320 + (Go.bits .and .i32 (wrap32 (t110 - 65536)) 1023))) / 256) 15), bt (⟨#[48, 49, 50, 51, 52, 53, 54, 55, 56, 57, 65, 66, 67, 68, 69, 70]⟩ : ByteArray) (Go.bits .and .i32 ((wrap32 (56320 + (Go.bits .and .i32 (wrap32 (t110 - 65536)) 1023))) / 16) 15), bt (⟨#[48, 49, 50, 51, 52, 53, 54, 55, 56, 57, 65, 66, 67, 68, 69, 70]⟩ : ByteArray) (Go.bits .and .i32 (wrap32 (56320 + (Go.bits .and .i32 (wrap32 (t110 - 65536)) 1023))) 15)] : List Int) : List Int)).bind fun y158 => (if x10_1.length + y158.length < 140737488355328 then (helpers_internalQuote.l0 k1 a0 a1 a2 (x10_1 ++ y158) (wrap64 (x11_1 + t111)) (a0.size : Int)) else (none))) else (none)) else (none)) else (none)) else (none)) else (none)) else (none)) else (none)) else (none)) else (none)) else (none)) else (none)) else (none)) else (none)) else (none)) else (none)) else (none)))))))))))) = some r := H
            have A12 := Aside0.mk A120
            clear A120
            by_cases c13 : t112 = true
            · as_aux_lemma =>
                subst c13
                have H1 : (helpers_internalQuote.l1 k1 a0 a1 a2 x10_1 (wrap64 (x11_1 + t111)) (a0.size : Int) x11_1) = some r := by rw [if_pos rfl] at H; exact H
                clear H
                have H := H1
                clear H1
                have H' := Aside0.mk H
                clear H
                go_wp2_with (first | ((with_reducible refine gate_callee (f := 37) rfl ?_); refine goesL_ (some 73) rfl rfl Try.func37 (by as_aux_lemma => kernel_rfl) rfl #[.string (a0.extract (x11_1 : Int).toNat a0.size)] rfl (by (try simp only [List.map_toArray, List.map_cons, List.map_nil]); first | done | rfl | (simp only [List.length_drop, List.length_take]; rfl)) ?_; (with_reducible refine (helpers_DecodeWTF8Rune.calls k1 (a0.extract (x11_1 : Int).toNat a0.size) t110 t111 _ A11.out).mono ?_); rintro e w' ⟨rfl, ⟨nd, rfl⟩⟩; refine ⟨_, rfl, ?_⟩) | ((with_reducible refine gate_callee (f := 35) rfl ?_); refine goesL_ (some 78) rfl rfl Try.func35 (by as_aux_lemma => kernel_rfl) rfl #[.int .i32 t110, .bool a1] rfl (by (try simp only [List.map_toArray, List.map_cons, List.map_nil]); first | done | rfl | (simp only [List.length_drop, List.length_take]; rfl)) ?_; (with_reducible refine (helpers_canPrintWithoutEscape.calls t110 a1 true _ A12.out).mono ?_); rintro e w' ⟨rfl, ⟨nd, rfl⟩⟩; refine ⟨_, rfl, ?_⟩))
                go_loopg [11] k1 (fun kq v11 w' => ∃ (x11_2 : Int), v11 = .int .i64 x11_2 ∧ Aside0 (helpers_internalQuote.l1 kq a0 a1 a2 x10_1 x11_2 (a0.size : Int) x11_1 = some r) ∧ Aside0 (kq ≤ k1) ∧ Aside0 (Kd.R (Kd.int .u8) 5 w' w.heap.size (fun _ => True) u10 x10_1) ∧ Aside0 (Below w.heap.size w w'))
                case atStart => exact ⟨(wrap64 (x11_1 + t111)), (by first | rfl | (simp; done) | (simp [*]; done)), H', ⟨Nat.le_refl _⟩, ⟨by (with_reducible repeat (first | apply Kd.R_alloc | apply Kd.R_drewN | apply Kd.R_drew)); exact HO_10.out⟩, ⟨by repeat (first | (with_reducible first | exact HB.out | apply below_alloc | apply pw_below_drewN | apply below_drew1) | exact HB.out)⟩⟩
                case round =>
                  clear H'
                  try clear c1
                  try clear c2
                  try clear p2
                  try clear c3
                  try clear p3
                  try clear c4
                  try clear p6
                  try clear c8
                  try clear c8b0
                  try clear c9
                  try clear c9b0
                  try clear c9b1
                  try clear c10
                  try clear c10b0
                  try clear c10b1
                  try clear c13
                  try clear p2
                  obtain ⟨x11_2, rfl, HA, HK2, HO_10, HB⟩ := hrel
                  cases gk with
                  | zero => exact absurd HA.out (by simp [helpers_internalQuote.l1])
                  | succ k2 =>
                    have H := HA.out
                    clear HA
                    simp only [helpers_internalQuote.l1] at H
                    by_cases c14 : x11_2 < (a0.size : Int)
                    · rw [if_pos c14] at H
                      have c14b0 : decide (x11_2 < (a0.size : Int)) = true := decide_eq_true c14
                      clear c14
                      by_cases c15 : 0 ≤ x11_2
                      · rw [if_pos c15] at H
                        have c15b0 := eq_true c15
                        have c15b1 : decide (0 ≤ x11_2) = true := decide_eq_true c15
                        clear c15
                        by_cases c16 : x11_2 ≤ (a0.size : Int)
                        · rw [if_pos c16] at H
                          have c16b0 := eq_true c16
                          have c16b1 : decide (x11_2 ≤ (a0.size : Int)) = true := decide_eq_true c16
                          clear c16
                          replace H := Option.bind_eq_some_iff.mp H
                          obtain ⟨⟨t116, t117⟩, A170, H⟩ := H
                          replace H : ((helpers_canPrintWithoutEscape.f t116 a1).bind fun t118 => (if t118 = true then (helpers_internalQuote.l1 k2 a0 a1 a2 x10_1 (wrap64 (x11_2 + t117)) (a0.size : Int) x11_1) else (if 0 ≤ x11_1 then (if x11_1 ≤ x11_2 then (if x10_1.length + (a0.extract (x11_1 : Int).toNat (x11_2 : Int).toNat).size < 140737488355328 then (helpers_internalQuote.l0 k2 a0 a1 a2 (x10_1 ++ bytesOf (a0.extract (x11_1 : Int).toNat (x11_2 : Int).toNat)) x11_2 (a0.size : Int)) else (none)) else (none)) else (none)))) = some r := H
                          have A17 := Aside0.mk A170
                          clear A170
                          replace H := Option.bind_eq_some_iff.mp H
                          obtain ⟨t118, A180, H⟩ := H
                          replace H : (if t118 = true then (helpers_internalQuote.l1 k2 a0 a1 a2 x10_1 (wrap64 (x11_2 + t117)) (a0.size : Int) x11_1) else (if 0 ≤ x11_1 then (if x11_1 ≤ x11_2 then (if x10_1.length + (a0.extract (x11_1 : Int).toNat (x11_2 : Int).toNat).size < 140737488355328 then (helpers_internalQuote.l0 k2 a0 a1 a2 (x10_1 ++ bytesOf (a0.extract (x11_1 : Int).toNat (x11_2 : Int).toNat)) x11_2 (a0.size : Int)) else (none)) else (none)) else (none))) = some r := H
                          have A18 := Aside0.mk A180
                          clear A180
                          by_cases c19 : t118 = true
                          · subst c19
                            have H1 : (helpers_internalQuote.l1 k2 a0 a1 a2 x10_1 (wrap64 (x11_2 + t117)) (a0.size : Int) x11_1) = some r := by rw [if_pos rfl] at H; exact H
                            clear H
                            have H := H1
                            clear H1
                            have H' := Aside0.mk H
                            clear H
                            go_wp2_with (first | ((with_reducible refine gate_callee (f := 37) rfl ?_); refine goesL_ (some 90) rfl rfl Try.func37 (by as_aux_lemma => kernel_rfl) rfl #[.string (a0.extract (x11_2 : Int).toNat a0.size)] rfl (by (try simp only [List.map_toArray, List.map_cons, List.map_nil]); first | done | rfl | (simp only [List.length_drop, List.length_take]; rfl)) ?_; (with_reducible refine (helpers_DecodeWTF8Rune.calls k2 (a0.extract (x11_2 : Int).toNat a0.size) t116 t117 _ A17.out).mono ?_); rintro e w' ⟨rfl, ⟨nd, rfl⟩⟩; refine ⟨_, rfl, ?_⟩) | ((with_reducible refine gate_callee (f := 35) rfl ?_); refine goesL_ (some 95) rfl rfl Try.func35 (by as_aux_lemma => kernel_rfl) rfl #[.int .i32 t116, .bool a1] rfl (by (try simp only [List.map_toArray, List.map_cons, List.map_nil]); first | done | rfl | (simp only [List.length_drop, List.length_take]; rfl)) ?_; (with_reducible refine (helpers_canPrintWithoutEscape.calls t116 a1 true _ A18.out).mono ?_); rintro e w' ⟨rfl, ⟨nd, rfl⟩⟩; refine ⟨_, rfl, ?_⟩))
                            go_roundg k2
                            case measure => have := HK1.out; have := HK2.out; omega
                            case rel => exact ⟨(wrap64 (x11_2 + t117)), (by first | rfl | (simp; done) | (simp [*]; done)), H', ⟨by have := HK1.out; have := HK2.out; omega⟩, ⟨by (with_reducible repeat (first | apply Kd.R_alloc | apply Kd.R_drewN | apply Kd.R_drew)); exact HO_10.out⟩, ⟨by repeat (first | (with_reducible first | exact HB.out | apply below_alloc | apply pw_below_drewN | apply below_drew1) | exact HB.out)⟩⟩
                          · replace c19 := Bool.eq_false_iff.mpr c19
                            subst c19
                            have H1 : (if 0 ≤ x11_1 then (if x11_1 ≤ x11_2 then (if x10_1.length + (a0.extract (x11_1 : Int).toNat (x11_2 : Int).toNat).size < 140737488355328 then (helpers_internalQuote.l0 k2 a0 a1 a2 (x10_1 ++ bytesOf (a0.extract (x11_1 : Int).toNat (x11_2 : Int).toNat)) x11_2 (a0.size : Int)) else (none)) else (none)) else (none)) = some r := by rw [if_neg (show ¬ (false = true) by decide)] at H; exact H
                            clear H
                            have H := H1
                            clear H1
                            by_cases c20 : 0 ≤ x11_1
                            · rw [if_pos c20] at H
                              have c20b0 := eq_true c20
                              have c20b1 : decide (0 ≤ x11_1) = true := decide_eq_true c20
                              clear c20
                              by_cases c21 : x11_1 ≤ x11_2
                              · rw [if_pos c21] at H
                                have c21b0 := eq_true c21
                                have c21b1 : decide (x11_1 ≤ x11_2) = true := decide_eq_true c21
                                clear c21
                                have c22b0 := eq_true (of_decide_eq_true (by first | (with_reducible assumption) | assumption) : x11_2 ≤ (a0.size : Int))
                                by_cases c23 : x10_1.length + (a0.extract (x11_1 : Int).toNat (x11_2 : Int).toNat).size < 140737488355328
                                · rw [if_pos c23] at H
                                  have LMc23 := Aside0.mk c23
                                  clear c23
                                  obtain ⟨y119, hy119⟩ : ∃ y_ : List Int, y_ = (x10_1 ++ bytesOf (a0.extract (x11_1 : Int).toNat (x11_2 : Int).toNat)) := ⟨_, rfl⟩
                                  replace H : (helpers_internalQuote.l0 k2 a0 a1 a2 y119 x11_2 (a0.size : Int)) = some r := by first | (rw [hy119]; with_reducible exact H) | (have H2_ := (Option.bind_some _ _).symm.trans H; rw [hy119]; with_reducible exact H2_) | (have H2_ := (Option.bind_some _ _).symm.trans H; with_reducible exact H2_) | with_reducible exact H | (rw [hy119]; exact H) | exact H
                                  have Ny119 := Aside0.mk hy119
                                  clear hy119
                                  have H' := Aside0.mk H
                                  clear H
                                  go_wp2_with (first | ((with_reducible refine gate_callee (f := 37) rfl ?_); refine goesL_ (some 90) rfl rfl Try.func37 (by as_aux_lemma => kernel_rfl) rfl #[.string (a0.extract (x11_2 : Int).toNat a0.size)] rfl (by (try simp only [List.map_toArray, List.map_cons, List.map_nil]); first | done | rfl | (simp only [List.length_drop, List.length_take]; rfl)) ?_; (with_reducible refine (helpers_DecodeWTF8Rune.calls k2 (a0.extract (x11_2 : Int).toNat a0.size) t116 t117 _ A17.out).mono ?_); rintro e w' ⟨rfl, ⟨nd, rfl⟩⟩; refine ⟨_, rfl, ?_⟩) | ((with_reducible refine gate_callee (f := 35) rfl ?_); refine goesL_ (some 95) rfl rfl Try.func35 (by as_aux_lemma => kernel_rfl) rfl #[.int .i32 t116, .bool a1] rfl (by (try simp only [List.map_toArray, List.map_cons, List.map_nil]); first | done | rfl | (simp only [List.length_drop, List.length_take]; rfl)) ?_; (with_reducible refine (helpers_canPrintWithoutEscape.calls t116 a1 false _ A18.out).mono ?_); rintro e w' ⟨rfl, ⟨nd, rfl⟩⟩; refine ⟨_, rfl, ?_⟩) | (at_builtin; refine print_append_str (w0 := w) w.heap.size rfl (.tmp 100) _ 34 9 5 rfl Try.underlying34 Try.underlying9 info5 u10 x10_1 (a0.extract (x11_1 : Int).toNat (x11_2 : Int).toNat) rfl rfl ?aO ?aB ?aS ?aL ?_; (case aB => exact (by repeat (first | (with_reducible first | exact HB.out | apply below_alloc | apply pw_below_drewN | apply below_drew1) | exact HB.out))); (case aO => exact (Kd.own_of_R (by (with_reducible repeat (first | apply Kd.R_alloc | apply Kd.R_drewN | apply Kd.R_drew)); exact HO_10.out))); (case aS => exact (below_size (by repeat (first | (with_reducible first | exact HB.out | apply below_alloc | apply pw_below_drewN | apply below_drew1) | exact HB.out)))); (case aL => have := LMc23.out; omega); intro v120 w24 ho0 hb hg; have ho := Kd.R_of_own (h1 := fun _ => rfl) (ok := fun _ => True) ho0 (fun _ _ => trivial); clear ho0; have hat := True.intro; rw [← Ny119.out] at ho; change Kd.R (Kd.int .u8) 5 w24 w.heap.size (fun _ => True) v120 y119 at ho; have n0_ := Aside0.mk (hb); have n1_ := Aside0.mk (ho); clear HB; clear HO_10; have HB := n0_; have HO121 := n1_; clear n0_ n1_; clear ho hb hg hat))
                                  go_roundg k2
                                  case measure => have := HK1.out; have := HK2.out; omega
                                  case rel => exact ⟨(y119), (x11_2), (by first | rfl | (simp; done) | (simp [*]; done)), H', ⟨by have := HK1.out; have := HK2.out; omega⟩, ⟨by (with_reducible repeat (first | apply Kd.R_alloc | apply Kd.R_drewN | apply Kd.R_drew)); exact HO121.out⟩, ⟨by repeat (first | (with_reducible first | exact HB.out | apply below_alloc | apply pw_below_drewN | apply below_drew1) | exact HB.out)⟩⟩
                                · rw [if_neg c23] at H
                                  exact absurd H (by simp)
                              · rw [if_neg c21] at H
                                exact absurd H (by simp)
                            · rw [if_neg c20] at H
                              exact absurd H (by simp)
                        · rw [if_neg c16] at H
                          exact absurd H (by simp)
                      · rw [if_neg c15] at H
                        exact absurd H (by simp)
                    · rw [if_neg c14] at H
                      have c14b0 : decide (x11_2 < (a0.size : Int)) = false := decide_eq_false c14
                      clear c14
                      by_cases c25 : 0 ≤ x11_1
                      · rw [if_pos c25] at H
                        have c25b0 := eq_true c25
                        have c25b1 : decide (0 ≤ x11_1) = true := decide_eq_true c25
                        clear c25
                        by_cases c26 : x11_1 ≤ x11_2
                        · rw [if_pos c26] at H
                          have c26b0 := eq_true c26
                          have c26b1 : decide (x11_1 ≤ x11_2) = true := decide_eq_true c26
                          clear c26
                          by_cases c27 : x11_2 ≤ (a0.size : Int)
                          · rw [if_pos c27] at H
                            have c27b0 := eq_true c27
                            have c27b1 : decide (x11_2 ≤ (a0.size : Int)) = true := decide_eq_true c27
                            clear c27
                            by_cases c28 : x10_1.length + (a0.extract (x11_1 : Int).toNat (x11_2 : Int).toNat).size < 140737488355328
                            · rw [if_pos c28] at H
                              have LMc28 := Aside0.mk c28
                              clear c28
                              obtain ⟨y113, hy113⟩ : ∃ y_ : List Int, y_ = (x10_1 ++ bytesOf (a0.extract (x11_1 : Int).toNat (x11_2 : Int).toNat)) := ⟨_, rfl⟩
                              replace H : (helpers_internalQuote.l0 k2 a0 a1 a2 y113 x11_2 (a0.size : Int)) = some r := by first | (rw [hy113]; with_reducible exact H) | (have H2_ := (Option.bind_some _ _).symm.trans H; rw [hy113]; with_reducible exact H2_) | (have H2_ := (Option.bind_some _ _).symm.trans H; with_reducible exact H2_) | with_reducible exact H | (rw [hy113]; exact H) | exact H
                              have Ny113 := Aside0.mk hy113
                              clear hy113
                              have H' := Aside0.mk H
                              clear H
                              go_wp2_with (first | (at_builtin; refine print_append_str (w0 := w) w.heap.size rfl (.tmp 100) _ 34 9 5 rfl Try.underlying34 Try.underlying9 info5 u10 x10_1 (a0.extract (x11_1 : Int).toNat (x11_2 : Int).toNat) rfl rfl ?aO ?aB ?aS ?aL ?_; (case aB => exact (by repeat (first | (with_reducible first | exact HB.out | apply below_alloc | apply pw_below_drewN | apply below_drew1) | exact HB.out))); (case aO => exact (Kd.own_of_R (by (with_reducible repeat (first | apply Kd.R_alloc | apply Kd.R_drewN | apply Kd.R_drew)); exact HO_10.out))); (case aS => exact (below_size (by repeat (first | (with_reducible first | exact HB.out | apply below_alloc | apply pw_below_drewN | apply below_drew1) | exact HB.out)))); (case aL => have := LMc28.out; omega); intro v114 w29 ho0 hb hg; have ho := Kd.R_of_own (h1 := fun _ => rfl) (ok := fun _ => True) ho0 (fun _ _ => trivial); clear ho0; have hat := True.intro; rw [← Ny113.out] at ho; change Kd.R (Kd.int .u8) 5 w29 w.heap.size (fun _ => True) v114 y113 at ho; have n0_ := Aside0.mk (hb); have n1_ := Aside0.mk (ho); clear HB; clear HO_10; have HB := n0_; have HO115 := n1_; clear n0_ n1_; clear ho hb hg hat))
                              go_roundg k2
                              case measure => have := HK1.out; have := HK2.out; omega
                              case rel => exact ⟨(y113), (x11_2), (by first | rfl | (simp; done) | (simp [*]; done)), H', ⟨by have := HK1.out; have := HK2.out; omega⟩, ⟨by (with_reducible repeat (first | apply Kd.R_alloc | apply Kd.R_drewN | apply Kd.R_drew)); exact HO115.out⟩, ⟨by repeat (first | (with_reducible first | exact HB.out | apply below_alloc | apply pw_below_drewN | apply below_drew1) | exact HB.out)⟩⟩
                            · rw [if_neg c28] at H
                              exact absurd H (by simp)
                          · rw [if_neg c27] at H
                            exact absurd H (by simp)
                        · rw [if_neg c26] at H
                          exact absurd H (by simp)
                      · rw [if_neg c25] at H
                        exact absurd H (by simp)
            · replace c13 := Bool.eq_false_iff.mpr c13
              subst c13
              have H1 : (if t110 = 8 then (if x10_1.length + 2 < 140737488355328 then (helpers_internalQuote.l0 k1 a0 a1 a2 (x10_1 ++ bytesOf (⟨#[92, 98]⟩ : ByteArray)) (wrap64 (x11_1 + 1)) (a0.size : Int)) else (none)) else (if t110 = 12 then (if x10_1.length + 2 < 140737488355328 then (helpers_internalQuote.l0 k1 a0 a1 a2 (x10_1 ++ bytesOf (⟨#[92, 102]⟩ : ByteArray)) (wrap64 (x11_1 + 1)) (a0.size : Int)) else (none)) else (if t110 = 10 then (if x10_1.length + 2 < 140737488355328 then (helpers_internalQuote.l0 k1 a0 a1 a2 (x10_1 ++ bytesOf (⟨#[92, 110]⟩ : ByteArray)) (wrap64 (x11_1 + 1)) (a0.size : Int)) else (none)) else (if t110 = 13 then (if x10_1.length + 2 < 140737488355328 then (helpers_internalQuote.l0 k1 a0 a1 a2 (x10_1 ++ bytesOf (⟨#[92, 114]⟩ : ByteArray)) (wrap64 (x11_1 + 1)) (a0.size : Int)) else (none)) else (if t110 = 9 then (if x10_1.length + 2 < 140737488355328 then (helpers_internalQuote.l0 k1 a0 a1 a2 (x10_1 ++ bytesOf (⟨#[92, 116]⟩ : ByteArray)) (wrap64 (x11_1 + 1)) (a0.size : Int)) else (none)) else (if t110 = 92 then (if x10_1.length + 2 < 140737488355328 then (helpers_internalQuote.l0 k1 a0 a1 a2 (x10_1 ++ bytesOf (⟨#[92, 92]⟩ : ByteArray)) (wrap64 (x11_1 + 1)) (a0.size : Int)) else (none)) else (if t110 = 34 then (if a2 = 34 then (none) else (if x10_1.length < 140737488355328 then (helpers_internalQuote.l0 k1 a0 a1 a2 (x10_1 ++ [34]) (wrap64 (x11_1 + 1)) (a0.size : Int)) else (none))) else (if t110 = 39 then (none) else (if t110 ≤ 65535 then (if 0 ≤ (t110 / 4096) then (if (t110 / 4096) < 16 then (if 0 ≤ (Go.bits .and .i32 (t110 / 256) 15) then (if (Go.bits .and .i32 (t110 / 256) 15) < 16 then (if 0 ≤ (Go.bits .and .i32 (t110 / 16) 15) then (if (Go.bits .and .i32 (t110 / 16) 15) < 16 then (if 0 ≤ (Go.bits .and .i32 t110 15) then (if (Go.bits .and .i32 t110 15) < 16 then ((some (([92, 117, bt (⟨#[48, 49, 50, 51, 52, 53, 54, 55, 56, 57, 65, 66, 67, 68, 69, 70]⟩ : ByteArray) (t110 / 4096), bt (⟨#[48, 49, 50, 51, 52, 53, 54, 55, 56, 57, 65, 66, 67, 68, 69, 70]⟩ : ByteArray) (Go.bits .and .i32 (t110 / 256) 15), bt (⟨#[48, 49, 50, 51, 52, 53, 54, 55, 56, 57, 65, 66, 67, 68, 69, 70]⟩ : ByteArray) (Go.bits .and .i32 (t110 / 16) 15), bt (⟨#[48, 49, 50, 51, 52, 53, 54, 55, 56, 57, 65, 66, 67, 68, 69, 70]⟩ : ByteArray) (Go.bits .and .i32 t110 15)] : List Int) : List Int)).bind fun y152 => (if x10_1.length + y152.length < 140737488355328 then (helpers_internalQuote.l0 k1 a0 a1 a2 (x10_1 ++ y152) (wrap64 (x11_1 + t111)) (a0.size : Int)) else (none))) else (none)) else (none)) else (none)) else (none)) else (none)) else (none)) else (none)) else (none)) else (if 0 ≤ ((wrap32 (55296 + (Go.bits .and .i32 ((wrap32 (t110 - 65536)) / 1024) 1023))) / 4096) then (if ((wrap32 (55296 + (Go.bits .and .i32 ((wrap32 (t110 - 65536)) / 1024) 1023))) / 4096) < 16 then (if 0 ≤ (Go.bits .and .i32 ((wrap32 (55296 + (Go.bits .and .i32 ((wrap32 (t110 - 65536)) / 1024) 1023))) / 256) 15) then (if (Go.bits .and .i32 ((wrap32 (55296 + (Go.bits .and .i32 ((wrap32 (t110 - 65536)) / 1024) 1023))) / 256) 15) < 16 then (if 0 ≤ (Go.bits .and .i32 ((wrap32 (55296 + (Go.bits .and .i32 ((wrap32 (t110 - 65536)) / 1024) 1023))) / 16) 15) then (if (Go.bits .and .i32 ((wrap32 (55296 + (Go.bits .and .i32 ((wrap32 (t110 - 65536)) / 1024) 1023))) / 16) 15) < 16 then (if 0 ≤ (Go.bits .and .i32 (wrap32 (55296 + (Go.bits .and .i32 ((wrap32 (t110 - 65536)) / 1024) 1023))) 15) then (if (Go.bits .and .i32 (wrap32 (55296 + (Go.bits .and .i32 ((wrap32 (t110 - 65536)) / 1024) 1023))) 15) < 16 then (if 0 ≤ ((wrap32 (56320 + (Go.bits .and .i32 (wrap32 (t110 - 65536)) 1023))) / 4096) then (if ((wrap32 (56320 + (Go.bits .and .i32 (wrap32 (t110 - 65536)) 1023))) / 4096) < 16 then (if 0 ≤ (Go.bits .and .i32 ((wrap32 (56320 + (Go.bits .and .i32 (wrap32 (t110 - 65536)) 1023))) / 256) 15) then (if (Go.bits .and .i32 ((wrap32 (56320 + (Go.bits .and .i32 (wrap32 (t110 - 65536)) 1023))) / 256) 15) < 16 then (if 0 ≤ (Go.bits .and .i32 ((wrap32 (56320 + (Go.bits .and .i32 (wrap32 (t110 - 65536)) 1023))) / 16) 15) then (if (Go.bits .and .i32 ((wrap32 (56320 + (Go.bits .and .i32 (wrap32 (t110 - 65536)) 1023))) / 16) 15) < 16 then (if 0 ≤ (Go.bits .and .i32 (wrap32 (56320 + (Go.bits .and .i32 (wrap32 (t110 - 65536)) 1023))) 15) then (if (Go.bits .and .i32 (wrap32 (56320 + (Go.bits .and .i32 (wrap32 (t110 - 65536)) 1023))) 15) < 16 then ((some (([92, 117, bt (⟨#[48, 49, 50, 51, 52, 53, 54, 55, 56, 57, 65, 66, 67, 68, 69, 70]⟩ : ByteArray) ((wrap32 (55296 + (Go.bits .and .i32 ((wrap32 (t110 - 65536)) / 1024) 1023))) / 4096), bt (⟨#[48, 49, 50, 51, 52, 53, 54, 55, 56, 57, 65, 66, 67, 68, 69, 70]⟩ : ByteArray) (Go.bits .and .i32 ((wrap32 (55296 + (Go.bits .and .i32 ((wrap32 (t110 - 65536)) / 1024) 1023))) / 256) 15), bt (⟨#[48, 49, 50, 51, 52, 53, 54, 55, 56, 57, 65, 66, 67, 68, 69, 70]⟩ : ByteArray) (Go.bits .and .i32 ((wrap32 (55296 + (Go.bits .and .i32 ((wrap32 (t110 - 65536)) / 1024) 1023))) / 16) 15), bt (⟨#[48, 49, 50, 51, 52, 53, 54, 55, 56, 57, 65, 66, 67, 68, 69, 70]⟩ : ByteArray) (Go.bits .and .i32 (wrap32 (55296 + (Go.bits .and .i32 ((wrap32 (t110 - 65536)) / 1024) 1023))) 15), 92, 117, bt (⟨#[48, 49, 50, 51, 52, 53, 54, 55, 56, 57, 65, 66, 67, 68, 69, 70]⟩ : ByteArray) ((wrap32 (56320 + (Go.bits .and .i32 (wrap32 (t110 - 65536)) 1023))) / 4096), bt (⟨#[48, 49, 50, 51, 52, 53, 54, 55, 56, 57, 65, 66, 67, 68, 69, 70]⟩ : ByteArray) (Go.bits .and .i32 ((wrap32 (56320 + (Go.bits .and .i32 (wrap32 (t110 - 65536)) 1023))) / 256) 15), bt (⟨#[48, 49, 50, 51, 52, 53, 54, 55, 56, 57, 65, 66, 67, 68, 69, 70]⟩ : ByteArray) (Go.bits .and .i32 ((wrap32 (56320 + (Go.bits .and .i32 (wrap32 (t110 - 65536)) 1023))) / 16) 15), bt (⟨#[48, 49, 50, 51, 52, 53, 54, 55, 56, 57, 65, 66, 67, 68, 69, 70]⟩ : ByteArray) (Go.bits .and .i32 (wrap32 (56320 + (Go.bits .and .i32 (wrap32 (t110 - 65536)) 1023))) 15)] : List Int) : List Int)).bind fun y158 => (if x10_1.length + y158.length < 140737488355328 then (helpers_internalQuote.l0 k1 a0 a1 a2 (x10_1 ++ y158) (wrap64 (x11_1 + t111)) (a0.size : Int)) else (none))) else (none)) else (none)) else (none)) else (none)) else (none)) else (none)) else (none)) else (none)) else (none)) else (none)) else (none)) else (none)) else (none)) else (none)) else (none)) else (none))))))))))) = some r := by rw [if_neg (show ¬ (false = true) by decide)] at H; exact H
              clear H
              have H := H1
              clear H1
              by_cases c30 : t110 = 8
              · as_aux_lemma =>
                  rw [if_pos c30] at H
                  have c30b0 : (t110 == 8) = true := beq_iff_eq.mpr c30
                  have c30b1 : (t110 != 8) = false := bne_eq_false_iff_eq.mpr c30
                  clear c30
                  by_cases c31 : x10_1.length + 2 < 140737488355328
                  · rw [if_pos c31] at H
                    have LMc31 := Aside0.mk c31
                    clear c31
                    obtain ⟨y122, hy122⟩ : ∃ y_ : List Int, y_ = (x10_1 ++ bytesOf (⟨#[92, 98]⟩ : ByteArray)) := ⟨_, rfl⟩
                    replace H : (helpers_internalQuote.l0 k1 a0 a1 a2 y122 (wrap64 (x11_1 + 1)) (a0.size : Int)) = some r := by first | (rw [hy122]; with_reducible exact H) | (have H2_ := (Option.bind_some _ _).symm.trans H; rw [hy122]; with_reducible exact H2_) | (have H2_ := (Option.bind_some _ _).symm.trans H; with_reducible exact H2_) | with_reducible exact H | (rw [hy122]; exact H) | exact H
                    have Ny122 := Aside0.mk hy122
                    clear hy122
                    have H' := Aside0.mk H
                    clear H
                    go_wp2_with (first | ((with_reducible refine gate_callee (f := 37) rfl ?_); refine goesL_ (some 73) rfl rfl Try.func37 (by as_aux_lemma => kernel_rfl) rfl #[.string (a0.extract (x11_1 : Int).toNat a0.size)] rfl (by (try simp only [List.map_toArray, List.map_cons, List.map_nil]); first | done | rfl | (simp only [List.length_drop, List.length_take]; rfl)) ?_; (with_reducible refine (helpers_DecodeWTF8Rune.calls k1 (a0.extract (x11_1 : Int).toNat a0.size) t110 t111 _ A11.out).mono ?_); rintro e w' ⟨rfl, ⟨nd, rfl⟩⟩; refine ⟨_, rfl, ?_⟩) | ((with_reducible refine gate_callee (f := 35) rfl ?_); refine goesL_ (some 78) rfl rfl Try.func35 (by as_aux_lemma => kernel_rfl) rfl #[.int .i32 t110, .bool a1] rfl (by (try simp only [List.map_toArray, List.map_cons, List.map_nil]); first | done | rfl | (simp only [List.length_drop, List.length_take]; rfl)) ?_; (with_reducible refine (helpers_canPrintWithoutEscape.calls t110 a1 false _ A12.out).mono ?_); rintro e w' ⟨rfl, ⟨nd, rfl⟩⟩; refine ⟨_, rfl, ?_⟩) | ((with_reducible refine gate_builtin (b := .append) (xs := #[.tmp 171, .const (.string ⟨#[92, 98]⟩)]) rfl ?_); at_builtin; refine print_append_str (w0 := w) w.heap.size rfl (.tmp 171) (.const (.string ⟨#[92, 98]⟩)) 34 9 5 rfl Try.underlying34 Try.underlying9 info5 u10 x10_1 (⟨#[92, 98]⟩ : ByteArray) rfl rfl ?aO ?aB ?aS ?aL ?_; (case aB => exact (by repeat (first | (with_reducible first | exact HB.out | apply below_alloc | apply pw_below_drewN | apply below_drew1) | exact HB.out))); (case aO => exact (Kd.own_of_R (by (with_reducible repeat (first | apply Kd.R_alloc | apply Kd.R_drewN | apply Kd.R_drew)); exact HO_10.out))); (case aS => exact (below_size (by repeat (first | (with_reducible first | exact HB.out | apply below_alloc | apply pw_below_drewN | apply below_drew1) | exact HB.out)))); (case aL => have := LMc31.out; show _ + 2 ≤ _; omega); intro v123 w32 ho0 hb hg; have ho := Kd.R_of_own (h1 := fun _ => rfl) (ok := fun _ => True) ho0 (fun _ _ => trivial); clear ho0; have hat := True.intro; rw [← Ny122.out] at ho; change Kd.R (Kd.int .u8) 5 w32 w.heap.size (fun _ => True) v123 y122 at ho; have n0_ := Aside0.mk (hb); have n1_ := Aside0.mk (ho); clear HB; clear HO_10; have HB := n0_; have HO124 := n1_; clear n0_ n1_; clear ho hb hg hat))
                    go_roundg k1
                    case measure => have := HK1.out; omega
                    case rel => exact ⟨(y122), (wrap64 (x11_1 + 1)), (by first | rfl | (simp; done) | (simp [*]; done)), H', ⟨by have := HK1.out; omega⟩, ⟨by (with_reducible repeat (first | apply Kd.R_alloc | apply Kd.R_drewN | apply Kd.R_drew)); exact HO124.out⟩, ⟨by repeat (first | (with_reducible first | exact HB.out | apply below_alloc | apply pw_below_drewN | apply below_drew1) | exact HB.out)⟩⟩
                  · rw [if_neg c31] at H
                    exact absurd H (by simp)
              · rw [if_neg c30] at H
                have c30b0 : (t110 == 8) = false := beq_eq_false_iff_ne.mpr c30
                have c30b1 : (t110 != 8) = true := bne_iff_ne.mpr c30
                by_cases c33 : t110 = 12
                · as_aux_lemma =>
                    rw [if_pos c33] at H
                    have c33b0 : (t110 == 12) = true := beq_iff_eq.mpr c33
                    have c33b1 : (t110 != 12) = false := bne_eq_false_iff_eq.mpr c33
                    clear c33
                    by_cases c34 : x10_1.length + 2 < 140737488355328
                    · rw [if_pos c34] at H
                      have LMc34 := Aside0.mk c34
                      clear c34
                      obtain ⟨y125, hy125⟩ : ∃ y_ : List Int, y_ = (x10_1 ++ bytesOf (⟨#[92, 102]⟩ : ByteArray)) := ⟨_, rfl⟩
                      replace H : (helpers_internalQuote.l0 k1 a0 a1 a2 y125 (wrap64 (x11_1 + 1)) (a0.size : Int)) = some r := by first | (rw [hy125]; with_reducible exact H) | (have H2_ := (Option.bind_some _ _).symm.trans H; rw [hy125]; with_reducible exact H2_) | (have H2_ := (Option.bind_some _ _).symm.trans H; with_reducible exact H2_) | with_reducible exact H | (rw [hy125]; exact H) | exact H
                      have Ny125 := Aside0.mk hy125
                      clear hy125
                      have H' := Aside0.mk H
                      clear H
                      go_wp2_with (first | ((with_reducible refine gate_callee (f := 37) rfl ?_); refine goesL_ (some 73) rfl rfl Try.func37 (by as_aux_lemma => kernel_rfl) rfl #[.string (a0.extract (x11_1 : Int).toNat a0.size)] rfl (by (try simp only [List.map_toArray, List.map_cons, List.map_nil]); first | done | rfl | (simp only [List.length_drop, List.length_take]; rfl)) ?_; (with_reducible refine (helpers_DecodeWTF8Rune.calls k1 (a0.extract (x11_1 : Int).toNat a0.size) t110 t111 _ A11.out).mono ?_); rintro e w' ⟨rfl, ⟨nd, rfl⟩⟩; refine ⟨_, rfl, ?_⟩) | ((with_reducible refine gate_callee (f := 35) rfl ?_); refine goesL_ (some 78) rfl rfl Try.func35 (by as_aux_lemma => kernel_rfl) rfl #[.int .i32 t110, .bool a1] rfl (by (try simp only [List.map_toArray, List.map_cons, List.map_nil]); first | done | rfl | (simp only [List.length_drop, List.length_take]; rfl)) ?_; (with_reducible refine (helpers_canPrintWithoutEscape.calls t110 a1 false _ A12.out).mono ?_); rintro e w' ⟨rfl, ⟨nd, rfl⟩⟩; refine ⟨_, rfl, ?_⟩) | ((with_reducible refine gate_builtin (b := .append) (xs := #[.tmp 177, .const (.string ⟨#[92, 102]⟩)]) rfl ?_); at_builtin; refine print_append_str (w0 := w) w.heap.size rfl (.tmp 177) (.const (.string ⟨#[92, 102]⟩)) 34 9 5 rfl Try.underlying34 Try.underlying9 info5 u10 x10_1 (⟨#[92, 102]⟩ : ByteArray) rfl rfl ?aO ?aB ?aS ?aL ?_; (case aB => exact (by repeat (first | (with_reducible first | exact HB.out | apply below_alloc | apply pw_below_drewN | apply below_drew1) | exact HB.out))); (case aO => exact (Kd.own_of_R (by (with_reducible repeat (first | apply Kd.R_alloc | apply Kd.R_drewN | apply Kd.R_drew)); exact HO_10.out))); (case aS => exact (below_size (by repeat (first | (with_reducible first | exact HB.out | apply below_alloc | apply pw_below_drewN | apply below_drew1) | exact HB.out)))); (case aL => have := LMc34.out; show _ + 2 ≤ _; omega); intro v126 w35 ho0 hb hg; have ho := Kd.R_of_own (h1 := fun _ => rfl) (ok := fun _ => True) ho0 (fun _ _ => trivial); clear ho0; have hat := True.intro; rw [← Ny125.out] at ho; change Kd.R (Kd.int .u8) 5 w35 w.heap.size (fun _ => True) v126 y125 at ho; have n0_ := Aside0.mk (hb); have n1_ := Aside0.mk (ho); clear HB; clear HO_10; have HB := n0_; have HO127 := n1_; clear n0_ n1_; clear ho hb hg hat))
                      go_roundg k1
                      case measure => have := HK1.out; omega
                      case rel => exact ⟨(y125), (wrap64 (x11_1 + 1)), (by first | rfl | (simp; done) | (simp [*]; done)), H', ⟨by have := HK1.out; omega⟩, ⟨by (with_reducible repeat (first | apply Kd.R_alloc | apply Kd.R_drewN | apply Kd.R_drew)); exact HO127.out⟩, ⟨by repeat (first | (with_reducible first | exact HB.out | apply below_alloc | apply pw_below_drewN | apply below_drew1) | exact HB.out)⟩⟩
                    · rw [if_neg c34] at H
                      exact absurd H (by simp)
                · rw [if_neg c33] at H
                  have c33b0 : (t110 == 12) = false := beq_eq_false_iff_ne.mpr c33
                  have c33b1 : (t110 != 12) = true := bne_iff_ne.mpr c33
                  by_cases c36 : t110 = 10
                  · as_aux_lemma =>
                      rw [if_pos c36] at H
                      have c36b0 : (t110 == 10) = true := beq_iff_eq.mpr c36
                      have c36b1 : (t110 != 10) = false := bne_eq_false_iff_eq.mpr c36
                      clear c36
                      by_cases c37 : x10_1.length + 2 < 140737488355328
                      · rw [if_pos c37] at H
                        have LMc37 := Aside0.mk c37
                        clear c37
                        obtain ⟨y128, hy128⟩ : ∃ y_ : List Int, y_ = (x10_1 ++ bytesOf (⟨#[92, 110]⟩ : ByteArray)) := ⟨_, rfl⟩
                        replace H : (helpers_internalQuote.l0 k1 a0 a1 a2 y128 (wrap64 (x11_1 + 1)) (a0.size : Int)) = some r := by first | (rw [hy128]; with_reducible exact H) | (have H2_ := (Option.bind_some _ _).symm.trans H; rw [hy128]; with_reducible exact H2_) | (have H2_ := (Option.bind_some _ _).symm.trans H; with_reducible exact H2_) | with_reducible exact H | (rw [hy128]; exact H) | exact H
                        have Ny128 := Aside0.mk hy128
                        clear hy128
                        have H' := Aside0.mk H
                        clear H
                        go_wp2_with (first | ((with_reducible refine gate_callee (f := 37) rfl ?_); refine goesL_ (some 73) rfl rfl Try.func37 (by as_aux_lemma => kernel_rfl) rfl #[.string (a0.extract (x11_1 : Int).toNat a0.size)] rfl (by (try simp only [List.map_toArray, List.map_cons, List.map_nil]); first | done | rfl | (simp only [List.length_drop, List.length_take]; rfl)) ?_; (with_reducible refine (helpers_DecodeWTF8Rune.calls k1 (a0.extract (x11_1 : Int).toNat a0.size) t110 t111 _ A11.out).mono ?_); rintro e w' ⟨rfl, ⟨nd, rfl⟩⟩; refine ⟨_, rfl, ?_⟩) | ((with_reducible refine gate_callee (f := 35) rfl ?_); refine goesL_ (some 78) rfl rfl Try.func35 (by as_aux_lemma => kernel_rfl) rfl #[.int .i32 t110, .bool a1] rfl (by (try simp only [List.map_toArray, List.map_cons, List.map_nil]); first | done | rfl | (simp only [List.length_drop, List.length_take]; rfl)) ?_; (with_reducible refine (helpers_canPrintWithoutEscape.calls t110 a1 false _ A12.out).mono ?_); rintro e w' ⟨rfl, ⟨nd, rfl⟩⟩; refine ⟨_, rfl, ?_⟩) | ((with_reducible refine gate_builtin (b := .append) (xs := #[.tmp 183, .const (.string ⟨#[92, 110]⟩)]) rfl ?_); at_builtin; refine print_append_str (w0 := w) w.heap.size rfl (.tmp 183) (.const (.string ⟨#[92, 110]⟩)) 34 9 5 rfl Try.underlying34 Try.underlying9 info5 u10 x10_1 (⟨#[92, 110]⟩ : ByteArray) rfl rfl ?aO ?aB ?aS ?aL ?_; (case aB => exact (by repeat (first | (with_reducible first | exact HB.out | apply below_alloc | apply pw_below_drewN | apply below_drew1) | exact HB.out))); (case aO => exact (Kd.own_of_R (by (with_reducible repeat (first | apply Kd.R_alloc | apply Kd.R_drewN | apply Kd.R_drew)); exact HO_10.out))); (case aS => exact (below_size (by repeat (first | (with_reducible first | exact HB.out | apply below_alloc | apply pw_below_drewN | apply below_drew1) | exact HB.out)))); (case aL => have := LMc37.out; show _ + 2 ≤ _; omega); intro v129 w38 ho0 hb hg; have ho := Kd.R_of_own (h1 := fun _ => rfl) (ok := fun _ => True) ho0 (fun _ _ => trivial); clear ho0; have hat := True.intro; rw [← Ny128.out] at ho; change Kd.R (Kd.int .u8) 5 w38 w.heap.size (fun _ => True) v129 y128 at ho; have n0_ := Aside0.mk (hb); have n1_ := Aside0.mk (ho); clear HB; clear HO_10; have HB := n0_; have HO130 := n1_; clear n0_ n1_; clear ho hb hg hat))
                        go_roundg k1
                        case measure => have := HK1.out; omega
                        case rel => exact ⟨(y128), (wrap64 (x11_1 + 1)), (by first | rfl | (simp; done) | (simp [*]; done)), H', ⟨by have := HK1.out; omega⟩, ⟨by (with_reducible repeat (first | apply Kd.R_alloc | apply Kd.R_drewN | apply Kd.R_drew)); exact HO130.out⟩, ⟨by repeat (first | (with_reducible first | exact HB.out | apply below_alloc | apply pw_below_drewN | apply below_drew1) | exact HB.out)⟩⟩
                      · rw [if_neg c37] at H
                        exact absurd H (by simp)
                  · rw [if_neg c36] at H
                    have c36b0 : (t110 == 10) = false := beq_eq_false_iff_ne.mpr c36
                    have c36b1 : (t110 != 10) = true := bne_iff_ne.mpr c36
                    by_cases c39 : t110 = 13
                    · as_aux_lemma =>
                        rw [if_pos c39] at H
                        have c39b0 : (t110 == 13) = true := beq_iff_eq.mpr c39
                        have c39b1 : (t110 != 13) = false := bne_eq_false_iff_eq.mpr c39
                        clear c39
                        by_cases c40 : x10_1.length + 2 < 140737488355328
                        · rw [if_pos c40] at H
                          have LMc40 := Aside0.mk c40
                          clear c40
                          obtain ⟨y131, hy131⟩ : ∃ y_ : List Int, y_ = (x10_1 ++ bytesOf (⟨#[92, 114]⟩ : ByteArray)) := ⟨_, rfl⟩
                          replace H : (helpers_internalQuote.l0 k1 a0 a1 a2 y131 (wrap64 (x11_1 + 1)) (a0.size : Int)) = some r := by first | (rw [hy131]; with_reducible exact H) | (have H2_ := (Option.bind_some _ _).symm.trans H; rw [hy131]; with_reducible exact H2_) | (have H2_ := (Option.bind_some _ _).symm.trans H; with_reducible exact H2_) | with_reducible exact H | (rw [hy131]; exact H) | exact H
                          have Ny131 := Aside0.mk hy131
                          clear hy131
                          have H' := Aside0.mk H
                          clear H
                          go_wp2_with (first | ((with_reducible refine gate_callee (f := 37) rfl ?_); refine goesL_ (some 73) rfl rfl Try.func37 (by as_aux_lemma => kernel_rfl) rfl #[.string (a0.extract (x11_1 : Int).toNat a0.size)] rfl (by (try simp only [List.map_toArray, List.map_cons, List.map_nil]); first | done | rfl | (simp only [List.length_drop, List.length_take]; rfl)) ?_; (with_reducible refine (helpers_DecodeWTF8Rune.calls k1 (a0.extract (x11_1 : Int).toNat a0.size) t110 t111 _ A11.out).mono ?_); rintro e w' ⟨rfl, ⟨nd, rfl⟩⟩; refine ⟨_, rfl, ?_⟩) | ((with_reducible refine gate_callee (f := 35) rfl ?_); refine goesL_ (some 78) rfl rfl Try.func35 (by as_aux_lemma => kernel_rfl) rfl #[.int .i32 t110, .bool a1] rfl (by (try simp only [List.map_toArray, List.map_cons, List.map_nil]); first | done | rfl | (simp only [List.length_drop, List.length_take]; rfl)) ?_; (with_reducible refine (helpers_canPrintWithoutEscape.calls t110 a1 false _ A12.out).mono ?_); rintro e w' ⟨rfl, ⟨nd, rfl⟩⟩; refine ⟨_, rfl, ?_⟩) | ((with_reducible refine gate_builtin (b := .append) (xs := #[.tmp 189, .const (.string ⟨#[92, 114]⟩)]) rfl ?_); at_builtin; refine print_append_str (w0 := w) w.heap.size rfl (.tmp 189) (.const (.string ⟨#[92, 114]⟩)) 34 9 5 rfl Try.underlying34 Try.underlying9 info5 u10 x10_1 (⟨#[92, 114]⟩ : ByteArray) rfl rfl ?aO ?aB ?aS ?aL ?_; (case aB => exact (by repeat (first | (with_reducible first | exact HB.out | apply below_alloc | apply pw_below_drewN | apply below_drew1) | exact HB.out))); (case aO => exact (Kd.own_of_R (by (with_reducible repeat (first | apply Kd.R_alloc | apply Kd.R_drewN | apply Kd.R_drew)); exact HO_10.out))); (case aS => exact (below_size (by repeat (first | (with_reducible first | exact HB.out | apply below_alloc | apply pw_below_drewN | apply below_drew1) | exact HB.out)))); (case aL => have := LMc40.out; show _ + 2 ≤ _; omega); intro v132 w41 ho0 hb hg; have ho := Kd.R_of_own (h1 := fun _ => rfl) (ok := fun _ => True) ho0 (fun _ _ => trivial); clear ho0; have hat := True.intro; rw [← Ny131.out] at ho; change Kd.R (Kd.int .u8) 5 w41 w.heap.size (fun _ => True) v132 y131 at ho; have n0_ := Aside0.mk (hb); have n1_ := Aside0.mk (ho); clear HB; clear HO_10; have HB := n0_; have HO133 := n1_; clear n0_ n1_; clear ho hb hg hat))
                          go_roundg k1
                          case measure => have := HK1.out; omega
                          case rel => exact ⟨(y131), (wrap64 (x11_1 + 1)), (by first | rfl | (simp; done) | (simp [*]; done)), H', ⟨by have := HK1.out; omega⟩, ⟨by (with_reducible repeat (first | apply Kd.R_alloc | apply Kd.R_drewN | apply Kd.R_drew)); exact HO133.out⟩, ⟨by repeat (first | (with_reducible first | exact HB.out | apply below_alloc | apply pw_below_drewN | apply below_drew1) | exact HB.out)⟩⟩
                        · rw [if_neg c40] at H
                          exact absurd H (by simp)
                    · rw [if_neg c39] at H
                      have c39b0 : (t110 == 13) = false := beq_eq_false_iff_ne.mpr c39
                      have c39b1 : (t110 != 13) = true := bne_iff_ne.mpr c39
                      by_cases c42 : t110 = 9
                      · as_aux_lemma =>
                          rw [if_pos c42] at H
                          have c42b0 : (t110 == 9) = true := beq_iff_eq.mpr c42
                          have c42b1 : (t110 != 9) = false := bne_eq_false_iff_eq.mpr c42
                          clear c42
                          by_cases c43 : x10_1.length + 2 < 140737488355328
                          · rw [if_pos c43] at H
                            have LMc43 := Aside0.mk c43
                            clear c43
                            obtain ⟨y134, hy134⟩ : ∃ y_ : List Int, y_ = (x10_1 ++ bytesOf (⟨#[92, 116]⟩ : ByteArray)) := ⟨_, rfl⟩
                            replace H : (helpers_internalQuote.l0 k1 a0 a1 a2 y134 (wrap64 (x11_1 + 1)) (a0.size : Int)) = some r := by first | (rw [hy134]; with_reducible exact H) | (have H2_ := (Option.bind_some _ _).symm.trans H; rw [hy134]; with_reducible exact H2_) | (have H2_ := (Option.bind_some _ _).symm.trans H; with_reducible exact H2_) | with_reducible exact H | (rw [hy134]; exact H) | exact H
                            have Ny134 := Aside0.mk hy134
                            clear hy134
                            have H' := Aside0.mk H
                            clear H
                            go_wp2_with (first | ((with_reducible refine gate_callee (f := 37) rfl ?_); refine goesL_ (some 73) rfl rfl Try.func37 (by as_aux_lemma => kernel_rfl) rfl #[.string (a0.extract (x11_1 : Int).toNat a0.size)] rfl (by (try simp only [List.map_toArray, List.map_cons, List.map_nil]); first | done | rfl | (simp only [List.length_drop, List.length_take]; rfl)) ?_; (with_reducible refine (helpers_DecodeWTF8Rune.calls k1 (a0.extract (x11_1 : Int).toNat a0.size) t110 t111 _ A11.out).mono ?_); rintro e w' ⟨rfl, ⟨nd, rfl⟩⟩; refine ⟨_, rfl, ?_⟩) | ((with_reducible refine gate_callee (f := 35) rfl ?_); refine goesL_ (some 78) rfl rfl Try.func35 (by as_aux_lemma => kernel_rfl) rfl #[.int .i32 t110, .bool a1] rfl (by (try simp only [List.map_toArray, List.map_cons, List.map_nil]); first | done | rfl | (simp only [List.length_drop, List.length_take]; rfl)) ?_; (with_reducible refine (helpers_canPrintWithoutEscape.calls t110 a1 false _ A12.out).mono ?_); rintro e w' ⟨rfl, ⟨nd, rfl⟩⟩; refine ⟨_, rfl, ?_⟩) | ((with_reducible refine gate_builtin (b := .append) (xs := #[.tmp 195, .const (.string ⟨#[92, 116]⟩)]) rfl ?_); at_builtin; refine print_append_str (w0 := w) w.heap.size rfl (.tmp 195) (.const (.string ⟨#[92, 116]⟩)) 34 9 5 rfl Try.underlying34 Try.underlying9 info5 u10 x10_1 (⟨#[92, 116]⟩ : ByteArray) rfl rfl ?aO ?aB ?aS ?aL ?_; (case aB => exact (by repeat (first | (with_reducible first | exact HB.out | apply below_alloc | apply pw_below_drewN | apply below_drew1) | exact HB.out))); (case aO => exact (Kd.own_of_R (by (with_reducible repeat (first | apply Kd.R_alloc | apply Kd.R_drewN | apply Kd.R_drew)); exact HO_10.out))); (case aS => exact (below_size (by repeat (first | (with_reducible first | exact HB.out | apply below_alloc | apply pw_below_drewN | apply below_drew1) | exact HB.out)))); (case aL => have := LMc43.out; show _ + 2 ≤ _; omega); intro v135 w44 ho0 hb hg; have ho := Kd.R_of_own (h1 := fun _ => rfl) (ok := fun _ => True) ho0 (fun _ _ => trivial); clear ho0; have hat := True.intro; rw [← Ny134.out] at ho; change Kd.R (Kd.int .u8) 5 w44 w.heap.size (fun _ => True) v135 y134 at ho; have n0_ := Aside0.mk (hb); have n1_ := Aside0.mk (ho); clear HB; clear HO_10; have HB := n0_; have HO136 := n1_; clear n0_ n1_; clear ho hb hg hat))
                            go_roundg k1
                            case measure => have := HK1.out; omega
                            case rel => exact ⟨(y134), (wrap64 (x11_1 + 1)), (by first | rfl | (simp; done) | (simp [*]; done)), H', ⟨by have := HK1.out; omega⟩, ⟨by (with_reducible repeat (first | apply Kd.R_alloc | apply Kd.R_drewN | apply Kd.R_drew)); exact HO136.out⟩, ⟨by repeat (first | (with_reducible first | exact HB.out | apply below_alloc | apply pw_below_drewN | apply below_drew1) | exact HB.out)⟩⟩
                          · rw [if_neg c43] at H
                            exact absurd H (by simp)
                      · rw [if_neg c42] at H
                        have c42b0 : (t110 == 9) = false := beq_eq_false_iff_ne.mpr c42
                        have c42b1 : (t110 != 9) = true := bne_iff_ne.mpr c42
                        by_cases c45 : t110 = 92
                        · as_aux_lemma =>
                            rw [if_pos c45] at H
                            have c45b0 : (t110 == 92) = true := beq_iff_eq.mpr c45
                            have c45b1 : (t110 != 92) = false := bne_eq_false_iff_eq.mpr c45
                            clear c45
                            by_cases c46 : x10_1.length + 2 < 140737488355328
                            · rw [if_pos c46] at H
                              have LMc46 := Aside0.mk c46
                              clear c46
                              obtain ⟨y137, hy137⟩ : ∃ y_ : List Int, y_ = (x10_1 ++ bytesOf (⟨#[92, 92]⟩ : ByteArray)) := ⟨_, rfl⟩
                              replace H : (helpers_internalQuote.l0 k1 a0 a1 a2 y137 (wrap64 (x11_1 + 1)) (a0.size : Int)) = some r := by first | (rw [hy137]; with_reducible exact H) | (have H2_ := (Option.bind_some _ _).symm.trans H; rw [hy137]; with_reducible exact H2_) | (have H2_ := (Option.bind_some _ _).symm.trans H; with_reducible exact H2_) | with_reducible exact H | (rw [hy137]; exact H) | exact H
                              have Ny137 := Aside0.mk hy137
                              clear hy137
                              have H' := Aside0.mk H
                              clear H
                              go_wp2_with (first | ((with_reducible refine gate_callee (f := 37) rfl ?_); refine goesL_ (some 73) rfl rfl Try.func37 (by as_aux_lemma => kernel_rfl) rfl #[.string (a0.extract (x11_1 : Int).toNat a0.size)] rfl (by (try simp only [List.map_toArray, List.map_cons, List.map_nil]); first | done | rfl | (simp only [List.length_drop, List.length_take]; rfl)) ?_; (with_reducible refine (helpers_DecodeWTF8Rune.calls k1 (a0.extract (x11_1 : Int).toNat a0.size) t110 t111 _ A11.out).mono ?_); rintro e w' ⟨rfl, ⟨nd, rfl⟩⟩; refine ⟨_, rfl, ?_⟩) | ((with_reducible refine gate_callee (f := 35) rfl ?_); refine goesL_ (some 78) rfl rfl Try.func35 (by as_aux_lemma => kernel_rfl) rfl #[.int .i32 t110, .bool a1] rfl (by (try simp only [List.map_toArray, List.map_cons, List.map_nil]); first | done | rfl | (simp only [List.length_drop, List.length_take]; rfl)) ?_; (with_reducible refine (helpers_canPrintWithoutEscape.calls t110 a1 false _ A12.out).mono ?_); rintro e w' ⟨rfl, ⟨nd, rfl⟩⟩; refine ⟨_, rfl, ?_⟩) | ((with_reducible refine gate_builtin (b := .append) (xs := #[.tmp 201, .const (.string ⟨#[92, 92]⟩)]) rfl ?_); at_builtin; refine print_append_str (w0 := w) w.heap.size rfl (.tmp 201) (.const (.string ⟨#[92, 92]⟩)) 34 9 5 rfl Try.underlying34 Try.underlying9 info5 u10 x10_1 (⟨#[92, 92]⟩ : ByteArray) rfl rfl ?aO ?aB ?aS ?aL ?_; (case aB => exact (by repeat (first | (with_reducible first | exact HB.out | apply below_alloc | apply pw_below_drewN | apply below_drew1) | exact HB.out))); (case aO => exact (Kd.own_of_R (by (with_reducible repeat (first | apply Kd.R_alloc | apply Kd.R_drewN | apply Kd.R_drew)); exact HO_10.out))); (case aS => exact (below_size (by repeat (first | (with_reducible first | exact HB.out | apply below_alloc | apply pw_below_drewN | apply below_drew1) | exact HB.out)))); (case aL => have := LMc46.out; show _ + 2 ≤ _; omega); intro v138 w47 ho0 hb hg; have ho := Kd.R_of_own (h1 := fun _ => rfl) (ok := fun _ => True) ho0 (fun _ _ => trivial); clear ho0; have hat := True.intro; rw [← Ny137.out] at ho; change Kd.R (Kd.int .u8) 5 w47 w.heap.size (fun _ => True) v138 y137 at ho; have n0_ := Aside0.mk (hb); have n1_ := Aside0.mk (ho); clear HB; clear HO_10; have HB := n0_; have HO139 := n1_; clear n0_ n1_; clear ho hb hg hat))
                              go_roundg k1
                              case measure => have := HK1.out; omega
                              case rel => exact ⟨(y137), (wrap64 (x11_1 + 1)), (by first | rfl | (simp; done) | (simp [*]; done)), H', ⟨by have := HK1.out; omega⟩, ⟨by (with_reducible repeat (first | apply Kd.R_alloc | apply Kd.R_drewN | apply Kd.R_drew)); exact HO139.out⟩, ⟨by repeat (first | (with_reducible first | exact HB.out | apply below_alloc | apply pw_below_drewN | apply below_drew1) | exact HB.out)⟩⟩
                            · rw [if_neg c46] at H
                              exact absurd H (by simp)
                        · rw [if_neg c45] at H
                          have c45b0 : (t110 == 92) = false := beq_eq_false_iff_ne.mpr c45
                          have c45b1 : (t110 != 92) = true := bne_iff_ne.mpr c45
                          by_cases c48 : t110 = 34
                          · as_aux_lemma =>
                              rw [if_pos c48] at H
                              have c48b0 : (t110 == 34) = true := beq_iff_eq.mpr c48
                              have c48b1 : (t110 != 34) = false := bne_eq_false_iff_eq.mpr c48
                              clear c48
                              by_cases c49 : a2 = 34
                              · exact absurd ((if_pos c49).symm.trans H) (by simp)
                              · rw [if_neg c49] at H
                                have c49b0 : (a2 == 34) = false := beq_eq_false_iff_ne.mpr c49
                                have c49b1 : (a2 != 34) = true := bne_iff_ne.mpr c49
                                by_cases c52 : x10_1.length < 140737488355328
                                · rw [if_pos c52] at H
                                  have LMc52 := Aside0.mk c52
                                  clear c52
                                  obtain ⟨y143, hy143⟩ : ∃ y_ : List Int, y_ = (x10_1 ++ [34]) := ⟨_, rfl⟩
                                  replace H : (helpers_internalQuote.l0 k1 a0 a1 a2 y143 (wrap64 (x11_1 + 1)) (a0.size : Int)) = some r := by first | (rw [hy143]; with_reducible exact H) | (have H2_ := (Option.bind_some _ _).symm.trans H; rw [hy143]; with_reducible exact H2_) | (have H2_ := (Option.bind_some _ _).symm.trans H; with_reducible exact H2_) | with_reducible exact H | (rw [hy143]; exact H) | exact H
                                  have Ny143 := Aside0.mk hy143
                                  clear hy143
                                  have H' := Aside0.mk H
                                  clear H
                                  go_wp2_with (first | ((with_reducible refine gate_callee (f := 37) rfl ?_); refine goesL_ (some 73) rfl rfl Try.func37 (by as_aux_lemma => kernel_rfl) rfl #[.string (a0.extract (x11_1 : Int).toNat a0.size)] rfl (by (try simp only [List.map_toArray, List.map_cons, List.map_nil]); first | done | rfl | (simp only [List.length_drop, List.length_take]; rfl)) ?_; (with_reducible refine (helpers_DecodeWTF8Rune.calls k1 (a0.extract (x11_1 : Int).toNat a0.size) t110 t111 _ A11.out).mono ?_); rintro e w' ⟨rfl, ⟨nd, rfl⟩⟩; refine ⟨_, rfl, ?_⟩) | ((with_reducible refine gate_callee (f := 35) rfl ?_); refine goesL_ (some 78) rfl rfl Try.func35 (by as_aux_lemma => kernel_rfl) rfl #[.int .i32 t110, .bool a1] rfl (by (try simp only [List.map_toArray, List.map_cons, List.map_nil]); first | done | rfl | (simp only [List.length_drop, List.length_take]; rfl)) ?_; (with_reducible refine (helpers_canPrintWithoutEscape.calls t110 a1 false _ A12.out).mono ?_); rintro e w' ⟨rfl, ⟨nd, rfl⟩⟩; refine ⟨_, rfl, ?_⟩) | ((with_reducible refine gate_builtin (b := .append) (xs := #[.tmp 211, .tmp 212]) rfl ?_); at_builtin; refine Kd.R_append (Kd.int .u8) (w0 := w) w.heap.size rfl (.tmp 211) (.tmp 212) 34 5 (.int .u8 0) 1 rfl Try.underlying34 info5 rfl (by decide) (by omega) u10 x10_1 34 [.int .u8 34] (fun _ => True) (fun _ => False) rfl rfl ?aP (fun _ hk => hk.elim) ?aF ?aO ?aB ?aS ?aL ?_; (case aP => exact rfl); (case aB => exact (by repeat (first | (with_reducible first | exact HB.out | apply below_alloc | apply pw_below_drewN | apply below_drew1) | exact HB.out))); (case aF => exact (fun _ _ => trivial)); (case aO => exact (by (with_reducible repeat (first | apply Kd.R_alloc | apply Kd.R_drewN | apply Kd.R_drew)); exact HO_10.out)); (case aS => exact (below_size (by repeat (first | (with_reducible first | exact HB.out | apply below_alloc | apply pw_below_drewN | apply below_drew1) | exact HB.out)))); (case aL => have := LMc52.out; omega); intro v144 w53 ho hb hg hat; rw [← Ny143.out] at ho; have n0_ := Aside0.mk (hb); have n1_ := Aside0.mk (ho); clear HB; clear HO_10; have HB := n0_; have HO145 := n1_; clear n0_ n1_; clear ho hb hg hat))
                                  go_roundg k1
                                  case measure => have := HK1.out; omega
                                  case rel => exact ⟨(y143), (wrap64 (x11_1 + 1)), (by first | rfl | (simp; done) | (simp [*]; done)), H', ⟨by have := HK1.out; omega⟩, ⟨by (with_reducible repeat (first | apply Kd.R_alloc | apply Kd.R_drewN | apply Kd.R_drew)); exact HO145.out⟩, ⟨by repeat (first | (with_reducible first | exact HB.out | apply below_alloc | apply pw_below_drewN | apply below_drew1) | exact HB.out)⟩⟩
                                · rw [if_neg c52] at H
                                  exact absurd H (by simp)
                          · rw [if_neg c48] at H
                            have c48b0 : (t110 == 34) = false := beq_eq_false_iff_ne.mpr c48
                            have c48b1 : (t110 != 34) = true := bne_iff_ne.mpr c48
                            by_cases c54 : t110 = 39
                            · exact absurd ((if_pos c54).symm.trans H) (by simp)
                            · rw [if_neg c54] at H
                              have c54b0 : (t110 == 39) = false := beq_eq_false_iff_ne.mpr c54
                              have c54b1 : (t110 != 39) = true := bne_iff_ne.mpr c54
                              by_cases c60 : t110 ≤ 65535
                              · as_aux_lemma =>
                                  rw [if_pos c60] at H
                                  have c60b0 : decide (t110 ≤ 65535) = true := decide_eq_true c60
                                  clear c60
                                  obtain ⟨ji61, hji61⟩ : ∃ j_ : Int, (t110 / 4096) = j_ := ⟨_, rfl⟩
                                  replace H : (if 0 ≤ (ji61) then (if (ji61) < 16 then (if 0 ≤ (Go.bits .and .i32 (t110 / 256) 15) then (if (Go.bits .and .i32 (t110 / 256) 15) < 16 then (if 0 ≤ (Go.bits .and .i32 (t110 / 16) 15) then (if (Go.bits .and .i32 (t110 / 16) 15) < 16 then (if 0 ≤ (Go.bits .and .i32 t110 15) then (if (Go.bits .and .i32 t110 15) < 16 then ((some (([92, 117, bt (⟨#[48, 49, 50, 51, 52, 53, 54, 55, 56, 57, 65, 66, 67, 68, 69, 70]⟩ : ByteArray) (ji61), bt (⟨#[48, 49, 50, 51, 52, 53, 54, 55, 56, 57, 65, 66, 67, 68, 69, 70]⟩ : ByteArray) (Go.bits .and .i32 (t110 / 256) 15), bt (⟨#[48, 49, 50, 51, 52, 53, 54, 55, 56, 57, 65, 66, 67, 68, 69, 70]⟩ : ByteArray) (Go.bits .and .i32 (t110 / 16) 15), bt (⟨#[48, 49, 50, 51, 52, 53, 54, 55, 56, 57, 65, 66, 67, 68, 69, 70]⟩ : ByteArray) (Go.bits .and .i32 t110 15)] : List Int) : List Int)).bind fun y152 => (if x10_1.length + y152.length < 140737488355328 then (helpers_internalQuote.l0 k1 a0 a1 a2 (x10_1 ++ y152) (wrap64 (x11_1 + t111)) (a0.size : Int)) else (none))) else (none)) else (none)) else (none)) else (none)) else (none)) else (none)) else (none)) else (none)) = some r := by first | (rw [hji61] at H; exact H) | (simp only [hji61] at H ⊢; exact H)
                                  (try rw [hji61] at A11)
                                  (try rw [hji61] at A12)
                                  by_cases c62 : 0 ≤ (ji61)
                                  · rw [if_pos c62] at H
                                    have c62b0 : decide (0 ≤ (ji61)) = true := decide_eq_true c62
                                    clear c62
                                    by_cases c63 : (ji61) < 16
                                    · rw [if_pos c63] at H
                                      have c63b0 : decide ((ji61) < 16) = true := decide_eq_true c63
                                      clear c63
                                      obtain ⟨ji65, hji65⟩ : ∃ j_ : Int, (Go.bits .and .i32 (t110 / 256) 15) = j_ := ⟨_, rfl⟩
                                      replace H : (if 0 ≤ (ji65) then (if (ji65) < 16 then (if 0 ≤ (Go.bits .and .i32 (t110 / 16) 15) then (if (Go.bits .and .i32 (t110 / 16) 15) < 16 then (if 0 ≤ (Go.bits .and .i32 t110 15) then (if (Go.bits .and .i32 t110 15) < 16 then ((some (([92, 117, bt (⟨#[48, 49, 50, 51, 52, 53, 54, 55, 56, 57, 65, 66, 67, 68, 69, 70]⟩ : ByteArray) (ji61), bt (⟨#[48, 49, 50, 51, 52, 53, 54, 55, 56, 57, 65, 66, 67, 68, 69, 70]⟩ : ByteArray) (ji65), bt (⟨#[48, 49, 50, 51, 52, 53, 54, 55, 56, 57, 65, 66, 67, 68, 69, 70]⟩ : ByteArray) (Go.bits .and .i32 (t110 / 16) 15), bt (⟨#[48, 49, 50, 51, 52, 53, 54, 55, 56, 57, 65, 66, 67, 68, 69, 70]⟩ : ByteArray) (Go.bits .and .i32 t110 15)] : List Int) : List Int)).bind fun y152 => (if x10_1.length + y152.length < 140737488355328 then (helpers_internalQuote.l0 k1 a0 a1 a2 (x10_1 ++ y152) (wrap64 (x11_1 + t111)) (a0.size : Int)) else (none))) else (none)) else (none)) else (none)) else (none)) else (none)) else (none)) = some r := by first | (rw [hji65] at H; exact H) | (simp only [hji65] at H ⊢; exact H)
                                      (try rw [hji65] at A11)
                                      (try rw [hji65] at A12)
                                      by_cases c66 : 0 ≤ (ji65)
                                      · rw [if_pos c66] at H
                                        have c66b0 : decide (0 ≤ (ji65)) = true := decide_eq_true c66
                                        clear c66
                                        by_cases c67 : (ji65) < 16
                                        · rw [if_pos c67] at H
                                          have c67b0 : decide ((ji65) < 16) = true := decide_eq_true c67
                                          clear c67
                                          obtain ⟨ji69, hji69⟩ : ∃ j_ : Int, (Go.bits .and .i32 (t110 / 16) 15) = j_ := ⟨_, rfl⟩
                                          replace H : (if 0 ≤ (ji69) then (if (ji69) < 16 then (if 0 ≤ (Go.bits .and .i32 t110 15) then (if (Go.bits .and .i32 t110 15) < 16 then ((some (([92, 117, bt (⟨#[48, 49, 50, 51, 52, 53, 54, 55, 56, 57, 65, 66, 67, 68, 69, 70]⟩ : ByteArray) (ji61), bt (⟨#[48, 49, 50, 51, 52, 53, 54, 55, 56, 57, 65, 66, 67, 68, 69, 70]⟩ : ByteArray) (ji65), bt (⟨#[48, 49, 50, 51, 52, 53, 54, 55, 56, 57, 65, 66, 67, 68, 69, 70]⟩ : ByteArray) (ji69), bt (⟨#[48, 49, 50, 51, 52, 53, 54, 55, 56, 57, 65, 66, 67, 68, 69, 70]⟩ : ByteArray) (Go.bits .and .i32 t110 15)] : List Int) : List Int)).bind fun y152 => (if x10_1.length + y152.length < 140737488355328 then (helpers_internalQuote.l0 k1 a0 a1 a2 (x10_1 ++ y152) (wrap64 (x11_1 + t111)) (a0.size : Int)) else (none))) else (none)) else (none)) else (none)) else (none)) = some r := by first | (rw [hji69] at H; exact H) | (simp only [hji69] at H ⊢; exact H)
                                          (try rw [hji69] at A11)
                                          (try rw [hji69] at A12)
                                          by_cases c70 : 0 ≤ (ji69)
                                          · rw [if_pos c70] at H
                                            have c70b0 : decide (0 ≤ (ji69)) = true := decide_eq_true c70
                                            clear c70
                                            by_cases c71 : (ji69) < 16
                                            · rw [if_pos c71] at H
                                              have c71b0 : decide ((ji69) < 16) = true := decide_eq_true c71
                                              clear c71
                                              by_cases c73 : 0 ≤ (Go.bits .and .i32 t110 15)
                                              · rw [if_pos c73] at H
                                                have c73b0 : decide (0 ≤ (Go.bits .and .i32 t110 15)) = true := decide_eq_true c73
                                                clear c73
                                                by_cases c74 : (Go.bits .and .i32 t110 15) < 16
                                                · rw [if_pos c74] at H
                                                  have c74b0 : decide ((Go.bits .and .i32 t110 15) < 16) = true := decide_eq_true c74
                                                  clear c74
                                                  obtain ⟨y152, hy152⟩ : ∃ y_ : List Int, y_ = (([92, 117, bt (⟨#[48, 49, 50, 51, 52, 53, 54, 55, 56, 57, 65, 66, 67, 68, 69, 70]⟩ : ByteArray) (ji61), bt (⟨#[48, 49, 50, 51, 52, 53, 54, 55, 56, 57, 65, 66, 67, 68, 69, 70]⟩ : ByteArray) (ji65), bt (⟨#[48, 49, 50, 51, 52, 53, 54, 55, 56, 57, 65, 66, 67, 68, 69, 70]⟩ : ByteArray) (ji69), bt (⟨#[48, 49, 50, 51, 52, 53, 54, 55, 56, 57, 65, 66, 67, 68, 69, 70]⟩ : ByteArray) (Go.bits .and .i32 t110 15)] : List Int)) := ⟨_, rfl⟩
                                                  replace H : (if x10_1.length + y152.length < 140737488355328 then (helpers_internalQuote.l0 k1 a0 a1 a2 (x10_1 ++ y152) (wrap64 (x11_1 + t111)) (a0.size : Int)) else (none)) = some r := by first | (rw [hy152]; with_reducible exact H) | (have H2_ := (Option.bind_some _ _).symm.trans H; rw [hy152]; with_reducible exact H2_) | (have H2_ := (Option.bind_some _ _).symm.trans H; with_reducible exact H2_) | with_reducible exact H | (rw [hy152]; exact H) | exact H
                                                  have Ny152 := Aside0.mk hy152
                                                  clear hy152
                                                  by_cases c76 : x10_1.length + y152.length < 140737488355328
                                                  · rw [if_pos c76] at H
                                                    have LMc76 := Aside0.mk c76
                                                    clear c76
                                                    obtain ⟨y155, hy155⟩ : ∃ y_ : List Int, y_ = (x10_1 ++ y152) := ⟨_, rfl⟩
                                                    replace H : (helpers_internalQuote.l0 k1 a0 a1 a2 y155 (wrap64 (x11_1 + t111)) (a0.size : Int)) = some r := by first | (rw [hy155]; with_reducible exact H) | (have H2_ := (Option.bind_some _ _).symm.trans H; rw [hy155]; with_reducible exact H2_) | (have H2_ := (Option.bind_some _ _).symm.trans H; with_reducible exact H2_) | with_reducible exact H | (rw [hy155]; exact H) | exact H
                                                    have Ny155 := Aside0.mk hy155
                                                    clear hy155
                                                    have H' := Aside0.mk H
                                                    clear H
                                                    try go_wp2_with (first | ((with_reducible refine gate_callee (f := 37) rfl ?_); refine goesL_ (some 73) rfl rfl Try.func37 (by as_aux_lemma => kernel_rfl) rfl #[.string (a0.extract (x11_1 : Int).toNat a0.size)] rfl (by (try simp only [List.map_toArray, List.map_cons, List.map_nil]); first | done | rfl | (simp only [List.length_drop, List.length_take]; rfl)) ?_; (with_reducible refine (helpers_DecodeWTF8Rune.calls k1 (a0.extract (x11_1 : Int).toNat a0.size) t110 t111 _ A11.out).mono ?_); rintro e w' ⟨rfl, ⟨nd, rfl⟩⟩; refine ⟨_, rfl, ?_⟩) | ((with_reducible refine gate_callee (f := 35) rfl ?_); refine goesL_ (some 78) rfl rfl Try.func35 (by as_aux_lemma => kernel_rfl) rfl #[.int .i32 t110, .bool a1] rfl (by (try simp only [List.map_toArray, List.map_cons, List.map_nil]); first | done | rfl | (simp only [List.length_drop, List.length_take]; rfl)) ?_; (with_reducible refine (helpers_canPrintWithoutEscape.calls t110 a1 false _ A12.out).mono ?_); rintro e w' ⟨rfl, ⟨nd, rfl⟩⟩; refine ⟨_, rfl, ?_⟩))
                                                    (try (rw [drewN_self wr]; generalize hq_ : World.drewN wr _ = wr; have n0_ : Aside0 (Kd.R (Kd.int .u8) 5 wr w.heap.size (fun _ => True) u10 x10_1) := ⟨by rw [← hq_]; exact (by (with_reducible repeat (first | apply Kd.R_alloc | apply Kd.R_drewN | apply Kd.R_drew)); exact HO_10.out)⟩; have n1_ : Aside0 (Below w.heap.size w wr) := ⟨by rw [← hq_]; exact (by repeat (first | (with_reducible first | exact HB.out | apply below_alloc | apply pw_below_drewN | apply below_drew1) | exact HB.out))⟩; clear HO_10 HB hq_; have HO_10 := n0_; have HB := n1_; clear n0_ n1_))
                                                    refine quote_region41 w wr t110 x10_1 HO_10 HB c60b0 ji61 hji61 c62b0 c63b0 ji65 hji65 c66b0 c67b0 ji69 hji69 c70b0 c71b0 c73b0 c74b0 y152 Ny152 LMc76 y155 Ny155 _ rfl _ (fun _ _ _ _ _ h_ => h_) ?_
                                                    intro t_112 t_113 t_114 t_115 t_116 t_117 t_118 t_119 t_120 t_121 t_122 t_123 t_124 t_125 t_126 t_127 t_128 v10 wz HO157 HBz
                                                    clear HB HO_10
                                                    have HB := HBz
                                                    clear HBz
                                                    try go_wp2
                                                    go_roundg k1
                                                    case measure => have := HK1.out; omega
                                                    case rel => exact ⟨(y155), (wrap64 (x11_1 + t111)), (by first | rfl | (simp; done) | (simp [*]; done)), H', ⟨by have := HK1.out; omega⟩, ⟨by (with_reducible repeat (first | apply Kd.R_alloc | apply Kd.R_drewN | apply Kd.R_drew)); exact Kd.R_mono HO157.out (fun _ hk => trivial)⟩, ⟨by repeat (first | (with_reducible first | exact HB.out | apply below_alloc | apply pw_below_drewN | apply below_drew1) | exact HB.out)⟩⟩
                                                  · rw [if_neg c76] at H
                                                    exact absurd H (by simp)
                                                · rw [if_neg c74] at H
                                                  exact absurd H (by simp)
                                              · rw [if_neg c73] at H
                                                exact absurd H (by simp)
                                            · rw [if_neg c71] at H
                                              exact absurd H (by simp)
                                          · rw [if_neg c70] at H
                                            exact absurd H (by simp)
                                        · rw [if_neg c67] at H
                                          exact absurd H (by simp)
                                      · rw [if_neg c66] at H
                                        exact absurd H (by simp)
                                    · rw [if_neg c63] at H
                                      exact absurd H (by simp)
                                  · rw [if_neg c62] at H
                                    exact absurd H (by simp)
                              · as_aux_lemma =>
                                  rw [if_neg c60] at H
                                  have c60b0 : decide (t110 ≤ 65535) = false := decide_eq_false c60
                                  clear c60
                                  obtain ⟨ji82, hji82⟩ : ∃ j_ : Int, ((wrap32 (55296 + (Go.bits .and .i32 ((wrap32 (t110 - 65536)) / 1024) 1023))) / 4096) = j_ := ⟨_, rfl⟩
                                  replace H : (if 0 ≤ (ji82) then (if (ji82) < 16 then (if 0 ≤ (Go.bits .and .i32 ((wrap32 (55296 + (Go.bits .and .i32 ((wrap32 (t110 - 65536)) / 1024) 1023))) / 256) 15) then (if (Go.bits .and .i32 ((wrap32 (55296 + (Go.bits .and .i32 ((wrap32 (t110 - 65536)) / 1024) 1023))) / 256) 15) < 16 then (if 0 ≤ (Go.bits .and .i32 ((wrap32 (55296 + (Go.bits .and .i32 ((wrap32 (t110 - 65536)) / 1024) 1023))) / 16) 15) then (if (Go.bits .and .i32 ((wrap32 (55296 + (Go.bits .and .i32 ((wrap32 (t110 - 65536)) / 1024) 1023))) / 16) 15) < 16 then (if 0 ≤ (Go.bits .and .i32 (wrap32 (55296 + (Go.bits .and .i32 ((wrap32 (t110 - 65536)) / 1024) 1023))) 15) then (if (Go.bits .and .i32 (wrap32 (55296 + (Go.bits .and .i32 ((wrap32 (t110 - 65536)) / 1024) 1023))) 15) < 16 then (if 0 ≤ ((wrap32 (56320 + (Go.bits .and .i32 (wrap32 (t110 - 65536)) 1023))) / 4096) then (if ((wrap32 (56320 + (Go.bits .and .i32 (wrap32 (t110 - 65536)) 1023))) / 4096) < 16 then (if 0 ≤ (Go.bits .and .i32 ((wrap32 (56320 + (Go.bits .and .i32 (wrap32 (t110 - 65536)) 1023))) / 256) 15) then (if (Go.bits .and .i32 ((wrap32 (56320 + (Go.bits .and .i32 (wrap32 (t110 - 65536)) 1023))) / 256) 15) < 16 then (if 0 ≤ (Go.bits .and .i32 ((wrap32 (56320 + (Go.bits .and .i32 (wrap32 (t110 - 65536)) 1023))) / 16) 15) then (if (Go.bits .and .i32 ((wrap32 (56320 + (Go.bits .and .i32 (wrap32 (t110 - 65536)) 1023))) / 16) 15) < 16 then (if 0 ≤ (Go.bits .and .i32 (wrap32 (56320 + (Go.bits .and .i32 (wrap32 (t110 - 65536)) 1023))) 15) then (if (Go.bits .and .i32 (wrap32 (56320 + (Go.bits .and .i32 (wrap32 (t110 - 65536)) 1023))) 15) < 16 then ((some (([92, 117, bt (⟨#[48, 49, 50, 51, 52, 53, 54, 55, 56, 57, 65, 66, 67, 68, 69, 70]⟩ : ByteArray) (ji82), bt (⟨#[48, 49, 50, 51, 52, 53, 54, 55, 56, 57, 65, 66, 67, 68, 69, 70]⟩ : ByteArray) (Go.bits .and .i32 ((wrap32 (55296 + (Go.bits .and .i32 ((wrap32 (t110 - 65536)) / 1024) 1023))) / 256) 15), bt (⟨#[48, 49, 50, 51, 52, 53, 54, 55, 56, 57, 65, 66, 67, 68, 69, 70]⟩ : ByteArray) (Go.bits .and .i32 ((wrap32 (55296 + (Go.bits .and .i32 ((wrap32 (t110 - 65536)) / 1024) 1023))) / 16) 15), bt (⟨#[48, 49, 50, 51, 52, 53, 54, 55, 56, 57, 65, 66, 67, 68, 69, 70]⟩ : ByteArray) (Go.bits .and .i32 (wrap32 (55296 + (Go.bits .and .i32 ((wrap32 (t110 - 65536)) / 1024) 1023))) 15), 92, 117, bt (⟨#[48, 49, 50, 51, 52, 53, 54, 55, 56, 57, 65, 66, 67, 68, 69, 70]⟩ : ByteArray) ((wrap32 (56320 + (Go.bits .and .i32 (wrap32 (t110 - 65536)) 1023))) / 4096), bt (⟨#[48, 49, 50, 51, 52, 53, 54, 55, 56, 57, 65, 66, 67, 68, 69, 70]⟩ : ByteArray) (Go.bits .and .i32 ((wrap32 (56320 + (Go.bits .and .i32 (wrap32 (t110 - 65536)) 1023))) / 256) 15), bt (⟨#[48, 49, 50, 51, 52, 53, 54, 55, 56, 57, 65, 66, 67, 68, 69, 70]⟩ : ByteArray) (Go.bits .and .i32 ((wrap32 (56320 + (Go.bits .and .i32 (wrap32 (t110 - 65536)) 1023))) / 16) 15), bt (⟨#[48, 49, 50, 51, 52, 53, 54, 55, 56, 57, 65, 66, 67, 68, 69, 70]⟩ : ByteArray) (Go.bits .and .i32 (wrap32 (56320 + (Go.bits .and .i32 (wrap32 (t110 - 65536)) 1023))) 15)] : List Int) : List Int)).bind fun y158 => (if x10_1.length + y158.length < 140737488355328 then (helpers_internalQuote.l0 k1 a0 a1 a2 (x10_1 ++ y158) (wrap64 (x11_1 + t111)) (a0.size : Int)) else (none))) else (none)) else (none)) else (none)) else (none)) else (none)) else (none)) else (none)) else (none)) else (none)) else (none)) else (none)) else (none)) else (none)) else (none)) else (none)) else (none)) = some r := by first | (rw [hji82] at H; exact H) | (simp only [hji82] at H ⊢; exact H)
                                  (try rw [hji82] at A11)
                                  (try rw [hji82] at A12)
                                  by_cases c83 : 0 ≤ (ji82)
                                  · rw [if_pos c83] at H
                                    have c83b0 : decide (0 ≤ (ji82)) = true := decide_eq_true c83
                                    clear c83
                                    by_cases c84 : (ji82) < 16
                                    · rw [if_pos c84] at H
                                      have c84b0 : decide ((ji82) < 16) = true := decide_eq_true c84
                                      clear c84
                                      obtain ⟨ji86, hji86⟩ : ∃ j_ : Int, (Go.bits .and .i32 ((wrap32 (55296 + (Go.bits .and .i32 ((wrap32 (t110 - 65536)) / 1024) 1023))) / 256) 15) = j_ := ⟨_, rfl⟩
                                      replace H : (if 0 ≤ (ji86) then (if (ji86) < 16 then (if 0 ≤ (Go.bits .and .i32 ((wrap32 (55296 + (Go.bits .and .i32 ((wrap32 (t110 - 65536)) / 1024) 1023))) / 16) 15) then (if (Go.bits .and .i32 ((wrap32 (55296 + (Go.bits .and .i32 ((wrap32 (t110 - 65536)) / 1024) 1023))) / 16) 15) < 16 then (if 0 ≤ (Go.bits .and .i32 (wrap32 (55296 + (Go.bits .and .i32 ((wrap32 (t110 - 65536)) / 1024) 1023))) 15) then (if (Go.bits .and .i32 (wrap32 (55296 + (Go.bits .and .i32 ((wrap32 (t110 - 65536)) / 1024) 1023))) 15) < 16 then (if 0 ≤ ((wrap32 (56320 + (Go.bits .and .i32 (wrap32 (t110 - 65536)) 1023))) / 4096) then (if ((wrap32 (56320 + (Go.bits .and .i32 (wrap32 (t110 - 65536)) 1023))) / 4096) < 16 then (if 0 ≤ (Go.bits .and .i32 ((wrap32 (56320 + (Go.bits .and .i32 (wrap32 (t110 - 65536)) 1023))) / 256) 15) then (if (Go.bits .and .i32 ((wrap32 (56320 + (Go.bits .and .i32 (wrap32 (t110 - 65536)) 1023))) / 256) 15) < 16 then (if 0 ≤ (Go.bits .and .i32 ((wrap32 (56320 + (Go.bits .and .i32 (wrap32 (t110 - 65536)) 1023))) / 16) 15) then (if (Go.bits .and .i32 ((wrap32 (56320 + (Go.bits .and .i32 (wrap32 (t110 - 65536)) 1023))) / 16) 15) < 16 then (if 0 ≤ (Go.bits .and .i32 (wrap32 (56320 + (Go.bits .and .i32 (wrap32 (t110 - 65536)) 1023))) 15) then (if (Go.bits .and .i32 (wrap32 (56320 + (Go.bits .and .i32 (wrap32 (t110 - 65536)) 1023))) 15) < 16 then ((some (([92, 117, bt (⟨#[48, 49, 50, 51, 52, 53, 54, 55, 56, 57, 65, 66, 67, 68, 69, 70]⟩ : ByteArray) (ji82), bt (⟨#[48, 49, 50, 51, 52, 53, 54, 55, 56, 57, 65, 66, 67, 68, 69, 70]⟩ : ByteArray) (ji86), bt (⟨#[48, 49, 50, 51, 52, 53, 54, 55, 56, 57, 65, 66, 67, 68, 69, 70]⟩ : ByteArray) (Go.bits .and .i32 ((wrap32 (55296 + (Go.bits .and .i32 ((wrap32 (t110 - 65536)) / 1024) 1023))) / 16) 15), bt (⟨#[48, 49, 50, 51, 52, 53, 54, 55, 56, 57, 65, 66, 67, 68, 69, 70]⟩ : ByteArray) (Go.bits .and .i32 (wrap32 (55296 + (Go.bits .and .i32 ((wrap32 (t110 - 65536)) / 1024) 1023))) 15), 92, 117, bt (⟨#[48, 49, 50, 51, 52, 53, 54, 55, 56, 57, 65, 66, 67, 68, 69, 70]⟩ : ByteArray) ((wrap32 (56320 + (Go.bits .and .i32 (wrap32 (t110 - 65536)) 1023))) / 4096), bt (⟨#[48, 49, 50, 51, 52, 53, 54, 55, 56, 57, 65, 66, 67, 68, 69, 70]⟩ : ByteArray) (Go.bits .and .i32 ((wrap32 (56320 + (Go.bits .and .i32 (wrap32 (t110 - 65536)) 1023))) / 256) 15), bt (⟨#[48, 49, 50, 51, 52, 53, 54, 55, 56, 57, 65, 66, 67, 68, 69, 70]⟩ : ByteArray) (Go.bits .and .i32 ((wrap32 (56320 + (Go.bits .and .i32 (wrap32 (t110 - 65536)) 1023))) / 16) 15), bt (⟨#[48, 49, 50, 51, 52, 53, 54, 55, 56, 57, 65, 66, 67, 68, 69, 70]⟩ : ByteArray) (Go.bits .and .i32 (wrap32 (56320 + (Go.bits .and .i32 (wrap32 (t110 - 65536)) 1023))) 15)] : List Int) : List Int)).bind fun y158 => (if x10_1.length + y158.length < 140737488355328 then (helpers_internalQuote.l0 k1 a0 a1 a2 (x10_1 ++ y158) (wrap64 (x11_1 + t111)) (a0.size : Int)) else (none))) else (none)) else (none)) else (none)) else (none)) else (none)) else (none)) else (none)) else (none)) else (none)) else (none)) else (none)) else (none)) else (none)) else (none)) = some r := by first | (rw [hji86] at H; exact H) | (simp only [hji86] at H ⊢; exact H)
                                      (try rw [hji86] at A11)
                                      (try rw [hji86] at A12)
                                      by_cases c87 : 0 ≤ (ji86)
                                      · rw [if_pos c87] at H
                                        have c87b0 : decide (0 ≤ (ji86)) = true := decide_eq_true c87
                                        clear c87
                                        by_cases c88 : (ji86) < 16
                                        · rw [if_pos c88] at H
                                          have c88b0 : decide ((ji86) < 16) = true := decide_eq_true c88
                                          clear c88
                                          obtain ⟨ji90, hji90⟩ : ∃ j_ : Int, (Go.bits .and .i32 ((wrap32 (55296 + (Go.bits .and .i32 ((wrap32 (t110 - 65536)) / 1024) 1023))) / 16) 15) = j_ := ⟨_, rfl⟩
                                          replace H : (if 0 ≤ (ji90) then (if (ji90) < 16 then (if 0 ≤ (Go.bits .and .i32 (wrap32 (55296 + (Go.bits .and .i32 ((wrap32 (t110 - 65536)) / 1024) 1023))) 15) then (if (Go.bits .and .i32 (wrap32 (55296 + (Go.bits .and .i32 ((wrap32 (t110 - 65536)) / 1024) 1023))) 15) < 16 then (if 0 ≤ ((wrap32 (56320 + (Go.bits .and .i32 (wrap32 (t110 - 65536)) 1023))) / 4096) then (if ((wrap32 (56320 + (Go.bits .and .i32 (wrap32 (t110 - 65536)) 1023))) / 4096) < 16 then (if 0 ≤ (Go.bits .and .i32 ((wrap32 (56320 + (Go.bits .and .i32 (wrap32 (t110 - 65536)) 1023))) / 256) 15) then (if (Go.bits .and .i32 ((wrap32 (56320 + (Go.bits .and .i32 (wrap32 (t110 - 65536)) 1023))) / 256) 15) < 16 then (if 0 ≤ (Go.bits .and .i32 ((wrap32 (56320 + (Go.bits .and .i32 (wrap32 (t110 - 65536)) 1023))) / 16) 15) then (if (Go.bits .and .i32 ((wrap32 (56320 + (Go.bits .and .i32 (wrap32 (t110 - 65536)) 1023))) / 16) 15) < 16 then (if 0 ≤ (Go.bits .and .i32 (wrap32 (56320 + (Go.bits .and .i32 (wrap32 (t110 - 65536)) 1023))) 15) then (if (Go.bits .and .i32 (wrap32 (56320 + (Go.bits .and .i32 (wrap32 (t110 - 65536)) 1023))) 15) < 16 then ((some (([92, 117, bt (⟨#[48, 49, 50, 51, 52, 53, 54, 55, 56, 57, 65, 66, 67, 68, 69, 70]⟩ : ByteArray) (ji82), bt (⟨#[48, 49, 50, 51, 52, 53, 54, 55, 56, 57, 65, 66, 67, 68, 69, 70]⟩ : ByteArray) (ji86), bt (⟨#[48, 49, 50, 51, 52, 53, 54, 55, 56, 57, 65, 66, 67, 68, 69, 70]⟩ : ByteArray) (ji90), bt (⟨#[48, 49, 50, 51, 52, 53, 54, 55, 56, 57, 65, 66, 67, 68, 69, 70]⟩ : ByteArray) (Go.bits .and .i32 (wrap32 (55296 + (Go.bits .and .i32 ((wrap32 (t110 - 65536)) / 1024) 1023))) 15), 92, 117, bt (⟨#[48, 49, 50, 51, 52, 53, 54, 55, 56, 57, 65, 66, 67, 68, 69, 70]⟩ : ByteArray) ((wrap32 (56320 + (Go.bits .and .i32 (wrap32 (t110 - 65536)) 1023))) / 4096), bt (⟨#[48, 49, 50, 51, 52, 53, 54, 55, 56, 57, 65, 66, 67, 68, 69, 70]⟩ : ByteArray) (Go.bits .and .i32 ((wrap32 (56320 + (Go.bits .and .i32 (wrap32 (t110 - 65536)) 1023))) / 256) 15), bt (⟨#[48, 49, 50, 51, 52, 53, 54, 55, 56, 57, 65, 66, 67, 68, 69, 70]⟩ : ByteArray) (Go.bits .and .i32 ((wrap32 (56320 + (Go.bits .and .i32 (wrap32 (t110 - 65536)) 1023))) / 16) 15), bt (⟨#[48, 49, 50, 51, 52, 53, 54, 55, 56, 57, 65, 66, 67, 68, 69, 70]⟩ : ByteArray) (Go.bits .and .i32 (wrap32 (56320 + (Go.bits .and .i32 (wrap32 (t110 - 65536)) 1023))) 15)] : List Int) : List Int)).bind fun y158 => (if x10_1.length + y158.length < 140737488355328 then (helpers_internalQuote.l0 k1 a0 a1 a2 (x10_1 ++ y158) (wrap64 (x11_1 + t111)) (a0.size : Int)) else (none))) else (none)) else (none)) else (none)) else (none)) else (none)) else (none)) else (none)) else (none)) else (none)) else (none)) else (none)) else (none)) = some r := by first | (rw [hji90] at H; exact H) | (simp only [hji90] at H ⊢; exact H)
                                          (try rw [hji90] at A11)
                                          (try rw [hji90] at A12)
                                          by_cases c91 : 0 ≤ (ji90)
                                          · rw [if_pos c91] at H
                                            have c91b0 : decide (0 ≤ (ji90)) = true := decide_eq_true c91
                                            clear c91
                                            by_cases c92 : (ji90) < 16
                                            · rw [if_pos c92] at H
                                              have c92b0 : decide ((ji90) < 16) = true := decide_eq_true c92
                                              clear c92
                                              obtain ⟨ji94, hji94⟩ : ∃ j_ : Int, (Go.bits .and .i32 (wrap32 (55296 + (Go.bits .and .i32 ((wrap32 (t110 - 65536)) / 1024) 1023))) 15) = j_ := ⟨_, rfl⟩
                                              replace H : (if 0 ≤ (ji94) then (if (ji94) < 16 then (if 0 ≤ ((wrap32 (56320 + (Go.bits .and .i32 (wrap32 (t110 - 65536)) 1023))) / 4096) then (if ((wrap32 (56320 + (Go.bits .and .i32 (wrap32 (t110 - 65536)) 1023))) / 4096) < 16 then (if 0 ≤ (Go.bits .and .i32 ((wrap32 (56320 + (Go.bits .and .i32 (wrap32 (t110 - 65536)) 1023))) / 256) 15) then (if (Go.bits .and .i32 ((wrap32 (56320 + (Go.bits .and .i32 (wrap32 (t110 - 65536)) 1023))) / 256) 15) < 16 then (if 0 ≤ (Go.bits .and .i32 ((wrap32 (56320 + (Go.bits .and .i32 (wrap32 (t110 - 65536)) 1023))) / 16) 15) then (if (Go.bits .and .i32 ((wrap32 (56320 + (Go.bits .and .i32 (wrap32 (t110 - 65536)) 1023))) / 16) 15) < 16 then (if 0 ≤ (Go.bits .and .i32 (wrap32 (56320 + (Go.bits .and .i32 (wrap32 (t110 - 65536)) 1023))) 15) then (if (Go.bits .and .i32 (wrap32 (56320 + (Go.bits .and .i32 (wrap32 (t110 - 65536)) 1023))) 15) < 16 then ((some (([92, 117, bt (⟨#[48, 49, 50, 51, 52, 53, 54, 55, 56, 57, 65, 66, 67, 68, 69, 70]⟩ : ByteArray) (ji82), bt (⟨#[48, 49, 50, 51, 52, 53, 54, 55, 56, 57, 65, 66, 67, 68, 69, 70]⟩ : ByteArray) (ji86), bt (⟨#[48, 49, 50, 51, 52, 53, 54, 55, 56, 57, 65, 66, 67, 68, 69, 70]⟩ : ByteArray) (ji90), bt (⟨#[48, 49, 50, 51, 52, 53, 54, 55, 56, 57, 65, 66, 67, 68, 69, 70]⟩ : ByteArray) (ji94), 92, 117, bt (⟨#[48, 49, 50, 51, 52, 53, 54, 55, 56, 57, 65, 66, 67, 68, 69, 70]⟩ : ByteArray) ((wrap32 (56320 + (Go.bits .and .i32 (wrap32 (t110 - 65536)) 1023))) / 4096), bt (⟨#[48, 49, 50, 51, 52, 53, 54, 55, 56, 57, 65, 66, 67, 68, 69, 70]⟩ : ByteArray) (Go.bits .and .i32 ((wrap32 (56320 + (Go.bits .and .i32 (wrap32 (t110 - 65536)) 1023))) / 256) 15), bt (⟨#[48, 49, 50, 51, 52, 53, 54, 55, 56, 57, 65, 66, 67, 68, 69, 70]⟩ : ByteArray) (Go.bits .and .i32 ((wrap32 (56320 + (Go.bits .and .i32 (wrap32 (t110 - 65536)) 1023))) / 16) 15), bt (⟨#[48, 49, 50, 51, 52, 53, 54, 55, 56, 57, 65, 66, 67, 68, 69, 70]⟩ : ByteArray) (Go.bits .and .i32 (wrap32 (56320 + (Go.bits .and .i32 (wrap32 (t110 - 65536)) 1023))) 15)] : List Int) : List Int)).bind fun y158 => (if x10_1.length + y158.length < 140737488355328 then (helpers_internalQuote.l0 k1 a0 a1 a2 (x10_1 ++ y158) (wrap64 (x11_1 + t111)) (a0.size : Int)) else (none))) else (none)) else (none)) else (none)) else (none)) else (none)) else (none)) else (none)) else (none)) else (none)) else (none)) = some r := by first | (rw [hji94] at H; exact H) | (simp only [hji94] at H ⊢; exact H)
                                              (try rw [hji94] at A11)
                                              (try rw [hji94] at A12)
                                              by_cases c95 : 0 ≤ (ji94)
                                              · rw [if_pos c95] at H
                                                have c95b0 : decide (0 ≤ (ji94)) = true := decide_eq_true c95
                                                clear c95
                                                by_cases c96 : (ji94) < 16
                                                · rw [if_pos c96] at H
                                                  have c96b0 : decide ((ji94) < 16) = true := decide_eq_true c96
                                                  clear c96
                                                  obtain ⟨ji98, hji98⟩ : ∃ j_ : Int, ((wrap32 (56320 + (Go.bits .and .i32 (wrap32 (t110 - 65536)) 1023))) / 4096) = j_ := ⟨_, rfl⟩
                                                  replace H : (if 0 ≤ (ji98) then (if (ji98) < 16 then (if 0 ≤ (Go.bits .and .i32 ((wrap32 (56320 + (Go.bits .and .i32 (wrap32 (t110 - 65536)) 1023))) / 256) 15) then (if (Go.bits .and .i32 ((wrap32 (56320 + (Go.bits .and .i32 (wrap32 (t110 - 65536)) 1023))) / 256) 15) < 16 then (if 0 ≤ (Go.bits .and .i32 ((wrap32 (56320 + (Go.bits .and .i32 (wrap32 (t110 - 65536)) 1023))) / 16) 15) then (if (Go.bits .and .i32 ((wrap32 (56320 + (Go.bits .and .i32 (wrap32 (t110 - 65536)) 1023))) / 16) 15) < 16 then (if 0 ≤ (Go.bits .and .i32 (wrap32 (56320 + (Go.bits .and .i32 (wrap32 (t110 - 65536)) 1023))) 15) then (if (Go.bits .and .i32 (wrap32 (56320 + (Go.bits .and .i32 (wrap32 (t110 - 65536)) 1023))) 15) < 16 then ((some (([92, 117, bt (⟨#[48, 49, 50, 51, 52, 53, 54, 55, 56, 57, 65, 66, 67, 68, 69, 70]⟩ : ByteArray) (ji82), bt (⟨#[48, 49, 50, 51, 52, 53, 54, 55, 56, 57, 65, 66, 67, 68, 69, 70]⟩ : ByteArray) (ji86), bt (⟨#[48, 49, 50, 51, 52, 53, 54, 55, 56, 57, 65, 66, 67, 68, 69, 70]⟩ : ByteArray) (ji90), bt (⟨#[48, 49, 50, 51, 52, 53, 54, 55, 56, 57, 65, 66, 67, 68, 69, 70]⟩ : ByteArray) (ji94), 92, 117, bt (⟨#[48, 49, 50, 51, 52, 53, 54, 55, 56, 57, 65, 66, 67, 68, 69, 70]⟩ : ByteArray) (ji98), bt (⟨#[48, 49, 50, 51, 52, 53, 54, 55, 56, 57, 65, 66, 67, 68, 69, 70]⟩ : ByteArray) (Go.bits .and .i32 ((wrap32 (56320 + (Go.bits .and .i32 (wrap32 (t110 - 65536)) 1023))) / 256) 15), bt (⟨#[48, 49, 50, 51, 52, 53, 54, 55, 56, 57, 65, 66, 67, 68, 69, 70]⟩ : ByteArray) (Go.bits .and .i32 ((wrap32 (56320 + (Go.bits .and .i32 (wrap32 (t110 - 65536)) 1023))) / 16) 15), bt (⟨#[48, 49, 50, 51, 52, 53, 54, 55, 56, 57, 65, 66, 67, 68, 69, 70]⟩ : ByteArray) (Go.bits .and .i32 (wrap32 (56320 + (Go.bits .and .i32 (wrap32 (t110 - 65536)) 1023))) 15)] : List Int) : List Int)).bind fun y158 => (if x10_1.length + y158.length < 140737488355328 then (helpers_internalQuote.l0 k1 a0 a1 a2 (x10_1 ++ y158) (wrap64 (x11_1 + t111)) (a0.size : Int)) else (none))) else (none)) else (none)) else (none)) else (none)) else (none)) else (none)) else (none)) else (none)) = some r := by first | (rw [hji98] at H; exact H) | (simp only [hji98] at H ⊢; exact H)
                                                  (try rw [hji98] at A11)
                                                  (try rw [hji98] at A12)
                                                  by_cases c99 : 0 ≤ (ji98)
                                                  · rw [if_pos c99] at H
                                                    have c99b0 : decide (0 ≤ (ji98)) = true := decide_eq_true c99
                                                    clear c99
                                                    by_cases c100 : (ji98) < 16
                                                    · rw [if_pos c100] at H
                                                      have c100b0 : decide ((ji98) < 16) = true := decide_eq_true c100
                                                      clear c100
                                                      obtain ⟨ji102, hji102⟩ : ∃ j_ : Int, (Go.bits .and .i32 ((wrap32 (56320 + (Go.bits .and .i32 (wrap32 (t110 - 65536)) 1023))) / 256) 15) = j_ := ⟨_, rfl⟩
                                                      replace H : (if 0 ≤ (ji102) then (if (ji102) < 16 then (if 0 ≤ (Go.bits .and .i32 ((wrap32 (56320 + (Go.bits .and .i32 (wrap32 (t110 - 65536)) 1023))) / 16) 15) then (if (Go.bits .and .i32 ((wrap32 (56320 + (Go.bits .and .i32 (wrap32 (t110 - 65536)) 1023))) / 16) 15) < 16 then (if 0 ≤ (Go.bits .and .i32 (wrap32 (56320 + (Go.bits .and .i32 (wrap32 (t110 - 65536)) 1023))) 15) then (if (Go.bits .and .i32 (wrap32 (56320 + (Go.bits .and .i32 (wrap32 (t110 - 65536)) 1023))) 15) < 16 then ((some (([92, 117, bt (⟨#[48, 49, 50, 51, 52, 53, 54, 55, 56, 57, 65, 66, 67, 68, 69, 70]⟩ : ByteArray) (ji82), bt (⟨#[48, 49, 50, 51, 52, 53, 54, 55, 56, 57, 65, 66, 67, 68, 69, 70]⟩ : ByteArray) (ji86), bt (⟨#[48, 49, 50, 51, 52, 53, 54, 55, 56, 57, 65, 66, 67, 68, 69, 70]⟩ : ByteArray) (ji90), bt (⟨#[48, 49, 50, 51, 52, 53, 54, 55, 56, 57, 65, 66, 67, 68, 69, 70]⟩ : ByteArray) (ji94), 92, 117, bt (⟨#[48, 49, 50, 51, 52, 53, 54, 55, 56, 57, 65, 66, 67, 68, 69, 70]⟩ : ByteArray) (ji98), bt (⟨#[48, 49, 50, 51, 52, 53, 54, 55, 56, 57, 65, 66, 67, 68, 69, 70]⟩ : ByteArray) (ji102), bt (⟨#[48, 49, 50, 51, 52, 53, 54, 55, 56, 57, 65, 66, 67, 68, 69, 70]⟩ : ByteArray) (Go.bits .and .i32 ((wrap32 (56320 + (Go.bits .and .i32 (wrap32 (t110 - 65536)) 1023))) / 16) 15), bt (⟨#[48, 49, 50, 51, 52, 53, 54, 55, 56, 57, 65, 66, 67, 68, 69, 70]⟩ : ByteArray) (Go.bits .and .i32 (wrap32 (56320 + (Go.bits .and .i32 (wrap32 (t110 - 65536)) 1023))) 15)] : List Int) : List Int)).bind fun y158 => (if x10_1.length + y158.length < 140737488355328 then (helpers_internalQuote.l0 k1 a0 a1 a2 (x10_1 ++ y158) (wrap64 (x11_1 + t111)) (a0.size : Int)) else (none))) else (none)) else (none)) else (none)) else (none)) else (none)) else (none)) = some r := by first | (rw [hji102] at H; exact H) | (simp only [hji102] at H ⊢; exact H)
                                                      (try rw [hji102] at A11)
                                                      (try rw [hji102] at A12)
                                                      by_cases c103 : 0 ≤ (ji102)
                                                      · rw [if_pos c103] at H
                                                        have c103b0 : decide (0 ≤ (ji102)) = true := decide_eq_true c103
                                                        clear c103
                                                        by_cases c104 : (ji102) < 16
                                                        · rw [if_pos c104] at H
                                                          have c104b0 : decide ((ji102) < 16) = true := decide_eq_true c104
                                                          clear c104
                                                          obtain ⟨ji106, hji106⟩ : ∃ j_ : Int, (Go.bits .and .i32 ((wrap32 (56320 + (Go.bits .and .i32 (wrap32 (t110 - 65536)) 1023))) / 16) 15) = j_ := ⟨_, rfl⟩
                                                          replace H : (if 0 ≤ (ji106) then (if (ji106) < 16 then (if 0 ≤ (Go.bits .and .i32 (wrap32 (56320 + (Go.bits .and .i32 (wrap32 (t110 - 65536)) 1023))) 15) then (if (Go.bits .and .i32 (wrap32 (56320 + (Go.bits .and .i32 (wrap32 (t110 - 65536)) 1023))) 15) < 16 then ((some (([92, 117, bt (⟨#[48, 49, 50, 51, 52, 53, 54, 55, 56, 57, 65, 66, 67, 68, 69, 70]⟩ : ByteArray) (ji82), bt (⟨#[48, 49, 50, 51, 52, 53, 54, 55, 56, 57, 65, 66, 67, 68, 69, 70]⟩ : ByteArray) (ji86), bt (⟨#[48, 49, 50, 51, 52, 53, 54, 55, 56, 57, 65, 66, 67, 68, 69, 70]⟩ : ByteArray) (ji90), bt (⟨#[48, 49, 50, 51, 52, 53, 54, 55, 56, 57, 65, 66, 67, 68, 69, 70]⟩ : ByteArray) (ji94), 92, 117, bt (⟨#[48, 49, 50, 51, 52, 53, 54, 55, 56, 57, 65, 66, 67, 68, 69, 70]⟩ : ByteArray) (ji98), bt (⟨#[48, 49, 50, 51, 52, 53, 54, 55, 56, 57, 65, 66, 67, 68, 69, 70]⟩ : ByteArray) (ji102), bt (⟨#[48, 49, 50, 51, 52, 53, 54, 55, 56, 57, 65, 66, 67, 68, 69, 70]⟩ : ByteArray) (ji106), bt (⟨#[48, 49, 50, 51, 52, 53, 54, 55, 56, 57, 65, 66, 67, 68, 69, 70]⟩ : ByteArray) (Go.bits .and .i32 (wrap32 (56320 + (Go.bits .and .i32 (wrap32 (t110 - 65536)) 1023))) 15)] : List Int) : List Int)).bind fun y158 => (if x10_1.length + y158.length < 140737488355328 then (helpers_internalQuote.l0 k1 a0 a1 a2 (x10_1 ++ y158) (wrap64 (x11_1 + t111)) (a0.size : Int)) else (none))) else (none)) else (none)) else (none)) else (none)) = some r := by first | (rw [hji106] at H; exact H) | (simp only [hji106] at H ⊢; exact H)
                                                          (try rw [hji106] at A11)
                                                          (try rw [hji106] at A12)
                                                          by_cases c107 : 0 ≤ (ji106)
                                                          · rw [if_pos c107] at H
                                                            have c107b0 : decide (0 ≤ (ji106)) = true := decide_eq_true c107
                                                            clear c107
                                                            by_cases c108 : (ji106) < 16
                                                            · rw [if_pos c108] at H
                                                              have c108b0 : decide ((ji106) < 16) = true := decide_eq_true c108
                                                              clear c108
                                                              obtain ⟨ji110, hji110⟩ : ∃ j_ : Int, (Go.bits .and .i32 (wrap32 (56320 + (Go.bits .and .i32 (wrap32 (t110 - 65536)) 1023))) 15) = j_ := ⟨_, rfl⟩
                                                              replace H : (if 0 ≤ (ji110) then (if (ji110) < 16 then ((some (([92, 117, bt (⟨#[48, 49, 50, 51, 52, 53, 54, 55, 56, 57, 65, 66, 67, 68, 69, 70]⟩ : ByteArray) (ji82), bt (⟨#[48, 49, 50, 51, 52, 53, 54, 55, 56, 57, 65, 66, 67, 68, 69, 70]⟩ : ByteArray) (ji86), bt (⟨#[48, 49, 50, 51, 52, 53, 54, 55, 56, 57, 65, 66, 67, 68, 69, 70]⟩ : ByteArray) (ji90), bt (⟨#[48, 49, 50, 51, 52, 53, 54, 55, 56, 57, 65, 66, 67, 68, 69, 70]⟩ : ByteArray) (ji94), 92, 117, bt (⟨#[48, 49, 50, 51, 52, 53, 54, 55, 56, 57, 65, 66, 67, 68, 69, 70]⟩ : ByteArray) (ji98), bt (⟨#[48, 49, 50, 51, 52, 53, 54, 55, 56, 57, 65, 66, 67, 68, 69, 70]⟩ : ByteArray) (ji102), bt (⟨#[48, 49, 50, 51, 52, 53, 54, 55, 56, 57, 65, 66, 67, 68, 69, 70]⟩ : ByteArray) (ji106), bt (⟨#[48, 49, 50, 51, 52, 53, 54, 55, 56, 57, 65, 66, 67, 68, 69, 70]⟩ : ByteArray) (ji110)] : List Int) : List Int)).bind fun y158 => (if x10_1.length + y158.length < 140737488355328 then (helpers_internalQuote.l0 k1 a0 a1 a2 (x10_1 ++ y158) (wrap64 (x11_1 + t111)) (a0.size : Int)) else (none))) else (none)) else (none)) = some r := by first | (rw [hji110] at H; exact H) | (simp only [hji110] at H ⊢; exact H)
                                                              (try rw [hji110] at A11)
                                                              (try rw [hji110] at A12)
                                                              by_cases c111 : 0 ≤ (ji110)
                                                              · rw [if_pos c111] at H
                                                                have c111b0 : decide (0 ≤ (ji110)) = true := decide_eq_true c111
                                                                clear c111
                                                                by_cases c112 : (ji110) < 16
                                                                · rw [if_pos c112] at H
                                                                  have c112b0 : decide ((ji110) < 16) = true := decide_eq_true c112
                                                                  clear c112
                                                                  obtain ⟨y158, hy158⟩ : ∃ y_ : List Int, y_ = (([92, 117, bt (⟨#[48, 49, 50, 51, 52, 53, 54, 55, 56, 57, 65, 66, 67, 68, 69, 70]⟩ : ByteArray) (ji82), bt (⟨#[48, 49, 50, 51, 52, 53, 54, 55, 56, 57, 65, 66, 67, 68, 69, 70]⟩ : ByteArray) (ji86), bt (⟨#[48, 49, 50, 51, 52, 53, 54, 55, 56, 57, 65, 66, 67, 68, 69, 70]⟩ : ByteArray) (ji90), bt (⟨#[48, 49, 50, 51, 52, 53, 54, 55, 56, 57, 65, 66, 67, 68, 69, 70]⟩ : ByteArray) (ji94), 92, 117, bt (⟨#[48, 49, 50, 51, 52, 53, 54, 55, 56, 57, 65, 66, 67, 68, 69, 70]⟩ : ByteArray) (ji98), bt (⟨#[48, 49, 50, 51, 52, 53, 54, 55, 56, 57, 65, 66, 67, 68, 69, 70]⟩ : ByteArray) (ji102), bt (⟨#[48, 49, 50, 51, 52, 53, 54, 55, 56, 57, 65, 66, 67, 68, 69, 70]⟩ : ByteArray) (ji106), bt (⟨#[48, 49, 50, 51, 52, 53, 54, 55, 56, 57, 65, 66, 67, 68, 69, 70]⟩ : ByteArray) (ji110)] : List Int)) := ⟨_, rfl⟩
                                                                  replace H : (if x10_1.length + y158.length < 140737488355328 then (helpers_internalQuote.l0 k1 a0 a1 a2 (x10_1 ++ y158) (wrap64 (x11_1 + t111)) (a0.size : Int)) else (none)) = some r := by first | (rw [hy158]; with_reducible exact H) | (have H2_ := (Option.bind_some _ _).symm.trans H; rw [hy158]; with_reducible exact H2_) | (have H2_ := (Option.bind_some _ _).symm.trans H; with_reducible exact H2_) | with_reducible exact H | (rw [hy158]; exact H) | exact H
                                                                  have Ny158 := Aside0.mk hy158
                                                                  clear hy158
                                                                  by_cases c114 : x10_1.length + y158.length < 140737488355328
                                                                  · rw [if_pos c114] at H
                                                                    have LMc114 := Aside0.mk c114
                                                                    clear c114
                                                                    obtain ⟨y161, hy161⟩ : ∃ y_ : List Int, y_ = (x10_1 ++ y158) := ⟨_, rfl⟩
                                                                    replace H : (helpers_internalQuote.l0 k1 a0 a1 a2 y161 (wrap64 (x11_1 + t111)) (a0.size : Int)) = some r := by first | (rw [hy161]; with_reducible exact H) | (have H2_ := (Option.bind_some _ _).symm.trans H; rw [hy161]; with_reducible exact H2_) | (have H2_ := (Option.bind_some _ _).symm.trans H; with_reducible exact H2_) | with_reducible exact H | (rw [hy161]; exact H) | exact H
                                                                    have Ny161 := Aside0.mk hy161
                                                                    clear hy161
                                                                    have H' := Aside0.mk H
                                                                    clear H
                                                                    try go_wp2_with (first | ((with_reducible refine gate_callee (f := 37) rfl ?_); refine goesL_ (some 73) rfl rfl Try.func37 (by as_aux_lemma => kernel_rfl) rfl #[.string (a0.extract (x11_1 : Int).toNat a0.size)] rfl (by (try simp only [List.map_toArray, List.map_cons, List.map_nil]); first | done | rfl | (simp only [List.length_drop, List.length_take]; rfl)) ?_; (with_reducible refine (helpers_DecodeWTF8Rune.calls k1 (a0.extract (x11_1 : Int).toNat a0.size) t110 t111 _ A11.out).mono ?_); rintro e w' ⟨rfl, ⟨nd, rfl⟩⟩; refine ⟨_, rfl, ?_⟩) | ((with_reducible refine gate_callee (f := 35) rfl ?_); refine goesL_ (some 78) rfl rfl Try.func35 (by as_aux_lemma => kernel_rfl) rfl #[.int .i32 t110, .bool a1] rfl (by (try simp only [List.map_toArray, List.map_cons, List.map_nil]); first | done | rfl | (simp only [List.length_drop, List.length_take]; rfl)) ?_; (with_reducible refine (helpers_canPrintWithoutEscape.calls t110 a1 false _ A12.out).mono ?_); rintro e w' ⟨rfl, ⟨nd, rfl⟩⟩; refine ⟨_, rfl, ?_⟩))
                                                                    (try (rw [drewN_self wr]; generalize hq_ : World.drewN wr _ = wr; have n0_ : Aside0 (Kd.R (Kd.int .u8) 5 wr w.heap.size (fun _ => True) u10 x10_1) := ⟨by rw [← hq_]; exact (by (with_reducible repeat (first | apply Kd.R_alloc | apply Kd.R_drewN | apply Kd.R_drew)); exact HO_10.out)⟩; have n1_ : Aside0 (Below w.heap.size w wr) := ⟨by rw [← hq_]; exact (by repeat (first | (with_reducible first | exact HB.out | apply below_alloc | apply pw_below_drewN | apply below_drew1) | exact HB.out))⟩; clear HO_10 HB hq_; have HO_10 := n0_; have HB := n1_; clear n0_ n1_))
                                                                    refine quote_region45 w wr t110 _ _ x10_1 HO_10 HB c60b0 ji82 hji82 c83b0 c84b0 ji86 hji86 c87b0 c88b0 ji90 hji90 c91b0 c92b0 ji94 hji94 c95b0 c96b0 ji98 hji98 c99b0 c100b0 ji102 hji102 c103b0 c104b0 ji106 hji106 c107b0 c108b0 ji110 hji110 c111b0 c112b0 y158 Ny158 LMc114 y161 Ny161 _ rfl _ (fun _ _ _ _ _ h_ => h_) ?_
                                                                    intro t_138 t_139 t_140 t_141 t_142 t_143 t_144 t_145 t_146 t_147 t_148 t_149 t_150 t_151 t_152 t_153 t_154 t_155 t_156 t_157 t_158 t_159 t_160 t_161 t_162 t_163 t_164 t_165 t_166 t_167 t_168 v10 wz HO163 HBz
                                                                    clear HB HO_10
                                                                    have HB := HBz
                                                                    clear HBz
                                                                    try go_wp2
                                                                    go_roundg k1
                                                                    case measure => have := HK1.out; omega
                                                                    case rel => exact ⟨(y161), (wrap64 (x11_1 + t111)), (by first | rfl | (simp; done) | (simp [*]; done)), H', ⟨by have := HK1.out; omega⟩, ⟨by (with_reducible repeat (first | apply Kd.R_alloc | apply Kd.R_drewN | apply Kd.R_drew)); exact Kd.R_mono HO163.out (fun _ hk => trivial)⟩, ⟨by repeat (first | (with_reducible first | exact HB.out | apply below_alloc | apply pw_below_drewN | apply below_drew1) | exact HB.out)⟩⟩
                                                                  · rw [if_neg c114] at H
                                                                    exact absurd H (by simp)
                                                                · rw [if_neg c112] at H
                                                                  exact absurd H (by simp)
                                                              · rw [if_neg c111] at H
                                                                exact absurd H (by simp)
                                                            · rw [if_neg c108] at H
                                                              exact absurd H (by simp)
                                                          · rw [if_neg c107] at H
                                                            exact absurd H (by simp)
                                                        · rw [if_neg c104] at H
                                                          exact absurd H (by simp)
                                                      · rw [if_neg c103] at H
                                                        exact absurd H (by simp)
                                                    · rw [if_neg c100] at H
                                                      exact absurd H (by simp)
                                                  · rw [if_neg c99] at H
                                                    exact absurd H (by simp)
                                                · rw [if_neg c96] at H
                                                  exact absurd H (by simp)
                                              · rw [if_neg c95] at H
                                                exact absurd H (by simp)
                                            · rw [if_neg c92] at H
                                              exact absurd H (by simp)
                                          · rw [if_neg c91] at H
                                            exact absurd H (by simp)
                                        · rw [if_neg c88] at H
                                          exact absurd H (by simp)
                                      · rw [if_neg c87] at H
                                        exact absurd H (by simp)
                                    · rw [if_neg c84] at H
                                      exact absurd H (by simp)
                                  · rw [if_neg c83] at H
                                    exact absurd H (by simp)
          · rw [if_neg c10] at H
            exact absurd H (by simp)
        · rw [if_neg c9] at H
          exact absurd H (by simp)
      · rw [if_neg c8] at H
        have c8b0 : decide (x11_1 < (a0.size : Int)) = false := decide_eq_false c8
        clear c8
        by_cases c120 : x10_1.length < 140737488355328
        · rw [if_pos c120] at H
          have LMc120 := Aside0.mk c120
          clear c120
          obtain ⟨y107, hy107⟩ : ∃ y_ : List Int, y_ = (x10_1 ++ [a2]) := ⟨_, rfl⟩
          replace H : (some y107) = some r := by first | (rw [hy107]; with_reducible exact H) | (have H2_ := (Option.bind_some _ _).symm.trans H; rw [hy107]; with_reducible exact H2_) | (have H2_ := (Option.bind_some _ _).symm.trans H; with_reducible exact H2_) | with_reducible exact H | (rw [hy107]; exact H) | exact H
          have Ny107 := Aside0.mk hy107
          clear hy107
          obtain rfl := Option.some.inj H
          go_wp2_with (first | ((with_reducible refine gate_builtin (b := .append) (xs := #[.tmp 227, .tmp 229]) rfl ?_); at_builtin; refine Kd.R_append (Kd.int .u8) (w0 := w) w.heap.size rfl (.tmp 227) (.tmp 229) 34 5 (.int .u8 0) 1 rfl Try.underlying34 info5 rfl (by decide) (by omega) u10 x10_1 a2 [.int .u8 a2] (fun _ => True) (fun _ => False) rfl rfl ?aP (fun _ hk => hk.elim) ?aF ?aO ?aB ?aS ?aL ?_; (case aP => exact rfl); (case aB => exact (by repeat (first | (with_reducible first | exact HB.out | apply below_alloc | apply pw_below_drewN | apply below_drew1) | exact HB.out))); (case aF => exact (fun _ _ => trivial)); (case aO => exact (by (with_reducible repeat (first | apply Kd.R_alloc | apply Kd.R_drewN | apply Kd.R_drew)); exact HO_10.out)); (case aS => exact (below_size (by repeat (first | (with_reducible first | exact HB.out | apply below_alloc | apply pw_below_drewN | apply below_drew1) | exact HB.out)))); (case aL => have := LMc120.out; omega); intro v108 w121 ho hb hg hat; rw [← Ny107.out] at ho; have n0_ := Aside0.mk (hb); have n1_ := Aside0.mk (ho); clear HB; clear HO_10; have HB := n0_; have HO109 := n1_; clear n0_ n1_; clear ho hb hg hat))
          go_ret
          exact ⟨_, by first | rfl | (simp [errW_none, errW_some] <;> rfl) | (simp [*, errW_none, errW_some] <;> rfl), by (with_reducible repeat (first | apply Kd.R_alloc | apply Kd.R_drewN | apply Kd.R_drew)); exact HO109.out, by repeat (first | (with_reducible first | exact HB.out | apply below_alloc | apply pw_below_drewN | apply below_drew1) | exact HB.out)⟩
        · rw [if_neg c120] at H
          exact absurd H (by simp)

set_option maxHeartbeats 8000000 in
set_option maxRecDepth 100000 in
theorem helpers_internalQuote.calls (k : Nat) (a0 : ByteArray) (a1 : Bool) (a2 : Int) (r : List Int) (w : World) (hs : a0.size ≤ 2147483647) (h : helpers_internalQuote.f k a0 a1 a2 = some r) :
    Calls Try.prog 25 #[.string a0, .bool a1, .int .u8 a2] w fun e w' => ∃ v0_ : Value, e = .returned (v0_) ∧ Kd.R (Kd.int .u8) 5 w' w.heap.size (fun _ => True) v0_ r ∧ Below w.heap.size w w' := by
  have H : ((some (([] : List Int) : List Int)).bind fun y101 => (if y101.length < 140737488355328 then (helpers_internalQuote.l0 k a0 a1 a2 (y101 ++ [a2]) 0 (a0.size : Int)) else (none))) = some r := h
  clear h
  obtain ⟨y101, hy101⟩ : ∃ y_ : List Int, y_ = (([] : List Int)) := ⟨_, rfl⟩
  replace H : (if y101.length < 140737488355328 then (helpers_internalQuote.l0 k a0 a1 a2 (y101 ++ [a2]) 0 (a0.size : Int)) else (none)) = some r := by first | (rw [hy101]; with_reducible exact H) | (have H2_ := (Option.bind_some _ _).symm.trans H; rw [hy101]; with_reducible exact H2_) | (have H2_ := (Option.bind_some _ _).symm.trans H; with_reducible exact H2_) | with_reducible exact H | (rw [hy101]; exact H) | exact H
  have Ny101 := Aside0.mk hy101
  clear hy101
  by_cases c4 : y101.length < 140737488355328
  · rw [if_pos c4] at H
    have LMc4 := Aside0.mk c4
    clear c4
    obtain ⟨y104, hy104⟩ : ∃ y_ : List Int, y_ = (y101 ++ [a2]) := ⟨_, rfl⟩
    replace H : (helpers_internalQuote.l0 k a0 a1 a2 y104 0 (a0.size : Int)) = some r := by first | (rw [hy104]; with_reducible exact H) | (have H2_ := (Option.bind_some _ _).symm.trans H; rw [hy104]; with_reducible exact H2_) | (have H2_ := (Option.bind_some _ _).symm.trans H; with_reducible exact H2_) | with_reducible exact H | (rw [hy104]; exact H) | exact H
    have Ny104 := Aside0.mk hy104
    clear hy104
    have H' := Aside0.mk H
    clear H
    go_enter Try.func25, Try.ntmps25
    go_upto_block 0 with fail
    go_cut [7] (fun v7 wc => ∃ est : Nat, v7 = .int .i64 (est : Int) ∧ Hid (est ≤ 2 + 12 * a0.size) ∧ Hid (Below w.heap.size w wc))
    case rest =>
      obtain ⟨est, rfl, HE, HBw⟩ := hcut
      rename_i hK_
      exact hK_ _ _ (quote_rest k a0 a1 a2 r w _ est y101 y104 Ny101 LMc4 Ny104 H' hs HE HBw _ rfl)
    case first =>
    go_wp2_with fail
    go_loopw [7] (fun v7 wr => ∃ (pos est : Nat), v7 = .int .i64 (est : Int) ∧ Hid (GI w a0 pos wr) ∧ Hid (2 ≤ est ∧ est ≤ 2 + 12 * pos) ∧ Hid (pos ≤ a0.size)) (fun _ wr => a0.size - wr.iterPos w.heap.size)
    case atStart => exact ⟨0, 2, rfl, Lib.hid (GI.start w a0), Lib.hid (by omega), Lib.hid (Nat.zero_le _)⟩
    case round =>
      obtain ⟨pos, est, rfl, HG, HE, HP⟩ := hrel
      by_cases hp : pos < a0.size
      · have hnx : ∀ ty, (Instr.next (.pointer (some ⟨w.heap.size, 0, none⟩)) true ty).run Try.prog wr = _ := fun ty => Lib.run_next_any_at wr w.heap.size a0 pos ty HG.out.1 hp
        have hwd := width_pos a0 pos hp
        have hwl := decode_width_le a0 pos hp
        have hva := decode_valid a0 pos
        have HPo := Lib.hid HG.out.pos
        have HG2 := Lib.hid (HG.out.iter (pos + (Utf8.decode a0 pos).2))
        obtain ⟨W1, hW1⟩ : ∃ W1, W1 = wr.iterAt w.heap.size a0 (pos + (Utf8.decode a0 pos).2) := ⟨_, rfl⟩
        rw [← hW1] at hnx HG2
        have hr0 : (0 : Int) ≤ ((Utf8.decode a0 pos).1 : Int) := by omega
        have hv2 : ((Utf8.decode a0 pos).1 : Int) < 55296 ∨ (57343 < ((Utf8.decode a0 pos).1 : Int) ∧ ((Utf8.decode a0 pos).1 : Int) ≤ 1114111) := by omega
        generalize ((Utf8.decode a0 pos).1 : Int) = c at hnx hr0 hv2
        generalize (Utf8.decode a0 pos).2 = wd at hnx hwd hwl HG2 hW1
        have HWd := Lib.hid (And.intro hwd (And.intro hwl hp))
        obtain ⟨b, hb⟩ := canPrint_total c a1
        have HCp := Lib.hid hb
        obtain ⟨n, hn, hn1, hn2⟩ := runeLen_tells c hr0 hv2
        have HRl := Lib.hid hn
        have ew : ∀ m : Int, 0 ≤ m → m ≤ 12 → wrap64 ((est : Int) + m) = ((est + m.toNat : Nat) : Int) := fun m h0 h1 => by have := HE.out; have := HP.out; unfold wrap64; omega
        have HEw := Lib.hid ew
        have hn1' := Lib.hid (And.intro hn1 hn2)
        clear hW1 HG hwd hwl hp hva hv2 hr0 hb hn hn1 hn2 ew
        cases b
        · have e1 := HEw.out 2 (by decide) (by decide)
          have e0 := HEw.out 0 (by decide) (by decide)
          have e6 := HEw.out 6 (by decide) (by decide)
          have e12 := HEw.out 12 (by decide) (by decide)
          clear HEw hn1'
          by_cases hq : c = 8 ∨ c = 12 ∨ c = 10 ∨ c = 13 ∨ c = 9 ∨ c = 92
          · clear e0 e6 e12
            rcases hq with rfl | rfl | rfl | rfl | rfl | rfl
            all_goals
              go_wp2_with (first
                | (go_at_call 35; (with_reducible refine (helpers_canPrintWithoutEscape.calls _ a1 false _ HCp.out).mono ?_); rintro e w' ⟨rfl, ⟨nd, rfl⟩⟩))
              go_roundw
              case rel => exact ⟨pos + wd, est + 2, by first | rfl | exact congrArg (Value.int .i64) e1, Lib.hid (HG2.out.drewN _), Lib.hid (by have := HE.out; have := HWd.out; omega), Lib.hid (by have := HWd.out; omega)⟩
              case measure => rw [(HG2.out.drewN _).pos, HPo.out]; have := HWd.out; omega
          · have n1 : (c == 8) = false := beq_eq_false_iff_ne.mpr (by omega)
            have n2 : (c == 12) = false := beq_eq_false_iff_ne.mpr (by omega)
            have n3 : (c == 10) = false := beq_eq_false_iff_ne.mpr (by omega)
            have n4 : (c == 13) = false := beq_eq_false_iff_ne.mpr (by omega)
            have n5 : (c == 9) = false := beq_eq_false_iff_ne.mpr (by omega)
            have n6 : (c == 92) = false := beq_eq_false_iff_ne.mpr (by omega)
            clear hq
            by_cases q34 : c = 34
            · subst q34
              clear n1 n2 n3 n4 n5 n6 e6 e12
              by_cases hz : a2 = 34
              · have hzb : (a2 == 34) = true := beq_iff_eq.mpr hz
                clear hz e0
                go_wp2_with (first
                  | (go_at_call 35; (with_reducible refine (helpers_canPrintWithoutEscape.calls _ a1 false _ HCp.out).mono ?_); rintro e w' ⟨rfl, ⟨nd, rfl⟩⟩))
                go_roundw
                case rel => exact ⟨pos + wd, est + 2, by first | rfl | exact congrArg (Value.int .i64) e1, Lib.hid (HG2.out.drewN _), Lib.hid (by have := HE.out; have := HWd.out; omega), Lib.hid (by have := HWd.out; omega)⟩
                case measure => rw [(HG2.out.drewN _).pos, HPo.out]; have := HWd.out; omega
              · have hzb : (a2 == 34) = false := beq_eq_false_iff_ne.mpr hz
                clear hz e1
                go_wp2_with (first
                  | (go_at_call 35; (with_reducible refine (helpers_canPrintWithoutEscape.calls _ a1 false _ HCp.out).mono ?_); rintro e w' ⟨rfl, ⟨nd, rfl⟩⟩))
                go_roundw
                case rel => exact ⟨pos + wd, est + 0, by first | rfl | exact congrArg (Value.int .i64) e0, Lib.hid (HG2.out.drewN _), Lib.hid (by have := HE.out; have := HWd.out; omega), Lib.hid (by have := HWd.out; omega)⟩
                case measure => rw [(HG2.out.drewN _).pos, HPo.out]; have := HWd.out; omega
            have n34 : (c == 34) = false := beq_eq_false_iff_ne.mpr q34
            clear q34
            by_cases q39 : c = 39
            · subst q39
              clear n1 n2 n3 n4 n5 n6 e6 e12
              by_cases hz : a2 = 39
              · have hzb : (a2 == 39) = true := beq_iff_eq.mpr hz
                clear hz e0
                go_wp2_with (first
                  | (go_at_call 35; (with_reducible refine (helpers_canPrintWithoutEscape.calls _ a1 false _ HCp.out).mono ?_); rintro e w' ⟨rfl, ⟨nd, rfl⟩⟩))
                go_roundw
                case rel => exact ⟨pos + wd, est + 2, by first | rfl | exact congrArg (Value.int .i64) e1, Lib.hid (HG2.out.drewN _), Lib.hid (by have := HE.out; have := HWd.out; omega), Lib.hid (by have := HWd.out; omega)⟩
                case measure => rw [(HG2.out.drewN _).pos, HPo.out]; have := HWd.out; omega
              · have hzb : (a2 == 39) = false := beq_eq_false_iff_ne.mpr hz
                clear hz e1
                go_wp2_with (first
                  | (go_at_call 35; (with_reducible refine (helpers_canPrintWithoutEscape.calls _ a1 false _ HCp.out).mono ?_); rintro e w' ⟨rfl, ⟨nd, rfl⟩⟩))
                go_roundw
                case rel => exact ⟨pos + wd, est + 0, by first | rfl | exact congrArg (Value.int .i64) e0, Lib.hid (HG2.out.drewN _), Lib.hid (by have := HE.out; have := HWd.out; omega), Lib.hid (by have := HWd.out; omega)⟩
                case measure => rw [(HG2.out.drewN _).pos, HPo.out]; have := HWd.out; omega
            have n39 : (c == 39) = false := beq_eq_false_iff_ne.mpr q39
            clear q39
            clear e0 e1
            by_cases hz : c ≤ 65535
            · have hzb : decide (c ≤ 65535) = true := decide_eq_true hz
              clear hz e12
              go_wp2_with (first
                | (go_at_call 35; (with_reducible refine (helpers_canPrintWithoutEscape.calls c a1 false _ HCp.out).mono ?_); rintro e w' ⟨rfl, ⟨nd, rfl⟩⟩))
              go_roundw
              case rel => exact ⟨pos + wd, est + 6, by first | rfl | exact congrArg (Value.int .i64) e6, Lib.hid (HG2.out.drewN _), Lib.hid (by have := HE.out; have := HWd.out; omega), Lib.hid (by have := HWd.out; omega)⟩
              case measure => rw [(HG2.out.drewN _).pos, HPo.out]; have := HWd.out; omega
            · have hzb : decide (c ≤ 65535) = false := decide_eq_false hz
              clear hz e6
              go_wp2_with (first
                | (go_at_call 35; (with_reducible refine (helpers_canPrintWithoutEscape.calls c a1 false _ HCp.out).mono ?_); rintro e w' ⟨rfl, ⟨nd, rfl⟩⟩))
              go_roundw
              case rel => exact ⟨pos + wd, est + 12, by first | rfl | exact congrArg (Value.int .i64) e12, Lib.hid (HG2.out.drewN _), Lib.hid (by have := HE.out; have := HWd.out; omega), Lib.hid (by have := HWd.out; omega)⟩
              case measure => rw [(HG2.out.drewN _).pos, HPo.out]; have := HWd.out; omega
        · have e1 := HEw.out n (by have := hn1'.out; omega) (by have := hn1'.out; omega)
          go_wp2_with (first
            | (go_at_call 35; (with_reducible refine (helpers_canPrintWithoutEscape.calls c a1 true _ HCp.out).mono ?_); rintro e w' ⟨rfl, ⟨nd, rfl⟩⟩)
            | (go_at_call 36; (with_reducible refine (PRuneLen.utf8_RuneLen.calls 2 c n _ HRl.out).mono ?_); rintro e w' ⟨rfl, ⟨nd, rfl⟩⟩))
          go_roundw
          case rel => exact ⟨pos + wd, est + n.toNat, by rw [← e1], Lib.hid (HG2.out.drewN _), Lib.hid (by have := HE.out; have := hn1'.out; have := HWd.out; omega), Lib.hid (by have := HWd.out; omega)⟩
          case measure => rw [(HG2.out.drewN _).pos, HPo.out]; have := HWd.out; omega
      · have hnx : ∀ ty, (Instr.next (.pointer (some ⟨w.heap.size, 0, none⟩)) true ty).run Try.prog wr = _ := fun ty => Lib.run_next_end_at wr w.heap.size a0 pos ty HG.out.1 hp
        clear hp
        go_wp2
        go_meet
        case rel => exact ⟨est, rfl, Lib.hid (by have := HE.out; have := HP.out; omega), Lib.hid HG.out.2⟩
  · rw [if_neg c4] at H
    exact absurd H (by simp)

/-! ### over it: QuoteSingle and the door -/
end Go.Proofs.Ytmgepjnaalnckaa.PinternalQuote
namespace Go.Proofs.Ytmgepjnaalnckaa
open Go.RowKit Go.Proofs.YtmgepjnaalnckaaW.PrintWords Go.Proofs.Ytmgepjnaalnckaa.PinternalQuote
def helpers_internalQuote.f (k : Nat) (a0 : ByteArray) (a1 : Bool) (a2 : Int) : Option (List Int) := if a0.size ≤ 2147483647 then PinternalQuote.helpers_internalQuote.f k a0 a1 a2 else none
theorem helpers_internalQuote.mono : ∀ a0 a1 a2 k, LeO (helpers_internalQuote.f k a0 a1 a2) (helpers_internalQuote.f (k + 1) a0 a1 a2) := by
  intro a0 a1 a2 k r h
  unfold helpers_internalQuote.f at h ⊢
  by_cases c : a0.size ≤ 2147483647
  · rw [if_pos c] at h ⊢
    exact PinternalQuote.helpers_internalQuote.mono _ _ _ _ r h
  · rw [if_neg c] at h; cases h
theorem helpers_internalQuote.calls (k : Nat) (a0 : ByteArray) (a1 : Bool) (a2 : Int) (r : List Int) (w : World) (h : helpers_internalQuote.f k a0 a1 a2 = some r) :
    Calls Try.prog 25 #[.string a0, .bool a1, .int .u8 a2] w fun e w' => ∃ v0_ : Value, e = .returned (v0_) ∧ Kd.R (Kd.int .u8) 5 w' w.heap.size (fun _ => True) v0_ r ∧ Below w.heap.size w w' := by
  unfold helpers_internalQuote.f at h
  by_cases c : a0.size ≤ 2147483647
  · rw [if_pos c] at h
    exact PinternalQuote.helpers_internalQuote.calls k a0 a1 a2 r w c h
  · rw [if_neg c] at h; cases h
end Go.Proofs.Ytmgepjnaalnckaa
