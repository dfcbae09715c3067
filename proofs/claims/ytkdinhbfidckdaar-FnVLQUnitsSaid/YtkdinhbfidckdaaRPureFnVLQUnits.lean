/- Of code units, a number that they begin with is read, with how many there are of it; a list that ends, or has something else than a digit, before a number is whole, has none. No condition. -/
import Derived.Test.YtkdinhbfidckdaaRPFnVLQUnitsx2
import Derived.KernelRfl
import Derived.Laws.BitsLemmas
import Derived.Laws.RangeAny
namespace Go.Proofs.YtkdinhbfidckdaaR.Pure
open Go Go.RowKit Go.Proofs.YtkdinhbfidckdaaR.PDecodeVLQUTF16 Go.Proofs.YtkdinhbfidckdaaR.PFnVLQUnits Go.Proofs.YtkdinhbfidckdaaRW.PrintWords Go.Proofs.YtkdinhbfidckdaaRW.PrintLast

theorem w64 {x : Int} (h0 : -9223372036854775808 ≤ x) (h1 : x < 9223372036854775808) : wrap64 x = x := by unfold wrap64; omega
theorem w32 {x : Int} (h0 : -2147483648 ≤ x) (h1 : x < 2147483648) : wrap32 x = x := by unfold wrap32; omega
/-- The value of a digit of Base64; -1: it is none. -/
def dig (b : Int) : Int := Lib.indexByte (⟨#[65, 66, 67, 68, 69, 70, 71, 72, 73, 74, 75, 76, 77, 78, 79, 80, 81, 82, 83, 84, 85, 86, 87, 88, 89, 90, 97, 98, 99, 100, 101, 102, 103, 104, 105, 106, 107, 108, 109, 110, 111, 112, 113, 114, 115, 116, 117, 118, 119, 120, 121, 122, 48, 49, 50, 51, 52, 53, 54, 55, 56, 57, 43, 47]⟩ : ByteArray).data.toList b.toNat.toUInt8
theorem fin_of {x : Int} (h0 : 0 ≤ x) (h1 : x ≤ 255) : ∃ m : Fin 256, (m.val : Int) = x := ⟨⟨x.toNat, by omega⟩, by simp; omega⟩
theorem dig_fin : ∀ m : Fin 256, spec_mapDigit.f 70 (m.val : Int) = some (dig (m.val : Int)) ∧ -1 ≤ dig (m.val : Int) ∧ dig (m.val : Int) ≤ 63 ∧ (128 ≤ m.val → dig (m.val : Int) = -1) := by decide +kernel
theorem dig_range {b : Int} (h0 : 0 ≤ b) (h1 : b ≤ 255) : -1 ≤ dig b ∧ dig b ≤ 63 ∧ (128 ≤ b → dig b = -1) := by
  obtain ⟨m, rfl⟩ := fin_of h0 h1
  obtain ⟨_, h2, h3, h4⟩ := dig_fin m
  exact ⟨h2, h3, fun h => h4 (by omega)⟩
theorem dig_ev {b : Int} (h0 : 0 ≤ b) (h1 : b ≤ 255) : Ev (fun k => spec_mapDigit.f k b) (dig b) := by
  obtain ⟨m, rfl⟩ := fin_of h0 h1
  exact Ev.of (k := 70) (fun k => spec_mapDigit.mono _ k) (dig_fin m).1
theorem index_dig (b : Int) : strings_IndexByte.f (⟨#[65, 66, 67, 68, 69, 70, 71, 72, 73, 74, 75, 76, 77, 78, 79, 80, 81, 82, 83, 84, 85, 86, 87, 88, 89, 90, 97, 98, 99, 100, 101, 102, 103, 104, 105, 106, 107, 108, 109, 110, 111, 112, 113, 114, 115, 116, 117, 118, 119, 120, 121, 122, 48, 49, 50, 51, 52, 53, 54, 55, 56, 57, 43, 47]⟩ : ByteArray) b = some (dig b) := rfl
theorem low_fin : ∀ m : Fin 64, Go.bits .and .i32 (m.val : Int) 31 = (m.val : Int) % 32 ∧ Go.bits .and .i64 (m.val : Int) 31 = (m.val : Int) % 32 ∧ (Go.bits .and .i32 (m.val : Int) 32 = 0 ↔ (m.val : Int) < 32) := by decide +kernel
theorem low {d : Int} (h0 : 0 ≤ d) (h1 : d ≤ 63) : Go.bits .and .i32 d 31 = d % 32 ∧ Go.bits .and .i64 d 31 = d % 32 ∧ (Go.bits .and .i32 d 32 = 0 ↔ d < 32) := by
  obtain ⟨m, rfl⟩ : ∃ m : Fin 64, (m.val : Int) = d := ⟨⟨d.toNat, by omega⟩, by simp; omega⟩
  exact low_fin m
theorem or32 {x y : Int} (i : Nat) (_hi : i ≤ 31) (hx0 : 0 ≤ x) (hx : x < 2 ^ i) (hx1 : x < 2 ^ 31) (hy0 : 0 ≤ y) (hy : y % 2 ^ i = 0) (hy1 : y < 2 ^ 31) : Go.bits .or .i32 x y = x + y := by
  obtain ⟨a, rfl⟩ := Int.eq_ofNat_of_zero_le hx0
  obtain ⟨b, rfl⟩ := Int.eq_ofNat_of_zero_le hy0
  have h1 := (bits_nat .i32 31 (by decide) wraps_i32 a b (by omega) (by omega)).2
  have h2 := (bits_nat .i32 31 (by decide) wraps_i32 b a (by omega) (by omega)).2
  have h3 := bits_join .i32 31 (by decide) wraps_i32 i (b : Int) (a : Int) (by omega) hy hy1 (by omega) hx hx1
  rw [h1, Nat.or_comm, ← h2, h3]; omega
theorem one64 {x : Int} (h0 : 0 ≤ x) (h1 : x < 2 ^ 62) : Go.bits .and .i64 x 1 = x % 2 :=
  bits_mask .i64 62 (by decide) (fun n a b => by rw [IntKind.wrap_i64]; omega) 1 (by decide) x h0 h1
theorem one32 {x : Int} (h0 : 0 ≤ x) (h1 : x < 2 ^ 31) : Go.bits .and .i32 x 1 = x % 2 := bits_mask .i32 31 (by decide) wraps_i32 1 (by decide) x h0 h1

/-- The sums at digit number i. -/
theorem sums (i : Nat) (hi : i ≤ 6) (v d : Int) (hv0 : 0 ≤ v) (hv : v < 2 ^ (5 * i)) (hd0 : 0 ≤ d) (hd : d ≤ 63) :
    ∃ V : Int, wrap64 (v + shl .i64 (Go.bits .and .i64 d 31) (5 * (i : Int))) = V ∧ v ≤ V ∧ V < 2 ^ (5 * (i + 1)) ∧ (V < 2 ^ 31 → Go.bits .or .i32 v (shl .i32 (Go.bits .and .i32 d 31) (5 * (i : Int))) = V) := by
  rw [(low hd0 hd).1, (low hd0 hd).2.1]
  obtain rfl | rfl | rfl | rfl | rfl | rfl | rfl : i = 0 ∨ i = 1 ∨ i = 2 ∨ i = 3 ∨ i = 4 ∨ i = 5 ∨ i = 6 := by omega
  · have e1 : shl .i64 (d % 32) (5 * ((0 : Nat) : Int)) = d % 32 := by unfold shl; simp [IntKind.wrap_i64, IntKind.bits]; omega
    have e2 : shl .i32 (d % 32) (5 * ((0 : Nat) : Int)) = d % 32 := by unfold shl; simp [IntKind.wrap_i32, IntKind.bits]; omega
    rw [e1, e2]
    exact ⟨v + d % 32, w64 (by omega) (by omega), by omega, by omega, fun h => or32 0 (by omega) hv0 (by omega) (by omega) (by omega) (by omega) (by omega)⟩
  · have e1 : shl .i64 (d % 32) (5 * ((1 : Nat) : Int)) = d % 32 * 32 := by unfold shl; simp [IntKind.wrap_i64, IntKind.bits]; omega
    have e2 : shl .i32 (d % 32) (5 * ((1 : Nat) : Int)) = d % 32 * 32 := by unfold shl; simp [IntKind.wrap_i32, IntKind.bits]; omega
    rw [e1, e2]
    exact ⟨v + d % 32 * 32, w64 (by omega) (by omega), by omega, by omega, fun h => or32 5 (by omega) hv0 (by omega) (by omega) (by omega) (by omega) (by omega)⟩
  · have e1 : shl .i64 (d % 32) (5 * ((2 : Nat) : Int)) = d % 32 * 1024 := by unfold shl; simp [IntKind.wrap_i64, IntKind.bits]; omega
    have e2 : shl .i32 (d % 32) (5 * ((2 : Nat) : Int)) = d % 32 * 1024 := by unfold shl; simp [IntKind.wrap_i32, IntKind.bits]; omega
    rw [e1, e2]
    exact ⟨v + d % 32 * 1024, w64 (by omega) (by omega), by omega, by omega, fun h => or32 10 (by omega) hv0 (by omega) (by omega) (by omega) (by omega) (by omega)⟩
  · have e1 : shl .i64 (d % 32) (5 * ((3 : Nat) : Int)) = d % 32 * 32768 := by unfold shl; simp [IntKind.wrap_i64, IntKind.bits]; omega
    have e2 : shl .i32 (d % 32) (5 * ((3 : Nat) : Int)) = d % 32 * 32768 := by unfold shl; simp [IntKind.wrap_i32, IntKind.bits]; omega
    rw [e1, e2]
    exact ⟨v + d % 32 * 32768, w64 (by omega) (by omega), by omega, by omega, fun h => or32 15 (by omega) hv0 (by omega) (by omega) (by omega) (by omega) (by omega)⟩
  · have e1 : shl .i64 (d % 32) (5 * ((4 : Nat) : Int)) = d % 32 * 1048576 := by unfold shl; simp [IntKind.wrap_i64, IntKind.bits]; omega
    have e2 : shl .i32 (d % 32) (5 * ((4 : Nat) : Int)) = d % 32 * 1048576 := by unfold shl; simp [IntKind.wrap_i32, IntKind.bits]; omega
    rw [e1, e2]
    exact ⟨v + d % 32 * 1048576, w64 (by omega) (by omega), by omega, by omega, fun h => or32 20 (by omega) hv0 (by omega) (by omega) (by omega) (by omega) (by omega)⟩
  · have e1 : shl .i64 (d % 32) (5 * ((5 : Nat) : Int)) = d % 32 * 33554432 := by unfold shl; simp [IntKind.wrap_i64, IntKind.bits]; omega
    have e2 : shl .i32 (d % 32) (5 * ((5 : Nat) : Int)) = d % 32 * 33554432 := by unfold shl; simp [IntKind.wrap_i32, IntKind.bits]; omega
    rw [e1, e2]
    exact ⟨v + d % 32 * 33554432, w64 (by omega) (by omega), by omega, by omega, fun h => or32 25 (by omega) hv0 (by omega) (by omega) (by omega) (by omega) (by omega)⟩
  · have e1 : shl .i64 (d % 32) (5 * ((6 : Nat) : Int)) = d % 32 * 1073741824 := by unfold shl; simp [IntKind.wrap_i64, IntKind.bits]; omega
    rw [e1]
    refine ⟨v + d % 32 * 1073741824, w64 (by omega) (by omega), by omega, by omega, fun h => ?_⟩
    have e2 : shl .i32 (d % 32) (5 * ((6 : Nat) : Int)) = d % 32 * 1073741824 := by unfold shl; simp [IntKind.wrap_i32, IntKind.bits]; omega
    rw [e2]
    exact or32 30 (by omega) hv0 (by omega) (by omega) (by omega) (by omega) (by omega)

/-- The package's reader comes to an end, from wherever. -/
theorem reads_on (l : List Int) (hl : l.length ≤ 65536) (d : Nat) : ∀ (i : Nat) (x7 x8 : Int), i ≤ l.length → l.length - i ≤ d → 0 ≤ x7 → x7 + 5 * (l.length - i : Nat) ≤ 1000000 →
    ∃ r, Ev (fun k => sourcemap_DecodeVLQUTF16.l0 k l (l.length : Int) (i : Int) x7 x8) r := by
  induction d with
  | zero =>
    intro i x7 x8 hi hd _ _
    exact ⟨_, Ev.step (fun k => by simp only [sourcemap_DecodeVLQUTF16.l0]; rw [if_pos (by omega)]) (Ev.now _)⟩
  | succ d ih =>
    intro i x7 x8 hi hd h7 h8
    by_cases he : i < l.length
    · have e1 : wrap64 ((i : Int) + 1) = ((i + 1 : Nat) : Int) := by rw [w64 (by omega) (by omega)]; omega
      have e2 : wrap64 (x7 + 5) = x7 + 5 := w64 (by omega) (by omega)
      by_cases c1 : wrap32 (dig (rd l i % 256)) < 0
      · exact ⟨_, Ev.step (fun k => by simp only [sourcemap_DecodeVLQUTF16.l0, index_dig, Option.bind_some]; rw [if_neg (by omega), if_pos (by omega), if_pos (by omega), if_pos c1]) (Ev.now _)⟩
      by_cases c2 : Go.bits .and .i32 (wrap32 (dig (rd l i % 256))) 32 = 0
      · by_cases c3 : Go.bits .and .i32 (Go.bits .or .i32 x8 (shl .i32 (Go.bits .and .i32 (wrap32 (dig (rd l i % 256))) 31) x7)) 1 = 0
        · exact ⟨_, Ev.step (fun k => by simp only [sourcemap_DecodeVLQUTF16.l0, index_dig, Option.bind_some]; rw [if_neg (by omega), if_pos (by omega), if_pos (by omega), if_neg c1, if_pos h7, if_pos c2, if_pos c3]) (Ev.now _)⟩
        · exact ⟨_, Ev.step (fun k => by simp only [sourcemap_DecodeVLQUTF16.l0, index_dig, Option.bind_some]; rw [if_neg (by omega), if_pos (by omega), if_pos (by omega), if_neg c1, if_pos h7, if_pos c2, if_neg c3]) (Ev.now _)⟩
      · obtain ⟨r, hr⟩ := ih (i + 1) (x7 + 5) (Go.bits .or .i32 x8 (shl .i32 (Go.bits .and .i32 (wrap32 (dig (rd l i % 256))) 31) x7)) (by omega) (by omega) (by omega) (by omega)
        exact ⟨r, Ev.step (fun k => by simp only [sourcemap_DecodeVLQUTF16.l0, index_dig, Option.bind_some, e1, e2]; rw [if_neg (by omega), if_pos (by omega), if_pos (by omega), if_neg c1, if_pos h7, if_neg c2]) hr⟩
    · exact ⟨_, Ev.step (fun k => by simp only [sourcemap_DecodeVLQUTF16.l0]; rw [if_pos (by omega)]) (Ev.now _)⟩

/-- What is to hold of the three answers: the reference's, the package's, and whether the text is unfinished. -/
def Fits (rs : Int × Int × Bool) (ri : Int × Int × Bool) (ru : Bool) : Prop :=
  (rs.2.2 = true → (rs.1 ≥ 1073741824 ∨ rs.1 ≤ -1073741824 ∨ (ri.2.2 = true ∧ ri.1 = rs.1 ∧ ri.2.1 = rs.2.1))) ∧ (rs.2.2 = false → ru = true → ri.2.2 = false)

/-- The text of the units that stand ahead of the first one of 128 or more. -/
structure TextOf (l : List Int) (t : ByteArray) : Prop where
  len : t.size ≤ l.length
  same : ∀ j : Nat, j < t.size → bt t (j : Int) = rd l (j : Int)
  stop : t.size < l.length → 128 ≤ rd l (t.size : Int) ∧ rd l (t.size : Int) ≤ 255
set_option linter.unusedSectionVars false
section
variable {l : List Int} {t : ByteArray} (hT : TextOf l t) (hl : l.length ≤ 65536)
include hT hl
theorem unfin_ev (d : Nat) : ∀ i : Nat, i ≤ t.size → t.size - i ≤ d → ∃ b, Ev (fun k => spec_Unfinished.l0 k t (i : Int)) b ∧ (6 ≤ i → b = false) := by
  induction d with
  | zero =>
    intro i hi hd
    refine ⟨decide ((t.size : Int) < 6), Ev.step (f := fun k => spec_Unfinished.j1 k t i false) (fun k => ?_) (Ev.step (fun k => ?_) (Ev.now _)), fun h => by simp; omega⟩
    · simp only [spec_Unfinished.l0]; rw [if_neg (by omega)]
    · simp only [spec_Unfinished.j1, Bool.false_eq_true, if_false]
  | succ d ih =>
    intro i hi hd
    have hlen := hT.len
    by_cases he : i < t.size
    · by_cases h6 : i < 6
      · have hb := bt_range t i
        have hdg := dig_range hb.1 hb.2
        have e1 : wrap64 ((i : Int) + 1) = ((i + 1 : Nat) : Int) := by rw [w64 (by omega) (by omega)]; omega
        have hs : ∀ r, Ev (fun k => (spec_mapDigit.f k (bt t i)).bind fun t102 => (if t102 < 0 then (some true) else (if t102 < 32 then (some false) else (spec_Unfinished.l0 k t ((i + 1 : Nat) : Int))))) r → Ev (fun k => spec_Unfinished.l0 k t (i : Int)) r := by
          intro r hr
          refine Ev.step (f := fun k => spec_Unfinished.j1 k t i true) (fun k => ?_) (Ev.step (fun k => ?_) hr)
          · simp only [spec_Unfinished.l0]; rw [if_pos (by omega), decide_eq_true (by omega)]
          · simp only [spec_Unfinished.j1, if_true, e1]; rw [if_pos (by omega), if_pos (by omega)]
        by_cases c1 : dig (bt t i) < 0
        · exact ⟨true, hs _ (Ev.bind (dig_ev hb.1 hb.2) ⟨0, fun k _ => if_pos c1⟩), fun h => by omega⟩
        by_cases c2 : dig (bt t i) < 32
        · exact ⟨false, hs _ (Ev.bind (dig_ev hb.1 hb.2) ⟨0, fun k _ => (if_neg c1).trans (if_pos c2)⟩), fun h => by omega⟩
        · obtain ⟨b, hb1, _⟩ := ih (i + 1) (by omega) (by omega)
          exact ⟨b, hs _ (Ev.bind (dig_ev hb.1 hb.2) (Ev.congr (fun k => (if_neg c1).trans (if_neg c2)) hb1)), fun h => by omega⟩
      · refine ⟨decide ((t.size : Int) < 6), Ev.step (f := fun k => spec_Unfinished.j1 k t i false) (fun k => ?_) (Ev.step (fun k => ?_) (Ev.now _)), fun h => by simp; omega⟩
        · simp only [spec_Unfinished.l0]; rw [if_pos (by omega), decide_eq_false (by omega)]
        · simp only [spec_Unfinished.j1, Bool.false_eq_true, if_false]
    · refine ⟨decide ((t.size : Int) < 6), Ev.step (f := fun k => spec_Unfinished.j1 k t i false) (fun k => ?_) (Ev.step (fun k => ?_) (Ev.now _)), fun h => by simp; omega⟩
      · simp only [spec_Unfinished.l0]; rw [if_neg (by omega)]
      · simp only [spec_Unfinished.j1, Bool.false_eq_true, if_false]

/-- The three readers, digit by digit. -/
theorem lockstep (d : Nat) : ∀ (i : Nat) (v v' : Int), i ≤ t.size → 7 - i ≤ d → i ≤ 7 → 0 ≤ v → v < 2 ^ (5 * i) → (i ≤ 6 → v' = v) →
    ∃ rs ri ru, Ev (fun k => spec_VLQ.l0 k t (i : Int) v (5 * (i : Int))) rs ∧ Ev (fun k => sourcemap_DecodeVLQUTF16.l0 k l (l.length : Int) (i : Int) (5 * (i : Int)) v') ri ∧ Ev (fun k => spec_Unfinished.l0 k t (i : Int)) ru ∧ Fits rs ri ru := by
  induction d with
  | zero =>
    intro i v v' hi hd h7 hv0 hv hvv
    obtain rfl : i = 7 := by omega
    have hlen := hT.len
    obtain ⟨ri, hri⟩ := reads_on l hl l.length 7 (5 * ((7 : Nat) : Int)) v' (by omega) (by omega) (by omega) (by omega)
    obtain ⟨ru, hru, hru2⟩ := unfin_ev hT hl t.size 7 hi (by omega)
    refine ⟨(0, ((7 : Nat) : Int), false), ri, ru, Ev.step (f := fun k => spec_VLQ.j1 k t ((7 : Nat) : Int) v (5 * ((7 : Nat) : Int)) true) (fun k => ?_) (Ev.step (fun k => ?_) (Ev.now _)), hri, hru, ?_, ?_⟩
    · simp only [spec_VLQ.l0]
      rw [if_neg (by omega)]
      by_cases c : ((7 : Nat) : Int) ≥ (t.size : Int)
      · rw [if_pos c]
      · rw [if_neg c, decide_eq_true (by omega)]
    · simp only [spec_VLQ.j1, if_true]
    · intro h; cases h
    · intro _ h; rw [hru2 (by omega)] at h; cases h
  | succ d ih =>
    intro i v v' hi hd h7 hv0 hv hvv
    have hlen := hT.len
    by_cases hi7 : i = 7
    · subst hi7
      obtain ⟨ri, hri⟩ := reads_on l hl l.length 7 (5 * ((7 : Nat) : Int)) v' (by omega) (by omega) (by omega) (by omega)
      obtain ⟨ru, hru, hru2⟩ := unfin_ev hT hl t.size 7 hi (by omega)
      refine ⟨(0, ((7 : Nat) : Int), false), ri, ru, Ev.step (f := fun k => spec_VLQ.j1 k t ((7 : Nat) : Int) v (5 * ((7 : Nat) : Int)) true) (fun k => ?_) (Ev.step (fun k => ?_) (Ev.now _)), hri, hru, ?_, ?_⟩
      · simp only [spec_VLQ.l0]
        rw [if_neg (by omega)]
        by_cases c : ((7 : Nat) : Int) ≥ (t.size : Int)
        · rw [if_pos c]
        · rw [if_neg c, decide_eq_true (by omega)]
      · simp only [spec_VLQ.j1, if_true]
      · intro h; cases h
      · intro _ h; rw [hru2 (by omega)] at h; cases h
    obtain rfl : v' = v := hvv (by omega)
    have e1 : wrap64 ((i : Int) + 1) = ((i + 1 : Nat) : Int) := by rw [w64 (by omega) (by omega)]; omega
    have e5 : wrap64 (5 * (i : Int) + 5) = 5 * ((i + 1 : Nat) : Int) := by rw [w64 (by omega) (by omega)]; omega
    by_cases he : i < t.size
    case neg =>
      obtain ⟨ru, hru, _⟩ := unfin_ev hT hl t.size i hi (by omega)
      have hri : Ev (fun k => sourcemap_DecodeVLQUTF16.l0 k l (l.length : Int) (i : Int) (5 * (i : Int)) v') (0, 0, false) := by
        by_cases hil : i < l.length
        · have hs := hT.stop (by omega)
          have ei : ((t.size : Nat) : Int) = (i : Int) := by omega
          rw [ei] at hs
          have hm : rd l (i : Int) % 256 = rd l (i : Int) := by omega
          have hdg := (dig_range (b := rd l (i : Int)) (by omega) hs.2).2.2 hs.1
          refine Ev.step (fun k => ?_) (Ev.now _)
          simp only [sourcemap_DecodeVLQUTF16.l0, index_dig, Option.bind_some, hm, hdg]
          rw [if_neg (by omega), if_pos (by omega), if_pos (by omega), if_pos (by unfold wrap32; omega)]
        · refine Ev.step (fun k => ?_) (Ev.now _)
          simp only [sourcemap_DecodeVLQUTF16.l0]
          rw [if_pos (by omega)]
      refine ⟨(0, (i : Int), false), _, ru, Ev.step (f := fun k => spec_VLQ.j1 k t (i : Int) v' (5 * (i : Int)) true) (fun k => ?_) (Ev.step (fun k => ?_) (Ev.now _)), hri, hru, (fun h => by cases h), fun _ _ => rfl⟩
      · simp only [spec_VLQ.l0]
        rw [if_neg (by omega), if_pos (by omega)]
      · simp only [spec_VLQ.j1, if_true]
    case pos =>
    have hb := bt_range t i
    have hsame := hT.same i he
    have hm : rd l (i : Int) % 256 = bt t i := by omega
    have hdg := dig_range hb.1 hb.2
    -- the reference's step
    have hsp : ∀ r, Ev (fun k => (spec_mapDigit.f k (bt t i)).bind fun t101 => (if t101 < 0 then (some ((0 : Int), wrap64 ((i : Int) + 1), false)) else (if 0 ≤ 5 * (i : Int) then (if t101 < 32 then (if (Go.bits .and .i64 (wrap64 (v' + (shl .i64 (Go.bits .and .i64 t101 31) (5 * (i : Int))))) 1) = 1 then (if (wrap64 (-((wrap64 (v' + (shl .i64 (Go.bits .and .i64 t101 31) (5 * (i : Int))))) / 2))) < 2147483648 then (if (wrap64 (-((wrap64 (v' + (shl .i64 (Go.bits .and .i64 t101 31) (5 * (i : Int))))) / 2))) > (-2147483648) then (some (wrap64 (-((wrap64 (v' + (shl .i64 (Go.bits .and .i64 t101 31) (5 * (i : Int))))) / 2)), wrap64 ((i : Int) + 1), !((wrap64 (v' + (shl .i64 (Go.bits .and .i64 t101 31) (5 * (i : Int))))) == 1))) else (some (wrap64 (-((wrap64 (v' + (shl .i64 (Go.bits .and .i64 t101 31) (5 * (i : Int))))) / 2)), wrap64 ((i : Int) + 1), false))) else (some (wrap64 (-((wrap64 (v' + (shl .i64 (Go.bits .and .i64 t101 31) (5 * (i : Int))))) / 2)), wrap64 ((i : Int) + 1), false))) else (if ((wrap64 (v' + (shl .i64 (Go.bits .and .i64 t101 31) (5 * (i : Int))))) / 2) < 2147483648 then (if ((wrap64 (v' + (shl .i64 (Go.bits .and .i64 t101 31) (5 * (i : Int))))) / 2) > (-2147483648) then (some ((wrap64 (v' + (shl .i64 (Go.bits .and .i64 t101 31) (5 * (i : Int))))) / 2, wrap64 ((i : Int) + 1), !((wrap64 (v' + (shl .i64 (Go.bits .and .i64 t101 31) (5 * (i : Int))))) == 1))) else (some ((wrap64 (v' + (shl .i64 (Go.bits .and .i64 t101 31) (5 * (i : Int))))) / 2, wrap64 ((i : Int) + 1), false))) else (some ((wrap64 (v' + (shl .i64 (Go.bits .and .i64 t101 31) (5 * (i : Int))))) / 2, wrap64 ((i : Int) + 1), false)))) else (spec_VLQ.l0 k t (wrap64 ((i : Int) + 1)) (wrap64 (v' + (shl .i64 (Go.bits .and .i64 t101 31) (5 * (i : Int))))) (wrap64 (5 * (i : Int) + 5)))) else (none)))) r →
        Ev (fun k => spec_VLQ.l0 k t (i : Int) v' (5 * (i : Int))) r := by
      intro r hr
      refine Ev.step (f := fun k => spec_VLQ.j1 k t (i : Int) v' (5 * (i : Int)) false) (fun k => ?_) (Ev.step (fun k => ?_) hr)
      · simp only [spec_VLQ.l0]
        rw [if_neg (by omega), if_neg (by omega), decide_eq_false (by omega)]
      · simp only [spec_VLQ.j1, Bool.false_eq_true, if_false]
        rw [if_pos (by omega), if_pos (by omega)]
    by_cases c1 : dig (bt t i) < 0
    · obtain ⟨ru, hru, _⟩ := unfin_ev hT hl t.size i hi (by omega)
      have hri : Ev (fun k => sourcemap_DecodeVLQUTF16.l0 k l (l.length : Int) (i : Int) (5 * (i : Int)) v') (0, 0, false) := by
        refine Ev.step (fun k => ?_) (Ev.now _)
        have ew : wrap32 (dig (bt t i)) = dig (bt t i) := w32 (by omega) (by omega)
        simp only [sourcemap_DecodeVLQUTF16.l0, index_dig, Option.bind_some, hm, ew]
        rw [if_neg (by omega), if_pos (by omega), if_pos (by omega), if_pos c1]
      exact ⟨_, _, ru, hsp _ (Ev.bind (dig_ev hb.1 hb.2) ⟨0, fun k _ => if_pos c1⟩), hri, hru, (fun h => by cases h), fun _ _ => rfl⟩
    obtain ⟨V, hV1, hV2, hV3, hV4⟩ := sums i (by omega) v' (dig (bt t i)) hv0 hv (by omega) (by omega)
    have ew : wrap32 (dig (bt t i)) = dig (bt t i) := w32 (by omega) (by omega)
    have hVmax : V < 34359738368 := by
      have : (2 : Int) ^ (5 * (i + 1)) ≤ 2 ^ 35 := by
        have h : (2 : Nat) ^ (5 * (i + 1)) ≤ 2 ^ 35 := Nat.pow_le_pow_right (by omega) (by omega)
        exact_mod_cast h
      omega
    have hand := low (d := dig (bt t i)) (by omega) (by omega)
    by_cases c2 : dig (bt t i) < 32
    · obtain ⟨ru, hru, hrf⟩ : ∃ ru, Ev (fun k => spec_Unfinished.l0 k t (i : Int)) ru ∧ ru = false := by
        by_cases h6 : i < 6
        · refine ⟨false, Ev.step (f := fun k => spec_Unfinished.j1 k t i true) (fun k => ?_) (Ev.step (f := fun k => (spec_mapDigit.f k (bt t i)).bind fun t102 => (if t102 < 0 then (some true) else (if t102 < 32 then (some false) else (spec_Unfinished.l0 k t ((i + 1 : Nat) : Int))))) (fun k => ?_) (Ev.bind (dig_ev hb.1 hb.2) ⟨0, fun k _ => (if_neg c1).trans (if_pos c2)⟩)), rfl⟩
          · simp only [spec_Unfinished.l0]; rw [if_pos (by omega), decide_eq_true (by omega)]
          · simp only [spec_Unfinished.j1, if_true, e1]; rw [if_pos (by omega), if_pos (by omega)]
        · obtain ⟨ru, hru, h⟩ := unfin_ev hT hl t.size i hi (by omega)
          exact ⟨ru, hru, h (by omega)⟩
      subst hrf
      obtain ⟨ri0, hri0⟩ := reads_on l hl l.length i (5 * (i : Int)) v' (by omega) (by omega) (by omega) (by omega)
      -- what the package says where the value is small
      have hri : ∃ ri, Ev (fun k => sourcemap_DecodeVLQUTF16.l0 k l (l.length : Int) (i : Int) (5 * (i : Int)) v') ri ∧ (V < 2147483648 → ri = (if V % 2 = 1 then -(V / 2) else V / 2, ((i + 1 : Nat) : Int), true)) := by
        by_cases hbig : V < 2147483648
        · refine ⟨_, Ev.step (fun k => ?_) (Ev.now _), fun _ => rfl⟩
          have hX := hV4 hbig
          simp only [sourcemap_DecodeVLQUTF16.l0, index_dig, Option.bind_some, hm, ew, hX, e1]
          rw [if_neg (by omega), if_pos (by omega), if_pos (by omega), if_neg c1, if_pos (by omega), if_pos (hand.2.2.2 c2), one32 (by omega) (by omega)]
          by_cases hp : V % 2 = 0
          · rw [if_pos hp, if_neg (by omega)]
          · rw [if_neg hp, if_pos (by omega), w32 (by omega) (by omega)]
        · exact ⟨ri0, hri0, fun h => absurd h hbig⟩
      obtain ⟨ri, hri, hri2⟩ := hri
      have hone : Go.bits .and .i64 V 1 = V % 2 := one64 (by omega) (by omega)
      by_cases hp : V % 2 = 1
      · have en : wrap64 (-(V / 2)) = -(V / 2) := w64 (by omega) (by omega)
        by_cases hn : -(V / 2) > -2147483648
        · refine ⟨(-(V / 2), ((i + 1 : Nat) : Int), !(V == 1)), ri, false, hsp _ (Ev.bind (dig_ev hb.1 hb.2) ⟨0, fun k _ => ?_⟩), hri, hru, ?_, fun _ h => by cases h⟩
          · simp only [hV1, hone, en, e1]
            rw [if_neg c1, if_pos (by omega), if_pos c2, if_pos hp, if_pos (by omega), if_pos hn]
          · intro _
            by_cases hbig : V < 2147483648
            · rw [hri2 hbig, if_pos hp]; exact .inr (.inr ⟨rfl, rfl, rfl⟩)
            · exact .inr (.inl (by simp only []; omega))
        · refine ⟨(-(V / 2), ((i + 1 : Nat) : Int), false), ri, false, hsp _ (Ev.bind (dig_ev hb.1 hb.2) ⟨0, fun k _ => ?_⟩), hri, hru, (fun h => by cases h), (fun _ h => by cases h)⟩
          simp only [hV1, hone, en, e1]
          rw [if_neg c1, if_pos (by omega), if_pos c2, if_pos hp, if_pos (by omega), if_neg hn]
      · by_cases hn : V / 2 < 2147483648
        · refine ⟨(V / 2, ((i + 1 : Nat) : Int), !(V == 1)), ri, false, hsp _ (Ev.bind (dig_ev hb.1 hb.2) ⟨0, fun k _ => ?_⟩), hri, hru, ?_, fun _ h => by cases h⟩
          · simp only [hV1, hone, e1]
            rw [if_neg c1, if_pos (by omega), if_pos c2, if_neg hp, if_pos hn, if_pos (by omega)]
          · intro _
            by_cases hbig : V < 2147483648
            · rw [hri2 hbig, if_neg hp]; exact .inr (.inr ⟨rfl, rfl, rfl⟩)
            · exact .inl (by simp only []; omega)
        · refine ⟨(V / 2, ((i + 1 : Nat) : Int), false), ri, false, hsp _ (Ev.bind (dig_ev hb.1 hb.2) ⟨0, fun k _ => ?_⟩), hri, hru, (fun h => by cases h), (fun _ h => by cases h)⟩
          simp only [hV1, hone, e1]
          rw [if_neg c1, if_pos (by omega), if_pos c2, if_neg hp, if_neg hn]
    · obtain ⟨rs, ri, ru, h1, h2, h3, h4⟩ := ih (i + 1) V (Go.bits .or .i32 v' (shl .i32 (Go.bits .and .i32 (dig (bt t i)) 31) (5 * (i : Int)))) (by omega) (by omega) (by omega) (by omega) hV3 (fun h => hV4 (by
        have : (2 : Int) ^ (5 * (i + 1)) ≤ 2 ^ 30 := by
          have h : (2 : Nat) ^ (5 * (i + 1)) ≤ 2 ^ 30 := Nat.pow_le_pow_right (by omega) (by omega)
          exact_mod_cast h
        omega))
      by_cases h6 : i < 6
      · refine ⟨rs, ri, ru, hsp _ (Ev.bind (dig_ev hb.1 hb.2) (Ev.congr (fun k => ?_) h1)), Ev.step (fun k => ?_) h2, Ev.step (f := fun k => spec_Unfinished.j1 k t i true) (fun k => ?_) (Ev.step (f := fun k => (spec_mapDigit.f k (bt t i)).bind fun t102 => (if t102 < 0 then (some true) else (if t102 < 32 then (some false) else (spec_Unfinished.l0 k t ((i + 1 : Nat) : Int))))) (fun k => ?_) (Ev.bind (dig_ev hb.1 hb.2) (Ev.congr (fun k => (if_neg c1).trans (if_neg c2)) h3))), h4⟩
        · simp only [hV1, e1, e5]
          rw [if_neg c1, if_pos (by omega), if_neg c2]
        · simp only [sourcemap_DecodeVLQUTF16.l0, index_dig, Option.bind_some, hm, ew, e1, e5]
          rw [if_neg (by omega), if_pos (by omega), if_pos (by omega), if_neg c1, if_pos (by omega), if_neg (fun h => c2 (hand.2.2.1 h))]
        · simp only [spec_Unfinished.l0]; rw [if_pos (by omega), decide_eq_true (by omega)]
        · simp only [spec_Unfinished.j1, if_true, e1]; rw [if_pos (by omega), if_pos (by omega)]
      · obtain ⟨ru', hru', hf'⟩ := unfin_ev hT hl t.size i hi (by omega)
        refine ⟨rs, ri, ru', hsp _ (Ev.bind (dig_ev hb.1 hb.2) (Ev.congr (fun k => ?_) h1)), Ev.step (fun k => ?_) h2, hru', h4.1, fun _ h => by rw [hf' (by omega)] at h; cases h⟩
        · simp only [hV1, e1, e5]
          rw [if_neg c1, if_pos (by omega), if_neg c2]
        · simp only [sourcemap_DecodeVLQUTF16.l0, index_dig, Option.bind_some, hm, ew, e1, e5]
          rw [if_neg (by omega), if_pos (by omega), if_pos (by omega), if_neg c1, if_pos (by omega), if_neg (fun h => c2 (hand.2.2.1 h))]
end

/-! ### the text ahead of the first unit of 128 or more -/
theorem byte_back : ∀ m : Fin 256, (((strOfNums [(m.val : Int)])[0]'(by show 0 < 1; omega)).toNat : Int) = (m.val : Int) := by decide +kernel
theorem push_bt (t : ByteArray) (c : Int) (hc : 0 ≤ c ∧ c ≤ 255) : (t ++ strOfNums [c]).size = t.size + 1 ∧ (∀ j : Nat, j < t.size → bt (t ++ strOfNums [c]) (j : Int) = bt t (j : Int)) ∧ bt (t ++ strOfNums [c]) (t.size : Int) = c := by
  have h1 : (strOfNums [c]).size = 1 := rfl
  have hs : (t ++ strOfNums [c]).size = t.size + 1 := by rw [ByteArray.size_append, h1]
  refine ⟨hs, fun j hj => ?_, ?_⟩
  · unfold bt
    rw [dif_pos (show ((j : Int)).toNat < (t ++ strOfNums [c]).size by omega), dif_pos (show ((j : Int)).toNat < t.size by omega)]
    rw [ByteArray.getElem_append_left (by omega)]
  · unfold bt
    rw [dif_pos (show ((t.size : Int)).toNat < (t ++ strOfNums [c]).size by omega)]
    rw [ByteArray.getElem_append_right (by omega)]
    have e : ((t.size : Int)).toNat - t.size = 0 := by omega
    simp only [e]
    obtain ⟨m, rfl⟩ := fin_of hc.1 hc.2
    exact byte_back m
theorem told_true (l : List Int) (hl : l.length ≤ 65536) (t : ByteArray) (hT : TextOf l t) (i : Int) : Ev (fun k => laws_FnVLQUnits.j1 k l t i false) true := by
  obtain ⟨rs, ri, ru, h1, h2, h3, h4⟩ := lockstep hT hl 7 0 0 0 (by omega) (by omega) (by omega) (by omega) (by omega) (fun _ => rfl)
  have hspec : Ev (fun k => spec_VLQ.f k t 0) rs := h1
  have himpl : Ev (fun k => impl_DecodeVLQ16.f k l) (if l.length = 0 then (0, 0, false) else ri) := by
    unfold impl_DecodeVLQ16.f sourcemap_DecodeVLQUTF16.f
    by_cases h0 : l.length = 0
    · exact ⟨0, fun k _ => by simp only [h0]; rfl⟩
    · obtain ⟨K, hK⟩ := h2
      refine ⟨K, fun k hk => ?_⟩
      have := hK k hk
      simp only [if_neg h0]
      rw [if_pos (by omega), if_neg (by omega)]
      exact this
  have hzero : l.length = 0 → rs.2.2 = false := by
    intro h0
    have hlen := hT.len
    obtain ⟨K, hK⟩ := hspec
    have h := hK (K + 2) (by omega)
    have e : spec_VLQ.f (K + 2) t 0 = some (0, 0, false) := by
      simp only [spec_VLQ.f, spec_VLQ.l0, spec_VLQ.j1]
      rw [if_neg (by omega), if_pos (by omega)]
      simp
    have h' := e.symm.trans h
    rw [← Option.some.inj h']
  have h67 : Ev (fun k => impl_DecodeVLQ16.f k ([67] : List Int)) (1, 1, true) := by
    unfold impl_DecodeVLQ16.f
    refine ⟨1, fun k hk => ?_⟩
    obtain ⟨m, rfl⟩ : ∃ m, k = m + 1 := ⟨k - 1, by omega⟩
    show (if [67].length ≤ 2147483647 then _ else _) = _
    rw [if_pos (by decide)]
    exact at_rounds (fun k => sourcemap_DecodeVLQUTF16.mono _ k) (k := 1) (by omega) (by decide +kernel)
  have hfit : Fits rs (if l.length = 0 then (0, 0, false) else ri) ru := by
    by_cases h0 : l.length = 0
    · rw [if_pos h0]
      exact ⟨(fun h => by rw [hzero h0] at h; cases h), fun _ _ => rfl⟩
    · rw [if_neg h0]; exact h4
  generalize (if l.length = 0 then ((0 : Int), (0 : Int), false) else ri) = rj at himpl hfit
  obtain ⟨f1, f2⟩ := hfit
  have hrng : rs.2.2 = true → -2147483648 < rs.1 ∧ rs.1 < 2147483648 ∨ rs.1 ≥ 1073741824 ∨ rs.1 ≤ -1073741824 := fun _ => by omega
  refine Ev.step (f := fun k => (impl_DecodeVLQ16.f k l).bind fun bt109 => ((spec_VLQ.f k t 0).bind fun bt112 => (if bt112.2.2 = true then (if bt112.1 ≥ 1073741824 then (laws_FnVLQUnits.j2 k t bt109.1 bt109.2.1 bt109.2.2 bt112.1 bt112.2.1 bt112.2.2 true) else (laws_FnVLQUnits.j2 k t bt109.1 bt109.2.1 bt109.2.2 bt112.1 bt112.2.1 bt112.2.2 (decide (bt112.1 ≤ (-1073741824))))) else (laws_FnVLQUnits.j2 k t bt109.1 bt109.2.1 bt109.2.2 bt112.1 bt112.2.1 bt112.2.2 false))))
    (fun k => by simp only [laws_FnVLQUnits.j1, Bool.false_eq_true, if_false]) (Ev.bind himpl (Ev.bind hspec ?_))
  by_cases c1 : rs.2.2 = true
  · by_cases c2 : rs.1 ≥ 1073741824
    · refine Ev.congr (f := fun k => laws_FnVLQUnits.j2 k t rj.1 rj.2.1 rj.2.2 rs.1 rs.2.1 rs.2.2 true) (fun k => (if_pos c1).trans (if_pos c2)) (Ev.step (fun k => ?_) (Ev.now _))
      simp only [laws_FnVLQUnits.j2, if_true]
    · by_cases c3 : rs.1 ≤ -1073741824
      · refine Ev.congr (f := fun k => laws_FnVLQUnits.j2 k t rj.1 rj.2.1 rj.2.2 rs.1 rs.2.1 rs.2.2 true) (fun k => ?_) (Ev.step (fun k => ?_) (Ev.now _))
        · show (if rs.2.2 = true then _ else _) = _
          rw [if_pos c1, if_neg c2, decide_eq_true c3]
        · simp only [laws_FnVLQUnits.j2, if_true]
      · refine Ev.congr (f := fun k => laws_FnVLQUnits.j2 k t rj.1 rj.2.1 rj.2.2 rs.1 rs.2.1 rs.2.2 false) (fun k => ?_) (Ev.step (fun k => ?_) (Ev.now _))
        · show (if rs.2.2 = true then _ else _) = _
          rw [if_pos c1, if_neg c2, decide_eq_false c3]
        · rcases f1 c1 with h | h | ⟨h, h', h''⟩
          · exact absurd h c2
          · exact absurd h c3
          · simp only [laws_FnVLQUnits.j2, Bool.false_eq_true, if_false]
            rw [if_pos c1, if_pos h, h', h'', w64 (by omega) (by omega), if_pos rfl]
            simp
  · refine Ev.congr (f := fun k => laws_FnVLQUnits.j2 k t rj.1 rj.2.1 rj.2.2 rs.1 rs.2.1 rs.2.2 false) (fun k => if_neg c1) ?_
    have hunf : Ev (fun k => spec_Unfinished.f k t) ru := h3
    refine Ev.step (f := fun k => (spec_Unfinished.f k t).bind fun t115 => (if t115 = true then ((impl_DecodeVLQ16.f k (([67] : List Int))).bind fun bt119 => (if rj.2.2 = true then (some false) else (some bt119.2.2))) else (some true))) (fun k => ?_) (Ev.bind hunf ?_)
    · simp only [laws_FnVLQUnits.j2, Bool.false_eq_true, if_false]
      rw [if_neg c1]
    · cases ru with
      | false => exact ⟨0, fun k _ => rfl⟩
      | true =>
        have hno := f2 (by simpa using c1) rfl
        refine Ev.congr (f := fun k => (impl_DecodeVLQ16.f k (([67] : List Int))).bind fun bt119 => (if rj.2.2 = true then (some false) else (some bt119.2.2))) (fun k => rfl) (Ev.bind h67 ⟨0, fun k _ => ?_⟩)
        rw [hno]; rfl
theorem text_built (l : List Int) (hl : l.length ≤ 65536) (hr : ∀ x ∈ l, 0 ≤ x ∧ x ≤ 65535) (d : Nat) :
    ∀ (i : Nat) (t : ByteArray), i ≤ l.length → l.length - i ≤ d → t.size = i → (∀ j : Nat, j < i → bt t (j : Int) = rd l (j : Int)) → Ev (fun k => laws_FnVLQUnits.l0 k l t false (i : Int)) true := by
  induction d with
  | zero =>
    intro i t hi hd hsz hsame
    refine Ev.step (f := fun k => laws_FnVLQUnits.j1 k l t (i : Int) false) (fun k => ?_) (told_true l hl t ⟨by omega, fun j hj => hsame j (by omega), fun h => by omega⟩ _)
    simp only [laws_FnVLQUnits.l0]; rw [if_neg (by omega)]
  | succ d ih =>
    intro i t hi hd hsz hsame
    by_cases he : i < l.length
    case neg =>
      refine Ev.step (f := fun k => laws_FnVLQUnits.j1 k l t (i : Int) false) (fun k => ?_) (told_true l hl t ⟨by omega, fun j hj => hsame j (by omega), fun h => by omega⟩ _)
      simp only [laws_FnVLQUnits.l0]; rw [if_neg (by omega)]
    case pos =>
    have hx : rd l (i : Int) = l[i] := by unfold rd; simp [List.getD_eq_getElem?_getD, List.getElem?_eq_getElem he]
    have hrx := hr l[i] (List.getElem_mem he)
    rw [← hx] at hrx
    have e1 : wrap64 ((i : Int) + 1) = ((i + 1 : Nat) : Int) := by unfold wrap64; omega
    refine Ev.step (f := fun k => laws_FnVLQUnits.j1 k l t (i : Int) true) (fun k => by simp only [laws_FnVLQUnits.l0]; rw [if_pos (by omega)]; rfl) ?_
    by_cases c1 : rd l (i : Int) > 255
    · refine Ev.step (fun k => ?_) (Ev.now _)
      simp only [laws_FnVLQUnits.j1, if_true]
      rw [if_pos (by omega), if_pos (by omega), if_pos c1]
    by_cases c2 : rd l (i : Int) ≥ 128
    · refine Ev.step (f := fun k => laws_FnVLQUnits.l0 k l t true ((i + 1 : Nat) : Int)) (fun k => ?_) (Ev.step (f := fun k => laws_FnVLQUnits.j1 k l t ((i + 1 : Nat) : Int) false) (fun k => ?_) (told_true l hl t ⟨by omega, fun j hj => hsame j (by omega), fun h => ?_⟩ _))
      · simp only [laws_FnVLQUnits.j1, if_true, e1]
        rw [if_pos (by omega), if_pos (by omega), if_neg c1, if_pos c2, decide_eq_true c2]
      · simp only [laws_FnVLQUnits.l0, Bool.not_true]
        by_cases c : ((i + 1 : Nat) : Int) < (l.length : Int)
        · rw [if_pos c]
        · rw [if_neg c]
      · have ei : ((t.size : Nat) : Int) = (i : Int) := by omega
        rw [ei]; omega
    · have hm : rd l (i : Int) % 256 = rd l (i : Int) := by omega
      obtain ⟨p1, p2, p3⟩ := push_bt t (rd l (i : Int)) (by omega)
      refine Ev.step (f := fun k => laws_FnVLQUnits.l0 k l (t ++ strOfNums [rd l (i : Int)]) false ((i + 1 : Nat) : Int)) (fun k => ?_) (ih (i + 1) _ (by omega) (by omega) (by omega) (fun j hj => ?_))
      · have h1 : (strOfNums [rd l (i : Int)]).size = 1 := rfl
        simp only [laws_FnVLQUnits.j1, if_true, e1, hm, Option.bind_some, h1]
        rw [if_pos (by omega), if_pos (by omega), if_neg c1, if_neg c2, decide_eq_false c2, if_pos (by omega)]
      · by_cases ej : j < t.size
        · rw [p2 j ej]; exact hsame j (by omega)
        · have e : (j : Int) = (t.size : Int) := by omega
          rw [e, p3]
          have e2 : ((t.size : Nat) : Int) = (i : Int) := by omega
          rw [e2]
theorem FnVLQUnits : laws_FnVLQUnits.Pure := by
  intro l _ _ hw
  have hr : ∀ x ∈ l, 0 ≤ x ∧ x ≤ 65535 := fun x hx => by simpa [Lit.wf, IntKind.min, IntKind.max, IntKind.bits, IntKind.signed] using hw x hx
  by_cases h1 : (l.length : Int) > 2147483647
  · exact ⟨0, by unfold laws_FnVLQUnits.f; rw [if_pos h1]⟩
  by_cases h2 : (l.length : Int) > 65536
  · exact ⟨0, by unfold laws_FnVLQUnits.f; rw [if_neg h1, if_pos h2]⟩
  obtain ⟨k, hk⟩ := (text_built l (by omega) hr l.length 0 (⟨#[]⟩ : ByteArray) (by omega) (by omega) rfl (fun j hj => by omega)).rounds
  exact ⟨k, by unfold laws_FnVLQUnits.f; rw [if_neg h1, if_neg h2]; exact hk⟩

end Go.Proofs.YtkdinhbfidckdaaR.Pure
