/- What the reference's readers of numbers tell of texts of digits. -/
import Derived.Test.YtheichpmhfledaaDoorPFnNumberBackx7
import Derived.Test.YtheichpmhfledaaDoorExtLimb2
import Derived.Lib.ItoaNum
import Derived.KernelRfl
set_option linter.unusedVariables false
set_option linter.unusedSimpArgs false
namespace Go.Proofs.YtheichpmhfledaaDoor
open Go Go.RowKit Go.Proofs.YtheichpmhfledaaDoorW.PrintWords Go.Proofs.YtheichpmhfledaaDoor.PFnNumberBack
/-- A text, by its bytes. -/
def tx (l : List UInt8) : ByteArray := ⟨l.toArray⟩
theorem tx_size (l : List UInt8) : (tx l).size = l.length := by unfold tx; simp [ByteArray.size]
theorem tx_bt (l : List UInt8) (i : Nat) (h : i < l.length) : bt (tx l) (i : Int) = ((l[i]).toNat : Int) := by
  unfold bt
  rw [dif_pos (by rw [tx_size]; exact h)]
  rfl
theorem tx_ext (l : List UInt8) (a b : Nat) : (tx l).extract a b = tx ((l.drop a).take (b - a)) := by
  apply ByteArray.ext
  simp [tx, ByteArray.data_extract]
theorem tx_add (a b : List UInt8) : tx a ++ tx b = tx (a ++ b) := by
  apply ByteArray.ext
  simp [tx, ByteArray.data_append]
theorem tx_list (l : List UInt8) : (tx l).toList = l := by
  simp [tx]
/-- Bytes of ASCII. -/
def Asc (l : List UInt8) : Prop := ∀ b ∈ l, b.toNat < 128
theorem rune_asc (b : UInt8) (l : List UInt8) (h : b.toNat < 128) (k : Nat) : spec_Rune.f (k + 1) (tx (b :: l)) 0 = some ((b.toNat : Int), 1) := by
  have hb := tx_bt (b :: l) 0 (by simp)
  have hs := tx_size (b :: l)
  simp only [Int.natCast_zero, List.getElem_cons_zero, List.length_cons] at hb hs
  unfold spec_Rune.f
  rw [if_neg (by omega), decide_eq_false (by rw [hs]; omega), spec_Rune.j0, if_neg (by decide), if_pos (by omega), if_pos (by rw [hs]; omega), hb, w64 _ (by omega) (by omega), if_pos (by omega)]
def nums' (l : List UInt8) : List Int := l.map fun b => (b.toNat : Int)
theorem wrapu16 (n : Int) (h0 : 0 ≤ n) (h1 : n < 65536) : IntKind.u16.wrap n = n := by
  have : IntKind.u16.wrap n = n % 65536 := by simp [IntKind.wrap, IntKind.bits, IntKind.signed]
  rw [this]; omega
theorem units_at : ∀ (l : List UInt8) (acc : List Int) (last : Int), Asc l → l.length ≤ 1000 → acc.length + l.length ≤ 2000 → Ev (fun k => spec_WtfUnits.l0 k (tx l) acc last) (acc ++ nums' l, true)
  | [], acc, last, _, _, _ => by
    refine Ev.step (f := fun _ => some (acc, true)) (fun k => ?_) (by rw [show acc ++ nums' [] = acc from List.append_nil acc]; exact Ev.now _)
    rw [spec_WtfUnits.l0, if_neg (by rw [tx_size]; decide)]
  | b :: l, acc, last, ha, hl, hc => by
    have hb : b.toNat < 128 := ha b List.mem_cons_self
    simp only [List.length_cons] at hl hc
    have ih := units_at l (acc ++ [(b.toNat : Int)]) (b.toNat : Int) (fun x hx => ha x (List.mem_cons_of_mem _ hx)) (by omega) (by rw [List.length_append, List.length_singleton]; omega)
    rw [List.append_assoc] at ih
    have hr : Ev (fun k => spec_WtfRune.f k (tx (b :: l))) ((b.toNat : Int), 1) := by
      refine Ev.step (f := fun _ => some ((b.toNat : Int), 1)) (fun k => ?_) (Ev.now _)
      unfold spec_WtfRune.f
      rw [rune_asc b l hb, Option.bind_some, if_pos (show (1 : Int) > 0 from by decide)]
    refine Ev.step (fun k => by rw [spec_WtfUnits.l0, if_pos (by rw [tx_size, List.length_cons]; omega)]) (Ev.bind hr ?_)
    refine Ev.congr (f := fun k => spec_WtfUnits.j1 k (tx (b :: l)) acc (b.toNat : Int) 1 false) (fun k => by rw [if_neg (show ¬ (1 : Int) = 0 from by decide), if_neg (show ¬ (1 : Int) = 3 from by decide)]) ?_
    refine Ev.step (fun k => ?_) ih
    rw [spec_WtfUnits.j1, if_neg (by decide), if_neg (by omega), if_pos (by omega), if_pos (by decide), if_pos (by rw [tx_size, List.length_cons]; omega), wrapu16 _ (by omega) (by omega), tx_ext]
    congr 2
    show List.take ((tx (b :: l)).size - 1) l = l
    rw [tx_size, List.length_cons, List.take_of_length_le (by simp)]
theorem units_tell (l : List UInt8) (ha : Asc l) (hl : l.length ≤ 1000) : Ev (fun k => spec_WtfUnits.f k (tx l)) (nums' l, true) := by
  have := units_at l [] 0 ha hl (by simpa using by omega)
  rw [List.nil_append] at this
  exact this
/-- The two bytes of each unit. -/
def wide (l : List UInt8) : List UInt8 := l.flatMap fun b => [0, b]
theorem unit_all : (List.range 128).all (fun n => decide (spec_Unit.f 9 (n : Int) = some (tx [0, UInt8.ofNat n]))) = true := by kernel_rfl
theorem unit_tell (b : UInt8) (h : b.toNat < 128) : Ev (fun k => spec_Unit.f k (b.toNat : Int)) (tx [0, b]) := by
  have h2 : spec_Unit.f 9 (b.toNat : Int) = some (tx [0, UInt8.ofNat b.toNat]) := of_decide_eq_true (List.all_eq_true.1 unit_all b.toNat (List.mem_range.2 h))
  rw [UInt8.ofNat_toNat] at h2
  exact Ev.of (fun k => spec_Unit.mono _ k) h2
theorem narrow_at (l : List UInt8) (ha : Asc l) (hl : l.length ≤ 1000) : ∀ (d i : Nat) (acc : List UInt8), i + d = l.length → acc.length ≤ 2000 + 2 * i → Ev (fun k => spec_WtfNarrow.l0 k (nums' l) (tx acc) (i : Int)) (tx (acc ++ wide (l.drop i)))
  | 0, i, acc, hi, hc => by
    refine Ev.step (f := fun _ => some (tx acc)) (fun k => ?_) ?_
    · rw [spec_WtfNarrow.l0, if_neg (by unfold nums'; rw [List.length_map]; omega)]
    · rw [List.drop_of_length_le (by omega)]
      show Ev _ (tx (acc ++ []))
      rw [List.append_nil]
      exact Ev.now _
  | d + 1, i, acc, hi, hc => by
    have hi2 : i < l.length := by omega
    have ih := narrow_at l ha hl d (i + 1) (acc ++ [0, l[i]]) (by omega) (by rw [List.length_append]; simp; omega)
    have hr : rd (nums' l) (i : Int) = ((l[i]).toNat : Int) := by
      unfold rd nums'
      rw [Int.toNat_natCast, List.getD_eq_getElem?_getD, List.getElem?_map, List.getElem?_eq_getElem hi2]
      rfl
    have hb : (l[i]).toNat < 128 := ha _ (List.getElem_mem hi2)
    have hd : wide (l.drop i) = [0, l[i]] ++ wide (l.drop (i + 1)) := by
      rw [List.drop_eq_getElem_cons hi2]
      rfl
    rw [List.append_assoc, ← hd] at ih
    refine Ev.step (fun k => by rw [spec_WtfNarrow.l0, if_pos (by unfold nums'; rw [List.length_map]; omega), if_pos (by omega), hr, w64 _ (by omega) (by omega)]) (Ev.bind (unit_tell _ hb) ?_)
    refine Ev.congr (fun k => ?_) ih
    rw [if_pos (by rw [tx_size, tx_size]; simp; omega), tx_add, w64 _ (by omega) (by omega)]
    rfl
theorem narrow_tell (l : List UInt8) (ha : Asc l) (hl : l.length ≤ 1000) : Ev (fun k => spec_WtfNarrow.f k (nums' l)) (tx (wide l)) := by
  have h := narrow_at l ha hl l.length 0 [] (by omega) (by simp)
  exact h
/-- Bytes of ASCII that are no blanks. -/
def Vis (l : List UInt8) : Prop := ∀ b ∈ l, 32 < b.toNat ∧ b.toNat < 128
theorem Vis.asc {l : List UInt8} (h : Vis l) : Asc l := fun b hb => (h b hb).2
theorem wide_cons (b : UInt8) (l : List UInt8) : wide (b :: l) = 0 :: b :: wide l := rfl
theorem wide_length : ∀ l : List UInt8, (wide l).length = 2 * l.length
  | [] => rfl
  | b :: l => by rw [wide_cons]; simp only [List.length_cons]; rw [wide_length l]; omega
theorem wide_get : ∀ (l : List UInt8) (i : Nat) (h : i < l.length), (wide l)[2 * i]? = some 0 ∧ (wide l)[2 * i + 1]? = some l[i]
  | b :: l, 0, h => by rw [wide_cons]; exact ⟨rfl, rfl⟩
  | b :: l, i + 1, h => by
    have ih := wide_get l i (by simpa using h)
    rw [wide_cons]
    exact ih
theorem tx_at (l : List UInt8) (i : Nat) (x : UInt8) (h : l[i]? = some x) : bt (tx l) (i : Int) = (x.toNat : Int) := by
  obtain ⟨h1, rfl⟩ := List.getElem?_eq_some_iff.1 h
  exact tx_bt l i h1
theorem or_all : (List.range 128).all (fun n => decide (Go.bits .or .i64 0 (n : Int) = (n : Int))) = true := by kernel_rfl
theorem unit_at (l : List UInt8) (ha : Asc l) (hl : l.length ≤ 1000) (i : Nat) (h : i < l.length) : spec_UnitAt.f (tx (wide l)) (i : Int) = some ((l[i]).toNat : Int) := by
  obtain ⟨h0, h1⟩ := wide_get l i h
  have hb : (l[i]).toNat < 128 := ha _ (List.getElem_mem h)
  have e0 := tx_at _ _ _ h0
  have e1 := tx_at _ _ _ h1
  have hs : ((tx (wide l)).size : Int) = 2 * (l.length : Int) := by rw [tx_size, wide_length]; omega
  have c0 : wrap64 (2 * (i : Int)) = ((2 * i : Nat) : Int) := by rw [w64 _ (by omega) (by omega)]; omega
  have c1 : wrap64 (((2 * i : Nat) : Int) + 1) = ((2 * i + 1 : Nat) : Int) := by rw [w64 _ (by omega) (by omega)]; omega
  have ho : Go.bits .or .i64 0 ((l[i]).toNat : Int) = ((l[i]).toNat : Int) := of_decide_eq_true (List.all_eq_true.1 or_all _ (List.mem_range.2 hb))
  unfold spec_UnitAt.f
  rw [c0, c1, e0, e1, if_pos (by omega), if_pos (by omega), if_pos (by omega), if_pos (by omega), w64 (((l[i]).toNat : Nat) : Int) (by omega) (by omega)]
  rw [show wrap64 (wrap64 ((UInt8.toNat 0 : Nat) : Int) * 256) = 0 from by kernel_rfl, ho]
theorem blank_all : (List.range 128).all (fun n => decide (n ≤ 32) || decide (spec_isBlankUnit.f (n : Int) = some false)) = true := by kernel_rfl
theorem blank_not (b : UInt8) (h : 32 < b.toNat ∧ b.toNat < 128) : spec_isBlankUnit.f (b.toNat : Int) = some false := by
  have h2 := List.all_eq_true.1 blank_all b.toNat (List.mem_range.2 h.2)
  rw [decide_eq_false (by omega), Bool.false_or] at h2
  exact of_decide_eq_true h2
theorem one_all : (List.range 128).all (fun n => decide (spec_bytesOf.f 9 [(n : Int)] = some (tx [UInt8.ofNat n]))) = true := by kernel_rfl
theorem one_tell (b : UInt8) (h : b.toNat < 128) : Ev (fun k => spec_bytesOf.f k [(b.toNat : Int)]) (tx [b]) := by
  have h2 : spec_bytesOf.f 9 [(b.toNat : Int)] = some (tx [UInt8.ofNat b.toNat]) := of_decide_eq_true (List.all_eq_true.1 one_all b.toNat (List.mem_range.2 h))
  rw [UInt8.ofNat_toNat] at h2
  exact Ev.of (fun k => spec_bytesOf.mono _ k) h2
theorem trim_copy (l : List UInt8) (ha : Asc l) (hl : l.length ≤ 1000) : ∀ (d i : Nat) (acc : List UInt8), i + d = l.length → acc.length ≤ 2000 + i → Ev (fun k => spec_trimmed.l2 k (tx (wide l)) (l.length : Int) (tx acc) (i : Int)) (tx (acc ++ l.drop i), true)
  | 0, i, acc, hi, hc => by
    refine Ev.step (f := fun _ => some (tx acc, true)) (fun k => ?_) ?_
    · rw [spec_trimmed.l2, if_neg (by omega)]
    · rw [List.drop_of_length_le (by omega), List.append_nil]
      exact Ev.now _
  | d + 1, i, acc, hi, hc => by
    have hi2 : i < l.length := by omega
    have hb : (l[i]).toNat < 128 := ha _ (List.getElem_mem hi2)
    have ih := trim_copy l ha hl d (i + 1) (acc ++ [l[i]]) (by omega) (by rw [List.length_append]; simp; omega)
    rw [List.append_assoc, show [l[i]] ++ l.drop (i + 1) = l.drop i from (List.drop_eq_getElem_cons hi2).symm] at ih
    refine Ev.step (fun k => by rw [spec_trimmed.l2, if_pos (by omega), unit_at l ha hl i hi2, Option.bind_some, if_neg (by omega)]) (Ev.bind (one_tell _ hb) ?_)
    refine Ev.congr (fun k => ?_) ih
    rw [if_pos (by rw [tx_size, tx_size]; simp; omega), tx_add, w64 _ (by omega) (by omega)]
    rfl
theorem trim_tell (l : List UInt8) (hv : Vis l) (hl : l.length ≤ 1000) (h0 : 0 < l.length) : Ev (fun k => spec_trimmed.f k (tx (wide l))) (l |> tx, true) := by
  have hc := trim_copy l hv.asc hl l.length 0 [] (by omega) (by simp)
  have e : wrap64 (((tx (wide l)).size : Int) / 2) = (l.length : Int) := by rw [tx_size, wide_length, w64 _ (by omega) (by omega)]; omega
  have u0 := unit_at l hv.asc hl 0 h0
  have u1 := unit_at l hv.asc hl (l.length - 1) (by omega)
  have b0 := blank_not l[0] (hv _ (List.getElem_mem _))
  have b1 := blank_not l[l.length - 1] (hv _ (List.getElem_mem _))
  have e1 : wrap64 ((l.length : Int) - 1) = ((l.length - 1 : Nat) : Int) := by rw [w64 _ (by omega) (by omega)]; omega
  refine Ev.congr (fun k => by unfold spec_trimmed.f; rw [e]) ?_
  refine Ev.step (f := fun k => spec_trimmed.j1 k (tx (wide l)) 0 (l.length : Int)) (fun k => ?_) ?_
  · rw [spec_trimmed.l0, if_pos (by omega)]
    have u0' : spec_UnitAt.f (tx (wide l)) 0 = some ((l[0]).toNat : Int) := u0
    rw [u0', Option.bind_some, b0, Option.bind_some, if_neg (by decide)]
  refine Ev.step (f := fun k => spec_trimmed.l1 k (tx (wide l)) 0 (l.length : Int)) (fun k => by rw [spec_trimmed.j1]) ?_
  refine Ev.step (f := fun k => spec_trimmed.j3 k (tx (wide l)) 0 (l.length : Int)) (fun k => ?_) ?_
  · rw [spec_trimmed.l1, if_pos (by omega), e1, u1, Option.bind_some, b1, Option.bind_some, if_neg (by decide)]
  refine Ev.step (f := fun k => spec_trimmed.l2 k (tx (wide l)) (l.length : Int) ⟨#[]⟩ 0) (fun k => by rw [spec_trimmed.j3]) ?_
  exact hc
/-- A byte that is a digit. -/
def Dig (b : UInt8) : Prop := 48 ≤ b.toNat ∧ b.toNat ≤ 57
theorem hex_all : (List.range 10).all (fun n => decide (spec_Hex.f ((n + 48 : Nat) : Int) = some (n : Int))) = true := by kernel_rfl
theorem hex_dig (b : UInt8) (h : Dig b) : spec_Hex.f (b.toNat : Int) = some ((b.toNat - 48 : Nat) : Int) := by
  have h2 := of_decide_eq_true (List.all_eq_true.1 hex_all (b.toNat - 48) (List.mem_range.2 (by have := h.2; omega)))
  rw [Nat.sub_add_cancel h.1] at h2
  exact h2
theorem digit_all : (List.range 10).all (fun n => decide (spec_Digit.f ((n + 48 : Nat) : Int) = some true)) = true := by kernel_rfl
theorem digit_dig (b : UInt8) (h : Dig b) : spec_Digit.f (wrap64 (b.toNat : Int)) = some true := by
  have h2 := of_decide_eq_true (List.all_eq_true.1 digit_all (b.toNat - 48) (List.mem_range.2 (by have := h.2; omega)))
  rw [Nat.sub_add_cancel h.1] at h2
  rw [w64 _ (by omega) (by have := h.2; omega)]
  exact h2
/-- What digits are worth behind v. -/
def val (v : Nat) (l : List UInt8) : Nat := l.foldl (fun a b => a * 10 + (b.toNat - 48)) v
theorem val_le : ∀ (l : List UInt8) (v : Nat), v ≤ val v l
  | [], v => Nat.le_refl _
  | b :: l, v => by
    have := val_le l (v * 10 + (b.toNat - 48))
    show v ≤ val (v * 10 + (b.toNat - 48)) l
    omega
theorem times_tell (v d : Nat) (hd : d < 10) (h : v * 10 + d < 4294967296) : Ev (fun k => spec_natTimes.f k (lim v) 10 (d : Int)) (lim (v * 10 + d)) := by
  have w2 : wrap64 (2 : Int) = 2 := by unfold wrap64; omega
  have w1 : wrap64 (1 : Int) = 1 := by unfold wrap64; omega
  have w0 : wrap64 (0 : Int) = 0 := by unfold wrap64; omega
  refine Ev.of (k := 9) (fun k => spec_natTimes.mono _ _ _ k) ?_
  by_cases h0 : v = 0
  · subst h0
    by_cases hd0 : d = 0
    · subst hd0
      simp [lim, spec_natTimes.f, spec_natTimes.l0, spec_natTrim.f, spec_natTrim.l0, rd, w1, w2, w0]
    · have g1 : d < 4294967296 := by omega
      simp [lim, spec_natTimes.f, spec_natTimes.l0, spec_natTrim.f, spec_natTrim.l0, rd, w1, w2, w0, hd0, g1]
  · have e1 : IntKind.u64.wrap ((v : Int) * 10) = ((v * 10 : Nat) : Int) := by rw [u64w _ (by omega) (by omega)]; omega
    have e2 : IntKind.u64.wrap ((d : Int) + ((v * 10 : Nat) : Int)) = ((v * 10 + d : Nat) : Int) := by rw [u64w _ (by omega) (by omega)]; omega
    obtain ⟨x, hx⟩ : ∃ x, x = v * 10 + d := ⟨_, rfl⟩
    have e3 : Go.bits .and .u64 (x : Int) 4294967295 = (x : Int) := by rw [u64_mask x (by omega), Nat.mod_eq_of_lt (by omega)]
    have e4 : (x : Int) / 4294967296 = 0 := by omega
    have x0 : ¬ x = 0 := by omega
    have r0 : rd [(v : Int)] 0 = (v : Int) := rfl
    rw [← hx] at e2 h ⊢
    rw [lim_small v (by omega) (by omega), lim_small x (by omega) h]
    unfold spec_natTimes.f
    show spec_natTimes.l0 (8 + 1) _ _ _ _ _ = _
    rw [spec_natTimes.l0, if_pos (by show (0 : Int) < ((1 : Nat) : Int); decide), if_pos (Int.le_refl 0), if_pos (by simp), r0, e1, e2, e3, e4, show ((0 : Int) + 1) = 1 from rfl, w1]
    show spec_natTimes.l0 (7 + 1) _ _ _ _ _ = _
    rw [spec_natTimes.l0, if_neg (by show ¬ ((1 : Int) < ((1 : Nat) : Int)); decide), if_pos (by simp)]
    simp [spec_natTrim.f, spec_natTrim.l0, rd, w1, w2, w0, x0]
theorem natural_at (l : List UInt8) (hd : ∀ b ∈ l, Dig b) (hl : l.length ≤ 1000) : ∀ (d i v : Nat), i + d = l.length → val v (l.drop i) < 4294967296 → Ev (fun k => spec_Natural.l0 k (tx l) 10 (lim v) (i : Int)) (lim (val v (l.drop i)))
  | 0, i, v, hi, hc => by
    refine Ev.step (f := fun _ => some (lim v)) (fun k => ?_) ?_
    · rw [spec_Natural.l0, if_neg (by rw [tx_size]; omega)]
    · rw [List.drop_of_length_le (by omega)]
      exact Ev.now _
  | d + 1, i, v, hi, hc => by
    have hi2 : i < l.length := by omega
    have hb := hd _ (List.getElem_mem hi2)
    have e0 : l.drop i = l[i] :: l.drop (i + 1) := List.drop_eq_getElem_cons hi2
    have ev : val v (l.drop i) = val (v * 10 + (l[i].toNat - 48)) (l.drop (i + 1)) := by rw [e0]; rfl
    rw [ev] at hc ⊢
    have hle := val_le (l.drop (i + 1)) (v * 10 + (l[i].toNat - 48))
    have ih := natural_at l hd hl d (i + 1) _ (by omega) hc
    have hdig : l[i].toNat - 48 < 10 := by have := hb.2; omega
    have u10 : IntKind.u64.wrap (10 : Int) = 10 := u64w _ (by omega) (by omega)
    refine Ev.step (fun k => by rw [spec_Natural.l0, if_pos (by rw [tx_size]; omega), if_pos (by omega), tx_bt l i hi2, w64 ((l[i].toNat : Nat) : Int) (by omega) (by have := hb.2; omega), hex_dig _ hb, Option.bind_some, u10, u64w ((l[i].toNat - 48 : Nat) : Int) (by omega) (by omega)]) (Ev.bind (times_tell v _ hdig (by omega)) ?_)
    refine Ev.congr (fun k => ?_) ih
    rw [w64 _ (by omega) (by omega)]
    rfl
theorem natural_tell (l : List UInt8) (hd : ∀ b ∈ l, Dig b) (hl : l.length ≤ 1000) (h : val 0 l < 4294967296) : Ev (fun k => spec_Natural.f k (tx l) 10) (lim (val 0 l)) :=
  natural_at l hd hl l.length 0 0 (by omega) h
theorem power_at (e : Nat) : ∀ (d i v : Nat), i + d = e → e ≤ 100 → v * 10 ^ d < 4294967296 → Ev (fun k => spec_natPower.l0 k (lim v) 10 (e : Int) (i : Int)) (lim (v * 10 ^ d))
  | 0, i, v, hi, he, hc => by
    refine Ev.step (f := fun _ => some (lim v)) (fun k => ?_) ?_
    · rw [spec_natPower.l0, if_neg (by omega)]
    · rw [Nat.pow_zero, Nat.mul_one]
      exact Ev.now _
  | d + 1, i, v, hi, he, hc => by
    have ev : v * 10 ^ (d + 1) = (v * 10 + 0) * 10 ^ d := by rw [Nat.pow_succ, Nat.add_zero, Nat.mul_assoc, Nat.mul_comm 10]
    rw [ev] at hc ⊢
    have hle : v * 10 + 0 ≤ (v * 10 + 0) * 10 ^ d := Nat.le_mul_of_pos_right _ (Nat.pow_pos (by decide))
    have ih := power_at e d (i + 1) (v * 10 + 0) (by omega) he hc
    have ht : Ev (fun k => spec_natTimes.f k (lim v) 10 0) (lim (v * 10 + 0)) := times_tell v 0 (by omega) (by omega)
    have u10 : IntKind.u64.wrap (10 : Int) = 10 := u64w _ (by omega) (by omega)
    refine Ev.step (fun k => by rw [spec_natPower.l0, if_pos (by omega), u10]) (Ev.bind ht ?_)
    refine Ev.congr (fun k => ?_) ih
    rw [w64 _ (by omega) (by omega)]
    rfl
theorem power_tell (e v : Nat) (he : e ≤ 100) (hc : v * 10 ^ e < 4294967296) : Ev (fun k => spec_natPower.f k (lim v) 10 (e : Int)) (lim (v * 10 ^ e)) := power_at e e 0 v (by omega) he hc
open Go.Lib in
theorem dec_step (u : Nat) (h : ¬ u < 10) : decDigits u = decDigits (u / 10) ++ [UInt8.ofNat (48 + u % 10)] := by
  rw [decDigits, dif_neg h]
open Go.Lib in
theorem dec_dig (u : Nat) : ∀ b ∈ decDigits u, Dig b := by
  induction u using Nat.strongRecOn with
  | _ u ih =>
    have hd : ∀ n, n < 10 → Dig (UInt8.ofNat (48 + n)) := fun n hn => by
      have : (UInt8.ofNat (48 + n)).toNat = 48 + n := by rw [UInt8.toNat_ofNat']; omega
      exact ⟨by omega, by omega⟩
    by_cases h : u < 10
    · rw [decDigits_one h]
      intro b hb
      rw [List.mem_singleton] at hb
      rw [hb]
      exact hd u h
    · rw [dec_step u h]
      intro b hb
      rcases List.mem_append.1 hb with hb | hb
      · exact ih (u / 10) (by omega) b hb
      · rw [List.mem_singleton] at hb
        rw [hb]
        exact hd _ (by omega)
open Go.Lib in
theorem dec_val (u : Nat) : val 0 (decDigits u) = u := by
  induction u using Nat.strongRecOn with
  | _ u ih =>
    have hn : ∀ n, n < 10 → (UInt8.ofNat (48 + n)).toNat - 48 = n := fun n hn => by
      have : (UInt8.ofNat (48 + n)).toNat = 48 + n := by rw [UInt8.toNat_ofNat']; omega
      omega
    by_cases h : u < 10
    · rw [decDigits_one h]
      show 0 * 10 + ((UInt8.ofNat (48 + u)).toNat - 48) = u
      rw [hn u h]
      omega
    · rw [dec_step u h]
      have ihu := ih (u / 10) (by omega)
      unfold val at ihu ⊢
      rw [List.foldl_append, ihu]
      show u / 10 * 10 + ((UInt8.ofNat (48 + u % 10)).toNat - 48) = u
      rw [hn _ (by omega)]
      omega
open Go.Lib in
theorem dec_head (u : Nat) : ∃ b l, decDigits u = b :: l ∧ (0 < u → b.toNat ≠ 48) := by
  induction u using Nat.strongRecOn with
  | _ u ih =>
    by_cases h : u < 10
    · rw [decDigits_one h]
      exact ⟨_, _, rfl, fun h0 => by rw [UInt8.toNat_ofNat']; omega⟩
    · obtain ⟨b, l, e, hb⟩ := ih (u / 10) (by omega)
      rw [dec_step u h, e]
      exact ⟨b, _, rfl, fun _ => hb (by omega)⟩
open Go.Lib in
theorem dec_len : ∀ (n u : Nat), u < 10 ^ (n + 1) → (decDigits u).length ≤ n + 1
  | 0, u, h => by rw [decDigits_one (by simpa using h)]; simp
  | n + 1, u, h => by
    by_cases h10 : u < 10
    · rw [decDigits_one h10]; simp
    · rw [dec_step u h10, List.length_append, List.length_singleton]
      have := dec_len n (u / 10) (by rw [Nat.pow_succ] at h; omega)
      omega
open Go.Lib in
theorem small_one : Ev (fun k => spec_natSmall.f k 1) [1] := Ev.of (k := 9) (fun k => spec_natSmall.mono _ k) (by kernel_rfl)
open Go.Lib in
theorem decimal_end (u e : Nat) (h0 : 0 < u) (he : e ≤ 12) (h : u * 10 ^ e < 4294967296) (hl : (decDigits u).length ≤ 12) : Ev (fun k => spec_Decimal.j3 k (tx (decDigits u)) (e : Int)) ((wordOf (u * 10 ^ e) : Nat), true) := by
  have hp : 0 < 10 ^ e := Nat.pow_pos (by decide)
  have hle : u ≤ u * 10 ^ e := Nat.le_mul_of_pos_right _ hp
  obtain ⟨b, l, eb, _⟩ := dec_head u
  have hl0 : 0 < (decDigits u).length := by rw [eb]; simp
  have hn := natural_tell (decDigits u) (dec_dig u) (by omega) (by rw [dec_val]; omega)
  rw [dec_val] at hn
  have hpw := power_tell e u (by omega) h
  have hr : Ev (fun _ => spec_Round.f (lim (u * 10 ^ e)) [1]) ((wordOf (u * 10 ^ e) : Nat) : Int) := by
    rw [lim_small _ (by omega) h]
    have : spec_Round.f [((u * 10 ^ e : Nat) : Int)] [1] = some ((wordOf (u * 10 ^ e) : Nat) : Int) := by
      unfold spec_Round.f
      rw [if_pos ⟨rfl, by simp only [List.headD_cons]; omega, by simp only [List.headD_cons]; omega, rfl⟩]
      simp only [List.headD_cons, Int.toNat_natCast]
    rw [this]
    exact Ev.now _
  refine Ev.step (f := fun k => spec_Decimal.j4 k (tx (decDigits u)) (e : Int) false) (fun k => by rw [spec_Decimal.j3, if_neg (by rw [tx_size]; omega), if_neg (by rw [tx_size]; omega), decide_eq_false (by omega)]) ?_
  refine Ev.step (fun k => by rw [spec_Decimal.j4, if_neg (by decide), if_neg (by omega)]) (Ev.bind hn (Ev.bind small_one ?_))
  refine Ev.congr (fun k => if_pos (by omega)) (Ev.bind hpw ?_)
  exact Ev.bind hr (Ev.now _)
open Go.Lib in
theorem decimal_cut (u : Nat) : ∀ e : Nat, 0 < u → e + (decDigits u).length ≤ 12 → u * 10 ^ e < 4294967296 → Ev (fun k => spec_Decimal.l1 k (tx (decDigits u)) (e : Int)) ((wordOf (u * 10 ^ e) : Nat), true) := by
  induction u using Nat.strongRecOn with
  | _ u ih =>
    intro e h0 hl h
    have hlast : ∃ l, decDigits u = l ++ [UInt8.ofNat (48 + u % 10)] ∧ (u % 10 = 0 → l = decDigits (u / 10)) := by
      by_cases h10 : u < 10
      · exact ⟨[], by rw [decDigits_one h10, Nat.mod_eq_of_lt h10]; rfl, fun hz => by omega⟩
      · exact ⟨_, dec_step u h10, fun _ => rfl⟩
    obtain ⟨l, hlq, hlz⟩ := hlast
    have hlen : (decDigits u).length = l.length + 1 := by rw [hlq, List.length_append, List.length_singleton]
    have hbt : bt (tx (decDigits u)) (l.length : Int) = ((48 + u % 10 : Nat) : Int) := by
      rw [tx_at _ _ (UInt8.ofNat (48 + u % 10)) (by rw [hlq]; simp)]
      rw [UInt8.toNat_ofNat']
      omega
    have hsz : ((tx (decDigits u)).size : Int) = (l.length : Int) + 1 := by rw [tx_size, hlen]; omega
    have ew : wrap64 ((l.length : Int) + 1 - 1) = (l.length : Int) := by rw [w64 _ (by omega) (by omega)]; omega
    by_cases hz : u % 10 = 0
    · have hl2 := hlz hz
      have hu : u / 10 * 10 = u := by omega
      have e1 : u * 10 ^ e = u / 10 * 10 ^ (e + 1) := by rw [Nat.pow_succ, Nat.mul_comm (10 ^ e), ← Nat.mul_assoc, hu]
      rw [e1] at h ⊢
      have ih1 := ih (u / 10) (by omega) (e + 1) (by omega) (by rw [← hl2]; omega) h
      refine Ev.step (fun k => ?_) ih1
      rw [spec_Decimal.l1, hsz, ew, if_pos (by omega), if_pos (by omega), if_pos (by omega), hbt, if_pos (by omega), if_pos (by omega), w64 _ (by omega) (by omega), Int.toNat_natCast, tx_ext, ← hl2, hlq]
      congr 2
      rw [List.drop_zero, Nat.sub_zero, List.take_left']
      rfl
    · refine Ev.step (fun k => ?_) (decimal_end u e h0 (by omega) h (by omega))
      rw [spec_Decimal.l1, hsz, ew, if_pos (by omega), if_pos (by omega), if_pos (by omega), hbt, if_neg (by omega)]
open Go.Lib in
theorem decimal_tell (u : Nat) (h0 : 0 < u) (h : u < 4294967296) : Ev (fun k => spec_Decimal.f k (tx (decDigits u)) 0) ((wordOf u : Nat), true) := by
  have hlen := dec_len 9 u (by omega)
  obtain ⟨b, l, eb, hb⟩ := dec_head u
  have hc := decimal_cut u 0 h0 (by omega) (by simpa using h)
  rw [Nat.pow_zero, Nat.mul_one] at hc
  have hbt : bt (tx (decDigits u)) 0 = (b.toNat : Int) := tx_at _ 0 b (by rw [eb]; rfl)
  have hl0 : 0 < (decDigits u).length := by rw [eb]; simp
  have hb2 := hb h0
  refine Ev.congr (f := fun k => spec_Decimal.l0 k (tx (decDigits u)) 0) (fun k => by unfold spec_Decimal.f; rw [if_neg (by rw [tx_size]; omega)]) ?_
  refine Ev.step (f := fun k => spec_Decimal.j1 k (tx (decDigits u)) 0) (fun k => by rw [spec_Decimal.l0, if_pos (by rw [tx_size]; omega), if_pos (by rw [tx_size]; omega), hbt, if_neg (by omega)]) ?_
  exact Ev.step (fun k => by rw [spec_Decimal.j1]; rfl) hc
theorem decimal_zero : Ev (fun k => spec_Decimal.f k (tx [48]) 0) (0, true) := Ev.of (k := 9) (fun k => spec_Decimal.mono _ _ k) (by kernel_rfl)
end Go.Proofs.YtheichpmhfledaaDoor
