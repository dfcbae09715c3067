/- What NumberToString tells, read back by StringToNumber. -/
import Derived.Test.YtheichpmhfledaaDoorExtNum
import Derived.Test.YtheichpmhfledaaDoorExtText
import Derived.Test.YtheichpmhfledaaDoorExtT
import Derived.Lib.ItoaMem
set_option linter.unusedVariables false
set_option linter.unusedSimpArgs false
namespace Go.Proofs.YtheichpmhfledaaDoor
open Go Go.RowKit Go.Proofs.YtheichpmhfledaaDoorW.PrintWords Go.Proofs.YtheichpmhfledaaDoorW.PrintLast Go.Proofs.YtheichpmhfledaaDoor.PFnNumberBack
open Ieee in
/-- -1 * x. -/
theorem mul_mone_exact (x : Nat) (hx : x < 9218868437227405312) (h52 : 52 ≤ sh x) (hn : mag x < 9007199254740992) (h0 : 0 < mag x) (hfin : V x < 2 ^ 2098) : double.mul 13830554455654793216 x = some (x + 9223372036854775808) := by
  unfold Format.mul
  rw [read_pos x hx, show double.read 13830554455654793216 = .number true (mag 4607182418800017408) ((sh 4607182418800017408 : Int) - 1074) from read_eq true 4607182418800017408 (by decide)]
  unfold Datum.product
  have hm : mag 4607182418800017408 = 4503599627370496 := by decide +kernel
  have hs : sh 4607182418800017408 = 1022 := by decide +kernel
  simp only [Option.map_some, hm, hs]
  have e1 : ((1022 : Nat) : Int) - 1074 + ((sh x : Int) - 1074) = ((sh x - 52 : Nat) : Int) - 1074 := by omega
  rw [e1]
  have he : 4503599627370496 * mag x * 2 ^ (sh x - 52) = mag x * 2 ^ sh x := by
    rw [Nat.mul_comm 4503599627370496, Nat.mul_assoc, ← pow52, ← Nat.pow_add]
    congr 2
    omega
  obtain ⟨z, hz, hz1, hz2⟩ := nearest_exact true (4503599627370496 * mag x) (sh x - 52) (mag x) (sh x) (Nat.mul_pos (by decide) h0) he hn hfin
  have : z = x := V_inj hz2
  subst this
  unfold Format.write
  simp only [Bool.xor_false, Bool.bne_false]
  rw [hz]
  rfl
/-- The word of a whole number above 0, by its parts. -/
theorem word_parts (m : Nat) (h0 : 0 < m) (h : m < 4294967296) : ∃ q, 4503599627370496 ≤ q ∧ q < 9007199254740992 ∧ wordOf m = (m.log2 + 1022) * 4503599627370496 + q ∧ q * 2 ^ (m.log2 + 1022) = m * 2 ^ 1074 ∧ m.log2 < 32 := by
  have hl : m.log2 < 32 := (Nat.log2_lt (by omega)).2 (by have : (2 : Nat) ^ 32 = 4294967296 := by decide
                                                          omega)
  have hlo : 2 ^ m.log2 ≤ m := Nat.log2_self_le (by omega)
  have hhi : m < 2 ^ (m.log2 + 1) := Nat.lt_log2_self
  have p52 : 2 ^ m.log2 * 2 ^ (52 - m.log2) = 4503599627370496 := by
    rw [← Nat.pow_add]
    have : m.log2 + (52 - m.log2) = 52 := by omega
    rw [this]
  have q53 : 2 ^ (m.log2 + 1) * 2 ^ (52 - m.log2) = 9007199254740992 := by
    rw [← Nat.pow_add]
    have : m.log2 + 1 + (52 - m.log2) = 53 := by omega
    rw [this]
  have g2 : 4503599627370496 ≤ m * 2 ^ (52 - m.log2) := by rw [← p52]; exact Nat.mul_le_mul_right _ hlo
  have g3 : m * 2 ^ (52 - m.log2) < 9007199254740992 := by rw [← q53]; exact Nat.mul_lt_mul_of_pos_right hhi (Nat.pow_pos (by decide))
  refine ⟨m * 2 ^ (52 - m.log2), g2, g3, ?_, ?_, hl⟩
  · unfold wordOf
    generalize m * 2 ^ (52 - m.log2) = q at *
    omega
  · have e : 52 - m.log2 + (m.log2 + 1022) = 1074 := by omega
    rw [Nat.mul_assoc, ← Nat.pow_add, e]
theorem word_V (m : Nat) (h0 : 0 < m) (h : m < 4294967296) : V (wordOf m) = m * 2 ^ 1074 := by
  obtain ⟨q, q0, q1, hw, hq, _⟩ := word_parts m h0 h
  rw [hw, V_word _ q q1 (Or.inl q0), hq]
theorem word_sh (m : Nat) (h0 : 0 < m) (h : m < 4294967296) : wordOf m < 9218868437227405312 ∧ 52 ≤ sh (wordOf m) ∧ mag (wordOf m) < 9007199254740992 ∧ 0 < mag (wordOf m) := by
  obtain ⟨q, q0, q1, hw, hq, hl⟩ := word_parts m h0 h
  obtain ⟨L, hL⟩ : ∃ L, L = m.log2 := ⟨_, rfl⟩
  rw [← hL] at hw hl
  clear hq hL
  have h1 : ¬ wordOf m < 4503599627370496 := by omega
  unfold sh mag
  rw [if_neg h1, if_neg h1]
  omega
theorem word_fin (m : Nat) (h0 : 0 < m) (h : m < 4294967296) : V (wordOf m) < 2 ^ 2098 := by
  obtain ⟨K, hK⟩ : ∃ K, K = 1074 := ⟨_, rfl⟩
  obtain ⟨M, hM⟩ : ∃ M, M = 2098 := ⟨_, rfl⟩
  rw [word_V m h0 h, ← hK, ← hM]
  have h2 : m < 2 ^ 32 := by rw [show (2 : Nat) ^ 32 = 4294967296 from by decide]; exact h
  have h3 : m * 2 ^ K < 2 ^ (32 + K) := by rw [Nat.pow_add]; exact Nat.mul_lt_mul_of_pos_right h2 (Nat.pow_pos (by decide))
  exact Nat.lt_of_lt_of_le h3 (Nat.pow_le_pow_right (by decide) (by omega))
theorem mul_one_word (m : Nat) (h0 : 0 < m) (h : m < 4294967296) : Ieee.double.mul 4607182418800017408 (wordOf m) = some (wordOf m) := by
  obtain ⟨a, b, c, d⟩ := word_sh m h0 h
  exact mul_one_exact _ a b c d (word_fin m h0 h)
theorem mul_mone_word (m : Nat) (h0 : 0 < m) (h : m < 4294967296) : Ieee.double.mul 13830554455654793216 (wordOf m) = some (wordOf m + 9223372036854775808) := by
  obtain ⟨a, b, c, d⟩ := word_sh m h0 h
  exact mul_mone_exact _ a b c d (word_fin m h0 h)
theorem mul_one_zero : Ieee.double.mul 4607182418800017408 0 = some 0 := by decide +kernel
theorem tx_get (l : List UInt8) (i : Nat) (h : i < (tx l).size) : (tx l)[i]'h = l[i]'(by rw [tx_size] at h; exact h) := rfl
theorem tx_head (b : UInt8) (l : List UInt8) (h : 0 < (tx (b :: l)).size) : (((tx (b :: l))[0]'h).toNat : Int) = (b.toNat : Int) := rfl
/-- What is read back: the same word, a NaN of a NaN, or a zero of a zero. -/
def Good (s : Bool) (r x : Nat) : Prop := (9218868437227405312 < r ∧ x = 9221120237041090561) ∨ x = wd s r ∨ (r = 0 ∧ x = 0)
/-- A text is read as a number. -/
def Reads (t : ByteArray) (x : Nat) : Prop := ∃ l, t = tx l ∧ Vis l ∧ l.length ≤ 100 ∧ ∀ w, Calls Tryd.prog 15 #[.string (tx (wide l))] w fun e w' => e = .returned (.tuple #[.float .f64 x, .bool true]) ∧ Below w.heap.size w w'
theorem trim_calls (l : List UInt8) (hv : Vis l) (hl : l.length ≤ 100) (h0 : 0 < l.length) (w : World) : Calls Tryd.prog 28 #[.string (tx (wide l))] w fun e w' => e = .returned (.tuple #[.string (tx l), .bool true]) ∧ Below w.heap.size w w' := by
  obtain ⟨k, hk⟩ := (trim_tell l hv (by omega) h0).rounds
  exact spec_trimmed.calls k _ _ _ w hk
theorem based_calls (b : UInt8) (l : List UInt8) (h : b.toNat ≠ 48 ∨ l = []) (w : World) : Calls Tryd.prog 30 #[.string (tx (b :: l))] w fun e w' => e = .returned (.tuple #[.int .i64 0, .string ⟨#[]⟩]) ∧ Drawn0 w w' := by
  refine spec_basedText.calls (tx (b :: l)) 0 ⟨#[]⟩ w ?_
  unfold spec_basedText.f
  have hb : bt (tx (b :: l)) 0 = (b.toNat : Int) := tx_at _ 0 b rfl
  rcases h with h | h
  · rw [hb]
    split
    · rfl
    · rw [if_neg (by omega)]
  · subst h
    rw [if_pos (by rw [tx_size, List.length_singleton]; decide)]
theorem Dig.vis {b : UInt8} (h : Dig b) : 32 < b.toNat ∧ b.toNat < 128 := ⟨by have := h.1; omega, by have := h.2; omega⟩
theorem digits_calls (l : List UInt8) (hd : ∀ b ∈ l, Dig b) (h0 : 0 < l.length) (hl : l.length ≤ 100) (w : World) : Calls Tryd.prog 35 #[.string (tx l)] w fun e w' => e = .returned (.tuple #[.string (tx l), .int .i64 0, .bool true]) ∧ Below w.heap.size w w' :=
  DecText.digits (tx l) w (by rw [tx_size]; exact h0) (by rw [tx_size]; omega) fun i h => by rw [tx_get]; exact digit_dig _ (hd _ (List.getElem_mem _))
theorem nil_false (b : UInt8) (l : List UInt8) : ((tx (b :: l)).toList == []) = false := by rw [tx_list]; rfl
theorem inf_false (b : UInt8) (l : List UInt8) (h : Dig b) : ((tx (b :: l)).toList == [73, 110, 102, 105, 110, 105, 116, 121]) = false := by
  rw [tx_list]
  apply beq_eq_false_iff_ne.2
  intro he
  have h2 := (List.cons.inj he).1
  have h3 := h.2
  rw [h2] at h3
  exact absurd h3 (by decide)
/-- Digits alone. -/
theorem reads_digits (b : UInt8) (l : List UInt8) (bits x : Nat) (hd : ∀ c ∈ b :: l, Dig c) (hl : (b :: l).length ≤ 100) (hb : b.toNat ≠ 48 ∨ l = []) (hX : Ev (fun k => spec_Decimal.f k (tx (b :: l)) 0) ((bits : Int), true)) (hM : Ieee.double.mul 4607182418800017408 bits = some x) : Reads (tx (b :: l)) x := by
  have hv : Vis (b :: l) := fun c hc => (hd c hc).vis
  have h0 : 0 < (tx (b :: l)).size := by rw [tx_size]; simp
  obtain ⟨k, hk⟩ := hX.rounds
  have hdb := hd b List.mem_cons_self
  refine ⟨b :: l, rfl, hv, hl, fun w => StrNum.pos (tx (wide (b :: l))) (tx (b :: l)) bits x w h0 (trim_calls _ hv hl (by simp)) (based_calls b l hb) (digits_calls _ hd (by simp) hl) (fun w => spec_Decimal.calls k _ _ _ _ w hk) (nil_false b l) ?_ ?_ (inf_false b l hdb) hM⟩
  · rw [tx_head]; exact beq_eq_false_iff_ne.2 (by have := hdb.1; omega)
  · rw [tx_head]; exact beq_eq_false_iff_ne.2 (by have := hdb.1; omega)
/-- Digits behind a minus. -/
theorem reads_minus (b : UInt8) (l : List UInt8) (bits x : Nat) (hd : ∀ c ∈ b :: l, Dig c) (hl : (b :: l).length ≤ 99) (hX : Ev (fun k => spec_Decimal.f k (tx (b :: l)) 0) ((bits : Int), true)) (hM : Ieee.double.mul 13830554455654793216 bits = some x) : Reads (tx (45 :: b :: l)) x := by
  have hv : Vis (45 :: b :: l) := fun c hc => by
    rcases List.mem_cons.1 hc with h | h
    · subst h; decide
    · exact (hd c h).vis
  have h0 : 0 < (tx (45 :: b :: l)).size := by rw [tx_size]; simp
  obtain ⟨k, hk⟩ := hX.rounds
  have hdb := hd b List.mem_cons_self
  have hl2 : (45 :: b :: l).length ≤ 100 := by rw [List.length_cons]; omega
  refine ⟨45 :: b :: l, rfl, hv, hl2, fun w => StrNum.neg (tx (wide (45 :: b :: l))) (tx (45 :: b :: l)) (tx (b :: l)) bits x w h0 (trim_calls _ hv hl2 (by simp)) (based_calls 45 (b :: l) (Or.inl (by decide))) (digits_calls _ hd (by simp) (by omega)) (fun w => spec_Decimal.calls k _ _ _ _ w hk) (nil_false 45 _) ?_ ?_ (inf_false b l hdb) ?_ hM⟩
  · rw [tx_head]; rfl
  · rw [tx_head]; rfl
  · rw [tx_ext, tx_size]
    show tx (List.take _ (b :: l)) = _
    rw [List.take_of_length_le (by simp)]
theorem reads_nan : Reads ⟨#[78, 97, 78]⟩ 9221120237041090561 := by
  have hv : Vis [78, 97, 78] := by unfold Vis; decide
  refine ⟨[78, 97, 78], rfl, hv, by decide, fun w => StrNum.nan (tx (wide [78, 97, 78])) (tx [78, 97, 78]) w (by decide) (trim_calls _ hv (by decide) (by decide)) (based_calls 78 _ (Or.inl (by decide))) (fun w => DecText.none _ w (by decide) (by decide) ?_ ?_) (nil_false 78 _) ?_ ?_ ?_⟩
  · rw [tx_head]; kernel_rfl
  · rw [tx_head]; rfl
  · rw [tx_head]; rfl
  · rw [tx_head]; rfl
  · rw [tx_list]; rfl
theorem reads_pinf : Reads ⟨#[73, 110, 102, 105, 110, 105, 116, 121]⟩ 9218868437227405312 := by
  have hv : Vis [73, 110, 102, 105, 110, 105, 116, 121] := by unfold Vis; decide
  refine ⟨[73, 110, 102, 105, 110, 105, 116, 121], rfl, hv, by decide, fun w => StrNum.pinf (tx (wide [73, 110, 102, 105, 110, 105, 116, 121])) (tx [73, 110, 102, 105, 110, 105, 116, 121]) w (by decide) (trim_calls _ hv (by decide) (by decide)) (based_calls 73 _ (Or.inl (by decide))) (nil_false 73 _) ?_ ?_ ?_⟩
  · rw [tx_head]; rfl
  · rw [tx_head]; rfl
  · rw [tx_list]; rfl
theorem reads_ninf : Reads ⟨#[45, 73, 110, 102, 105, 110, 105, 116, 121]⟩ 18442240474082181120 := by
  have hv : Vis [45, 73, 110, 102, 105, 110, 105, 116, 121] := by unfold Vis; decide
  refine ⟨[45, 73, 110, 102, 105, 110, 105, 116, 121], rfl, hv, by decide, fun w => StrNum.ninf (tx (wide [45, 73, 110, 102, 105, 110, 105, 116, 121])) (tx [45, 73, 110, 102, 105, 110, 105, 116, 121]) (tx [73, 110, 102, 105, 110, 105, 116, 121]) w (by decide) (trim_calls _ hv (by decide) (by decide)) (based_calls 45 _ (Or.inl (by decide))) (nil_false 45 _) ?_ ?_ ?_ ?_⟩
  · rw [tx_head]; rfl
  · rw [tx_head]; rfl
  · rw [tx_list]; rfl
  · rw [tx_ext]; rfl
open Go.Lib in
theorem told_reads (s : Bool) (r : Nat) (t : ByteArray) (h : Told s r t) : ∃ x, Good s r x ∧ Reads t x := by
  cases h with
  | whole n h0 h1 hW =>
    obtain ⟨hr, hw⟩ := hW
    obtain ⟨K, hK⟩ : ∃ K, K = 1074 := ⟨_, rfl⟩
    have hw1 := hw K hK
    have hp : 0 < 2 ^ K := Nat.pow_pos (by decide)
    have hpi : (0 : Int) < ((2 ^ K : Nat) : Int) := by omega
    have wordV : ∀ m, 0 < m → m < 4294967296 → V r = m * 2 ^ K → r = wordOf m := fun m g0 g1 e => V_inj (by rw [word_V m g0 g1, e, hK])
    rcases Int.lt_trichotomy n 0 with hn | hn | hn
    · obtain ⟨m, rfl⟩ : ∃ m : Nat, n = -(m : Int) := ⟨n.natAbs, by omega⟩
      have hm0 : 0 < m := by omega
      have hm1 : m < 4294967296 := by omega
      have hs : s = true := by
        cases s with
        | true => rfl
        | false =>
          exfalso
          have h5 : (V r : Int) = -(m : Int) * ((2 ^ K : Nat) : Int) := hw1
          have h6 : -(m : Int) * ((2 ^ K : Nat) : Int) < 0 := Int.mul_neg_of_neg_of_pos (by omega) hpi
          omega
      subst hs
      have hV : V r = m * 2 ^ K := by
        have h5 : -(V r : Int) = -(m : Int) * ((2 ^ K : Nat) : Int) := hw1
        rw [Int.neg_mul] at h5
        have h6 : (V r : Int) = (m : Int) * ((2 ^ K : Nat) : Int) := Int.neg_inj.1 h5
        rw [← Int.natCast_mul] at h6
        exact Int.ofNat_inj.1 h6
      have hrw := wordV m hm0 hm1 hV
      obtain ⟨b, l, eb, hb⟩ := dec_head m
      have hd := dec_dig m
      have hlen := dec_len 9 m (by omega)
      have hX := decimal_tell m hm0 hm1
      rw [eb] at hd hlen hX
      refine ⟨wordOf m + 9223372036854775808, Or.inr (Or.inl (by rw [hrw]; rfl)), ?_⟩
      have e : (⟨(itoa (-(m : Int))).toArray⟩ : ByteArray) = tx (45 :: b :: l) := by rw [itoa_neg m hm0, eb]; rfl
      rw [e]
      exact reads_minus b l _ _ hd (by omega) hX (mul_mone_word m hm0 hm1)
    · subst hn
      have hV : V r = 0 := by
        rw [Int.zero_mul] at hw1
        unfold W at hw1
        cases s with
        | true => have h5 : -(V r : Int) = 0 := hw1
                  omega
        | false => have h5 : (V r : Int) = 0 := hw1
                   omega
      have hr0 : r = 0 := V_inj (by rw [hV, V_zero])
      have e : (⟨(itoa 0).toArray⟩ : ByteArray) = tx [48] := by
        have := itoa_nonneg 0
        rw [decDigits_one (by decide)] at this
        have h2 : itoa 0 = [48] := this
        rw [h2]
        rfl
      rw [e]
      exact ⟨0, Or.inr (Or.inr ⟨hr0, rfl⟩), reads_digits 48 [] 0 0 (fun c hc => by rw [List.mem_singleton] at hc; subst hc; exact ⟨by decide, by decide⟩) (by decide) (Or.inr rfl) decimal_zero mul_one_zero⟩
    · obtain ⟨m, rfl⟩ : ∃ m : Nat, n = (m : Int) := ⟨n.toNat, by omega⟩
      have hm0 : 0 < m := by omega
      have hm1 : m < 4294967296 := by omega
      have hmul : ((m : Int) * ((2 ^ K : Nat) : Int)) = ((m * 2 ^ K : Nat) : Int) := (Int.natCast_mul _ _).symm
      have hmp : 0 < m * 2 ^ K := Nat.mul_pos hm0 hp
      have hs : s = false := by
        cases s with
        | false => rfl
        | true =>
          exfalso
          have h5 : -(V r : Int) = (m : Int) * ((2 ^ K : Nat) : Int) := hw1
          rw [hmul] at h5
          omega
      subst hs
      have hV : V r = m * 2 ^ K := by
        have h5 : (V r : Int) = (m : Int) * ((2 ^ K : Nat) : Int) := hw1
        rw [hmul] at h5
        exact Int.ofNat_inj.1 h5
      have hrw := wordV m hm0 hm1 hV
      obtain ⟨b, l, eb, hb⟩ := dec_head m
      have hd := dec_dig m
      have hlen := dec_len 9 m (by omega)
      have hX := decimal_tell m hm0 hm1
      rw [eb] at hd hlen hX
      refine ⟨wordOf m, Or.inr (Or.inl (by rw [hrw]; rfl)), ?_⟩
      have e : (⟨(itoa (m : Int)).toArray⟩ : ByteArray) = tx (b :: l) := by rw [itoa_nonneg m, eb]; rfl
      rw [e]
      exact reads_digits b l _ _ hd (by omega) (Or.inl (hb hm0)) hX (mul_one_word m hm0 hm1)
  | nan h => exact ⟨_, Or.inl ⟨h, rfl⟩, reads_nan⟩
  | pinf h hs => subst h hs; exact ⟨_, Or.inr (Or.inl rfl), reads_pinf⟩
  | ninf h hs => subst h hs; exact ⟨_, Or.inr (Or.inl rfl), reads_ninf⟩
end Go.Proofs.YtheichpmhfledaaDoor
