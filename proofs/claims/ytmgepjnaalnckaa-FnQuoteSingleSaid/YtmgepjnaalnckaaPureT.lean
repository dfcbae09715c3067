/- The quoted text is one literal, which means the text. -/
import Derived.Test.YtmgepjnaalnckaaPureQ
namespace Go.Proofs.Ytmgepjnaalnckaa.PureQ
open Go Go.RowKit Go.Proofs.Ytmgepjnaalnckaa Go.Proofs.Ytmgepjnaalnckaa.PureJ Go.Proofs.YtmgepjnaalnckaaW.PrintWords Go.Proofs.YtmgepjnaalnckaaW.PrintLast

theorem runeOf_copy {n m x0 x1 x2 x3 y1 y2 y3 c w : Int} (h : runeOf n x0 x1 x2 x3 = (c, w)) (hw : 0 < w) (hm : w ≤ m) (h1 : 2 ≤ w → y1 = x1) (h2 : 3 ≤ w → y2 = x2) (h3 : 4 ≤ w → y3 = x3) : runeOf m x0 y1 y2 y3 = (c, w) := by
  unfold runeOf at h ⊢
  by_cases d0 : x0 < 128
  · rw [if_pos d0] at h ⊢; exact h
  rw [if_neg d0] at h ⊢
  by_cases d1 : 194 ≤ x0 ∧ x0 ≤ 223
  · rw [if_pos d1] at h ⊢
    split at h
    · rename_i d2
      injection h with e1 e2
      obtain rfl := h1 (by omega)
      rw [if_pos ⟨by omega, d2.2⟩, e1, e2]
    · injection h with e1 e2; omega
  rw [if_neg d1] at h ⊢
  by_cases d3 : 224 ≤ x0 ∧ x0 ≤ 239
  · rw [if_pos d3] at h ⊢
    split at h
    · rename_i d2
      injection h with e1 e2
      obtain rfl := h1 (by omega)
      obtain rfl := h2 (by omega)
      rw [if_pos ⟨by omega, d2.2⟩, e1, e2]
    · injection h with e1 e2; omega
  rw [if_neg d3] at h ⊢
  by_cases d5 : 240 ≤ x0 ∧ x0 ≤ 244
  · rw [if_pos d5] at h ⊢
    split at h
    · rename_i d2
      injection h with e1 e2
      obtain rfl := h1 (by omega)
      obtain rfl := h2 (by omega)
      obtain rfl := h3 (by omega)
      rw [if_pos ⟨by omega, d2.2⟩, e1, e2]
    · injection h with e1 e2; omega
  rw [if_neg d5] at h
  injection h with e1 e2; omega
theorem bytesOf_at (s : ByteArray) (p r : Nat) (hr : r ≤ s.size) (t : Nat) (ht : t < (bytesOf (s.extract p r)).length) : (bytesOf (s.extract p r))[t] = bt s ((p + t : Nat) : Int) := by
  have hl : t < r - p := by rw [bytesOf_length, ByteArray.size_extract] at ht; omega
  have hs : p + t < s.size := by omega
  have e0 : (bytesOf (s.extract p r))[t] = (((s.extract p r).data.toList[t]'(by rw [bytesOf_length] at ht; rw [Array.length_toList]; exact ht)).toNat : Int) := by simp only [bytesOf, List.getElem_map]
  rw [e0]
  have e : bt s ((p + t : Nat) : Int) = ((s[p + t]'hs).toNat : Int) := by
    unfold bt
    rw [dif_pos (by omega)]
    simp only [Int.toNat_natCast]
  rw [e]
  congr 2
  have h2 : t < (s.extract p r).size := by rw [ByteArray.size_extract]; omega
  have h3 : (s.extract p r)[t]'h2 = s[p + t]'hs := by simp only [ByteArray.getElem_extract]
  exact h3
theorem rune_copy {q s : ByteArray} {i p w : Nat} {c : Int} (hr : runeAt s (p : Int) = (c, (w : Int))) (hw : 0 < w) (hp : p + w ≤ s.size) (hi : i + w ≤ q.size) (hb : At q i (bytesOf (s.extract p (p + w)))) : runeAt q (i : Int) = (c, (w : Int)) := by
  have hl : (bytesOf (s.extract p (p + w))).length = w := by rw [bytesOf_length, ByteArray.size_extract]; omega
  have e : ∀ t, t < w → bt q ((i + t : Nat) : Int) = bt s ((p + t : Nat) : Int) := fun t ht => by
    rw [hb t (by omega)]
    exact bytesOf_at s p (p + w) hp t (by omega)
  have e0 := e 0 hw
  unfold runeAt at hr ⊢
  rw [if_neg (by omega)] at hr ⊢
  rw [show bt q (i : Int) = bt s (p : Int) from e0]
  refine runeOf_copy hr (by omega) (by omega) (fun h => ?_) (fun h => ?_) (fun h => ?_)
  · have := e 1 (by omega); exact this
  · have := e 2 (by omega); exact this
  · have := e 3 (by omega); exact this
theorem runeAt_small (q : ByteArray) (i : Nat) (hi : i < q.size) (c : Int) (hc : c < 128) (h : bt q (i : Int) = c) : runeAt q (i : Int) = (c, 1) := by
  unfold runeAt runeOf
  rw [if_neg (by omega), h, if_pos hc]
/-- The code units of code points, two bytes each. -/
def ub : List (Int × Nat) → ByteArray
  | [] => ⟨#[]⟩
  | (c, _) :: l => u2 c ++ ub l
theorem hex_esc {q : ByteArray} {j : Nat} {U : ByteArray} {i : Nat} {T : ByteArray} {v : Int} {ys : List Int} (hs : q.size ≤ 1099511627776) (hi : i + 6 ≤ q.size) (hv0 : 0 ≤ v) (hv1 : v < 65536) (hb : At q i (hx v ++ ys)) (hT : T.size ≤ 1099511627776)
    (h : ∃ m, TR q j U m (i + 6) (T ++ u1 v)) : ∃ m, TR q j U m i T := by
  have g0 := hb.left 0 (by simp [hx])
  have g1 := hb.left 1 (by simp [hx])
  have g2 := hb.left 2 (by simp [hx])
  have g3 := hb.left 3 (by simp [hx])
  have g4 := hb.left 4 (by simp [hx])
  have g5 := hb.left 5 (by simp [hx])
  simp only [hx, List.getElem_cons_zero, List.getElem_cons_succ] at g0 g1 g2 g3 g4 g5
  have he := escape_hex q (i + 1) hs (by clear g0 g1 g2 g3 g4 g5 hb; omega) v (v / 4096) (v / 256 % 16) (v / 16 % 16) (v % 16) g1 (by clear g0 g1 g2 g3 g4 g5 hb; omega) (by clear g0 g1 g2 g3 g4 g5 hb; omega) (by clear g0 g1 g2 g3 g4 g5 hb; omega) (by clear g0 g1 g2 g3 g4 g5 hb; omega) (by clear g0 g1 g2 g3 g4 g5 hb; omega) g2 g3 g4 g5
  exact step_esc (k := 15) hs (by clear g0 g1 g2 g3 g4 g5 hb; omega) g0 he (by rw [u1_size]; decide) hT h

theorem tr_of (q s : ByteArray) (a : Bool) (hs : s.size ≤ 2147483647) (hQ : q.size ≤ 1099511627776) {p : Nat} {l : List (Int × Nat)} (h : CP s p l) (h39 : ∀ x ∈ l, x.1 ≠ 39) :
    ∀ (i : Nat) (T : ByteArray), At q i (outp s a p l ++ [39]) → i + (outp s a p l).length + 1 = q.size → T.size + 4 * (s.size - p) ≤ 1099511627776 → ∃ m, TR q (q.size - 1) (T ++ ub l) m i T := by
  induction h with
  | nil =>
    intro i T hA hi hT
    have hb := hA 0 (by simp [outp])
    simp only [outp, List.nil_append, List.getElem_cons_zero, Nat.add_zero] at hb
    simp only [outp, List.length_nil] at hi
    have e : q.size - 1 = i := by omega
    have eT : T ++ ub [] = T := by
      apply ByteArray.ext
      rw [ByteArray.data_append]
      simp [ub]
    rw [e, eT]
    exact ⟨0, TR.stop (by omega) (quote_is q i (by omega) hQ hb)⟩
  | cons p w c l hw hr hcp ih =>
    intro i T hA hi hT
    have hf := rune_facts hr (by omega)
    obtain ⟨hc0, hc1, hcs, hw4, hpw, _, hw1, hb1⟩ := hf
    have hne : c ≠ 39 := h39 (c, w) (List.mem_cons_self ..)
    have ih := ih (fun x hx => h39 x (List.mem_cons_of_mem _ hx))
    have hpw' : p + w ≤ s.size := by omega
    have hu := u2_size c
    have eU : T ++ ub ((c, w) :: l) = T ++ u2 c ++ ub l := by simp only [ub, ByteArray.append_assoc]
    simp only [outp, List.append_assoc] at hA
    simp only [outp, List.length_append] at hi
    have next : ∀ i2, i2 = i + (pc s a p w c).length → ∃ m, TR q (q.size - 1) (T ++ u2 c ++ ub l) m i2 (T ++ u2 c) := fun i2 e2 => by
      subst e2
      exact ih _ (T ++ u2 c) hA.right (by omega) (by rw [ByteArray.size_append]; omega)
    rw [eU]
    have hTs : T.size ≤ 1099511627776 := by omega
    by_cases hcan : canP a c = true
    · have hpc : pc s a p w c = bytesOf (s.extract p (p + w)) := by unfold pc; rw [if_pos hcan]
      have hlen : (pc s a p w c).length = w := by rw [hpc, bytesOf_length, ByteArray.size_extract]; omega
      have hL := hA.left
      rw [hpc] at hL
      have hq := rune_copy (i := i) hr hw hpw' (by omega) hL
      have hcc : c ≠ 10 ∧ c ≠ 13 ∧ c ≠ 92 := by
        unfold canP at hcan
        split at hcan
        · have := of_decide_eq_true hcan; omega
        · omega
      exact step_plain hQ (by omega) hw hq hc0 hc1 hne hcc.1 hcc.2.1 hcc.2.2 hTs (next (i + w) (by rw [hlen]))
    · have hpc : pc s a p w c = esc1 c := by unfold pc; rw [if_neg hcan]
      rw [hpc] at hA hi next
      clear hr hb1 hpc
      have one : ∀ x v : Int, esc1 c = [92, x] → escOf x = some v → v = c → c < 65536 → ∃ m, TR q (q.size - 1) (T ++ u2 c ++ ub l) m i T := fun x v hx hv hvc hc => by
        rw [hx] at hA hi next
        have g0 := hA.left 0 (by simp)
        have g1 := hA.left 1 (by simp)
        simp only [List.getElem_cons_zero, List.getElem_cons_succ, List.length_cons, List.length_nil] at g0 g1 hi
        have he := escape_one q (i + 1) hQ (by omega) x v g1 hv
        have hn := next (i + 1 + 1) (by simp)
        rw [u2_small c hc] at hn ⊢
        subst hvc
        exact step_esc (k := 15) hQ (by omega) g0 he (by rw [u1_size]; decide) hTs hn
      by_cases c1 : c = 8
      · exact one 98 8 (by rw [c1]; rfl) rfl c1.symm (by omega)
      by_cases c2 : c = 12
      · exact one 102 12 (by rw [c2]; rfl) rfl c2.symm (by omega)
      by_cases c3 : c = 10
      · exact one 110 10 (by rw [c3]; rfl) rfl c3.symm (by omega)
      by_cases c4 : c = 13
      · exact one 114 13 (by rw [c4]; rfl) rfl c4.symm (by omega)
      by_cases c5 : c = 9
      · exact one 116 9 (by rw [c5]; rfl) rfl c5.symm (by omega)
      by_cases c6 : c = 92
      · exact one 92 92 (by rw [c6]; rfl) rfl c6.symm (by omega)
      by_cases c7 : c = 34
      · have e34 : esc1 c = [34] := by rw [c7]; rfl
        rw [e34] at hA hi next
        have g0 := hA.left 0 (by simp)
        simp only [List.getElem_cons_zero, List.length_cons, List.length_nil, Nat.add_zero] at g0 hi
        have hq := runeAt_small q i (by omega) 34 (by decide) g0
        subst c7
        exact step_plain (w := 1) hQ (by omega) (by decide) hq (by decide) (by decide) (by decide) (by decide) (by decide) (by decide) hTs (next (i + 1) (by simp))
      by_cases c9 : c ≤ 65535
      · have e9 : esc1 c = hx c := by unfold esc1; rw [if_neg c1, if_neg c2, if_neg c3, if_neg c4, if_neg c5, if_neg c6, if_neg c7, if_pos c9]
        rw [e9] at hA hi next
        have hn := next (i + 6) (by simp [hx])
        have h6 : (hx c).length = 6 := by simp [hx]
        rw [u2_small c (by omega)] at hn ⊢
        exact hex_esc hQ (by omega) hc0 (by omega) hA hTs hn
      · have e9 : esc1 c = hx (55296 + (c - 65536) / 1024) ++ hx (56320 + (c - 65536) % 1024) := by unfold esc1; rw [if_neg c1, if_neg c2, if_neg c3, if_neg c4, if_neg c5, if_neg c6, if_neg c7, if_neg c9]
        rw [e9] at hA hi next
        have h6 : ∀ v, (hx v).length = 6 := fun v => by simp [hx]
        have hn := next (i + 6 + 6) (by rw [List.length_append, h6, h6])
        have eu : u2 c = u1 (55296 + (c - 65536) / 1024) ++ u1 (56320 + (c - 65536) % 1024) := by unfold u2; rw [if_neg (by omega)]
        rw [eu, ← ByteArray.append_assoc] at hn ⊢
        rw [List.append_assoc] at hA
        have hA2 := hA.right
        rw [h6] at hA2
        rw [List.length_append, h6, h6] at hi
        have s1 := u1_size (55296 + (c - 65536) / 1024)
        have h2 := hex_esc (T := T ++ u1 (55296 + (c - 65536) / 1024)) hQ (by omega) (by omega) (by omega) hA2 (by rw [ByteArray.size_append]; omega) hn
        exact hex_esc hQ (by omega) (by omega) (by omega) hA hTs h2
end Go.Proofs.Ytmgepjnaalnckaa.PureQ
