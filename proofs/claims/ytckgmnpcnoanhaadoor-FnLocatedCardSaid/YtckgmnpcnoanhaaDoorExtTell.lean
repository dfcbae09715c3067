/- What the reference's WellFormed, Rounded and LineOf tell, in plain words. -/
import Derived.Test.YtckgmnpcnoanhaaDoorExtImpl
set_option linter.unusedVariables false
set_option linter.unusedSimpArgs false
namespace Go.Proofs.YtckgmnpcnoanhaaDoor
open Go Go.RowKit Go.Proofs.YtckgmnpcnoanhaaDoorW.PrintWords Go.Proofs.YtckgmnpcnoanhaaDoorW.PrintLast Go.Proofs.YtckgmnpcnoanhaaDoorW.PrintMore Go.Proofs.YtckgmnpcnoanhaaDoor.PFnLocated
theorem rune_ev (s : ByteArray) (hs : s.size ≤ 4096) (i : Int) : Ev (fun k => spec_Rune.f k s i) (runeAt s i) :=
  ⟨12, fun k hk => by
    obtain ⟨m, rfl⟩ := Nat.exists_eq_add_of_le hk
    have e : 12 + m = m + 12 := by omega
    show spec_Rune.f (12 + m) s i = _
    rw [e]
    exact rune_tells s (by omega) i m⟩
theorem runeOf_len (n b0 b1 b2 b3 : Int) (hn : 1 ≤ n) : 0 ≤ (runeOf n b0 b1 b2 b3).2 ∧ (runeOf n b0 b1 b2 b3).2 ≤ n := by
  unfold runeOf
  repeat' split
  all_goals (simp only; omega)
theorem runeAt_rn {s : ByteArray} {i : Nat} (hi : i < s.size) (h : ¬ (runeAt s (i : Int)).2 = 0) : Rn s i (runeAt s (i : Int)).1 (runeAt s (i : Int)).2.toNat ∧ (runeAt s (i : Int)).2 = ((runeAt s (i : Int)).2.toNat : Int) := by
  have hb : 0 ≤ (runeAt s (i : Int)).2 := by
    unfold runeAt
    rw [if_neg (by omega)]
    exact (runeOf_len _ _ _ _ _ (by omega)).1
  refine ⟨⟨?_, by omega⟩, by omega⟩
  rw [Int.toNat_of_nonneg hb]
theorem runeAt_le {s : ByteArray} {i : Nat} (hi : i < s.size) : (runeAt s (i : Int)).2 ≤ (s.size : Int) - (i : Int) := by
  unfold runeAt
  rw [if_neg (by omega)]
  exact (runeOf_len _ _ _ _ _ (by omega)).2
theorem w64n (x : Nat) (h : x ≤ 8192) : wrap64 (x : Int) = (x : Int) := w64 (by omega) (by omega)
/-! ### WellFormed -/
theorem wf_total (s : ByteArray) (hs : s.size ≤ 4096) : ∀ m i : Nat, s.size ≤ i + m → i ≤ s.size → ∃ r, Ev (fun k => spec_WellFormed.l0 k s (i : Int)) r := by
  intro m
  induction m with
  | zero =>
    intro i h1 h2
    exact ⟨true, Ev.step (fun k => by simp only [spec_WellFormed.l0]; rw [if_neg (by omega)]) (Ev.now _)⟩
  | succ m ih =>
    intro i h1 h2
    by_cases hi : i < s.size
    · by_cases hz : (runeAt s (i : Int)).2 = 0
      · exact ⟨false, Ev.step (fun k => by simp only [spec_WellFormed.l0]; rw [if_pos (by omega)]) (Ev.bind (rune_ev s hs i) (Ev.congr (fun k => by rw [if_pos hz]) (Ev.now _)))⟩
      · obtain ⟨hr, he⟩ := runeAt_rn hi hz
        have hf := hr.facts
        obtain ⟨r, hr'⟩ := ih (i + (runeAt s (i : Int)).2.toNat) (by omega) (by omega)
        have ew : wrap64 ((i : Int) + (runeAt s (i : Int)).2) = ((i + (runeAt s (i : Int)).2.toNat : Nat) : Int) := by rw [he, ← Int.natCast_add]; exact w64n _ (by omega)
        exact ⟨r, Ev.step (fun k => by simp only [spec_WellFormed.l0]; rw [if_pos (by omega)]) (Ev.bind (rune_ev s hs i) (Ev.congr (fun k => by rw [if_neg hz, ew]) hr'))⟩
    · exact ⟨true, Ev.step (fun k => by simp only [spec_WellFormed.l0]; rw [if_neg (by omega)]) (Ev.now _)⟩
theorem ev_one {α : Type} {g : Nat → Option α} {r r' : α} (h : Ev g r) (h' : Ev g r') : r = r' := by
  obtain ⟨K, hK⟩ := h
  obtain ⟨K', hK'⟩ := h'
  exact Option.some.inj ((hK (K + K') (by omega)).symm.trans (hK' (K + K') (by omega)))
theorem wf_step {s : ByteArray} (hs : s.size ≤ 4096) {i : Nat} (h : Ev (fun k => spec_WellFormed.l0 k s (i : Int)) true) (hi : i < s.size) : ∃ c w, Rn s i c w ∧ Ev (fun k => spec_WellFormed.l0 k s ((i + w : Nat) : Int)) true := by
  by_cases hz : (runeAt s (i : Int)).2 = 0
  · have h2 : Ev (fun k => spec_WellFormed.l0 k s (i : Int)) false := Ev.step (fun k => by simp only [spec_WellFormed.l0]; rw [if_pos (by omega)]) (Ev.bind (rune_ev s hs i) (Ev.congr (fun k => by rw [if_pos hz]) (Ev.now _)))
    cases ev_one h h2
  · obtain ⟨hr, he⟩ := runeAt_rn hi hz
    have hf := hr.facts
    obtain ⟨r, hr'⟩ := wf_total s hs s.size (i + (runeAt s (i : Int)).2.toNat) (by omega) (by omega)
    have ew : wrap64 ((i : Int) + (runeAt s (i : Int)).2) = ((i + (runeAt s (i : Int)).2.toNat : Nat) : Int) := by rw [he, ← Int.natCast_add]; exact w64n _ (by omega)
    have h2 : Ev (fun k => spec_WellFormed.l0 k s (i : Int)) r := Ev.step (fun k => by simp only [spec_WellFormed.l0]; rw [if_pos (by omega)]) (Ev.bind (rune_ev s hs i) (Ev.congr (fun k => by rw [if_neg hz, ew]) hr'))
    cases ev_one h h2
    exact ⟨_, _, hr, hr'⟩
theorem wf_of {s : ByteArray} (hs : s.size ≤ 4096) (h : Ev (fun k => spec_WellFormed.l0 k s 0) true) : Wf s := by
  have key : ∀ i l ls, Tr s i l ls → Ev (fun k => spec_WellFormed.l0 k s (i : Int)) true := by
    intro i l ls ht
    induction ht with
    | zero => exact h
    | next i l ls w c ht hr ih =>
      obtain ⟨c2, w2, hr2, h2⟩ := wf_step hs ih (by have := hr.facts; omega)
      rw [(hr.inj hr2).2]
      exact h2
  intro i l ls ht hi
  obtain ⟨c, w, hr, _⟩ := wf_step hs (key i l ls ht) hi
  exact ⟨c, w, hr⟩
theorem wf_tells (s : ByteArray) (hs : s.size ≤ 4096) : ∃ k r, spec_WellFormed.f k s = some r ∧ (r = true → Wf s) := by
  obtain ⟨r, hr⟩ := wf_total s hs s.size 0 (by omega) (by omega)
  obtain ⟨k, hk⟩ := hr.rounds
  refine ⟨k, r, hk, fun e => ?_⟩
  subst e
  exact wf_of hs hr
/-! ### Rounded -/
/-- Between CR and LF. -/
def Mid (s : ByteArray) (i : Nat) : Prop := 0 < i ∧ i < s.size ∧ bt s ((i : Int) - 1) = 13 ∧ bt s (i : Int) = 10
theorem rounded_tells (s : ByteArray) (hs : s.size ≤ 4096) (a : Int) : ∃ r, spec_Rounded.f s a = some r ∧ (r = true → ∃ j : Nat, a = (j : Int) ∧ Sp s j ∧ ¬ Mid s j) := by
  unfold spec_Rounded.f
  by_cases c1 : a < 0
  · exact ⟨false, by rw [if_pos c1], fun h => by cases h⟩
  · rw [if_neg c1]
    by_cases c2 : a > (s.size : Int)
    · exact ⟨false, by rw [if_pos c2], fun h => by cases h⟩
    · rw [if_neg c2]
      obtain ⟨j, rfl⟩ := Int.eq_ofNat_of_zero_le (show 0 ≤ a by omega)
      by_cases c3 : (j : Int) < (s.size : Int)
      · rw [if_pos c3, if_pos (by omega)]
        have hb := bt_range s (j : Int)
        by_cases c4 : Go.bits .and .u8 (bt s (j : Int)) 192 = 128
        · exact ⟨false, by rw [if_pos c4], fun h => by cases h⟩
        · rw [if_neg c4]
          have hsp : Sp s j := ⟨by omega, fun _ h => c4 ((cont8 hb.1 hb.2).2 h)⟩
          by_cases c5 : (j : Int) = 0
          · exact ⟨true, by rw [if_pos c5], fun _ => ⟨j, rfl, hsp, fun h => by have := h.1; omega⟩⟩
          · have ew : wrap64 ((j : Int) - 1) = (j : Int) - 1 := w64 (by omega) (by omega)
            rw [if_neg c5, if_neg (by omega), ew, if_pos (by omega), if_pos (by omega)]
            by_cases c6 : bt s ((j : Int) - 1) = 13
            · refine ⟨_, by rw [if_pos c6], fun h => ⟨j, rfl, hsp, fun hm => ?_⟩⟩
              have := hm.2.2.2
              rw [this] at h
              cases h
            · exact ⟨true, by rw [if_neg c6], fun _ => ⟨j, rfl, hsp, fun hm => c6 hm.2.2.1⟩⟩
      · rw [if_neg c3]
        have hsp : Sp s j := ⟨by omega, fun h => by omega⟩
        have hm : ¬ Mid s j := fun h => by have := h.2.1; omega
        by_cases c5 : (j : Int) = 0
        · exact ⟨true, by rw [if_pos c5], fun _ => ⟨j, rfl, hsp, hm⟩⟩
        · exact ⟨true, by rw [if_neg c5, if_pos (by omega)], fun _ => ⟨j, rfl, hsp, hm⟩⟩
/-! ### LineOf -/
theorem lineEnd_tells (c : Int) : spec_LineEnd.f c = some (isEnd c) := by
  unfold spec_LineEnd.f isEnd
  by_cases c1 : c = 10
  · rw [if_pos c1, decide_eq_true (by omega)]
  · rw [if_neg c1]
    by_cases c2 : c = 13
    · rw [if_pos c2, decide_eq_true (by omega)]
    · rw [if_neg c2]
      by_cases c3 : c = 8232
      · rw [if_pos c3, decide_eq_true (by omega)]
      · rw [if_neg c3]
        congr 1
        by_cases c4 : c = 8233
        · rw [decide_eq_true (by omega), c4]; rfl
        · rw [decide_eq_false (by omega), beq_eq_false_iff_ne.2 c4]
theorem Rn.at {s : ByteArray} {i w : Nat} {c : Int} (h : Rn s i c w) : runeAt s (i : Int) = (c, (w : Int)) ∧ ¬ (w : Int) = 0 := ⟨h.1, by have := h.2; omega⟩
theorem end_tells {s : ByteArray} (hs : s.size ≤ 4096) {j ls le x : Nat} {line : Int} (hj : ls ≤ j ∧ j ≤ s.size) (h : EndAt s x le) (hx : ls ≤ x) : Ev (fun k => spec_LineOf.l1 k s (j : Int) line (ls : Int) (x : Int)) (line, (j : Int) - (ls : Int), s.extract ls le) := by
  have ej : wrap64 ((j : Int) - (ls : Int)) = (j : Int) - (ls : Int) := w64 (by omega) (by omega)
  induction h with
  | last =>
    refine Ev.step (fun k => ?_) (Ev.now _)
    simp only [spec_LineOf.l1]
    rw [if_neg (by omega), if_pos (by omega), if_pos (by omega), if_pos (by omega), ej, Int.toNat_natCast, Int.toNat_natCast]
  | stop i w c hr hc =>
    have hf := hr.facts
    refine Ev.step (fun k => by simp only [spec_LineOf.l1]; rw [if_pos (by omega)]) (Ev.bind (rune_ev s hs i) (Ev.congr (fun k => ?_) (Ev.now _)))
    rw [hr.1]
    simp only
    rw [if_neg hr.at.2, lineEnd_tells, hc, Option.bind_some, if_pos rfl, if_pos (by omega), if_pos (by omega), if_pos (by omega), ej, Int.toNat_natCast, Int.toNat_natCast]
  | next i w e c hr hc he ih =>
    have hf := hr.facts
    have ew : wrap64 ((i : Int) + (w : Int)) = ((i + w : Nat) : Int) := by rw [← Int.natCast_add]; exact w64n _ (by omega)
    refine Ev.step (fun k => by simp only [spec_LineOf.l1]; rw [if_pos (by omega)]) (Ev.bind (rune_ev s hs i) (Ev.congr (fun k => ?_) (ih (by omega))))
    rw [hr.1]
    simp only
    rw [if_neg hr.at.2, lineEnd_tells, hc, Option.bind_some, if_neg (by decide), ew]
theorem line_go {s : ByteArray} (hs : s.size ≤ 4096) (hW : Wf s) {j l ls le : Nat} (hj : Sp s j) (hm : ¬ Mid s j) (ht : Tr s j l ls) (he : EndAt s j le) :
    ∀ (m i l0 ls0 : Nat) (x4 x7 : Int), j ≤ i + m → i ≤ j → Tr s i l0 ls0 → (Mid s i → x4 = (l0 : Int)) → (¬ Mid s i → x4 = (l0 : Int) + 1 ∧ x7 = (ls0 : Int)) → Ev (fun k => spec_LineOf.l0 k s (j : Int) x4 x7 (i : Int)) ((l : Int) + 1, (j : Int) - (ls : Int), s.extract ls le) := by
  intro m
  induction m with
  | zero =>
    intro i l0 ls0 x4 x7 h1 h2 h3 h4 h5
    obtain rfl : i = j := by omega
    obtain ⟨rfl, rfl⟩ := h3.inj ht
    obtain ⟨rfl, rfl⟩ := h5 hm
    refine Ev.step (fun k => by simp only [spec_LineOf.l0]; rw [if_neg (by omega)]) (end_tells hs ?_ (ht.ends he) (Nat.le_refl _))
    have := ht.bounds
    omega
  | succ m ih =>
    intro i l0 ls0 x4 x7 h1 h2 h3 h4 h5
    by_cases hi : i < j
    · have hjs := hj.1
      obtain ⟨c, w, hr⟩ := hW i l0 ls0 h3 (by omega)
      have hf := hr.facts
      have hb3 := h3.bounds
      have hle := hj.not_in hr hi
      have ew : wrap64 ((i : Int) + (w : Int)) = ((i + w : Nat) : Int) := by rw [← Int.natCast_add]; exact w64n _ (by omega)
      have hn := Tr.next i l0 ls0 w c h3 hr
      have eb : ((i + w : Nat) : Int) - 1 = ((i + w - 1 : Nat) : Int) := by omega
      have hlast : 1 < w → 128 ≤ bt s (((i + w : Nat) : Int) - 1) := fun h => by rw [eb]; exact (hr.cont (by omega) (by omega)).1
      by_cases hc : isEnd c = true
      · rw [if_pos hc] at hn
        by_cases c13 : c = 13
        · have w1 : w = 1 := (hf.2.2.2.2.2.1 (by omega)).1
          have b13 : bt s (i : Int) = 13 := by have := (hf.2.2.2.2.2.1 (by omega)).2; omega
          have hnm : ¬ Mid s i := fun h => by have := h.2.2.2; omega
          obtain ⟨rfl, rfl⟩ := h5 hnm
          have ead : adds s i c = true := by unfold adds; rw [if_neg (by omega)]; exact hc
          rw [if_pos ead] at hn
          have e4 : wrap64 ((l0 : Int) + 1 + 1) = ((l0 + 1 : Nat) : Int) + 1 := w64 (by omega) (by omega)
          by_cases hlf : i + w < s.size ∧ bt s ((i + w : Nat) : Int) = 10
          · refine Ev.step (fun k => by simp only [spec_LineOf.l0]; rw [if_pos (by omega)]) (Ev.bind (rune_ev s hs i) (Ev.congr (fun k => ?_) (ih (i + w) _ _ ((l0 : Int) + 1) (ls0 : Int) (by omega) hle hn (fun _ => by omega) (fun h => absurd ⟨by omega, hlf.1, ?_, hlf.2⟩ h))))
            · rw [hr.1]
              simp only
              rw [if_neg hr.at.2, lineEnd_tells, hc, Option.bind_some, if_pos rfl, if_pos c13, ew, if_pos (by omega), if_pos (by omega), if_pos hlf.2]
            · have : ((i + w : Nat) : Int) - 1 = (i : Int) := by omega
              rw [this, b13]
          · have hnm2 : ¬ Mid s (i + w) := fun h => hlf ⟨h.2.1, h.2.2.2⟩
            refine Ev.step (fun k => by simp only [spec_LineOf.l0]; rw [if_pos (by omega)]) (Ev.bind (rune_ev s hs i) (Ev.congr (fun k => ?_) (ih (i + w) _ _ (((l0 + 1 : Nat) : Int) + 1) ((i + w : Nat) : Int) (by omega) hle hn (fun h => absurd h hnm2) (fun _ => ⟨rfl, rfl⟩))))
            rw [hr.1]
            simp only
            rw [if_neg hr.at.2, lineEnd_tells, hc, Option.bind_some, if_pos rfl, if_pos c13, ew, e4]
            by_cases q1 : i + w < s.size
            · rw [if_pos (by omega), if_pos (by omega), if_neg (fun h => hlf ⟨q1, h⟩)]
            · rw [if_neg (by omega)]
        · have hnm2 : ¬ Mid s (i + w) := fun h => by
            have h13 := h.2.2.1
            by_cases w1 : 1 < w
            · have := hlast w1; omega
            · have e1 : ((i + w : Nat) : Int) - 1 = (i : Int) := by omega
              rw [e1] at h13
              have := hf.2.2.2.2.2.2.2.1 (by omega)
              omega
          have hx : wrap64 (x4 + 1) = ((if adds s i c then l0 + 1 else l0 : Nat) : Int) + 1 := by
            unfold adds
            by_cases c10 : c = 10
            · have b10 : bt s (i : Int) = 10 := by have := (hf.2.2.2.2.2.1 (by omega)).2; omega
              rw [if_pos c10]
              by_cases hmi : Mid s i
              · rw [h4 hmi, decide_eq_false (by have h1 := hmi.1; have h2 := hmi.2.2.1; omega)]
                simp only [Bool.false_eq_true, if_false]
                exact w64 (by omega) (by omega)
              · rw [(h5 hmi).1, decide_eq_true (by
                  by_cases z : i = 0
                  · exact Or.inl z
                  · exact Or.inr (fun h => hmi ⟨by omega, by omega, h, b10⟩))]
                simp only [if_true]
                have := w64 (x := (l0 : Int) + 1 + 1) (by omega) (by omega)
                rw [this]
                omega
            · rw [if_neg c10, hc]
              have hmi : ¬ Mid s i := fun h => by
                have h10 := h.2.2.2
                have := hf.2.2.2.2.2.2.2.1 (by omega)
                omega
              rw [(h5 hmi).1]
              simp only [if_true]
              have := w64 (x := (l0 : Int) + 1 + 1) (by omega) (by omega)
              rw [this]
              omega
          refine Ev.step (fun k => by simp only [spec_LineOf.l0]; rw [if_pos (by omega)]) (Ev.bind (rune_ev s hs i) (Ev.congr (fun k => ?_) (ih (i + w) _ _ _ _ (by omega) hle hn (fun h => absurd h hnm2) (fun _ => ⟨rfl, rfl⟩))))
          rw [hr.1]
          simp only
          rw [if_neg hr.at.2, lineEnd_tells, hc, Option.bind_some, if_pos rfl, if_neg c13, ew, hx]
      · have hc' : isEnd c = false := by simpa using hc
        have hne := (isEnd_not c).1 hc'
        rw [hc'] at hn
        have ead : adds s i c = false := by unfold adds; rw [if_neg (by omega)]; exact hc'
        rw [ead] at hn
        simp only [Bool.false_eq_true, if_false] at hn
        have hmi : ¬ Mid s i := fun h => by
          have h10 := h.2.2.2
          have := hf.2.2.2.2.2.2.2.1 (by omega)
          omega
        obtain ⟨rfl, rfl⟩ := h5 hmi
        have hnm2 : ¬ Mid s (i + w) := fun h => by
          have h13 := h.2.2.1
          by_cases w1 : 1 < w
          · have := hlast w1; omega
          · have e1 : ((i + w : Nat) : Int) - 1 = (i : Int) := by omega
            rw [e1] at h13
            have := hf.2.2.2.2.2.2.2.1 (by omega)
            omega
        refine Ev.step (fun k => by simp only [spec_LineOf.l0]; rw [if_pos (by omega)]) (Ev.bind (rune_ev s hs i) (Ev.congr (fun k => ?_) (ih (i + w) _ _ _ _ (by omega) hle hn (fun h => absurd h hnm2) (fun _ => ⟨rfl, rfl⟩))))
        rw [hr.1]
        simp only
        rw [if_neg hr.at.2, lineEnd_tells, hc', Option.bind_some, if_neg (by decide), ew]
    · exact ih i l0 ls0 x4 x7 (by omega) h2 h3 h4 h5
theorem line_tells {s : ByteArray} (hs : s.size ≤ 4096) (hW : Wf s) {j l ls le : Nat} (hj : Sp s j) (hm : ¬ Mid s j) (ht : Tr s j l ls) (he : EndAt s j le) :
    ∃ k, spec_LineOf.f k s (j : Int) = some ((l : Int) + 1, (j : Int) - (ls : Int), s.extract ls le) :=
  (line_go hs hW hj hm ht he j 0 0 0 1 0 (by omega) (by omega) .zero (fun h => by have := h.1; omega) (fun _ => ⟨rfl, rfl⟩)).rounds
end Go.Proofs.YtckgmnpcnoanhaaDoor
