/- Forests: what links tell who stands for whom; a path made short, two trees joined. Plain Lean. -/
import Derived.Test.YtfjfacgbambbdaaDoorPFnMergedx1
import Derived.Lib.Hide
namespace Go.Proofs.YtfjfacgbambbdaaDoor
/-- L: links; ρ: who stands for whom; d: a depth that falls along links. -/
def Forest (L : Nat → Option Nat) (n : Nat) (ρ d : Nat → Nat) : Prop :=
  ∀ i, i < n → (L i = none ∧ ρ i = i) ∨ ∃ j, L i = some j ∧ j < n ∧ ρ j = ρ i ∧ d j < d i
namespace Forest
variable {L : Nat → Option Nat} {n : Nat} {ρ d : Nat → Nat}
theorem root_of (h : Forest L n ρ d) : ∀ (m i : Nat), d i ≤ m → i < n → ρ i < n ∧ ρ (ρ i) = ρ i ∧ ((L i = none ∧ ρ i = i) ∨ (L i ≠ none ∧ d (ρ i) < d i)) := by
  intro m
  induction m with
  | zero =>
    intro i hm hi
    rcases h i hi with ⟨hl, hr⟩ | ⟨j, hl, hj, hr, hd⟩
    · exact ⟨by omega, by rw [hr, hr], .inl ⟨hl, hr⟩⟩
    · omega
  | succ m ih =>
    intro i hm hi
    rcases h i hi with ⟨hl, hr⟩ | ⟨j, hl, hj, hr, hd⟩
    · exact ⟨by omega, by rw [hr, hr], .inl ⟨hl, hr⟩⟩
    · obtain ⟨h1, h2, h3⟩ := ih j (by omega) hj
      rw [hr] at h1 h2 h3
      refine ⟨h1, h2, .inr ⟨by rw [hl]; simp, ?_⟩⟩
      rcases h3 with ⟨_, h3⟩ | ⟨_, h3⟩
      · rw [h3]; exact hd
      · omega
theorem lt (h : Forest L n ρ d) {i : Nat} (hi : i < n) : ρ i < n := (h.root_of (d i) i (Nat.le_refl _) hi).1
theorem idem (h : Forest L n ρ d) {i : Nat} (hi : i < n) : ρ (ρ i) = ρ i := (h.root_of (d i) i (Nat.le_refl _) hi).2.1
theorem none_root (h : Forest L n ρ d) {i : Nat} (hi : i < n) (hl : L i = none) : ρ i = i := by
  rcases (h.root_of (d i) i (Nat.le_refl _) hi).2.2 with ⟨_, h3⟩ | ⟨h3, _⟩
  · exact h3
  · exact absurd hl h3
theorem some_next (h : Forest L n ρ d) {i j : Nat} (hi : i < n) (hl : L i = some j) : j < n ∧ ρ j = ρ i ∧ d j < d i ∧ ρ i ≠ i ∧ d (ρ i) < d i := by
  rcases h i hi with ⟨hl', _⟩ | ⟨j', hl', hj, hr, hd⟩
  · rw [hl] at hl'; cases hl'
  · rw [hl] at hl'
    cases hl'
    rcases (h.root_of (d i) i (Nat.le_refl _) hi).2.2 with ⟨h3, _⟩ | ⟨_, h3⟩
    · rw [hl] at h3; cases h3
    · exact ⟨hj, hr, hd, fun e => by rw [e] at h3; omega, h3⟩
theorem deep (h : Forest L n ρ d) {i : Nat} (hi : i < n) (hne : ρ i ≠ i) : ∃ j, L i = some j ∧ d (ρ i) < d i := by
  rcases (h.root_of (d i) i (Nat.le_refl _) hi).2.2 with ⟨_, h3⟩ | ⟨h3, h4⟩
  · exact absurd h3 hne
  · obtain ⟨j, hj⟩ := Option.ne_none_iff_exists'.1 h3
    exact ⟨j, hj, h4⟩
theorem short (h : Forest L n ρ d) {i r : Nat} (hr : r < n) (he : ρ r = ρ i) (hd : d r < d i) {L' : Nat → Option Nat} (hL : ∀ x, L' x = if x = i then some r else L x) : Forest L' n ρ d := by
  intro x hx
  by_cases e : x = i
  · subst e
    exact .inr ⟨r, by rw [hL, if_pos rfl], hr, he, hd⟩
  · rw [hL, if_neg e]
    exact h x hx
theorem join (h : Forest L n ρ d) {a b : Nat} (ha : a < n) (hb : b < n) (ra : ρ a = a) (rb : ρ b = b) (hab : a ≠ b) (hla : L a = none) {L' : Nat → Option Nat} (hL : ∀ x, L' x = if x = a then some b else L x) :
    Forest L' n (fun x => if ρ x = a then b else ρ x) (fun x => if ρ x = a then d x + d b + 1 else d x) := by
  intro x hx
  by_cases e : x = a
  · subst e
    refine .inr ⟨b, by rw [hL, if_pos rfl], hb, ?_, ?_⟩
    · simp [ra, rb]
    · simp only [ra, rb, if_pos, if_neg (Ne.symm hab)]
      omega
  · rw [hL, if_neg e]
    rcases h x hx with ⟨hl, hr⟩ | ⟨j, hl, hj, hr, hd⟩
    · refine .inl ⟨hl, ?_⟩
      simp only [hr]
      rw [if_neg e]
    · refine .inr ⟨j, hl, hj, ?_, ?_⟩
      · simp only [hr]
      · simp only [hr]
        split <;> omega
end Forest
/-- What merging i into j leaves, and what it tells: r. -/
def Merged (L' : Nat → Option Nat) (n : Nat) (ρ d ρ' d' : Nat → Nat) (i j r : Nat) : Prop :=
  Forest L' n ρ' d' ∧ r < n ∧ (∀ x, x < n → ρ' x = if ρ x = ρ i then ρ j else ρ x) ∧ ((ρ' = ρ ∧ d' = d ∧ r = j ∧ d j ≤ d i ∧ ρ i = ρ j) ∨ r = ρ j)
theorem merged_same {L : Nat → Option Nat} {n : Nat} {ρ d : Nat → Nat} (h : Forest L n ρ d) {i : Nat} (hi : i < n) : Merged L n ρ d ρ d i i i :=
  ⟨h, hi, fun x hx => by
    split
    · next e => exact e
    · rfl, .inl ⟨rfl, rfl, rfl, Nat.le_refl _, rfl⟩⟩
theorem merged_old {L L1 L2 : Nat → Option Nat} {n : Nat} {ρ d ρ1 d1 : Nat → Nat} (h : Forest L n ρ d) {i i' j r : Nat} (hi : i < n) (hj : j < n) (hl : L i = some i') (hm : Merged L1 n ρ d ρ1 d1 i' j r) (hL : ∀ x, L2 x = if x = i then some r else L1 x) :
    Merged L2 n ρ d ρ1 d1 i j r := by
  obtain ⟨h1, hr, hρ, ha⟩ := hm
  obtain ⟨hi', e1, e2, e3, e4⟩ := h.some_next hi hl
  have q1 : ρ1 i = ρ j := by rw [hρ i hi, if_pos e1.symm]
  have q2 : ρ1 r = ρ j := by
    rcases ha with ⟨f1, f2, f3, f4, f5⟩ | f
    · rw [f1, f3]
    · rw [f, hρ _ (h.lt hj), h.idem hj]
      split <;> rfl
  have q3 : d1 r < d1 i := by
    rcases ha with ⟨f1, f2, f3, f4, f5⟩ | f
    · rw [f2, f3]; omega
    · have hne : ρ1 i ≠ i := by
        rw [q1]
        intro e
        have := h.idem hj
        rw [e] at this
        exact e3 this
      obtain ⟨_, _, hd⟩ := h1.deep hi hne
      rw [q1, ← f] at hd
      exact hd
  refine ⟨h1.short hr (by rw [q1, q2]) q3 hL, hr, fun x hx => by rw [hρ x hx, e1], ?_⟩
  rcases ha with ⟨f1, f2, f3, f4, f5⟩ | f
  · exact .inl ⟨f1, f2, f3, by omega, by rw [← e1, f5]⟩
  · exact .inr f
theorem merged_new {L L1 L2 : Nat → Option Nat} {n : Nat} {ρ d ρ1 d1 : Nat → Nat} (h : Forest L n ρ d) {i j j' r : Nat} (hi : i < n) (hj : j < n) (hli : L i = none) (hl : L j = some j') (hm : Merged L1 n ρ d ρ1 d1 i j' r) (hL : ∀ x, L2 x = if x = j then some r else L1 x) :
    Merged L2 n ρ d ρ1 d1 i j r := by
  obtain ⟨h1, hr, hρ, ha⟩ := hm
  obtain ⟨hj', e1, e2, e3, e4⟩ := h.some_next hj hl
  have hri := h.none_root hi hli
  have hrr : r = ρ j := by
    rcases ha with ⟨f1, f2, f3, f4, f5⟩ | f
    · have q : ρ j' = j' := by
        rcases Classical.em (ρ j' = j') with q | q
        · exact q
        · obtain ⟨_, _, hd⟩ := h.deep hj' q
          rw [← f5, hri] at hd
          omega
      rw [f3, ← e1, q]
    · rw [f, e1]
  have q1 : ρ1 j = ρ j := by
    rw [hρ j hj, e1]
    split <;> rfl
  have q2 : ρ1 r = ρ j := by
    rw [hrr, hρ _ (h.lt hj), h.idem hj, e1]
    split <;> rfl
  have q3 : d1 r < d1 j := by
    have hne : ρ1 j ≠ j := by rw [q1]; exact e3
    obtain ⟨_, _, hd⟩ := h1.deep hj hne
    rw [q1, ← hrr] at hd
    exact hd
  exact ⟨h1.short hr (by rw [q1, q2]) q3 hL, hr, fun x hx => by rw [hρ x hx, e1], .inr hrr⟩
theorem merged_join {L L' : Nat → Option Nat} {n : Nat} {ρ d : Nat → Nat} (h : Forest L n ρ d) {i j : Nat} (hi : i < n) (hj : j < n) (hij : i ≠ j) (hli : L i = none) (hlj : L j = none) (hL : ∀ x, L' x = if x = i then some j else L x) :
    ∃ ρ' d', Merged L' n ρ d ρ' d' i j j := by
  have ri := h.none_root hi hli
  have rj := h.none_root hj hlj
  exact ⟨_, _, h.join hi hj ri rj hij hli hL, hj, fun x hx => by simp only [ri, rj], .inr rj.symm⟩
end Go.Proofs.YtfjfacgbambbdaaDoor
