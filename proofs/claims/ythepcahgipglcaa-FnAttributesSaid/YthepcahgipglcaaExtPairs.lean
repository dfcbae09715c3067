/- The map of pairs with unlike keys, and what comes back of it: plain facts. -/
import Derived.Test.YthepcahgipglcaaExtDec
set_option linter.unusedVariables false
namespace Go.Proofs.Ythepcahgipglcaa
open Go.RowKit Go.Maps Go.Sort Go.Proofs.YthepcahgipglcaaW.PrintWords Go.Proofs.YthepcahgipglcaaW.PrintLast
def key (p : SP) : Bs := p.1.data.toList
def val (p : SP) : Bs := p.2.data.toList
theorem asS_back (p : SP) : asS (key p, val p) = p := by
  obtain ⟨⟨a⟩, ⟨b⟩⟩ := p
  simp [asS, key, val]
theorem isMap_put {D : DataW Unit} (h : Maps.IsMap D) (k : Lit) (d : DataW Unit) : Maps.IsMap (D.put k d) := by
  obtain ⟨es, rfl⟩ := h
  exact ⟨_, rfl⟩
theorem isMap_fold : ∀ (ps : List SP) (D : DataW Unit), Maps.IsMap D → Maps.IsMap (ps.foldl putP D)
  | [], D, h => h
  | p :: l, D, h => isMap_fold l _ (isMap_put h _ _)
theorem has_fold : ∀ (ps : List SP) (D : DataW Unit), Maps.IsMap D → ∀ x : Bs, (Maps.has (ps.foldl putP D) (.string x) = true ↔ Maps.has D (.string x) = true ∨ ∃ p ∈ ps, key p = x)
  | [], D, h, x => by simp
  | p :: l, D, h, x => by
    rw [List.foldl_cons, has_fold l (putP D p) (isMap_put h _ _) x]
    by_cases e : key p = x
    · subst e
      have : Maps.has (putP D p) (.string (key p)) = true := has_put_same h (strKey _) _
      constructor
      · intro _; exact Or.inr ⟨p, List.mem_cons_self .., rfl⟩
      · intro _; exact Or.inl this
    · have : Maps.has (putP D p) (.string x) = Maps.has D (.string x) := has_put_other (by intro h2; injection h2 with h2; exact e h2.symm) _
      rw [this]
      constructor
      · rintro (h1 | ⟨q, hq, h2⟩)
        · exact Or.inl h1
        · exact Or.inr ⟨q, List.mem_cons_of_mem _ hq, h2⟩
      · rintro (h1 | ⟨q, hq, h2⟩)
        · exact Or.inl h1
        · rcases List.mem_cons.1 hq with rfl | hq
          · exact absurd h2 e
          · exact Or.inr ⟨q, hq, h2⟩
theorem at_fold_other : ∀ (ps : List SP) (D : DataW Unit) (x : Bs) (z : DataW Unit), (∀ p ∈ ps, key p ≠ x) → (ps.foldl putP D).atKey (.string x) z = D.atKey (.string x) z
  | [], D, x, z, h => rfl
  | p :: l, D, x, z, h => by
    rw [List.foldl_cons, at_fold_other l _ x z (fun q hq => h q (List.mem_cons_of_mem _ hq))]
    exact atKey_put_other (by intro h2; injection h2 with h2; exact h p (List.mem_cons_self ..) h2.symm) _ _
theorem at_fold : ∀ (ps : List SP) (D : DataW Unit), Maps.IsMap D → (ps.map key).Nodup → ∀ p ∈ ps, ∀ z, (ps.foldl putP D).atKey (.string (key p)) z = .lit (.string (val p))
  | [], D, h, hn, p, hp, z => by cases hp
  | q :: l, D, h, hn, p, hp, z => by
    rw [List.map_cons, List.nodup_cons] at hn
    rw [List.foldl_cons]
    rcases List.mem_cons.1 hp with rfl | hp
    · rw [at_fold_other l _ _ _ (fun r hr e => hn.1 (by rw [← e]; exact List.mem_map.2 ⟨r, hr, rfl⟩))]
      exact atKey_put_same h (strKey _) _ _
    · exact at_fold l _ (isMap_put h _ _) hn.2 p hp z
theorem isMap_nil : Maps.IsMap (DataW.map (H := Unit) []) := ⟨_, rfl⟩
theorem has_mapOf (ps : List SP) (x : Bs) : Maps.has (mapOf ps) (.string x) = true ↔ ∃ p ∈ ps, key p = x := by
  unfold mapOf
  rw [has_fold ps _ isMap_nil x]
  constructor
  · rintro (h | h)
    · cases h
    · exact h
  · exact Or.inr
theorem val_mapOf {ps : List SP} (hn : (ps.map key).Nodup) {p : SP} (hp : p ∈ ps) : valOf (mapOf ps) (key p) = val p := by
  unfold valOf mapOf
  rw [at_fold ps _ isMap_nil hn p hp]
/-- What comes back. -/
def back (ps : List SP) (ks : List Bs) : List SP := (pairsOf (mapOf ps) (ks.mergeSort leB)).map asS
structure Told (ps out : List SP) : Prop where
  len : out.length = ps.length
  mem : ∀ i : Nat, i < out.length → rdP out i ∈ ps
  inc : ∀ i : Nat, i + 1 < out.length → key (rdP out i) < key (rdP out (i + 1))
theorem back_told {ps : List SP} {ks : List Bs} (hn : (ps.map key).Nodup) (h1 : ks.Nodup) (h2 : ∀ x, x ∈ ks ↔ Maps.has (mapOf ps) (.string x) = true) : Told ps (back ps ks) := by
  have hmem : ∀ x, x ∈ ks ↔ x ∈ ps.map key := fun x => by rw [h2 x, has_mapOf, List.mem_map]
  have hperm : ks.Perm (ps.map key) := (List.perm_ext_iff_of_nodup h1 hn).2 hmem
  have hlen : (back ps ks).length = ps.length := by
    unfold back pairsOf
    rw [List.length_map, List.length_map, List.length_mergeSort, hperm.length_eq, List.length_map]
  have hg : ∀ i : Nat, i < (back ps ks).length → ∃ (hi : i < (ks.mergeSort leB).length), rdP (back ps ks) i = asS ((ks.mergeSort leB)[i], valOf (mapOf ps) (ks.mergeSort leB)[i]) := fun i hi => by
    have hi' : i < (ks.mergeSort leB).length := by
      unfold back pairsOf at hi
      rwa [List.length_map, List.length_map] at hi
    refine ⟨hi', ?_⟩
    unfold rdP back pairsOf
    rw [List.getD_eq_getElem?_getD, List.getElem?_map, List.getElem?_map, List.getElem?_eq_getElem hi']
    rfl
  have hk : ∀ p : Bs × Bs, key (asS p) = p.1 := fun p => by simp [key, asS]
  refine ⟨hlen, fun i hi => ?_, fun i hi => ?_⟩
  · obtain ⟨hi', e⟩ := hg i hi
    have hm : (ks.mergeSort leB)[i] ∈ ps.map key := (hmem _).1 (List.mem_mergeSort.1 (List.getElem_mem hi'))
    obtain ⟨p, hp, hpk⟩ := List.mem_map.1 hm
    rw [e, ← hpk, val_mapOf hn hp, asS_back]
    exact hp
  · obtain ⟨hi1, e1⟩ := hg i (by omega)
    obtain ⟨hi2, e2⟩ := hg (i + 1) hi
    rw [e1, e2, hk, hk]
    have tr : ∀ a b c : List UInt8, leB a b = true → leB b c = true → leB a c = true := fun a b c h1 h2 => by simp only [leB, decide_eq_true_eq] at *; exact List.le_trans h1 h2
    have tot : ∀ a b : List UInt8, (leB a b || leB b a) = true := fun a b => by simp only [leB, Bool.or_eq_true, decide_eq_true_eq]; exact List.le_total a b
    have hs := List.pairwise_mergeSort tr tot ks
    have hnd : (ks.mergeSort leB).Nodup := (List.mergeSort_perm ks leB).nodup_iff.2 h1
    have hle : (ks.mergeSort leB)[i] ≤ (ks.mergeSort leB)[i + 1] := by
      have := List.pairwise_iff_getElem.1 hs i (i + 1) hi1 hi2 (by omega)
      simpa [leB] using this
    have hne : (ks.mergeSort leB)[i] ≠ (ks.mergeSort leB)[i + 1] := List.pairwise_iff_getElem.1 hnd i (i + 1) hi1 hi2 (by omega)
    rcases List.le_iff_lt_or_eq.1 hle with h | h
    · exact h
    · exact absurd h hne
end Go.Proofs.Ythepcahgipglcaa
