/- What the texts of the names are: plain Lean, no program. -/
import Derived.Test.YtlbamdlegloieaaDoorExtImpl
import Derived.Test.YtlbamdlegloieaaDoorPFnShuffledNamex1
set_option linter.unusedVariables false
set_option linter.unusedSimpArgs false
namespace Go.Proofs.YtlbamdlegloieaaDoor
open Go Go.RowKit Go.Proofs.YtlbamdlegloieaaDoorW.PrintWords Go.Proofs.YtlbamdlegloieaaDoorW.PrintLast Go.Proofs.YtlbamdlegloieaaDoorW.PrintMore Go.Proofs.YtlbamdlegloieaaDoor.PFnShuffledName
theorem data_append (a b : ByteArray) : (a ++ b).data.toList = a.data.toList ++ b.data.toList := by
  rw [ByteArray.data_append, Array.toList_append]
theorem tailB_list (L : List El) : (tailB L).data.toList = L.flatMap fun x => x.c.data.toList := by
  have h : ∀ (L : List El) (s : ByteArray), (L.foldl (fun s x => s ++ x.c) s).data.toList = s.data.toList ++ L.flatMap fun x => x.c.data.toList := by
    intro L
    induction L with
    | nil => intro s; simp
    | cons x r ih => intro s; rw [List.foldl_cons, ih, data_append, List.flatMap_cons, List.append_assoc]
  exact (h L _).trans (by simp)
theorem headB_list (L : List El) : (headB L).data.toList = (L.filter fun x => numS x.c).flatMap fun x => x.c.data.toList := by
  have h : ∀ (L : List El) (s : ByteArray), (L.foldl (fun s x => if numS x.c then s ++ x.c else s) s).data.toList = s.data.toList ++ (L.filter fun x => numS x.c).flatMap fun x => x.c.data.toList := by
    intro L
    induction L with
    | nil => intro s; simp
    | cons x r ih =>
      intro s
      rw [List.foldl_cons, ih]
      by_cases e : numS x.c = true
      · rw [if_pos e, List.filter_cons_of_pos (by exact e), data_append, List.flatMap_cons, List.append_assoc]
      · rw [if_neg e, List.filter_cons_of_neg (by exact e)]
  exact (h L _).trans (by simp)
theorem shuf_perm (l : List Int) : (shuf l).Perm ((List.range 64).map (elOf abcT l)) := by
  obtain ⟨⟨h1, _, h2⟩, _⟩ := sortE swoE (elems abcT l)
  have hd : (elems abcT l).size = 64 := by simp [elems]
  rw [hd] at h1 h2
  have e1 : (Go.Sort.sort ltE (elems abcT l)).extract 0 64 = Go.Sort.sort ltE (elems abcT l) := by rw [← h1]; exact Array.extract_size
  have e2 : (elems abcT l).extract 0 64 = elems abcT l := by rw [← hd]; exact Array.extract_size
  rw [e1, e2] at h2
  have e3 : (elems abcT l).toList = (List.range 64).map (elOf abcT l) := by simp [elems]
  rw [e3] at h2
  exact h2
def sign (j : Nat) : ByteArray := abcT.extract j (j + 1)
theorem tail_perm (l : List Int) : (tailB (shuf l)).data.toList.Perm abcT.data.toList := by
  rw [tailB_list]
  refine ((shuf_perm l).flatMap_right _).trans ?_
  rw [List.flatMap_map]
  have e : ((List.range 64).flatMap fun j => (sign j).data.toList) = abcT.data.toList := by decide +kernel
  exact (show ((List.range 64).flatMap fun j => (sign j).data.toList).Perm abcT.data.toList from e ▸ List.Perm.refl _)
theorem head_perm (l : List Int) : (headB (shuf l)).data.toList.Perm abcH.data.toList := by
  rw [headB_list]
  refine (((shuf_perm l).filter _).flatMap_right _).trans ?_
  rw [List.filter_map, List.flatMap_map]
  have e : (((List.range 64).filter fun j => numS (sign j)).flatMap fun j => (sign j).data.toList) = abcH.data.toList := by decide +kernel
  exact (show (((List.range 64).filter fun j => numS (sign j)).flatMap fun j => (sign j).data.toList).Perm abcH.data.toList from e ▸ List.Perm.refl _)
theorem tail_size (l : List Int) : (tailB (shuf l)).size = 64 := by
  have h := (tail_perm l).length_eq
  rw [Array.length_toList, Array.length_toList] at h
  exact h.trans (by decide)
theorem head_size (l : List Int) : (headB (shuf l)).size = 54 := by
  have h := (head_perm l).length_eq
  rw [Array.length_toList, Array.length_toList] at h
  exact h.trans (by decide)
theorem tail_nodup (l : List Int) : (tailB (shuf l)).data.toList.Nodup := (tail_perm l).nodup_iff.2 (by decide +kernel)
theorem head_nodup (l : List Int) : (headB (shuf l)).data.toList.Nodup := (head_perm l).nodup_iff.2 (by decide +kernel)
/-- Signs at unlike places are unlike. -/
theorem at_inj (s : ByteArray) (h : s.data.toList.Nodup) (i j : Nat) (hi : i < s.size) (hj : j < s.size) (e : s.data[i]! = s.data[j]!) : i = j := by
  have hi2 : i < s.data.size := hi
  have hj2 : j < s.data.size := hj
  rw [getElem!_pos s.data i hi2, getElem!_pos s.data j hj2] at e
  have hp := List.pairwise_iff_getElem.1 h
  have l1 : i < s.data.toList.length := by rw [Array.length_toList]; exact hi2
  have l2 : j < s.data.toList.length := by rw [Array.length_toList]; exact hj2
  have e1 : s.data.toList[i] = s.data.toList[j] := by
    rw [Array.getElem_toList, Array.getElem_toList]
    exact e
  rcases Nat.lt_trichotomy i j with hlt | hlt | hlt
  · exact absurd e1 (hp i j l1 l2 hlt)
  · exact hlt
  · exact absurd e1.symm (hp j i l2 l1 hlt)
theorem tails_inj (t : ByteArray) (h : t.data.toList.Nodup) (hs : 0 < t.size) : ∀ n m, tails t n = tails t m → n = m := by
  intro n
  induction n using Nat.strongRecOn with
  | _ n ih =>
    intro m e
    cases n with
    | zero =>
      cases m with
      | zero => rfl
      | succ m => rw [tails_zero, tails_succ] at e; cases e
    | succ n =>
      cases m with
      | zero => rw [tails_zero, tails_succ] at e; cases e
      | succ m =>
        rw [tails_succ, tails_succ] at e
        injection e with e1 e2
        have h1 := at_inj t h _ _ (Nat.mod_lt _ hs) (Nat.mod_lt _ hs) e1
        have h2 := ih (n / t.size) (Nat.lt_succ_of_le (Nat.div_le_self _ _)) _ e2
        rw [← Nat.div_add_mod n t.size, ← Nat.div_add_mod m t.size, h1, h2]
theorem mini_inj (h t : ByteArray) (hh : h.data.toList.Nodup) (ht : t.data.toList.Nodup) (h0 : 0 < h.size) (t0 : 0 < t.size) (i k : Nat) (e : mini h t i = mini h t k) : i = k := by
  unfold mini at e
  injection e with e1 e2
  have h1 := at_inj h hh _ _ (Nat.mod_lt _ h0) (Nat.mod_lt _ h0) e1
  have h2 := tails_inj t ht t0 _ _ e2
  rw [← Nat.div_add_mod i h.size, ← Nat.div_add_mod k h.size, h1, h2]
theorem tails_len_eq (t t' : ByteArray) (h : t.size = t'.size) : ∀ n, (tails t n).length = (tails t' n).length := by
  intro n
  induction n using Nat.strongRecOn with
  | _ n ih =>
    cases n with
    | zero => rw [tails_zero, tails_zero]
    | succ n =>
      rw [tails_succ, tails_succ, List.length_cons, List.length_cons, ← h, ih (n / t.size) (Nat.lt_succ_of_le (Nat.div_le_self _ _))]
theorem mini_len_eq (h t h' t' : ByteArray) (e1 : h.size = h'.size) (e2 : t.size = t'.size) (i : Nat) : (mini h t i).length = (mini h' t' i).length := by
  unfold mini
  rw [List.length_cons, List.length_cons, e1, tails_len_eq t t' e2]
/-- A byte that may stand in a name, behind its first sign. -/
def goesB (c : UInt8) : Bool := spec_NameGoesOn.f (wrap64 (c.toNat : Int)) == some true
def beginsB (c : UInt8) : Bool := spec_NameBegins.f (wrap64 (c.toNat : Int)) == some true
theorem tails_goes (t : ByteArray) (ht : ∀ c ∈ t.data.toList, goesB c = true) (hs : 0 < t.size) : ∀ n, ∀ c ∈ tails t n, goesB c = true := by
  intro n
  induction n using Nat.strongRecOn with
  | _ n ih =>
    cases n with
    | zero => intro c hc; rw [tails_zero] at hc; cases hc
    | succ n =>
      intro c hc
      rw [tails_succ] at hc
      rcases List.mem_cons.1 hc with e | hc
      · subst e
        refine ht _ ?_
        have hm : n % t.size < t.data.size := Nat.mod_lt _ hs
        rw [getElem!_pos t.data _ hm]
        exact Array.getElem_mem_toList _
      · exact ih (n / t.size) (Nat.lt_succ_of_le (Nat.div_le_self _ _)) c hc
theorem all_goes : abcT.data.toList.all goesB = true := by decide +kernel
theorem all_begins : (abcH.data.toList.all fun c => beginsB c && goesB c) = true := by decide +kernel
theorem tail_goes (l : List Int) : ∀ c ∈ (tailB (shuf l)).data.toList, goesB c = true := fun c hc => List.all_eq_true.1 all_goes c ((tail_perm l).mem_iff.1 hc)
theorem head_begins (l : List Int) : ∀ c ∈ (headB (shuf l)).data.toList, beginsB c = true ∧ goesB c = true := fun c hc => by
  have := List.all_eq_true.1 all_begins c ((head_perm l).mem_iff.1 hc)
  simpa using this
theorem bt_mk (x : List UInt8) (j : Nat) (h : j < x.length) : bt ⟨x.toArray⟩ (j : Int) = (x[j].toNat : Int) := by
  have hs : ((j : Nat) : Int).toNat < (⟨x.toArray⟩ : ByteArray).size := by rw [Int.toNat_natCast]; exact h
  rw [← bt_at _ _ hs]
  simp [ByteArray.getElem_eq_getElem_data]
/-- A text whose first byte begins names, all others going on in them, is a name. -/
theorem name_loop (c : UInt8) (r : List UInt8) (hb : beginsB c = true) (hg : goesB c = true) (hr : ∀ x ∈ r, goesB x = true) (hlen : r.length ≤ 1073741825) : ∀ n j, j + n = (c :: r).length → spec_NameAscii.l0 (n + 1) ⟨(c :: r).toArray⟩ (j : Int) = some true := by
  have hb2 : spec_NameBegins.f (wrap64 (c.toNat : Int)) = some true := by simpa [beginsB] using hb
  have hall : ∀ x ∈ c :: r, spec_NameGoesOn.f (wrap64 (x.toNat : Int)) = some true := by
    intro x hx
    have : goesB x = true := by
      rcases List.mem_cons.1 hx with e | hx
      · rw [e]; exact hg
      · exact hr x hx
    simpa [goesB] using this
  have hsz : (⟨(c :: r).toArray⟩ : ByteArray).size = (c :: r).length := rfl
  intro n
  induction n with
  | zero =>
    intro j hj
    rw [spec_NameAscii.l0, if_neg (by rw [hsz]; omega)]
    have : (⟨(c :: r).toArray⟩ : ByteArray).toList = c :: r := Lib.toList_data _
    rw [this]
    rfl
  | succ n ih =>
    intro j hj
    have hjl : j < (c :: r).length := by omega
    have hjb : j < 1073741827 := by rw [List.length_cons] at hjl; omega
    rw [spec_NameAscii.l0, if_pos (by rw [hsz]; omega), if_pos (by omega), bt_mk _ j hjl, hall _ (List.getElem_mem hjl)]
    have hw : wrap64 ((j : Int) + 1) = ((j + 1 : Nat) : Int) := by rw [i64 _ (by omega) (by omega)]; rfl
    simp only [Option.bind_some, ↓reduceIte]
    rw [hw]
    by_cases h0 : j = 0
    · subst h0
      rw [if_pos (show ((0 : Nat) : Int) = 0 from rfl), show wrap64 ((((c :: r)[0]'hjl).toNat : Nat) : Int) = wrap64 (c.toNat : Int) from rfl, hb2]
      simp only [Option.bind_some, ↓reduceIte]
      exact ih 1 (by omega)
    · rw [if_neg (by omega)]
      exact ih (j + 1) (by omega)
theorem mini_name (l : List Int) (i : Nat) (hi : i ≤ 1073741824) : ∃ k, spec_NameAscii.f k ⟨(mini (headB (shuf l)) (tailB (shuf l)) i).toArray⟩ = some true := by
  have hh := head_size l
  have ht := tail_size l
  have hm : i % (headB (shuf l)).size < (headB (shuf l)).data.size := Nat.mod_lt _ (by omega)
  have hc := head_begins l ((headB (shuf l)).data[i % (headB (shuf l)).size]!) (by
    rw [getElem!_pos (headB (shuf l)).data _ hm]
    exact Array.getElem_mem_toList _)
  have hr := tails_goes (tailB (shuf l)) (tail_goes l) (by omega) (i / (headB (shuf l)).size)
  have hl := tails_len (tailB (shuf l)) (i / (headB (shuf l)).size)
  have hd := Nat.div_le_self i (headB (shuf l)).size
  exact ⟨_, name_loop _ _ hc.1 hc.2 hr (by omega) _ 0 (by rw [Nat.zero_add])⟩
end Go.Proofs.YtlbamdlegloieaaDoor
