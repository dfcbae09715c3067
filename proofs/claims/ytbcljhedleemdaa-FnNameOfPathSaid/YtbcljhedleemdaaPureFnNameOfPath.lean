/- The plain law of FnNameOfPath. -/
import Derived.Test.YtbcljhedleemdaaPFnNameOfPathx5
import Derived.KernelRfl
import Derived.Laws.BitsLemmas
import Derived.Laws.RangeAny
namespace Go.Proofs.Ytbcljhedleemdaa.Pure
open Go Go.RowKit  Go.Proofs.Ytbcljhedleemdaa.PFnNameOfPath Go.Proofs.YtbcljhedleemdaaW.PrintWords Go.Proofs.YtbcljhedleemdaaW.PrintLast

/-! ### what EnsureValidIdentifier answers is a plain name -/
def Okl (xs : List Int) : Prop := (∀ x ∈ xs, nameB x = true) ∧ ∀ y ys, xs = y :: ys → startB y = true
theorem letter_start {c : Int} (h : letter c = true) : startB c = true := by
  have h := of_decide_eq_true h
  exact decide_eq_true (by omega)
theorem start_name {c : Int} (h : startB c = true) : nameB c = true := by
  have h := of_decide_eq_true h
  exact decide_eq_true (by omega)
theorem digit_name {c : Int} (h : digit c = true) : nameB c = true := by
  have h := of_decide_eq_true h
  exact decide_eq_true (by omega)
theorem Okl.snoc {xs : List Int} {c : Int} (h : Okl xs) (hn : nameB c = true) (hs : xs = [] → startB c = true) : Okl (xs ++ [c]) := by
  refine ⟨fun x hx => ?_, fun y ys e => ?_⟩
  · rcases List.mem_append.1 hx with h1 | h1
    · exact h.1 x h1
    · rw [List.mem_singleton.1 h1]; exact hn
  · cases xs with
    | nil => simp at e; rw [← e.1]; exact hs rfl
    | cons z zs => simp at e; rw [← e.1]; exact h.2 z zs rfl
theorem gather_ok (st : List Int × Bool) (c : Int) (h : Okl st.1) (hg : st.1 = [] → st.2 = false) : Okl (gather st c).1 ∧ (gather st c).1.length ≤ st.1.length + 2 ∧ ((gather st c).1 = [] → (gather st c).2 = false) := by
  unfold gather
  by_cases hc : letter c = true ∨ (st.1 ≠ [] ∧ digit c = true)
  · rw [if_pos hc]
    have hn : nameB c = true := by
      rcases hc with h1 | h1
      · exact start_name (letter_start h1)
      · exact digit_name h1.2
    have hs : st.1 = [] → startB c = true := fun e => by
      rcases hc with h1 | h1
      · exact letter_start h1
      · exact absurd e h1.1
    by_cases hb : st.2 = true
    · rw [if_pos hb]
      have hne : st.1 ≠ [] := fun e => by rw [hg e] at hb; cases hb
      refine ⟨Okl.snoc (Okl.snoc h (by decide) (fun e => absurd e hne)) hn (fun e => by simp at e), by simp, by simp⟩
    · rw [if_neg hb]
      refine ⟨Okl.snoc h hn hs, by simp, by simp⟩
  · rw [if_neg hc]
    by_cases he : st.1 ≠ []
    · rw [if_pos he]; exact ⟨h, by show st.1.length ≤ _; omega, fun e => absurd e he⟩
    · rw [if_neg he]; exact ⟨h, by omega, hg⟩
theorem gathered_ok (s : ByteArray) : ∀ (b i : Nat) (st : List Int × Bool), Okl st.1 → (st.1 = [] → st.2 = false) → Okl (gathered s b i st).1 ∧ (gathered s b i st).1.length ≤ st.1.length + 2 * b
  | 0, i, st, h, hg => ⟨h, by simp [gathered]⟩
  | b + 1, i, st, h, hg => by
    unfold gathered
    by_cases hi : i < s.size
    · rw [if_pos hi]
      obtain ⟨h1, h2, h3⟩ := gather_ok st ((Utf8.decode s i).1 : Int) h hg
      obtain ⟨h4, h5⟩ := gathered_ok s b (i + (Utf8.decode s i).2) _ h1 h3
      exact ⟨h4, by omega⟩
    · rw [if_neg hi]; exact ⟨h, by omega⟩
theorem bt_strOf (xs : List Int) (j : Nat) (hj : j < xs.length) (hx : nameB xs[j] = true) : bt (strOfNums xs) (j : Int) = xs[j] := by
  have hn := nameB_iff hx
  have hs : j < (strOfNums xs).size := by rw [strOfNums_size]; exact hj
  rw [bt_get _ _ hs]
  have e : (strOfNums xs)[j]'hs = UInt8.ofNat (xs[j]).toNat := by
    show (strOfNums xs).data[j]'_ = _
    simp [strOfNums]
  rw [e]
  simp
  omega
theorem plain_of (xs : List Int) (h : Okl xs) (hne : xs ≠ []) (hl : xs.length ≤ 2000000) : Plain (strOfNums xs) := by
  have hpos := List.length_pos_iff.2 hne
  refine ⟨by rw [strOfNums_size]; exact hpos, by rw [strOfNums_size]; omega, ?_, fun j hj => ?_⟩
  · have h0 := bt_strOf xs 0 hpos (h.1 _ (List.getElem_mem hpos))
    have h1 : bt (strOfNums xs) 0 = xs[0] := h0
    rw [h1]
    obtain ⟨y, ys, e⟩ := List.exists_cons_of_ne_nil hne
    subst e
    exact h.2 y ys rfl
  · rw [strOfNums_size] at hj
    rw [bt_strOf xs j hj (h.1 _ (List.getElem_mem hj))]
    exact h.1 _ (List.getElem_mem hj)
theorem ensure_plain (s : ByteArray) (hs : s.size ≤ 1000) : ∃ r, js_ast_EnsureValidIdentifier.f s = some r ∧ Plain r ∧ r.size ≤ 2001 := by
  obtain ⟨h1, h2⟩ := gathered_ok s s.size 0 ([], false) ⟨by simp, by simp⟩ (fun _ => rfl)
  unfold js_ast_EnsureValidIdentifier.f
  rw [if_pos (by omega)]
  refine ⟨_, rfl, ?_⟩
  simp only [List.length_nil, Nat.zero_add] at h2
  by_cases he : (gathered s s.size 0 ([], false)).1 = []
  · rw [if_pos he]
    refine ⟨⟨by decide, by decide, by decide, fun j hj => ?_⟩, by decide⟩
    have : j = 0 := by have : j < 1 := hj; omega
    subst this
    decide
  · rw [if_neg he]
    exact ⟨plain_of _ h1 he (by omega), by rw [strOfNums_size]; omega⟩

/-! ### the reference's reader of entity names -/
theorem ident_plain (s : ByteArray) (h : Plain s) : spec_isIdentifierName.f s = some true := by
  unfold spec_isIdentifierName.f spec_Next.f
  rw [if_pos ⟨rfl, rfl, rfl, (plainB_iff s).2 h⟩]
  simp
theorem en_step (t : ByteArray) (l : List ByteArray) (x5 : Int) (i : Nat) (hi : i < t.size) (hs : t.size ≤ 2147483647) (hb : bt t (i : Int) ≠ 46) {res : List ByteArray × Bool}
    (h : Ev (fun k => spec_EntityName.l0 k t l x5 ((i + 1 : Nat) : Int)) res) : Ev (fun k => spec_EntityName.l0 k t l x5 (i : Int)) res := by
  have e : wrap64 ((i : Int) + 1) = ((i + 1 : Nat) : Int) := by rw [w64' (by omega) (by omega)]; omega
  have e2 : (bt t (i : Int) != 46) = true := by simpa using hb
  have hj : Ev (fun k => spec_EntityName.j1 k t l x5 (i : Int) true) res := Ev.step (fun k => by rw [spec_EntityName.j1, if_pos rfl, e]) h
  exact Ev.step (fun k => by rw [spec_EntityName.l0, if_pos (by omega), if_pos (by omega), if_pos (by omega), e2]) hj
theorem en_run (t : ByteArray) (l : List ByteArray) (x5 : Int) (j : Nat) (hj : j ≤ t.size) (hs : t.size ≤ 2147483647) {res : List ByteArray × Bool}
    (h : Ev (fun k => spec_EntityName.l0 k t l x5 (j : Int)) res) : ∀ d i : Nat, i + d = j → (∀ q : Nat, i ≤ q → q < j → bt t (q : Int) ≠ 46) → Ev (fun k => spec_EntityName.l0 k t l x5 (i : Int)) res
  | 0, i, hi, _ => by have : i = j := by omega
                      rw [this]; exact h
  | d + 1, i, hi, hb => en_step t l x5 i (by omega) hs (hb i (Nat.le_refl _) (by omega)) (en_run t l x5 j hj hs h d (i + 1) (by omega) (fun q h1 h2 => hb q (by omega) h2))
theorem en_cut (t : ByteArray) (l : List ByteArray) (f i : Nat) (hi : i ≤ t.size) (hs : t.size ≤ 2147483647) (hf : f ≤ i) (hc : i = t.size ∨ bt t (i : Int) = 46) (hP : Plain (t.extract f i)) (hl : l.length < 100) {res : List ByteArray × Bool}
    (h : Ev (fun k => spec_EntityName.l0 k t (l ++ [t.extract f i]) ((i + 1 : Nat) : Int) ((i + 1 : Nat) : Int)) res) : Ev (fun k => spec_EntityName.l0 k t l (f : Int) (i : Int)) res := by
  have e : wrap64 ((i : Int) + 1) = ((i + 1 : Nat) : Int) := by rw [w64' (by omega) (by omega)]; omega
  have hj : Ev (fun k => spec_EntityName.j1 k t l (f : Int) (i : Int) false) res := Ev.step (fun k => by
    rw [spec_EntityName.j1, if_neg Bool.false_ne_true, if_pos (by omega), if_pos (by omega), if_pos (by omega), Int.toNat_natCast, Int.toNat_natCast, ident_plain _ hP, bind_at, if_pos rfl, if_pos (by omega), e]) h
  refine Ev.step (fun k => ?_) hj
  rw [spec_EntityName.l0, if_pos (by omega)]
  rcases hc with h1 | h1
  · rw [if_neg (by omega)]
  · by_cases h2 : (i : Int) < (t.size : Int)
    · rw [if_pos h2, if_pos (by omega), show (bt t (i : Int) != 46) = false by simp [h1]]
    · rw [if_neg h2]
theorem pre_size (r : ByteArray) : ((⟨#[97, 46]⟩ : ByteArray) ++ r).size = r.size + 2 := by
  rw [ByteArray.size_append]; show 2 + r.size = _; omega
theorem pre_bt (r : ByteArray) (j : Nat) (hj : j < r.size) : bt ((⟨#[97, 46]⟩ : ByteArray) ++ r) ((j + 2 : Nat) : Int) = bt r (j : Int) := by
  rw [bt_get _ _ (by rw [pre_size]; omega), bt_get _ _ hj, ByteArray.getElem_append_right (by show 2 ≤ j + 2; omega)]
  rfl
theorem free_a : Ev (fun k => spec_NameFree.f k (⟨#[97]⟩ : ByteArray)) true := Ev.of (k := 100) (fun k => spec_NameFree.mono _ k) (by kernel_rfl)
theorem entity_tells (r : ByteArray) (hP : Plain r) (hl : r.size ≤ 2001) : Ev (fun k => spec_EntityName.f k ((⟨#[97, 46]⟩ : ByteArray) ++ r)) ([⟨#[97]⟩, r], true) := by
  obtain ⟨t, ht⟩ : ∃ t, t = (⟨#[97, 46]⟩ : ByteArray) ++ r := ⟨_, rfl⟩
  have hsz : t.size = r.size + 2 := by rw [ht]; exact pre_size r
  have hb2 : ∀ j : Nat, j < r.size → bt t ((j + 2 : Nat) : Int) = bt r (j : Int) := fun j hj => by rw [ht]; exact pre_bt r j hj
  have hb0 : bt t ((0 : Nat) : Int) = 97 := by
    rw [bt_get _ _ (by omega)]; subst ht
    rw [ByteArray.getElem_append_left (by decide)]; rfl
  have hb1 : bt t ((1 : Nat) : Int) = 46 := by
    rw [bt_get _ _ (by omega)]; subst ht
    rw [ByteArray.getElem_append_left (by decide)]; rfl
  have hx0 : t.extract 0 1 = ⟨#[97]⟩ := by
    rw [ht]; apply ByteArray.ext; apply Array.ext'; simp [ByteArray.data_extract, ByteArray.data_append]
  have hx2 : t.extract 2 t.size = r := by
    rw [hsz, ht]; apply ByteArray.ext; apply Array.ext'
    rw [ByteArray.data_extract, ByteArray.data_append, Array.toList_extract, Array.toList_append, List.extract_eq_take_drop]
    show List.take (r.size + 2 - 2) r.data.toList = r.data.toList
    exact List.take_of_length_le (by rw [Array.length_toList]; show r.size ≤ _; omega)
  have hPa : Plain (⟨#[97]⟩ : ByteArray) := (plainB_iff _).1 (by decide)
  rw [← ht]
  unfold spec_EntityName.f
  have hend : Ev (fun k => spec_EntityName.l0 k t [⟨#[97]⟩, r] ((t.size + 1 : Nat) : Int) ((t.size + 1 : Nat) : Int)) ([⟨#[97]⟩, r], true) := by
    refine Ev.step (f := fun k => (spec_NameFree.f k (⟨#[97]⟩ : ByteArray)).bind fun _ => some ([⟨#[97]⟩, r], true)) (fun k => ?_) (Ev.bind free_a (Ev.now _))
    have hr0 : rdOf ByteArray.empty [(⟨#[97]⟩ : ByteArray), r] 0 = ⟨#[97]⟩ := rfl
    rw [spec_EntityName.l0, if_neg (by omega), if_pos (by simp), hr0]
    cases hfr : spec_NameFree.f k (⟨#[97]⟩ : ByteArray) with
    | none => rfl
    | some b =>
      have hb : b = true := by
        obtain ⟨K, hK⟩ := free_a
        have h1 := at_rounds (spec_NameFree.mono _) (Nat.le_max_left k K) hfr
        have h2 : spec_NameFree.f (max k K) (⟨#[97]⟩ : ByteArray) = some true := hK (max k K) (Nat.le_max_right _ _)
        rw [h1] at h2
        exact Option.some.inj h2
      subst hb
      rw [bind_at, bind_at, if_pos rfl, if_neg (by decide +kernel), if_neg (by decide +kernel), show ((⟨#[97]⟩ : ByteArray).toList != ([73, 110, 102, 105, 110, 105, 116, 121] : List UInt8)) = true by decide +kernel]
  have h2 := en_cut t [⟨#[97]⟩] 2 t.size (Nat.le_refl _) (by omega) (by omega) (.inl rfl) (by rw [hx2]; exact hP) (by decide) (by rw [hx2]; exact hend)
  have h2' := en_run t [⟨#[97]⟩] 2 t.size (Nat.le_refl _) (by omega) h2 r.size 2 (by omega) (fun q h3 h4 => by
    obtain ⟨j, rfl⟩ : ∃ j, q = j + 2 := ⟨q - 2, by omega⟩
    rw [hb2 j (by omega)]
    have := nameB_iff (hP.2.2.2 j (by omega))
    omega)
  have h1 := en_cut t [] 0 1 (by omega) (by omega) (by omega) (.inr hb1) (by rw [hx0]; exact hPa) (by decide) (by rw [hx0]; exact h2')
  exact en_run t [] 0 1 (by omega) (by omega) h1 1 0 (by omega) (fun q h3 h4 => by
    have : q = 0 := by omega
    subst this; rw [hb0]; decide)

/-! ### the last place of a byte -/
theorem last_from (s : ByteArray) (c : Int) (hs : s.size ≤ 2147483647) : ∀ n : Nat, n ≤ s.size → ∃ r : Int, Ev (fun k => bytealg_LastIndexByteString.l0 k s c ((n : Int) - 1)) r ∧ -1 ≤ r ∧ r < (s.size : Int)
  | 0, _ => ⟨-1, Ev.step (fun k => by rw [bytealg_LastIndexByteString.l0, if_neg (by omega)]) (Ev.now _), by omega, by omega⟩
  | n + 1, hn => by
    by_cases hc : bt s (((n + 1 : Nat) : Int) - 1) = c
    · exact ⟨((n + 1 : Nat) : Int) - 1, Ev.step (fun k => by rw [bytealg_LastIndexByteString.l0, if_pos (by omega), if_pos (by omega), if_pos (by omega), if_pos hc]) (Ev.now _), by omega, by omega⟩
    · obtain ⟨r, hr, h1, h2⟩ := last_from s c hs n (by omega)
      have e : wrap64 (((n + 1 : Nat) : Int) - 1 - 1) = (n : Int) - 1 := by unfold wrap64; omega
      exact ⟨r, Ev.step (fun k => by rw [bytealg_LastIndexByteString.l0, if_pos (by omega), if_pos (by omega), if_pos (by omega), if_neg hc, e]) hr, h1, h2⟩
theorem last_tells (s : ByteArray) (c : Int) (hs : s.size ≤ 2147483647) : ∃ r : Int, Ev (fun k => strings_LastIndexByte.f k s c) r ∧ -1 ≤ r ∧ r < (s.size : Int) := by
  obtain ⟨r, hr, h1, h2⟩ := last_from s c hs s.size (Nat.le_refl _)
  have e : wrap64 ((s.size : Int) - 1) = (s.size : Int) - 1 := by unfold wrap64; omega
  refine ⟨r, ?_, h1, h2⟩
  have hb : Ev (fun k => bytealg_LastIndexByteString.f k s c) r := Ev.congr (fun k => by rw [bytealg_LastIndexByteString.f, e]) hr
  exact Ev.bind hb (Ev.now r)
theorem j4_tells (x2 x3 x4 : ByteArray) (hs : x3.size ≤ 2147483647) : ∃ r : ByteArray × ByteArray × ByteArray, Ev (fun k => logger_PlatformIndependentPathDirBaseExt.j4 k x2 x3 x4) r ∧ r.1 = x2 ∧ r.2.1.size ≤ x3.size := by
  obtain ⟨t, ht, h1, h2⟩ := last_tells x3 46 hs
  by_cases hn : t ≥ 0
  · by_cases hcss : (x3.extract (t : Int).toNat x3.size).toList = ([46, 99, 115, 115] : List UInt8)
    · obtain ⟨u, hu, h3, h4⟩ := last_tells (x3.extract 0 (t : Int).toNat) 46 (by simp; omega)
      have hxs : (x3.extract 0 t.toNat).size ≤ x3.size := by simp; omega
      by_cases hm : u ≥ 0
      · by_cases hmod : (x3.extract (u : Int).toNat x3.size).toList = ([46, 109, 111, 100, 117, 108, 101, 46, 99, 115, 115] : List UInt8)
        · exact ⟨(x2, x3.extract 0 u.toNat, x3.extract u.toNat x3.size), Ev.step (fun k => by rw [logger_PlatformIndependentPathDirBaseExt.j4]) (Ev.bind ht (by
            simp only [if_pos hn, if_pos (show t ≤ (x3.size : Int) by omega), if_pos hcss]
            exact Ev.bind hu (by simp only [if_pos hm, if_pos (show u ≤ (x3.size : Int) by omega), if_pos hmod]; exact Ev.now _))), rfl, by simp; omega⟩
        · exact ⟨(x2, x3.extract 0 t.toNat, x3.extract t.toNat x3.size), Ev.step (fun k => by rw [logger_PlatformIndependentPathDirBaseExt.j4]) (Ev.bind ht (by
            simp only [if_pos hn, if_pos (show t ≤ (x3.size : Int) by omega), if_pos hcss]
            exact Ev.bind hu (by simp only [if_pos hm, if_pos (show u ≤ (x3.size : Int) by omega), if_neg hmod]; exact Ev.now _))), rfl, by simp; omega⟩
      · exact ⟨(x2, x3.extract 0 t.toNat, x3.extract t.toNat x3.size), Ev.step (fun k => by rw [logger_PlatformIndependentPathDirBaseExt.j4]) (Ev.bind ht (by
            simp only [if_pos hn, if_pos (show t ≤ (x3.size : Int) by omega), if_pos hcss]
            exact Ev.bind hu (by simp only [if_neg hm]; exact Ev.now _))), rfl, by simp; omega⟩
    · exact ⟨(x2, x3.extract 0 t.toNat, x3.extract t.toNat x3.size), Ev.step (fun k => by rw [logger_PlatformIndependentPathDirBaseExt.j4]) (Ev.bind ht (by
            simp only [if_pos hn, if_pos (show t ≤ (x3.size : Int) by omega), if_neg hcss]; exact Ev.now _)), rfl, by simp; omega⟩
  · exact ⟨(x2, x3, x4), Ev.step (fun k => by rw [logger_PlatformIndependentPathDirBaseExt.j4]) (Ev.bind ht (by simp only [if_neg hn]; exact Ev.now _)), rfl, Nat.le_refl _⟩
theorem mx_cases (a b : Int) : mx a b = a ∨ mx a b = b := by unfold mx; split <;> simp
theorem l0_tells (x4 : ByteArray) (x5 : Int) : ∀ (n : Nat) (x0 x2 : ByteArray), x0.size ≤ n → x0.size ≤ 2147483647 → ∃ r : ByteArray × ByteArray × ByteArray, Ev (fun k => logger_PlatformIndependentPathDirBaseExt.l0 k x0 x2 x4 x5) r ∧ r.1.size ≤ x0.size + x2.size ∧ r.2.1.size ≤ x0.size := by
  intro n
  induction n with
  | zero =>
    intro x0 x2 hn hs
    obtain ⟨a, ha, a1, a2⟩ := last_tells x0 47 hs
    obtain ⟨b, hb, b1, b2⟩ := last_tells x0 92 hs
    obtain ⟨r, hr, r1, r2⟩ := j4_tells x2 x0 x4 hs
    have hm := mx_cases a b
    refine ⟨r, Ev.step (fun k => by rw [logger_PlatformIndependentPathDirBaseExt.l0]) (Ev.bind ha (Ev.bind (g := fun k => strings_LastIndexByte.f k x0 92) hb (Ev.congr (fun k => if_pos (show mx a b < 0 by omega)) hr))), by rw [r1]; omega, r2⟩
  | succ n ih =>
    intro x0 x2 hn hs
    obtain ⟨a, ha, a1, a2⟩ := last_tells x0 47 hs
    obtain ⟨b, hb, b1, b2⟩ := last_tells x0 92 hs
    have hm := mx_cases a b
    obtain ⟨t, ht⟩ : ∃ t, mx a b = t := ⟨_, rfl⟩
    have e : wrap64 (t + 1) = t + 1 := by unfold wrap64; omega
    by_cases h0 : t < 0
    · obtain ⟨r, hr, r1, r2⟩ := j4_tells x2 x0 x4 hs
      exact ⟨r, Ev.step (fun k => by rw [logger_PlatformIndependentPathDirBaseExt.l0]) (Ev.bind ha (Ev.bind (g := fun k => strings_LastIndexByte.f k x0 92) hb (Ev.congr (fun k => if_pos (show mx a b < 0 by omega)) hr))), by rw [r1]; omega, r2⟩
    · subst ht
      have hlt : mx a b < (x0.size : Int) := by omega
      by_cases hx : mx a b = x5
      · obtain ⟨r, hr, r1, r2⟩ := j4_tells (x0.extract 0 ((wrap64 (mx a b + 1)) : Int).toNat) (x0.extract ((wrap64 (mx a b + 1)) : Int).toNat x0.size) x4 (by simp; omega)
        exact ⟨r, Ev.step (fun k => by rw [logger_PlatformIndependentPathDirBaseExt.l0]) (Ev.bind ha (Ev.bind (g := fun k => strings_LastIndexByte.f k x0 92) hb (Ev.congr (fun k => (if_neg h0).trans ((if_pos hx).trans ((if_pos (show 0 ≤ wrap64 (mx a b + 1) by omega)).trans (if_pos (show wrap64 (mx a b + 1) ≤ (x0.size : Int) by omega))))) hr))), by rw [r1]; simp; omega, by simp at r2; omega⟩
      · by_cases hend : wrap64 (mx a b + 1) = (x0.size : Int)
        · obtain ⟨r, hr, r1, r2⟩ := ih (x0.extract 0 (mx a b : Int).toNat) x2 (by simp; omega) (by simp; omega)
          exact ⟨r, Ev.step (fun k => by rw [logger_PlatformIndependentPathDirBaseExt.l0]) (Ev.bind ha (Ev.bind (g := fun k => strings_LastIndexByte.f k x0 92) hb (Ev.congr (fun k => (if_neg h0).trans ((if_neg hx).trans ((if_pos hend).trans ((if_pos (show 0 ≤ mx a b by omega)).trans (if_pos (show mx a b ≤ (x0.size : Int) by omega)))))) hr))), by simp at r1; omega, by simp at r2; omega⟩
        · obtain ⟨r, hr, r1, r2⟩ := j4_tells (x0.extract 0 (mx a b : Int).toNat) (x0.extract ((wrap64 (mx a b + 1)) : Int).toNat x0.size) x4 (by simp; omega)
          exact ⟨r, Ev.step (fun k => by rw [logger_PlatformIndependentPathDirBaseExt.l0]) (Ev.bind ha (Ev.bind (g := fun k => strings_LastIndexByte.f k x0 92) hb (Ev.congr (fun k => (if_neg h0).trans ((if_neg hx).trans ((if_neg hend).trans ((if_pos (show 0 ≤ mx a b by omega)).trans ((if_pos (show mx a b ≤ (x0.size : Int) by omega)).trans ((if_pos (show 0 ≤ wrap64 (mx a b + 1) by omega)).trans (if_pos (show wrap64 (mx a b + 1) ≤ (x0.size : Int) by omega)))))))) hr))), by rw [r1]; simp; omega, by simp at r2; omega⟩
abbrev PathOk (s : ByteArray) (g : Nat → Option (ByteArray × ByteArray × ByteArray)) : Prop := ∃ r : ByteArray × ByteArray × ByteArray, Ev g r ∧ r.1.size ≤ s.size ∧ r.2.1.size ≤ s.size
theorem j2_tells (s x4 : ByteArray) (x5 : Int) (hs : s.size ≤ 2147483647) : PathOk s (fun k => logger_PlatformIndependentPathDirBaseExt.j2 k s ⟨#[]⟩ x4 x5) := by
  obtain ⟨r, hr, r1, r2⟩ := l0_tells x4 x5 s.size s ⟨#[]⟩ (Nat.le_refl _) hs
  exact ⟨r, Ev.step (fun k => by rw [logger_PlatformIndependentPathDirBaseExt.j2]) hr, by have : (⟨#[]⟩ : ByteArray).size = 0 := rfl; omega, r2⟩
theorem j1_tells (s x4 : ByteArray) (x5 : Int) (b : Bool) (hs : s.size ≤ 2147483647) (hp : b = true → 0 < s.size) : PathOk s (fun k => logger_PlatformIndependentPathDirBaseExt.j1 k s ⟨#[]⟩ x4 x5 b) := by
  have pick : ∀ y5, (∀ k, logger_PlatformIndependentPathDirBaseExt.j1 (k + 1) s ⟨#[]⟩ x4 x5 b = logger_PlatformIndependentPathDirBaseExt.j2 k s ⟨#[]⟩ x4 y5) → PathOk s (fun k => logger_PlatformIndependentPathDirBaseExt.j1 k s ⟨#[]⟩ x4 x5 b) := fun y5 h => by
    obtain ⟨r, hr, r1, r2⟩ := j2_tells s x4 y5 hs
    exact ⟨r, Ev.step h hr, r1, r2⟩
  have hp' : b = true → 0 < (s.size : Int) := fun h => by have := hp h; omega
  by_cases hb : b = true
  · by_cases h1 : bt s 0 ≥ 97
    · by_cases h2 : bt s 0 < 122
      · exact pick 2 (fun k => by rw [logger_PlatformIndependentPathDirBaseExt.j1, if_pos hb, if_pos (hp' hb), if_pos h1, if_pos h2])
      · by_cases h3 : bt s 0 ≥ 65
        · by_cases h4 : bt s 0 ≤ 90
          · exact pick 2 (fun k => by rw [logger_PlatformIndependentPathDirBaseExt.j1, if_pos hb, if_pos (hp' hb), if_pos h1, if_neg h2, if_pos h3, if_pos h4])
          · exact pick x5 (fun k => by rw [logger_PlatformIndependentPathDirBaseExt.j1, if_pos hb, if_pos (hp' hb), if_pos h1, if_neg h2, if_pos h3, if_neg h4])
        · exact pick x5 (fun k => by rw [logger_PlatformIndependentPathDirBaseExt.j1, if_pos hb, if_pos (hp' hb), if_pos h1, if_neg h2, if_neg h3])
    · by_cases h3 : bt s 0 ≥ 65
      · by_cases h4 : bt s 0 ≤ 90
        · exact pick 2 (fun k => by rw [logger_PlatformIndependentPathDirBaseExt.j1, if_pos hb, if_pos (hp' hb), if_neg h1, if_pos h3, if_pos h4])
        · exact pick x5 (fun k => by rw [logger_PlatformIndependentPathDirBaseExt.j1, if_pos hb, if_pos (hp' hb), if_neg h1, if_pos h3, if_neg h4])
      · exact pick x5 (fun k => by rw [logger_PlatformIndependentPathDirBaseExt.j1, if_pos hb, if_pos (hp' hb), if_neg h1, if_neg h3])
  · exact pick x5 (fun k => by rw [logger_PlatformIndependentPathDirBaseExt.j1, if_neg hb])
theorem j0_tells (s x4 : ByteArray) (x5 : Int) (b : Bool) (hs : s.size ≤ 2147483647) : PathOk s (fun k => logger_PlatformIndependentPathDirBaseExt.j0 k s ⟨#[]⟩ x4 x5 b) := by
  have pick : ∀ c, (c = true → 0 < s.size) → (∀ k, logger_PlatformIndependentPathDirBaseExt.j0 (k + 1) s ⟨#[]⟩ x4 x5 b = logger_PlatformIndependentPathDirBaseExt.j1 k s ⟨#[]⟩ x4 x5 c) → PathOk s (fun k => logger_PlatformIndependentPathDirBaseExt.j0 k s ⟨#[]⟩ x4 x5 b) := fun c hc h => by
    obtain ⟨r, hr, r1, r2⟩ := j1_tells s x4 x5 c hs hc
    exact ⟨r, Ev.step h hr, r1, r2⟩
  by_cases hb : b = true
  · obtain ⟨r, hr, r1, r2⟩ := j2_tells s x4 0 hs
    exact ⟨r, Ev.step (fun k => by rw [logger_PlatformIndependentPathDirBaseExt.j0, if_pos hb]) hr, r1, r2⟩
  · by_cases h1 : (s.size : Int) > 2
    · by_cases h2 : bt s 1 = 58
      · by_cases h3 : bt s 2 = 47
        · exact pick true (fun _ => by omega) (fun k => by rw [logger_PlatformIndependentPathDirBaseExt.j0, if_neg hb, if_pos h1, if_pos (show 1 < (s.size : Int) by omega), if_pos h2, if_pos h1, if_pos h3])
        · exact pick (bt s 2 == 92) (fun _ => by omega) (fun k => by rw [logger_PlatformIndependentPathDirBaseExt.j0, if_neg hb, if_pos h1, if_pos (show 1 < (s.size : Int) by omega), if_pos h2, if_pos h1, if_neg h3])
      · exact pick false (fun h => by cases h) (fun k => by rw [logger_PlatformIndependentPathDirBaseExt.j0, if_neg hb, if_pos h1, if_pos (show 1 < (s.size : Int) by omega), if_neg h2])
    · exact pick false (fun h => by cases h) (fun k => by rw [logger_PlatformIndependentPathDirBaseExt.j0, if_neg hb, if_neg h1])
theorem path_tells (s : ByteArray) (hs : s.size ≤ 2147483647) : PathOk s (fun k => logger_PlatformIndependentPathDirBaseExt.f k s) := by
  unfold logger_PlatformIndependentPathDirBaseExt.f
  by_cases h0 : (s.size : Int) > 0
  · simp only [if_pos h0]
    by_cases h1 : bt s 0 = 47
    · simp only [if_pos h1]; exact j0_tells s _ _ _ hs
    · simp only [if_neg h1]; exact j0_tells s _ _ _ hs
  · simp only [if_neg h0]; exact j0_tells s _ _ _ hs
theorem name_tells (s : ByteArray) (hs : s.size ≤ 1000) : ∃ r, Ev (fun k => impl_NameOfPath.f k s) r ∧ Plain r ∧ r.size ≤ 2001 := by
  obtain ⟨⟨p1, p2, p3⟩, hp, h1, h2⟩ := path_tells s (by omega)
  obtain ⟨⟨q1, q2, q3⟩, hq, h3, h4⟩ := path_tells p1 (by simp only [] at h1; omega)
  simp only [] at h1 h2 h3 h4
  obtain ⟨r1, e1, g1, z1⟩ := ensure_plain p2 (by omega)
  obtain ⟨r2, e2, g2, z2⟩ := ensure_plain q2 (by omega)
  have hg : ∃ r, Ev (fun k => js_ast_GenerateNonUniqueNameFromPath.f k s) r ∧ Plain r ∧ r.size ≤ 2001 := by
    unfold js_ast_GenerateNonUniqueNameFromPath.f
    by_cases c1 : p2.toList = ([105, 110, 100, 101, 120] : List UInt8)
    · by_cases c2 : q2.toList = ([] : List UInt8)
      · refine ⟨r1, Ev.bind hp ?_, g1, z1⟩
        simp only [if_pos c1]
        refine Ev.bind hq ?_
        simp only [if_pos c2, e1]
        exact Ev.now _
      · refine ⟨r2, Ev.bind hp ?_, g2, z2⟩
        simp only [if_pos c1]
        refine Ev.bind hq ?_
        simp only [if_neg c2, e2]
        exact Ev.now _
    · refine ⟨r1, Ev.bind hp ?_, g1, z1⟩
      simp only [if_neg c1, e1]
      exact Ev.now _
  obtain ⟨r, hr, g, z⟩ := hg
  exact ⟨r, Ev.bind hr (Ev.now _), g, z⟩

/-- THE ONE PURE STATEMENT. -/
theorem FnNameOfPath : laws_FnNameOfPath.Pure := by
  intro s _
  by_cases hbig : (s.size : Int) > 2147483647
  · exact ⟨0, by unfold laws_FnNameOfPath.f; rw [if_pos hbig]⟩
  by_cases hb2 : (s.size : Int) > 1000
  · exact ⟨0, by unfold laws_FnNameOfPath.f; rw [if_neg hbig, if_pos hb2]⟩
  obtain ⟨r, hr, g, z⟩ := name_tells s (by omega)
  have he := entity_tells r g z
  have hawake : Ev (fun k => impl_NameOfPath.f k (⟨#[120, 47, 114, 101, 97, 99, 116, 46, 106, 115]⟩ : ByteArray)) (⟨#[114, 101, 97, 99, 116]⟩ : ByteArray) := Ev.of (k := 60) (fun k => impl_NameOfPath.mono _ k) (by kernel_rfl)
  have hall : Ev (fun k => laws_FnNameOfPath.f k s) true := by
    unfold laws_FnNameOfPath.f
    simp only [if_neg hbig, if_neg hb2]
    refine Ev.bind hr ?_
    simp only [if_pos (show 2 + r.size ≤ 9223372036854775807 by omega)]
    refine Ev.bind (g := fun k => spec_EntityName.f k ((⟨#[97, 46]⟩ : ByteArray) ++ r)) he ?_
    refine Ev.congr (f := fun k => (impl_NameOfPath.f k (⟨#[120, 47, 114, 101, 97, 99, 116, 46, 106, 115]⟩ : ByteArray)).bind fun t151 => some (t151.toList == ([114, 101, 97, 99, 116] : List UInt8))) (fun k => (if_pos rfl).trans (if_pos rfl)) ?_
    refine Ev.bind hawake ?_
    have e : ((⟨#[114, 101, 97, 99, 116]⟩ : ByteArray).toList == ([114, 101, 97, 99, 116] : List UInt8)) = true := by decide +kernel
    simp only [e]
    exact Ev.now _
  exact hall.rounds

end Go.Proofs.Ytbcljhedleemdaa.Pure
