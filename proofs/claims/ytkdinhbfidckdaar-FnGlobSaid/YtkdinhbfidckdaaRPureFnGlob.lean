/- A pattern has at least one part, just one if it has no star, and more than one if it has one. No condition. -/
import Derived.Test.YtkdinhbfidckdaaRPFnGlobx3
import Derived.KernelRfl
import Derived.Lib.IndexLaws
import Derived.Laws.BitsLemmas
import Derived.Laws.RangeAny
namespace Go.Proofs.YtkdinhbfidckdaaR.Pure
open Go Go.RowKit Go.Proofs.YtkdinhbfidckdaaR.PFnGlob Go.Proofs.YtkdinhbfidckdaaRW.PrintWords Go.Proofs.YtkdinhbfidckdaaRW.PrintLast

theorem w64 {x : Int} (h0 : -9223372036854775808 ≤ x) (h1 : x < 9223372036854775808) : wrap64 x = x := by unfold wrap64; omega
theorem star_byte (t : ByteArray) (j : Nat) : t.data.toList[j]? = some 42 ↔ j < t.size ∧ bt t (j : Int) = 42 := by
  have hsz : t.data.size = t.size := rfl
  by_cases h : j < t.size
  · have e : bt t (j : Int) = ((t[j]'h).toNat : Int) := by
      unfold bt
      have h2 : ((j : Int)).toNat < t.size := by omega
      rw [dif_pos h2]; simp
    rw [e]
    have g : t.data.toList[j]? = some (t[j]'h) := by
      rw [List.getElem?_eq_getElem (by simpa using h)]; rfl
    rw [g]
    constructor
    · intro q; injection q with q; rw [q]; exact ⟨h, rfl⟩
    · rintro ⟨_, q⟩
      congr 1
      apply UInt8.toNat.inj
      have : (42 : UInt8).toNat = 42 := rfl
      omega
  · constructor
    · intro q
      have := (List.getElem?_eq_some_iff.1 q).1
      simp at this; omega
    · rintro ⟨q, _⟩; exact absurd q h
def hasStar (t : ByteArray) : Prop := ∃ j : Nat, j < t.size ∧ bt t (j : Int) = 42
theorem byte42 : (42 : Int).toNat.toUInt8 = 42 := rfl
/-- What strings.IndexByte tells of the star. -/
theorem index_star (t : ByteArray) : (Lib.indexByte t.data.toList 42 = -1 ∧ ¬ hasStar t) ∨ ∃ o : Nat, Lib.indexByte t.data.toList 42 = (o : Int) ∧ o < t.size ∧ bt t (o : Int) = 42 := by
  have hge := Lib.indexByte_ge t.data.toList 42
  by_cases h : Lib.indexByte t.data.toList 42 = -1
  · refine .inl ⟨h, ?_⟩
    rintro ⟨j, hj⟩
    exact Lib.indexByte_none h j ((star_byte t j).2 hj)
  · obtain ⟨o, ho⟩ : ∃ o : Nat, Lib.indexByte t.data.toList 42 = (o : Int) := ⟨(Lib.indexByte t.data.toList 42).toNat, by omega⟩
    exact .inr ⟨o, ho, (star_byte t o).1 (Lib.indexByte_some ho).1⟩

def Good (t : ByteArray) (acc : List S71) (x3 e : Int) (f : Nat → Option (List S71)) : Prop :=
  ∃ w : Int, ∀ k, f k = helpers_ParseGlobPattern.l0 k (t.extract e.toNat t.size) (acc ++ [(⟨t.extract 0 x3.toNat, w⟩ : S71)])
theorem good_ite {t : ByteArray} {acc : List S71} {x3 e : Int} {c : Prop} [Decidable c] {f g : Nat → Option (List S71)} (h : c → Good t acc x3 e f) (h' : ¬ c → Good t acc x3 e g) :
    Good t acc x3 e (fun k => if c then f k else g k) := by
  by_cases q : c
  · obtain ⟨w, hw⟩ := h q; exact ⟨w, fun k => by simp only [if_pos q, hw]⟩
  · obtain ⟨w, hw⟩ := h' q; exact ⟨w, fun k => by simp only [if_neg q, hw]⟩

/-- Behind the stars: the part before them is appended, and the rest is read. -/
theorem stars (t : ByteArray) (acc : List S71) (x3 : Int) (ht : t.size ≤ 2147483647) (ha : acc.length ≤ 2147483647) (h3 : 0 ≤ x3) (d : Nat) : ∀ x4 : Int, 1 ≤ x4 → x3 + x4 ≤ (t.size : Int) → (t.size : Int) - (x3 + x4) ≤ d →
    ∃ (w : Int) (e : Nat), x3 + x4 ≤ e ∧ e ≤ t.size ∧ ∀ parts, Ev (fun k => helpers_ParseGlobPattern.l0 k (t.extract e t.size) (acc ++ [(⟨t.extract 0 x3.toNat, w⟩ : S71)])) parts → Ev (fun k => helpers_ParseGlobPattern.l1 k t acc x3 x4) parts := by
  induction d with
  | zero =>
    intro x4 h4 h5 hd
    have e1 : wrap64 (x3 + x4) = x3 + x4 := w64 (by omega) (by omega)
    have e2 : wrap64 (x3 - 1) = x3 - 1 := w64 (by omega) (by omega)
    have hg : Good t acc x3 (x3 + x4) (fun k => helpers_ParseGlobPattern.l1 (k + 1) t acc x3 x4) := by
      simp only [helpers_ParseGlobPattern.l1, e1, e2]
      repeat' (refine good_ite (fun _ => ?_) (fun _ => ?_))
      all_goals first | exact ⟨_, fun _ => rfl⟩ | (exfalso; omega)
    obtain ⟨w, hw⟩ := hg
    exact ⟨w, (x3 + x4).toNat, by omega, by omega, fun parts hp => Ev.step hw hp⟩
  | succ d ih =>
    intro x4 h4 h5 hd
    have e1 : wrap64 (x3 + x4) = x3 + x4 := w64 (by omega) (by omega)
    have e2 : wrap64 (x3 - 1) = x3 - 1 := w64 (by omega) (by omega)
    have e3 : wrap64 (x4 + 1) = x4 + 1 := w64 (by omega) (by omega)
    by_cases hm : x3 + x4 < (t.size : Int) ∧ bt t (x3 + x4) = 42
    · obtain ⟨w, e, he1, he2, he⟩ := ih (x4 + 1) (by omega) (by omega) (by omega)
      refine ⟨w, e, by omega, he2, fun parts hp => Ev.step (fun k => ?_) (he parts hp)⟩
      simp only [helpers_ParseGlobPattern.l1, e1, e2, e3]
      rw [if_pos hm.1, if_pos (by omega), if_pos hm.2]
    · have hg : Good t acc x3 (x3 + x4) (fun k => helpers_ParseGlobPattern.l1 (k + 1) t acc x3 x4) := by
        simp only [helpers_ParseGlobPattern.l1, e1, e2]
        repeat' (refine good_ite (fun _ => ?_) (fun _ => ?_))
        all_goals first | exact ⟨_, fun _ => rfl⟩ | (exfalso; omega) | (exfalso; exact hm ⟨by assumption, by assumption⟩)
      obtain ⟨w, hw⟩ := hg
      exact ⟨w, (x3 + x4).toNat, by omega, by omega, fun parts hp => Ev.step hw hp⟩

theorem parts_tell (n : Nat) : ∀ (t : ByteArray) (acc : List S71), t.size ≤ n → acc.length + t.size ≤ 2147483647 →
    ∃ parts, Ev (fun k => helpers_ParseGlobPattern.l0 k t acc) parts ∧ parts.length ≤ acc.length + t.size + 1 ∧ (¬ hasStar t → parts.length = acc.length + 1) ∧ (hasStar t → acc.length + 2 ≤ parts.length) ∧ acc.length + 1 ≤ parts.length := by
  induction n with
  | zero =>
    intro t acc hn hl
    have hns : ¬ hasStar t := by rintro ⟨j, hj, _⟩; omega
    rcases index_star t with ⟨h1, _⟩ | ⟨o, _, ho, _⟩
    · refine ⟨acc ++ [(⟨t, 0⟩ : S71)], Ev.step (fun k => ?_) (Ev.now _), by simp, fun _ => by simp, fun h => absurd h hns, by simp⟩
      simp only [helpers_ParseGlobPattern.l0, strings_IndexByte.f, Option.bind_some, byte42, h1]
      rw [if_pos (by decide), if_pos (by omega)]
    · omega
  | succ n ih =>
    intro t acc hn hl
    rcases index_star t with ⟨h1, hns⟩ | ⟨o, h1, ho, hb⟩
    · refine ⟨acc ++ [(⟨t, 0⟩ : S71)], Ev.step (fun k => ?_) (Ev.now _), by simp, fun _ => by simp, fun h => absurd h hns, by simp⟩
      simp only [helpers_ParseGlobPattern.l0, strings_IndexByte.f, Option.bind_some, byte42, h1]
      rw [if_pos (by decide), if_pos (by omega)]
    · obtain ⟨w, e, he1, he2, he⟩ := stars t acc (o : Int) (by omega) (by omega) (by omega) t.size 1 (by omega) (by omega) (by omega)
      have hsz : (t.extract e t.size).size = t.size - e := by simp
      obtain ⟨parts, hp, hp0, hp1, hp2, hp3⟩ := ih (t.extract e t.size) (acc ++ [(⟨t.extract 0 ((o : Int)).toNat, w⟩ : S71)]) (by omega) (by simp; omega)
      have hlen : (acc ++ [(⟨t.extract 0 ((o : Int)).toNat, w⟩ : S71)]).length = acc.length + 1 := by simp
      rw [hlen] at hp0 hp1 hp2 hp3
      have hst : hasStar t := ⟨o, ho, hb⟩
      refine ⟨parts, Ev.step (fun k => ?_) (he parts hp), by omega, fun h => absurd hst h, fun _ => hp3, by omega⟩
      simp only [helpers_ParseGlobPattern.l0, strings_IndexByte.f, Option.bind_some, byte42, h1]
      rw [if_neg (by omega)]

theorem copied (x7 : List S71) (hl : x7.length ≤ 2147483648) (d : Nat) : ∀ (i : Nat) (x3 : List S43), i ≤ x7.length → x7.length - i ≤ d → x3.length = i →
    ∃ out, Ev (fun k => impl_Glob.l0 k x3 x7 (x7.length : Int) (i : Int)) out ∧ out.length = x7.length := by
  induction d with
  | zero =>
    intro i x3 hi hd h3
    refine ⟨x3, Ev.step (fun k => ?_) (Ev.now _), by omega⟩
    simp only [impl_Glob.l0]; rw [if_neg (by omega)]
  | succ d ih =>
    intro i x3 hi hd h3
    by_cases he : i < x7.length
    · obtain ⟨out, ho, hol⟩ := ih (i + 1) (x3 ++ [(⟨(rd_T71 x7 (i : Int)).f0, wrap64 ((rd_T71 x7 (i : Int)).f1)⟩ : S43)]) (by omega) (by omega) (by simp [h3])
      refine ⟨out, Ev.step (fun k => ?_) ho, hol⟩
      have e : wrap64 ((i : Int) + 1) = ((i + 1 : Nat) : Int) := by rw [w64 (by omega) (by omega)]; omega
      simp only [impl_Glob.l0, e]; rw [if_pos (by omega), if_pos (by omega), if_pos (by omega), if_pos (by omega)]
    · refine ⟨x3, Ev.step (fun k => ?_) (Ev.now _), by omega⟩
      simp only [impl_Glob.l0]; rw [if_neg (by omega)]

theorem glob_tells (t : ByteArray) (ht : t.size ≤ 2147483647) : ∃ out : List S43, Ev (fun k => impl_Glob.f k t) out ∧ (¬ hasStar t → out.length = 1) ∧ (hasStar t → 2 ≤ out.length) := by
  obtain ⟨parts, hp, hp0, hp1, hp2, _⟩ := parts_tell t.size t [] (Nat.le_refl _) (by simpa using ht)
  obtain ⟨out, ho, hol⟩ := copied parts (by simp at hp0; omega) parts.length 0 [] (by omega) (by omega) rfl
  refine ⟨out, ?_, fun h => by rw [hol]; simpa using hp1 h, fun h => by rw [hol]; simpa using hp2 h⟩
  unfold impl_Glob.f
  exact Ev.bind (g := fun k => helpers_ParseGlobPattern.f k t) hp ho

/-! ### the reference's search -/
theorem lower_star (b : Int) (h0 : 0 ≤ b) (h1 : b ≤ 255) : ∃ x, spec_textLower.f b = some x ∧ (x = 42 ↔ b = 42) := by
  unfold spec_textLower.f
  by_cases c1 : b ≥ 65
  · rw [if_pos c1]
    by_cases c2 : b ≤ 90
    · rw [if_pos c2]; exact ⟨_, rfl, by omega⟩
    · rw [if_neg c2]; exact ⟨_, rfl, by omega⟩
  · rw [if_neg c1]; exact ⟨_, rfl, by omega⟩
theorem star_size : (((⟨#[42]⟩ : ByteArray).size : Nat) : Int) = 1 := rfl
theorem star_at : bt (⟨#[42]⟩ : ByteArray) 0 = 42 := by decide
theorem finds (t : ByteArray) (ht : t.size ≤ 2147483647) (d : Nat) : ∀ i : Nat, i ≤ t.size → t.size - i ≤ d →
    ∃ r, Ev (fun k => spec_TextFinds.l0 k t (⟨#[42]⟩ : ByteArray) (i : Int)) r ∧ (r ≥ 0 ↔ ∃ j : Nat, i ≤ j ∧ j < t.size ∧ bt t (j : Int) = 42) := by
  induction d with
  | zero =>
    intro i hi hd
    refine ⟨-1, Ev.step (fun k => ?_) (Ev.now _), ?_⟩
    · have ew : wrap64 ((i : Int) + 1) = (i : Int) + 1 := w64 (by omega) (by omega)
      simp only [spec_TextFinds.l0, star_size, ew]; rw [if_neg (by omega)]
    · constructor
      · intro h; omega
      · rintro ⟨j, h1, h2, _⟩; omega
  | succ d ih =>
    intro i hi hd
    by_cases he : i < t.size
    · have hb := bt_range t i
      obtain ⟨x, hx, hx2⟩ := lower_star (bt t i) hb.1 hb.2
      have hs : spec_textLower.f 42 = some 42 := by decide
      have ew : wrap64 ((i : Int) + 1) = ((i + 1 : Nat) : Int) := by rw [w64 (by omega) (by omega)]; omega
      have ei : wrap64 ((i : Int) + 0) = (i : Int) := by rw [w64 (by omega) (by omega)]; omega
      have e1 : wrap64 (0 + 1) = 1 := w64 (by omega) (by omega)
      have hstep : ∀ k, spec_TextFinds.l0 (k + 5) t (⟨#[42]⟩ : ByteArray) (i : Int) = if x = 42 then some (i : Int) else spec_TextFinds.l0 k t (⟨#[42]⟩ : ByteArray) ((i + 1 : Nat) : Int) := by
        intro k
        have a : spec_TextFinds.l0 (k + 5) t (⟨#[42]⟩ : ByteArray) (i : Int) = spec_TextFinds.l1 (k + 4) t (⟨#[42]⟩ : ByteArray) (i : Int) true 0 := by
          simp only [spec_TextFinds.l0, star_size, ew]; rw [if_pos (by omega)]
        have b : spec_TextFinds.l1 (k + 4) t (⟨#[42]⟩ : ByteArray) (i : Int) true 0 = spec_TextFinds.j2 (k + 3) t (⟨#[42]⟩ : ByteArray) (i : Int) true 0 true := by
          simp only [spec_TextFinds.l1, star_size]; rw [if_pos (by omega)]
        have c : spec_TextFinds.j2 (k + 3) t (⟨#[42]⟩ : ByteArray) (i : Int) true 0 true = spec_TextFinds.l1 (k + 2) t (⟨#[42]⟩ : ByteArray) (i : Int) (x == 42) 1 := by
          simp only [spec_TextFinds.j2, star_size, ei, e1, star_at, hx, hs, Option.bind_some, if_true]
          rw [if_pos (by omega), if_pos (by omega), if_pos (by omega), if_pos (by omega)]
        have c2 : spec_TextFinds.l1 (k + 2) t (⟨#[42]⟩ : ByteArray) (i : Int) (x == 42) 1 = spec_TextFinds.j2 (k + 1) t (⟨#[42]⟩ : ByteArray) (i : Int) (x == 42) 1 false := by
          simp only [spec_TextFinds.l1, star_size]; rw [if_neg (by omega)]
        rw [a, b, c, c2]
        simp only [spec_TextFinds.j2, Bool.false_eq_true, if_false, ew, beq_iff_eq]
      by_cases hxe : x = 42
      · refine ⟨(i : Int), ⟨5, fun k hk => ?_⟩, ?_⟩
        · obtain ⟨m, rfl⟩ : ∃ m, k = m + 5 := ⟨k - 5, by omega⟩
          show spec_TextFinds.l0 (m + 5) t _ _ = _
          rw [hstep, if_pos hxe]
        · exact ⟨fun _ => ⟨i, Nat.le_refl _, he, hx2.1 hxe⟩, fun _ => by omega⟩
      · obtain ⟨r, ⟨K, hK⟩, hr2⟩ := ih (i + 1) (by omega) (by omega)
        refine ⟨r, ⟨K + 5, fun k hk => ?_⟩, ?_⟩
        · obtain ⟨m, rfl⟩ : ∃ m, k = m + 5 := ⟨k - 5, by omega⟩
          show spec_TextFinds.l0 (m + 5) t _ _ = _
          rw [hstep, if_neg hxe]
          exact hK m (by omega)
        · rw [hr2]
          constructor
          · rintro ⟨j, h1, h⟩; exact ⟨j, by omega, h⟩
          · rintro ⟨j, h1, h2, h3⟩
            by_cases ej : j = i
            · subst ej; exact absurd (hx2.2 h3) hxe
            · exact ⟨j, by omega, h2, h3⟩
    · refine ⟨-1, Ev.step (fun k => ?_) (Ev.now _), ?_⟩
      · have ew : wrap64 ((i : Int) + 1) = (i : Int) + 1 := w64 (by omega) (by omega)
        simp only [spec_TextFinds.l0, star_size, ew]; rw [if_neg (by omega)]
      · constructor
        · intro h; omega
        · rintro ⟨j, h1, h2, _⟩; omega

theorem FnGlob : laws_FnGlob.Pure := by
  intro s hs
  by_cases hbig : (s.size : Int) > 2147483647
  · exact ⟨0, by unfold laws_FnGlob.f; rw [if_pos hbig]⟩
  obtain ⟨out, ho, ho1, ho2⟩ := glob_tells s (by omega)
  obtain ⟨r, hr, hr2⟩ := finds s (by omega) s.size 0 (by omega) (by omega)
  have hst : r ≥ 0 ↔ hasStar s := by
    rw [hr2]
    constructor
    · rintro ⟨j, _, h⟩; exact ⟨j, h⟩
    · rintro ⟨j, h⟩; exact ⟨j, Nat.zero_le _, h⟩
  have hawake : Ev (fun k => impl_Glob.f k (⟨#[97, 42]⟩ : ByteArray)) [⟨⟨#[97]⟩, 1⟩, ⟨⟨#[]⟩, 0⟩] := Ev.of (k := 20) (fun k => impl_Glob.mono _ k) (by kernel_rfl)
  have hall : Ev (fun k => laws_FnGlob.f k s) true := by
    unfold laws_FnGlob.f
    simp only [if_neg hbig]
    refine Ev.bind ho (Ev.bind (g := fun k => spec_TextFinds.f k s (⟨#[42]⟩ : ByteArray)) hr (Ev.bind hawake ?_))
    have hl : ((([⟨⟨#[97]⟩, 1⟩, ⟨⟨#[]⟩, 0⟩] : List S43).length : Nat) : Int) = 2 := rfl
    have hz : ((rd_T43 [⟨⟨#[97]⟩, 1⟩, ⟨⟨#[]⟩, 0⟩] 0).f0.toList == ([97] : List UInt8)) = true := by decide +kernel
    simp only [hl, hz]
    refine ⟨0, fun k _ => ?_⟩
    by_cases hq : hasStar s
    · have h2 := ho2 hq
      rw [if_pos (by omega), if_pos (hst.2 hq), if_pos (by omega)]
      rfl
    · have h1 := ho1 hq
      rw [if_pos (by omega), if_neg (fun h => hq (hst.1 h)), if_pos (by omega)]
      rfl
  exact hall.rounds

end Go.Proofs.YtkdinhbfidckdaaR.Pure
