/- Cuts of bytes that are read; the number that four bytes spell; pairs of texts as a kind. -/
import Derived.Test.YthepcahgipglcaaExtES
set_option linter.unusedVariables false
namespace Go.Proofs.Ythepcahgipglcaa
open Go.RowKit Go.Maps Go.Sort Go.Proofs.YthepcahgipglcaaW.PrintWords Go.Proofs.YthepcahgipglcaaW.PrintLast
/-- A kind whose cells are told by a list of values. -/
def flat {α : Type} (n : Nat) (enc : α → List Value) (hl : ∀ x, (enc x).length = n) (h1 : ∀ x, ∀ u ∈ enc x, u.oneCell' = true) : Kd α where
  sz := n
  E := []
  K := fun _ x cs => cs = enc x
  M := fun _ _ _ x cs => cs = enc x
  K_len := fun h => by rw [h]; exact hl _
  K_one := fun h u hu => by
    rw [h] at hu
    exact h1 _ u hu
  K_below := fun _ h => h
  K_of_M := fun h => h
  M_mono := fun _ h => h
  M_bound := fun h => h
  M_move := fun _ h => h
  M_lower := fun _ h => h
abbrev SP := ByteArray × ByteArray
/-- Pairs of texts: their kind. -/
def encP (p : SP) : List Value := [.string p.1, .string p.2]
theorem encP_one (x : SP) : ∀ u ∈ encP x, u.oneCell' = true := by
  intro u hu
  simp only [encP, List.mem_cons, List.not_mem_nil, or_false] at hu
  rcases hu with rfl | rfl <;> rfl
def kP : Kd SP := flat 2 encP (fun _ => rfl) encP_one
def zP : SP := (⟨#[]⟩, ⟨#[]⟩)
def rdP (ps : List SP) (i : Nat) : SP := ps.getD i zP
theorem at_P {w : World} {A : Option Addr} {n : Nat} {ps : List SP} (h : Kd.C kP w A n ps) (i : Nat) (h1 : i < n) : ∃ ad, A = some ad ∧ w.cell? (ad.add (i * 2)) = some (.string (rdP ps i).1) ∧ w.cell? ⟨(ad.add (i * 2)).block, (ad.add (i * 2)).off + 1, none⟩ = some (.string (rdP ps i).2) := by
  obtain ⟨ad, c, e, _, hK, hc0⟩ := Kd.C_get h zP (i : Int) (by omega) (by omega)
  have hc : ∀ j u, c[j]? = some u → w.cell? (ad.add ((i : Int).toNat * 2 + j)) = some u := hc0
  rw [Int.toNat_natCast] at hc hK
  have hK' : c = encP (rdP ps i) := hK
  subst hK'
  exact ⟨ad, e, hc 0 _ rfl, by rw [← add_field _ _ 1 (by omega)]; exact hc 1 _ rfl⟩
theorem info34 : (Try.prog.info? 34).map (fun i => (i.zero, i.size, i.bytes)) = some (some (.agg #[.string ⟨#[]⟩, .string ⟨#[]⟩]), 2, 32) := by kernel_rfl
theorem info24 : (Try.prog.info? 24).map (fun i => (i.zero, i.size, i.bytes)) = some (some (.agg #[.string ⟨#[]⟩, .string ⟨#[]⟩]), 2, 32) := by kernel_rfl
/-! ### bytes that are read -/
def toI (l : Bs) : List Int := l.map fun b => (b.toNat : Int)
theorem toI_length (l : Bs) : (toI l).length = l.length := by simp [toI]
def Byt (w : World) (nb : Nat) (A : Option Addr) (c : Nat) (l : Bs) : Prop := Kd.C (Kd.int .u8) w A (toI l).length (toI l) ∧ l.length ≤ c ∧ ∀ ad, A = some ad → ad.block = nb
theorem Byt.below {w w' : World} {nb : Nat} {A : Option Addr} {c : Nat} {l : Bs} (h : Byt w nb A c l) (hb : Below w.heap.size w w') : Byt w' nb A c l := ⟨Kd.C_below h.1 hb, h.2⟩
theorem add_block (a : Addr) (i : Nat) : (a.add i).block = a.block := by unfold Addr.add; split <;> rfl
theorem Byt.keep {w w' : World} {nb : Nat} {A : Option Addr} {c : Nat} {l : Bs} (h : Byt w nb A c l) (hg : w'.heap[nb]? = w.heap[nb]?) : Byt w' nb A c l := by
  refine ⟨⟨h.1.1, h.1.2.1, fun hp => ?_⟩, h.2⟩
  obtain ⟨ad, e, hc⟩ := h.1.2.2 hp
  refine ⟨ad, e, fun j p hj => ?_⟩
  obtain ⟨cs, h1, h2, h3⟩ := hc j p hj
  refine ⟨cs, h1, h2, fun i u hu => ?_⟩
  rw [← h3 i u hu]
  unfold World.cell?
  rw [add_block, h.2.2 ad e, hg]
theorem Byt.to4 {w : World} {nb : Nat} {A : Option Addr} {c : Nat} {l : Bs} (h : Byt w nb A c l) (h4 : 4 ≤ l.length) : ∀ W : World, (Instr.slice 38 (.slice A l.length c) none (some (.int .i64 4)) none).run Try.prog W = .ok (.slice A 4 c) W := by
  obtain ⟨i0, hi, _, hz1, _⟩ := info_parts infoByte
  exact cut_to 38 5 .i64 Try.underlying38 hi A l.length c 4 (by decide) (by omega) h.2.1
theorem strOf_toI (l : Bs) : strOfNums (toI l) = ⟨l.toArray⟩ := by
  unfold strOfNums toI
  rw [List.map_map]
  congr 2
  conv => rhs; rw [← List.map_id l]
  apply List.map_congr_left
  intro x _
  simp
theorem toI_take (l : Bs) (n : Nat) : (toI l).take n = toI (l.take n) := by simp [toI, List.map_take]
theorem toI_drop (l : Bs) (n : Nat) : (toI l).drop n = toI (l.drop n) := by simp [toI, List.map_drop]
theorem Byt.mid {w : World} {nb : Nat} {A : Option Addr} {c : Nat} {l : Bs} (h : Byt w nb A c l) (hi : Nat) (h1 : 4 ≤ hi) (h2 : hi ≤ l.length) :
    ∃ A2 c2, (∀ W : World, (Instr.slice 38 (.slice A l.length c) (some (.int .i64 4)) (some (.int .u32 (hi : Int))) none).run Try.prog W = .ok (.slice A2 (hi - 4) c2) W) ∧ ∀ w', Byt w' nb A c l → (convert 38 9 (.slice A2 (hi - 4) c2)).run Try.prog w' = .ok (.string ⟨((l.take hi).drop 4).toArray⟩) w' := by
  obtain ⟨i0, hi0, _, hz1, _⟩ := info_parts infoByte
  refine ⟨_, _, fun W => (cut_mid 38 5 .i64 .u32 Try.underlying38 hi0 1 hz1 A l.length c 4 (hi : Int) (by decide) (by omega) (by omega) h.2.1 W).trans rfl, fun w' h' => ?_⟩
  have hm := Kd.C_mid (lo := 4) (hi := hi) h'.1 (by omega) (by rw [toI_length]; omega) (by rw [toI_length]; exact h'.2.1)
  rw [toI_take, toI_drop] at hm
  have hl : (toI ((l.take hi).drop 4)).length = hi - 4 := by rw [toI_length, List.length_drop, List.length_take]; omega
  rw [hl] at hm
  rw [← strOf_toI]
  exact Kd.C_string Try.underlying38 Try.underlying5 Try.underlying9 hm
theorem Byt.from {w : World} {nb : Nat} {A : Option Addr} {c : Nat} {l : Bs} (h : Byt w nb A c l) (lo : Nat) (h2 : lo ≤ l.length) :
    ∃ A2 c2, (∀ W : World, (Instr.slice 38 (.slice A l.length c) (some (.int .u32 (lo : Int))) none none).run Try.prog W = .ok (.slice A2 (l.length - lo) c2) W) ∧ ∀ w', Byt w' nb A c l → Byt w' nb A2 c2 (l.drop lo) := by
  obtain ⟨i0, hi0, _, hz1, _⟩ := info_parts infoByte
  refine ⟨_, _, fun W => (cut_from 38 5 .u32 Try.underlying38 hi0 1 hz1 A l.length c (lo : Int) (by omega) (by omega) W).trans rfl, fun w' h' => ?_⟩
  have hm := Kd.C_drop (m := lo) h'.1 (by rw [toI_length]; omega) (by rw [toI_length]; exact h'.2.1)
  rw [toI_drop] at hm
  refine ⟨hm, ?_, fun ad he => ?_⟩
  · have := h'.2.1
    rw [List.length_drop]
    show _ ≤ c - lo
    omega
  · by_cases hc : c = ((lo : Int)).toNat
    · rw [if_pos hc] at he
      exact h'.2.2 ad he
    · rw [if_neg hc] at he
      cases A with
      | none => cases he
      | some a0 =>
        injection he with he
        subst he
        rw [add_block]
        exact h'.2.2 a0 rfl
theorem leZ_of (v : Nat) (hv : v < 4294967296) : Lib.leZ (toI (Lib.leBytes 4 v)) = (v : Int) := by
  have h := Lib.leNat_leBytes 4 v (by omega)
  have e : ∀ l : Bs, Lib.leZ (toI l) = (Lib.leNat l : Int) := by
    intro l
    induction l with
    | nil => rfl
    | cons a l ih =>
      show (a.toNat : Int) + 256 * Lib.leZ (toI l) = _
      rw [ih]
      simp [Lib.leNat]
  rw [e, h]
theorem wf_byte : ∀ m : Fin 256, (Lit.int .u8 (m.val : Int)).wf = true := by decide +kernel
/-- The number that the first four bytes spell. -/
theorem U32.calls {w : World} {nb : Nat} {A : Option Addr} {c v : Nat} {l rest : Bs} (h : Byt w nb A c l) (e : l = Lib.leBytes 4 v ++ rest) (hv : v < 4294967296) :
    Calls Try.prog 14 #[.agg #[], .slice A 4 c] w fun e w' => e = .returned (.int .u32 (v : Int)) ∧ Below w.heap.size w w' := by
  have h4 : 4 ≤ l.length := by rw [e, List.length_append, leBytes_length]; omega
  have ht : (toI l).take 4 = toI (Lib.leBytes 4 v) := by
    rw [toI_take, e, List.take_append_of_le_length (by rw [leBytes_length]; exact Nat.le_refl _), List.take_of_length_le (by rw [leBytes_length]; exact Nat.le_refl _)]
  obtain ⟨ad, rfl, hc⟩ := h.1.2.2 (by rw [toI_length]; omega)
  have hz := Try.binary_LE_Uint32_z ad 4 c (toI l) w (Nat.le_refl _) (by rw [toI_length]; exact h4) (fun i hi => by
    obtain ⟨ad2, e2, hx⟩ := Kd.at_int h.1 (i : Int) (by omega) (by omega)
    cases e2
    rw [Int.toNat_natCast] at hx
    rw [hx]
    unfold YthepcahgipglcaaW.PrintWords.rd
    rw [Int.toNat_natCast]) (fun z hzm => by
      obtain ⟨b, _, rfl⟩ := List.mem_map.1 hzm
      exact wf_byte ⟨b.toNat, b.toNat_lt⟩)
  rw [ht, leZ_of v hv] at hz
  exact hz
end Go.Proofs.Ythepcahgipglcaa
