/- Kinds: ranges and places, and what each range is told. -/
import Derived.Test.YtckgmnpcnoanhaaDoorExtCalm2
set_option linter.unusedVariables false
set_option linter.unusedSimpArgs false
namespace Go.Proofs.YtckgmnpcnoanhaaDoor
open Go Go.RowKit Go.Proofs.YtckgmnpcnoanhaaDoorW.PrintWords Go.Proofs.YtckgmnpcnoanhaaDoorW.PrintLast Go.Proofs.YtckgmnpcnoanhaaDoorW.PrintMore Go.Proofs.YtckgmnpcnoanhaaDoor.PFnLocated
/-- A kind whose cells are told by a list of values. -/
def flat {α : Type} (n : Nat) (enc : α → List Value) (hl : ∀ x, (enc x).length = n) (h1 : ∀ x, ∀ u ∈ enc x, u.oneCell' = true) : Kd α where
  sz := n
  E := []
  K := fun _ x cs => cs = enc x
  M := fun _ _ _ x cs => cs = enc x
  K_len := fun h => by rw [h]; exact hl _
  K_one := fun h u hu => by
    rw [h] at hu
    exact h1 _ u hu
  K_below := fun _ h => h
  K_of_M := fun h => h
  M_mono := fun _ h => h
  M_bound := fun h => h
  M_move := fun _ h => h
  M_lower := fun _ h => h
/-- Pairs of numbers: their kind. -/
def encP (p : Int × Int) : List Value := [.int .i64 p.1, .int .i64 p.2]
theorem encP_one (x : Int × Int) : ∀ u ∈ encP x, u.oneCell' = true := by
  intro u hu
  simp only [encP, List.mem_cons, List.not_mem_nil, or_false] at hu
  rcases hu with rfl | rfl <;> rfl
def kP : Kd (Int × Int) := flat 2 encP (fun _ => rfl) encP_one
def rdP (ps : List (Int × Int)) (i : Int) : Int × Int := ps.getD i.toNat (0, 0)
theorem at_P {w : World} {A : Option Addr} {n : Nat} {ps : List (Int × Int)} (h : Kd.C kP w A n ps) (i : Nat) (h1 : i < n) : ∃ ad, A = some ad ∧ w.cell? (ad.add (i * 2)) = some (.int .i64 (rdP ps i).1) ∧ w.cell? ⟨(ad.add (i * 2)).block, (ad.add (i * 2)).off + 1, none⟩ = some (.int .i64 (rdP ps i).2) := by
  obtain ⟨ad, c, e, _, hK, hc0⟩ := Kd.C_get h (0, 0) (i : Int) (by omega) (by omega)
  have hc : ∀ j u, c[j]? = some u → w.cell? (ad.add ((i : Int).toNat * 2 + j)) = some u := hc0
  have hK' : c = encP (rdP ps i) := hK
  subst hK'
  rw [Int.toNat_natCast] at hc
  exact ⟨ad, e, hc 0 _ rfl, by rw [← add_field _ _ 1 (by omega)]; exact hc 1 _ rfl⟩
/-- A place that is told. -/
structure Lc where
  line : Int
  col : Int
  len : Int
  text : ByteArray
def encL (x : Lc) : List Value := [.int .i64 x.line, .int .i64 x.col, .int .i64 x.len, .string x.text]
theorem encL_one (x : Lc) : ∀ u ∈ encL x, u.oneCell' = true := by
  intro u hu
  simp only [encL, List.mem_cons, List.not_mem_nil, or_false] at hu
  rcases hu with rfl | rfl | rfl | rfl <;> rfl
def kL : Kd Lc := flat 4 encL (fun _ => rfl) encL_one
def zL : Lc := ⟨0, 0, 0, ⟨#[]⟩⟩
def rdL (xs : List Lc) (i : Nat) : Lc := xs.getD i zL
theorem at_L {w : World} {A : Option Addr} {n : Nat} {ps : List Lc} (h : Kd.C kL w A n ps) (i : Nat) (h1 : i < n) : ∃ ad, A = some ad ∧ w.cell? (ad.add (i * 4)) = some (.int .i64 (rdL ps i).line) ∧ w.cell? ⟨(ad.add (i * 4)).block, (ad.add (i * 4)).off + 1, none⟩ = some (.int .i64 (rdL ps i).col) ∧ w.cell? ⟨(ad.add (i * 4)).block, (ad.add (i * 4)).off + 2, none⟩ = some (.int .i64 (rdL ps i).len) ∧ w.cell? ⟨(ad.add (i * 4)).block, (ad.add (i * 4)).off + 3, none⟩ = some (.string (rdL ps i).text) := by
  obtain ⟨ad, c, e, _, hK, hc0⟩ := Kd.C_get h zL (i : Int) (by omega) (by omega)
  have hc : ∀ j u, c[j]? = some u → w.cell? (ad.add ((i : Int).toNat * 4 + j)) = some u := hc0
  rw [Int.toNat_natCast] at hc hK
  have hK' : c = encL (rdL ps i) := hK
  subst hK'
  exact ⟨ad, e, hc 0 _ rfl, by rw [← add_field _ _ 1 (by omega)]; exact hc 1 _ rfl, by rw [← add_field _ _ 2 (by omega)]; exact hc 2 _ rfl, by rw [← add_field _ _ 3 (by omega)]; exact hc 3 _ rfl⟩
theorem info28 : (Tryd.prog.info? 28).map (fun i => (i.zero, i.size, i.bytes)) = some (some (.agg #[.int .i64 0, .int .i64 0, .int .i64 0, .string ⟨#[]⟩]), 4, 40) := by kernel_rfl
/-- What a range is told. -/
def LocOf (s : ByteArray) (r : Int × Int) (x : Lc) : Prop := ∃ j l ls le : Nat, r.1 = (j : Int) ∧ Tr s j l ls ∧ EndAt s j le ∧ x = ⟨(l : Int) + 1, (j : Int) - (ls : Int), r.2, s.extract ls le⟩
/-- A range that may be asked. -/
def Asked (s : ByteArray) (r : Int × Int) : Prop := ∃ j : Nat, r.1 = (j : Int) ∧ Sp s j ∧ 0 ≤ r.2 ∧ r.2 ≤ (s.size : Int) - (j : Int)
end Go.Proofs.YtckgmnpcnoanhaaDoor
