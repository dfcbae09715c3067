/- To count the signs of a text of ASCII is to count those of its two parts, one after the other. No condition. -/
import Derived.Test.YtkdinhbfidckdaaRPFnScanPartsx1
import Derived.Laws.BitsLemmas
import Derived.Laws.RangeAny
namespace Go.Proofs.YtkdinhbfidckdaaR.Pure
open Go Go.RowKit Go.Proofs.YtkdinhbfidckdaaR.PFnScanParts Go.Proofs.YtkdinhbfidckdaaRW.PrintWords Go.Proofs.YtkdinhbfidckdaaRW.PrintLast

theorem w64 {x : Int} (h0 : 0 ≤ x) (h1 : x < 9223372036854775808) : wrap64 x = x := by unfold wrap64; omega
theorem same_tells (l : List Int) (hl : l.length ≤ 64) (d : Nat) : ∀ (i k : Nat), i ≤ l.length → l.length - i ≤ d → d < k → laws_equalCounts.l0 k l l (l.length : Int) (i : Int) = some true := by
  induction d with
  | zero =>
    intro i k hi hd hk
    obtain ⟨k, rfl⟩ : ∃ m, k = m + 1 := ⟨k - 1, by omega⟩
    simp only [laws_equalCounts.l0]; rw [if_neg (by omega)]
  | succ d ih =>
    intro i k hi hd hk
    obtain ⟨k, rfl⟩ : ∃ m, k = m + 1 := ⟨k - 1, by omega⟩
    simp only [laws_equalCounts.l0]
    by_cases he : i < l.length
    · rw [if_pos (by omega), if_pos (by omega), if_pos (by omega), if_pos (by omega), if_pos True.intro]
      have e : wrap64 ((i : Int) + 1) = ((i + 1 : Nat) : Int) := by rw [w64 (by omega) (by omega)]; omega
      rw [e]
      exact ih (i + 1) k (by omega) (by omega) (by omega)
    · rw [if_neg (by omega)]
theorem ascii_total (s : ByteArray) (hs : s.size ≤ 140737488351232) (d : Nat) : ∀ (i k : Nat), i ≤ s.size → s.size - i ≤ d → d < k → ∃ b, spec_TextAscii.l0 k s (i : Int) = some b := by
  induction d with
  | zero =>
    intro i k hi hd hk
    obtain ⟨k, rfl⟩ : ∃ m, k = m + 1 := ⟨k - 1, by omega⟩
    exact ⟨true, by simp only [spec_TextAscii.l0]; rw [if_neg (by omega)]⟩
  | succ d ih =>
    intro i k hi hd hk
    obtain ⟨k, rfl⟩ : ∃ m, k = m + 1 := ⟨k - 1, by omega⟩
    simp only [spec_TextAscii.l0]
    by_cases he : i < s.size
    · rw [if_pos (by omega), if_pos (by omega)]
      by_cases c : bt s i > 127
      · exact ⟨false, by rw [if_pos c]⟩
      · rw [if_neg c]
        have e : wrap64 ((i : Int) + 1) = ((i + 1 : Nat) : Int) := by rw [w64 (by omega) (by omega)]; omega
        rw [e]
        exact ih (i + 1) k (by omega) (by omega) (by omega)
    · exact ⟨true, by rw [if_neg (by omega)]⟩
theorem scanned_tells (k : Nat) : laws_scanned.f (k + 1) = some true := by
  have ht : impl_Scan.f (List.replicate 64 0) (⟨#[97]⟩ : ByteArray) 1 = some (1 :: List.replicate 63 0) := by decide +kernel
  unfold laws_scanned.f
  rw [if_pos (by decide)]
  simp only [Option.bind_some]
  rw [ht]
  simp only [Option.bind_some]
  rw [if_pos (by decide +kernel)]
  have he : laws_equalCounts.f (k + 1) (1 :: List.replicate 63 0) (List.replicate 64 0) = some false := by
    unfold laws_equalCounts.f
    rw [if_pos (by decide +kernel)]
    simp only [laws_equalCounts.l0]
    rw [if_pos (by decide +kernel), if_pos (by decide), if_pos (by decide +kernel), if_pos (by decide +kernel), if_neg (by decide +kernel)]
  rw [he]; rfl
theorem scan_parts (l : List Int) (a b : ByteArray) (d : Int) : scanned (scanned l a d) b d = scanned l (a ++ b) d := by
  unfold scanned
  by_cases h : d = 0
  · rw [if_pos h, if_pos h, if_pos h]
  · rw [if_neg h, if_neg h, if_neg h, ← List.foldl_append]
    simp

theorem FnScanParts : laws_FnScanParts.Pure := by
  intro l a b d hl0 hl1 hl2 ha hb hd
  refine ⟨a.size + b.size + 70, ?_⟩
  have hbig : laws_FnScanParts.j0 (a.size + b.size + 70) l a b d true = some true := by simp only [laws_FnScanParts.j0, if_true]
  unfold laws_FnScanParts.f
  by_cases c1 : (l.length : Int) > 2147483647
  · rw [if_pos c1, hbig]
  rw [if_neg c1]
  by_cases c2 : (a.size : Int) > 2147483647
  · rw [if_pos c2, hbig]
  rw [if_neg c2]
  by_cases c3 : (b.size : Int) > 2147483647
  · rw [decide_eq_true c3, hbig]
  rw [decide_eq_false c3]
  obtain ⟨x, hx⟩ := ascii_total a ha a.size 0 (a.size + b.size + 69) (by omega) (by omega) (by omega)
  obtain ⟨y, hy⟩ := ascii_total b hb b.size 0 (a.size + b.size + 69) (by omega) (by omega) (by omega)
  have hx' : spec_TextAscii.f (a.size + b.size + 69) a = some x := hx
  have hy' : spec_TextAscii.f (a.size + b.size + 69) b = some y := hy
  have hj : laws_FnScanParts.j1 (a.size + b.size + 69) l a b d true = some true := by
    simp only [laws_FnScanParts.j1, if_true, scanned_tells]; rfl
  simp only [laws_FnScanParts.j0, Bool.false_eq_true, if_false]
  rw [hx', hy']
  unfold laws_frequencies.f
  simp only [Option.bind_some]
  by_cases c4 : l.length = 64
  · rw [if_pos (by simp [c4])]
    cases x with
    | false => simp [hj]
    | true =>
      cases y with
      | false => simp [hj]
      | true =>
        simp only [if_true, Bool.not_true, laws_FnScanParts.j1, Bool.false_eq_true, if_false]
        rw [if_pos (by omega)]
        have s1 : impl_Scan.f l (a ++ b) d = some (scanned l (a ++ b) d) := by unfold impl_Scan.f; rw [if_pos ⟨c4, by simp; omega⟩]
        have s2 : impl_Scan.f l a d = some (scanned l a d) := by unfold impl_Scan.f; rw [if_pos ⟨c4, ha⟩]
        have s3 : impl_Scan.f (scanned l a d) b d = some (scanned l (a ++ b) d) := by unfold impl_Scan.f; rw [if_pos ⟨scanned_length c4, hb⟩, scan_parts]
        rw [s1, s2]
        simp only [Option.bind_some]
        rw [s3]
        simp only [Option.bind_some]
        have hs : laws_equalCounts.f (a.size + b.size + 68) (scanned l (a ++ b) d) (scanned l (a ++ b) d) = some true := by
          unfold laws_equalCounts.f
          rw [if_pos rfl]
          have h64 : (scanned l (a ++ b) d).length = 64 := scanned_length c4
          exact same_tells _ (by omega) (scanned l (a ++ b) d).length 0 _ (by omega) (by omega) (by omega)
        rw [hs]
        simp only [Option.bind_some, if_true, scanned_tells]
  · rw [if_neg (by simp; omega), hj]

end Go.Proofs.YtkdinhbfidckdaaR.Pure
