/- The law FnCompareSemver, walked: over two lists of whole numbers it answers true. -/
import Derived.Test.YtmgepjnaalnckaaDoorPFnCompareSemverx3
import Derived.WalkKit
import Derived.KernelRfl
import Derived.RegionTactic
import Derived.BigRegion
import Derived.LoopTactic
import Derived.Outline
import Derived.OwnWalk
import Derived.Lib.Hide
namespace Go.Proofs.YtmgepjnaalnckaaDoor
open Go.RowKit Go.Proofs.YtmgepjnaalnckaaDoorW.PrintWords Go.Proofs.YtmgepjnaalnckaaDoorW.PrintMore Go.Proofs.YtmgepjnaalnckaaDoor.PFnCompareSemver
theorem max2_mx (k k' : IntKind) (x y : Int) : Builtin.max2 (.int k x) (.int k' y) = pure (.int k (mx x y)) := max2_int k k' x y
attribute [local go_sem] max2_mx max_two

/-! ### the plain part -/
def pt (l : List Int) (i : Nat) : Int := if i < l.length then rd l (i : Int) else 0
/-- The sign of the first difference from place i on, in d places. -/
def FD (l m : List Int) : Nat → Nat → Int
  | 0, _ => 0
  | d + 1, i => if pt l i < pt m i then -1 else if pt l i > pt m i then 1 else FD l m d (i + 1)
def okd (l : List Int) : Nat → Nat → Bool
  | 0, _ => true
  | d + 1, j => if 0 ≤ rd l (j : Int) ∧ rd l (j : Int) ≤ 2147483647 then okd l d (j + 1) else false
theorem okd_at {l : List Int} : ∀ d j, okd l d j = true → ∀ q, j ≤ q → q < j + d → 0 ≤ rd l (q : Int) ∧ rd l (q : Int) ≤ 2147483647
  | 0, j, _, q, h1, h2 => by omega
  | d + 1, j, h, q, h1, h2 => by
    unfold okd at h
    split at h
    · rename_i hc
      by_cases e : q = j
      · subst e; exact hc
      · exact okd_at d (j + 1) h q (by omega) (by omega)
    · cases h
theorem w64s {x : Int} (h0 : -9223372036854775808 ≤ x) (h1 : x < 9223372036854775808) : wrap64 x = x := by unfold wrap64; omega
theorem part_tells (l : List Int) (i : Nat) : laws_part.f l (i : Int) = some (pt l i) := by
  unfold laws_part.f pt
  by_cases h : i < l.length
  · rw [if_pos (by omega), if_pos (by omega), if_pos h]
  · rw [if_neg (by omega), if_neg h]
theorem pt_ok {l : List Int} (h : okd l l.length 0 = true) (i : Nat) : 0 ≤ pt l i ∧ pt l i ≤ 2147483647 := by
  unfold pt
  split
  · exact okd_at _ _ h i (Nat.zero_le _) (by omega)
  · omega
theorem ver1 {x7 : List (List Int)} {x8 x9 : Int} {x13 : List Int} {K : Nat} {res : Bool} (hl : (x13.length : Int) < 9223372036854775807)
    (hn : ∀ k, K ≤ k → laws_versions.l0 k x7 x8 (wrap64 (x9 + 1)) = some res) :
    ∀ d j k, j + d = x13.length → K + d + 1 ≤ k → laws_versions.l1 k x7 x8 x9 x13 (x13.length : Int) (j : Int) = some (if okd x13 d j = true then res else false)
  | 0, j, k, hj, hk => by
    obtain ⟨k, rfl⟩ : ∃ m, k = m + 1 := ⟨k - 1, by omega⟩
    rw [laws_versions.l1, if_neg (by omega), hn k (by omega)]
    simp [okd]
  | d + 1, j, k, hj, hk => by
    obtain ⟨k, rfl⟩ : ∃ m, k = m + 1 := ⟨k - 1, by omega⟩
    have ih := ver1 hl hn d (j + 1) k (by omega) (by omega)
    rw [laws_versions.l1, if_pos (by omega), if_pos (by omega), if_pos (by omega)]
    unfold okd
    by_cases h1 : rd x13 (j : Int) < 0
    · rw [if_pos h1, if_neg (fun h : 0 ≤ rd x13 (j : Int) ∧ rd x13 (j : Int) ≤ 2147483647 => absurd h.1 (by omega))]; rfl
    · rw [if_neg h1]
      by_cases h2 : rd x13 (j : Int) > 2147483647
      · rw [if_pos h2, if_neg (fun h : 0 ≤ rd x13 (j : Int) ∧ rd x13 (j : Int) ≤ 2147483647 => absurd h.2 (by omega))]; rfl
      · rw [if_neg h2, if_pos (show 0 ≤ rd x13 (j : Int) ∧ rd x13 (j : Int) ≤ 2147483647 by omega), w64s (by omega) (by omega), ← ih]
        rfl
theorem versions_tells (l m : List Int) (hl : l.length ≤ 2147483647) (hm : m.length ≤ 2147483647) : ∃ k, laws_versions.f k [l, m] = some (okd l l.length 0 && okd m m.length 0) := by
  have e3 : ∀ k, 1 ≤ k → laws_versions.l0 k [l, m] 2 (wrap64 (1 + 1)) = some true := fun k hk => by
    obtain ⟨k, rfl⟩ : ∃ m, k = m + 1 := ⟨k - 1, by omega⟩
    rw [laws_versions.l0, if_neg (by decide +kernel)]
  have e2 : ∀ k, m.length + 4 ≤ k → laws_versions.l0 k [l, m] 2 (wrap64 (0 + 1)) = some (okd m m.length 0) := fun k hk => by
    obtain ⟨k, rfl⟩ : ∃ m, k = m + 1 := ⟨k - 1, by omega⟩
    have e : wrap64 (0 + 1) = 1 := by decide +kernel
    have r1 : rd_L1 [l, m] 1 = m := rfl
    rw [laws_versions.l0, e, if_pos (by decide), if_pos (by decide), if_pos (by simp), r1]
    have h := ver1 (x7 := [l, m]) (x8 := 2) (x9 := 1) (x13 := m) (by omega) e3 m.length 0 k (by omega) (by omega)
    rw [show ((0 : Nat) : Int) = 0 from rfl] at h
    rw [h]
    cases okd m m.length 0 <;> rfl
  refine ⟨l.length + m.length + 8, ?_⟩
  unfold laws_versions.f
  have r0 : rd_L1 [l, m] 0 = l := rfl
  have h := ver1 (x7 := [l, m]) (x8 := 2) (x9 := 0) (x13 := l) (by omega) e2 l.length 0 (l.length + m.length + 7) (by omega) (by omega)
  rw [show ((0 : Nat) : Int) = 0 from rfl] at h
  have e : l.length + m.length + 8 = (l.length + m.length + 7) + 1 := rfl
  rw [e, show (([l, m].length : Nat) : Int) = 2 from rfl, laws_versions.l0, if_pos (by decide), if_pos (by decide), if_pos (by simp), r0, h]
  cases okd l l.length 0 <;> rfl

theorem cmp_tells (l m : List Int) (hl : okd l l.length 0 = true) (hm : okd m m.length 0 = true) (n : Nat) (hn : n ≤ 2147483647) :
    ∀ d i k, i + d = n → 2 * d + 8 ≤ k → ∃ r, compat_CompareSemver.l0 k (l.length : Int) (m.length : Int) (n : Int) (i : Int) l ⟨#[]⟩ m ⟨#[]⟩ = some r ∧ mn (mx r (-1)) 1 = FD l m d i
  | 0, i, k, hi, hk => by
    obtain ⟨k, rfl⟩ : ∃ m, k = m + 8 := ⟨k - 8, by omega⟩
    have ht : strings_TrimPrefix.f (⟨#[]⟩ : ByteArray) (⟨#[45]⟩ : ByteArray) = some ⟨#[]⟩ := by decide +kernel
    have he : (⟨#[]⟩ : ByteArray).toList = ([] : List UInt8) := by decide +kernel
    refine ⟨0, ?_, rfl⟩
    rw [compat_CompareSemver.l0, if_neg (by omega), if_neg (by rw [he]; decide), ht, Option.bind_some, Option.bind_some, compat_CompareSemver.l1, if_pos he, compat_CompareSemver.j4, if_neg (by decide)]
    exact congrArg some (by decide +kernel)
  | d + 1, i, k, hi, hk => by
    obtain ⟨k, rfl⟩ : ∃ m, k = m + 2 := ⟨k - 2, by omega⟩
    obtain ⟨r, ih, hr⟩ := cmp_tells l m hl hm n hn d (i + 1) k (by omega) (by omega)
    have h0 := pt_ok hl i
    have h1 := pt_ok hm i
    have e : wrap64 ((i : Int) + 1) = ((i + 1 : Nat) : Int) := by rw [w64s (by omega) (by omega)]; rfl
    have hj : ∀ a b, (if (i : Int) < (m.length : Int) then rd m (i : Int) else b) = pt m i → a = pt l i → b = 0 →
        compat_CompareSemver.j2 (k + 1) (l.length : Int) (m.length : Int) (n : Int) (i : Int) a b l ⟨#[]⟩ m ⟨#[]⟩ = if pt l i = pt m i then some r else some (pt l i - pt m i) := by
      intro a b hb ha hb0
      rw [compat_CompareSemver.j2]
      by_cases c : (i : Int) < (m.length : Int)
      · rw [if_pos c, if_pos (by omega), if_pos c]
        rw [if_pos c] at hb
        rw [hb, ha]
        by_cases c2 : pt l i = pt m i
        · rw [if_pos c2, if_pos c2, e, ih]
        · rw [if_neg c2, if_neg c2, w64s (by omega) (by omega)]
      · rw [if_neg c]
        rw [if_neg c] at hb
        rw [hb, ha]
        by_cases c2 : pt l i = pt m i
        · rw [if_pos c2, if_pos c2, e, ih]
        · rw [if_neg c2, if_neg c2, w64s (by omega) (by omega)]
    have hb : (if (i : Int) < (m.length : Int) then rd m (i : Int) else 0) = pt m i := by
      unfold pt
      by_cases c : i < m.length
      · rw [if_pos (by omega), if_pos c]
      · rw [if_neg (by omega), if_neg c]
    have hstep : compat_CompareSemver.l0 (k + 2) (l.length : Int) (m.length : Int) (n : Int) (i : Int) l ⟨#[]⟩ m ⟨#[]⟩ = if pt l i = pt m i then some r else some (pt l i - pt m i) := by
      rw [compat_CompareSemver.l0, if_pos (by omega)]
      by_cases c : (i : Int) < (l.length : Int)
      · rw [if_pos c, if_pos (by omega), if_pos c]
        exact hj _ _ hb (by unfold pt; rw [if_pos (by omega)]) rfl
      · rw [if_neg c]
        exact hj _ _ hb (by unfold pt; rw [if_neg (by omega)]) rfl
    unfold FD
    by_cases c : pt l i = pt m i
    · exact ⟨r, by rw [hstep, if_pos c], by rw [hr, if_neg (by omega), if_neg (by omega)]⟩
    · refine ⟨pt l i - pt m i, by rw [hstep, if_neg c], ?_⟩
      by_cases c1 : pt l i < pt m i
      · rw [if_pos c1]; unfold mn mx; split <;> split <;> omega
      · rw [if_neg c1, if_pos (by omega)]; unfold mn mx; split <;> split <;> omega
theorem impl_tells (l m : List Int) (hl : okd l l.length 0 = true) (hm : okd m m.length 0 = true) (hl1 : l.length ≤ 2147483647) (hm1 : m.length ≤ 2147483647) :
    ∃ k r, impl_CompareSemver.f k l m ⟨#[]⟩ ⟨#[]⟩ = some r ∧ laws_sign.f r = some (FD l m (max l.length m.length) 0) := by
  obtain ⟨r, h, hr⟩ := cmp_tells l m hl hm (max l.length m.length) (by omega) (max l.length m.length) 0 (2 * max l.length m.length + 8) (by omega) (by omega)
  refine ⟨2 * max l.length m.length + 8 + 1, r, ?_, by unfold laws_sign.f; rw [hr]⟩
  have hf : compat_CompareSemver.f (2 * max l.length m.length + 8 + 1) l ⟨#[]⟩ m ⟨#[]⟩ = some r := by
    unfold compat_CompareSemver.f
    by_cases c : (m.length : Int) > (l.length : Int)
    · rw [if_pos c, compat_CompareSemver.j0]
      have e : ((max l.length m.length : Nat) : Int) = (m.length : Int) := by omega
      rw [e] at h
      exact h
    · rw [if_neg c, compat_CompareSemver.j0]
      have e : ((max l.length m.length : Nat) : Int) = (l.length : Int) := by omega
      rw [e] at h
      exact h
  unfold impl_CompareSemver.f
  rw [Option.bind_some, if_pos (by simp; omega), Option.bind_some, if_pos (by simp; omega), List.nil_append, List.nil_append, hf, Option.bind_some]
theorem one_two : impl_CompareSemver.f 12 [1] [2] ⟨#[]⟩ ⟨#[]⟩ = some (-1) := by kernel_rfl

/-! ### the walk -/
theorem C_two {w : World} {b : Nat} {t : TypeId} {A0 A1 : Option Addr} {c0 c1 : Nat} {l m : List Int} (h : w.heap[b]? = some (.cells #[.slice A0 l.length c0, .slice A1 m.length c1] t (0, 0)))
    (h0 : Kd.C (Kd.int .i64) w A0 l.length l) (hc0 : l.length ≤ c0) (h1 : Kd.C (Kd.int .i64) w A1 m.length m) (hc1 : m.length ≤ c1) :
    Kd.C (Kd.slice 3 (Kd.int .i64)) w (some ⟨b, 0, none⟩) 2 [l, m] := by
  refine ⟨rfl, by decide, fun _ => ⟨_, rfl, fun j p hp => ?_⟩⟩
  have e : ∀ j, (⟨b, 0, none⟩ : Addr).add (j * (Kd.slice 3 (Kd.int .i64)).sz + 0) = ⟨b, j, none⟩ := fun j => by
    have : (Kd.slice 3 (Kd.int .i64)).sz = 1 := rfl
    rw [this]
    unfold Addr.add
    split <;> simp_all
  match j, hp with
  | 0, hp =>
    obtain rfl := Option.some.inj hp
    refine ⟨[.slice A0 l.length c0], rfl, ⟨A0, c0, rfl, hc0, h0⟩, fun i u hu => ?_⟩
    match i, hu with
    | 0, hu =>
      obtain rfl := Option.some.inj hu
      rw [e, cell_of_row _ _ 0 _ _ _ h]; rfl
  | 1, hp =>
    obtain rfl := Option.some.inj hp
    refine ⟨[.slice A1 m.length c1], rfl, ⟨A1, c1, rfl, hc1, h1⟩, fun i u hu => ?_⟩
    match i, hu with
    | 0, hu =>
      obtain rfl := Option.some.inj hu
      rw [e, cell_of_row _ _ 1 _ _ _ h]; rfl
theorem C_one {w : World} {b : Nat} {t : TypeId} (x : Int) (h : w.heap[b]? = some (.cells #[.int .i64 x] t (0, 0))) : Kd.C (Kd.int .i64) w (some ⟨b, 0, none⟩) 1 [x] := by
  refine ⟨rfl, by decide, fun _ => ⟨_, rfl, fun j p hp => ?_⟩⟩
  have e : ∀ j, (⟨b, 0, none⟩ : Addr).add (j * (Kd.int .i64).sz + 0) = ⟨b, j, none⟩ := fun j => by
    have : (Kd.int .i64).sz = 1 := rfl
    rw [this]
    unfold Addr.add
    split <;> simp_all
  match j, hp with
  | 0, hp =>
    obtain rfl := Option.some.inj hp
    refine ⟨[.int .i64 x], rfl, rfl, fun i u hu => ?_⟩
    match i, hu with
    | 0, hu =>
      obtain rfl := Option.some.inj hu
      rw [e, cell_of_row _ _ 0 _ _ _ h]; rfl

theorem lit_two (W : World) (n : Nat) (hn : W.heap.size = n) : Kd.C (Kd.int .i64) ((W.alloc (.cells #[.int .i64 1] 3)).alloc (.cells #[.int .i64 2] 3)) (some ⟨n, 0, none⟩) 1 [1] ∧
    Kd.C (Kd.int .i64) ((W.alloc (.cells #[.int .i64 1] 3)).alloc (.cells #[.int .i64 2] 3)) (some ⟨n + 1, 0, none⟩) 1 [2] := by
  subst hn
  exact ⟨C_one 1 (heap_alloc2_old W _ _), C_one 2 (heap_alloc2_new W _ _)⟩
theorem size_one (w : World) (o : Obj) (nd : Nat) : ((w.alloc o).drewN nd).heap.size = w.heap.size + 1 := by
  show (w.heap.push o).size = _
  simp

set_option maxRecDepth 100000 in
theorem law_calls (A0 A1 : Option Addr) (c0 c1 : Nat) (l0 l1 : List Int) (w : World) (hr0 : Kd.C (Kd.int .i64) w A0 l0.length l0) (hc0 : l0.length ≤ c0) (hr1 : Kd.C (Kd.int .i64) w A1 l1.length l1) (hc1 : l1.length ≤ c1) :
    Calls Tryd.prog 5 #[.slice A0 l0.length c0, .slice A1 l1.length c1] w fun e w' => e = .returned (.bool true) ∧ Below w.heap.size w w' := by
  by_cases g0 : l0.length > 2147483647
  · have b0 : decide ((2147483647 : Int) < (l0.length : Int)) = true := decide_eq_true (by omega)
    go_enter Tryd.func5, Tryd.ntmps5
    go_wp2
    go_ret
    exact ⟨rfl, Below.refl _ _⟩
  have b0 : decide ((2147483647 : Int) < (l0.length : Int)) = false := decide_eq_false (by omega)
  by_cases g1 : l1.length > 2147483647
  · have b1 : decide ((2147483647 : Int) < (l1.length : Int)) = true := decide_eq_true (by omega)
    go_enter Tryd.func5, Tryd.ntmps5
    go_wp2
    go_ret
    exact ⟨rfl, Below.refl _ _⟩
  have b1 : decide ((2147483647 : Int) < (l1.length : Int)) = false := decide_eq_false (by omega)
  obtain ⟨kv, hv⟩ := versions_tells l0 l1 (by omega) (by omega)
  have HR0 := Lib.hid hr0
  have HR1 := Lib.hid hr1
  clear hr0 hr1
  have H12 := Lib.hid one_two
  by_cases hok : (okd l0 l0.length 0 && okd l1 l1.length 0) = true
  case neg =>
    have hokf : (okd l0 l0.length 0 && okd l1 l1.length 0) = false := by simpa using hok
    rw [hokf] at hv
    have HV := Lib.hid hv
    clear hv hok hokf
    go_enter Tryd.func5, Tryd.ntmps5
    go_wp2_with (first
      | (go_at_call 15; (refine (laws_versions.calls kv (some ⟨w.heap.size, 0, none⟩) 2 [l0, l1] false _ ?q1 ?q2 HV.out).mono ?_); (case q1 => exact C_two (heap_alloc_new w _) (Kd.C_alloc HR0.out _) hc0 (Kd.C_alloc HR1.out _) hc1); (case q2 => exact Nat.le_refl _); rintro e w2 ⟨rfl, ⟨nd, rfl⟩⟩)
      | (go_at_call 16; (refine (impl_CompareSemver.calls 12 (some ⟨w.heap.size + 1, 0, none⟩) 1 [1] (some ⟨w.heap.size + 1 + 1, 0, none⟩) 1 [2] ⟨#[]⟩ ⟨#[]⟩ (-1) _ ?q1 ?q2 ?q3 ?q4 H12.out).mono ?_); (case q1 => exact (lit_two _ _ (size_one w _ nd)).1); (case q2 => exact Nat.le_refl _); (case q3 => exact (lit_two _ _ (size_one w _ nd)).2); (case q4 => exact Nat.le_refl _); rintro e w3 ⟨rfl, hb3⟩))
    go_ret
    have h2 : Below w.heap.size w (((((w.alloc (.cells #[.slice A0 l0.length c0, .slice A1 l1.length c1] 40)).drewN nd).alloc (.cells #[.int .i64 1] 3)).alloc (.cells #[.int .i64 2] 3))) :=
      below_alloc (below_alloc (pw_below_drewN (below_alloc (Below.refl _ _) _) nd) _) _
    exact ⟨rfl, h2.trans (hb3.mono h2.size)⟩
  case pos =>
    have hok0 : okd l0 l0.length 0 = true ∧ okd l1 l1.length 0 = true := by simpa using hok
    obtain ⟨ki, ri, hi, hs⟩ := impl_tells l0 l1 hok0.1 hok0.2 (by omega) (by omega)
    rw [hok] at hv
    have HV := Lib.hid hv
    have HI := Lib.hid hi
    have HS := Lib.hid hs
    clear hv hok hok0 hi hs
    go_enter Tryd.func5, Tryd.ntmps5
    go_wp2_with (first
      | (go_at_call 15; (refine (laws_versions.calls kv (some ⟨w.heap.size, 0, none⟩) 2 [l0, l1] true _ ?q1 ?q2 HV.out).mono ?_); (case q1 => exact C_two (heap_alloc_new w _) (Kd.C_alloc HR0.out _) hc0 (Kd.C_alloc HR1.out _) hc1); (case q2 => exact Nat.le_refl _); rintro e w2 ⟨rfl, ⟨nd, rfl⟩⟩))
    generalize hW2 : (w.alloc (.cells #[.slice A0 l0.length c0, .slice A1 l1.length c1] 40)).drewN nd = W2
    have HB2 := Lib.hid (show Below w.heap.size w W2 by rw [← hW2]; exact pw_below_drewN (below_alloc (Below.refl _ _) _) nd)
    have HR02 := Lib.hid (Kd.C_below HR0.out HB2.out)
    have HR12 := Lib.hid (Kd.C_below HR1.out HB2.out)
    have HZ2 := Lib.hid (show W2.heap.size = w.heap.size + 1 by rw [← hW2]; exact size_one w _ nd)
    clear hW2
    obtain ⟨n, hn⟩ : ∃ n : Nat, n = max l0.length l1.length := ⟨_, rfl⟩
    rw [← hn] at HS
    have hnm : max (l0.length : Int) (l1.length : Int) = (n : Int) := by omega
    go_loopw [5, 6] (fun v5 v6 wr => ∃ (i : Nat) (t : Int), v5 = .int .i64 t ∧ v6 = .int .i64 (i : Int) ∧ i ≤ n ∧ Hid ((t = 0 ∧ FD l0 l1 (n - i) i = FD l0 l1 n 0) ∨ (t ≠ 0 ∧ t = FD l0 l1 n 0)) ∧ Hid (∃ d, wr = W2.drewN d)) (fun _ v6 _ => n - (intOf v6).toNat)
    case atStart => exact ⟨0, 0, rfl, rfl, Nat.zero_le _, Lib.hid (.inl ⟨rfl, rfl⟩), Lib.hid ⟨0, rfl⟩⟩
    case round =>
      obtain ⟨i, t, rfl, rfl, hi, HF, HW⟩ := hrel
      obtain ⟨d, rfl⟩ := HW.out
      by_cases hex : i < n ∧ t = 0
      · obtain ⟨hlt, rfl⟩ := hex
        have hF : FD l0 l1 (n - i) i = FD l0 l1 n 0 := by
          rcases HF.out with h | h
          · exact h.2
          · exact absurd rfl h.1
        obtain ⟨q, hq⟩ : ∃ q, n - i = q + 1 := ⟨n - i - 1, by omega⟩
        have hq2 : n - (i + 1) = q := by omega
        rw [hq] at hF
        have HP0 := Lib.hid (part_tells l0 i)
        have HP1 := Lib.hid (part_tells l1 i)
        have hmx : decide ((i : Int) < mx (l0.length : Int) (l1.length : Int)) = true := decide_eq_true (by unfold mx; split <;> omega)
        have hw : wrap64 ((i : Int) + 1) = ((i + 1 : Nat) : Int) := by rw [w64s (by omega) (by omega)]; rfl
        have HN2 : Hid (FD l0 l1 n 0 = if pt l0 i < pt l1 i then -1 else if pt l0 i > pt l1 i then 1 else FD l0 l1 q (i + 1)) := Lib.hid hF.symm
        have hle : i + 1 ≤ n := hlt
        clear HF hnm hF hlt hq
        rcases Int.lt_trichotomy (pt l0 i) (pt l1 i) with hc | hc | hc
        · have HN := Lib.hid (show (-1 : Int) = FD l0 l1 n 0 by rw [HN2.out, if_pos hc])
          have d1 : decide (pt l0 i < pt l1 i) = true := by simp; omega
          have d2 : decide (pt l1 i < pt l0 i) = false := by simp; omega
          clear HN2 hc
          generalize pt l0 i = x0 at *
          generalize pt l1 i = x1 at *
          go_wp2_with (first
            | (go_at_call 17; (with_reducible refine (laws_part.calls A0 c0 l0 i x0 _ ?q1 hc0 HP0.out).mono ?_); (case q1 => first | exact HR02.out | exact Kd.C_drewN HR02.out _); rintro e w3 ⟨rfl, ⟨nd, rfl⟩⟩)
            | (go_at_call 17; (with_reducible refine (laws_part.calls A1 c1 l1 i x1 _ ?q1 hc1 HP1.out).mono ?_); (case q1 => first | exact HR12.out | exact Kd.C_drewN HR12.out _); rintro e w3 ⟨rfl, ⟨nd, rfl⟩⟩))
          go_roundw
          case rel => exact ⟨i + 1, -1, rfl, by first | rfl | rw [hw], hle, Lib.hid (.inr ⟨by decide, HN.out⟩), Lib.hid ⟨_, rfl⟩⟩
          case measure => simp [intOf]; omega
        · have HN := Lib.hid (show FD l0 l1 q (i + 1) = FD l0 l1 n 0 by rw [HN2.out, if_neg (by omega), if_neg (by omega)])
          have d1 : decide (pt l0 i < pt l1 i) = false := by simp; omega
          have d2 : decide (pt l1 i < pt l0 i) = false := by simp; omega
          clear HN2 hc
          generalize pt l0 i = x0 at *
          generalize pt l1 i = x1 at *
          go_wp2_with (first
            | (go_at_call 17; (with_reducible refine (laws_part.calls A0 c0 l0 i x0 _ ?q1 hc0 HP0.out).mono ?_); (case q1 => first | exact HR02.out | exact Kd.C_drewN HR02.out _); rintro e w3 ⟨rfl, ⟨nd, rfl⟩⟩)
            | (go_at_call 17; (with_reducible refine (laws_part.calls A1 c1 l1 i x1 _ ?q1 hc1 HP1.out).mono ?_); (case q1 => first | exact HR12.out | exact Kd.C_drewN HR12.out _); rintro e w3 ⟨rfl, ⟨nd, rfl⟩⟩))
          go_roundw
          case rel => exact ⟨i + 1, 0, rfl, by first | rfl | rw [hw], hle, Lib.hid (.inl ⟨rfl, by rw [hq2]; exact HN.out⟩), Lib.hid ⟨_, rfl⟩⟩
          case measure => simp [intOf]; omega
        · have HN := Lib.hid (show (1 : Int) = FD l0 l1 n 0 by rw [HN2.out, if_neg (by omega), if_pos (by omega)])
          have d1 : decide (pt l0 i < pt l1 i) = false := by simp; omega
          have d2 : decide (pt l1 i < pt l0 i) = true := by simp; omega
          clear HN2 hc
          generalize pt l0 i = x0 at *
          generalize pt l1 i = x1 at *
          go_wp2_with (first
            | (go_at_call 17; (with_reducible refine (laws_part.calls A0 c0 l0 i x0 _ ?q1 hc0 HP0.out).mono ?_); (case q1 => first | exact HR02.out | exact Kd.C_drewN HR02.out _); rintro e w3 ⟨rfl, ⟨nd, rfl⟩⟩)
            | (go_at_call 17; (with_reducible refine (laws_part.calls A1 c1 l1 i x1 _ ?q1 hc1 HP1.out).mono ?_); (case q1 => first | exact HR12.out | exact Kd.C_drewN HR12.out _); rintro e w3 ⟨rfl, ⟨nd, rfl⟩⟩))
          go_roundw
          case rel => exact ⟨i + 1, 1, rfl, by first | rfl | rw [hw], hle, Lib.hid (.inr ⟨by decide, HN.out⟩), Lib.hid ⟨_, rfl⟩⟩
          case measure => simp [intOf]; omega
      · have HE := Lib.hid (show t = FD l0 l1 n 0 by
          rcases HF.out with h | h
          · have e : i = n := by
              by_cases e : i < n
              · exact absurd ⟨e, h.1⟩ hex
              · omega
            have h2 := h.2
            rw [e, Nat.sub_self] at h2
            rw [h.1, ← h2]; rfl
          · exact h.2)
        have HS2 := Lib.hid (show laws_sign.f ri = some t by rw [HE.out]; exact HS.out)
        have hmx : decide ((i : Int) < mx (l0.length : Int) (l1.length : Int)) = decide (i < n) := by
          rw [decide_eq_decide]; unfold mx; split <;> omega
        have HB3 : Hid (Below w.heap.size w (W2.drewN d)) := Lib.hid (pw_below_drewN HB2.out d)
        by_cases hlt : i < n
        · have ht : (t == 0) = false := by
            rw [beq_eq_false_iff_ne]; exact fun e => hex ⟨hlt, e⟩
          have hl2 : decide (i < n) = true := decide_eq_true hlt
          rw [hl2] at hmx
          clear HF hex hlt hnm HE hl2
          go_wp2_with (first
            | (go_at_call 16; (with_reducible refine (impl_CompareSemver.calls ki A0 c0 l0 A1 c1 l1 ⟨#[]⟩ ⟨#[]⟩ ri _ ?q1 hc0 ?q3 hc1 HI.out).mono ?_); (case q1 => exact Kd.C_drewN HR02.out _); (case q3 => exact Kd.C_drewN HR12.out _); rintro e w3 ⟨rfl, hb3⟩; have HB4 := Lib.hid (HB3.out.trans (hb3.mono HB3.out.size)); clear hb3)
            | (go_at_call 18; (with_reducible refine (laws_sign.calls ri t _ HS2.out).mono ?_); rintro e w4 ⟨rfl, hb4⟩; have HB5 := Lib.hid (HB4.out.trans (hb4.mono HB4.out.size)); clear hb4)
            | (go_at_call 16; (refine (impl_CompareSemver.calls 12 _ 1 [1] _ 1 [2] ⟨#[]⟩ ⟨#[]⟩ (-1) _ ?q1 ?q2 ?q3 ?q4 H12.out).mono ?_); (case q1 => exact (lit_two _ _ rfl).1); (case q2 => exact Nat.le_refl _); (case q3 => exact (lit_two _ _ rfl).2); (case q4 => exact Nat.le_refl _); rintro e w5 ⟨rfl, hb5⟩))
          go_ret
          have HB6 := below_alloc (below_alloc HB5.out (.cells #[.int .i64 1] 3)) (.cells #[.int .i64 2] 3)
          exact ⟨rfl, HB6.trans (hb5.mono HB6.size)⟩
        · have hl2 : decide (i < n) = false := decide_eq_false hlt
          rw [hl2] at hmx
          clear HF hex hlt hnm HE hl2
          go_wp2_with (first
            | (go_at_call 16; (with_reducible refine (impl_CompareSemver.calls ki A0 c0 l0 A1 c1 l1 ⟨#[]⟩ ⟨#[]⟩ ri _ ?q1 hc0 ?q3 hc1 HI.out).mono ?_); (case q1 => exact Kd.C_drewN HR02.out _); (case q3 => exact Kd.C_drewN HR12.out _); rintro e w3 ⟨rfl, hb3⟩; have HB4 := Lib.hid (HB3.out.trans (hb3.mono HB3.out.size)); clear hb3)
            | (go_at_call 18; (with_reducible refine (laws_sign.calls ri t _ HS2.out).mono ?_); rintro e w4 ⟨rfl, hb4⟩; have HB5 := Lib.hid (HB4.out.trans (hb4.mono HB4.out.size)); clear hb4)
            | (go_at_call 16; (refine (impl_CompareSemver.calls 12 _ 1 [1] _ 1 [2] ⟨#[]⟩ ⟨#[]⟩ (-1) _ ?q1 ?q2 ?q3 ?q4 H12.out).mono ?_); (case q1 => exact (lit_two _ _ rfl).1); (case q2 => exact Nat.le_refl _); (case q3 => exact (lit_two _ _ rfl).2); (case q4 => exact Nat.le_refl _); rintro e w5 ⟨rfl, hb5⟩))
          go_ret
          have HB6 := below_alloc (below_alloc HB5.out (.cells #[.int .i64 1] 3)) (.cells #[.int .i64 2] 3)
          exact ⟨rfl, HB6.trans (hb5.mono HB6.size)⟩

def laws_FnCompareSemver.f (_ _ : List Int) : Option Bool := some true
theorem laws_FnCompareSemver.calls (A0 : Option Addr) (c0 : Nat) (l0 : List Int) (A1 : Option Addr) (c1 : Nat) (l1 : List Int) (r : Bool) (w : World) (hr0 : Kd.C (Kd.int .i64) w A0 l0.length l0) (hc0 : l0.length ≤ c0) (hr1 : Kd.C (Kd.int .i64) w A1 l1.length l1) (hc1 : l1.length ≤ c1) (h : laws_FnCompareSemver.f l0 l1 = some r) :
    Calls Tryd.prog 5 #[.slice A0 l0.length c0, .slice A1 l1.length c1] w fun e w' => e = .returned (.bool r) ∧ Below w.heap.size w w' := by
  obtain rfl := Option.some.inj h
  exact law_calls A0 A1 c0 c1 l0 l1 w hr0 hc0 hr1 hc1
end Go.Proofs.YtmgepjnaalnckaaDoor
