/- impl.Substituted, walked: the text of a template in which the placeholders that are set are put in, and which ones it still has. -/
import Derived.Test.YtfhfbgfgmbfhhaaExtSub
import Derived.Deep.RegionLaw
set_option linter.unusedVariables false
namespace Go.Proofs.Ytfhfbgfgmbfhhaa
open Go.RowKit Go.Proofs.YtfhfbgfgmbfhhaaW.PrintWords Go.Proofs.YtfhfbgfgmbfhhaaW.PrintMore Go.Proofs.Ytfhfbgfgmbfhhaa.PFnSubstituted
/-- The template of texts and placeholders' numbers. -/
def tmplOf (l0 : List ByteArray) (l1 : List Int) : List S35 := List.zipWith (fun s k => ⟨s, k⟩) l0 l1
def vOf (b : Bool) (s : ByteArray) : Option ByteArray := if b then some s else none
/-- Each part with what is put in. -/
def subAll (v1 v2 v3 v4 : Option ByteArray) (l : List S35) : List S35 := l.map fun x => subOne (pick4 none v1 v2 v3 v4 x.f1) x
def hasK (l : List S35) (k : Int) : Bool := l.any fun x => x.f1 == k
theorem tmplOf_length (l0 : List ByteArray) (l1 : List Int) (h : l0.length = l1.length) : (tmplOf l0 l1).length = l0.length := by simp [tmplOf, h]
theorem tmplOf_rd (l0 : List ByteArray) (l1 : List Int) (h : l0.length = l1.length) (i : Nat) (hi : i < l0.length) : rd_T35 (tmplOf l0 l1) i = ⟨rdOf ByteArray.empty l0 i, rd l1 i⟩ := by
  unfold rd_T35 tmplOf rdOf rd
  rw [Int.toNat_natCast, List.getD_eq_getElem?_getD, List.getElem?_zipWith, List.getD_eq_getElem?_getD, List.getD_eq_getElem?_getD, List.getElem?_eq_getElem hi, List.getElem?_eq_getElem (h ▸ hi)]
  rfl
theorem rend_put (acc : List S35) (x : S35) : rend (put35 acc x) = rend acc ++ rend [x] := by
  unfold put35
  split
  · next h =>
    obtain ⟨ys, y, rfl⟩ : ∃ ys y, acc = ys ++ [y] := by
      rcases List.eq_nil_or_concat acc with rfl | ⟨ys, y, rfl⟩
      · exact absurd h.1 (by simp)
      · exact ⟨ys, y, by simp⟩
    have hr : rd_T35 (ys ++ [y]) (((ys ++ [y]).length : Int) - 1) = y := by
      unfold rd_T35
      have : ((((ys ++ [y]).length : Nat) : Int) - 1).toNat = ys.length := by simp
      rw [this]
      simp [List.getD]
    rw [hr] at h ⊢
    have hs : (ys ++ [y]).set ((ys ++ [y]).length - 1) ⟨y.f0 ++ x.f0, x.f1⟩ = ys ++ [⟨y.f0 ++ x.f0, x.f1⟩] := by
      have : (ys ++ [y]).length - 1 = ys.length := by simp
      rw [this, List.set_append_right _ _ (Nat.le_refl _)]
      simp
    have e2 : (nameB 0).data.toList = [] := rfl
    rw [hs, rend_append, rend_append, rend_one, rend_one, rend_one, h.2, e2, List.append_nil]
    simp [ByteArray.data_append]
  · rw [rend_append]
theorem hasK_put (acc : List S35) (x : S35) (k : Int) (hk : k ≠ 0) : hasK (put35 acc x) k = (hasK acc k || x.f1 == k) := by
  unfold put35
  split
  · next h =>
    obtain ⟨ys, y, rfl⟩ : ∃ ys y, acc = ys ++ [y] := by
      rcases List.eq_nil_or_concat acc with rfl | ⟨ys, y, rfl⟩
      · exact absurd h.1 (by simp)
      · exact ⟨ys, y, by simp⟩
    have hr : rd_T35 (ys ++ [y]) (((ys ++ [y]).length : Int) - 1) = y := by
      unfold rd_T35
      have : ((((ys ++ [y]).length : Nat) : Int) - 1).toNat = ys.length := by simp
      rw [this]
      simp [List.getD]
    rw [hr] at h ⊢
    have hs : (ys ++ [y]).set ((ys ++ [y]).length - 1) ⟨y.f0 ++ x.f0, x.f1⟩ = ys ++ [⟨y.f0 ++ x.f0, x.f1⟩] := by
      have : (ys ++ [y]).length - 1 = ys.length := by simp
      rw [this, List.set_append_right _ _ (Nat.le_refl _)]
      simp
    have e3 : ((0 : Int) == k) = false := beq_eq_false_iff_ne.mpr (fun e => hk e.symm)
    rw [hs]
    simp [hasK, h.2, e3]
  · simp [hasK]
theorem rend_substs (v1 v2 v3 v4 : Option ByteArray) (l : List S35) : rend (substs v1 v2 v3 v4 l) = rend (subAll v1 v2 v3 v4 l) := by
  suffices h : ∀ (l acc : List S35), rend (l.foldl (fun acc x => put35 acc (subOne (pick4 none v1 v2 v3 v4 x.f1) x)) acc) = rend acc ++ rend (subAll v1 v2 v3 v4 l) by
    exact h l []
  intro l
  induction l with
  | nil => intro acc; simp [subAll, rend]
  | cons x l ih =>
    intro acc
    rw [List.foldl_cons, ih, rend_put, List.append_assoc, ← rend_append]
    rfl
theorem hasK_substs (v1 v2 v3 v4 : Option ByteArray) (l : List S35) (k : Int) (hk : k ≠ 0) : hasK (substs v1 v2 v3 v4 l) k = hasK (subAll v1 v2 v3 v4 l) k := by
  suffices h : ∀ (l acc : List S35), hasK (l.foldl (fun acc x => put35 acc (subOne (pick4 none v1 v2 v3 v4 x.f1) x)) acc) k = (hasK acc k || hasK (subAll v1 v2 v3 v4 l) k) by
    exact h l []
  intro l
  induction l with
  | nil => intro acc; simp [subAll, hasK]
  | cons x l ih =>
    intro acc
    rw [List.foldl_cons, ih, hasK_put _ _ _ hk, Bool.or_assoc]
    simp [subAll, hasK]
theorem subAll_none (v1 v2 v3 v4 : Option ByteArray) (l : List S35) (h : ∀ i : Nat, i < l.length → pick4 none v1 v2 v3 v4 (rd_T35 l i).f1 = none) : subAll v1 v2 v3 v4 l = l := by
  unfold subAll
  apply List.ext_getElem (by simp)
  intro i h1 h2
  have h3 := h i h2
  have e : rd_T35 l i = l[i] := by
    unfold rd_T35
    rw [Int.toNat_natCast, List.getD_eq_getElem?_getD, List.getElem?_eq_getElem h2]
    rfl
  rw [e] at h3
  rw [List.getElem_map, h3]
  rfl
/-- What SubstituteTemplate gives, told alike in both cases. -/
theorem told (v1 v2 v3 v4 : Option ByteArray) (l xs : List S35) (h : xs = substs v1 v2 v3 v4 l ∨ (xs = l ∧ ∀ i : Nat, i < l.length → pick4 none v1 v2 v3 v4 (rd_T35 l i).f1 = none)) :
    rend xs = rend (subAll v1 v2 v3 v4 l) ∧ (∀ k : Int, k ≠ 0 → hasK xs k = hasK (subAll v1 v2 v3 v4 l) k) ∧ xs.length ≤ l.length := by
  rcases h with rfl | ⟨rfl, h⟩
  · exact ⟨rend_substs _ _ _ _ _, fun k hk => hasK_substs _ _ _ _ _ k hk, substs_length _ _ _ _ _⟩
  · rw [subAll_none _ _ _ _ _ h]
    exact ⟨rfl, fun _ _ => rfl, Nat.le_refl _⟩
theorem hasK_cons (x : S35) (l : List S35) (a : Int) : hasK (x :: l) a = (x.f1 == a || hasK l a) := rfl
theorem has_f : ∀ (k : Nat) (l : List S35) (a : Int) (i : Nat), i ≤ l.length → l.length - i < k → l.length ≤ 50 → config_HasPlaceholder.l0 k a l (l.length : Int) (i : Int) = some (hasK (l.drop i) a)
  | 0, _, _, _, _, h, _ => absurd h (Nat.not_lt_zero _)
  | k + 1, l, a, i, hi, hk, hl => by
    unfold config_HasPlaceholder.l0
    by_cases h : i < l.length
    · have e : rd_T35 l (i : Int) = l[i] := by
        unfold rd_T35
        rw [Int.toNat_natCast, List.getD_eq_getElem?_getD, List.getElem?_eq_getElem h]
        rfl
      have ew : wrap64 ((i : Int) + 1) = ((i + 1 : Nat) : Int) := by unfold wrap64; omega
      have ih := has_f k l a (i + 1) (by omega) (by omega) hl
      rw [List.drop_eq_getElem_cons h, if_pos (by omega), if_pos (by omega), if_pos (by omega), e]
      by_cases hc : l[i].f1 = a
      · rw [if_pos hc, hasK_cons, beq_iff_eq.mpr hc]
        rfl
      · rw [if_neg hc, ew, ih, hasK_cons, beq_eq_false_iff_ne.mpr hc]
        rfl
    · have e : l.drop i = [] := List.drop_eq_nil_of_le (by omega)
      rw [e, if_neg (by omega)]
      rfl
theorem has_calls (A0 : Option Addr) (c0 : Nat) (l0 : List S35) (a1 : Int) (w : World) (hr0 : Kd.C k35 w A0 l0.length l0) (hc0 : l0.length ≤ c0) (hll : l0.length ≤ 50) :
    Calls Try.prog 8 #[.slice A0 l0.length c0, .int .u8 a1] w fun e w' => e = .returned (.bool (hasK l0 a1)) ∧ Below w.heap.size w w' :=
  config_HasPlaceholder.calls (l0.length + 1) A0 c0 l0 a1 (hasK l0 a1) w hr0 hc0 (has_f (l0.length + 1) l0 a1 0 (Nat.zero_le _) (by omega) hll)
theorem alloc3 (w : World) (o1 o2 o3 : Obj) : Below w.heap.size w (((w.alloc o1).alloc o2).alloc o3) ∧ (((w.alloc o1).alloc o2).alloc o3).heap[w.heap.size]? = some o1 ∧ (((w.alloc o1).alloc o2).alloc o3).heap[w.heap.size + 1]? = some o2 ∧ (((w.alloc o1).alloc o2).alloc o3).heap[w.heap.size + 1 + 1]? = some o3 ∧ (((w.alloc o1).alloc o2).alloc o3).heap.size = w.heap.size + 3 := by
  have e1 : (w.alloc o1).heap.size = w.heap.size + 1 := by simp
  have e2 : ((w.alloc o1).alloc o2).heap.size = w.heap.size + 1 + 1 := by simp
  have f1 := heap_alloc_new w o1
  have f2 := heap_alloc_new (w.alloc o1) o2
  have f3 := heap_alloc_new ((w.alloc o1).alloc o2) o3
  rw [e1] at f2
  rw [e2] at f3
  refine ⟨below_alloc (below_alloc (below_alloc (Below.refl _ _) _) _) _, ?_, ?_, f3, by simp⟩
  · rw [Below.heap_alloc _ _ _ (by omega), Below.heap_alloc _ _ _ (by omega), f1]
  · rw [Below.heap_alloc _ _ _ (by omega), f2]
theorem alloc2 (w : World) (o1 o2 : Obj) : Below w.heap.size w ((w.alloc o1).alloc o2) ∧ ((w.alloc o1).alloc o2).heap[w.heap.size]? = some o1 ∧ ((w.alloc o1).alloc o2).heap[w.heap.size + 1]? = some o2 := by
  have e1 : (w.alloc o1).heap.size = w.heap.size + 1 := by simp
  have f1 := heap_alloc_new w o1
  have f2 := heap_alloc_new (w.alloc o1) o2
  rw [e1] at f2
  refine ⟨below_alloc (below_alloc (Below.refl _ _) _) _, ?_, f2⟩
  rw [Below.heap_alloc _ _ _ (by omega), f1]
/-- What the j-th of four pointers points to when i of them have been set. -/
def qq (g : Nat) (b : Bool) (j i : Nat) : Option Addr := if j < i then (if b = true then some ⟨g, j, none⟩ else none) else none
theorem qq_at {w : World} {g j : Nat} {b : Bool} {s : ByteArray} (h : w.cell? ⟨g, j, none⟩ = some (.string s)) (hj : j < 4) : PAt w (qq g b j 4) (vOf b s) := by
  unfold qq vOf
  rw [if_pos hj]
  cases b
  · exact trivial
  · exact h
theorem add_blk (ad : Addr) (n : Nat) : (ad.add n).block = ad.block := by
  unfold Addr.add
  split <;> rfl
theorem C_via {w w' : World} {A : Option Addr} {n : Nat} {xs : List S35} (h : Kd.C k35 w A n xs) (hc : ∀ ad j u, A = some ad → 0 < n → w.cell? (ad.add j) = some (.string u) → w'.cell? (ad.add j) = some (.string u)) (hi : ∀ ad j u, A = some ad → 0 < n → w.cell? (ad.add j) = some (.int .u8 u) → w'.cell? (ad.add j) = some (.int .u8 u)) : Kd.C k35 w' A n xs := by
  refine ⟨h.1, h.2.1, fun hn => ?_⟩
  obtain ⟨ad, e, hcell⟩ := h.2.2 hn
  refine ⟨ad, e, fun j p hj => ?_⟩
  obtain ⟨c, hl, hK, hcc⟩ := hcell j p hj
  obtain rfl := k35_open hK
  refine ⟨_, hl, k35_mk _ _, fun i u hu => ?_⟩
  match i, hu with
  | 0, hu =>
    have e2 := Option.some.inj hu
    subst e2
    exact hc ad _ _ e hn (hcc 0 _ rfl)
  | 1, hu =>
    have e2 := Option.some.inj hu
    subst e2
    exact hi ad _ _ e hn (hcc 1 _ rfl)
theorem C_low {w w' : World} {A : Option Addr} {n g : Nat} {xs : List S35} (h : Kd.C k35 w A n xs) (hA : ∀ ad, A = some ad → 0 < n → ad.block < g) (hb : Below g w w') : Kd.C k35 w' A n xs :=
  C_via h (fun ad j u e hn hu => (hb.cell (by rw [add_blk]; exact hA ad e hn)).trans hu) (fun ad j u e hn hu => (hb.cell (by rw [add_blk]; exact hA ad e hn)).trans hu)
theorem cell_apart {w : World} {g j : Nat} {cs : Array Value} {t : TypeId} {a : Addr} {v u : Value} (hg : w.heap[g]? = some (.cells cs t (0, 0))) (hbool : ∀ x ∈ cs.toList, ∃ b, x = .bool b) (hv : ∀ b, v ≠ .bool b) (h : w.cell? a = some v) : (w.setCell ⟨g, j, none⟩ u).cell? a = some v := by
  have hne : a.block ≠ g := by
    intro e
    subst e
    unfold World.cell? at h
    rw [hg] at h
    by_cases hs : a.spot.isSome = true
    · simp [hs] at h
    · simp [hs] at h
      obtain ⟨hl, he⟩ := Array.getElem?_eq_some_iff.1 h
      obtain ⟨b, hb⟩ := hbool v (by rw [← he]; exact Array.mem_toList_iff.2 (Array.getElem_mem hl))
      exact hv b hb
  have hblk : (w.setCell ⟨g, j, none⟩ u).heap[a.block]? = w.heap[a.block]? := Below.heap_setCell _ _ _ _ hne
  exact (World.cell?_of_block hblk).trans h
theorem C_apart {w : World} {A : Option Addr} {n g j : Nat} {xs : List S35} {cs : Array Value} {t : TypeId} (h : Kd.C k35 w A n xs) (hg : w.heap[g]? = some (.cells cs t (0, 0))) (hbool : ∀ x ∈ cs.toList, ∃ b, x = .bool b) (u : Value) : Kd.C k35 (w.setCell ⟨g, j, none⟩ u) A n xs :=
  C_via h (fun ad j u e hn hu => cell_apart hg hbool (by intro b hb; cases hb) hu) (fun ad j u e hn hu => cell_apart hg hbool (by intro b hb; cases hb) hu)
/-- Which ones are still there, told for those below i. -/
def hv (xs : List S35) (j i : Nat) : Bool := if j < i then hasK xs j else false
theorem bools5 (x0 x1 x2 x3 x4 : Bool) : ∀ x ∈ (#[Value.bool x0, .bool x1, .bool x2, .bool x3, .bool x4] : Array Value).toList, ∃ b, x = .bool b := by
  intro x hx
  simp at hx
  rcases hx with h | h | h | h | h <;> exact ⟨_, h⟩
theorem results_tmp_cell {fn : Func} {t p : Tmp} {ty : TypeId} (h : fn.results = #[.tmp t, .cell p ty]) (tmps : Array Value) (P : Program) (w : World) (g : Nat) (cs : Array Value)
    (hp : tmps.getD p undef = .pointer (some ⟨g, 0, none⟩)) (hrow : (loadVar ty ⟨g, 0, none⟩).run P w = .ok (.agg cs) w) :
    (results fn tmps).run P w = .ok (.tuple #[tmps.getD t undef, .agg cs]) w := by
  have hp' : tmps[p]?.getD undef = .pointer (some ⟨g, 0, none⟩) := by simpa using hp
  simp [results, h, hp', asAddr, hrow, Result.andThen]
set_option maxHeartbeats 4000000 in
set_option maxRecDepth 100000 in
theorem Impl.calls (A0 A1 : Option Addr) (c0 c1 : Nat) (l0 : List ByteArray) (l1 : List Int) (s0 s1 s2 s3 : ByteArray) (b0 b1 b2 b3 : Bool) (w : World) (hr0 : Kd.C Kd.string w A0 l0.length l0) (hc0 : l0.length ≤ c0) (hr1 : Kd.C (Kd.int .i64) w A1 l1.length l1) (hc1 : l1.length ≤ c1)
    (hl : l0.length = l1.length) (hll : l0.length ≤ 50) (hk : ∀ i : Nat, i < l0.length → 0 ≤ rd l1 i ∧ rd l1 i ≤ 4)
    (hT : tsz (vOf b0 s0) (vOf b1 s1) (vOf b2 s2) (vOf b3 s3) (tmplOf l0 l1) ≤ 140737488355328) (hT2 : (rend (subAll (vOf b0 s0) (vOf b1 s1) (vOf b2 s2) (vOf b3 s3) (tmplOf l0 l1))).length ≤ 140737488355328) :
    Calls Try.prog 6 #[.slice A0 l0.length c0, .slice A1 l1.length c1, .agg #[.string s0, .string s1, .string s2, .string s3], .agg #[.bool b0, .bool b1, .bool b2, .bool b3]] w fun e w' => ∃ h0 : Bool, e = .returned (.tuple #[.string ⟨(rend (subAll (vOf b0 s0) (vOf b1 s1) (vOf b2 s2) (vOf b3 s3) (tmplOf l0 l1))).toArray⟩,
      .agg #[.bool h0, .bool (hasK (subAll (vOf b0 s0) (vOf b1 s1) (vOf b2 s2) (vOf b3 s3) (tmplOf l0 l1)) 1), .bool (hasK (subAll (vOf b0 s0) (vOf b1 s1) (vOf b2 s2) (vOf b3 s3) (tmplOf l0 l1)) 2), .bool (hasK (subAll (vOf b0 s0) (vOf b1 s1) (vOf b2 s2) (vOf b3 s3) (tmplOf l0 l1)) 3), .bool (hasK (subAll (vOf b0 s0) (vOf b1 s1) (vOf b2 s2) (vOf b3 s3) (tmplOf l0 l1)) 4)]]) ∧ Below w.heap.size w w' := by
  have HR0 := Lib.hid hr0
  have HR1 := Lib.hid hr1
  have HTL := Lib.hid (tmplOf_length l0 l1 hl)
  have HTR := Lib.hid (tmplOf_rd l0 l1 hl)
  have HK := Lib.hid hk
  have HC0 := Lib.hid hc0
  have HL1 := Lib.hid hl
  rw [← hl]
  have HT := Lib.hid hT
  have HT2 := Lib.hid hT2
  have HL := Lib.hid hll
  clear hr0 hr1 hk hc0 hc1 hT hT2 hl hll
  generalize hTT : tmplOf l0 l1 = T at *
  generalize hTS : subAll (vOf b0 s0) (vOf b1 s1) (vOf b2 s2) (vOf b3 s3) T = TS at *
  have HTS := Lib.hid hTS
  clear hTT hTS
  go_enter Try.func6, Try.ntmps6
  go_wp2
  obtain ⟨hB1, hV1, hS1, hH1, hsz1⟩ := alloc3 w (.cells #[.string s0, .string s1, .string s2, .string s3] 24 (0, 0)) (.cells #[.bool b0, .bool b1, .bool b2, .bool b3] 25 (0, 0)) (.cells #[.bool false, .bool false, .bool false, .bool false, .bool false] 28 (0, 0))
  generalize World.alloc (World.alloc (World.alloc w _) _) _ = W at *
  have HW := Lib.hid hB1
  have HV := Lib.hid hV1
  have HS := Lib.hid hS1
  have HH := Lib.hid hH1
  have HZ := Lib.hid hsz1
  clear hB1 hV1 hS1 hH1 hsz1
  go_loopw [21, 10] (fun v21 v10 wr => ∃ (i : Nat), v21 = .int .i64 (i : Int) ∧ i ≤ l0.length ∧ Hid (k35.R 35 wr W.heap.size (fun _ => True) v10 (T.take i)) ∧ Hid (Below W.heap.size W wr)) (fun v21 _ _ => l0.length - (intOf v21).toNat)
  case atStart => exact ⟨0, rfl, Nat.zero_le _, Lib.hid (Kd.R_nil _ _ _ _ _), Lib.hid (Below.refl _ _)⟩
  case round =>
    obtain ⟨i, rfl, hi, HO, HB⟩ := hrel
    by_cases hlt : i < l0.length
    · have p1' : (0 : Int) ≤ (i : Int) := by omega
      have q1' : (i : Int) < (l0.length : Int) := by omega
      have q2' : (i : Int) < (l1.length : Int) := by have := HL1.out; omega
      have d1 : decide ((i : Int) < (l0.length : Int)) = true := decide_eq_true q1'
      have d2 : decide (i < l0.length) = true := decide_eq_true hlt
      have hw : wrap64 ((i : Int) + 1) = ((i + 1 : Nat) : Int) := by have := HL.out; unfold wrap64; omega
      have HF := Lib.hid (show Below w.heap.size w wr from HW.out.trans (HB.out.mono HW.out.size))
      obtain ⟨a0, e0, x0⟩ := Kd.at_string HR0.out i p1' q1'
      obtain ⟨a1, e1, x1⟩ := Kd.at_int HR1.out i p1' q2'
      cases e0
      cases e1
      rw [Int.toNat_natCast] at x0 x1
      replace x0 := (HF.out.cell (World.block_lt_of_cell? w _ x0)).trans x0
      replace x1 := (HF.out.cell (World.block_lt_of_cell? w _ x1)).trans x1
      have HE := Lib.hid (show T.take (i + 1) = T.take i ++ [⟨rdOf ByteArray.empty l0 i, rd l1 i⟩] from by rw [take_succ_rd T i (by rw [HTL.out]; exact hlt), HTR.out i hlt])
      have HQ := Lib.hid (show (T.take i).length ≤ 50 from by have := HL.out; rw [List.length_take]; omega)
      obtain ⟨k0, k4⟩ := HK.out i hlt
      generalize rdOf ByteArray.empty l0 i = s at *
      generalize rd l1 i = c at *
      have b4 : decide (c < 0) = false := decide_eq_false (by omega)
      have b5 : decide (5 ≤ c) = false := decide_eq_false (by omega)
      have b6 : (c < 0) = False := eq_false (by omega)
      have b7 : (5 ≤ c) = False := eq_false (by omega)
      have hc8 : IntKind.u8.wrap c = c := by have e : IntKind.u8.wrap c = c % 256 := rfl; omega
      have HM := Lib.hid hlt
      have KQ := Lib.hid (show 0 ≤ c ∧ c ≤ 4 from ⟨k0, k4⟩)
      clear hi hlt k0 k4
      replace p1' := eq_true p1'
      replace q1' := eq_true q1'
      replace q2' := eq_true q2'
      go_wp2
      go_region_law (refine Kd.R_append_step k35 (w0 := W) (W := wr.drew) W.heap.size (by rfl) (.tmp 37) (.tmp 48) 32 35 (.agg #[(.string ⟨#[]⟩), (.int .u8 0)]) 24 rfl Try.underlying32 info35 rfl (by decide) (by omega) u10 (T.take i) (⟨s, c⟩ : S35) [.string s, .int .u8 c] (fun _ => True) (fun _ => False) rfl rfl ?aP (fun _ hk => hk.elim) ?aF ?aO ?aB ?aS ?aL ?_; (case aP => exact k35_mkM _ _ _ (⟨s, c⟩ : S35)); (case aF => exact (fun _ _ => trivial)); (case aO => exact Kd.R_drew HO.out); (case aB => exact HB.out.drew); (case aS => exact HB.out.size); (case aL => have := HQ.out; omega); intro v9 w12 ho hb hg hat; have HO12 := Lib.hid ho; have HB12 := Lib.hid hb; clear ho hb hg hat)
      all_goals go_wp2
      all_goals go_roundw
      all_goals first
        | exact ⟨i + 1, by rw [hw], HM.out, Lib.hid (by rw [HE.out]; exact HO12.out), HB12⟩
        | exact meas_step HM.out hw
    · have d1 : decide ((i : Int) < (l0.length : Int)) = false := decide_eq_false (by omega)
      have d2 : decide (i < l0.length) = false := decide_eq_false hlt
      have e3 : T.take i = T := List.take_of_length_le (by have := HTL.out; omega)
      rw [e3] at HO
      obtain ⟨AT, cT, hv2, hlc, hC⟩ := Kd.R_reads HO.out
      subst hv2
      have HCT := Lib.hid hC
      have HLT := Lib.hid hlc
      have HF := Lib.hid (show Below w.heap.size w wr from HW.out.trans (HB.out.mono HW.out.size))
      clear hC hlc hi hlt e3 HO
      go_wp2
      obtain ⟨hB2, hP2, hQ2⟩ := alloc2 wr (.cells #[.pointer none, .pointer none, .pointer none, .pointer none] 38 (0, 0)) (.cells #[.pointer (some ⟨wr.heap.size, 0, none⟩), .pointer (some ⟨wr.heap.size, 1, none⟩), .pointer (some ⟨wr.heap.size, 2, none⟩), .pointer (some ⟨wr.heap.size, 3, none⟩)] 39 (0, 0))
      have hg : w.heap.size + 3 ≤ wr.heap.size := by have := HB.out.size; have := HZ.out; omega
      have HV2 := Lib.hid ((hB2.block w.heap.size (by omega)).trans ((HB.out.block w.heap.size (by have := HZ.out; omega)).trans HV.out))
      have HS2 := Lib.hid ((hB2.block (w.heap.size + 1) (by omega)).trans ((HB.out.block (w.heap.size + 1) (by have := HZ.out; omega)).trans HS.out))
      have HH2 := Lib.hid ((hB2.block (w.heap.size + 1 + 1) (by omega)).trans ((HB.out.block (w.heap.size + 1 + 1) (by have := HZ.out; omega)).trans HH.out))
      have HCT2 := Lib.hid (Kd.C_below HCT.out hB2)
      have HF2 := Lib.hid (HF.out.trans (hB2.mono (by omega)))
      have hAT : ∀ ad, AT = some ad → 0 < T.length → ad.block < wr.heap.size := by
        intro ad e h
        subst e
        obtain ⟨ad', e', x0, _⟩ := at_T35 HCT.out 0 (by decide) (by omega)
        cases e'
        have hx := World.block_lt_of_cell? wr _ x0
        unfold Addr.add at hx
        split at hx <;> exact hx
      have HAT := Lib.hid hAT
      have HG := Lib.hid hg
      generalize World.alloc (World.alloc wr _) _ = W2 at *
      generalize wr.heap.size = gP at *
      have HP := Lib.hid hP2
      have HQ := Lib.hid hQ2
      clear hAT hB2 hP2 hQ2 hg HCT HF HB HV HS HH HZ HW d1 d2
      go_loopw [58] (fun v58 wr => ∃ (i : Nat), v58 = .int .i64 (i : Int) ∧ Hid (i = 0 ∨ i = 1 ∨ i = 2 ∨ i = 3 ∨ i = 4) ∧ Hid (wr.heap[gP]? = some (.cells #[.pointer (qq w.heap.size b0 0 i), .pointer (qq w.heap.size b1 1 i), .pointer (qq w.heap.size b2 2 i), .pointer (qq w.heap.size b3 3 i)] 38 (0, 0))) ∧ Hid (wr.heap[gP + 1]? = some (.cells #[.pointer (some ⟨gP, 0, none⟩), .pointer (some ⟨gP, 1, none⟩), .pointer (some ⟨gP, 2, none⟩), .pointer (some ⟨gP, 3, none⟩)] 39 (0, 0))) ∧ Hid (Below gP W2 wr)) (fun v58 _ => 4 - (intOf v58).toNat)
      case atStart => exact ⟨0, rfl, Lib.hid (.inl rfl), HP, HQ, Lib.hid (Below.refl _ _)⟩
      clear HP HQ
      obtain ⟨i, rfl, HI, HP, HQ, HB3⟩ := hrel
      have HV3 := Lib.hid ((HB3.out.block w.heap.size (by have := HG.out; omega)).trans HV2.out)
      have HS3 := Lib.hid ((HB3.out.block (w.heap.size + 1) (by have := HG.out; omega)).trans HS2.out)
      have HH3 := Lib.hid ((HB3.out.block (w.heap.size + 1 + 1) (by have := HG.out; omega)).trans HH2.out)
      rcases HI.out with rfl | rfl | rfl | rfl | rfl
      · have q0 := (blk_cell HQ.out 0).trans rfl
        have q1 := (blk_cell HS3.out 0).trans rfl
        have q2 := (blk_cell HP.out 0).trans rfl
        have q3 := blk_frozen HP.out 0
        by_cases hb : b0 = true
        · have HP2 := Lib.hid (blk_put HP.out 0 (.pointer (some ⟨w.heap.size, 0, none⟩)) (cs' := #[.pointer (qq w.heap.size b0 0 1), .pointer (qq w.heap.size b1 1 1), .pointer (qq w.heap.size b2 2 1), .pointer (qq w.heap.size b3 3 1)]) (by simp [qq, hb]))
          go_wp2
          go_roundw
          case rel => exact ⟨1, rfl, Lib.hid (by omega), HP2, Lib.hid ((Below.heap_setCell _ _ _ _ (by simp)).trans HQ.out), Lib.hid (HB3.out.setCell (p := ⟨gP, 0, none⟩) (Nat.le_refl _) _)⟩
          case measure => simp [intOf]
        · have hb' : b0 = false := Bool.eq_false_iff.2 hb
          have HP2 := Lib.hid (show wr.heap[gP]? = some (.cells #[.pointer (qq w.heap.size b0 0 1), .pointer (qq w.heap.size b1 1 1), .pointer (qq w.heap.size b2 2 1), .pointer (qq w.heap.size b3 3 1)] 38 (0, 0)) from by rw [HP.out]; simp [qq, hb'])
          clear hb
          go_wp2
          go_roundw
          case rel => exact ⟨1, rfl, Lib.hid (by omega), HP2, HQ, HB3⟩
          case measure => simp [intOf]
      · have q0 := (blk_cell HQ.out 1).trans rfl
        have q1 := (blk_cell HS3.out 1).trans rfl
        have q2 := (blk_cell HP.out 1).trans rfl
        have q3 := blk_frozen HP.out 1
        by_cases hb : b1 = true
        · have HP2 := Lib.hid (blk_put HP.out 1 (.pointer (some ⟨w.heap.size, 1, none⟩)) (cs' := #[.pointer (qq w.heap.size b0 0 2), .pointer (qq w.heap.size b1 1 2), .pointer (qq w.heap.size b2 2 2), .pointer (qq w.heap.size b3 3 2)]) (by simp [qq, hb]))
          go_wp2
          go_roundw
          case rel => exact ⟨2, rfl, Lib.hid (by omega), HP2, Lib.hid ((Below.heap_setCell _ _ _ _ (by simp)).trans HQ.out), Lib.hid (HB3.out.setCell (p := ⟨gP, 1, none⟩) (Nat.le_refl _) _)⟩
          case measure => simp [intOf]
        · have hb' : b1 = false := Bool.eq_false_iff.2 hb
          have HP2 := Lib.hid (show wr.heap[gP]? = some (.cells #[.pointer (qq w.heap.size b0 0 2), .pointer (qq w.heap.size b1 1 2), .pointer (qq w.heap.size b2 2 2), .pointer (qq w.heap.size b3 3 2)] 38 (0, 0)) from by rw [HP.out]; simp [qq, hb'])
          clear hb
          go_wp2
          go_roundw
          case rel => exact ⟨2, rfl, Lib.hid (by omega), HP2, HQ, HB3⟩
          case measure => simp [intOf]
      · have q0 := (blk_cell HQ.out 2).trans rfl
        have q1 := (blk_cell HS3.out 2).trans rfl
        have q2 := (blk_cell HP.out 2).trans rfl
        have q3 := blk_frozen HP.out 2
        by_cases hb : b2 = true
        · have HP2 := Lib.hid (blk_put HP.out 2 (.pointer (some ⟨w.heap.size, 2, none⟩)) (cs' := #[.pointer (qq w.heap.size b0 0 3), .pointer (qq w.heap.size b1 1 3), .pointer (qq w.heap.size b2 2 3), .pointer (qq w.heap.size b3 3 3)]) (by simp [qq, hb]))
          go_wp2
          go_roundw
          case rel => exact ⟨3, rfl, Lib.hid (by omega), HP2, Lib.hid ((Below.heap_setCell _ _ _ _ (by simp)).trans HQ.out), Lib.hid (HB3.out.setCell (p := ⟨gP, 2, none⟩) (Nat.le_refl _) _)⟩
          case measure => simp [intOf]
        · have hb' : b2 = false := Bool.eq_false_iff.2 hb
          have HP2 := Lib.hid (show wr.heap[gP]? = some (.cells #[.pointer (qq w.heap.size b0 0 3), .pointer (qq w.heap.size b1 1 3), .pointer (qq w.heap.size b2 2 3), .pointer (qq w.heap.size b3 3 3)] 38 (0, 0)) from by rw [HP.out]; simp [qq, hb'])
          clear hb
          go_wp2
          go_roundw
          case rel => exact ⟨3, rfl, Lib.hid (by omega), HP2, HQ, HB3⟩
          case measure => simp [intOf]
      · have q0 := (blk_cell HQ.out 3).trans rfl
        have q1 := (blk_cell HS3.out 3).trans rfl
        have q2 := (blk_cell HP.out 3).trans rfl
        have q3 := blk_frozen HP.out 3
        by_cases hb : b3 = true
        · have HP2 := Lib.hid (blk_put HP.out 3 (.pointer (some ⟨w.heap.size, 3, none⟩)) (cs' := #[.pointer (qq w.heap.size b0 0 4), .pointer (qq w.heap.size b1 1 4), .pointer (qq w.heap.size b2 2 4), .pointer (qq w.heap.size b3 3 4)]) (by simp [qq, hb]))
          go_wp2
          go_roundw
          case rel => exact ⟨4, rfl, Lib.hid (by omega), HP2, Lib.hid ((Below.heap_setCell _ _ _ _ (by simp)).trans HQ.out), Lib.hid (HB3.out.setCell (p := ⟨gP, 3, none⟩) (Nat.le_refl _) _)⟩
          case measure => simp [intOf]
        · have hb' : b3 = false := Bool.eq_false_iff.2 hb
          have HP2 := Lib.hid (show wr.heap[gP]? = some (.cells #[.pointer (qq w.heap.size b0 0 4), .pointer (qq w.heap.size b1 1 4), .pointer (qq w.heap.size b2 2 4), .pointer (qq w.heap.size b3 3 4)] 38 (0, 0)) from by rw [HP.out]; simp [qq, hb'])
          clear hb
          go_wp2
          go_roundw
          case rel => exact ⟨4, rfl, Lib.hid (by omega), HP2, HQ, HB3⟩
          case measure => simp [intOf]
      · have h1 := qq_at (b := b0) ((blk_cell HV3.out 0).trans rfl) (by decide)
        have h2 := qq_at (b := b1) ((blk_cell HV3.out 1).trans rfl) (by decide)
        have h3 := qq_at (b := b2) ((blk_cell HV3.out 2).trans rfl) (by decide)
        have h4 := qq_at (b := b3) ((blk_cell HV3.out 3).trans rfl) (by decide)
        have HG1 := Lib.hid h1
        have HG2 := Lib.hid h2
        have HG3 := Lib.hid h3
        have HG4 := Lib.hid h4
        clear h1 h2 h3 h4
        have q0 := (blk_cell HP.out 0).trans rfl
        have q1 := (blk_cell HP.out 1).trans rfl
        have q2 := (blk_cell HP.out 2).trans rfl
        have q3 := (blk_cell HP.out 3).trans rfl
        have HCT3 := Lib.hid (C_low HCT2.out HAT.out HB3.out)
        have HF3 := Lib.hid (HF2.out.trans (HB3.out.mono (by have := HG.out; omega)))
        have HS3' := Lib.hid (blk_lt HH3.out)
        go_wp2_with (first | (go_at_call 7; (with_reducible refine (Sub.calls AT cT T (qq w.heap.size b0 0 4) (qq w.heap.size b1 1 4) (qq w.heap.size b2 2 4) (qq w.heap.size b3 3 4) (vOf b0 s0) (vOf b1 s1) (vOf b2 s2) (vOf b3 s3) wr HCT3.out HLT.out (Nat.le_trans (Nat.le_of_eq HTL.out) HL.out) HG1.out HG2.out HG3.out HG4.out HT.out).mono ?_); rintro e w4 ⟨A3, c3, xs, rfl, hle3, hC3, htold, hb3⟩; have HO3 := Lib.hid (told _ _ _ _ _ _ htold); have HC3 := Lib.hid hC3; have HL3 := Lib.hid hle3; have HB4 := Lib.hid hb3; clear hle3 hC3 htold hb3))
        have HH4 := Lib.hid ((HB4.out.block _ HS3'.out).trans HH3.out)
        have HF4 := Lib.hid (HF3.out.trans (HB4.out.mono HF3.out.size))
        have HX3 := Lib.hid (show xs.length ≤ 50 from by have := HO3.out.2.2; have := HTL.out; have := HL.out; omega)
        have HZ4 := Lib.hid (show (rend xs).length ≤ 140737488355328 from by rw [HO3.out.1, HTS.out]; exact HT2.out)
        clear HB4 HS3' HF3 HCT3 HG1 HG2 HG3 HG4 q0 q1 q2 q3 HP HQ HB3 HV3 HS3 HH3 HI HG HAT HF2 HCT2 HH2 HS2 HV2
        go_loopw [74] (fun v74 wr => ∃ (i : Nat), v74 = .int .i64 (i : Int) ∧ Hid (i = 0 ∨ i = 1 ∨ i = 2 ∨ i = 3 ∨ i = 4 ∨ i = 5) ∧ Hid (wr.heap[w.heap.size + 1 + 1]? = some (.cells #[.bool (hv xs 0 i), .bool (hv xs 1 i), .bool (hv xs 2 i), .bool (hv xs 3 i), .bool (hv xs 4 i)] 28 (0, 0))) ∧ Hid (Kd.C k35 wr A3 xs.length xs) ∧ Hid (Below w.heap.size w wr)) (fun v74 _ => 5 - (intOf v74).toNat)
        case atStart => exact ⟨0, rfl, Lib.hid (.inl rfl), HH4, HC3, HF4⟩
        clear HH4 HC3 HF4
        obtain ⟨i, rfl, HI, HH5, HC5, HB5⟩ := hrel
        rcases HI.out with rfl | rfl | rfl | rfl | rfl | rfl
        · go_wp2_with (first | (go_at_call 8; (with_reducible refine (has_calls A3 c3 xs 0 _ HC5.out HL3.out HX3.out).mono ?_); rintro e w9 ⟨rfl, hb9⟩; have HH9 := Lib.hid ((hb9.block _ (blk_lt HH5.out)).trans HH5.out); have HC9 := Lib.hid (Kd.C_below HC5.out hb9); have HB9 := Lib.hid (HB5.out.trans (hb9.mono HB5.out.size)); have y0 := (blk_cell HH9.out 0).trans rfl; have y1 := blk_frozen HH9.out 0; clear hb9))
          go_roundw
          case rel => exact ⟨1, rfl, Lib.hid (by omega), Lib.hid (blk_put HH9.out 0 (.bool (hasK xs 0)) (cs' := #[.bool (hv xs 0 1), .bool (hv xs 1 1), .bool (hv xs 2 1), .bool (hv xs 3 1), .bool (hv xs 4 1)]) (by simp [hv])), Lib.hid (C_apart HC9.out HH9.out (bools5 _ _ _ _ _) _), Lib.hid (HB9.out.setCell (p := ⟨w.heap.size + 1 + 1, 0, none⟩) (by show w.heap.size ≤ w.heap.size + 1 + 1; omega) _)⟩
          case measure => simp [intOf]
        · go_wp2_with (first | (go_at_call 8; (with_reducible refine (has_calls A3 c3 xs 1 _ HC5.out HL3.out HX3.out).mono ?_); rintro e w9 ⟨rfl, hb9⟩; have HH9 := Lib.hid ((hb9.block _ (blk_lt HH5.out)).trans HH5.out); have HC9 := Lib.hid (Kd.C_below HC5.out hb9); have HB9 := Lib.hid (HB5.out.trans (hb9.mono HB5.out.size)); have y0 := (blk_cell HH9.out 1).trans rfl; have y1 := blk_frozen HH9.out 1; clear hb9))
          go_roundw
          case rel => exact ⟨2, rfl, Lib.hid (by omega), Lib.hid (blk_put HH9.out 1 (.bool (hasK xs 1)) (cs' := #[.bool (hv xs 0 2), .bool (hv xs 1 2), .bool (hv xs 2 2), .bool (hv xs 3 2), .bool (hv xs 4 2)]) (by simp [hv])), Lib.hid (C_apart HC9.out HH9.out (bools5 _ _ _ _ _) _), Lib.hid (HB9.out.setCell (p := ⟨w.heap.size + 1 + 1, 1, none⟩) (by show w.heap.size ≤ w.heap.size + 1 + 1; omega) _)⟩
          case measure => simp [intOf]
        · go_wp2_with (first | (go_at_call 8; (with_reducible refine (has_calls A3 c3 xs 2 _ HC5.out HL3.out HX3.out).mono ?_); rintro e w9 ⟨rfl, hb9⟩; have HH9 := Lib.hid ((hb9.block _ (blk_lt HH5.out)).trans HH5.out); have HC9 := Lib.hid (Kd.C_below HC5.out hb9); have HB9 := Lib.hid (HB5.out.trans (hb9.mono HB5.out.size)); have y0 := (blk_cell HH9.out 2).trans rfl; have y1 := blk_frozen HH9.out 2; clear hb9))
          go_roundw
          case rel => exact ⟨3, rfl, Lib.hid (by omega), Lib.hid (blk_put HH9.out 2 (.bool (hasK xs 2)) (cs' := #[.bool (hv xs 0 3), .bool (hv xs 1 3), .bool (hv xs 2 3), .bool (hv xs 3 3), .bool (hv xs 4 3)]) (by simp [hv])), Lib.hid (C_apart HC9.out HH9.out (bools5 _ _ _ _ _) _), Lib.hid (HB9.out.setCell (p := ⟨w.heap.size + 1 + 1, 2, none⟩) (by show w.heap.size ≤ w.heap.size + 1 + 1; omega) _)⟩
          case measure => simp [intOf]
        · go_wp2_with (first | (go_at_call 8; (with_reducible refine (has_calls A3 c3 xs 3 _ HC5.out HL3.out HX3.out).mono ?_); rintro e w9 ⟨rfl, hb9⟩; have HH9 := Lib.hid ((hb9.block _ (blk_lt HH5.out)).trans HH5.out); have HC9 := Lib.hid (Kd.C_below HC5.out hb9); have HB9 := Lib.hid (HB5.out.trans (hb9.mono HB5.out.size)); have y0 := (blk_cell HH9.out 3).trans rfl; have y1 := blk_frozen HH9.out 3; clear hb9))
          go_roundw
          case rel => exact ⟨4, rfl, Lib.hid (by omega), Lib.hid (blk_put HH9.out 3 (.bool (hasK xs 3)) (cs' := #[.bool (hv xs 0 4), .bool (hv xs 1 4), .bool (hv xs 2 4), .bool (hv xs 3 4), .bool (hv xs 4 4)]) (by simp [hv])), Lib.hid (C_apart HC9.out HH9.out (bools5 _ _ _ _ _) _), Lib.hid (HB9.out.setCell (p := ⟨w.heap.size + 1 + 1, 3, none⟩) (by show w.heap.size ≤ w.heap.size + 1 + 1; omega) _)⟩
          case measure => simp [intOf]
        · go_wp2_with (first | (go_at_call 8; (with_reducible refine (has_calls A3 c3 xs 4 _ HC5.out HL3.out HX3.out).mono ?_); rintro e w9 ⟨rfl, hb9⟩; have HH9 := Lib.hid ((hb9.block _ (blk_lt HH5.out)).trans HH5.out); have HC9 := Lib.hid (Kd.C_below HC5.out hb9); have HB9 := Lib.hid (HB5.out.trans (hb9.mono HB5.out.size)); have y0 := (blk_cell HH9.out 4).trans rfl; have y1 := blk_frozen HH9.out 4; clear hb9))
          go_roundw
          case rel => exact ⟨5, rfl, Lib.hid (by omega), Lib.hid (blk_put HH9.out 4 (.bool (hasK xs 4)) (cs' := #[.bool (hv xs 0 5), .bool (hv xs 1 5), .bool (hv xs 2 5), .bool (hv xs 3 5), .bool (hv xs 4 5)]) (by simp [hv])), Lib.hid (C_apart HC9.out HH9.out (bools5 _ _ _ _ _) _), Lib.hid (HB9.out.setCell (p := ⟨w.heap.size + 1 + 1, 4, none⟩) (by show w.heap.size ≤ w.heap.size + 1 + 1; omega) _)⟩
          case measure => simp [intOf]
        · go_wp2
          have y0 := (blk_cell HH5.out 0).trans rfl
          have y1 := (blk_cell HH5.out 1).trans rfl
          have y2 := (blk_cell HH5.out 2).trans rfl
          have y3 := (blk_cell HH5.out 3).trans rfl
          have y4 := (blk_cell HH5.out 4).trans rfl
          have fy0 := blk_frozen HH5.out 0
          have fy1 := blk_frozen HH5.out 1
          have fy2 := blk_frozen HH5.out 2
          have fy3 := blk_frozen HH5.out 3
          have fy4 := blk_frozen HH5.out 4
          go_region_with (go_at_call 9; (with_reducible refine (ToString.calls A3 c3 xs _ ?cC HL3.out HZ4.out ?cl).mono ?_); (case cC => exact Kd.C_drew HC5.out); (case cl => have := HX3.out; omega); rintro e w10 ⟨rfl, hb10⟩; have HH10 := Lib.hid ((hb10.block _ (blk_lt HH5.out)).trans HH5.out); have HB10 := Lib.hid (HB5.out.drew.trans (hb10.mono HB5.out.size)); clear hb10; have g0 := (blk_cell HH10.out 0).trans rfl; have g1 := (blk_cell HH10.out 1).trans rfl; have g2 := (blk_cell HH10.out 2).trans rfl; have g3 := (blk_cell HH10.out 3).trans rfl; have g4 := (blk_cell HH10.out 4).trans rfl; have fg0 := blk_frozen HH10.out 0; have fg1 := blk_frozen HH10.out 1; have fg2 := blk_frozen HH10.out 2; have fg3 := blk_frozen HH10.out 3; have fg4 := blk_frozen HH10.out 4)
          all_goals go_wp2
          all_goals
            have HHf := Lib.hid (blk_put (blk_put (blk_put (blk_put (blk_put HH10.out 0 (.bool (hv xs 0 5)) rfl) 1 (.bool (hv xs 1 5)) rfl) 2 (.bool (hv xs 2 5)) rfl) 3 (.bool (hv xs 3 5)) rfl) 4 (.bool (hv xs 4 5)) rfl)
            have hgt : w.heap.size ≤ w.heap.size + 1 + 1 := by omega
            refine bodyPost_ret (results_tmp_cell rfl _ _ _ (w.heap.size + 1 + 1) _ rfl (run_loadVar_row (P := Try.prog) _ _ 28 28 _ (0, 0) _ HHf.out Try.underlying28 rfl (by kernel_rfl))) rfl ?_
            exact ⟨hv xs 0 5, by
              have e0 := HO3.out.1
              have e1 := HO3.out.2.1 1 (by decide)
              have e2 := HO3.out.2.1 2 (by decide)
              have e3 := HO3.out.2.1 3 (by decide)
              have e4 := HO3.out.2.1 4 (by decide)
              rw [HTS.out] at e0 e1 e2 e3 e4
              rw [← e0, ← e1, ← e2, ← e3, ← e4]
              rfl, ((((HB10.out.setCell (p := ⟨w.heap.size + 1 + 1, 0, none⟩) hgt _).setCell (p := ⟨w.heap.size + 1 + 1, 1, none⟩) hgt _).setCell (p := ⟨w.heap.size + 1 + 1, 2, none⟩) hgt _).setCell (p := ⟨w.heap.size + 1 + 1, 3, none⟩) hgt _).setCell (p := ⟨w.heap.size + 1 + 1, 4, none⟩) hgt _⟩
end Go.Proofs.Ytfhfbgfgmbfhhaa
