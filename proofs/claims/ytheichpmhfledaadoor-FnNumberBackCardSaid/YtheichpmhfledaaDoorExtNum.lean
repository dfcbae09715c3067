/- StringToNumber, walked, at the texts that NumberToString tells. -/
import Derived.Test.YtheichpmhfledaaDoorExtDec
import Derived.Test.YtheichpmhfledaaDoorExtBased
import Derived.Test.YtheichpmhfledaaDoorExtF
import Derived.Lib.Hide
import Derived.WalkSpells
set_option linter.unusedVariables false
set_option linter.unusedSimpArgs false
namespace Go.Proofs.YtheichpmhfledaaDoor
open Go Go.RowKit Go.Proofs.YtheichpmhfledaaDoorW.PrintWords Go.Proofs.YtheichpmhfledaaDoorW.PrintLast Go.Proofs.YtheichpmhfledaaDoor.PFnNumberBack
set_option maxHeartbeats 4000000 in
set_option maxRecDepth 100000 in
theorem NaN.calls (w : World) : Calls Tryd.prog 29 #[] w fun e w' => e = .returned (.float .f64 9221120237041090561) ∧ w' = w := by
  have h2 := from_run
  go_enter Tryd.func29, Tryd.ntmps29
  go_wp2
  go_ret
  exact ⟨rfl, rfl⟩
set_option maxHeartbeats 4000000 in
set_option maxRecDepth 100000 in
theorem Inf.pos (w : World) : Calls Tryd.prog 34 #[.int .i64 1] w fun e w' => e = .returned (.float .f64 9218868437227405312) ∧ w' = w := by
  have h2 := from_run
  go_enter Tryd.func34, Tryd.ntmps34
  go_wp2
  go_ret
  exact ⟨rfl, rfl⟩
set_option maxHeartbeats 4000000 in
set_option maxRecDepth 100000 in
theorem Inf.neg (w : World) : Calls Tryd.prog 34 #[.int .i64 (-1)] w fun e w' => e = .returned (.float .f64 18442240474082181120) ∧ w' = w := by
  have h2 := from_run
  go_enter Tryd.func34, Tryd.ntmps34
  go_wp2
  go_ret
  exact ⟨rfl, rfl⟩
set_option maxHeartbeats 4000000 in
set_option maxRecDepth 100000 in
theorem StrNum.pos (u t : ByteArray) (bits x : Nat) (w : World) (h0 : 0 < t.size)
    (hT : ∀ w, Calls Tryd.prog 28 #[.string u] w fun e w' => e = .returned (.tuple #[.string t, .bool true]) ∧ Below w.heap.size w w')
    (hB : ∀ w, Calls Tryd.prog 30 #[.string t] w fun e w' => e = .returned (.tuple #[.int .i64 0, .string ⟨#[]⟩]) ∧ Drawn0 w w')
    (hD : ∀ w, Calls Tryd.prog 35 #[.string t] w fun e w' => e = .returned (.tuple #[.string t, .int .i64 0, .bool true]) ∧ Below w.heap.size w w')
    (hX : ∀ w, Calls Tryd.prog 36 #[.string t, .int .i64 0] w fun e w' => e = .returned (.tuple #[.int .u64 (bits : Int), .bool true]) ∧ Below w.heap.size w w')
    (e1 : (t.toList == []) = false) (e2 : (((t[0]'h0).toNat : Int) == 43) = false) (e3 : (((t[0]'h0).toNat : Int) == 45) = false) (e4 : (t.toList == [73, 110, 102, 105, 110, 105, 116, 121]) = false)
    (hM : Ieee.double.mul 4607182418800017408 bits = some x) :
    Calls Tryd.prog 15 #[.string u] w fun e w' => e = .returned (.tuple #[.float .f64 x, .bool true]) ∧ Below w.heap.size w w' := by
  have HT := Lib.hid hT
  have HB := Lib.hid hB
  have HD := Lib.hid hD
  have HX := Lib.hid hX
  have q1 : (0 : Int) < (t.size : Int) := by omega
  have d2 : decide (0 < t.size) = true := decide_eq_true h0
  have h2 := from_run (bits : Int)
  rw [Int.toNat_natCast] at h2
  have c5 : ∀ u, (binOp .mul 22 (.float .f64 4607182418800017408) (.float .f64 bits)).run Tryd.prog u = .ok (.float .f64 x) u := fun u => run_float_arith u .mul 22 .f64 _ _ _ hM
  clear hT hB hD hX hM
  replace q1 := eq_true q1
  go_enter Tryd.func15, Tryd.ntmps15
  go_wp2_with (first | (go_at_call 28; (with_reducible refine (HT.out _).mono ?_); rintro e w9 ⟨rfl, hb⟩; have HB9 := Lib.hid hb; clear hb) | (go_at_call 30; (with_reducible refine (HB.out _).mono ?_); rintro e w10 ⟨rfl, hb⟩; have HB10 := Lib.hid (drawn_below' HB9.out hb); clear hb) | (go_at_call 35; (with_reducible refine (HD.out _).mono ?_); rintro e w11 ⟨rfl, hb⟩; have HB11 := Lib.hid (HB10.out.trans (hb.mono HB10.out.size)); clear hb) | (go_at_call 36; (with_reducible refine (HX.out _).mono ?_); rintro e w12 ⟨rfl, hb⟩; have HB12 := Lib.hid (HB11.out.trans (hb.mono HB11.out.size)); clear hb))
  exact bodyPost_ret (results_tmp2 rfl _ _ _) rfl ⟨rfl, HB12.out⟩
set_option maxHeartbeats 4000000 in
set_option maxRecDepth 100000 in
theorem StrNum.neg (u t t1 : ByteArray) (bits x : Nat) (w : World) (h0 : 0 < t.size)
    (hT : ∀ w, Calls Tryd.prog 28 #[.string u] w fun e w' => e = .returned (.tuple #[.string t, .bool true]) ∧ Below w.heap.size w w')
    (hB : ∀ w, Calls Tryd.prog 30 #[.string t] w fun e w' => e = .returned (.tuple #[.int .i64 0, .string ⟨#[]⟩]) ∧ Drawn0 w w')
    (hD : ∀ w, Calls Tryd.prog 35 #[.string t1] w fun e w' => e = .returned (.tuple #[.string t1, .int .i64 0, .bool true]) ∧ Below w.heap.size w w')
    (hX : ∀ w, Calls Tryd.prog 36 #[.string t1, .int .i64 0] w fun e w' => e = .returned (.tuple #[.int .u64 (bits : Int), .bool true]) ∧ Below w.heap.size w w')
    (e1 : (t.toList == []) = false) (e2 : (((t[0]'h0).toNat : Int) == 43) = false) (e3 : (((t[0]'h0).toNat : Int) == 45) = true) (e4 : (t1.toList == [73, 110, 102, 105, 110, 105, 116, 121]) = false)
    (e5 : t.extract 1 t.size = t1) (hM : Ieee.double.mul 13830554455654793216 bits = some x) :
    Calls Tryd.prog 15 #[.string u] w fun e w' => e = .returned (.tuple #[.float .f64 x, .bool true]) ∧ Below w.heap.size w w' := by
  have HT := Lib.hid hT
  have HB := Lib.hid hB
  have HD := Lib.hid hD
  have HX := Lib.hid hX
  have q1 : (0 : Int) < (t.size : Int) := by omega
  have q2 : (1 : Int) ≤ (t.size : Int) := by omega
  have d2 : decide (0 < t.size) = true := decide_eq_true h0
  have d3 : decide (1 ≤ t.size) = true := decide_eq_true h0
  have h2 := from_run (bits : Int)
  rw [Int.toNat_natCast] at h2
  have c5 : ∀ u, (binOp .mul 22 (.float .f64 13830554455654793216) (.float .f64 bits)).run Tryd.prog u = .ok (.float .f64 x) u := fun u => run_float_arith u .mul 22 .f64 _ _ _ hM
  clear hT hB hD hX hM
  replace q1 := eq_true q1
  replace q2 := eq_true q2
  go_enter Tryd.func15, Tryd.ntmps15
  go_wp2_with (first | (go_at_call 28; (with_reducible refine (HT.out _).mono ?_); rintro e w9 ⟨rfl, hb⟩; have HB9 := Lib.hid hb; clear hb) | (go_at_call 30; (with_reducible refine (HB.out _).mono ?_); rintro e w10 ⟨rfl, hb⟩; have HB10 := Lib.hid (drawn_below' HB9.out hb); clear hb) | (go_at_call 35; (with_reducible refine (HD.out _).mono ?_); rintro e w11 ⟨rfl, hb⟩; have HB11 := Lib.hid (HB10.out.trans (hb.mono HB10.out.size)); clear hb) | (go_at_call 36; (with_reducible refine (HX.out _).mono ?_); rintro e w12 ⟨rfl, hb⟩; have HB12 := Lib.hid (HB11.out.trans (hb.mono HB11.out.size)); clear hb))
  exact bodyPost_ret (results_tmp2 rfl _ _ _) rfl ⟨rfl, HB12.out⟩
set_option maxHeartbeats 4000000 in
set_option maxRecDepth 100000 in
theorem StrNum.nan (u t : ByteArray) (w : World) (h0 : 0 < t.size)
    (hT : ∀ w, Calls Tryd.prog 28 #[.string u] w fun e w' => e = .returned (.tuple #[.string t, .bool true]) ∧ Below w.heap.size w w')
    (hB : ∀ w, Calls Tryd.prog 30 #[.string t] w fun e w' => e = .returned (.tuple #[.int .i64 0, .string ⟨#[]⟩]) ∧ Drawn0 w w')
    (hD : ∀ w, Calls Tryd.prog 35 #[.string t] w fun e w' => e = .returned (.tuple #[.string ⟨#[]⟩, .int .i64 0, .bool false]) ∧ Below w.heap.size w w')
    (e1 : (t.toList == []) = false) (e2 : (((t[0]'h0).toNat : Int) == 43) = false) (e3 : (((t[0]'h0).toNat : Int) == 45) = false) (e4 : (t.toList == [73, 110, 102, 105, 110, 105, 116, 121]) = false) :
    Calls Tryd.prog 15 #[.string u] w fun e w' => e = .returned (.tuple #[.float .f64 9221120237041090561, .bool true]) ∧ Below w.heap.size w w' := by
  have HT := Lib.hid hT
  have HB := Lib.hid hB
  have HD := Lib.hid hD
  have q1 : (0 : Int) < (t.size : Int) := by omega
  have d2 : decide (0 < t.size) = true := decide_eq_true h0
  clear hT hB hD
  replace q1 := eq_true q1
  go_enter Tryd.func15, Tryd.ntmps15
  go_wp2_with (first | (go_at_call 28; (with_reducible refine (HT.out _).mono ?_); rintro e w9 ⟨rfl, hb⟩; have HB9 := Lib.hid hb; clear hb) | (go_at_call 30; (with_reducible refine (HB.out _).mono ?_); rintro e w10 ⟨rfl, hb⟩; have HB10 := Lib.hid (drawn_below' HB9.out hb); clear hb) | (go_at_call 35; (with_reducible refine (HD.out _).mono ?_); rintro e w11 ⟨rfl, hb⟩; have HB11 := Lib.hid (HB10.out.trans (hb.mono HB10.out.size)); clear hb) | (go_at_call 29; (with_reducible refine (NaN.calls _).mono ?_); rintro e w12 ⟨rfl, rfl⟩))
  exact bodyPost_ret (results_tmp2 rfl _ _ _) rfl ⟨rfl, HB11.out⟩
theorem conv_one (w : World) : (convert 22 3 (.float .f64 4607182418800017408)).run Tryd.prog w = .ok (.int .i64 1) w := by
  have e : (Ieee.double.read 4607182418800017408).toInt .zero = some 1 := by decide +kernel
  refine run_convert_float_int w 22 3 .f64 .i64 _ 1 (by kernel_rfl) (by kernel_rfl) ?_
  have e2 : (FloatKind.f64.decode 4607182418800017408).toInt .zero = some 1 := e
  unfold floatToIntVal
  rw [e2]
  rfl
theorem conv_mone (w : World) : (convert 22 3 (.float .f64 13830554455654793216)).run Tryd.prog w = .ok (.int .i64 (-1)) w := by
  have e : (Ieee.double.read 13830554455654793216).toInt .zero = some (-1) := by decide +kernel
  refine run_convert_float_int w 22 3 .f64 .i64 _ (-1) (by kernel_rfl) (by kernel_rfl) ?_
  have e2 : (FloatKind.f64.decode 13830554455654793216).toInt .zero = some (-1) := e
  unfold floatToIntVal
  rw [e2]
  rfl
set_option maxHeartbeats 4000000 in
set_option maxRecDepth 100000 in
theorem StrNum.pinf (u t : ByteArray) (w : World) (h0 : 0 < t.size)
    (hT : ∀ w, Calls Tryd.prog 28 #[.string u] w fun e w' => e = .returned (.tuple #[.string t, .bool true]) ∧ Below w.heap.size w w')
    (hB : ∀ w, Calls Tryd.prog 30 #[.string t] w fun e w' => e = .returned (.tuple #[.int .i64 0, .string ⟨#[]⟩]) ∧ Drawn0 w w')
    (e1 : (t.toList == []) = false) (e2 : (((t[0]'h0).toNat : Int) == 43) = false) (e3 : (((t[0]'h0).toNat : Int) == 45) = false) (e4 : (t.toList == [73, 110, 102, 105, 110, 105, 116, 121]) = true) :
    Calls Tryd.prog 15 #[.string u] w fun e w' => e = .returned (.tuple #[.float .f64 9218868437227405312, .bool true]) ∧ Below w.heap.size w w' := by
  have HT := Lib.hid hT
  have HB := Lib.hid hB
  have q1 : (0 : Int) < (t.size : Int) := by omega
  have d2 : decide (0 < t.size) = true := decide_eq_true h0
  have c5 := conv_one
  clear hT hB
  replace q1 := eq_true q1
  go_enter Tryd.func15, Tryd.ntmps15
  go_wp2_with (first | (go_at_call 28; (with_reducible refine (HT.out _).mono ?_); rintro e w9 ⟨rfl, hb⟩; have HB9 := Lib.hid hb; clear hb) | (go_at_call 30; (with_reducible refine (HB.out _).mono ?_); rintro e w10 ⟨rfl, hb⟩; have HB10 := Lib.hid (drawn_below' HB9.out hb); clear hb) | (go_at_call 34; (with_reducible refine (Inf.pos _).mono ?_); rintro e w12 ⟨rfl, rfl⟩))
  exact bodyPost_ret (results_tmp2 rfl _ _ _) rfl ⟨rfl, HB10.out⟩
set_option maxHeartbeats 4000000 in
set_option maxRecDepth 100000 in
theorem StrNum.ninf (u t t1 : ByteArray) (w : World) (h0 : 0 < t.size)
    (hT : ∀ w, Calls Tryd.prog 28 #[.string u] w fun e w' => e = .returned (.tuple #[.string t, .bool true]) ∧ Below w.heap.size w w')
    (hB : ∀ w, Calls Tryd.prog 30 #[.string t] w fun e w' => e = .returned (.tuple #[.int .i64 0, .string ⟨#[]⟩]) ∧ Drawn0 w w')
    (e1 : (t.toList == []) = false) (e2 : (((t[0]'h0).toNat : Int) == 43) = false) (e3 : (((t[0]'h0).toNat : Int) == 45) = true) (e4 : (t1.toList == [73, 110, 102, 105, 110, 105, 116, 121]) = true)
    (e5 : t.extract 1 t.size = t1) :
    Calls Tryd.prog 15 #[.string u] w fun e w' => e = .returned (.tuple #[.float .f64 18442240474082181120, .bool true]) ∧ Below w.heap.size w w' := by
  have HT := Lib.hid hT
  have HB := Lib.hid hB
  have q1 : (0 : Int) < (t.size : Int) := by omega
  have q2 : (1 : Int) ≤ (t.size : Int) := by omega
  have d2 : decide (0 < t.size) = true := decide_eq_true h0
  have d3 : decide (1 ≤ t.size) = true := decide_eq_true h0
  have c5 := conv_mone
  clear hT hB
  replace q1 := eq_true q1
  replace q2 := eq_true q2
  go_enter Tryd.func15, Tryd.ntmps15
  go_wp2_with (first | (go_at_call 28; (with_reducible refine (HT.out _).mono ?_); rintro e w9 ⟨rfl, hb⟩; have HB9 := Lib.hid hb; clear hb) | (go_at_call 30; (with_reducible refine (HB.out _).mono ?_); rintro e w10 ⟨rfl, hb⟩; have HB10 := Lib.hid (drawn_below' HB9.out hb); clear hb) | (go_at_call 34; (with_reducible refine (Inf.neg _).mono ?_); rintro e w12 ⟨rfl, rfl⟩))
  exact bodyPost_ret (results_tmp2 rfl _ _ _) rfl ⟨rfl, HB10.out⟩
end Go.Proofs.YtheichpmhfledaaDoor
