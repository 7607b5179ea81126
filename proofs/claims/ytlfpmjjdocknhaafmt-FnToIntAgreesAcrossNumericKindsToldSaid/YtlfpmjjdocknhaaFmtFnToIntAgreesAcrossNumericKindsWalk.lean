/- For every int32 v and int64 w the law FnToIntAgreesAcrossNumericKinds returns true and writes nothing. Conditions: none. -/
import Derived.Test.YtlfpmjjdocknhaaFmtConvs
import Derived.Test.YtlfpmjjdocknhaaFmtAgree
import Derived.Lib.Hide
namespace Go.Proofs.YtlfpmjjdocknhaaFmt.fnToIntAgreesAcrossNumericKinds
open Go.RowKit Go.Proofs.YtlfpmjjdocknhaaFmt

set_option maxRecDepth 100000 in
set_option maxHeartbeats 1000000 in
theorem t0 (x y : Int) (w : World) (h0 : -2147483648 ≤ x) (h1 : x ≤ -16777217) (hb : wrap64 (IntKind.u64.wrap y) = y) :
    Calls Tryf.prog 6 #[.int .i32 x, .int .i64 y] w fun e w' => e = .returned (.bool true) ∧ Below w.heap.size w w' := by
  have HA := Lib.hid (through64 x (by omega) (by omega))
  go_enter Tryf.func6, Tryf.ntmps6
  go_wp2_with (first
    | (go_at_call 14; first
        | ((with_reducible refine (int_2 _ _).mono ?_); rintro e w1 ⟨rfl, rfl⟩)
        | ((with_reducible refine (int_3 _ _).mono ?_); rintro e w1 ⟨rfl, rfl⟩)
        | ((with_reducible refine (int_22 _ _).mono ?_); rintro e w1 ⟨rfl, rfl⟩)
        | ((with_reducible refine (int_34 _ _).mono ?_); rintro e w1 ⟨rfl, rfl⟩)
        | ((with_reducible refine (int_31 _ _ (by omega) (by omega)).mono ?_); rintro e w1 ⟨rfl, rfl⟩)
        | ((with_reducible refine (int_32 _ _ (by omega) (by omega)).mono ?_); rintro e w1 ⟨rfl, rfl⟩)
        | ((with_reducible refine (int_21 _ _ (by omega) (by omega)).mono ?_); rintro e w1 ⟨rfl, rfl⟩)
        | ((with_reducible refine (int_5 _ _ (by omega) (by omega)).mono ?_); rintro e w1 ⟨rfl, rfl⟩)
        | ((with_reducible refine (int_35 _ _ (by omega) (by omega)).mono ?_); rintro e w1 ⟨rfl, rfl⟩)
        | ((with_reducible refine (int_33 _ _ (by omega) (by omega)).mono ?_); rintro e w1 ⟨rfl, rfl⟩)
        | ((with_reducible refine (int_23 _ _ _ HA.out).mono ?_); rintro e w1 ⟨rfl, rfl⟩)
        | ((with_reducible refine (int_28 _ _ _ HB.out).mono ?_); rintro e w1 ⟨rfl, rfl⟩))
    | (go_at_call 12; ((with_reducible refine (i64_2 _ _).mono ?_); rintro e w1 ⟨rfl, rfl⟩)))
  go_ret
  exact ⟨rfl, Below.refl _ _⟩

set_option maxRecDepth 100000 in
set_option maxHeartbeats 1000000 in
theorem t1 (x y : Int) (w : World) (h0 : -16777216 ≤ x) (h1 : x ≤ -32769) (hb : wrap64 (IntKind.u64.wrap y) = y) :
    Calls Tryf.prog 6 #[.int .i32 x, .int .i64 y] w fun e w' => e = .returned (.bool true) ∧ Below w.heap.size w w' := by
  have HA := Lib.hid (through64 x (by omega) (by omega))
  have HB := Lib.hid (through32 x (by omega) (by omega))
  go_enter Tryf.func6, Tryf.ntmps6
  go_wp2_with (first
    | (go_at_call 14; first
        | ((with_reducible refine (int_2 _ _).mono ?_); rintro e w1 ⟨rfl, rfl⟩)
        | ((with_reducible refine (int_3 _ _).mono ?_); rintro e w1 ⟨rfl, rfl⟩)
        | ((with_reducible refine (int_22 _ _).mono ?_); rintro e w1 ⟨rfl, rfl⟩)
        | ((with_reducible refine (int_34 _ _).mono ?_); rintro e w1 ⟨rfl, rfl⟩)
        | ((with_reducible refine (int_31 _ _ (by omega) (by omega)).mono ?_); rintro e w1 ⟨rfl, rfl⟩)
        | ((with_reducible refine (int_32 _ _ (by omega) (by omega)).mono ?_); rintro e w1 ⟨rfl, rfl⟩)
        | ((with_reducible refine (int_21 _ _ (by omega) (by omega)).mono ?_); rintro e w1 ⟨rfl, rfl⟩)
        | ((with_reducible refine (int_5 _ _ (by omega) (by omega)).mono ?_); rintro e w1 ⟨rfl, rfl⟩)
        | ((with_reducible refine (int_35 _ _ (by omega) (by omega)).mono ?_); rintro e w1 ⟨rfl, rfl⟩)
        | ((with_reducible refine (int_33 _ _ (by omega) (by omega)).mono ?_); rintro e w1 ⟨rfl, rfl⟩)
        | ((with_reducible refine (int_23 _ _ _ HA.out).mono ?_); rintro e w1 ⟨rfl, rfl⟩)
        | ((with_reducible refine (int_28 _ _ _ HB.out).mono ?_); rintro e w1 ⟨rfl, rfl⟩))
    | (go_at_call 12; ((with_reducible refine (i64_2 _ _).mono ?_); rintro e w1 ⟨rfl, rfl⟩)))
  go_ret
  exact ⟨rfl, Below.refl _ _⟩

set_option maxRecDepth 100000 in
set_option maxHeartbeats 1000000 in
theorem t2 (x y : Int) (w : World) (h0 : -32768 ≤ x) (h1 : x ≤ -129) (hb : wrap64 (IntKind.u64.wrap y) = y) :
    Calls Tryf.prog 6 #[.int .i32 x, .int .i64 y] w fun e w' => e = .returned (.bool true) ∧ Below w.heap.size w w' := by
  have HA := Lib.hid (through64 x (by omega) (by omega))
  have HB := Lib.hid (through32 x (by omega) (by omega))
  go_enter Tryf.func6, Tryf.ntmps6
  go_wp2_with (first
    | (go_at_call 14; first
        | ((with_reducible refine (int_2 _ _).mono ?_); rintro e w1 ⟨rfl, rfl⟩)
        | ((with_reducible refine (int_3 _ _).mono ?_); rintro e w1 ⟨rfl, rfl⟩)
        | ((with_reducible refine (int_22 _ _).mono ?_); rintro e w1 ⟨rfl, rfl⟩)
        | ((with_reducible refine (int_34 _ _).mono ?_); rintro e w1 ⟨rfl, rfl⟩)
        | ((with_reducible refine (int_31 _ _ (by omega) (by omega)).mono ?_); rintro e w1 ⟨rfl, rfl⟩)
        | ((with_reducible refine (int_32 _ _ (by omega) (by omega)).mono ?_); rintro e w1 ⟨rfl, rfl⟩)
        | ((with_reducible refine (int_21 _ _ (by omega) (by omega)).mono ?_); rintro e w1 ⟨rfl, rfl⟩)
        | ((with_reducible refine (int_5 _ _ (by omega) (by omega)).mono ?_); rintro e w1 ⟨rfl, rfl⟩)
        | ((with_reducible refine (int_35 _ _ (by omega) (by omega)).mono ?_); rintro e w1 ⟨rfl, rfl⟩)
        | ((with_reducible refine (int_33 _ _ (by omega) (by omega)).mono ?_); rintro e w1 ⟨rfl, rfl⟩)
        | ((with_reducible refine (int_23 _ _ _ HA.out).mono ?_); rintro e w1 ⟨rfl, rfl⟩)
        | ((with_reducible refine (int_28 _ _ _ HB.out).mono ?_); rintro e w1 ⟨rfl, rfl⟩))
    | (go_at_call 12; ((with_reducible refine (i64_2 _ _).mono ?_); rintro e w1 ⟨rfl, rfl⟩)))
  go_ret
  exact ⟨rfl, Below.refl _ _⟩

set_option maxRecDepth 100000 in
set_option maxHeartbeats 1000000 in
theorem t3 (x y : Int) (w : World) (h0 : -128 ≤ x) (h1 : x ≤ -1) (hb : wrap64 (IntKind.u64.wrap y) = y) :
    Calls Tryf.prog 6 #[.int .i32 x, .int .i64 y] w fun e w' => e = .returned (.bool true) ∧ Below w.heap.size w w' := by
  have HA := Lib.hid (through64 x (by omega) (by omega))
  have HB := Lib.hid (through32 x (by omega) (by omega))
  go_enter Tryf.func6, Tryf.ntmps6
  go_wp2_with (first
    | (go_at_call 14; first
        | ((with_reducible refine (int_2 _ _).mono ?_); rintro e w1 ⟨rfl, rfl⟩)
        | ((with_reducible refine (int_3 _ _).mono ?_); rintro e w1 ⟨rfl, rfl⟩)
        | ((with_reducible refine (int_22 _ _).mono ?_); rintro e w1 ⟨rfl, rfl⟩)
        | ((with_reducible refine (int_34 _ _).mono ?_); rintro e w1 ⟨rfl, rfl⟩)
        | ((with_reducible refine (int_31 _ _ (by omega) (by omega)).mono ?_); rintro e w1 ⟨rfl, rfl⟩)
        | ((with_reducible refine (int_32 _ _ (by omega) (by omega)).mono ?_); rintro e w1 ⟨rfl, rfl⟩)
        | ((with_reducible refine (int_21 _ _ (by omega) (by omega)).mono ?_); rintro e w1 ⟨rfl, rfl⟩)
        | ((with_reducible refine (int_5 _ _ (by omega) (by omega)).mono ?_); rintro e w1 ⟨rfl, rfl⟩)
        | ((with_reducible refine (int_35 _ _ (by omega) (by omega)).mono ?_); rintro e w1 ⟨rfl, rfl⟩)
        | ((with_reducible refine (int_33 _ _ (by omega) (by omega)).mono ?_); rintro e w1 ⟨rfl, rfl⟩)
        | ((with_reducible refine (int_23 _ _ _ HA.out).mono ?_); rintro e w1 ⟨rfl, rfl⟩)
        | ((with_reducible refine (int_28 _ _ _ HB.out).mono ?_); rintro e w1 ⟨rfl, rfl⟩))
    | (go_at_call 12; ((with_reducible refine (i64_2 _ _).mono ?_); rintro e w1 ⟨rfl, rfl⟩)))
  go_ret
  exact ⟨rfl, Below.refl _ _⟩

set_option maxRecDepth 100000 in
set_option maxHeartbeats 1000000 in
theorem t4 (x y : Int) (w : World) (h0 : 0 ≤ x) (h1 : x ≤ 127) (hb : wrap64 (IntKind.u64.wrap y) = y) :
    Calls Tryf.prog 6 #[.int .i32 x, .int .i64 y] w fun e w' => e = .returned (.bool true) ∧ Below w.heap.size w w' := by
  have HA := Lib.hid (through64 x (by omega) (by omega))
  have HB := Lib.hid (through32 x (by omega) (by omega))
  have hw : wrap64 x = x := IntWalk.wrap64_in x ⟨by omega, by omega⟩
  go_enter Tryf.func6, Tryf.ntmps6
  go_wp2_with (first
    | (go_at_call 14; first
        | ((with_reducible refine (int_2 _ _).mono ?_); rintro e w1 ⟨rfl, rfl⟩)
        | ((with_reducible refine (int_3 _ _).mono ?_); rintro e w1 ⟨rfl, rfl⟩)
        | ((with_reducible refine (int_22 _ _).mono ?_); rintro e w1 ⟨rfl, rfl⟩)
        | ((with_reducible refine (int_34 _ _).mono ?_); rintro e w1 ⟨rfl, rfl⟩)
        | ((with_reducible refine (int_31 _ _ (by omega) (by omega)).mono ?_); rintro e w1 ⟨rfl, rfl⟩)
        | ((with_reducible refine (int_32 _ _ (by omega) (by omega)).mono ?_); rintro e w1 ⟨rfl, rfl⟩)
        | ((with_reducible refine (int_21 _ _ (by omega) (by omega)).mono ?_); rintro e w1 ⟨rfl, rfl⟩)
        | ((with_reducible refine (int_5 _ _ (by omega) (by omega)).mono ?_); rintro e w1 ⟨rfl, rfl⟩)
        | ((with_reducible refine (int_35 _ _ (by omega) (by omega)).mono ?_); rintro e w1 ⟨rfl, rfl⟩)
        | ((with_reducible refine (int_33 _ _ (by omega) (by omega)).mono ?_); rintro e w1 ⟨rfl, rfl⟩)
        | ((with_reducible refine (int_23 _ _ _ HA.out).mono ?_); rintro e w1 ⟨rfl, rfl⟩)
        | ((with_reducible refine (int_28 _ _ _ HB.out).mono ?_); rintro e w1 ⟨rfl, rfl⟩))
    | (go_at_call 12; ((with_reducible refine (i64_2 _ _).mono ?_); rintro e w1 ⟨rfl, rfl⟩)))
  go_ret
  exact ⟨rfl, Below.refl _ _⟩

set_option maxRecDepth 100000 in
set_option maxHeartbeats 1000000 in
theorem t5 (x y : Int) (w : World) (h0 : 128 ≤ x) (h1 : x ≤ 255) (hb : wrap64 (IntKind.u64.wrap y) = y) :
    Calls Tryf.prog 6 #[.int .i32 x, .int .i64 y] w fun e w' => e = .returned (.bool true) ∧ Below w.heap.size w w' := by
  have HA := Lib.hid (through64 x (by omega) (by omega))
  have HB := Lib.hid (through32 x (by omega) (by omega))
  have hw : wrap64 x = x := IntWalk.wrap64_in x ⟨by omega, by omega⟩
  go_enter Tryf.func6, Tryf.ntmps6
  go_wp2_with (first
    | (go_at_call 14; first
        | ((with_reducible refine (int_2 _ _).mono ?_); rintro e w1 ⟨rfl, rfl⟩)
        | ((with_reducible refine (int_3 _ _).mono ?_); rintro e w1 ⟨rfl, rfl⟩)
        | ((with_reducible refine (int_22 _ _).mono ?_); rintro e w1 ⟨rfl, rfl⟩)
        | ((with_reducible refine (int_34 _ _).mono ?_); rintro e w1 ⟨rfl, rfl⟩)
        | ((with_reducible refine (int_31 _ _ (by omega) (by omega)).mono ?_); rintro e w1 ⟨rfl, rfl⟩)
        | ((with_reducible refine (int_32 _ _ (by omega) (by omega)).mono ?_); rintro e w1 ⟨rfl, rfl⟩)
        | ((with_reducible refine (int_21 _ _ (by omega) (by omega)).mono ?_); rintro e w1 ⟨rfl, rfl⟩)
        | ((with_reducible refine (int_5 _ _ (by omega) (by omega)).mono ?_); rintro e w1 ⟨rfl, rfl⟩)
        | ((with_reducible refine (int_35 _ _ (by omega) (by omega)).mono ?_); rintro e w1 ⟨rfl, rfl⟩)
        | ((with_reducible refine (int_33 _ _ (by omega) (by omega)).mono ?_); rintro e w1 ⟨rfl, rfl⟩)
        | ((with_reducible refine (int_23 _ _ _ HA.out).mono ?_); rintro e w1 ⟨rfl, rfl⟩)
        | ((with_reducible refine (int_28 _ _ _ HB.out).mono ?_); rintro e w1 ⟨rfl, rfl⟩))
    | (go_at_call 12; ((with_reducible refine (i64_2 _ _).mono ?_); rintro e w1 ⟨rfl, rfl⟩)))
  go_ret
  exact ⟨rfl, Below.refl _ _⟩

set_option maxRecDepth 100000 in
set_option maxHeartbeats 1000000 in
theorem t6 (x y : Int) (w : World) (h0 : 256 ≤ x) (h1 : x ≤ 32767) (hb : wrap64 (IntKind.u64.wrap y) = y) :
    Calls Tryf.prog 6 #[.int .i32 x, .int .i64 y] w fun e w' => e = .returned (.bool true) ∧ Below w.heap.size w w' := by
  have HA := Lib.hid (through64 x (by omega) (by omega))
  have HB := Lib.hid (through32 x (by omega) (by omega))
  have hw : wrap64 x = x := IntWalk.wrap64_in x ⟨by omega, by omega⟩
  go_enter Tryf.func6, Tryf.ntmps6
  go_wp2_with (first
    | (go_at_call 14; first
        | ((with_reducible refine (int_2 _ _).mono ?_); rintro e w1 ⟨rfl, rfl⟩)
        | ((with_reducible refine (int_3 _ _).mono ?_); rintro e w1 ⟨rfl, rfl⟩)
        | ((with_reducible refine (int_22 _ _).mono ?_); rintro e w1 ⟨rfl, rfl⟩)
        | ((with_reducible refine (int_34 _ _).mono ?_); rintro e w1 ⟨rfl, rfl⟩)
        | ((with_reducible refine (int_31 _ _ (by omega) (by omega)).mono ?_); rintro e w1 ⟨rfl, rfl⟩)
        | ((with_reducible refine (int_32 _ _ (by omega) (by omega)).mono ?_); rintro e w1 ⟨rfl, rfl⟩)
        | ((with_reducible refine (int_21 _ _ (by omega) (by omega)).mono ?_); rintro e w1 ⟨rfl, rfl⟩)
        | ((with_reducible refine (int_5 _ _ (by omega) (by omega)).mono ?_); rintro e w1 ⟨rfl, rfl⟩)
        | ((with_reducible refine (int_35 _ _ (by omega) (by omega)).mono ?_); rintro e w1 ⟨rfl, rfl⟩)
        | ((with_reducible refine (int_33 _ _ (by omega) (by omega)).mono ?_); rintro e w1 ⟨rfl, rfl⟩)
        | ((with_reducible refine (int_23 _ _ _ HA.out).mono ?_); rintro e w1 ⟨rfl, rfl⟩)
        | ((with_reducible refine (int_28 _ _ _ HB.out).mono ?_); rintro e w1 ⟨rfl, rfl⟩))
    | (go_at_call 12; ((with_reducible refine (i64_2 _ _).mono ?_); rintro e w1 ⟨rfl, rfl⟩)))
  go_ret
  exact ⟨rfl, Below.refl _ _⟩

set_option maxRecDepth 100000 in
set_option maxHeartbeats 1000000 in
theorem t7 (x y : Int) (w : World) (h0 : 32768 ≤ x) (h1 : x ≤ 65535) (hb : wrap64 (IntKind.u64.wrap y) = y) :
    Calls Tryf.prog 6 #[.int .i32 x, .int .i64 y] w fun e w' => e = .returned (.bool true) ∧ Below w.heap.size w w' := by
  have HA := Lib.hid (through64 x (by omega) (by omega))
  have HB := Lib.hid (through32 x (by omega) (by omega))
  have hw : wrap64 x = x := IntWalk.wrap64_in x ⟨by omega, by omega⟩
  go_enter Tryf.func6, Tryf.ntmps6
  go_wp2_with (first
    | (go_at_call 14; first
        | ((with_reducible refine (int_2 _ _).mono ?_); rintro e w1 ⟨rfl, rfl⟩)
        | ((with_reducible refine (int_3 _ _).mono ?_); rintro e w1 ⟨rfl, rfl⟩)
        | ((with_reducible refine (int_22 _ _).mono ?_); rintro e w1 ⟨rfl, rfl⟩)
        | ((with_reducible refine (int_34 _ _).mono ?_); rintro e w1 ⟨rfl, rfl⟩)
        | ((with_reducible refine (int_31 _ _ (by omega) (by omega)).mono ?_); rintro e w1 ⟨rfl, rfl⟩)
        | ((with_reducible refine (int_32 _ _ (by omega) (by omega)).mono ?_); rintro e w1 ⟨rfl, rfl⟩)
        | ((with_reducible refine (int_21 _ _ (by omega) (by omega)).mono ?_); rintro e w1 ⟨rfl, rfl⟩)
        | ((with_reducible refine (int_5 _ _ (by omega) (by omega)).mono ?_); rintro e w1 ⟨rfl, rfl⟩)
        | ((with_reducible refine (int_35 _ _ (by omega) (by omega)).mono ?_); rintro e w1 ⟨rfl, rfl⟩)
        | ((with_reducible refine (int_33 _ _ (by omega) (by omega)).mono ?_); rintro e w1 ⟨rfl, rfl⟩)
        | ((with_reducible refine (int_23 _ _ _ HA.out).mono ?_); rintro e w1 ⟨rfl, rfl⟩)
        | ((with_reducible refine (int_28 _ _ _ HB.out).mono ?_); rintro e w1 ⟨rfl, rfl⟩))
    | (go_at_call 12; ((with_reducible refine (i64_2 _ _).mono ?_); rintro e w1 ⟨rfl, rfl⟩)))
  go_ret
  exact ⟨rfl, Below.refl _ _⟩

set_option maxRecDepth 100000 in
set_option maxHeartbeats 1000000 in
theorem t8 (x y : Int) (w : World) (h0 : 65536 ≤ x) (h1 : x ≤ 16777216) (hb : wrap64 (IntKind.u64.wrap y) = y) :
    Calls Tryf.prog 6 #[.int .i32 x, .int .i64 y] w fun e w' => e = .returned (.bool true) ∧ Below w.heap.size w w' := by
  have HA := Lib.hid (through64 x (by omega) (by omega))
  have HB := Lib.hid (through32 x (by omega) (by omega))
  have hw : wrap64 x = x := IntWalk.wrap64_in x ⟨by omega, by omega⟩
  go_enter Tryf.func6, Tryf.ntmps6
  go_wp2_with (first
    | (go_at_call 14; first
        | ((with_reducible refine (int_2 _ _).mono ?_); rintro e w1 ⟨rfl, rfl⟩)
        | ((with_reducible refine (int_3 _ _).mono ?_); rintro e w1 ⟨rfl, rfl⟩)
        | ((with_reducible refine (int_22 _ _).mono ?_); rintro e w1 ⟨rfl, rfl⟩)
        | ((with_reducible refine (int_34 _ _).mono ?_); rintro e w1 ⟨rfl, rfl⟩)
        | ((with_reducible refine (int_31 _ _ (by omega) (by omega)).mono ?_); rintro e w1 ⟨rfl, rfl⟩)
        | ((with_reducible refine (int_32 _ _ (by omega) (by omega)).mono ?_); rintro e w1 ⟨rfl, rfl⟩)
        | ((with_reducible refine (int_21 _ _ (by omega) (by omega)).mono ?_); rintro e w1 ⟨rfl, rfl⟩)
        | ((with_reducible refine (int_5 _ _ (by omega) (by omega)).mono ?_); rintro e w1 ⟨rfl, rfl⟩)
        | ((with_reducible refine (int_35 _ _ (by omega) (by omega)).mono ?_); rintro e w1 ⟨rfl, rfl⟩)
        | ((with_reducible refine (int_33 _ _ (by omega) (by omega)).mono ?_); rintro e w1 ⟨rfl, rfl⟩)
        | ((with_reducible refine (int_23 _ _ _ HA.out).mono ?_); rintro e w1 ⟨rfl, rfl⟩)
        | ((with_reducible refine (int_28 _ _ _ HB.out).mono ?_); rintro e w1 ⟨rfl, rfl⟩))
    | (go_at_call 12; ((with_reducible refine (i64_2 _ _).mono ?_); rintro e w1 ⟨rfl, rfl⟩)))
  go_ret
  exact ⟨rfl, Below.refl _ _⟩

set_option maxRecDepth 100000 in
set_option maxHeartbeats 1000000 in
theorem t9 (x y : Int) (w : World) (h0 : 16777217 ≤ x) (h1 : x ≤ 2147483647) (hb : wrap64 (IntKind.u64.wrap y) = y) :
    Calls Tryf.prog 6 #[.int .i32 x, .int .i64 y] w fun e w' => e = .returned (.bool true) ∧ Below w.heap.size w w' := by
  have HA := Lib.hid (through64 x (by omega) (by omega))
  have hw : wrap64 x = x := IntWalk.wrap64_in x ⟨by omega, by omega⟩
  go_enter Tryf.func6, Tryf.ntmps6
  go_wp2_with (first
    | (go_at_call 14; first
        | ((with_reducible refine (int_2 _ _).mono ?_); rintro e w1 ⟨rfl, rfl⟩)
        | ((with_reducible refine (int_3 _ _).mono ?_); rintro e w1 ⟨rfl, rfl⟩)
        | ((with_reducible refine (int_22 _ _).mono ?_); rintro e w1 ⟨rfl, rfl⟩)
        | ((with_reducible refine (int_34 _ _).mono ?_); rintro e w1 ⟨rfl, rfl⟩)
        | ((with_reducible refine (int_31 _ _ (by omega) (by omega)).mono ?_); rintro e w1 ⟨rfl, rfl⟩)
        | ((with_reducible refine (int_32 _ _ (by omega) (by omega)).mono ?_); rintro e w1 ⟨rfl, rfl⟩)
        | ((with_reducible refine (int_21 _ _ (by omega) (by omega)).mono ?_); rintro e w1 ⟨rfl, rfl⟩)
        | ((with_reducible refine (int_5 _ _ (by omega) (by omega)).mono ?_); rintro e w1 ⟨rfl, rfl⟩)
        | ((with_reducible refine (int_35 _ _ (by omega) (by omega)).mono ?_); rintro e w1 ⟨rfl, rfl⟩)
        | ((with_reducible refine (int_33 _ _ (by omega) (by omega)).mono ?_); rintro e w1 ⟨rfl, rfl⟩)
        | ((with_reducible refine (int_23 _ _ _ HA.out).mono ?_); rintro e w1 ⟨rfl, rfl⟩)
        | ((with_reducible refine (int_28 _ _ _ HB.out).mono ?_); rintro e w1 ⟨rfl, rfl⟩))
    | (go_at_call 12; ((with_reducible refine (i64_2 _ _).mono ?_); rintro e w1 ⟨rfl, rfl⟩)))
  go_ret
  exact ⟨rfl, Below.refl _ _⟩

theorem walk (a0 a1 : Int) (w : World) (w0 : (Lit.int .i32 a0).wf = true) (w1 : (Lit.int .i64 a1).wf = true) :
    Calls Tryf.prog 6 #[.int .i32 a0, .int .i64 a1] w fun e w' => e = .returned (.bool true) ∧ Below w.heap.size w w' := by
  obtain ⟨x0, x1⟩ := bounds_i32 w0
  obtain ⟨y0, y1⟩ := bounds_i64 w1
  have hb := there_back a1 y0 y1
  by_cases c0 : a0 ≤ -16777217
  · exact t0 a0 a1 w (by omega) (by omega) hb
  by_cases c1 : a0 ≤ -32769
  · exact t1 a0 a1 w (by omega) (by omega) hb
  by_cases c2 : a0 ≤ -129
  · exact t2 a0 a1 w (by omega) (by omega) hb
  by_cases c3 : a0 ≤ -1
  · exact t3 a0 a1 w (by omega) (by omega) hb
  by_cases c4 : a0 ≤ 127
  · exact t4 a0 a1 w (by omega) (by omega) hb
  by_cases c5 : a0 ≤ 255
  · exact t5 a0 a1 w (by omega) (by omega) hb
  by_cases c6 : a0 ≤ 32767
  · exact t6 a0 a1 w (by omega) (by omega) hb
  by_cases c7 : a0 ≤ 65535
  · exact t7 a0 a1 w (by omega) (by omega) hb
  by_cases c8 : a0 ≤ 16777216
  · exact t8 a0 a1 w (by omega) (by omega) hb
  exact t9 a0 a1 w (by omega) (by omega) hb
end Go.Proofs.YtlfpmjjdocknhaaFmt.fnToIntAgreesAcrossNumericKinds
