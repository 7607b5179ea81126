/- For every int64 w the law FnToInt64AgreesAcrossNumericKinds returns true and writes nothing. Conditions: none. -/
import Derived.Test.YtlfpmjjdocknhaaFmtConvs
import Derived.Test.YtlfpmjjdocknhaaFmtAgree
import Derived.Lib.Hide
namespace Go.Proofs.YtlfpmjjdocknhaaFmt.fnToInt64AgreesAcrossNumericKinds
open Go.RowKit Go.Proofs.YtlfpmjjdocknhaaFmt

set_option maxRecDepth 100000 in
set_option maxHeartbeats 1000000 in
theorem t0 (x : Int) (w : World) (h0 : -9223372036854775808 ≤ x) (h1 : x ≤ -9007199254740993) (hb : wrap64 (IntKind.u64.wrap x) = x) :
    Calls Tryf.prog 7 #[.int .i64 x] w fun e w' => e = .returned (.bool true) ∧ Below w.heap.size w w' := by
  go_enter Tryf.func7, Tryf.ntmps7
  go_wp2_with (first
    | (go_at_call 12; first
        | ((with_reducible refine (i64_2 _ _).mono ?_); rintro e w1 ⟨rfl, rfl⟩)
        | ((with_reducible refine (i64_3 _ _).mono ?_); rintro e w1 ⟨rfl, rfl⟩)
        | ((with_reducible refine (i64_22 _ _).mono ?_); rintro e w1 ⟨rfl, rfl⟩)
        | ((with_reducible refine (i64_34 _ _).mono ?_); rintro e w1 ⟨rfl, rfl⟩)
        | ((with_reducible refine (i64_31 _ _ (by omega) (by omega)).mono ?_); rintro e w1 ⟨rfl, rfl⟩)
        | ((with_reducible refine (i64_32 _ _ (by omega) (by omega)).mono ?_); rintro e w1 ⟨rfl, rfl⟩)
        | ((with_reducible refine (i64_21 _ _ (by omega) (by omega)).mono ?_); rintro e w1 ⟨rfl, rfl⟩)
        | ((with_reducible refine (i64_5 _ _ (by omega) (by omega)).mono ?_); rintro e w1 ⟨rfl, rfl⟩)
        | ((with_reducible refine (i64_35 _ _ (by omega) (by omega)).mono ?_); rintro e w1 ⟨rfl, rfl⟩)
        | ((with_reducible refine (i64_33 _ _ (by omega) (by omega)).mono ?_); rintro e w1 ⟨rfl, rfl⟩)
        | ((with_reducible refine (i64_23 _ _ _ HA.out).mono ?_); rintro e w1 ⟨rfl, rfl⟩)
        | ((with_reducible refine (i64_28 _ _ _ HB.out).mono ?_); rintro e w1 ⟨rfl, rfl⟩)))
  go_ret
  exact ⟨rfl, Below.refl _ _⟩

set_option maxRecDepth 100000 in
set_option maxHeartbeats 1000000 in
theorem t1 (x : Int) (w : World) (h0 : -9007199254740992 ≤ x) (h1 : x ≤ -2147483649) (hb : wrap64 (IntKind.u64.wrap x) = x) :
    Calls Tryf.prog 7 #[.int .i64 x] w fun e w' => e = .returned (.bool true) ∧ Below w.heap.size w w' := by
  have HA := Lib.hid (through64 x (by omega) (by omega))
  go_enter Tryf.func7, Tryf.ntmps7
  go_wp2_with (first
    | (go_at_call 12; first
        | ((with_reducible refine (i64_2 _ _).mono ?_); rintro e w1 ⟨rfl, rfl⟩)
        | ((with_reducible refine (i64_3 _ _).mono ?_); rintro e w1 ⟨rfl, rfl⟩)
        | ((with_reducible refine (i64_22 _ _).mono ?_); rintro e w1 ⟨rfl, rfl⟩)
        | ((with_reducible refine (i64_34 _ _).mono ?_); rintro e w1 ⟨rfl, rfl⟩)
        | ((with_reducible refine (i64_31 _ _ (by omega) (by omega)).mono ?_); rintro e w1 ⟨rfl, rfl⟩)
        | ((with_reducible refine (i64_32 _ _ (by omega) (by omega)).mono ?_); rintro e w1 ⟨rfl, rfl⟩)
        | ((with_reducible refine (i64_21 _ _ (by omega) (by omega)).mono ?_); rintro e w1 ⟨rfl, rfl⟩)
        | ((with_reducible refine (i64_5 _ _ (by omega) (by omega)).mono ?_); rintro e w1 ⟨rfl, rfl⟩)
        | ((with_reducible refine (i64_35 _ _ (by omega) (by omega)).mono ?_); rintro e w1 ⟨rfl, rfl⟩)
        | ((with_reducible refine (i64_33 _ _ (by omega) (by omega)).mono ?_); rintro e w1 ⟨rfl, rfl⟩)
        | ((with_reducible refine (i64_23 _ _ _ HA.out).mono ?_); rintro e w1 ⟨rfl, rfl⟩)
        | ((with_reducible refine (i64_28 _ _ _ HB.out).mono ?_); rintro e w1 ⟨rfl, rfl⟩)))
  go_ret
  exact ⟨rfl, Below.refl _ _⟩

set_option maxRecDepth 100000 in
set_option maxHeartbeats 1000000 in
theorem t2 (x : Int) (w : World) (h0 : -2147483648 ≤ x) (h1 : x ≤ -16777217) (hb : wrap64 (IntKind.u64.wrap x) = x) :
    Calls Tryf.prog 7 #[.int .i64 x] w fun e w' => e = .returned (.bool true) ∧ Below w.heap.size w w' := by
  have HA := Lib.hid (through64 x (by omega) (by omega))
  go_enter Tryf.func7, Tryf.ntmps7
  go_wp2_with (first
    | (go_at_call 12; first
        | ((with_reducible refine (i64_2 _ _).mono ?_); rintro e w1 ⟨rfl, rfl⟩)
        | ((with_reducible refine (i64_3 _ _).mono ?_); rintro e w1 ⟨rfl, rfl⟩)
        | ((with_reducible refine (i64_22 _ _).mono ?_); rintro e w1 ⟨rfl, rfl⟩)
        | ((with_reducible refine (i64_34 _ _).mono ?_); rintro e w1 ⟨rfl, rfl⟩)
        | ((with_reducible refine (i64_31 _ _ (by omega) (by omega)).mono ?_); rintro e w1 ⟨rfl, rfl⟩)
        | ((with_reducible refine (i64_32 _ _ (by omega) (by omega)).mono ?_); rintro e w1 ⟨rfl, rfl⟩)
        | ((with_reducible refine (i64_21 _ _ (by omega) (by omega)).mono ?_); rintro e w1 ⟨rfl, rfl⟩)
        | ((with_reducible refine (i64_5 _ _ (by omega) (by omega)).mono ?_); rintro e w1 ⟨rfl, rfl⟩)
        | ((with_reducible refine (i64_35 _ _ (by omega) (by omega)).mono ?_); rintro e w1 ⟨rfl, rfl⟩)
        | ((with_reducible refine (i64_33 _ _ (by omega) (by omega)).mono ?_); rintro e w1 ⟨rfl, rfl⟩)
        | ((with_reducible refine (i64_23 _ _ _ HA.out).mono ?_); rintro e w1 ⟨rfl, rfl⟩)
        | ((with_reducible refine (i64_28 _ _ _ HB.out).mono ?_); rintro e w1 ⟨rfl, rfl⟩)))
  go_ret
  exact ⟨rfl, Below.refl _ _⟩

set_option maxRecDepth 100000 in
set_option maxHeartbeats 1000000 in
theorem t3 (x : Int) (w : World) (h0 : -16777216 ≤ x) (h1 : x ≤ -32769) (hb : wrap64 (IntKind.u64.wrap x) = x) :
    Calls Tryf.prog 7 #[.int .i64 x] w fun e w' => e = .returned (.bool true) ∧ Below w.heap.size w w' := by
  have HA := Lib.hid (through64 x (by omega) (by omega))
  have HB := Lib.hid (through32 x (by omega) (by omega))
  go_enter Tryf.func7, Tryf.ntmps7
  go_wp2_with (first
    | (go_at_call 12; first
        | ((with_reducible refine (i64_2 _ _).mono ?_); rintro e w1 ⟨rfl, rfl⟩)
        | ((with_reducible refine (i64_3 _ _).mono ?_); rintro e w1 ⟨rfl, rfl⟩)
        | ((with_reducible refine (i64_22 _ _).mono ?_); rintro e w1 ⟨rfl, rfl⟩)
        | ((with_reducible refine (i64_34 _ _).mono ?_); rintro e w1 ⟨rfl, rfl⟩)
        | ((with_reducible refine (i64_31 _ _ (by omega) (by omega)).mono ?_); rintro e w1 ⟨rfl, rfl⟩)
        | ((with_reducible refine (i64_32 _ _ (by omega) (by omega)).mono ?_); rintro e w1 ⟨rfl, rfl⟩)
        | ((with_reducible refine (i64_21 _ _ (by omega) (by omega)).mono ?_); rintro e w1 ⟨rfl, rfl⟩)
        | ((with_reducible refine (i64_5 _ _ (by omega) (by omega)).mono ?_); rintro e w1 ⟨rfl, rfl⟩)
        | ((with_reducible refine (i64_35 _ _ (by omega) (by omega)).mono ?_); rintro e w1 ⟨rfl, rfl⟩)
        | ((with_reducible refine (i64_33 _ _ (by omega) (by omega)).mono ?_); rintro e w1 ⟨rfl, rfl⟩)
        | ((with_reducible refine (i64_23 _ _ _ HA.out).mono ?_); rintro e w1 ⟨rfl, rfl⟩)
        | ((with_reducible refine (i64_28 _ _ _ HB.out).mono ?_); rintro e w1 ⟨rfl, rfl⟩)))
  go_ret
  exact ⟨rfl, Below.refl _ _⟩

set_option maxRecDepth 100000 in
set_option maxHeartbeats 1000000 in
theorem t4 (x : Int) (w : World) (h0 : -32768 ≤ x) (h1 : x ≤ -129) (hb : wrap64 (IntKind.u64.wrap x) = x) :
    Calls Tryf.prog 7 #[.int .i64 x] w fun e w' => e = .returned (.bool true) ∧ Below w.heap.size w w' := by
  have HA := Lib.hid (through64 x (by omega) (by omega))
  have HB := Lib.hid (through32 x (by omega) (by omega))
  go_enter Tryf.func7, Tryf.ntmps7
  go_wp2_with (first
    | (go_at_call 12; first
        | ((with_reducible refine (i64_2 _ _).mono ?_); rintro e w1 ⟨rfl, rfl⟩)
        | ((with_reducible refine (i64_3 _ _).mono ?_); rintro e w1 ⟨rfl, rfl⟩)
        | ((with_reducible refine (i64_22 _ _).mono ?_); rintro e w1 ⟨rfl, rfl⟩)
        | ((with_reducible refine (i64_34 _ _).mono ?_); rintro e w1 ⟨rfl, rfl⟩)
        | ((with_reducible refine (i64_31 _ _ (by omega) (by omega)).mono ?_); rintro e w1 ⟨rfl, rfl⟩)
        | ((with_reducible refine (i64_32 _ _ (by omega) (by omega)).mono ?_); rintro e w1 ⟨rfl, rfl⟩)
        | ((with_reducible refine (i64_21 _ _ (by omega) (by omega)).mono ?_); rintro e w1 ⟨rfl, rfl⟩)
        | ((with_reducible refine (i64_5 _ _ (by omega) (by omega)).mono ?_); rintro e w1 ⟨rfl, rfl⟩)
        | ((with_reducible refine (i64_35 _ _ (by omega) (by omega)).mono ?_); rintro e w1 ⟨rfl, rfl⟩)
        | ((with_reducible refine (i64_33 _ _ (by omega) (by omega)).mono ?_); rintro e w1 ⟨rfl, rfl⟩)
        | ((with_reducible refine (i64_23 _ _ _ HA.out).mono ?_); rintro e w1 ⟨rfl, rfl⟩)
        | ((with_reducible refine (i64_28 _ _ _ HB.out).mono ?_); rintro e w1 ⟨rfl, rfl⟩)))
  go_ret
  exact ⟨rfl, Below.refl _ _⟩

set_option maxRecDepth 100000 in
set_option maxHeartbeats 1000000 in
theorem t5 (x : Int) (w : World) (h0 : -128 ≤ x) (h1 : x ≤ -1) (hb : wrap64 (IntKind.u64.wrap x) = x) :
    Calls Tryf.prog 7 #[.int .i64 x] w fun e w' => e = .returned (.bool true) ∧ Below w.heap.size w w' := by
  have HA := Lib.hid (through64 x (by omega) (by omega))
  have HB := Lib.hid (through32 x (by omega) (by omega))
  go_enter Tryf.func7, Tryf.ntmps7
  go_wp2_with (first
    | (go_at_call 12; first
        | ((with_reducible refine (i64_2 _ _).mono ?_); rintro e w1 ⟨rfl, rfl⟩)
        | ((with_reducible refine (i64_3 _ _).mono ?_); rintro e w1 ⟨rfl, rfl⟩)
        | ((with_reducible refine (i64_22 _ _).mono ?_); rintro e w1 ⟨rfl, rfl⟩)
        | ((with_reducible refine (i64_34 _ _).mono ?_); rintro e w1 ⟨rfl, rfl⟩)
        | ((with_reducible refine (i64_31 _ _ (by omega) (by omega)).mono ?_); rintro e w1 ⟨rfl, rfl⟩)
        | ((with_reducible refine (i64_32 _ _ (by omega) (by omega)).mono ?_); rintro e w1 ⟨rfl, rfl⟩)
        | ((with_reducible refine (i64_21 _ _ (by omega) (by omega)).mono ?_); rintro e w1 ⟨rfl, rfl⟩)
        | ((with_reducible refine (i64_5 _ _ (by omega) (by omega)).mono ?_); rintro e w1 ⟨rfl, rfl⟩)
        | ((with_reducible refine (i64_35 _ _ (by omega) (by omega)).mono ?_); rintro e w1 ⟨rfl, rfl⟩)
        | ((with_reducible refine (i64_33 _ _ (by omega) (by omega)).mono ?_); rintro e w1 ⟨rfl, rfl⟩)
        | ((with_reducible refine (i64_23 _ _ _ HA.out).mono ?_); rintro e w1 ⟨rfl, rfl⟩)
        | ((with_reducible refine (i64_28 _ _ _ HB.out).mono ?_); rintro e w1 ⟨rfl, rfl⟩)))
  go_ret
  exact ⟨rfl, Below.refl _ _⟩

set_option maxRecDepth 100000 in
set_option maxHeartbeats 1000000 in
theorem t6 (x : Int) (w : World) (h0 : 0 ≤ x) (h1 : x ≤ 127) (hb : wrap64 (IntKind.u64.wrap x) = x) :
    Calls Tryf.prog 7 #[.int .i64 x] w fun e w' => e = .returned (.bool true) ∧ Below w.heap.size w w' := by
  have HA := Lib.hid (through64 x (by omega) (by omega))
  have HB := Lib.hid (through32 x (by omega) (by omega))
  have hw : wrap64 x = x := IntWalk.wrap64_in x ⟨by omega, by omega⟩
  go_enter Tryf.func7, Tryf.ntmps7
  go_wp2_with (first
    | (go_at_call 12; first
        | ((with_reducible refine (i64_2 _ _).mono ?_); rintro e w1 ⟨rfl, rfl⟩)
        | ((with_reducible refine (i64_3 _ _).mono ?_); rintro e w1 ⟨rfl, rfl⟩)
        | ((with_reducible refine (i64_22 _ _).mono ?_); rintro e w1 ⟨rfl, rfl⟩)
        | ((with_reducible refine (i64_34 _ _).mono ?_); rintro e w1 ⟨rfl, rfl⟩)
        | ((with_reducible refine (i64_31 _ _ (by omega) (by omega)).mono ?_); rintro e w1 ⟨rfl, rfl⟩)
        | ((with_reducible refine (i64_32 _ _ (by omega) (by omega)).mono ?_); rintro e w1 ⟨rfl, rfl⟩)
        | ((with_reducible refine (i64_21 _ _ (by omega) (by omega)).mono ?_); rintro e w1 ⟨rfl, rfl⟩)
        | ((with_reducible refine (i64_5 _ _ (by omega) (by omega)).mono ?_); rintro e w1 ⟨rfl, rfl⟩)
        | ((with_reducible refine (i64_35 _ _ (by omega) (by omega)).mono ?_); rintro e w1 ⟨rfl, rfl⟩)
        | ((with_reducible refine (i64_33 _ _ (by omega) (by omega)).mono ?_); rintro e w1 ⟨rfl, rfl⟩)
        | ((with_reducible refine (i64_23 _ _ _ HA.out).mono ?_); rintro e w1 ⟨rfl, rfl⟩)
        | ((with_reducible refine (i64_28 _ _ _ HB.out).mono ?_); rintro e w1 ⟨rfl, rfl⟩)))
  go_ret
  exact ⟨rfl, Below.refl _ _⟩

set_option maxRecDepth 100000 in
set_option maxHeartbeats 1000000 in
theorem t7 (x : Int) (w : World) (h0 : 128 ≤ x) (h1 : x ≤ 255) (hb : wrap64 (IntKind.u64.wrap x) = x) :
    Calls Tryf.prog 7 #[.int .i64 x] w fun e w' => e = .returned (.bool true) ∧ Below w.heap.size w w' := by
  have HA := Lib.hid (through64 x (by omega) (by omega))
  have HB := Lib.hid (through32 x (by omega) (by omega))
  have hw : wrap64 x = x := IntWalk.wrap64_in x ⟨by omega, by omega⟩
  go_enter Tryf.func7, Tryf.ntmps7
  go_wp2_with (first
    | (go_at_call 12; first
        | ((with_reducible refine (i64_2 _ _).mono ?_); rintro e w1 ⟨rfl, rfl⟩)
        | ((with_reducible refine (i64_3 _ _).mono ?_); rintro e w1 ⟨rfl, rfl⟩)
        | ((with_reducible refine (i64_22 _ _).mono ?_); rintro e w1 ⟨rfl, rfl⟩)
        | ((with_reducible refine (i64_34 _ _).mono ?_); rintro e w1 ⟨rfl, rfl⟩)
        | ((with_reducible refine (i64_31 _ _ (by omega) (by omega)).mono ?_); rintro e w1 ⟨rfl, rfl⟩)
        | ((with_reducible refine (i64_32 _ _ (by omega) (by omega)).mono ?_); rintro e w1 ⟨rfl, rfl⟩)
        | ((with_reducible refine (i64_21 _ _ (by omega) (by omega)).mono ?_); rintro e w1 ⟨rfl, rfl⟩)
        | ((with_reducible refine (i64_5 _ _ (by omega) (by omega)).mono ?_); rintro e w1 ⟨rfl, rfl⟩)
        | ((with_reducible refine (i64_35 _ _ (by omega) (by omega)).mono ?_); rintro e w1 ⟨rfl, rfl⟩)
        | ((with_reducible refine (i64_33 _ _ (by omega) (by omega)).mono ?_); rintro e w1 ⟨rfl, rfl⟩)
        | ((with_reducible refine (i64_23 _ _ _ HA.out).mono ?_); rintro e w1 ⟨rfl, rfl⟩)
        | ((with_reducible refine (i64_28 _ _ _ HB.out).mono ?_); rintro e w1 ⟨rfl, rfl⟩)))
  go_ret
  exact ⟨rfl, Below.refl _ _⟩

set_option maxRecDepth 100000 in
set_option maxHeartbeats 1000000 in
theorem t8 (x : Int) (w : World) (h0 : 256 ≤ x) (h1 : x ≤ 32767) (hb : wrap64 (IntKind.u64.wrap x) = x) :
    Calls Tryf.prog 7 #[.int .i64 x] w fun e w' => e = .returned (.bool true) ∧ Below w.heap.size w w' := by
  have HA := Lib.hid (through64 x (by omega) (by omega))
  have HB := Lib.hid (through32 x (by omega) (by omega))
  have hw : wrap64 x = x := IntWalk.wrap64_in x ⟨by omega, by omega⟩
  go_enter Tryf.func7, Tryf.ntmps7
  go_wp2_with (first
    | (go_at_call 12; first
        | ((with_reducible refine (i64_2 _ _).mono ?_); rintro e w1 ⟨rfl, rfl⟩)
        | ((with_reducible refine (i64_3 _ _).mono ?_); rintro e w1 ⟨rfl, rfl⟩)
        | ((with_reducible refine (i64_22 _ _).mono ?_); rintro e w1 ⟨rfl, rfl⟩)
        | ((with_reducible refine (i64_34 _ _).mono ?_); rintro e w1 ⟨rfl, rfl⟩)
        | ((with_reducible refine (i64_31 _ _ (by omega) (by omega)).mono ?_); rintro e w1 ⟨rfl, rfl⟩)
        | ((with_reducible refine (i64_32 _ _ (by omega) (by omega)).mono ?_); rintro e w1 ⟨rfl, rfl⟩)
        | ((with_reducible refine (i64_21 _ _ (by omega) (by omega)).mono ?_); rintro e w1 ⟨rfl, rfl⟩)
        | ((with_reducible refine (i64_5 _ _ (by omega) (by omega)).mono ?_); rintro e w1 ⟨rfl, rfl⟩)
        | ((with_reducible refine (i64_35 _ _ (by omega) (by omega)).mono ?_); rintro e w1 ⟨rfl, rfl⟩)
        | ((with_reducible refine (i64_33 _ _ (by omega) (by omega)).mono ?_); rintro e w1 ⟨rfl, rfl⟩)
        | ((with_reducible refine (i64_23 _ _ _ HA.out).mono ?_); rintro e w1 ⟨rfl, rfl⟩)
        | ((with_reducible refine (i64_28 _ _ _ HB.out).mono ?_); rintro e w1 ⟨rfl, rfl⟩)))
  go_ret
  exact ⟨rfl, Below.refl _ _⟩

set_option maxRecDepth 100000 in
set_option maxHeartbeats 1000000 in
theorem t9 (x : Int) (w : World) (h0 : 32768 ≤ x) (h1 : x ≤ 65535) (hb : wrap64 (IntKind.u64.wrap x) = x) :
    Calls Tryf.prog 7 #[.int .i64 x] w fun e w' => e = .returned (.bool true) ∧ Below w.heap.size w w' := by
  have HA := Lib.hid (through64 x (by omega) (by omega))
  have HB := Lib.hid (through32 x (by omega) (by omega))
  have hw : wrap64 x = x := IntWalk.wrap64_in x ⟨by omega, by omega⟩
  go_enter Tryf.func7, Tryf.ntmps7
  go_wp2_with (first
    | (go_at_call 12; first
        | ((with_reducible refine (i64_2 _ _).mono ?_); rintro e w1 ⟨rfl, rfl⟩)
        | ((with_reducible refine (i64_3 _ _).mono ?_); rintro e w1 ⟨rfl, rfl⟩)
        | ((with_reducible refine (i64_22 _ _).mono ?_); rintro e w1 ⟨rfl, rfl⟩)
        | ((with_reducible refine (i64_34 _ _).mono ?_); rintro e w1 ⟨rfl, rfl⟩)
        | ((with_reducible refine (i64_31 _ _ (by omega) (by omega)).mono ?_); rintro e w1 ⟨rfl, rfl⟩)
        | ((with_reducible refine (i64_32 _ _ (by omega) (by omega)).mono ?_); rintro e w1 ⟨rfl, rfl⟩)
        | ((with_reducible refine (i64_21 _ _ (by omega) (by omega)).mono ?_); rintro e w1 ⟨rfl, rfl⟩)
        | ((with_reducible refine (i64_5 _ _ (by omega) (by omega)).mono ?_); rintro e w1 ⟨rfl, rfl⟩)
        | ((with_reducible refine (i64_35 _ _ (by omega) (by omega)).mono ?_); rintro e w1 ⟨rfl, rfl⟩)
        | ((with_reducible refine (i64_33 _ _ (by omega) (by omega)).mono ?_); rintro e w1 ⟨rfl, rfl⟩)
        | ((with_reducible refine (i64_23 _ _ _ HA.out).mono ?_); rintro e w1 ⟨rfl, rfl⟩)
        | ((with_reducible refine (i64_28 _ _ _ HB.out).mono ?_); rintro e w1 ⟨rfl, rfl⟩)))
  go_ret
  exact ⟨rfl, Below.refl _ _⟩

set_option maxRecDepth 100000 in
set_option maxHeartbeats 1000000 in
theorem t10 (x : Int) (w : World) (h0 : 65536 ≤ x) (h1 : x ≤ 16777216) (hb : wrap64 (IntKind.u64.wrap x) = x) :
    Calls Tryf.prog 7 #[.int .i64 x] w fun e w' => e = .returned (.bool true) ∧ Below w.heap.size w w' := by
  have HA := Lib.hid (through64 x (by omega) (by omega))
  have HB := Lib.hid (through32 x (by omega) (by omega))
  have hw : wrap64 x = x := IntWalk.wrap64_in x ⟨by omega, by omega⟩
  go_enter Tryf.func7, Tryf.ntmps7
  go_wp2_with (first
    | (go_at_call 12; first
        | ((with_reducible refine (i64_2 _ _).mono ?_); rintro e w1 ⟨rfl, rfl⟩)
        | ((with_reducible refine (i64_3 _ _).mono ?_); rintro e w1 ⟨rfl, rfl⟩)
        | ((with_reducible refine (i64_22 _ _).mono ?_); rintro e w1 ⟨rfl, rfl⟩)
        | ((with_reducible refine (i64_34 _ _).mono ?_); rintro e w1 ⟨rfl, rfl⟩)
        | ((with_reducible refine (i64_31 _ _ (by omega) (by omega)).mono ?_); rintro e w1 ⟨rfl, rfl⟩)
        | ((with_reducible refine (i64_32 _ _ (by omega) (by omega)).mono ?_); rintro e w1 ⟨rfl, rfl⟩)
        | ((with_reducible refine (i64_21 _ _ (by omega) (by omega)).mono ?_); rintro e w1 ⟨rfl, rfl⟩)
        | ((with_reducible refine (i64_5 _ _ (by omega) (by omega)).mono ?_); rintro e w1 ⟨rfl, rfl⟩)
        | ((with_reducible refine (i64_35 _ _ (by omega) (by omega)).mono ?_); rintro e w1 ⟨rfl, rfl⟩)
        | ((with_reducible refine (i64_33 _ _ (by omega) (by omega)).mono ?_); rintro e w1 ⟨rfl, rfl⟩)
        | ((with_reducible refine (i64_23 _ _ _ HA.out).mono ?_); rintro e w1 ⟨rfl, rfl⟩)
        | ((with_reducible refine (i64_28 _ _ _ HB.out).mono ?_); rintro e w1 ⟨rfl, rfl⟩)))
  go_ret
  exact ⟨rfl, Below.refl _ _⟩

set_option maxRecDepth 100000 in
set_option maxHeartbeats 1000000 in
theorem t11 (x : Int) (w : World) (h0 : 16777217 ≤ x) (h1 : x ≤ 2147483647) (hb : wrap64 (IntKind.u64.wrap x) = x) :
    Calls Tryf.prog 7 #[.int .i64 x] w fun e w' => e = .returned (.bool true) ∧ Below w.heap.size w w' := by
  have HA := Lib.hid (through64 x (by omega) (by omega))
  have hw : wrap64 x = x := IntWalk.wrap64_in x ⟨by omega, by omega⟩
  go_enter Tryf.func7, Tryf.ntmps7
  go_wp2_with (first
    | (go_at_call 12; first
        | ((with_reducible refine (i64_2 _ _).mono ?_); rintro e w1 ⟨rfl, rfl⟩)
        | ((with_reducible refine (i64_3 _ _).mono ?_); rintro e w1 ⟨rfl, rfl⟩)
        | ((with_reducible refine (i64_22 _ _).mono ?_); rintro e w1 ⟨rfl, rfl⟩)
        | ((with_reducible refine (i64_34 _ _).mono ?_); rintro e w1 ⟨rfl, rfl⟩)
        | ((with_reducible refine (i64_31 _ _ (by omega) (by omega)).mono ?_); rintro e w1 ⟨rfl, rfl⟩)
        | ((with_reducible refine (i64_32 _ _ (by omega) (by omega)).mono ?_); rintro e w1 ⟨rfl, rfl⟩)
        | ((with_reducible refine (i64_21 _ _ (by omega) (by omega)).mono ?_); rintro e w1 ⟨rfl, rfl⟩)
        | ((with_reducible refine (i64_5 _ _ (by omega) (by omega)).mono ?_); rintro e w1 ⟨rfl, rfl⟩)
        | ((with_reducible refine (i64_35 _ _ (by omega) (by omega)).mono ?_); rintro e w1 ⟨rfl, rfl⟩)
        | ((with_reducible refine (i64_33 _ _ (by omega) (by omega)).mono ?_); rintro e w1 ⟨rfl, rfl⟩)
        | ((with_reducible refine (i64_23 _ _ _ HA.out).mono ?_); rintro e w1 ⟨rfl, rfl⟩)
        | ((with_reducible refine (i64_28 _ _ _ HB.out).mono ?_); rintro e w1 ⟨rfl, rfl⟩)))
  go_ret
  exact ⟨rfl, Below.refl _ _⟩

set_option maxRecDepth 100000 in
set_option maxHeartbeats 1000000 in
theorem t12 (x : Int) (w : World) (h0 : 2147483648 ≤ x) (h1 : x ≤ 4294967295) (hb : wrap64 (IntKind.u64.wrap x) = x) :
    Calls Tryf.prog 7 #[.int .i64 x] w fun e w' => e = .returned (.bool true) ∧ Below w.heap.size w w' := by
  have HA := Lib.hid (through64 x (by omega) (by omega))
  have hw : wrap64 x = x := IntWalk.wrap64_in x ⟨by omega, by omega⟩
  go_enter Tryf.func7, Tryf.ntmps7
  go_wp2_with (first
    | (go_at_call 12; first
        | ((with_reducible refine (i64_2 _ _).mono ?_); rintro e w1 ⟨rfl, rfl⟩)
        | ((with_reducible refine (i64_3 _ _).mono ?_); rintro e w1 ⟨rfl, rfl⟩)
        | ((with_reducible refine (i64_22 _ _).mono ?_); rintro e w1 ⟨rfl, rfl⟩)
        | ((with_reducible refine (i64_34 _ _).mono ?_); rintro e w1 ⟨rfl, rfl⟩)
        | ((with_reducible refine (i64_31 _ _ (by omega) (by omega)).mono ?_); rintro e w1 ⟨rfl, rfl⟩)
        | ((with_reducible refine (i64_32 _ _ (by omega) (by omega)).mono ?_); rintro e w1 ⟨rfl, rfl⟩)
        | ((with_reducible refine (i64_21 _ _ (by omega) (by omega)).mono ?_); rintro e w1 ⟨rfl, rfl⟩)
        | ((with_reducible refine (i64_5 _ _ (by omega) (by omega)).mono ?_); rintro e w1 ⟨rfl, rfl⟩)
        | ((with_reducible refine (i64_35 _ _ (by omega) (by omega)).mono ?_); rintro e w1 ⟨rfl, rfl⟩)
        | ((with_reducible refine (i64_33 _ _ (by omega) (by omega)).mono ?_); rintro e w1 ⟨rfl, rfl⟩)
        | ((with_reducible refine (i64_23 _ _ _ HA.out).mono ?_); rintro e w1 ⟨rfl, rfl⟩)
        | ((with_reducible refine (i64_28 _ _ _ HB.out).mono ?_); rintro e w1 ⟨rfl, rfl⟩)))
  go_ret
  exact ⟨rfl, Below.refl _ _⟩

set_option maxRecDepth 100000 in
set_option maxHeartbeats 1000000 in
theorem t13 (x : Int) (w : World) (h0 : 4294967296 ≤ x) (h1 : x ≤ 9007199254740992) (hb : wrap64 (IntKind.u64.wrap x) = x) :
    Calls Tryf.prog 7 #[.int .i64 x] w fun e w' => e = .returned (.bool true) ∧ Below w.heap.size w w' := by
  have HA := Lib.hid (through64 x (by omega) (by omega))
  have hw : wrap64 x = x := IntWalk.wrap64_in x ⟨by omega, by omega⟩
  go_enter Tryf.func7, Tryf.ntmps7
  go_wp2_with (first
    | (go_at_call 12; first
        | ((with_reducible refine (i64_2 _ _).mono ?_); rintro e w1 ⟨rfl, rfl⟩)
        | ((with_reducible refine (i64_3 _ _).mono ?_); rintro e w1 ⟨rfl, rfl⟩)
        | ((with_reducible refine (i64_22 _ _).mono ?_); rintro e w1 ⟨rfl, rfl⟩)
        | ((with_reducible refine (i64_34 _ _).mono ?_); rintro e w1 ⟨rfl, rfl⟩)
        | ((with_reducible refine (i64_31 _ _ (by omega) (by omega)).mono ?_); rintro e w1 ⟨rfl, rfl⟩)
        | ((with_reducible refine (i64_32 _ _ (by omega) (by omega)).mono ?_); rintro e w1 ⟨rfl, rfl⟩)
        | ((with_reducible refine (i64_21 _ _ (by omega) (by omega)).mono ?_); rintro e w1 ⟨rfl, rfl⟩)
        | ((with_reducible refine (i64_5 _ _ (by omega) (by omega)).mono ?_); rintro e w1 ⟨rfl, rfl⟩)
        | ((with_reducible refine (i64_35 _ _ (by omega) (by omega)).mono ?_); rintro e w1 ⟨rfl, rfl⟩)
        | ((with_reducible refine (i64_33 _ _ (by omega) (by omega)).mono ?_); rintro e w1 ⟨rfl, rfl⟩)
        | ((with_reducible refine (i64_23 _ _ _ HA.out).mono ?_); rintro e w1 ⟨rfl, rfl⟩)
        | ((with_reducible refine (i64_28 _ _ _ HB.out).mono ?_); rintro e w1 ⟨rfl, rfl⟩)))
  go_ret
  exact ⟨rfl, Below.refl _ _⟩

set_option maxRecDepth 100000 in
set_option maxHeartbeats 1000000 in
theorem t14 (x : Int) (w : World) (h0 : 9007199254740993 ≤ x) (h1 : x ≤ 9223372036854775807) (hb : wrap64 (IntKind.u64.wrap x) = x) :
    Calls Tryf.prog 7 #[.int .i64 x] w fun e w' => e = .returned (.bool true) ∧ Below w.heap.size w w' := by
  have hw : wrap64 x = x := IntWalk.wrap64_in x ⟨by omega, by omega⟩
  go_enter Tryf.func7, Tryf.ntmps7
  go_wp2_with (first
    | (go_at_call 12; first
        | ((with_reducible refine (i64_2 _ _).mono ?_); rintro e w1 ⟨rfl, rfl⟩)
        | ((with_reducible refine (i64_3 _ _).mono ?_); rintro e w1 ⟨rfl, rfl⟩)
        | ((with_reducible refine (i64_22 _ _).mono ?_); rintro e w1 ⟨rfl, rfl⟩)
        | ((with_reducible refine (i64_34 _ _).mono ?_); rintro e w1 ⟨rfl, rfl⟩)
        | ((with_reducible refine (i64_31 _ _ (by omega) (by omega)).mono ?_); rintro e w1 ⟨rfl, rfl⟩)
        | ((with_reducible refine (i64_32 _ _ (by omega) (by omega)).mono ?_); rintro e w1 ⟨rfl, rfl⟩)
        | ((with_reducible refine (i64_21 _ _ (by omega) (by omega)).mono ?_); rintro e w1 ⟨rfl, rfl⟩)
        | ((with_reducible refine (i64_5 _ _ (by omega) (by omega)).mono ?_); rintro e w1 ⟨rfl, rfl⟩)
        | ((with_reducible refine (i64_35 _ _ (by omega) (by omega)).mono ?_); rintro e w1 ⟨rfl, rfl⟩)
        | ((with_reducible refine (i64_33 _ _ (by omega) (by omega)).mono ?_); rintro e w1 ⟨rfl, rfl⟩)
        | ((with_reducible refine (i64_23 _ _ _ HA.out).mono ?_); rintro e w1 ⟨rfl, rfl⟩)
        | ((with_reducible refine (i64_28 _ _ _ HB.out).mono ?_); rintro e w1 ⟨rfl, rfl⟩)))
  go_ret
  exact ⟨rfl, Below.refl _ _⟩

theorem walk (a0 : Int) (w : World) (w0 : (Lit.int .i64 a0).wf = true) :
    Calls Tryf.prog 7 #[.int .i64 a0] w fun e w' => e = .returned (.bool true) ∧ Below w.heap.size w w' := by
  obtain ⟨x0, x1⟩ := bounds_i64 w0
  have hb := there_back a0 x0 x1
  by_cases c0 : a0 ≤ -9007199254740993
  · exact t0 a0 w (by omega) (by omega) hb
  by_cases c1 : a0 ≤ -2147483649
  · exact t1 a0 w (by omega) (by omega) hb
  by_cases c2 : a0 ≤ -16777217
  · exact t2 a0 w (by omega) (by omega) hb
  by_cases c3 : a0 ≤ -32769
  · exact t3 a0 w (by omega) (by omega) hb
  by_cases c4 : a0 ≤ -129
  · exact t4 a0 w (by omega) (by omega) hb
  by_cases c5 : a0 ≤ -1
  · exact t5 a0 w (by omega) (by omega) hb
  by_cases c6 : a0 ≤ 127
  · exact t6 a0 w (by omega) (by omega) hb
  by_cases c7 : a0 ≤ 255
  · exact t7 a0 w (by omega) (by omega) hb
  by_cases c8 : a0 ≤ 32767
  · exact t8 a0 w (by omega) (by omega) hb
  by_cases c9 : a0 ≤ 65535
  · exact t9 a0 w (by omega) (by omega) hb
  by_cases c10 : a0 ≤ 16777216
  · exact t10 a0 w (by omega) (by omega) hb
  by_cases c11 : a0 ≤ 2147483647
  · exact t11 a0 w (by omega) (by omega) hb
  by_cases c12 : a0 ≤ 4294967295
  · exact t12 a0 w (by omega) (by omega) hb
  by_cases c13 : a0 ≤ 9007199254740992
  · exact t13 a0 w (by omega) (by omega) hb
  exact t14 a0 w (by omega) (by omega) hb
end Go.Proofs.YtlfpmjjdocknhaaFmt.fnToInt64AgreesAcrossNumericKinds
