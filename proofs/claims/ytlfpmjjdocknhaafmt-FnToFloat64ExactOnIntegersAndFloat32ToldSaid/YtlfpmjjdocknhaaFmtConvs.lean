/- What ToFloat64, ToInt64 and ToInt give at each numeric kind; nothing is written. No statement is proved here. -/
import Derived.Test.YtlfpmjjdocknhaaFmtAsserts
import Derived.WalkKit
import Derived.WalkLawsBesides
import Derived.WalkSpells
import Derived.Below
import Derived.Laws.FloatArith
namespace Go.Proofs.YtlfpmjjdocknhaaFmt
open Go.RowKit

set_option maxHeartbeats 400000 in
theorem fl_3 (n : Int) (w : World) :
    Calls Tryf.prog 11 #[.iface 3 (.int .i64 n)] w fun e w' => e = .returned (.float .f64 (floatOfInt .f64 n)) ∧ w = w' := by
  go_enter Tryf.func11, Tryf.ntmps11
  go_wp2
  go_ret
  exact ⟨rfl, rfl⟩

set_option maxHeartbeats 400000 in
theorem i64_3 (n : Int) (w : World) :
    Calls Tryf.prog 12 #[.iface 3 (.int .i64 n)] w fun e w' => e = .returned (.int .i64 n) ∧ w = w' := by
  go_enter Tryf.func12, Tryf.ntmps12
  go_wp2
  go_ret
  exact ⟨rfl, rfl⟩

set_option maxHeartbeats 400000 in
theorem int_3 (n : Int) (w : World) :
    Calls Tryf.prog 14 #[.iface 3 (.int .i64 n)] w fun e w' => e = .returned (.int .i64 n) ∧ w = w' := by
  go_enter Tryf.func14, Tryf.ntmps14
  go_wp2
  go_ret
  exact ⟨rfl, rfl⟩

set_option maxHeartbeats 400000 in
theorem fl_31 (n : Int) (w : World) :
    Calls Tryf.prog 11 #[.iface 31 (.int .i8 n)] w fun e w' => e = .returned (.float .f64 (floatOfInt .f64 n)) ∧ w = w' := by
  go_enter Tryf.func11, Tryf.ntmps11
  go_wp2
  go_ret
  exact ⟨rfl, rfl⟩

set_option maxHeartbeats 400000 in
theorem i64_31 (n : Int) (w : World) (h0 : -128 ≤ n) (h1 : n ≤ 127) :
    Calls Tryf.prog 12 #[.iface 31 (.int .i8 n)] w fun e w' => e = .returned (.int .i64 n) ∧ w = w' := by
  go_enter Tryf.func12, Tryf.ntmps12
  go_wp2
  go_ret
  exact ⟨rfl, rfl⟩

set_option maxHeartbeats 400000 in
theorem int_31 (n : Int) (w : World) (h0 : -128 ≤ n) (h1 : n ≤ 127) :
    Calls Tryf.prog 14 #[.iface 31 (.int .i8 n)] w fun e w' => e = .returned (.int .i64 n) ∧ w = w' := by
  go_enter Tryf.func14, Tryf.ntmps14
  go_wp2
  go_ret
  exact ⟨rfl, rfl⟩

set_option maxHeartbeats 400000 in
theorem fl_32 (n : Int) (w : World) :
    Calls Tryf.prog 11 #[.iface 32 (.int .i16 n)] w fun e w' => e = .returned (.float .f64 (floatOfInt .f64 n)) ∧ w = w' := by
  go_enter Tryf.func11, Tryf.ntmps11
  go_wp2
  go_ret
  exact ⟨rfl, rfl⟩

set_option maxHeartbeats 400000 in
theorem i64_32 (n : Int) (w : World) (h0 : -32768 ≤ n) (h1 : n ≤ 32767) :
    Calls Tryf.prog 12 #[.iface 32 (.int .i16 n)] w fun e w' => e = .returned (.int .i64 n) ∧ w = w' := by
  go_enter Tryf.func12, Tryf.ntmps12
  go_wp2
  go_ret
  exact ⟨rfl, rfl⟩

set_option maxHeartbeats 400000 in
theorem int_32 (n : Int) (w : World) (h0 : -32768 ≤ n) (h1 : n ≤ 32767) :
    Calls Tryf.prog 14 #[.iface 32 (.int .i16 n)] w fun e w' => e = .returned (.int .i64 n) ∧ w = w' := by
  go_enter Tryf.func14, Tryf.ntmps14
  go_wp2
  go_ret
  exact ⟨rfl, rfl⟩

set_option maxHeartbeats 400000 in
theorem fl_21 (n : Int) (w : World) :
    Calls Tryf.prog 11 #[.iface 21 (.int .i32 n)] w fun e w' => e = .returned (.float .f64 (floatOfInt .f64 n)) ∧ w = w' := by
  go_enter Tryf.func11, Tryf.ntmps11
  go_wp2
  go_ret
  exact ⟨rfl, rfl⟩

set_option maxHeartbeats 400000 in
theorem i64_21 (n : Int) (w : World) (h0 : -2147483648 ≤ n) (h1 : n ≤ 2147483647) :
    Calls Tryf.prog 12 #[.iface 21 (.int .i32 n)] w fun e w' => e = .returned (.int .i64 n) ∧ w = w' := by
  go_enter Tryf.func12, Tryf.ntmps12
  go_wp2
  go_ret
  exact ⟨rfl, rfl⟩

set_option maxHeartbeats 400000 in
theorem int_21 (n : Int) (w : World) (h0 : -2147483648 ≤ n) (h1 : n ≤ 2147483647) :
    Calls Tryf.prog 14 #[.iface 21 (.int .i32 n)] w fun e w' => e = .returned (.int .i64 n) ∧ w = w' := by
  go_enter Tryf.func14, Tryf.ntmps14
  go_wp2
  go_ret
  exact ⟨rfl, rfl⟩

set_option maxHeartbeats 400000 in
theorem fl_2 (n : Int) (w : World) :
    Calls Tryf.prog 11 #[.iface 2 (.int .i64 n)] w fun e w' => e = .returned (.float .f64 (floatOfInt .f64 n)) ∧ w = w' := by
  go_enter Tryf.func11, Tryf.ntmps11
  go_wp2
  go_ret
  exact ⟨rfl, rfl⟩

set_option maxHeartbeats 400000 in
theorem i64_2 (n : Int) (w : World) :
    Calls Tryf.prog 12 #[.iface 2 (.int .i64 n)] w fun e w' => e = .returned (.int .i64 n) ∧ w = w' := by
  go_enter Tryf.func12, Tryf.ntmps12
  go_wp2
  go_ret
  exact ⟨rfl, rfl⟩

set_option maxHeartbeats 400000 in
theorem int_2 (n : Int) (w : World) :
    Calls Tryf.prog 14 #[.iface 2 (.int .i64 n)] w fun e w' => e = .returned (.int .i64 n) ∧ w = w' := by
  go_enter Tryf.func14, Tryf.ntmps14
  go_wp2
  go_ret
  exact ⟨rfl, rfl⟩

set_option maxHeartbeats 400000 in
theorem fl_34 (n : Int) (w : World) :
    Calls Tryf.prog 11 #[.iface 34 (.int .u64 n)] w fun e w' => e = .returned (.float .f64 (floatOfInt .f64 n)) ∧ w = w' := by
  go_enter Tryf.func11, Tryf.ntmps11
  go_wp2
  go_ret
  exact ⟨rfl, rfl⟩

set_option maxHeartbeats 400000 in
theorem i64_34 (n : Int) (w : World) :
    Calls Tryf.prog 12 #[.iface 34 (.int .u64 n)] w fun e w' => e = .returned (.int .i64 (wrap64 n)) ∧ w = w' := by
  go_enter Tryf.func12, Tryf.ntmps12
  go_wp2
  go_ret
  exact ⟨rfl, rfl⟩

set_option maxHeartbeats 400000 in
theorem int_34 (n : Int) (w : World) :
    Calls Tryf.prog 14 #[.iface 34 (.int .u64 n)] w fun e w' => e = .returned (.int .i64 (wrap64 n)) ∧ w = w' := by
  go_enter Tryf.func14, Tryf.ntmps14
  go_wp2
  go_ret
  exact ⟨rfl, rfl⟩

set_option maxHeartbeats 400000 in
theorem fl_5 (n : Int) (w : World) :
    Calls Tryf.prog 11 #[.iface 5 (.int .u8 n)] w fun e w' => e = .returned (.float .f64 (floatOfInt .f64 n)) ∧ w = w' := by
  go_enter Tryf.func11, Tryf.ntmps11
  go_wp2
  go_ret
  exact ⟨rfl, rfl⟩

set_option maxHeartbeats 400000 in
theorem i64_5 (n : Int) (w : World) (h0 : 0 ≤ n) (h1 : n ≤ 255) :
    Calls Tryf.prog 12 #[.iface 5 (.int .u8 n)] w fun e w' => e = .returned (.int .i64 n) ∧ w = w' := by
  go_enter Tryf.func12, Tryf.ntmps12
  go_wp2
  go_ret
  exact ⟨rfl, rfl⟩

set_option maxHeartbeats 400000 in
theorem int_5 (n : Int) (w : World) (h0 : 0 ≤ n) (h1 : n ≤ 255) :
    Calls Tryf.prog 14 #[.iface 5 (.int .u8 n)] w fun e w' => e = .returned (.int .i64 n) ∧ w = w' := by
  go_enter Tryf.func14, Tryf.ntmps14
  go_wp2
  go_ret
  exact ⟨rfl, rfl⟩

set_option maxHeartbeats 400000 in
theorem fl_35 (n : Int) (w : World) :
    Calls Tryf.prog 11 #[.iface 35 (.int .u16 n)] w fun e w' => e = .returned (.float .f64 (floatOfInt .f64 n)) ∧ w = w' := by
  go_enter Tryf.func11, Tryf.ntmps11
  go_wp2
  go_ret
  exact ⟨rfl, rfl⟩

set_option maxHeartbeats 400000 in
theorem i64_35 (n : Int) (w : World) (h0 : 0 ≤ n) (h1 : n ≤ 65535) :
    Calls Tryf.prog 12 #[.iface 35 (.int .u16 n)] w fun e w' => e = .returned (.int .i64 n) ∧ w = w' := by
  go_enter Tryf.func12, Tryf.ntmps12
  go_wp2
  go_ret
  exact ⟨rfl, rfl⟩

set_option maxHeartbeats 400000 in
theorem int_35 (n : Int) (w : World) (h0 : 0 ≤ n) (h1 : n ≤ 65535) :
    Calls Tryf.prog 14 #[.iface 35 (.int .u16 n)] w fun e w' => e = .returned (.int .i64 n) ∧ w = w' := by
  go_enter Tryf.func14, Tryf.ntmps14
  go_wp2
  go_ret
  exact ⟨rfl, rfl⟩

set_option maxHeartbeats 400000 in
theorem fl_33 (n : Int) (w : World) :
    Calls Tryf.prog 11 #[.iface 33 (.int .u32 n)] w fun e w' => e = .returned (.float .f64 (floatOfInt .f64 n)) ∧ w = w' := by
  go_enter Tryf.func11, Tryf.ntmps11
  go_wp2
  go_ret
  exact ⟨rfl, rfl⟩

set_option maxHeartbeats 400000 in
theorem i64_33 (n : Int) (w : World) (h0 : 0 ≤ n) (h1 : n ≤ 4294967295) :
    Calls Tryf.prog 12 #[.iface 33 (.int .u32 n)] w fun e w' => e = .returned (.int .i64 n) ∧ w = w' := by
  go_enter Tryf.func12, Tryf.ntmps12
  go_wp2
  go_ret
  exact ⟨rfl, rfl⟩

set_option maxHeartbeats 400000 in
theorem int_33 (n : Int) (w : World) (h0 : 0 ≤ n) (h1 : n ≤ 4294967295) :
    Calls Tryf.prog 14 #[.iface 33 (.int .u32 n)] w fun e w' => e = .returned (.int .i64 n) ∧ w = w' := by
  go_enter Tryf.func14, Tryf.ntmps14
  go_wp2
  go_ret
  exact ⟨rfl, rfl⟩

set_option maxHeartbeats 400000 in
theorem fl_22 (n : Int) (w : World) :
    Calls Tryf.prog 11 #[.iface 22 (.int .u64 n)] w fun e w' => e = .returned (.float .f64 (floatOfInt .f64 n)) ∧ w = w' := by
  go_enter Tryf.func11, Tryf.ntmps11
  go_wp2
  go_ret
  exact ⟨rfl, rfl⟩

set_option maxHeartbeats 400000 in
theorem i64_22 (n : Int) (w : World) :
    Calls Tryf.prog 12 #[.iface 22 (.int .u64 n)] w fun e w' => e = .returned (.int .i64 (wrap64 n)) ∧ w = w' := by
  go_enter Tryf.func12, Tryf.ntmps12
  go_wp2
  go_ret
  exact ⟨rfl, rfl⟩

set_option maxHeartbeats 400000 in
theorem int_22 (n : Int) (w : World) :
    Calls Tryf.prog 14 #[.iface 22 (.int .u64 n)] w fun e w' => e = .returned (.int .i64 (wrap64 n)) ∧ w = w' := by
  go_enter Tryf.func14, Tryf.ntmps14
  go_wp2
  go_ret
  exact ⟨rfl, rfl⟩

set_option maxHeartbeats 400000 in
theorem fl_23 (x : Nat) (w : World) :
    Calls Tryf.prog 11 #[.iface 23 (.float .f64 x)] w fun e w' => e = .returned (.float .f64 x) ∧ w = w' := by
  go_enter Tryf.func11, Tryf.ntmps11
  go_wp2
  go_ret
  exact ⟨rfl, rfl⟩

set_option maxHeartbeats 400000 in
theorem fl_28 (x r : Nat) (w : World) (h : floatToFloatBits .f32 x .f64 = some r) :
    Calls Tryf.prog 11 #[.iface 28 (.float .f32 x)] w fun e w' => e = .returned (.float .f64 r) ∧ w = w' := by
  have hc := fun w => run_convert_float_float (P := Tryf.prog) w 28 23 .f32 .f64 x r (by kernel_rfl) Tryf.underlying23 h
  clear h
  go_enter Tryf.func11, Tryf.ntmps11
  go_wp2
  go_ret
  exact ⟨rfl, rfl⟩

set_option maxHeartbeats 400000 in
theorem i64_23 (x : Nat) (n : Int) (w : World) (h : floatToIntVal .f64 x .i64 = some n) :
    Calls Tryf.prog 12 #[.iface 23 (.float .f64 x)] w fun e w' => e = .returned (.int .i64 n) ∧ w = w' := by
  have hc := fun w => run_convert_float_int (P := Tryf.prog) w 23 2 .f64 .i64 x n (by kernel_rfl) Tryf.underlying2 h
  clear h
  go_enter Tryf.func12, Tryf.ntmps12
  go_wp2
  go_ret
  exact ⟨rfl, rfl⟩

set_option maxHeartbeats 400000 in
theorem i64_28 (x : Nat) (n : Int) (w : World) (h : floatToIntVal .f32 x .i64 = some n) :
    Calls Tryf.prog 12 #[.iface 28 (.float .f32 x)] w fun e w' => e = .returned (.int .i64 n) ∧ w = w' := by
  have hc := fun w => run_convert_float_int (P := Tryf.prog) w 28 2 .f32 .i64 x n (by kernel_rfl) Tryf.underlying2 h
  clear h
  go_enter Tryf.func12, Tryf.ntmps12
  go_wp2
  go_ret
  exact ⟨rfl, rfl⟩

set_option maxHeartbeats 400000 in
theorem int_23 (x : Nat) (n : Int) (w : World) (h : floatToIntVal .f64 x .i64 = some n) :
    Calls Tryf.prog 14 #[.iface 23 (.float .f64 x)] w fun e w' => e = .returned (.int .i64 n) ∧ w = w' := by
  have hc := fun w => run_convert_float_int (P := Tryf.prog) w 23 3 .f64 .i64 x n (by kernel_rfl) Tryf.underlying3 h
  clear h
  go_enter Tryf.func14, Tryf.ntmps14
  go_wp2
  go_ret
  exact ⟨rfl, rfl⟩

set_option maxHeartbeats 400000 in
theorem int_28 (x : Nat) (n : Int) (w : World) (h : floatToIntVal .f32 x .i64 = some n) :
    Calls Tryf.prog 14 #[.iface 28 (.float .f32 x)] w fun e w' => e = .returned (.int .i64 n) ∧ w = w' := by
  have hc := fun w => run_convert_float_int (P := Tryf.prog) w 28 3 .f32 .i64 x n (by kernel_rfl) Tryf.underlying3 h
  clear h
  go_enter Tryf.func14, Tryf.ntmps14
  go_wp2
  go_ret
  exact ⟨rfl, rfl⟩
end Go.Proofs.YtlfpmjjdocknhaaFmt
