/- What Abs gives at each numeric kind; equality of two interface values of one kind; the sign of a float turned. Nothing is written. No statement is proved here. -/
import Derived.Test.YtlfpmjjdocknhaaFmtAsserts
import Derived.Test.YtlfpmjjdocknhaaFmtFld
import Derived.WalkKit
import Derived.WalkLawsBesides
import Derived.WalkSpells
import Derived.Below
import Derived.Laws.FloatArith
import Derived.Lib.Hide
namespace Go.Proofs.YtlfpmjjdocknhaaFmt
open Go.RowKit
@[go_sem] theorem nq3 (a b : Int) (w : World) : (binOp .neq 20 (.iface 3 (.int .i64 a)) (.iface 3 (.int .i64 b))).run Tryf.prog w = .ok (.bool (a != b)) w := by kernel_rfl
@[go_sem] theorem nq31 (a b : Int) (w : World) : (binOp .neq 20 (.iface 31 (.int .i8 a)) (.iface 31 (.int .i8 b))).run Tryf.prog w = .ok (.bool (a != b)) w := by kernel_rfl
@[go_sem] theorem nq32 (a b : Int) (w : World) : (binOp .neq 20 (.iface 32 (.int .i16 a)) (.iface 32 (.int .i16 b))).run Tryf.prog w = .ok (.bool (a != b)) w := by kernel_rfl
@[go_sem] theorem nq21 (a b : Int) (w : World) : (binOp .neq 20 (.iface 21 (.int .i32 a)) (.iface 21 (.int .i32 b))).run Tryf.prog w = .ok (.bool (a != b)) w := by kernel_rfl
@[go_sem] theorem nq2 (a b : Int) (w : World) : (binOp .neq 20 (.iface 2 (.int .i64 a)) (.iface 2 (.int .i64 b))).run Tryf.prog w = .ok (.bool (a != b)) w := by kernel_rfl
@[go_sem] theorem nq34 (a b : Int) (w : World) : (binOp .neq 20 (.iface 34 (.int .u64 a)) (.iface 34 (.int .u64 b))).run Tryf.prog w = .ok (.bool (a != b)) w := by kernel_rfl
@[go_sem] theorem nq5 (a b : Int) (w : World) : (binOp .neq 20 (.iface 5 (.int .u8 a)) (.iface 5 (.int .u8 b))).run Tryf.prog w = .ok (.bool (a != b)) w := by kernel_rfl
@[go_sem] theorem nq35 (a b : Int) (w : World) : (binOp .neq 20 (.iface 35 (.int .u16 a)) (.iface 35 (.int .u16 b))).run Tryf.prog w = .ok (.bool (a != b)) w := by kernel_rfl
@[go_sem] theorem nq33 (a b : Int) (w : World) : (binOp .neq 20 (.iface 33 (.int .u32 a)) (.iface 33 (.int .u32 b))).run Tryf.prog w = .ok (.bool (a != b)) w := by kernel_rfl
@[go_sem] theorem nq22 (a b : Int) (w : World) : (binOp .neq 20 (.iface 22 (.int .u64 a)) (.iface 22 (.int .u64 b))).run Tryf.prog w = .ok (.bool (a != b)) w := by kernel_rfl
@[go_sem] theorem nq23 (a b : Nat) (w : World) : (binOp .neq 20 (.iface 23 (.float .f64 a)) (.iface 23 (.float .f64 b))).run Tryf.prog w = .ok (.bool (FloatKind.f64.format.order a b != some .eq)) w := by kernel_rfl
@[go_sem] theorem eq23 (a b : Nat) (w : World) : (binOp .eql 20 (.iface 23 (.float .f64 a)) (.iface 23 (.float .f64 b))).run Tryf.prog w = .ok (.bool (FloatKind.f64.format.order a b == some .eq)) w := by kernel_rfl
@[go_sem] theorem nq28 (a b : Nat) (w : World) : (binOp .neq 20 (.iface 28 (.float .f32 a)) (.iface 28 (.float .f32 b))).run Tryf.prog w = .ok (.bool (FloatKind.f32.format.order a b != some .eq)) w := by kernel_rfl
@[go_sem] theorem eq28 (a b : Nat) (w : World) : (binOp .eql 20 (.iface 28 (.float .f32 a)) (.iface 28 (.float .f32 b))).run Tryf.prog w = .ok (.bool (FloatKind.f32.format.order a b == some .eq)) w := by kernel_rfl
@[go_sem] theorem neg_f (k : FloatKind) (a : Nat) (w : World) : (Op.unary .neg (.float k a)).run Tryf.prog w = .ok (.float k (Op.negFloat k a)) w := rfl

theorem wn_i64 {n : Int} (h0 : -9223372036854775808 ≤ n) (h1 : n ≤ 9223372036854775807) (e : n ≠ -9223372036854775808) : wrap64 (-n) = -n := IntWalk.wrap64_in _ ⟨by omega, by omega⟩
theorem wm_i64 : wrap64 (-(-9223372036854775808)) = -9223372036854775808 := by decide +kernel
def abs_i64 (n : Int) : Int := if n < 0 then wrap64 (-n) else n
theorem abs_i64_eq {n : Int} (h0 : -9223372036854775808 ≤ n) (h1 : n ≤ 9223372036854775807) (e : n ≠ -9223372036854775808) : abs_i64 n = n.natAbs := by
  unfold abs_i64
  rw [wn_i64 h0 h1 e]
  split <;> omega
theorem abs_i64_min : abs_i64 (-9223372036854775808) = -9223372036854775808 := by decide +kernel
theorem abs_i64_up {n : Int} (h0 : -9223372036854775808 ≤ n) (h1 : n ≤ 9223372036854775807) (h : n < wrap64 (-n)) : abs_i64 n = wrap64 (-n) := by
  by_cases e : n = -9223372036854775808
  · subst e; rw [wm_i64] at h; omega
  · rw [wn_i64 h0 h1 e] at h ⊢
    rw [abs_i64_eq h0 h1 e]; omega
theorem abs_i64_same {n : Int} (h0 : -9223372036854775808 ≤ n) (h1 : n ≤ 9223372036854775807) (h : ¬ n < wrap64 (-n)) : abs_i64 n = n := by
  by_cases e : n = -9223372036854775808
  · subst e; exact abs_i64_min
  · rw [wn_i64 h0 h1 e] at h
    rw [abs_i64_eq h0 h1 e]; omega
theorem abs_i64_even {n : Int} (h0 : -9223372036854775808 ≤ n) (h1 : n ≤ 9223372036854775807) : abs_i64 (wrap64 (-n)) = abs_i64 n := by
  by_cases e : n = -9223372036854775808
  · subst e; rw [wm_i64]
  · rw [wn_i64 h0 h1 e, abs_i64_eq (by omega) (by omega) (by omega), abs_i64_eq h0 h1 e]; omega
theorem abs_i64_twice {n : Int} (h0 : -9223372036854775808 ≤ n) (h1 : n ≤ 9223372036854775807) : abs_i64 (abs_i64 n) = abs_i64 n := by
  by_cases e : n = -9223372036854775808
  · subst e; rw [abs_i64_min, abs_i64_min]
  · rw [abs_i64_eq h0 h1 e, abs_i64_eq (by omega) (by omega) (by omega)]; omega
theorem wn_i8 {n : Int} (h0 : -128 ≤ n) (h1 : n ≤ 127) (e : n ≠ -128) : IntKind.i8.wrap (-n) = -n := IntWalk.i8_in _ (by omega)
theorem wm_i8 : IntKind.i8.wrap (-(-128)) = -128 := by decide +kernel
def abs_i8 (n : Int) : Int := if n < 0 then IntKind.i8.wrap (-n) else n
theorem abs_i8_eq {n : Int} (h0 : -128 ≤ n) (h1 : n ≤ 127) (e : n ≠ -128) : abs_i8 n = n.natAbs := by
  unfold abs_i8
  rw [wn_i8 h0 h1 e]
  split <;> omega
theorem abs_i8_min : abs_i8 (-128) = -128 := by decide +kernel
theorem abs_i8_up {n : Int} (h0 : -128 ≤ n) (h1 : n ≤ 127) (h : n < IntKind.i8.wrap (-n)) : abs_i8 n = IntKind.i8.wrap (-n) := by
  by_cases e : n = -128
  · subst e; rw [wm_i8] at h; omega
  · rw [wn_i8 h0 h1 e] at h ⊢
    rw [abs_i8_eq h0 h1 e]; omega
theorem abs_i8_same {n : Int} (h0 : -128 ≤ n) (h1 : n ≤ 127) (h : ¬ n < IntKind.i8.wrap (-n)) : abs_i8 n = n := by
  by_cases e : n = -128
  · subst e; exact abs_i8_min
  · rw [wn_i8 h0 h1 e] at h
    rw [abs_i8_eq h0 h1 e]; omega
theorem abs_i8_even {n : Int} (h0 : -128 ≤ n) (h1 : n ≤ 127) : abs_i8 (IntKind.i8.wrap (-n)) = abs_i8 n := by
  by_cases e : n = -128
  · subst e; rw [wm_i8]
  · rw [wn_i8 h0 h1 e, abs_i8_eq (by omega) (by omega) (by omega), abs_i8_eq h0 h1 e]; omega
theorem abs_i8_twice {n : Int} (h0 : -128 ≤ n) (h1 : n ≤ 127) : abs_i8 (abs_i8 n) = abs_i8 n := by
  by_cases e : n = -128
  · subst e; rw [abs_i8_min, abs_i8_min]
  · rw [abs_i8_eq h0 h1 e, abs_i8_eq (by omega) (by omega) (by omega)]; omega
theorem wn_i16 {n : Int} (h0 : -32768 ≤ n) (h1 : n ≤ 32767) (e : n ≠ -32768) : IntKind.i16.wrap (-n) = -n := IntWalk.i16_in _ (by omega)
theorem wm_i16 : IntKind.i16.wrap (-(-32768)) = -32768 := by decide +kernel
def abs_i16 (n : Int) : Int := if n < 0 then IntKind.i16.wrap (-n) else n
theorem abs_i16_eq {n : Int} (h0 : -32768 ≤ n) (h1 : n ≤ 32767) (e : n ≠ -32768) : abs_i16 n = n.natAbs := by
  unfold abs_i16
  rw [wn_i16 h0 h1 e]
  split <;> omega
theorem abs_i16_min : abs_i16 (-32768) = -32768 := by decide +kernel
theorem abs_i16_up {n : Int} (h0 : -32768 ≤ n) (h1 : n ≤ 32767) (h : n < IntKind.i16.wrap (-n)) : abs_i16 n = IntKind.i16.wrap (-n) := by
  by_cases e : n = -32768
  · subst e; rw [wm_i16] at h; omega
  · rw [wn_i16 h0 h1 e] at h ⊢
    rw [abs_i16_eq h0 h1 e]; omega
theorem abs_i16_same {n : Int} (h0 : -32768 ≤ n) (h1 : n ≤ 32767) (h : ¬ n < IntKind.i16.wrap (-n)) : abs_i16 n = n := by
  by_cases e : n = -32768
  · subst e; exact abs_i16_min
  · rw [wn_i16 h0 h1 e] at h
    rw [abs_i16_eq h0 h1 e]; omega
theorem abs_i16_even {n : Int} (h0 : -32768 ≤ n) (h1 : n ≤ 32767) : abs_i16 (IntKind.i16.wrap (-n)) = abs_i16 n := by
  by_cases e : n = -32768
  · subst e; rw [wm_i16]
  · rw [wn_i16 h0 h1 e, abs_i16_eq (by omega) (by omega) (by omega), abs_i16_eq h0 h1 e]; omega
theorem abs_i16_twice {n : Int} (h0 : -32768 ≤ n) (h1 : n ≤ 32767) : abs_i16 (abs_i16 n) = abs_i16 n := by
  by_cases e : n = -32768
  · subst e; rw [abs_i16_min, abs_i16_min]
  · rw [abs_i16_eq h0 h1 e, abs_i16_eq (by omega) (by omega) (by omega)]; omega
theorem wn_i32 {n : Int} (h0 : -2147483648 ≤ n) (h1 : n ≤ 2147483647) (e : n ≠ -2147483648) : wrap32 (-n) = -n := IntWalk.wrap32_in _ ⟨by omega, by omega⟩
theorem wm_i32 : wrap32 (-(-2147483648)) = -2147483648 := by decide +kernel
def abs_i32 (n : Int) : Int := if n < 0 then wrap32 (-n) else n
theorem abs_i32_eq {n : Int} (h0 : -2147483648 ≤ n) (h1 : n ≤ 2147483647) (e : n ≠ -2147483648) : abs_i32 n = n.natAbs := by
  unfold abs_i32
  rw [wn_i32 h0 h1 e]
  split <;> omega
theorem abs_i32_min : abs_i32 (-2147483648) = -2147483648 := by decide +kernel
theorem abs_i32_up {n : Int} (h0 : -2147483648 ≤ n) (h1 : n ≤ 2147483647) (h : n < wrap32 (-n)) : abs_i32 n = wrap32 (-n) := by
  by_cases e : n = -2147483648
  · subst e; rw [wm_i32] at h; omega
  · rw [wn_i32 h0 h1 e] at h ⊢
    rw [abs_i32_eq h0 h1 e]; omega
theorem abs_i32_same {n : Int} (h0 : -2147483648 ≤ n) (h1 : n ≤ 2147483647) (h : ¬ n < wrap32 (-n)) : abs_i32 n = n := by
  by_cases e : n = -2147483648
  · subst e; exact abs_i32_min
  · rw [wn_i32 h0 h1 e] at h
    rw [abs_i32_eq h0 h1 e]; omega
theorem abs_i32_even {n : Int} (h0 : -2147483648 ≤ n) (h1 : n ≤ 2147483647) : abs_i32 (wrap32 (-n)) = abs_i32 n := by
  by_cases e : n = -2147483648
  · subst e; rw [wm_i32]
  · rw [wn_i32 h0 h1 e, abs_i32_eq (by omega) (by omega) (by omega), abs_i32_eq h0 h1 e]; omega
theorem abs_i32_twice {n : Int} (h0 : -2147483648 ≤ n) (h1 : n ≤ 2147483647) : abs_i32 (abs_i32 n) = abs_i32 n := by
  by_cases e : n = -2147483648
  · subst e; rw [abs_i32_min, abs_i32_min]
  · rw [abs_i32_eq h0 h1 e, abs_i32_eq (by omega) (by omega) (by omega)]; omega

set_option maxHeartbeats 400000 in
theorem ab_3 (n : Int) (w : World) :
    Calls Tryf.prog 15 #[.iface 3 (.int .i64 n)] w fun e w' => e = .returned (.iface 3 (.int .i64 (abs_i64 n))) ∧ w = w' := by
  by_cases h : n < 0
  · have e := Lib.hid (show abs_i64 n = wrap64 (-n) by unfold abs_i64; rw [if_pos h])
    go_enter Tryf.func15, Tryf.ntmps15
    go_wp2
    go_ret
    rw [e.out]
    exact ⟨rfl, rfl⟩
  · have e := Lib.hid (show abs_i64 n = n by unfold abs_i64; rw [if_neg h])
    go_enter Tryf.func15, Tryf.ntmps15
    go_wp2
    go_ret
    rw [e.out]
    exact ⟨rfl, rfl⟩

set_option maxHeartbeats 400000 in
theorem ab_31 (n : Int) (w : World) :
    Calls Tryf.prog 15 #[.iface 31 (.int .i8 n)] w fun e w' => e = .returned (.iface 31 (.int .i8 (abs_i8 n))) ∧ w = w' := by
  by_cases h : n < 0
  · have e := Lib.hid (show abs_i8 n = IntKind.i8.wrap (-n) by unfold abs_i8; rw [if_pos h])
    go_enter Tryf.func15, Tryf.ntmps15
    go_wp2
    go_ret
    rw [e.out]
    exact ⟨rfl, rfl⟩
  · have e := Lib.hid (show abs_i8 n = n by unfold abs_i8; rw [if_neg h])
    go_enter Tryf.func15, Tryf.ntmps15
    go_wp2
    go_ret
    rw [e.out]
    exact ⟨rfl, rfl⟩

set_option maxHeartbeats 400000 in
theorem ab_32 (n : Int) (w : World) :
    Calls Tryf.prog 15 #[.iface 32 (.int .i16 n)] w fun e w' => e = .returned (.iface 32 (.int .i16 (abs_i16 n))) ∧ w = w' := by
  by_cases h : n < 0
  · have e := Lib.hid (show abs_i16 n = IntKind.i16.wrap (-n) by unfold abs_i16; rw [if_pos h])
    go_enter Tryf.func15, Tryf.ntmps15
    go_wp2
    go_ret
    rw [e.out]
    exact ⟨rfl, rfl⟩
  · have e := Lib.hid (show abs_i16 n = n by unfold abs_i16; rw [if_neg h])
    go_enter Tryf.func15, Tryf.ntmps15
    go_wp2
    go_ret
    rw [e.out]
    exact ⟨rfl, rfl⟩

set_option maxHeartbeats 400000 in
theorem ab_21 (n : Int) (w : World) :
    Calls Tryf.prog 15 #[.iface 21 (.int .i32 n)] w fun e w' => e = .returned (.iface 21 (.int .i32 (abs_i32 n))) ∧ w = w' := by
  by_cases h : n < 0
  · have e := Lib.hid (show abs_i32 n = wrap32 (-n) by unfold abs_i32; rw [if_pos h])
    go_enter Tryf.func15, Tryf.ntmps15
    go_wp2
    go_ret
    rw [e.out]
    exact ⟨rfl, rfl⟩
  · have e := Lib.hid (show abs_i32 n = n by unfold abs_i32; rw [if_neg h])
    go_enter Tryf.func15, Tryf.ntmps15
    go_wp2
    go_ret
    rw [e.out]
    exact ⟨rfl, rfl⟩

set_option maxHeartbeats 400000 in
theorem ab_2 (n : Int) (w : World) :
    Calls Tryf.prog 15 #[.iface 2 (.int .i64 n)] w fun e w' => e = .returned (.iface 2 (.int .i64 (abs_i64 n))) ∧ w = w' := by
  by_cases h : n < 0
  · have e := Lib.hid (show abs_i64 n = wrap64 (-n) by unfold abs_i64; rw [if_pos h])
    go_enter Tryf.func15, Tryf.ntmps15
    go_wp2
    go_ret
    rw [e.out]
    exact ⟨rfl, rfl⟩
  · have e := Lib.hid (show abs_i64 n = n by unfold abs_i64; rw [if_neg h])
    go_enter Tryf.func15, Tryf.ntmps15
    go_wp2
    go_ret
    rw [e.out]
    exact ⟨rfl, rfl⟩

set_option maxHeartbeats 400000 in
theorem ab_34 (n : Int) (w : World) :
    Calls Tryf.prog 15 #[.iface 34 (.int .u64 n)] w fun e w' => e = .returned (.iface 34 (.int .u64 n)) ∧ w = w' := by
  go_enter Tryf.func15, Tryf.ntmps15
  go_wp2
  go_ret
  exact ⟨rfl, rfl⟩

set_option maxHeartbeats 400000 in
theorem ab_5 (n : Int) (w : World) :
    Calls Tryf.prog 15 #[.iface 5 (.int .u8 n)] w fun e w' => e = .returned (.iface 5 (.int .u8 n)) ∧ w = w' := by
  go_enter Tryf.func15, Tryf.ntmps15
  go_wp2
  go_ret
  exact ⟨rfl, rfl⟩

set_option maxHeartbeats 400000 in
theorem ab_35 (n : Int) (w : World) :
    Calls Tryf.prog 15 #[.iface 35 (.int .u16 n)] w fun e w' => e = .returned (.iface 35 (.int .u16 n)) ∧ w = w' := by
  go_enter Tryf.func15, Tryf.ntmps15
  go_wp2
  go_ret
  exact ⟨rfl, rfl⟩

set_option maxHeartbeats 400000 in
theorem ab_33 (n : Int) (w : World) :
    Calls Tryf.prog 15 #[.iface 33 (.int .u32 n)] w fun e w' => e = .returned (.iface 33 (.int .u32 n)) ∧ w = w' := by
  go_enter Tryf.func15, Tryf.ntmps15
  go_wp2
  go_ret
  exact ⟨rfl, rfl⟩

set_option maxHeartbeats 400000 in
theorem ab_22 (n : Int) (w : World) :
    Calls Tryf.prog 15 #[.iface 22 (.int .u64 n)] w fun e w' => e = .returned (.iface 22 (.int .u64 n)) ∧ w = w' := by
  go_enter Tryf.func15, Tryf.ntmps15
  go_wp2
  go_ret
  exact ⟨rfl, rfl⟩

set_option maxHeartbeats 400000 in
theorem ab_23_neg (x : Nat) (w : World) (h : FloatKind.f64.format.order x 0 = some .lt) :
    Calls Tryf.prog 15 #[.iface 23 (.float .f64 x)] w fun e w' => e = .returned (.iface 23 (.float .f64 (Op.negFloat .f64 x))) ∧ w = w' := by
  go_enter Tryf.func15, Tryf.ntmps15
  go_wp2
  go_ret
  exact ⟨rfl, rfl⟩

set_option maxHeartbeats 400000 in
theorem ab_23_pos (x : Nat) (w : World) (h : (FloatKind.f64.format.order x 0 == some .lt) = false) :
    Calls Tryf.prog 15 #[.iface 23 (.float .f64 x)] w fun e w' => e = .returned (.iface 23 (.float .f64 x)) ∧ w = w' := by
  go_enter Tryf.func15, Tryf.ntmps15
  go_wp2
  go_ret
  exact ⟨rfl, rfl⟩

set_option maxHeartbeats 400000 in
theorem ab_28_neg (x : Nat) (w : World) (h : FloatKind.f32.format.order x 0 = some .lt) :
    Calls Tryf.prog 15 #[.iface 28 (.float .f32 x)] w fun e w' => e = .returned (.iface 28 (.float .f32 (Op.negFloat .f32 x))) ∧ w = w' := by
  go_enter Tryf.func15, Tryf.ntmps15
  go_wp2
  go_ret
  exact ⟨rfl, rfl⟩

set_option maxHeartbeats 400000 in
theorem ab_28_pos (x : Nat) (w : World) (h : (FloatKind.f32.format.order x 0 == some .lt) = false) :
    Calls Tryf.prog 15 #[.iface 28 (.float .f32 x)] w fun e w' => e = .returned (.iface 28 (.float .f32 x)) ∧ w = w' := by
  go_enter Tryf.func15, Tryf.ntmps15
  go_wp2
  go_ret
  exact ⟨rfl, rfl⟩

/-! ### the sign turned -/
theorem neg_rung (k : FloatKind) (x : Nat) : Fl.rung k.format (Op.negFloat k x) = Fl.rung k.format x := by
  show (x ^^^ 2 ^ (k.format.exponentBits + k.format.fractionBits)) % 2 ^ (k.format.exponentBits + k.format.fractionBits) = x % 2 ^ (k.format.exponentBits + k.format.fractionBits)
  rw [Nat.xor_mod_two_pow, Nat.mod_self, Nat.xor_zero]
theorem neg_neg (k : FloatKind) (x : Nat) : Fl.negB k.format (Op.negFloat k x) = !Fl.negB k.format x := by
  show ((x ^^^ 2 ^ (k.format.exponentBits + k.format.fractionBits)) / 2 ^ (k.format.exponentBits + k.format.fractionBits) % 2 == 1) = !(x / 2 ^ (k.format.exponentBits + k.format.fractionBits) % 2 == 1)
  rw [Nat.xor_div_two_pow, Nat.div_self (Nat.two_pow_pos _)]
  generalize x / 2 ^ (k.format.exponentBits + k.format.fractionBits) = m
  have h : (m ^^^ 1) % 2 = (m % 2) ^^^ 1 := Nat.xor_mod_two_pow (n := 1)
  rw [h]
  rcases Nat.mod_two_eq_zero_or_one m with e | e <;> rw [e] <;> rfl
theorem neg_num (k : FloatKind) {x : Nat} (h : Fl.isNum k.format x) : Fl.isNum k.format (Op.negFloat k x) := by
  unfold Fl.isNum at *; rw [neg_rung]; exact h
theorem neg_sv (k : FloatKind) (x : Nat) : Fl.sv k.format (Op.negFloat k x) = -Fl.sv k.format x := by
  unfold Fl.sv; rw [neg_rung, neg_neg, Fl.sg_not]
theorem zero_num (k : FloatKind) : Fl.isNum k.format 0 := by
  cases k
  · show Fl.rung FloatKind.f32.format 0 ≤ FloatKind.f32.format.infRung; decide +kernel
  · show Fl.rung FloatKind.f64.format 0 ≤ FloatKind.f64.format.infRung; decide +kernel
theorem zero_sv (k : FloatKind) : Fl.sv k.format 0 = 0 := by cases k <;> decide +kernel
end Go.Proofs.YtlfpmjjdocknhaaFmt
