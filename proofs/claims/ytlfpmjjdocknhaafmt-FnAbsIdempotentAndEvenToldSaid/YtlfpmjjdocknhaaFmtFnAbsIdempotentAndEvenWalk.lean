/- For every int64 v, float64 f and float32 g the law FnAbsIdempotentAndEven returns true and writes nothing. Conditions: none. -/
import Derived.Test.YtlfpmjjdocknhaaFmtAbs
import Derived.Test.YtlfpmjjdocknhaaFmtAgree
import Derived.OpenShut
namespace Go.Proofs.YtlfpmjjdocknhaaFmt.fnAbsIdempotentAndEven
open Go.RowKit Go.Proofs.YtlfpmjjdocknhaaFmt

/-- what Abs makes of a float -/
def absF (k : FloatKind) (x : Nat) : Nat := if (k.format.order x 0 == some .lt) = true then Op.negFloat k x else x

theorem af_23 (x : Nat) (w : World) :
    Calls Tryf.prog 15 #[.iface 23 (.float .f64 x)] w fun e w' => e = .returned (.iface 23 (.float .f64 (absF .f64 x))) ∧ w = w' := by
  by_cases h : (FloatKind.f64.format.order x 0 == some .lt) = true
  · have e : absF .f64 x = Op.negFloat .f64 x := by unfold absF; rw [if_pos h]
    rw [e]
    exact ab_23_neg x w (by simpa using h)
  · have e : absF .f64 x = x := by unfold absF; rw [if_neg h]
    rw [e]
    exact ab_23_pos x w (by simpa using h)

theorem af_28 (x : Nat) (w : World) :
    Calls Tryf.prog 15 #[.iface 28 (.float .f32 x)] w fun e w' => e = .returned (.iface 28 (.float .f32 (absF .f32 x))) ∧ w = w' := by
  by_cases h : (FloatKind.f32.format.order x 0 == some .lt) = true
  · have e : absF .f32 x = Op.negFloat .f32 x := by unfold absF; rw [if_pos h]
    rw [e]
    exact ab_28_neg x w (by simpa using h)
  · have e : absF .f32 x = x := by unfold absF; rw [if_neg h]
    rw [e]
    exact ab_28_pos x w (by simpa using h)

theorem absF_num (k : FloatKind) {x : Nat} (h : Fl.isNum k.format x) : Fl.isNum k.format (absF k x) := by
  unfold absF; split
  · exact neg_num k h
  · exact h
theorem absF_sv (k : FloatKind) {x : Nat} (h : Fl.isNum k.format x) : Fl.sv k.format (absF k x) = (Fl.sv k.format x).natAbs := by
  unfold absF
  rw [Fl.ord k h (zero_num k), zero_sv]
  by_cases hs : Fl.sv k.format x < 0
  · rw [Int.compare_eq_lt.2 hs, if_pos (by rfl), neg_sv]; omega
  · rw [if_neg]
    · omega
    · intro hc
      have : compare (Fl.sv k.format x) 0 = .lt := by simpa using hc
      exact hs (Int.compare_eq_lt.1 this)
theorem absF_even (k : FloatKind) {x : Nat} (h : Fl.isNum k.format x) : k.format.order (absF k (Op.negFloat k x)) (absF k x) = some .eq :=
  Fl.ord_eq k (absF_num k (neg_num k h)) (absF_num k h) (by rw [absF_sv k (neg_num k h), absF_sv k h, neg_sv, Int.natAbs_neg])
theorem absF_twice (k : FloatKind) {x : Nat} (h : Fl.isNum k.format x) : k.format.order (absF k (absF k x)) (absF k x) = some .eq :=
  Fl.ord_eq k (absF_num k (absF_num k h)) (absF_num k h) (by rw [absF_sv k (absF_num k h), absF_sv k h]; omega)

theorem bounds_i8w (v : Int) : -128 ≤ IntKind.i8.wrap v ∧ IntKind.i8.wrap v ≤ 127 := by
  have := wf_wrap .i8 v
  simpa [Lit.wf, IntKind.min, IntKind.max, IntKind.signed, IntKind.bits] using this
theorem bounds_i16w (v : Int) : -32768 ≤ IntKind.i16.wrap v ∧ IntKind.i16.wrap v ≤ 32767 := by
  have := wf_wrap .i16 v
  simpa [Lit.wf, IntKind.min, IntKind.max, IntKind.signed, IntKind.bits] using this
theorem bounds_i32w (v : Int) : -2147483648 ≤ wrap32 v ∧ wrap32 v ≤ 2147483647 := by
  unfold wrap32; omega

set_option maxRecDepth 100000 in
set_option maxHeartbeats 2000000 in
theorem walk0 (v : Int) (x g : Nat) (w : World)
    (e64 : abs_i64 (wrap64 (-v)) = abs_i64 v) (t64 : abs_i64 (abs_i64 v) = abs_i64 v)
    (e8 : abs_i8 (IntKind.i8.wrap (-IntKind.i8.wrap v)) = abs_i8 (IntKind.i8.wrap v)) (t8 : abs_i8 (abs_i8 (IntKind.i8.wrap v)) = abs_i8 (IntKind.i8.wrap v))
    (e16 : abs_i16 (IntKind.i16.wrap (-IntKind.i16.wrap v)) = abs_i16 (IntKind.i16.wrap v)) (t16 : abs_i16 (abs_i16 (IntKind.i16.wrap v)) = abs_i16 (IntKind.i16.wrap v))
    (e32 : abs_i32 (wrap32 (-wrap32 v)) = abs_i32 (wrap32 v)) (t32 : abs_i32 (abs_i32 (wrap32 v)) = abs_i32 (wrap32 v))
    (hx : FloatKind.f64.format.order x x = none ∨ (FloatKind.f64.format.order x x = some .eq ∧ FloatKind.f64.format.order (absF .f64 (Op.negFloat .f64 x)) (absF .f64 x) = some .eq ∧ FloatKind.f64.format.order (absF .f64 (absF .f64 x)) (absF .f64 x) = some .eq))
    (hg : FloatKind.f32.format.order g g = none ∨ (FloatKind.f32.format.order g g = some .eq ∧ FloatKind.f32.format.order (absF .f32 (Op.negFloat .f32 g)) (absF .f32 g) = some .eq ∧ FloatKind.f32.format.order (absF .f32 (absF .f32 g)) (absF .f32 g) = some .eq)) :
    Calls Tryf.prog 10 #[.int .i64 v, .float .f64 x, .float .f32 g] w fun e w' => e = .returned (.bool true) ∧ Below w.heap.size w w' := by
  rcases hx with hx | ⟨hx, hx1, hx2⟩ <;> rcases hg with hg | ⟨hg, hg1, hg2⟩
  all_goals
    go_enter Tryf.func10, Tryf.ntmps10
    go_wp2_with (first
      | (go_at_call 15; first
          | ((with_reducible refine (ab_3 _ _).mono ?_); rintro e w1 ⟨rfl, rfl⟩)
          | ((with_reducible refine (ab_31 _ _).mono ?_); rintro e w1 ⟨rfl, rfl⟩)
          | ((with_reducible refine (ab_32 _ _).mono ?_); rintro e w1 ⟨rfl, rfl⟩)
          | ((with_reducible refine (ab_21 _ _).mono ?_); rintro e w1 ⟨rfl, rfl⟩)
          | ((with_reducible refine (ab_2 _ _).mono ?_); rintro e w1 ⟨rfl, rfl⟩)
          | ((with_reducible refine (af_23 _ _).mono ?_); rintro e w1 ⟨rfl, rfl⟩)
          | ((with_reducible refine (af_28 _ _).mono ?_); rintro e w1 ⟨rfl, rfl⟩)))
    go_ret
    exact ⟨rfl, Below.refl _ _⟩

theorem dich (k : FloatKind) (x : Nat) : k.format.order x x = none ∨ (k.format.order x x = some .eq ∧ k.format.order (absF k (Op.negFloat k x)) (absF k x) = some .eq ∧ k.format.order (absF k (absF k x)) (absF k x) = some .eq) := by
  by_cases h : Fl.isNum k.format x
  · exact .inr ⟨Fl.ord_eq k h h rfl, absF_even k h, absF_twice k h⟩
  · exact .inl (Fl.order_nan_left k.format (Fl.hi k) h)

theorem walk (a0 : Int) (a1 a2 : Nat) (w : World) (w0 : (Lit.int .i64 a0).wf = true) (_w1 : (Lit.float .f64 a1).wf = true) (_w2 : (Lit.float .f32 a2).wf = true) :
    Calls Tryf.prog 10 #[.int .i64 a0, .float .f64 a1, .float .f32 a2] w fun e w' => e = .returned (.bool true) ∧ Below w.heap.size w w' := by
  obtain ⟨x0, x1⟩ := bounds_i64 w0
  obtain ⟨p0, p1⟩ := bounds_i8w a0
  obtain ⟨q0, q1⟩ := bounds_i16w a0
  obtain ⟨r0, r1⟩ := bounds_i32w a0
  exact walk0 a0 a1 a2 w (abs_i64_even x0 x1) (abs_i64_twice x0 x1) (abs_i8_even p0 p1) (abs_i8_twice p0 p1) (abs_i16_even q0 q1) (abs_i16_twice q0 q1) (abs_i32_even r0 r1) (abs_i32_twice r0 r1) (dich .f64 a1) (dich .f32 a2)
end Go.Proofs.YtlfpmjjdocknhaaFmt.fnAbsIdempotentAndEven
