/- What truncOK answers where its integer is its float's whole part: true; nothing is written. No statement is proved here. -/
import Derived.Test.YtlfpmjjdocknhaaFmtConvs
import Derived.Test.YtlfpmjjdocknhaaFmtFld
namespace Go.Proofs.YtlfpmjjdocknhaaFmt
open Go.RowKit

/-- one, in least units of a float64 -/
def one64 : Int := ((2 ^ Fl.ue .f64 : Nat) : Int)
theorem one64_pos : 0 < one64 := by
  have : 0 < 2 ^ Fl.ue .f64 := Nat.two_pow_pos _
  unfold one64; omega
abbrev D : Ieee.Format := FloatKind.f64.format

theorem k52_num : Fl.isNum D 4841369599423283200 := by show Fl.rung D 4841369599423283200 ≤ D.infRung; decide +kernel
theorem k52_sv : Fl.sv D 4841369599423283200 = 4503599627370496 * one64 := by decide +kernel
theorem m52_num : Fl.isNum D 14064741636278059008 := by show Fl.rung D 14064741636278059008 ≤ D.infRung; decide +kernel
theorem m52_sv : Fl.sv D 14064741636278059008 = -(4503599627370496 * one64) := by decide +kernel
theorem z_num : Fl.isNum D 0 := by show Fl.rung D 0 ≤ D.infRung; decide +kernel
theorem z_sv : Fl.sv D 0 = 0 := by decide +kernel
theorem u_fin : Fl.isFin D 4607182418800017408 := by show Fl.rung D 4607182418800017408 < D.infRung; decide +kernel
theorem u_sv : Fl.sv D 4607182418800017408 = one64 := by decide +kernel
theorem bin64 : D.binade = 4503599627370496 := by decide +kernel

theorem sv_abs (f : Ieee.Format) (x : Nat) : Fl.V f (Fl.rung f x) = (Fl.sv f x).natAbs := by
  unfold Fl.sv Fl.sg; split <;> omega

theorem geq_cases {x y : Nat} (hx : Fl.isNum D x) (hy : Fl.isNum D y) (h : Fl.sv D y ≤ Fl.sv D x) : D.order x y = some .gt ∨ D.order x y = some .eq := by
  by_cases e : Fl.sv D x = Fl.sv D y
  · exact .inr (Fl.ord_eq .f64 hx hy e)
  · exact .inl (Fl.ord_gt .f64 hx hy (by show Fl.sv D y < Fl.sv D x; omega))
theorem leq_cases {x y : Nat} (hx : Fl.isNum D x) (hy : Fl.isNum D y) (h : Fl.sv D x ≤ Fl.sv D y) : D.order x y = some .lt ∨ D.order x y = some .eq := by
  by_cases e : Fl.sv D x = Fl.sv D y
  · exact .inr (Fl.ord_eq .f64 hx hy e)
  · exact .inl (Fl.ord_lt .f64 hx hy (by show Fl.sv D x < Fl.sv D y; omega))

theorem whole (x : Nat) (hf : Fl.isFin D x) (h : 4503599627370496 * one64 ≤ Fl.sv D x ∨ Fl.sv D x ≤ -(4503599627370496 * one64)) :
    D.order (floatOfInt .f64 (Fl.tr .f64 x)) x = some .eq := by
  refine Fl.ord_eq .f64 (Fl.ofInt_num _ _) hf.num (Fl.tr_whole .f64 hf.num ?_)
  have hb : ((FloatKind.f64.format.binade * 2 ^ Fl.ue .f64 : Nat) : Int) = 4503599627370496 * one64 := by
    rw [Int.natCast_mul, show FloatKind.f64.format.binade = 4503599627370496 from bin64]
    unfold one64
    generalize 2 ^ Fl.ue .f64 = z
    rfl
  have hv := sv_abs FloatKind.f64.format x
  have hp := one64_pos
  unfold D at h
  generalize FloatKind.f64.format.binade * 2 ^ Fl.ue .f64 = z at *
  generalize 4503599627370496 * one64 = y at *
  omega

theorem small_abs (x : Nat) (h1 : Fl.sv D x < 4503599627370496 * one64) (h2 : -(4503599627370496 * one64) < Fl.sv D x) : (Fl.tr .f64 x).natAbs < 4503599627370496 := by
  have hp := one64_pos
  by_cases hs : 0 ≤ Fl.sv D x
  · obtain ⟨a, b, _⟩ := Fl.tr_nonneg .f64 x hs
    change Fl.tr .f64 x * one64 ≤ _ at b
    have : Fl.tr .f64 x * one64 < 4503599627370496 * one64 := Int.lt_of_le_of_lt b h1
    have := Int.lt_of_mul_lt_mul_right this (by omega)
    omega
  · obtain ⟨a, b, _⟩ := Fl.tr_nonpos .f64 x (by show Fl.sv D x ≤ 0; omega)
    change _ ≤ Fl.tr .f64 x * one64 at b
    have : -4503599627370496 * one64 < Fl.tr .f64 x * one64 := by rw [Int.neg_mul]; exact Int.lt_of_lt_of_le h2 b
    have := Int.lt_of_mul_lt_mul_right this (by omega)
    omega

set_option maxHeartbeats 1000000 in
theorem tok_whole (x : Nat) (n : Int) (w : World) (hn : D.order (floatOfInt .f64 n) x = some .eq)
    (h : (D.order x 4841369599423283200 = some .gt ∨ D.order x 4841369599423283200 = some .eq) ∨ (D.order x 4841369599423283200 = some .lt ∧ (D.order x 14064741636278059008 = some .lt ∨ D.order x 14064741636278059008 = some .eq))) :
    Calls Tryf.prog 13 #[.float .f64 x, .int .i64 n] w fun e w' => e = .returned (.bool true) ∧ w = w' := by
  rcases h with (h | h) | ⟨h0, h | h⟩
  all_goals
    go_enter Tryf.func13, Tryf.ntmps13
    go_wp2
    go_ret
    exact ⟨rfl, rfl⟩

set_option maxHeartbeats 1000000 in
theorem tok_up (x r : Nat) (n : Int) (w : World) (h0 : D.order x 4841369599423283200 = some .lt) (h1 : D.order x 14064741636278059008 = some .gt) (h2 : D.order x 0 = some .gt ∨ D.order x 0 = some .eq)
    (hn : 0 ≤ n) (h3 : D.order (floatOfInt .f64 n) x = some .lt ∨ D.order (floatOfInt .f64 n) x = some .eq) (hr : floatBits .add .f64 (floatOfInt .f64 n) 4607182418800017408 = some r) (h4 : D.order x r = some .lt) :
    Calls Tryf.prog 13 #[.float .f64 x, .int .i64 n] w fun e w' => e = .returned (.bool true) ∧ w = w' := by
  have hc := fun w => run_float_arith (P := Tryf.prog) w .add 23 .f64 _ _ r hr
  clear hr
  rcases h2 with h2 | h2 <;> rcases h3 with h3 | h3
  all_goals
    go_enter Tryf.func13, Tryf.ntmps13
    go_wp2
    go_ret
    exact ⟨rfl, rfl⟩

set_option maxHeartbeats 1000000 in
theorem tok_down (x r : Nat) (n : Int) (w : World) (h0 : D.order x 4841369599423283200 = some .lt) (h1 : D.order x 14064741636278059008 = some .gt) (h2 : D.order x 0 = some .lt)
    (hn : n ≤ 0) (h3 : D.order (floatOfInt .f64 n) x = some .gt ∨ D.order (floatOfInt .f64 n) x = some .eq) (hr : floatBits .sub .f64 (floatOfInt .f64 n) 4607182418800017408 = some r) (h4 : D.order r x = some .lt) :
    Calls Tryf.prog 13 #[.float .f64 x, .int .i64 n] w fun e w' => e = .returned (.bool true) ∧ w = w' := by
  have hc := fun w => run_float_arith (P := Tryf.prog) w .sub 23 .f64 _ _ r hr
  clear hr
  rcases h3 with h3 | h3
  all_goals
    go_enter Tryf.func13, Tryf.ntmps13
    go_wp2
    go_ret
    exact ⟨rfl, rfl⟩

/-- truncOK of a finite float64 and its whole part is true. -/
theorem tok (x : Nat) (w : World) (hf : Fl.isFin D x) :
    Calls Tryf.prog 13 #[.float .f64 x, .int .i64 (Fl.tr .f64 x)] w fun e w' => e = .returned (.bool true) ∧ w = w' := by
  have hp := one64_pos
  by_cases h1 : 4503599627370496 * one64 ≤ Fl.sv D x
  · exact tok_whole x _ w (whole x hf (.inl h1)) (.inl (geq_cases hf.num k52_num (by rw [k52_sv]; exact h1)))
  · have l1 : D.order x 4841369599423283200 = some .lt := Fl.ord_lt .f64 hf.num k52_num (by rw [show Fl.sv FloatKind.f64.format 4841369599423283200 = _ from k52_sv]; exact Int.lt_of_not_ge h1)
    by_cases h2 : Fl.sv D x ≤ -(4503599627370496 * one64)
    · exact tok_whole x _ w (whole x hf (.inr h2)) (.inr ⟨l1, leq_cases hf.num m52_num (by rw [m52_sv]; exact h2)⟩)
    · have l2 : D.order x 14064741636278059008 = some .gt := Fl.ord_gt .f64 hf.num m52_num (by rw [show Fl.sv FloatKind.f64.format 14064741636278059008 = _ from m52_sv]; exact Int.lt_of_not_ge h2)
      have ha := small_abs x (Int.lt_of_not_ge h1) (Int.lt_of_not_ge h2)
      have hb : D.binade = 4503599627370496 := bin64
      obtain ⟨es, ef⟩ := Fl.ofInt_exact .f64 (Fl.tr .f64 x) (by show _ ≤ 2 * D.binade; omega)
      change Fl.sv D _ = Fl.tr .f64 x * one64 at es
      by_cases hs : 0 ≤ Fl.sv D x
      · obtain ⟨t0, t1, t2⟩ := Fl.tr_nonneg .f64 x hs
        change Fl.tr .f64 x * one64 ≤ _ at t1
        change _ < (Fl.tr .f64 x + 1) * one64 at t2
        obtain ⟨r, hr, rf, rs⟩ := Fl.add_exact .f64 ef u_fin (Fl.tr .f64 x + 1) (by show _ ≤ 2 * D.binade; omega) (by
          show Fl.sv D _ + Fl.sv D _ = (Fl.tr .f64 x + 1) * one64
          rw [es, u_sv, Int.add_mul, Int.one_mul])
        change Fl.sv D r = (Fl.tr .f64 x + 1) * one64 at rs
        exact tok_up x r _ w l1 l2 (geq_cases hf.num z_num (by rw [z_sv]; exact hs)) t0 (leq_cases (Fl.ofInt_num _ _) hf.num (by rw [es]; exact t1)) hr (Fl.ord_lt .f64 hf.num rf.num (by rw [show Fl.sv FloatKind.f64.format r = _ from rs]; exact t2))
      · obtain ⟨t0, t1, t2⟩ := Fl.tr_nonpos .f64 x (by show Fl.sv D x ≤ 0; omega)
        change _ ≤ Fl.tr .f64 x * one64 at t1
        change (Fl.tr .f64 x - 1) * one64 < _ at t2
        obtain ⟨r, hr, rf, rs⟩ := Fl.sub_exact .f64 ef u_fin (Fl.tr .f64 x - 1) (by show _ ≤ 2 * D.binade; omega) (by
          show Fl.sv D _ - Fl.sv D _ = (Fl.tr .f64 x - 1) * one64
          rw [es, u_sv, Int.sub_mul, Int.one_mul])
        change Fl.sv D r = (Fl.tr .f64 x - 1) * one64 at rs
        exact tok_down x r _ w l1 l2 (Fl.ord_lt .f64 hf.num z_num (by rw [show Fl.sv FloatKind.f64.format 0 = _ from z_sv]; exact Int.lt_of_not_ge hs)) t0 (geq_cases (Fl.ofInt_num _ _) hf.num (by rw [es]; exact t1)) hr (Fl.ord_lt .f64 rf.num hf.num (by rw [show Fl.sv FloatKind.f64.format r = _ from rs]; exact t2))
end Go.Proofs.YtlfpmjjdocknhaaFmt
