/- For every float64 f the law FnToIntTruncatesTowardZero returns true and writes nothing. Conditions: none. -/
import Derived.Test.YtlfpmjjdocknhaaFmtTrunc
import Derived.Lib.Hide
namespace Go.Proofs.YtlfpmjjdocknhaaFmt.fnToIntTruncatesTowardZero
open Go.RowKit Go.Proofs.YtlfpmjjdocknhaaFmt

theorem k63_num : Fl.isNum D 4890909195324358656 := by show Fl.rung D 4890909195324358656 ≤ D.infRung; decide +kernel
theorem k63_sv : Fl.sv D 4890909195324358656 = 9223372036854775808 * one64 := by decide +kernel
theorem m63_num : Fl.isNum D 14114281232179134464 := by show Fl.rung D 14114281232179134464 ≤ D.infRung; decide +kernel
theorem m63_sv : Fl.sv D 14114281232179134464 = -(9223372036854775808 * one64) := by decide +kernel
theorem inf_big : 9223372036854775808 * one64 < (Fl.V D D.infRung : Int) := by decide +kernel
theorem pow64 : 18446744073709551616 * one64 = ((2 ^ (64 + Fl.ue .f64) : Nat) : Int) := by decide +kernel
theorem neg63 (w : World) : (Op.unary .neg (.float .f64 4890909195324358656)).run Tryf.prog w = .ok (.float .f64 14114281232179134464) w := by kernel_rfl

set_option maxHeartbeats 400000 in
theorem out_nan (x : Nat) (w : World) (h : D.order x x = none) :
    Calls Tryf.prog 5 #[.float .f64 x] w fun e w' => e = .returned (.bool true) ∧ Below w.heap.size w w' := by
  have hng := neg63
  go_enter Tryf.func5, Tryf.ntmps5
  go_wp2
  go_ret
  exact ⟨rfl, Below.refl _ _⟩

set_option maxHeartbeats 400000 in
theorem out_up (x : Nat) (w : World) (h : D.order x x = some .eq) (h1 : D.order x 4890909195324358656 = some .gt ∨ D.order x 4890909195324358656 = some .eq) :
    Calls Tryf.prog 5 #[.float .f64 x] w fun e w' => e = .returned (.bool true) ∧ Below w.heap.size w w' := by
  have hng := neg63
  rcases h1 with h1 | h1
  all_goals
    go_enter Tryf.func5, Tryf.ntmps5
    go_wp2
    go_ret
    exact ⟨rfl, Below.refl _ _⟩

set_option maxHeartbeats 400000 in
theorem out_down (x : Nat) (w : World) (h : D.order x x = some .eq) (h1 : D.order x 4890909195324358656 = some .lt) (h2 : D.order x 14114281232179134464 = some .lt) :
    Calls Tryf.prog 5 #[.float .f64 x] w fun e w' => e = .returned (.bool true) ∧ Below w.heap.size w w' := by
  have hng := neg63
  go_enter Tryf.func5, Tryf.ntmps5
  go_wp2
  go_ret
  exact ⟨rfl, Below.refl _ _⟩

set_option maxHeartbeats 1000000 in
theorem inside (x g d : Nat) (w : World) (h : D.order x x = some .eq) (h1 : D.order x 4890909195324358656 = some .lt) (h2 : D.order x 14114281232179134464 = some .gt ∨ D.order x 14114281232179134464 = some .eq)
    (hf : Fl.isFin D x) (hi : floatToIntVal .f64 x .i64 = some (Fl.tr .f64 x)) (hg : floatToFloatBits .f64 x .f32 = some g) (hd : floatToFloatBits .f32 g .f64 = some d)
    (hc : (D.order d 4890909195324358656 = some .gt ∨ D.order d 4890909195324358656 = some .eq) ∨ (D.order d 4890909195324358656 = some .lt ∧ D.order d 14114281232179134464 = some .lt) ∨
      (D.order d 4890909195324358656 = some .lt ∧ (D.order d 14114281232179134464 = some .gt ∨ D.order d 14114281232179134464 = some .eq) ∧ Fl.isFin D d ∧ floatToIntVal .f64 d .i64 = some (Fl.tr .f64 d) ∧ floatToIntVal .f32 g .i64 = some (Fl.tr .f64 d))) :
    Calls Tryf.prog 5 #[.float .f64 x] w fun e w' => e = .returned (.bool true) ∧ Below w.heap.size w w' := by
  have hng := neg63
  have hcg := fun w => run_convert_float_float (P := Tryf.prog) w 23 28 .f64 .f32 x g (by kernel_rfl) Tryf.underlying28 hg
  have hcd := fun w => run_convert_float_float (P := Tryf.prog) w 28 23 .f32 .f64 g d (by kernel_rfl) Tryf.underlying23 hd
  clear hg hd
  have HI := Lib.hid hi
  have HF := Lib.hid hf
  clear hi hf
  rcases hc with (c | c) | ⟨c1, c⟩ | ⟨c1, c, df, di, gi⟩
  · rcases h2 with h2 | h2
    all_goals
      go_enter Tryf.func5, Tryf.ntmps5
      go_wp2_with fail
      refine (int_23 x _ _ HI.out).mono ?_
      rintro e w1 ⟨rfl, rfl⟩
      go_wp2_with fail
      refine (tok x _ HF.out).mono ?_
      rintro e w1 ⟨rfl, rfl⟩
      go_wp2_with fail
      refine (i64_23 x _ _ HI.out).mono ?_
      rintro e w1 ⟨rfl, rfl⟩
      go_wp2_with fail
      go_ret
      exact ⟨rfl, Below.refl _ _⟩
  · rcases h2 with h2 | h2
    all_goals
      go_enter Tryf.func5, Tryf.ntmps5
      go_wp2_with fail
      refine (int_23 x _ _ HI.out).mono ?_
      rintro e w1 ⟨rfl, rfl⟩
      go_wp2_with fail
      refine (tok x _ HF.out).mono ?_
      rintro e w1 ⟨rfl, rfl⟩
      go_wp2_with fail
      refine (i64_23 x _ _ HI.out).mono ?_
      rintro e w1 ⟨rfl, rfl⟩
      go_wp2_with fail
      go_ret
      exact ⟨rfl, Below.refl _ _⟩
  · rcases h2 with h2 | h2
    all_goals
      go_enter Tryf.func5, Tryf.ntmps5
      go_wp2_with fail
      refine (int_23 x _ _ HI.out).mono ?_
      rintro e w1 ⟨rfl, rfl⟩
      go_wp2_with fail
      refine (tok x _ HF.out).mono ?_
      rintro e w1 ⟨rfl, rfl⟩
      go_wp2_with fail
      refine (i64_23 x _ _ HI.out).mono ?_
      rintro e w1 ⟨rfl, rfl⟩
      go_wp2_with fail
      go_ret
      exact ⟨rfl, Below.refl _ _⟩
  · have DF := Lib.hid df
    have DI := Lib.hid di
    have GI := Lib.hid gi
    clear df di gi
    rcases h2 with h2 | h2 <;> rcases c with c | c
    all_goals
      go_enter Tryf.func5, Tryf.ntmps5
      go_wp2_with fail
      refine (int_23 x _ _ HI.out).mono ?_
      rintro e w1 ⟨rfl, rfl⟩
      go_wp2_with fail
      refine (tok x _ HF.out).mono ?_
      rintro e w1 ⟨rfl, rfl⟩
      go_wp2_with fail
      refine (i64_23 x _ _ HI.out).mono ?_
      rintro e w1 ⟨rfl, rfl⟩
      go_wp2_with fail
      refine (int_28 g _ _ GI.out).mono ?_
      rintro e w1 ⟨rfl, rfl⟩
      go_wp2_with fail
      refine (tok d _ DF.out).mono ?_
      rintro e w1 ⟨rfl, rfl⟩
      go_wp2_with fail
      refine (int_23 d _ _ DI.out).mono ?_
      rintro e w1 ⟨rfl, rfl⟩
      go_wp2_with fail
      go_ret
      exact ⟨rfl, Below.refl _ _⟩

theorem fin_of {x : Nat} (hn : Fl.isNum D x) (h1 : Fl.sv D x < 9223372036854775808 * one64) (h2 : -(9223372036854775808 * one64) ≤ Fl.sv D x) : Fl.isFin D x := by
  have hv := sv_abs D x
  have hb := inf_big
  have hp := one64_pos
  unfold Fl.isNum at hn
  unfold Fl.isFin
  by_cases e : Fl.rung D x = D.infRung
  · rw [e] at hv
    generalize 9223372036854775808 * one64 = y at *
    omega
  · omega

theorem i_of {x : Nat} (hf : Fl.isFin D x) (h1 : Fl.sv D x < 9223372036854775808 * one64) (h2 : -(9223372036854775808 * one64) ≤ Fl.sv D x) : floatToIntVal .f64 x .i64 = some (Fl.tr .f64 x) :=
  Fl.floatToInt_tr .f64 hf h2 h1

/-- the bounds of a float32, in its own units -/
theorem i32_of {g d : Nat} (hg : Fl.isFin FloatKind.f32.format g) (hs : Fl.sv FloatKind.f64.format d = Fl.sv FloatKind.f32.format g * (Fl.P925 : Int)) (hn : Fl.negB FloatKind.f64.format d = Fl.negB FloatKind.f32.format g)
    (h1 : Fl.sv D d < 9223372036854775808 * one64) (h2 : -(9223372036854775808 * one64) ≤ Fl.sv D d) : floatToIntVal .f32 g .i64 = some (Fl.tr .f64 d) := by
  have hp : (0 : Int) < (Fl.P925 : Int) := by have := Fl.P925_pos; omega
  have he : one64 = ((2 ^ Fl.ue .f32 : Nat) : Int) * (Fl.P925 : Int) := by
    have : 2 ^ Fl.ue .f64 = 2 ^ Fl.ue .f32 * 2 ^ Fl.up := by
      rw [← Nat.pow_add]
      exact congrArg (fun z => 2 ^ z) (by decide : Fl.ue .f64 = Fl.ue .f32 + Fl.up)
    unfold one64
    rw [this, Int.natCast_mul]
    rfl
  rw [← Fl.tr_widen g d hs hn]
  unfold D at h1 h2
  refine Fl.floatToInt_tr .f32 hg ?_ ?_
  · rw [hs, he, ← Int.mul_assoc, ← Int.neg_mul] at h2
    exact Int.le_of_mul_le_mul_right h2 hp
  · rw [hs, he, ← Int.mul_assoc] at h1
    exact Int.lt_of_mul_lt_mul_right h1 (by omega)

theorem walk (a0 : Nat) (w : World) (_w0 : (Lit.float .f64 a0).wf = true) :
    Calls Tryf.prog 5 #[.float .f64 a0] w fun e w' => e = .returned (.bool true) ∧ Below w.heap.size w w' := by
  by_cases hn : Fl.isNum D a0
  · have heq : D.order a0 a0 = some .eq := Fl.ord_eq .f64 hn hn rfl
    by_cases h1 : 9223372036854775808 * one64 ≤ Fl.sv D a0
    · exact out_up a0 w heq (geq_cases hn k63_num (by rw [k63_sv]; exact h1))
    · have l1 : D.order a0 4890909195324358656 = some .lt := Fl.ord_lt .f64 hn k63_num (by rw [show Fl.sv FloatKind.f64.format 4890909195324358656 = _ from k63_sv]; exact Int.lt_of_not_ge h1)
      by_cases h2 : Fl.sv D a0 < -(9223372036854775808 * one64)
      · exact out_down a0 w heq l1 (Fl.ord_lt .f64 hn m63_num (by rw [show Fl.sv FloatKind.f64.format 14114281232179134464 = _ from m63_sv]; exact h2))
      · have b1 := Int.lt_of_not_ge h1
        have b2 := Int.not_lt.1 h2
        have hf := fin_of hn b1 b2
        have hV : Fl.V D (Fl.rung D a0) < 2 ^ (64 + Fl.ue .f64) := by
          have hv := sv_abs D a0
          have hq := pow64
          have hp := one64_pos
          generalize 2 ^ (64 + Fl.ue .f64) = z at *
          omega
        obtain ⟨g, hg, gf⟩ := Fl.narrow a0 hf hV
        obtain ⟨d, hd, df, ds, dn⟩ := Fl.widen g gf
        have l2 : D.order a0 14114281232179134464 = some .gt ∨ D.order a0 14114281232179134464 = some .eq := geq_cases hn m63_num (by rw [m63_sv]; exact b2)
        refine inside a0 g d w heq l1 l2 hf (i_of hf b1 b2) hg hd ?_
        by_cases c1 : 9223372036854775808 * one64 ≤ Fl.sv D d
        · exact .inl (geq_cases df.num k63_num (by rw [k63_sv]; exact c1))
        · have e1 : D.order d 4890909195324358656 = some .lt := Fl.ord_lt .f64 df.num k63_num (by rw [show Fl.sv FloatKind.f64.format 4890909195324358656 = _ from k63_sv]; exact Int.lt_of_not_ge c1)
          by_cases c2 : Fl.sv D d < -(9223372036854775808 * one64)
          · exact .inr (.inl ⟨e1, Fl.ord_lt .f64 df.num m63_num (by rw [show Fl.sv FloatKind.f64.format 14114281232179134464 = _ from m63_sv]; exact c2)⟩)
          · have q1 := Int.lt_of_not_ge c1
            have q2 := Int.not_lt.1 c2
            exact .inr (.inr ⟨e1, geq_cases df.num m63_num (by rw [m63_sv]; exact q2), df, i_of df q1 q2, i32_of gf ds dn q1 q2⟩)
  · exact out_nan a0 w (Fl.order_nan_left D (Fl.hi .f64) hn)
end Go.Proofs.YtlfpmjjdocknhaaFmt.fnToIntTruncatesTowardZero
