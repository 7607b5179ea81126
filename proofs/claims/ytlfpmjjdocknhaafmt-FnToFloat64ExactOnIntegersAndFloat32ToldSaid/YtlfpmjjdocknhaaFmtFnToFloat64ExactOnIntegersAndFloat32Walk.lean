/- For every int64 x, float32 g and float64 h the law FnToFloat64ExactOnIntegersAndFloat32 returns true and writes nothing. Conditions: none. -/
import Derived.Test.YtlfpmjjdocknhaaFmtConvs
import Derived.Test.YtlfpmjjdocknhaaFmtAgree
import Derived.Test.YtlfpmjjdocknhaaFmtFld
import Derived.Lib.Hide
import Derived.Deep.DeepCutAuto
namespace Go.Proofs.YtlfpmjjdocknhaaFmt.fnToFloat64ExactOnIntegersAndFloat32
open Go.RowKit Go.Proofs.YtlfpmjjdocknhaaFmt

theorem nan_num (t : Nat) : ¬ Fl.isNum FloatKind.f64.format ((t % 2) * 9223372036854775808 + 9218868437227405312 + 1 + (t / 2) % 4503599627370495) := by
  have e1 : FloatKind.f64.format.signWeight = 9223372036854775808 := by decide +kernel
  have e2 : FloatKind.f64.format.infRung = 9218868437227405312 := by decide +kernel
  have hb : (t / 2) % 4503599627370495 < 4503599627370495 := Nat.mod_lt _ (by omega)
  generalize (t / 2) % 4503599627370495 = b at *
  unfold Fl.isNum Fl.rung
  rw [e1, e2]
  rcases Nat.mod_two_eq_zero_or_one t with e | e <;> rw [e] <;> omega

/-- a NaN of float32 made a float64: some NaN, by one draw -/
theorem conv_nan (g : Nat) (w : World) (h : ¬ Fl.isNum FloatKind.f32.format g) : ∃ d, ¬ Fl.isNum FloatKind.f64.format d ∧ (convert 28 23 (.float .f32 g)).run Tryf.prog w = .ok (.float .f64 d) w.drew := by
  have hr : FloatKind.f32.decode g = .nan (Fl.negB FloatKind.f32.format g) (Fl.rung FloatKind.f32.format g - FloatKind.f32.format.infRung) := Fl.read_nan _ (Fl.hi .f32) (by unfold Fl.isNum at h; omega)
  refine ⟨Question.cut (.nanConv .f64 g) (w.tape w.drawn (.nanConv .f64 g)), ?_, ?_⟩
  · exact nan_num _
  · have hs : Tryf.prog.underlying 28 = some (.float .f32) := Tryf.underlying28
    simp [convert, run_underlying hs, run_underlying Tryf.underlying23, Conv.floatToFloat, hr, choose]
    rfl

theorem z32_num : Fl.isNum FloatKind.f32.format 0 := by show Fl.rung FloatKind.f32.format 0 ≤ FloatKind.f32.format.infRung; decide +kernel
theorem z64_num : Fl.isNum FloatKind.f64.format 0 := by show Fl.rung FloatKind.f64.format 0 ≤ FloatKind.f64.format.infRung; decide +kernel
theorem z32_sv : Fl.sv FloatKind.f32.format 0 = 0 := by decide +kernel
theorem z64_sv : Fl.sv FloatKind.f64.format 0 = 0 := by decide +kernel

/-- what a float32 is: a NaN; a zero; else a number that comes back from float64 -/
def G (g : Nat) : Prop := ¬ Fl.isNum FloatKind.f32.format g ∨ g = 0 ∨ g = 2147483648 ∨
  (FloatKind.f32.format.order g g = some .eq ∧ (FloatKind.f32.format.order g 0 == some .eq) = false ∧ ∃ d, floatToFloatBits .f32 g .f64 = some d ∧ floatToFloatBits .f64 d .f32 = some g)
/-- what a float64 is -/
def Hh (h : Nat) : Prop := FloatKind.f64.format.order h h = none ∨ h = 0 ∨ h = 9223372036854775808 ∨
  (FloatKind.f64.format.order h h = some .eq ∧ (FloatKind.f64.format.order h 0 == some .eq) = false)

theorem word_back (f : Ieee.Format) (x : Nat) (h : x < 2 * f.signWeight) : f.word (Fl.negB f x) (Fl.rung f x) = x := by
  unfold Ieee.Format.word Fl.negB Fl.rung
  have hp : 0 < f.signWeight := Nat.two_pow_pos _
  by_cases c : x < f.signWeight
  · rw [Nat.div_eq_of_lt c, Nat.mod_eq_of_lt c]; rfl
  · have e : x = f.signWeight + (x - f.signWeight) := by omega
    have e1 : x / f.signWeight = 1 := by
      rw [e, Nat.add_div_left _ hp, Nat.div_eq_of_lt (by omega)]
    have e2 : x % f.signWeight = x - f.signWeight := by
      rw [Nat.mod_eq_sub_mod (by omega), Nat.mod_eq_of_lt (by omega)]
    rw [e1, e2]
    show f.signWeight + (x - f.signWeight) = x
    omega

theorem zero_of (k : FloatKind) (x : Nat) (h : x < 2 * k.format.signWeight) (hs : Fl.sv k.format x = 0) : x = 0 ∨ x = k.format.signWeight := by
  have hr : Fl.rung k.format x = 0 := by
    have hv : Fl.V k.format (Fl.rung k.format x) = 0 := by
      unfold Fl.sv Fl.sg at hs; split at hs <;> omega
    have : Fl.V k.format (Fl.rung k.format x) = Fl.V k.format 0 := by rw [hv, Fl.V_lo (Fl.binade_pos _)]
    exact Fl.V_inj _ this
  have hw := word_back k.format x h
  rw [hr] at hw
  unfold Ieee.Format.word at hw
  cases hb : Fl.negB k.format x
  · rw [hb] at hw; simp at hw; exact .inl hw.symm
  · rw [hb] at hw; simp at hw; exact .inr hw.symm

theorem sw32 : FloatKind.f32.format.signWeight = 2147483648 := by decide +kernel
theorem sw64 : FloatKind.f64.format.signWeight = 9223372036854775808 := by decide +kernel
theorem inf32 : FloatKind.f32.format.infRung = 2139095040 := by decide +kernel

theorem not_zero (k : FloatKind) {x : Nat} (hn : Fl.isNum k.format x) (hz : Fl.isNum k.format 0) (z0 : Fl.sv k.format 0 = 0) (h : Fl.sv k.format x ≠ 0) : (k.format.order x 0 == some .eq) = false := by
  rw [Fl.ord k hn hz, z0]
  cases hc : compare (Fl.sv k.format x) 0 with
  | eq => exact absurd (Int.compare_eq_eq.1 hc) h
  | lt => rfl
  | gt => rfl

theorem g_of (g : Nat) (hg : g < 4294967296) : G g := by
  by_cases hn : Fl.isNum FloatKind.f32.format g
  · by_cases hs : Fl.sv FloatKind.f32.format g = 0
    · rcases zero_of .f32 g (by rw [sw32]; omega) hs with e | e
      · exact .inr (.inl e)
      · exact .inr (.inr (.inl (by rw [e, sw32])))
    · refine .inr (.inr (.inr ⟨Fl.ord_eq .f32 hn hn rfl, not_zero .f32 hn z32_num z32_sv hs, ?_⟩))
      by_cases hf : Fl.isFin FloatKind.f32.format g
      · obtain ⟨d, h1, h2, h3, h4⟩ := Fl.widen g hf
        refine ⟨d, h1, ?_⟩
        rw [Fl.narrow_widen g hf h2 h3 h4, word_back _ g (by rw [sw32]; omega)]
      · have hr : Fl.rung FloatKind.f32.format g = FloatKind.f32.format.infRung := by
          unfold Fl.isNum at hn; unfold Fl.isFin at hf; omega
        have hw := word_back FloatKind.f32.format g (by rw [sw32]; omega)
        rw [hr] at hw
        cases hb : Fl.negB FloatKind.f32.format g
        · rw [hb] at hw
          have : g = 2139095040 := by rw [← hw]; decide +kernel
          subst this
          exact ⟨9218868437227405312, by decide +kernel, by decide +kernel⟩
        · rw [hb] at hw
          have : g = 4286578688 := by rw [← hw]; decide +kernel
          subst this
          exact ⟨18442240474082181120, by decide +kernel, by decide +kernel⟩
  · exact .inl hn

theorem h_of (h : Nat) (hh : h < 18446744073709551616) : Hh h := by
  by_cases hn : Fl.isNum FloatKind.f64.format h
  · by_cases hs : Fl.sv FloatKind.f64.format h = 0
    · rcases zero_of .f64 h (by rw [sw64]; omega) hs with e | e
      · exact .inr (.inl e)
      · exact .inr (.inr (.inl (by rw [e, sw64])))
    · exact .inr (.inr (.inr ⟨Fl.ord_eq .f64 hn hn rfl, not_zero .f64 hn z64_num z64_sv hs⟩))
  · exact .inl (Fl.order_nan_left _ (Fl.hi .f64) hn)

theorem q64p : floatBits .quo .f64 4607182418800017408 0 = some 9218868437227405312 := by decide +kernel
theorem q64m : floatBits .quo .f64 4607182418800017408 9223372036854775808 = some 18442240474082181120 := by decide +kernel
theorem q32p : floatBits .quo .f32 1065353216 0 = some 2139095040 := by decide +kernel
theorem q32m : floatBits .quo .f32 1065353216 2147483648 = some 4286578688 := by decide +kernel
theorem c0 : floatToFloatBits .f32 0 .f64 = some 0 := by decide +kernel
theorem c1 : floatToFloatBits .f32 2147483648 .f64 = some 9223372036854775808 := by decide +kernel
theorem b0 : floatToFloatBits .f64 0 .f32 = some 0 := by decide +kernel
theorem b1 : floatToFloatBits .f64 9223372036854775808 .f32 = some 2147483648 := by decide +kernel
theorem o1 : FloatKind.f32.format.order 0 0 = some .eq := by decide +kernel
theorem o2 : FloatKind.f32.format.order 2147483648 2147483648 = some .eq := by decide +kernel
theorem o3 : FloatKind.f32.format.order 2147483648 0 = some .eq := by decide +kernel
theorem o4 : FloatKind.f64.format.order 0 0 = some .eq := by decide +kernel
theorem o5 : FloatKind.f64.format.order 9223372036854775808 9223372036854775808 = some .eq := by decide +kernel
theorem o6 : FloatKind.f64.format.order 9223372036854775808 0 = some .eq := by decide +kernel
theorem o7 : FloatKind.f64.format.order 9218868437227405312 0 = some .gt := by decide +kernel
theorem o8 : FloatKind.f64.format.order 18442240474082181120 0 = some .lt := by decide +kernel
theorem o9 : FloatKind.f32.format.order 2139095040 0 = some .gt := by decide +kernel
theorem o10 : FloatKind.f32.format.order 4286578688 0 = some .lt := by decide +kernel

def inB (x : Int) : Bool := decide (-9007199254740992 ≤ x) && decide (x ≤ 9007199254740992)

set_option maxRecDepth 100000 in
set_option maxHeartbeats 4000000 in
theorem walk0 (x : Int) (g h : Nat) (w : World) (x0 : -9223372036854775808 ≤ x) (x1 : x ≤ 9223372036854775807) (hg : G g) (hh : Hh h) :
    Calls Tryf.prog 8 #[.int .i64 x, .float .f32 g, .float .f64 h] w fun e w' => e = .returned (.bool true) ∧ Below w.heap.size w w' := by
  have HX := Lib.hid (show -9007199254740992 ≤ x → x ≤ 9007199254740992 → floatToIntVal .f64 (floatOfInt .f64 x) .i64 = some x from through64 x)
  have hE : FloatKind.f64.format.order (floatOfInt .f64 x) (floatOfInt .f64 x) = some .eq := Fl.ord_eq .f64 (Fl.ofInt_num _ _) (Fl.ofInt_num _ _) rfl
  go_enter Tryf.func8, Tryf.ntmps8
  go_upto_region 1 with fail
  go_cut [15] (fun s wx => s = .bool (inB x) ∧ w = wx)
  case first =>
    by_cases k0 : -9007199254740992 ≤ x <;> by_cases k1 : x ≤ 9007199254740992
    all_goals
      go_wp2_with fail
      go_meet
      exact ⟨by simp [inB, k0, k1], rfl⟩
  case rest =>
  obtain ⟨rfl, rfl⟩ := hcut
  go_upto_if 15 with fail
  go_cut [] (fun wx => w = wx)
  case first =>
    clear hg hh
    by_cases k0 : x ≤ -9007199254740993
    · have lo : -9223372036854775808 ≤ x := by omega
      rw [show inB x = false by simp [inB]; omega]
      go_wp2_with (first
            | (go_at_call 11; first
                | ((with_reducible refine (fl_2 _ _).mono ?_); rintro e w1 ⟨rfl, rfl⟩)
                | ((with_reducible refine (fl_3 _ _).mono ?_); rintro e w1 ⟨rfl, rfl⟩)
                | ((with_reducible refine (fl_21 _ _).mono ?_); rintro e w1 ⟨rfl, rfl⟩)
                | ((with_reducible refine (fl_22 _ _).mono ?_); rintro e w1 ⟨rfl, rfl⟩)
                | ((with_reducible refine (fl_35 _ _).mono ?_); rintro e w1 ⟨rfl, rfl⟩)
                | ((with_reducible refine (fl_31 _ _).mono ?_); rintro e w1 ⟨rfl, rfl⟩)))
      go_meet
      exact rfl
    by_cases k1 : x ≤ -2147483649
    · have lo : -9007199254740992 ≤ x := by omega
      rw [show inB x = true by simp [inB]; omega]
      have hci := fun w => run_convert_float_int (P := Tryf.prog) w 23 2 .f64 .i64 _ x (by kernel_rfl) Tryf.underlying2 (HX.out (by omega) (by omega))
      go_wp2_with (first
            | (go_at_call 11; first
                | ((with_reducible refine (fl_2 _ _).mono ?_); rintro e w1 ⟨rfl, rfl⟩)
                | ((with_reducible refine (fl_3 _ _).mono ?_); rintro e w1 ⟨rfl, rfl⟩)
                | ((with_reducible refine (fl_21 _ _).mono ?_); rintro e w1 ⟨rfl, rfl⟩)
                | ((with_reducible refine (fl_22 _ _).mono ?_); rintro e w1 ⟨rfl, rfl⟩)
                | ((with_reducible refine (fl_35 _ _).mono ?_); rintro e w1 ⟨rfl, rfl⟩)
                | ((with_reducible refine (fl_31 _ _).mono ?_); rintro e w1 ⟨rfl, rfl⟩)))
      go_meet
      exact rfl
    by_cases k2 : x ≤ -129
    · have lo : -2147483648 ≤ x := by omega
      rw [show inB x = true by simp [inB]; omega]
      have hci := fun w => run_convert_float_int (P := Tryf.prog) w 23 2 .f64 .i64 _ x (by kernel_rfl) Tryf.underlying2 (HX.out (by omega) (by omega))
      go_wp2_with (first
            | (go_at_call 11; first
                | ((with_reducible refine (fl_2 _ _).mono ?_); rintro e w1 ⟨rfl, rfl⟩)
                | ((with_reducible refine (fl_3 _ _).mono ?_); rintro e w1 ⟨rfl, rfl⟩)
                | ((with_reducible refine (fl_21 _ _).mono ?_); rintro e w1 ⟨rfl, rfl⟩)
                | ((with_reducible refine (fl_22 _ _).mono ?_); rintro e w1 ⟨rfl, rfl⟩)
                | ((with_reducible refine (fl_35 _ _).mono ?_); rintro e w1 ⟨rfl, rfl⟩)
                | ((with_reducible refine (fl_31 _ _).mono ?_); rintro e w1 ⟨rfl, rfl⟩)))
      go_meet
      exact rfl
    by_cases k3 : x ≤ -1
    · have lo : -128 ≤ x := by omega
      rw [show inB x = true by simp [inB]; omega]
      have hci := fun w => run_convert_float_int (P := Tryf.prog) w 23 2 .f64 .i64 _ x (by kernel_rfl) Tryf.underlying2 (HX.out (by omega) (by omega))
      go_wp2_with (first
            | (go_at_call 11; first
                | ((with_reducible refine (fl_2 _ _).mono ?_); rintro e w1 ⟨rfl, rfl⟩)
                | ((with_reducible refine (fl_3 _ _).mono ?_); rintro e w1 ⟨rfl, rfl⟩)
                | ((with_reducible refine (fl_21 _ _).mono ?_); rintro e w1 ⟨rfl, rfl⟩)
                | ((with_reducible refine (fl_22 _ _).mono ?_); rintro e w1 ⟨rfl, rfl⟩)
                | ((with_reducible refine (fl_35 _ _).mono ?_); rintro e w1 ⟨rfl, rfl⟩)
                | ((with_reducible refine (fl_31 _ _).mono ?_); rintro e w1 ⟨rfl, rfl⟩)))
      go_meet
      exact rfl
    by_cases k4 : x ≤ 127
    · have lo : 0 ≤ x := by omega
      rw [show inB x = true by simp [inB]; omega]
      have hci := fun w => run_convert_float_int (P := Tryf.prog) w 23 2 .f64 .i64 _ x (by kernel_rfl) Tryf.underlying2 (HX.out (by omega) (by omega))
      go_wp2_with (first
            | (go_at_call 11; first
                | ((with_reducible refine (fl_2 _ _).mono ?_); rintro e w1 ⟨rfl, rfl⟩)
                | ((with_reducible refine (fl_3 _ _).mono ?_); rintro e w1 ⟨rfl, rfl⟩)
                | ((with_reducible refine (fl_21 _ _).mono ?_); rintro e w1 ⟨rfl, rfl⟩)
                | ((with_reducible refine (fl_22 _ _).mono ?_); rintro e w1 ⟨rfl, rfl⟩)
                | ((with_reducible refine (fl_35 _ _).mono ?_); rintro e w1 ⟨rfl, rfl⟩)
                | ((with_reducible refine (fl_31 _ _).mono ?_); rintro e w1 ⟨rfl, rfl⟩)))
      go_meet
      exact rfl
    by_cases k5 : x ≤ 65535
    · have lo : 128 ≤ x := by omega
      rw [show inB x = true by simp [inB]; omega]
      have hci := fun w => run_convert_float_int (P := Tryf.prog) w 23 2 .f64 .i64 _ x (by kernel_rfl) Tryf.underlying2 (HX.out (by omega) (by omega))
      go_wp2_with (first
            | (go_at_call 11; first
                | ((with_reducible refine (fl_2 _ _).mono ?_); rintro e w1 ⟨rfl, rfl⟩)
                | ((with_reducible refine (fl_3 _ _).mono ?_); rintro e w1 ⟨rfl, rfl⟩)
                | ((with_reducible refine (fl_21 _ _).mono ?_); rintro e w1 ⟨rfl, rfl⟩)
                | ((with_reducible refine (fl_22 _ _).mono ?_); rintro e w1 ⟨rfl, rfl⟩)
                | ((with_reducible refine (fl_35 _ _).mono ?_); rintro e w1 ⟨rfl, rfl⟩)
                | ((with_reducible refine (fl_31 _ _).mono ?_); rintro e w1 ⟨rfl, rfl⟩)))
      go_meet
      exact rfl
    by_cases k6 : x ≤ 2147483647
    · have lo : 65536 ≤ x := by omega
      rw [show inB x = true by simp [inB]; omega]
      have hci := fun w => run_convert_float_int (P := Tryf.prog) w 23 2 .f64 .i64 _ x (by kernel_rfl) Tryf.underlying2 (HX.out (by omega) (by omega))
      go_wp2_with (first
            | (go_at_call 11; first
                | ((with_reducible refine (fl_2 _ _).mono ?_); rintro e w1 ⟨rfl, rfl⟩)
                | ((with_reducible refine (fl_3 _ _).mono ?_); rintro e w1 ⟨rfl, rfl⟩)
                | ((with_reducible refine (fl_21 _ _).mono ?_); rintro e w1 ⟨rfl, rfl⟩)
                | ((with_reducible refine (fl_22 _ _).mono ?_); rintro e w1 ⟨rfl, rfl⟩)
                | ((with_reducible refine (fl_35 _ _).mono ?_); rintro e w1 ⟨rfl, rfl⟩)
                | ((with_reducible refine (fl_31 _ _).mono ?_); rintro e w1 ⟨rfl, rfl⟩)))
      go_meet
      exact rfl
    by_cases k7 : x ≤ 9007199254740992
    · have lo : 2147483648 ≤ x := by omega
      rw [show inB x = true by simp [inB]; omega]
      have hci := fun w => run_convert_float_int (P := Tryf.prog) w 23 2 .f64 .i64 _ x (by kernel_rfl) Tryf.underlying2 (HX.out (by omega) (by omega))
      go_wp2_with (first
            | (go_at_call 11; first
                | ((with_reducible refine (fl_2 _ _).mono ?_); rintro e w1 ⟨rfl, rfl⟩)
                | ((with_reducible refine (fl_3 _ _).mono ?_); rintro e w1 ⟨rfl, rfl⟩)
                | ((with_reducible refine (fl_21 _ _).mono ?_); rintro e w1 ⟨rfl, rfl⟩)
                | ((with_reducible refine (fl_22 _ _).mono ?_); rintro e w1 ⟨rfl, rfl⟩)
                | ((with_reducible refine (fl_35 _ _).mono ?_); rintro e w1 ⟨rfl, rfl⟩)
                | ((with_reducible refine (fl_31 _ _).mono ?_); rintro e w1 ⟨rfl, rfl⟩)))
      go_meet
      exact rfl
    · have lo : 9007199254740993 ≤ x := by omega
      rw [show inB x = false by simp [inB]; omega]
      go_wp2_with (first
            | (go_at_call 11; first
                | ((with_reducible refine (fl_2 _ _).mono ?_); rintro e w1 ⟨rfl, rfl⟩)
                | ((with_reducible refine (fl_3 _ _).mono ?_); rintro e w1 ⟨rfl, rfl⟩)
                | ((with_reducible refine (fl_21 _ _).mono ?_); rintro e w1 ⟨rfl, rfl⟩)
                | ((with_reducible refine (fl_22 _ _).mono ?_); rintro e w1 ⟨rfl, rfl⟩)
                | ((with_reducible refine (fl_35 _ _).mono ?_); rintro e w1 ⟨rfl, rfl⟩)
                | ((with_reducible refine (fl_31 _ _).mono ?_); rintro e w1 ⟨rfl, rfl⟩)))
      go_meet
      exact rfl
  case rest =>
    obtain rfl := hcut
    have r1 := fun w => run_float_arith (P := Tryf.prog) w .quo 23 .f64 _ _ _ q64p
    have r2 := fun w => run_float_arith (P := Tryf.prog) w .quo 23 .f64 _ _ _ q64m
    have r3 := fun w => run_float_arith (P := Tryf.prog) w .quo 28 .f32 _ _ _ q32p
    have r4 := fun w => run_float_arith (P := Tryf.prog) w .quo 28 .f32 _ _ _ q32m
    have p1 := o1
    have p2 := o2
    have p3 := o3
    have p4 := o4
    have p5 := o5
    have p6 := o6
    have p7 := o7
    have p8 := o8
    have p9 := o9
    have p10 := o10
    rcases hh with n1 | rfl | rfl | ⟨n1, n2⟩ <;> rcases hg with m1 | rfl | rfl | ⟨m1, m2, d, m3, m4⟩
    · obtain ⟨d, hd, hc⟩ := conv_nan g w m1
      have m2 : FloatKind.f32.format.order g g = none := Fl.order_nan_left _ (Fl.hi .f32) m1
      have m3 : FloatKind.f64.format.order d d = none := Fl.order_nan_left _ (Fl.hi .f64) hd
      clear m1 hd
      go_wp2_with (go_at_call 11; first | ((with_reducible refine (fl_23 _ _).mono ?_); rintro e w1 ⟨rfl, rfl⟩) | go_in)
      go_ret
      exact ⟨rfl, (Below.refl _ _).drew⟩
    · have K := Lib.hid c0
      have hb := fun w => run_convert_float_float (P := Tryf.prog) w 23 28 .f64 .f32 _ _ (by kernel_rfl) Tryf.underlying28 b0
      go_wp2_with (go_at_call 11; first | ((with_reducible refine (fl_23 _ _).mono ?_); rintro e w1 ⟨rfl, rfl⟩) | ((with_reducible refine (fl_28 _ _ _ K.out).mono ?_); rintro e w1 ⟨rfl, rfl⟩))
      go_ret
      exact ⟨rfl, Below.refl _ _⟩
    · have K := Lib.hid c1
      have hb := fun w => run_convert_float_float (P := Tryf.prog) w 23 28 .f64 .f32 _ _ (by kernel_rfl) Tryf.underlying28 b1
      go_wp2_with (go_at_call 11; first | ((with_reducible refine (fl_23 _ _).mono ?_); rintro e w1 ⟨rfl, rfl⟩) | ((with_reducible refine (fl_28 _ _ _ K.out).mono ?_); rintro e w1 ⟨rfl, rfl⟩))
      go_ret
      exact ⟨rfl, Below.refl _ _⟩
    · have K := Lib.hid m3
      have hb := fun w => run_convert_float_float (P := Tryf.prog) w 23 28 .f64 .f32 _ _ (by kernel_rfl) Tryf.underlying28 m4
      clear m3 m4
      go_wp2_with (go_at_call 11; first | ((with_reducible refine (fl_23 _ _).mono ?_); rintro e w1 ⟨rfl, rfl⟩) | ((with_reducible refine (fl_28 _ _ _ K.out).mono ?_); rintro e w1 ⟨rfl, rfl⟩))
      go_ret
      exact ⟨rfl, Below.refl _ _⟩
    · obtain ⟨d, hd, hc⟩ := conv_nan g w m1
      have m2 : FloatKind.f32.format.order g g = none := Fl.order_nan_left _ (Fl.hi .f32) m1
      have m3 : FloatKind.f64.format.order d d = none := Fl.order_nan_left _ (Fl.hi .f64) hd
      clear m1 hd
      go_wp2_with (go_at_call 11; first | ((with_reducible refine (fl_23 _ _).mono ?_); rintro e w1 ⟨rfl, rfl⟩) | go_in)
      go_ret
      exact ⟨rfl, (Below.refl _ _).drew⟩
    · have K := Lib.hid c0
      have hb := fun w => run_convert_float_float (P := Tryf.prog) w 23 28 .f64 .f32 _ _ (by kernel_rfl) Tryf.underlying28 b0
      go_wp2_with (go_at_call 11; first | ((with_reducible refine (fl_23 _ _).mono ?_); rintro e w1 ⟨rfl, rfl⟩) | ((with_reducible refine (fl_28 _ _ _ K.out).mono ?_); rintro e w1 ⟨rfl, rfl⟩))
      go_ret
      exact ⟨rfl, Below.refl _ _⟩
    · have K := Lib.hid c1
      have hb := fun w => run_convert_float_float (P := Tryf.prog) w 23 28 .f64 .f32 _ _ (by kernel_rfl) Tryf.underlying28 b1
      go_wp2_with (go_at_call 11; first | ((with_reducible refine (fl_23 _ _).mono ?_); rintro e w1 ⟨rfl, rfl⟩) | ((with_reducible refine (fl_28 _ _ _ K.out).mono ?_); rintro e w1 ⟨rfl, rfl⟩))
      go_ret
      exact ⟨rfl, Below.refl _ _⟩
    · have K := Lib.hid m3
      have hb := fun w => run_convert_float_float (P := Tryf.prog) w 23 28 .f64 .f32 _ _ (by kernel_rfl) Tryf.underlying28 m4
      clear m3 m4
      go_wp2_with (go_at_call 11; first | ((with_reducible refine (fl_23 _ _).mono ?_); rintro e w1 ⟨rfl, rfl⟩) | ((with_reducible refine (fl_28 _ _ _ K.out).mono ?_); rintro e w1 ⟨rfl, rfl⟩))
      go_ret
      exact ⟨rfl, Below.refl _ _⟩
    · obtain ⟨d, hd, hc⟩ := conv_nan g w m1
      have m2 : FloatKind.f32.format.order g g = none := Fl.order_nan_left _ (Fl.hi .f32) m1
      have m3 : FloatKind.f64.format.order d d = none := Fl.order_nan_left _ (Fl.hi .f64) hd
      clear m1 hd
      go_wp2_with (go_at_call 11; first | ((with_reducible refine (fl_23 _ _).mono ?_); rintro e w1 ⟨rfl, rfl⟩) | go_in)
      go_ret
      exact ⟨rfl, (Below.refl _ _).drew⟩
    · have K := Lib.hid c0
      have hb := fun w => run_convert_float_float (P := Tryf.prog) w 23 28 .f64 .f32 _ _ (by kernel_rfl) Tryf.underlying28 b0
      go_wp2_with (go_at_call 11; first | ((with_reducible refine (fl_23 _ _).mono ?_); rintro e w1 ⟨rfl, rfl⟩) | ((with_reducible refine (fl_28 _ _ _ K.out).mono ?_); rintro e w1 ⟨rfl, rfl⟩))
      go_ret
      exact ⟨rfl, Below.refl _ _⟩
    · have K := Lib.hid c1
      have hb := fun w => run_convert_float_float (P := Tryf.prog) w 23 28 .f64 .f32 _ _ (by kernel_rfl) Tryf.underlying28 b1
      go_wp2_with (go_at_call 11; first | ((with_reducible refine (fl_23 _ _).mono ?_); rintro e w1 ⟨rfl, rfl⟩) | ((with_reducible refine (fl_28 _ _ _ K.out).mono ?_); rintro e w1 ⟨rfl, rfl⟩))
      go_ret
      exact ⟨rfl, Below.refl _ _⟩
    · have K := Lib.hid m3
      have hb := fun w => run_convert_float_float (P := Tryf.prog) w 23 28 .f64 .f32 _ _ (by kernel_rfl) Tryf.underlying28 m4
      clear m3 m4
      go_wp2_with (go_at_call 11; first | ((with_reducible refine (fl_23 _ _).mono ?_); rintro e w1 ⟨rfl, rfl⟩) | ((with_reducible refine (fl_28 _ _ _ K.out).mono ?_); rintro e w1 ⟨rfl, rfl⟩))
      go_ret
      exact ⟨rfl, Below.refl _ _⟩
    · obtain ⟨d, hd, hc⟩ := conv_nan g w m1
      have m2 : FloatKind.f32.format.order g g = none := Fl.order_nan_left _ (Fl.hi .f32) m1
      have m3 : FloatKind.f64.format.order d d = none := Fl.order_nan_left _ (Fl.hi .f64) hd
      clear m1 hd
      go_wp2_with (go_at_call 11; first | ((with_reducible refine (fl_23 _ _).mono ?_); rintro e w1 ⟨rfl, rfl⟩) | go_in)
      go_ret
      exact ⟨rfl, (Below.refl _ _).drew⟩
    · have K := Lib.hid c0
      have hb := fun w => run_convert_float_float (P := Tryf.prog) w 23 28 .f64 .f32 _ _ (by kernel_rfl) Tryf.underlying28 b0
      go_wp2_with (go_at_call 11; first | ((with_reducible refine (fl_23 _ _).mono ?_); rintro e w1 ⟨rfl, rfl⟩) | ((with_reducible refine (fl_28 _ _ _ K.out).mono ?_); rintro e w1 ⟨rfl, rfl⟩))
      go_ret
      exact ⟨rfl, Below.refl _ _⟩
    · have K := Lib.hid c1
      have hb := fun w => run_convert_float_float (P := Tryf.prog) w 23 28 .f64 .f32 _ _ (by kernel_rfl) Tryf.underlying28 b1
      go_wp2_with (go_at_call 11; first | ((with_reducible refine (fl_23 _ _).mono ?_); rintro e w1 ⟨rfl, rfl⟩) | ((with_reducible refine (fl_28 _ _ _ K.out).mono ?_); rintro e w1 ⟨rfl, rfl⟩))
      go_ret
      exact ⟨rfl, Below.refl _ _⟩
    · have K := Lib.hid m3
      have hb := fun w => run_convert_float_float (P := Tryf.prog) w 23 28 .f64 .f32 _ _ (by kernel_rfl) Tryf.underlying28 m4
      clear m3 m4
      go_wp2_with (go_at_call 11; first | ((with_reducible refine (fl_23 _ _).mono ?_); rintro e w1 ⟨rfl, rfl⟩) | ((with_reducible refine (fl_28 _ _ _ K.out).mono ?_); rintro e w1 ⟨rfl, rfl⟩))
      go_ret
      exact ⟨rfl, Below.refl _ _⟩

theorem walk (a0 : Int) (a1 a2 : Nat) (w : World) (w0 : (Lit.int .i64 a0).wf = true) (w1 : (Lit.float .f32 a1).wf = true) (w2 : (Lit.float .f64 a2).wf = true) :
    Calls Tryf.prog 8 #[.int .i64 a0, .float .f32 a1, .float .f64 a2] w fun e w' => e = .returned (.bool true) ∧ Below w.heap.size w w' := by
  obtain ⟨x0, x1⟩ := bounds_i64 w0
  exact walk0 a0 a1 a2 w x0 x1 (g_of a1 (by simpa [Lit.wf] using w1)) (h_of a2 (by simpa [Lit.wf] using w2))
end Go.Proofs.YtlfpmjjdocknhaaFmt.fnToFloat64ExactOnIntegersAndFloat32
