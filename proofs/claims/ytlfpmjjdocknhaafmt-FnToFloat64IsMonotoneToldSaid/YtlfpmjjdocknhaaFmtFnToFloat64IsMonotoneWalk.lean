/- For all int64 x, y and uint64 u, w the law FnToFloat64IsMonotone returns true and writes nothing. Conditions: none. -/
import Derived.Test.YtlfpmjjdocknhaaFmtConvs
import Derived.Test.YtlfpmjjdocknhaaFmtFld
namespace Go.Proofs.YtlfpmjjdocknhaaFmt.fnToFloat64IsMonotone
open Go.RowKit Go.Proofs.YtlfpmjjdocknhaaFmt

theorem zero_num : Fl.isNum FloatKind.f64.format 0 := by show Fl.rung FloatKind.f64.format 0 ≤ FloatKind.f64.format.infRung; decide +kernel
theorem zero_sv : Fl.sv FloatKind.f64.format 0 = 0 := by decide +kernel

theorem not_gt (a b : Int) (h : a ≤ b) : (FloatKind.f64.format.order (floatOfInt .f64 a) (floatOfInt .f64 b) == some .gt) = false := by
  have hs := Fl.ofInt_mono .f64 h
  rw [Fl.ord .f64 (Fl.ofInt_num _ _) (Fl.ofInt_num _ _)]
  cases hc : compare (Fl.sv FloatKind.f64.format (floatOfInt .f64 a)) (Fl.sv FloatKind.f64.format (floatOfInt .f64 b)) with
  | gt => have := Int.compare_eq_gt.1 hc; omega
  | lt => rfl
  | eq => rfl

theorem leq (a b : Int) (h : a ≤ b) : (FloatKind.f64.format.order (floatOfInt .f64 a) (floatOfInt .f64 b) == some .lt || FloatKind.f64.format.order (floatOfInt .f64 a) (floatOfInt .f64 b) == some .eq) = true := by
  have hs := Fl.ofInt_mono .f64 h
  rw [Fl.ord .f64 (Fl.ofInt_num _ _) (Fl.ofInt_num _ _)]
  cases hc : compare (Fl.sv FloatKind.f64.format (floatOfInt .f64 a)) (Fl.sv FloatKind.f64.format (floatOfInt .f64 b)) with
  | gt => have := Int.compare_eq_gt.1 hc; omega
  | lt => rfl
  | eq => rfl

theorem nonneg (a : Int) (h : 0 ≤ a) : FloatKind.f64.format.order (floatOfInt .f64 a) 0 = some .gt ∨ FloatKind.f64.format.order (floatOfInt .f64 a) 0 = some .eq := by
  have hs : 0 ≤ Fl.sv FloatKind.f64.format (floatOfInt .f64 a) := by
    rw [Fl.sv_ofInt]
    have : ¬ a < 0 := by omega
    simp only [this, decide_false, Fl.sg, Bool.false_eq_true, if_false]; omega
  rw [Fl.ord .f64 (Fl.ofInt_num _ _) zero_num, zero_sv]
  cases hc : compare (Fl.sv FloatKind.f64.format (floatOfInt .f64 a)) 0 with
  | lt => have := Int.compare_eq_lt.1 hc; omega
  | gt => exact .inl rfl
  | eq => exact .inr rfl

theorem ret_bool {a b : Bool} (h : a = b) : Ending.returned (.bool a) = .returned (.bool b) := by rw [h]

/-- the walk, the four as they stand behind the exchanges: x2 ≤ y2, u2 ≤ v2 -/
theorem facts (x y u v : Int) (hu : 0 ≤ u) (hxy : x ≤ y) (huv : u ≤ v) :
    (FloatKind.f64.format.order (floatOfInt .f64 x) (floatOfInt .f64 y) == some .gt) = false ∧
    (FloatKind.f64.format.order (floatOfInt .f64 u) 0 = some .gt ∨ FloatKind.f64.format.order (floatOfInt .f64 u) 0 = some .eq) ∧
    (FloatKind.f64.format.order (floatOfInt .f64 u) (floatOfInt .f64 v) = some .lt ∨ FloatKind.f64.format.order (floatOfInt .f64 u) (floatOfInt .f64 v) = some .eq) := by
  refine ⟨not_gt x y hxy, nonneg u hu, ?_⟩
  have := leq u v huv
  simpa using this

set_option maxHeartbeats 1000000 in
theorem walk0 (a0 a1 a2 a3 : Int) (w : World) (h2 : 0 ≤ a2) (h3 : 0 ≤ a3) :
    Calls Tryf.prog 3 #[.int .i64 a0, .int .i64 a1, .int .u64 a2, .int .u64 a3] w fun e w' => e = .returned (.bool true) ∧ Below w.heap.size w w' := by
  by_cases hxy : a0 ≤ a1 <;> by_cases huv : a2 ≤ a3
  · obtain ⟨f1, f2, f3⟩ := facts a0 a1 a2 a3 h2 hxy huv
    rcases f2 with f2 | f2 <;> rcases f3 with f3 | f3
    all_goals
      go_enter Tryf.func3, Tryf.ntmps3
      go_wp2_with (first
        | (go_at_call 11; first | ((with_reducible refine (fl_2 _ _).mono ?_); rintro e w1 ⟨rfl, rfl⟩) | ((with_reducible refine (fl_22 _ _).mono ?_); rintro e w1 ⟨rfl, rfl⟩)))
      go_ret
      exact ⟨rfl, Below.refl _ _⟩
  · obtain ⟨f1, f2, f3⟩ := facts a0 a1 a3 a2 h3 hxy (by omega)
    rcases f2 with f2 | f2 <;> rcases f3 with f3 | f3
    all_goals
      go_enter Tryf.func3, Tryf.ntmps3
      go_wp2_with (first
        | (go_at_call 11; first | ((with_reducible refine (fl_2 _ _).mono ?_); rintro e w1 ⟨rfl, rfl⟩) | ((with_reducible refine (fl_22 _ _).mono ?_); rintro e w1 ⟨rfl, rfl⟩)))
      go_ret
      exact ⟨rfl, Below.refl _ _⟩
  · obtain ⟨f1, f2, f3⟩ := facts a1 a0 a2 a3 h2 (by omega) huv
    rcases f2 with f2 | f2 <;> rcases f3 with f3 | f3
    all_goals
      go_enter Tryf.func3, Tryf.ntmps3
      go_wp2_with (first
        | (go_at_call 11; first | ((with_reducible refine (fl_2 _ _).mono ?_); rintro e w1 ⟨rfl, rfl⟩) | ((with_reducible refine (fl_22 _ _).mono ?_); rintro e w1 ⟨rfl, rfl⟩)))
      go_ret
      exact ⟨rfl, Below.refl _ _⟩
  · obtain ⟨f1, f2, f3⟩ := facts a1 a0 a3 a2 h3 (by omega) (by omega)
    rcases f2 with f2 | f2 <;> rcases f3 with f3 | f3
    all_goals
      go_enter Tryf.func3, Tryf.ntmps3
      go_wp2_with (first
        | (go_at_call 11; first | ((with_reducible refine (fl_2 _ _).mono ?_); rintro e w1 ⟨rfl, rfl⟩) | ((with_reducible refine (fl_22 _ _).mono ?_); rintro e w1 ⟨rfl, rfl⟩)))
      go_ret
      exact ⟨rfl, Below.refl _ _⟩

theorem walk (a0 a1 a2 a3 : Int) (w : World) (_w0 : (Lit.int .i64 a0).wf = true) (_w1 : (Lit.int .i64 a1).wf = true) (w2 : (Lit.int .u64 a2).wf = true) (w3 : (Lit.int .u64 a3).wf = true) :
    Calls Tryf.prog 3 #[.int .i64 a0, .int .i64 a1, .int .u64 a2, .int .u64 a3] w fun e w' => e = .returned (.bool true) ∧ Below w.heap.size w w' := by
  refine walk0 a0 a1 a2 a3 w ?_ ?_
  · have : 0 ≤ a2 ∧ a2 ≤ 18446744073709551615 := by simpa [Lit.wf, IntKind.min, IntKind.max, IntKind.signed, IntKind.bits] using w2
    exact this.1
  · have : 0 ≤ a3 ∧ a3 ≤ 18446744073709551615 := by simpa [Lit.wf, IntKind.min, IntKind.max, IntKind.signed, IntKind.bits] using w3
    exact this.1
end Go.Proofs.YtlfpmjjdocknhaaFmt.fnToFloat64IsMonotone
