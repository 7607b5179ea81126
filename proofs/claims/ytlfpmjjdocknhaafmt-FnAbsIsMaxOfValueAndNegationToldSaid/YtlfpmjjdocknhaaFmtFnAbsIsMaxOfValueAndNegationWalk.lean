/- For every int64 v, uint64 u, float64 f and float32 g the law FnAbsIsMaxOfValueAndNegation returns true and writes nothing. Conditions: none. -/
import Derived.Test.YtlfpmjjdocknhaaFmtAbs
import Derived.Test.YtlfpmjjdocknhaaFmtAgree
import Derived.OpenShut
import Derived.Deep.DeepCutAuto
namespace Go.Proofs.YtlfpmjjdocknhaaFmt.fnAbsIsMaxOfValueAndNegation
open Go.RowKit Go.Proofs.YtlfpmjjdocknhaaFmt

theorem bounds_i8w (v : Int) : -128 ≤ IntKind.i8.wrap v ∧ IntKind.i8.wrap v ≤ 127 := by
  have := wf_wrap .i8 v
  simpa [Lit.wf, IntKind.min, IntKind.max, IntKind.signed, IntKind.bits] using this
theorem bounds_i16w (v : Int) : -32768 ≤ IntKind.i16.wrap v ∧ IntKind.i16.wrap v ≤ 32767 := by
  have := wf_wrap .i16 v
  simpa [Lit.wf, IntKind.min, IntKind.max, IntKind.signed, IntKind.bits] using this
theorem bounds_i32w (v : Int) : -2147483648 ≤ wrap32 v ∧ wrap32 v ≤ 2147483647 := by
  unfold wrap32; omega

/-- the larger of a number and its negation is what Abs gives -/
def Max64 (v : Int) : Prop := (v < wrap64 (-v) → abs_i64 v = wrap64 (-v)) ∧ (¬ v < wrap64 (-v) → abs_i64 v = v)
def Max8 (v : Int) : Prop := (v < IntKind.i8.wrap (-v) → abs_i8 v = IntKind.i8.wrap (-v)) ∧ (¬ v < IntKind.i8.wrap (-v) → abs_i8 v = v)
def Max16 (v : Int) : Prop := (v < IntKind.i16.wrap (-v) → abs_i16 v = IntKind.i16.wrap (-v)) ∧ (¬ v < IntKind.i16.wrap (-v) → abs_i16 v = v)
def Max32 (v : Int) : Prop := (v < wrap32 (-v) → abs_i32 v = wrap32 (-v)) ∧ (¬ v < wrap32 (-v) → abs_i32 v = v)
/-- a float's sign, or none -/
def Sign (k : FloatKind) (x : Nat) : Prop :=
  k.format.order x x = none ∨ (k.format.order x x = some .eq ∧ k.format.order x 0 = some .lt ∧ k.format.order (Op.negFloat k x) x = some .gt ∧ k.format.order (Op.negFloat k x) (Op.negFloat k x) = some .eq) ∨
  (k.format.order x x = some .eq ∧ (k.format.order x 0 == some .lt) = false ∧ (k.format.order (Op.negFloat k x) x == some .gt) = false)

theorem sign (k : FloatKind) (x : Nat) : Sign k x := by
  by_cases h : Fl.isNum k.format x
  · have he : k.format.order x x = some .eq := Fl.ord_eq k h h rfl
    have hn := neg_num k h
    by_cases hs : Fl.sv k.format x < 0
    · exact .inr (.inl ⟨he, Fl.ord_lt k h (zero_num k) (by rw [zero_sv]; exact hs), Fl.ord_gt k hn h (by rw [neg_sv]; omega), Fl.ord_eq k hn hn rfl⟩)
    · refine .inr (.inr ⟨he, ?_, ?_⟩)
      · rw [Fl.ord k h (zero_num k), zero_sv]
        cases hc : compare (Fl.sv k.format x) 0 with
        | lt => exact absurd (Int.compare_eq_lt.1 hc) hs
        | eq => rfl
        | gt => rfl
      · rw [Fl.ord k hn h, neg_sv]
        cases hc : compare (-Fl.sv k.format x) (Fl.sv k.format x) with
        | gt => have := Int.compare_eq_gt.1 hc; omega
        | eq => rfl
        | lt => rfl
  · exact .inl (Fl.order_nan_left k.format (Fl.hi k) h)

set_option maxRecDepth 100000 in
set_option maxHeartbeats 4000000 in
theorem walk0 (v u : Int) (x g : Nat) (w : World) (m64 : Max64 v) (m8 : Max8 (IntKind.i8.wrap v)) (m16 : Max16 (IntKind.i16.wrap v)) (m32 : Max32 (wrap32 v)) (sx : Sign .f64 x) (sgn : Sign .f32 g) :
    Calls Tryf.prog 9 #[.int .i64 v, .int .u64 u, .float .f64 x, .float .f32 g] w fun e w' => e = .returned (.bool true) ∧ Below w.heap.size w w' := by
  go_enter Tryf.func9, Tryf.ntmps9
  go_upto_if 27 with (first
        | (go_at_call 15; first
            | ((with_reducible refine (ab_3 _ _).mono ?_); rintro e w1 ⟨rfl, rfl⟩)
            | ((with_reducible refine (ab_31 _ _).mono ?_); rintro e w1 ⟨rfl, rfl⟩)
            | ((with_reducible refine (ab_32 _ _).mono ?_); rintro e w1 ⟨rfl, rfl⟩)
            | ((with_reducible refine (ab_21 _ _).mono ?_); rintro e w1 ⟨rfl, rfl⟩)
            | ((with_reducible refine (ab_2 _ _).mono ?_); rintro e w1 ⟨rfl, rfl⟩)
            | ((with_reducible refine (ab_34 _ _).mono ?_); rintro e w1 ⟨rfl, rfl⟩)
            | ((with_reducible refine (ab_5 _ _).mono ?_); rintro e w1 ⟨rfl, rfl⟩)
            | ((with_reducible refine (ab_35 _ _).mono ?_); rintro e w1 ⟨rfl, rfl⟩)
            | ((with_reducible refine (ab_33 _ _).mono ?_); rintro e w1 ⟨rfl, rfl⟩)
            | ((with_reducible refine (ab_22 _ _).mono ?_); rintro e w1 ⟨rfl, rfl⟩)))
  go_cut [10] (fun s wx => s = .int .i64 (abs_i64 v) ∧ w = wx)
  case first =>
    by_cases hc : v < wrap64 (-v)
    · have E := Lib.hid (m64.1 hc)
      go_wp2_with fail
      go_meet
      exact ⟨by rw [E.out], rfl⟩
    · have E := Lib.hid (m64.2 hc)
      go_wp2_with fail
      go_meet
      exact ⟨by rw [E.out], rfl⟩
  case rest =>
    obtain ⟨rfl, rfl⟩ := hcut
    go_upto_if 42 with (first
          | (go_at_call 15; first
              | ((with_reducible refine (ab_3 _ _).mono ?_); rintro e w1 ⟨rfl, rfl⟩)
              | ((with_reducible refine (ab_31 _ _).mono ?_); rintro e w1 ⟨rfl, rfl⟩)
              | ((with_reducible refine (ab_32 _ _).mono ?_); rintro e w1 ⟨rfl, rfl⟩)
              | ((with_reducible refine (ab_21 _ _).mono ?_); rintro e w1 ⟨rfl, rfl⟩)
              | ((with_reducible refine (ab_2 _ _).mono ?_); rintro e w1 ⟨rfl, rfl⟩)
              | ((with_reducible refine (ab_34 _ _).mono ?_); rintro e w1 ⟨rfl, rfl⟩)
              | ((with_reducible refine (ab_5 _ _).mono ?_); rintro e w1 ⟨rfl, rfl⟩)
              | ((with_reducible refine (ab_35 _ _).mono ?_); rintro e w1 ⟨rfl, rfl⟩)
              | ((with_reducible refine (ab_33 _ _).mono ?_); rintro e w1 ⟨rfl, rfl⟩)
              | ((with_reducible refine (ab_22 _ _).mono ?_); rintro e w1 ⟨rfl, rfl⟩)))
    go_cut [12] (fun s wx => s = .int .i8 (abs_i8 (IntKind.i8.wrap v)) ∧ w = wx)
    case first =>
      by_cases hc : IntKind.i8.wrap v < IntKind.i8.wrap (-IntKind.i8.wrap v)
      · have E := Lib.hid (m8.1 hc)
        go_wp2_with fail
        go_meet
        exact ⟨by rw [E.out], rfl⟩
      · have E := Lib.hid (m8.2 hc)
        go_wp2_with fail
        go_meet
        exact ⟨by rw [E.out], rfl⟩
    case rest =>
      obtain ⟨rfl, rfl⟩ := hcut
      go_upto_if 57 with (first
            | (go_at_call 15; first
                | ((with_reducible refine (ab_3 _ _).mono ?_); rintro e w1 ⟨rfl, rfl⟩)
                | ((with_reducible refine (ab_31 _ _).mono ?_); rintro e w1 ⟨rfl, rfl⟩)
                | ((with_reducible refine (ab_32 _ _).mono ?_); rintro e w1 ⟨rfl, rfl⟩)
                | ((with_reducible refine (ab_21 _ _).mono ?_); rintro e w1 ⟨rfl, rfl⟩)
                | ((with_reducible refine (ab_2 _ _).mono ?_); rintro e w1 ⟨rfl, rfl⟩)
                | ((with_reducible refine (ab_34 _ _).mono ?_); rintro e w1 ⟨rfl, rfl⟩)
                | ((with_reducible refine (ab_5 _ _).mono ?_); rintro e w1 ⟨rfl, rfl⟩)
                | ((with_reducible refine (ab_35 _ _).mono ?_); rintro e w1 ⟨rfl, rfl⟩)
                | ((with_reducible refine (ab_33 _ _).mono ?_); rintro e w1 ⟨rfl, rfl⟩)
                | ((with_reducible refine (ab_22 _ _).mono ?_); rintro e w1 ⟨rfl, rfl⟩)))
      go_cut [14] (fun s wx => s = .int .i16 (abs_i16 (IntKind.i16.wrap v)) ∧ w = wx)
      case first =>
        by_cases hc : IntKind.i16.wrap v < IntKind.i16.wrap (-IntKind.i16.wrap v)
        · have E := Lib.hid (m16.1 hc)
          go_wp2_with fail
          go_meet
          exact ⟨by rw [E.out], rfl⟩
        · have E := Lib.hid (m16.2 hc)
          go_wp2_with fail
          go_meet
          exact ⟨by rw [E.out], rfl⟩
      case rest =>
        obtain ⟨rfl, rfl⟩ := hcut
        go_upto_if 72 with (first
              | (go_at_call 15; first
                  | ((with_reducible refine (ab_3 _ _).mono ?_); rintro e w1 ⟨rfl, rfl⟩)
                  | ((with_reducible refine (ab_31 _ _).mono ?_); rintro e w1 ⟨rfl, rfl⟩)
                  | ((with_reducible refine (ab_32 _ _).mono ?_); rintro e w1 ⟨rfl, rfl⟩)
                  | ((with_reducible refine (ab_21 _ _).mono ?_); rintro e w1 ⟨rfl, rfl⟩)
                  | ((with_reducible refine (ab_2 _ _).mono ?_); rintro e w1 ⟨rfl, rfl⟩)
                  | ((with_reducible refine (ab_34 _ _).mono ?_); rintro e w1 ⟨rfl, rfl⟩)
                  | ((with_reducible refine (ab_5 _ _).mono ?_); rintro e w1 ⟨rfl, rfl⟩)
                  | ((with_reducible refine (ab_35 _ _).mono ?_); rintro e w1 ⟨rfl, rfl⟩)
                  | ((with_reducible refine (ab_33 _ _).mono ?_); rintro e w1 ⟨rfl, rfl⟩)
                  | ((with_reducible refine (ab_22 _ _).mono ?_); rintro e w1 ⟨rfl, rfl⟩)))
        go_cut [16] (fun s wx => s = .int .i32 (abs_i32 (wrap32 v)) ∧ w = wx)
        case first =>
          by_cases hc : wrap32 v < wrap32 (-wrap32 v)
          · have E := Lib.hid (m32.1 hc)
            go_wp2_with fail
            go_meet
            exact ⟨by rw [E.out], rfl⟩
          · have E := Lib.hid (m32.2 hc)
            go_wp2_with fail
            go_meet
            exact ⟨by rw [E.out], rfl⟩
        case rest =>
          obtain ⟨rfl, rfl⟩ := hcut
          go_upto_if 85 with (first
                | (go_at_call 15; first
                    | ((with_reducible refine (ab_3 _ _).mono ?_); rintro e w1 ⟨rfl, rfl⟩)
                    | ((with_reducible refine (ab_31 _ _).mono ?_); rintro e w1 ⟨rfl, rfl⟩)
                    | ((with_reducible refine (ab_32 _ _).mono ?_); rintro e w1 ⟨rfl, rfl⟩)
                    | ((with_reducible refine (ab_21 _ _).mono ?_); rintro e w1 ⟨rfl, rfl⟩)
                    | ((with_reducible refine (ab_2 _ _).mono ?_); rintro e w1 ⟨rfl, rfl⟩)
                    | ((with_reducible refine (ab_34 _ _).mono ?_); rintro e w1 ⟨rfl, rfl⟩)
                    | ((with_reducible refine (ab_5 _ _).mono ?_); rintro e w1 ⟨rfl, rfl⟩)
                    | ((with_reducible refine (ab_35 _ _).mono ?_); rintro e w1 ⟨rfl, rfl⟩)
                    | ((with_reducible refine (ab_33 _ _).mono ?_); rintro e w1 ⟨rfl, rfl⟩)
                    | ((with_reducible refine (ab_22 _ _).mono ?_); rintro e w1 ⟨rfl, rfl⟩)))
          go_cut [17] (fun s wx => s = .int .i64 (abs_i64 v) ∧ w = wx)
          case first =>
            by_cases hc : v < wrap64 (-v)
            · have E := Lib.hid (m64.1 hc)
              go_wp2_with fail
              go_meet
              exact ⟨by rw [E.out], rfl⟩
            · have E := Lib.hid (m64.2 hc)
              go_wp2_with fail
              go_meet
              exact ⟨by rw [E.out], rfl⟩
          case rest =>
            obtain ⟨rfl, rfl⟩ := hcut
            rcases sx with n1 | ⟨n1, n2, n3, n4⟩ | ⟨n1, n2, n3⟩ <;> rcases sgn with k1 | ⟨k1, k2, k3, k4⟩ | ⟨k1, k2, k3⟩
            · have P := Lib.hid (show (FloatKind.f64.format.order x 0 == some .lt) = false by rw [Fl.order_nan_left _ (Fl.hi .f64) (fun hN => by rw [Fl.ord_eq .f64 hN hN rfl] at n1; cases n1)]; rfl)
              have Q := Lib.hid (show (FloatKind.f32.format.order g 0 == some .lt) = false by rw [Fl.order_nan_left _ (Fl.hi .f32) (fun hN => by rw [Fl.ord_eq .f32 hN hN rfl] at k1; cases k1)]; rfl)
              go_wp2_with (first
                    | (go_at_call 15; first
                        | ((with_reducible refine (ab_3 _ _).mono ?_); rintro e w1 ⟨rfl, rfl⟩)
                        | ((with_reducible refine (ab_31 _ _).mono ?_); rintro e w1 ⟨rfl, rfl⟩)
                        | ((with_reducible refine (ab_32 _ _).mono ?_); rintro e w1 ⟨rfl, rfl⟩)
                        | ((with_reducible refine (ab_21 _ _).mono ?_); rintro e w1 ⟨rfl, rfl⟩)
                        | ((with_reducible refine (ab_2 _ _).mono ?_); rintro e w1 ⟨rfl, rfl⟩)
                        | ((with_reducible refine (ab_34 _ _).mono ?_); rintro e w1 ⟨rfl, rfl⟩)
                        | ((with_reducible refine (ab_5 _ _).mono ?_); rintro e w1 ⟨rfl, rfl⟩)
                        | ((with_reducible refine (ab_35 _ _).mono ?_); rintro e w1 ⟨rfl, rfl⟩)
                        | ((with_reducible refine (ab_33 _ _).mono ?_); rintro e w1 ⟨rfl, rfl⟩)
                        | ((with_reducible refine (ab_22 _ _).mono ?_); rintro e w1 ⟨rfl, rfl⟩)
                        | ((with_reducible refine (ab_23_pos x _ P.out).mono ?_); rintro e w1 ⟨rfl, rfl⟩)
                        | ((with_reducible refine (ab_28_pos g _ Q.out).mono ?_); rintro e w1 ⟨rfl, rfl⟩)))
              go_ret
              exact ⟨rfl, Below.refl _ _⟩
            · have P := Lib.hid (show (FloatKind.f64.format.order x 0 == some .lt) = false by rw [Fl.order_nan_left _ (Fl.hi .f64) (fun hN => by rw [Fl.ord_eq .f64 hN hN rfl] at n1; cases n1)]; rfl)
              have Q := Lib.hid k2
              go_wp2_with (first
                    | (go_at_call 15; first
                        | ((with_reducible refine (ab_3 _ _).mono ?_); rintro e w1 ⟨rfl, rfl⟩)
                        | ((with_reducible refine (ab_31 _ _).mono ?_); rintro e w1 ⟨rfl, rfl⟩)
                        | ((with_reducible refine (ab_32 _ _).mono ?_); rintro e w1 ⟨rfl, rfl⟩)
                        | ((with_reducible refine (ab_21 _ _).mono ?_); rintro e w1 ⟨rfl, rfl⟩)
                        | ((with_reducible refine (ab_2 _ _).mono ?_); rintro e w1 ⟨rfl, rfl⟩)
                        | ((with_reducible refine (ab_34 _ _).mono ?_); rintro e w1 ⟨rfl, rfl⟩)
                        | ((with_reducible refine (ab_5 _ _).mono ?_); rintro e w1 ⟨rfl, rfl⟩)
                        | ((with_reducible refine (ab_35 _ _).mono ?_); rintro e w1 ⟨rfl, rfl⟩)
                        | ((with_reducible refine (ab_33 _ _).mono ?_); rintro e w1 ⟨rfl, rfl⟩)
                        | ((with_reducible refine (ab_22 _ _).mono ?_); rintro e w1 ⟨rfl, rfl⟩)
                        | ((with_reducible refine (ab_23_pos x _ P.out).mono ?_); rintro e w1 ⟨rfl, rfl⟩)
                        | ((with_reducible refine (ab_28_neg g _ Q.out).mono ?_); rintro e w1 ⟨rfl, rfl⟩)))
              go_ret
              exact ⟨rfl, Below.refl _ _⟩
            · have P := Lib.hid (show (FloatKind.f64.format.order x 0 == some .lt) = false by rw [Fl.order_nan_left _ (Fl.hi .f64) (fun hN => by rw [Fl.ord_eq .f64 hN hN rfl] at n1; cases n1)]; rfl)
              have Q := Lib.hid k2
              go_wp2_with (first
                    | (go_at_call 15; first
                        | ((with_reducible refine (ab_3 _ _).mono ?_); rintro e w1 ⟨rfl, rfl⟩)
                        | ((with_reducible refine (ab_31 _ _).mono ?_); rintro e w1 ⟨rfl, rfl⟩)
                        | ((with_reducible refine (ab_32 _ _).mono ?_); rintro e w1 ⟨rfl, rfl⟩)
                        | ((with_reducible refine (ab_21 _ _).mono ?_); rintro e w1 ⟨rfl, rfl⟩)
                        | ((with_reducible refine (ab_2 _ _).mono ?_); rintro e w1 ⟨rfl, rfl⟩)
                        | ((with_reducible refine (ab_34 _ _).mono ?_); rintro e w1 ⟨rfl, rfl⟩)
                        | ((with_reducible refine (ab_5 _ _).mono ?_); rintro e w1 ⟨rfl, rfl⟩)
                        | ((with_reducible refine (ab_35 _ _).mono ?_); rintro e w1 ⟨rfl, rfl⟩)
                        | ((with_reducible refine (ab_33 _ _).mono ?_); rintro e w1 ⟨rfl, rfl⟩)
                        | ((with_reducible refine (ab_22 _ _).mono ?_); rintro e w1 ⟨rfl, rfl⟩)
                        | ((with_reducible refine (ab_23_pos x _ P.out).mono ?_); rintro e w1 ⟨rfl, rfl⟩)
                        | ((with_reducible refine (ab_28_pos g _ Q.out).mono ?_); rintro e w1 ⟨rfl, rfl⟩)))
              go_ret
              exact ⟨rfl, Below.refl _ _⟩
            · have P := Lib.hid n2
              have Q := Lib.hid (show (FloatKind.f32.format.order g 0 == some .lt) = false by rw [Fl.order_nan_left _ (Fl.hi .f32) (fun hN => by rw [Fl.ord_eq .f32 hN hN rfl] at k1; cases k1)]; rfl)
              go_wp2_with (first
                    | (go_at_call 15; first
                        | ((with_reducible refine (ab_3 _ _).mono ?_); rintro e w1 ⟨rfl, rfl⟩)
                        | ((with_reducible refine (ab_31 _ _).mono ?_); rintro e w1 ⟨rfl, rfl⟩)
                        | ((with_reducible refine (ab_32 _ _).mono ?_); rintro e w1 ⟨rfl, rfl⟩)
                        | ((with_reducible refine (ab_21 _ _).mono ?_); rintro e w1 ⟨rfl, rfl⟩)
                        | ((with_reducible refine (ab_2 _ _).mono ?_); rintro e w1 ⟨rfl, rfl⟩)
                        | ((with_reducible refine (ab_34 _ _).mono ?_); rintro e w1 ⟨rfl, rfl⟩)
                        | ((with_reducible refine (ab_5 _ _).mono ?_); rintro e w1 ⟨rfl, rfl⟩)
                        | ((with_reducible refine (ab_35 _ _).mono ?_); rintro e w1 ⟨rfl, rfl⟩)
                        | ((with_reducible refine (ab_33 _ _).mono ?_); rintro e w1 ⟨rfl, rfl⟩)
                        | ((with_reducible refine (ab_22 _ _).mono ?_); rintro e w1 ⟨rfl, rfl⟩)
                        | ((with_reducible refine (ab_23_neg x _ P.out).mono ?_); rintro e w1 ⟨rfl, rfl⟩)
                        | ((with_reducible refine (ab_28_pos g _ Q.out).mono ?_); rintro e w1 ⟨rfl, rfl⟩)))
              go_ret
              exact ⟨rfl, Below.refl _ _⟩
            · have P := Lib.hid n2
              have Q := Lib.hid k2
              go_wp2_with (first
                    | (go_at_call 15; first
                        | ((with_reducible refine (ab_3 _ _).mono ?_); rintro e w1 ⟨rfl, rfl⟩)
                        | ((with_reducible refine (ab_31 _ _).mono ?_); rintro e w1 ⟨rfl, rfl⟩)
                        | ((with_reducible refine (ab_32 _ _).mono ?_); rintro e w1 ⟨rfl, rfl⟩)
                        | ((with_reducible refine (ab_21 _ _).mono ?_); rintro e w1 ⟨rfl, rfl⟩)
                        | ((with_reducible refine (ab_2 _ _).mono ?_); rintro e w1 ⟨rfl, rfl⟩)
                        | ((with_reducible refine (ab_34 _ _).mono ?_); rintro e w1 ⟨rfl, rfl⟩)
                        | ((with_reducible refine (ab_5 _ _).mono ?_); rintro e w1 ⟨rfl, rfl⟩)
                        | ((with_reducible refine (ab_35 _ _).mono ?_); rintro e w1 ⟨rfl, rfl⟩)
                        | ((with_reducible refine (ab_33 _ _).mono ?_); rintro e w1 ⟨rfl, rfl⟩)
                        | ((with_reducible refine (ab_22 _ _).mono ?_); rintro e w1 ⟨rfl, rfl⟩)
                        | ((with_reducible refine (ab_23_neg x _ P.out).mono ?_); rintro e w1 ⟨rfl, rfl⟩)
                        | ((with_reducible refine (ab_28_neg g _ Q.out).mono ?_); rintro e w1 ⟨rfl, rfl⟩)))
              go_ret
              exact ⟨rfl, Below.refl _ _⟩
            · have P := Lib.hid n2
              have Q := Lib.hid k2
              go_wp2_with (first
                    | (go_at_call 15; first
                        | ((with_reducible refine (ab_3 _ _).mono ?_); rintro e w1 ⟨rfl, rfl⟩)
                        | ((with_reducible refine (ab_31 _ _).mono ?_); rintro e w1 ⟨rfl, rfl⟩)
                        | ((with_reducible refine (ab_32 _ _).mono ?_); rintro e w1 ⟨rfl, rfl⟩)
                        | ((with_reducible refine (ab_21 _ _).mono ?_); rintro e w1 ⟨rfl, rfl⟩)
                        | ((with_reducible refine (ab_2 _ _).mono ?_); rintro e w1 ⟨rfl, rfl⟩)
                        | ((with_reducible refine (ab_34 _ _).mono ?_); rintro e w1 ⟨rfl, rfl⟩)
                        | ((with_reducible refine (ab_5 _ _).mono ?_); rintro e w1 ⟨rfl, rfl⟩)
                        | ((with_reducible refine (ab_35 _ _).mono ?_); rintro e w1 ⟨rfl, rfl⟩)
                        | ((with_reducible refine (ab_33 _ _).mono ?_); rintro e w1 ⟨rfl, rfl⟩)
                        | ((with_reducible refine (ab_22 _ _).mono ?_); rintro e w1 ⟨rfl, rfl⟩)
                        | ((with_reducible refine (ab_23_neg x _ P.out).mono ?_); rintro e w1 ⟨rfl, rfl⟩)
                        | ((with_reducible refine (ab_28_pos g _ Q.out).mono ?_); rintro e w1 ⟨rfl, rfl⟩)))
              go_ret
              exact ⟨rfl, Below.refl _ _⟩
            · have P := Lib.hid n2
              have Q := Lib.hid (show (FloatKind.f32.format.order g 0 == some .lt) = false by rw [Fl.order_nan_left _ (Fl.hi .f32) (fun hN => by rw [Fl.ord_eq .f32 hN hN rfl] at k1; cases k1)]; rfl)
              go_wp2_with (first
                    | (go_at_call 15; first
                        | ((with_reducible refine (ab_3 _ _).mono ?_); rintro e w1 ⟨rfl, rfl⟩)
                        | ((with_reducible refine (ab_31 _ _).mono ?_); rintro e w1 ⟨rfl, rfl⟩)
                        | ((with_reducible refine (ab_32 _ _).mono ?_); rintro e w1 ⟨rfl, rfl⟩)
                        | ((with_reducible refine (ab_21 _ _).mono ?_); rintro e w1 ⟨rfl, rfl⟩)
                        | ((with_reducible refine (ab_2 _ _).mono ?_); rintro e w1 ⟨rfl, rfl⟩)
                        | ((with_reducible refine (ab_34 _ _).mono ?_); rintro e w1 ⟨rfl, rfl⟩)
                        | ((with_reducible refine (ab_5 _ _).mono ?_); rintro e w1 ⟨rfl, rfl⟩)
                        | ((with_reducible refine (ab_35 _ _).mono ?_); rintro e w1 ⟨rfl, rfl⟩)
                        | ((with_reducible refine (ab_33 _ _).mono ?_); rintro e w1 ⟨rfl, rfl⟩)
                        | ((with_reducible refine (ab_22 _ _).mono ?_); rintro e w1 ⟨rfl, rfl⟩)
                        | ((with_reducible refine (ab_23_pos x _ P.out).mono ?_); rintro e w1 ⟨rfl, rfl⟩)
                        | ((with_reducible refine (ab_28_pos g _ Q.out).mono ?_); rintro e w1 ⟨rfl, rfl⟩)))
              go_ret
              exact ⟨rfl, Below.refl _ _⟩
            · have P := Lib.hid n2
              have Q := Lib.hid k2
              go_wp2_with (first
                    | (go_at_call 15; first
                        | ((with_reducible refine (ab_3 _ _).mono ?_); rintro e w1 ⟨rfl, rfl⟩)
                        | ((with_reducible refine (ab_31 _ _).mono ?_); rintro e w1 ⟨rfl, rfl⟩)
                        | ((with_reducible refine (ab_32 _ _).mono ?_); rintro e w1 ⟨rfl, rfl⟩)
                        | ((with_reducible refine (ab_21 _ _).mono ?_); rintro e w1 ⟨rfl, rfl⟩)
                        | ((with_reducible refine (ab_2 _ _).mono ?_); rintro e w1 ⟨rfl, rfl⟩)
                        | ((with_reducible refine (ab_34 _ _).mono ?_); rintro e w1 ⟨rfl, rfl⟩)
                        | ((with_reducible refine (ab_5 _ _).mono ?_); rintro e w1 ⟨rfl, rfl⟩)
                        | ((with_reducible refine (ab_35 _ _).mono ?_); rintro e w1 ⟨rfl, rfl⟩)
                        | ((with_reducible refine (ab_33 _ _).mono ?_); rintro e w1 ⟨rfl, rfl⟩)
                        | ((with_reducible refine (ab_22 _ _).mono ?_); rintro e w1 ⟨rfl, rfl⟩)
                        | ((with_reducible refine (ab_23_pos x _ P.out).mono ?_); rintro e w1 ⟨rfl, rfl⟩)
                        | ((with_reducible refine (ab_28_neg g _ Q.out).mono ?_); rintro e w1 ⟨rfl, rfl⟩)))
              go_ret
              exact ⟨rfl, Below.refl _ _⟩
            · have P := Lib.hid n2
              have Q := Lib.hid k2
              go_wp2_with (first
                    | (go_at_call 15; first
                        | ((with_reducible refine (ab_3 _ _).mono ?_); rintro e w1 ⟨rfl, rfl⟩)
                        | ((with_reducible refine (ab_31 _ _).mono ?_); rintro e w1 ⟨rfl, rfl⟩)
                        | ((with_reducible refine (ab_32 _ _).mono ?_); rintro e w1 ⟨rfl, rfl⟩)
                        | ((with_reducible refine (ab_21 _ _).mono ?_); rintro e w1 ⟨rfl, rfl⟩)
                        | ((with_reducible refine (ab_2 _ _).mono ?_); rintro e w1 ⟨rfl, rfl⟩)
                        | ((with_reducible refine (ab_34 _ _).mono ?_); rintro e w1 ⟨rfl, rfl⟩)
                        | ((with_reducible refine (ab_5 _ _).mono ?_); rintro e w1 ⟨rfl, rfl⟩)
                        | ((with_reducible refine (ab_35 _ _).mono ?_); rintro e w1 ⟨rfl, rfl⟩)
                        | ((with_reducible refine (ab_33 _ _).mono ?_); rintro e w1 ⟨rfl, rfl⟩)
                        | ((with_reducible refine (ab_22 _ _).mono ?_); rintro e w1 ⟨rfl, rfl⟩)
                        | ((with_reducible refine (ab_23_pos x _ P.out).mono ?_); rintro e w1 ⟨rfl, rfl⟩)
                        | ((with_reducible refine (ab_28_pos g _ Q.out).mono ?_); rintro e w1 ⟨rfl, rfl⟩)))
              go_ret
              exact ⟨rfl, Below.refl _ _⟩

theorem walk (a0 a1 : Int) (a2 a3 : Nat) (w : World) (w0 : (Lit.int .i64 a0).wf = true) (_w1 : (Lit.int .u64 a1).wf = true) (_w2 : (Lit.float .f64 a2).wf = true) (_w3 : (Lit.float .f32 a3).wf = true) :
    Calls Tryf.prog 9 #[.int .i64 a0, .int .u64 a1, .float .f64 a2, .float .f32 a3] w fun e w' => e = .returned (.bool true) ∧ Below w.heap.size w w' := by
  obtain ⟨x0, x1⟩ := bounds_i64 w0
  obtain ⟨p0, p1⟩ := bounds_i8w a0
  obtain ⟨q0, q1⟩ := bounds_i16w a0
  obtain ⟨r0, r1⟩ := bounds_i32w a0
  exact walk0 a0 a1 a2 a3 w ⟨abs_i64_up x0 x1, abs_i64_same x0 x1⟩ ⟨abs_i8_up p0 p1, abs_i8_same p0 p1⟩ ⟨abs_i16_up q0 q1, abs_i16_same q0 q1⟩ ⟨abs_i32_up r0 r1, abs_i32_same r0 r1⟩ (sign .f64 a2) (sign .f32 a3)
end Go.Proofs.YtlfpmjjdocknhaaFmt.fnAbsIsMaxOfValueAndNegation
