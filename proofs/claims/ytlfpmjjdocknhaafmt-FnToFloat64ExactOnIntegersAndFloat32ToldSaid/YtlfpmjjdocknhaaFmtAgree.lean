/- Small plain facts for the laws on agreement across kinds: an integer through a float and back; wraps there and back. No statement is proved here. -/
import Derived.Test.YtlfpmjjdocknhaaFmtFld
import Derived.WalkKit
namespace Go.Proofs.YtlfpmjjdocknhaaFmt
open Go.RowKit

theorem through (k : FloatKind) (n : Int) (h : n.natAbs ≤ 2 * k.format.binade) (h0 : -9223372036854775808 ≤ n) (h1 : n < 9223372036854775808) : floatToIntVal k (floatOfInt k n) .i64 = some n := by
  obtain ⟨es, ef⟩ := Fl.ofInt_exact k n h
  have hp : (0 : Int) < ((2 ^ Fl.ue k : Nat) : Int) := by have : 0 < 2 ^ Fl.ue k := Nat.two_pow_pos _; omega
  have ht : Fl.tr k (floatOfInt k n) = n := by
    by_cases hn : 0 ≤ n
    · obtain ⟨a, b, c⟩ := Fl.tr_nonneg k (floatOfInt k n) (by rw [es]; exact Int.mul_nonneg hn (by omega))
      rw [es] at b c
      have b' := Int.le_of_mul_le_mul_right b hp
      have c' := Int.lt_of_mul_lt_mul_right c (by omega)
      omega
    · obtain ⟨a, b, c⟩ := Fl.tr_nonpos k (floatOfInt k n) (by
        rw [es]
        have := Int.mul_lt_mul_of_pos_right (by omega : n < 0) hp
        omega)
      rw [es] at b c
      have b' := Int.le_of_mul_le_mul_right b hp
      have c' := Int.lt_of_mul_lt_mul_right c (by omega)
      omega
  have := Fl.floatToInt_tr k ef (by rw [es, ← Int.neg_mul]; exact Int.mul_le_mul_of_nonneg_right h0 (by omega)) (by rw [es]; exact Int.mul_lt_mul_of_pos_right h1 hp)
  rw [ht] at this
  exact this

theorem bin64n : FloatKind.f64.format.binade = 4503599627370496 := by decide +kernel
theorem bin32n : FloatKind.f32.format.binade = 8388608 := by decide +kernel
theorem through64 (n : Int) (h0 : -9007199254740992 ≤ n) (h1 : n ≤ 9007199254740992) : floatToIntVal .f64 (floatOfInt .f64 n) .i64 = some n := through .f64 n (by rw [bin64n]; omega) (by omega) (by omega)
theorem through32 (n : Int) (h0 : -16777216 ≤ n) (h1 : n ≤ 16777216) : floatToIntVal .f32 (floatOfInt .f32 n) .i64 = some n := through .f32 n (by rw [bin32n]; omega) (by omega) (by omega)

theorem there_back (w : Int) (h0 : -9223372036854775808 ≤ w) (h1 : w ≤ 9223372036854775807) : wrap64 (IntKind.u64.wrap w) = w := by
  unfold wrap64
  simp only [IntKind.wrap, IntKind.signed, IntKind.bits, Bool.false_and, Bool.false_eq_true, if_false]
  omega
theorem bounds_i64 {n : Int} (h : (Lit.int .i64 n).wf = true) : -9223372036854775808 ≤ n ∧ n ≤ 9223372036854775807 := by
  simpa [Lit.wf, IntKind.min, IntKind.max, IntKind.signed, IntKind.bits] using h
theorem bounds_i32 {n : Int} (h : (Lit.int .i32 n).wf = true) : -2147483648 ≤ n ∧ n ≤ 2147483647 := by
  simpa [Lit.wf, IntKind.min, IntKind.max, IntKind.signed, IntKind.bits] using h
end Go.Proofs.YtlfpmjjdocknhaaFmt
