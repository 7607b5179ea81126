/- For every int64 n the law FnStringOfInt64IsDecimal returns true and writes nothing that was there, fmt's text told. Conditions: none. -/
import Derived.Test.YtncmmnpdmfkehaaFmtItoa
namespace Go.Proofs.YtncmmnpdmfkehaaFmt.fnStringOfInt64IsDecimal
open Go.RowKit Go.Extern.Stop Go.Stop Go.Extern Go.Kit Go.Proofs.YtncmmnpdmfkehaaFmt

theorem bel1 (w : World) (o : Obj) : Below w.heap.size w (w.alloc o).drew := ((Below.refl _ _).alloc (Nat.le_refl _) _).drew

theorem s5 (F : Interp) (n : Int) (w : World) (hF : F.told.answers w.tape) (hw : (Lit.int .i64 n).wf = true) :
    Calls Tryf.prog 5 #[.int .i64 n] w fun e w' => e = .returned (.string ⟨(Lib.itoa n).toArray⟩) ∧ Below w.heap.size w w' := by
  have hl := FmtText.itoa_length_le hw
  have e : FmtStop.textOf (F.told "fmt.Sprintf" [[37, 118], shape2, digits 8 (n % 18446744073709551616).toNat] 0) = ⟨(Lib.itoa n).toArray⟩ :=
    told_text F (t_int n hw) (by omega)
  refine (z5 F.told n w hF).mono ?_
  rintro e1 w1 ⟨rfl, rfl⟩
  rw [e]
  exact ⟨rfl, bel1 _ _⟩

set_option maxHeartbeats 1000000 in
theorem walk (F : Interp) (a0 : Int) (w : World) (hF : F.told.answers w.tape) (w0 : (Lit.int .i64 a0).wf = true) :
    Calls Tryf.prog 3 #[.int .i64 a0] w fun e w' => e = .returned (.bool true) ∧ Below w.heap.size w w' := by
  have hb : -9223372036854775808 ≤ a0 ∧ a0 ≤ 9223372036854775807 := by
    simpa [Lit.wf, IntKind.min, IntKind.max, IntKind.signed, IntKind.bits] using w0
  obtain ⟨h0, h1⟩ := hb
  have H := Lib.hid hF
  have W := Lib.hid w0
  clear hF w0
  go_enter Tryf.func3, Tryf.ntmps3
  go_wp2_with fail
  refine (s5 F a0 _ H.out W.out).mono ?_
  rintro e w1 ⟨rfl, b1⟩
  go_wp2_with fail
  refine (itoa_any a0 _ h0 h1).mono ?_
  rintro e w2 ⟨rfl, b2⟩
  have c2 := b1.trans (b2.mono b1.size)
  go_wp2_with fail
  go_ret
  exact ⟨rfl, c2⟩
end Go.Proofs.YtncmmnpdmfkehaaFmt.fnStringOfInt64IsDecimal
