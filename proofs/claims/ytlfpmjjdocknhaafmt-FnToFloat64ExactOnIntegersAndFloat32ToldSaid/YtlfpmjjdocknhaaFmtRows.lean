/-
  No cell of these rows narrows 'for every input' (looked for: loops, veiled, ifaces, maps, wideKeys, modest, calm, conditions, laid).
  DERIVED. THE GIVEN ROWS OF THIS SEAT. 8 by the template 'for every input the law returns true; each argument reads behind the call as it read before'; 0 by the template 'total and deterministic' (their statements: YtlfpmjjdocknhaaFmtTotals.lean).
  GIVEN WITH THE SEED: the statements are not yours to turn. If you find one false, say at which input.
  Laid BY PROGRAM, IN A SANDBOX (cutbox-rows.mjs): the forced cells as the released guide's own fill.sh prints them over the translation b29a285836fa73ea… (all of the seat's roots in one cut). By AI agents, Wed Nov 11 2026. No macro, syntax, notation, axiom, sorry.
-/
import Derived.Test.YtlfpmjjdocknhaaFmtChecked
import GoSem.Claim
import GoSem.ClaimJoined
import GoSem.ClaimMapViews
import Derived.JoinedTies
import Derived.KernelRfl
namespace Go.Proofs.YtlfpmjjdocknhaaFmt
/- THE CELL 'sum', in the pinned program and in every row, IS THE sha256 OF THE DUMP (.gsa) THAT YtlfpmjjdocknhaaFmtProg.lean LOADS. Nothing in Lean hashes anything: it is a label: what it is worth is what the hold of that sum in a sandbox is worth. -/
noncomputable def Tryf.pinned : Pinned := { name := "ytlfpmjjdocknhaafmt", sum := "b29a285836fa73ea597208fadffcc6bd7c6f846e531d317e765373e354a410ee", checked := Tryf.checked }
namespace Rows
def none {H : Type} : Left H := { results := [], args := [] }

/-- 'n003_93.FnToFloat64IsMonotone': WHATEVER THE INPUT: true; the input reads as it did. -/
def fnToFloat64IsMonotoneSpec : ChangeSpec := { name := "fnToFloat64IsMonotone", fn := fun _ => fun
  | [d1, d2, d3, d4] => { results := [.lit (.bool true)], args := [d1, d2, d3, d4] }
  | _ => none }
def fnToFloat64IsMonotoneRow : OpenClaim := { program := "ytlfpmjjdocknhaafmt", sum := "b29a285836fa73ea597208fadffcc6bd7c6f846e531d317e765373e354a410ee", func := "github.com/expr-lang/expr/n003_93.FnToFloat64IsMonotone", spec := "fnToFloat64IsMonotone", stops := ["fmt.Sprintf"], inPlace := ["fmt.Sprintf"], apart := false }
/-- NO THEOREM (fmt's text is open here; it may be false): for the released tool's asking of the row's closed facts alone. THE STATEMENT IS 'FnToFloat64IsMonotoneToldSaid' (YtlfpmjjdocknhaaFmtCards.lean). -/
def FnToFloat64IsMonotoneFormAsk : Prop := fnToFloat64IsMonotoneRow.holds Tryf.pinned (OpenSpec.ofChange fnToFloat64IsMonotoneSpec)

/-- ITS FALSE NEIGHBOUR: 'it returns false'. Refute it at one input. -/
def fnToFloat64IsMonotoneWrong : ChangeSpec := { name := "fnToFloat64IsMonotone", fn := fun _ => fun
  | [d1, d2, d3, d4] => { results := [.lit (.bool false)], args := [d1, d2, d3, d4] }
  | _ => none }
def FnToFloat64IsMonotoneWrongFormAsk : Prop := fnToFloat64IsMonotoneRow.holds Tryf.pinned (OpenSpec.ofChange fnToFloat64IsMonotoneWrong)

/-- 'n003_93.FnToInt64TruncatesTowardZero': WHATEVER THE INPUT: true; the input reads as it did. -/
def fnToInt64TruncatesTowardZeroSpec : ChangeSpec := { name := "fnToInt64TruncatesTowardZero", fn := fun _ => fun
  | [d] => { results := [.lit (.bool true)], args := [d] }
  | _ => none }
def fnToInt64TruncatesTowardZeroRow : OpenClaim := { program := "ytlfpmjjdocknhaafmt", sum := "b29a285836fa73ea597208fadffcc6bd7c6f846e531d317e765373e354a410ee", func := "github.com/expr-lang/expr/n003_93.FnToInt64TruncatesTowardZero", spec := "fnToInt64TruncatesTowardZero", stops := ["fmt.Sprintf"], inPlace := ["fmt.Sprintf"], apart := false }
/-- NO THEOREM (fmt's text is open here; it may be false): for the released tool's asking of the row's closed facts alone. THE STATEMENT IS 'FnToInt64TruncatesTowardZeroToldSaid' (YtlfpmjjdocknhaaFmtCards.lean). -/
def FnToInt64TruncatesTowardZeroFormAsk : Prop := fnToInt64TruncatesTowardZeroRow.holds Tryf.pinned (OpenSpec.ofChange fnToInt64TruncatesTowardZeroSpec)

/-- ITS FALSE NEIGHBOUR: 'it returns false'. Refute it at one input. -/
def fnToInt64TruncatesTowardZeroWrong : ChangeSpec := { name := "fnToInt64TruncatesTowardZero", fn := fun _ => fun
  | [d] => { results := [.lit (.bool false)], args := [d] }
  | _ => none }
def FnToInt64TruncatesTowardZeroWrongFormAsk : Prop := fnToInt64TruncatesTowardZeroRow.holds Tryf.pinned (OpenSpec.ofChange fnToInt64TruncatesTowardZeroWrong)

/-- 'n003_93.FnToIntTruncatesTowardZero': WHATEVER THE INPUT: true; the input reads as it did. -/
def fnToIntTruncatesTowardZeroSpec : ChangeSpec := { name := "fnToIntTruncatesTowardZero", fn := fun _ => fun
  | [d] => { results := [.lit (.bool true)], args := [d] }
  | _ => none }
def fnToIntTruncatesTowardZeroRow : OpenClaim := { program := "ytlfpmjjdocknhaafmt", sum := "b29a285836fa73ea597208fadffcc6bd7c6f846e531d317e765373e354a410ee", func := "github.com/expr-lang/expr/n003_93.FnToIntTruncatesTowardZero", spec := "fnToIntTruncatesTowardZero", stops := ["fmt.Sprintf"], inPlace := ["fmt.Sprintf"], apart := false }
/-- NO THEOREM (fmt's text is open here; it may be false): for the released tool's asking of the row's closed facts alone. THE STATEMENT IS 'FnToIntTruncatesTowardZeroToldSaid' (YtlfpmjjdocknhaaFmtCards.lean). -/
def FnToIntTruncatesTowardZeroFormAsk : Prop := fnToIntTruncatesTowardZeroRow.holds Tryf.pinned (OpenSpec.ofChange fnToIntTruncatesTowardZeroSpec)

/-- ITS FALSE NEIGHBOUR: 'it returns false'. Refute it at one input. -/
def fnToIntTruncatesTowardZeroWrong : ChangeSpec := { name := "fnToIntTruncatesTowardZero", fn := fun _ => fun
  | [d] => { results := [.lit (.bool false)], args := [d] }
  | _ => none }
def FnToIntTruncatesTowardZeroWrongFormAsk : Prop := fnToIntTruncatesTowardZeroRow.holds Tryf.pinned (OpenSpec.ofChange fnToIntTruncatesTowardZeroWrong)

/-- 'n003_93.FnToIntAgreesAcrossNumericKinds': WHATEVER THE INPUT: true; the input reads as it did. -/
def fnToIntAgreesAcrossNumericKindsSpec : ChangeSpec := { name := "fnToIntAgreesAcrossNumericKinds", fn := fun _ => fun
  | [d1, d2] => { results := [.lit (.bool true)], args := [d1, d2] }
  | _ => none }
def fnToIntAgreesAcrossNumericKindsRow : OpenClaim := { program := "ytlfpmjjdocknhaafmt", sum := "b29a285836fa73ea597208fadffcc6bd7c6f846e531d317e765373e354a410ee", func := "github.com/expr-lang/expr/n003_93.FnToIntAgreesAcrossNumericKinds", spec := "fnToIntAgreesAcrossNumericKinds", stops := ["fmt.Sprintf"], inPlace := ["fmt.Sprintf"], apart := false }
/-- NO THEOREM (fmt's text is open here; it may be false): for the released tool's asking of the row's closed facts alone. THE STATEMENT IS 'FnToIntAgreesAcrossNumericKindsToldSaid' (YtlfpmjjdocknhaaFmtCards.lean). -/
def FnToIntAgreesAcrossNumericKindsFormAsk : Prop := fnToIntAgreesAcrossNumericKindsRow.holds Tryf.pinned (OpenSpec.ofChange fnToIntAgreesAcrossNumericKindsSpec)

/-- ITS FALSE NEIGHBOUR: 'it returns false'. Refute it at one input. -/
def fnToIntAgreesAcrossNumericKindsWrong : ChangeSpec := { name := "fnToIntAgreesAcrossNumericKinds", fn := fun _ => fun
  | [d1, d2] => { results := [.lit (.bool false)], args := [d1, d2] }
  | _ => none }
def FnToIntAgreesAcrossNumericKindsWrongFormAsk : Prop := fnToIntAgreesAcrossNumericKindsRow.holds Tryf.pinned (OpenSpec.ofChange fnToIntAgreesAcrossNumericKindsWrong)

/-- 'n003_93.FnToInt64AgreesAcrossNumericKinds': WHATEVER THE INPUT: true; the input reads as it did. -/
def fnToInt64AgreesAcrossNumericKindsSpec : ChangeSpec := { name := "fnToInt64AgreesAcrossNumericKinds", fn := fun _ => fun
  | [d] => { results := [.lit (.bool true)], args := [d] }
  | _ => none }
def fnToInt64AgreesAcrossNumericKindsRow : OpenClaim := { program := "ytlfpmjjdocknhaafmt", sum := "b29a285836fa73ea597208fadffcc6bd7c6f846e531d317e765373e354a410ee", func := "github.com/expr-lang/expr/n003_93.FnToInt64AgreesAcrossNumericKinds", spec := "fnToInt64AgreesAcrossNumericKinds", stops := ["fmt.Sprintf"], inPlace := ["fmt.Sprintf"], apart := false }
/-- NO THEOREM (fmt's text is open here; it may be false): for the released tool's asking of the row's closed facts alone. THE STATEMENT IS 'FnToInt64AgreesAcrossNumericKindsToldSaid' (YtlfpmjjdocknhaaFmtCards.lean). -/
def FnToInt64AgreesAcrossNumericKindsFormAsk : Prop := fnToInt64AgreesAcrossNumericKindsRow.holds Tryf.pinned (OpenSpec.ofChange fnToInt64AgreesAcrossNumericKindsSpec)

/-- ITS FALSE NEIGHBOUR: 'it returns false'. Refute it at one input. -/
def fnToInt64AgreesAcrossNumericKindsWrong : ChangeSpec := { name := "fnToInt64AgreesAcrossNumericKinds", fn := fun _ => fun
  | [d] => { results := [.lit (.bool false)], args := [d] }
  | _ => none }
def FnToInt64AgreesAcrossNumericKindsWrongFormAsk : Prop := fnToInt64AgreesAcrossNumericKindsRow.holds Tryf.pinned (OpenSpec.ofChange fnToInt64AgreesAcrossNumericKindsWrong)

/-- 'n003_93.FnToFloat64ExactOnIntegersAndFloat32': WHATEVER THE INPUT: true; the input reads as it did. -/
def fnToFloat64ExactOnIntegersAndFloat32Spec : ChangeSpec := { name := "fnToFloat64ExactOnIntegersAndFloat32", fn := fun _ => fun
  | [d1, d2, d3] => { results := [.lit (.bool true)], args := [d1, d2, d3] }
  | _ => none }
def fnToFloat64ExactOnIntegersAndFloat32Row : OpenClaim := { program := "ytlfpmjjdocknhaafmt", sum := "b29a285836fa73ea597208fadffcc6bd7c6f846e531d317e765373e354a410ee", func := "github.com/expr-lang/expr/n003_93.FnToFloat64ExactOnIntegersAndFloat32", spec := "fnToFloat64ExactOnIntegersAndFloat32", stops := ["fmt.Sprintf"], inPlace := ["fmt.Sprintf"], apart := false }
/-- NO THEOREM (fmt's text is open here; it may be false): for the released tool's asking of the row's closed facts alone. THE STATEMENT IS 'FnToFloat64ExactOnIntegersAndFloat32ToldSaid' (YtlfpmjjdocknhaaFmtCards.lean). -/
def FnToFloat64ExactOnIntegersAndFloat32FormAsk : Prop := fnToFloat64ExactOnIntegersAndFloat32Row.holds Tryf.pinned (OpenSpec.ofChange fnToFloat64ExactOnIntegersAndFloat32Spec)

/-- ITS FALSE NEIGHBOUR: 'it returns false'. Refute it at one input. -/
def fnToFloat64ExactOnIntegersAndFloat32Wrong : ChangeSpec := { name := "fnToFloat64ExactOnIntegersAndFloat32", fn := fun _ => fun
  | [d1, d2, d3] => { results := [.lit (.bool false)], args := [d1, d2, d3] }
  | _ => none }
def FnToFloat64ExactOnIntegersAndFloat32WrongFormAsk : Prop := fnToFloat64ExactOnIntegersAndFloat32Row.holds Tryf.pinned (OpenSpec.ofChange fnToFloat64ExactOnIntegersAndFloat32Wrong)

/-- 'n003_31.FnAbsIsMaxOfValueAndNegation': WHATEVER THE INPUT: true; the input reads as it did. -/
def fnAbsIsMaxOfValueAndNegationSpec : ChangeSpec := { name := "fnAbsIsMaxOfValueAndNegation", fn := fun _ => fun
  | [d1, d2, d3, d4] => { results := [.lit (.bool true)], args := [d1, d2, d3, d4] }
  | _ => none }
def fnAbsIsMaxOfValueAndNegationRow : OpenClaim := { program := "ytlfpmjjdocknhaafmt", sum := "b29a285836fa73ea597208fadffcc6bd7c6f846e531d317e765373e354a410ee", func := "github.com/expr-lang/expr/n003_31.FnAbsIsMaxOfValueAndNegation", spec := "fnAbsIsMaxOfValueAndNegation", stops := ["fmt.Sprintf"], inPlace := ["fmt.Sprintf"], apart := false }
/-- NO THEOREM (fmt's text is open here; it may be false): for the released tool's asking of the row's closed facts alone. THE STATEMENT IS 'FnAbsIsMaxOfValueAndNegationToldSaid' (YtlfpmjjdocknhaaFmtCards.lean). -/
def FnAbsIsMaxOfValueAndNegationFormAsk : Prop := fnAbsIsMaxOfValueAndNegationRow.holds Tryf.pinned (OpenSpec.ofChange fnAbsIsMaxOfValueAndNegationSpec)

/-- ITS FALSE NEIGHBOUR: 'it returns false'. Refute it at one input. -/
def fnAbsIsMaxOfValueAndNegationWrong : ChangeSpec := { name := "fnAbsIsMaxOfValueAndNegation", fn := fun _ => fun
  | [d1, d2, d3, d4] => { results := [.lit (.bool false)], args := [d1, d2, d3, d4] }
  | _ => none }
def FnAbsIsMaxOfValueAndNegationWrongFormAsk : Prop := fnAbsIsMaxOfValueAndNegationRow.holds Tryf.pinned (OpenSpec.ofChange fnAbsIsMaxOfValueAndNegationWrong)

/-- 'n003_31.FnAbsIdempotentAndEven': WHATEVER THE INPUT: true; the input reads as it did. -/
def fnAbsIdempotentAndEvenSpec : ChangeSpec := { name := "fnAbsIdempotentAndEven", fn := fun _ => fun
  | [d1, d2, d3] => { results := [.lit (.bool true)], args := [d1, d2, d3] }
  | _ => none }
def fnAbsIdempotentAndEvenRow : OpenClaim := { program := "ytlfpmjjdocknhaafmt", sum := "b29a285836fa73ea597208fadffcc6bd7c6f846e531d317e765373e354a410ee", func := "github.com/expr-lang/expr/n003_31.FnAbsIdempotentAndEven", spec := "fnAbsIdempotentAndEven", stops := ["fmt.Sprintf"], inPlace := ["fmt.Sprintf"], apart := false }
/-- NO THEOREM (fmt's text is open here; it may be false): for the released tool's asking of the row's closed facts alone. THE STATEMENT IS 'FnAbsIdempotentAndEvenToldSaid' (YtlfpmjjdocknhaaFmtCards.lean). -/
def FnAbsIdempotentAndEvenFormAsk : Prop := fnAbsIdempotentAndEvenRow.holds Tryf.pinned (OpenSpec.ofChange fnAbsIdempotentAndEvenSpec)

/-- ITS FALSE NEIGHBOUR: 'it returns false'. Refute it at one input. -/
def fnAbsIdempotentAndEvenWrong : ChangeSpec := { name := "fnAbsIdempotentAndEven", fn := fun _ => fun
  | [d1, d2, d3] => { results := [.lit (.bool false)], args := [d1, d2, d3] }
  | _ => none }
def FnAbsIdempotentAndEvenWrongFormAsk : Prop := fnAbsIdempotentAndEvenRow.holds Tryf.pinned (OpenSpec.ofChange fnAbsIdempotentAndEvenWrong)

end Rows
end Go.Proofs.YtlfpmjjdocknhaaFmt
