/-
  DERIVED. GIVEN WITH THE SEED: THE CARDS: each row of YtlfpmjjdocknhaaFmtRows.lean that lists a variable, with what it lists TIED to the program's text (the seventh form; the later family's looks); each row that meets fmt, with fmt's text TOLD by the authors' own Lean function (tested against real Go, not proved from fmt's source: count such statements apart). THE CARD IS WHAT COUNTS. Prove the row's statement (the work); the ties are given (YtlfpmjjdocknhaaFmtTie.lean); close each card by the builder's one call (the guide's Derived/Test/ToyasCard.lean, 'card_holds'). Laid BY PROGRAM, IN A SANDBOX (cutbox-door.mjs). By AI agents, Wed Nov 11 2026. No macro, syntax, notation, axiom, sorry.
-/
import Derived.Test.YtlfpmjjdocknhaaFmtRows
import GoSem.ClaimSeven
namespace Go.Proofs.YtlfpmjjdocknhaaFmt
namespace Rows

/-- THE TOLD CARD OF 'n003_93.FnToFloat64IsMonotone'. -/
def fnToFloat64IsMonotoneCard : Claim7 := { stood := { row := fnToFloat64IsMonotoneRow, standIns := [], harness := (true, "1cac6d0cfbd1bef408c0cfa0b48f2ef722bc9cf30c9913debdd10cdf9b472adf"), looks := true }, told := true, goes := false }
def FnToFloat64IsMonotoneToldSaid : Prop := Claim7.holds Tryf.pinned (.plain (OpenSpec.ofChange fnToFloat64IsMonotoneSpec)) fnToFloat64IsMonotoneCard
/-- ITS FALSE NEIGHBOUR. Refute it at one input. -/
def FnToFloat64IsMonotoneToldWrongFalsely : Prop := Claim7.holds Tryf.pinned (.plain (OpenSpec.ofChange fnToFloat64IsMonotoneWrong)) fnToFloat64IsMonotoneCard

/-- THE TOLD CARD OF 'n003_93.FnToInt64TruncatesTowardZero'. -/
def fnToInt64TruncatesTowardZeroCard : Claim7 := { stood := { row := fnToInt64TruncatesTowardZeroRow, standIns := [], harness := (true, "1cac6d0cfbd1bef408c0cfa0b48f2ef722bc9cf30c9913debdd10cdf9b472adf"), looks := true }, told := true, goes := false }
def FnToInt64TruncatesTowardZeroToldSaid : Prop := Claim7.holds Tryf.pinned (.plain (OpenSpec.ofChange fnToInt64TruncatesTowardZeroSpec)) fnToInt64TruncatesTowardZeroCard
/-- ITS FALSE NEIGHBOUR. Refute it at one input. -/
def FnToInt64TruncatesTowardZeroToldWrongFalsely : Prop := Claim7.holds Tryf.pinned (.plain (OpenSpec.ofChange fnToInt64TruncatesTowardZeroWrong)) fnToInt64TruncatesTowardZeroCard

/-- THE TOLD CARD OF 'n003_93.FnToIntTruncatesTowardZero'. -/
def fnToIntTruncatesTowardZeroCard : Claim7 := { stood := { row := fnToIntTruncatesTowardZeroRow, standIns := [], harness := (true, "1cac6d0cfbd1bef408c0cfa0b48f2ef722bc9cf30c9913debdd10cdf9b472adf"), looks := true }, told := true, goes := false }
def FnToIntTruncatesTowardZeroToldSaid : Prop := Claim7.holds Tryf.pinned (.plain (OpenSpec.ofChange fnToIntTruncatesTowardZeroSpec)) fnToIntTruncatesTowardZeroCard
/-- ITS FALSE NEIGHBOUR. Refute it at one input. -/
def FnToIntTruncatesTowardZeroToldWrongFalsely : Prop := Claim7.holds Tryf.pinned (.plain (OpenSpec.ofChange fnToIntTruncatesTowardZeroWrong)) fnToIntTruncatesTowardZeroCard

/-- THE TOLD CARD OF 'n003_93.FnToIntAgreesAcrossNumericKinds'. -/
def fnToIntAgreesAcrossNumericKindsCard : Claim7 := { stood := { row := fnToIntAgreesAcrossNumericKindsRow, standIns := [], harness := (true, "1cac6d0cfbd1bef408c0cfa0b48f2ef722bc9cf30c9913debdd10cdf9b472adf"), looks := true }, told := true, goes := false }
def FnToIntAgreesAcrossNumericKindsToldSaid : Prop := Claim7.holds Tryf.pinned (.plain (OpenSpec.ofChange fnToIntAgreesAcrossNumericKindsSpec)) fnToIntAgreesAcrossNumericKindsCard
/-- ITS FALSE NEIGHBOUR. Refute it at one input. -/
def FnToIntAgreesAcrossNumericKindsToldWrongFalsely : Prop := Claim7.holds Tryf.pinned (.plain (OpenSpec.ofChange fnToIntAgreesAcrossNumericKindsWrong)) fnToIntAgreesAcrossNumericKindsCard

/-- THE TOLD CARD OF 'n003_93.FnToInt64AgreesAcrossNumericKinds'. -/
def fnToInt64AgreesAcrossNumericKindsCard : Claim7 := { stood := { row := fnToInt64AgreesAcrossNumericKindsRow, standIns := [], harness := (true, "1cac6d0cfbd1bef408c0cfa0b48f2ef722bc9cf30c9913debdd10cdf9b472adf"), looks := true }, told := true, goes := false }
def FnToInt64AgreesAcrossNumericKindsToldSaid : Prop := Claim7.holds Tryf.pinned (.plain (OpenSpec.ofChange fnToInt64AgreesAcrossNumericKindsSpec)) fnToInt64AgreesAcrossNumericKindsCard
/-- ITS FALSE NEIGHBOUR. Refute it at one input. -/
def FnToInt64AgreesAcrossNumericKindsToldWrongFalsely : Prop := Claim7.holds Tryf.pinned (.plain (OpenSpec.ofChange fnToInt64AgreesAcrossNumericKindsWrong)) fnToInt64AgreesAcrossNumericKindsCard

/-- THE TOLD CARD OF 'n003_93.FnToFloat64ExactOnIntegersAndFloat32'. -/
def fnToFloat64ExactOnIntegersAndFloat32Card : Claim7 := { stood := { row := fnToFloat64ExactOnIntegersAndFloat32Row, standIns := [], harness := (true, "1cac6d0cfbd1bef408c0cfa0b48f2ef722bc9cf30c9913debdd10cdf9b472adf"), looks := true }, told := true, goes := false }
def FnToFloat64ExactOnIntegersAndFloat32ToldSaid : Prop := Claim7.holds Tryf.pinned (.plain (OpenSpec.ofChange fnToFloat64ExactOnIntegersAndFloat32Spec)) fnToFloat64ExactOnIntegersAndFloat32Card
/-- ITS FALSE NEIGHBOUR. Refute it at one input. -/
def FnToFloat64ExactOnIntegersAndFloat32ToldWrongFalsely : Prop := Claim7.holds Tryf.pinned (.plain (OpenSpec.ofChange fnToFloat64ExactOnIntegersAndFloat32Wrong)) fnToFloat64ExactOnIntegersAndFloat32Card

/-- THE TOLD CARD OF 'n003_31.FnAbsIsMaxOfValueAndNegation'. -/
def fnAbsIsMaxOfValueAndNegationCard : Claim7 := { stood := { row := fnAbsIsMaxOfValueAndNegationRow, standIns := [], harness := (true, "1cac6d0cfbd1bef408c0cfa0b48f2ef722bc9cf30c9913debdd10cdf9b472adf"), looks := true }, told := true, goes := false }
def FnAbsIsMaxOfValueAndNegationToldSaid : Prop := Claim7.holds Tryf.pinned (.plain (OpenSpec.ofChange fnAbsIsMaxOfValueAndNegationSpec)) fnAbsIsMaxOfValueAndNegationCard
/-- ITS FALSE NEIGHBOUR. Refute it at one input. -/
def FnAbsIsMaxOfValueAndNegationToldWrongFalsely : Prop := Claim7.holds Tryf.pinned (.plain (OpenSpec.ofChange fnAbsIsMaxOfValueAndNegationWrong)) fnAbsIsMaxOfValueAndNegationCard

/-- THE TOLD CARD OF 'n003_31.FnAbsIdempotentAndEven'. -/
def fnAbsIdempotentAndEvenCard : Claim7 := { stood := { row := fnAbsIdempotentAndEvenRow, standIns := [], harness := (true, "1cac6d0cfbd1bef408c0cfa0b48f2ef722bc9cf30c9913debdd10cdf9b472adf"), looks := true }, told := true, goes := false }
def FnAbsIdempotentAndEvenToldSaid : Prop := Claim7.holds Tryf.pinned (.plain (OpenSpec.ofChange fnAbsIdempotentAndEvenSpec)) fnAbsIdempotentAndEvenCard
/-- ITS FALSE NEIGHBOUR. Refute it at one input. -/
def FnAbsIdempotentAndEvenToldWrongFalsely : Prop := Claim7.holds Tryf.pinned (.plain (OpenSpec.ofChange fnAbsIdempotentAndEvenWrong)) fnAbsIdempotentAndEvenCard
end Rows
end Go.Proofs.YtlfpmjjdocknhaaFmt
