/-
  DERIVED. GIVEN WITH THE SEED: THE CARDS: each row of YtncmmnpdmfkehaaFmtRows.lean that lists a variable, with what it lists TIED to the program's text (the seventh form; the later family's looks); each row that meets fmt, with fmt's text TOLD by the authors' own Lean function (tested against real Go, not proved from fmt's source: count such statements apart). THE CARD IS WHAT COUNTS. Prove the row's statement (the work); the ties are given (YtncmmnpdmfkehaaFmtTie.lean); close each card by the builder's one call (the guide's Derived/Test/ToyasCard.lean, 'card_holds'). Laid BY PROGRAM, IN A SANDBOX (cutbox-door.mjs). By AI agents, Wed Nov 11 2026. No macro, syntax, notation, axiom, sorry.
-/
import Derived.Test.YtncmmnpdmfkehaaFmtRows
import GoSem.ClaimSeven
namespace Go.Proofs.YtncmmnpdmfkehaaFmt
namespace Rows

/-- THE TOLD CARD OF 'n003_27.FnStringOfInt64IsDecimal'. -/
def fnStringOfInt64IsDecimalCard : Claim7 := { stood := { row := fnStringOfInt64IsDecimalRow, standIns := [], harness := (true, "238646b6bf4e7a414fade581b777901990e668a93f9f290ab810d6156687c201"), looks := true }, told := true, goes := false }
def FnStringOfInt64IsDecimalToldSaid : Prop := Claim7.holds Tryf.pinned (.plain (OpenSpec.ofChange fnStringOfInt64IsDecimalSpec)) fnStringOfInt64IsDecimalCard
/-- ITS FALSE NEIGHBOUR. Refute it at one input. -/
def FnStringOfInt64IsDecimalToldWrongFalsely : Prop := Claim7.holds Tryf.pinned (.plain (OpenSpec.ofChange fnStringOfInt64IsDecimalWrong)) fnStringOfInt64IsDecimalCard

/-- THE TOLD CARD OF 'n003_27.FnStringIdentityOnTextAndBool'. -/
def fnStringIdentityOnTextAndBoolCard : Claim7 := { stood := { row := fnStringIdentityOnTextAndBoolRow, standIns := [], harness := (true, "238646b6bf4e7a414fade581b777901990e668a93f9f290ab810d6156687c201"), looks := true }, told := true, goes := false }
def FnStringIdentityOnTextAndBoolToldSaid : Prop := Claim7.holds Tryf.pinned (.plain (OpenSpec.ofChange fnStringIdentityOnTextAndBoolSpec)) fnStringIdentityOnTextAndBoolCard
/-- ITS FALSE NEIGHBOUR. Refute it at one input. -/
def FnStringIdentityOnTextAndBoolToldWrongFalsely : Prop := Claim7.holds Tryf.pinned (.plain (OpenSpec.ofChange fnStringIdentityOnTextAndBoolWrong)) fnStringIdentityOnTextAndBoolCard
end Rows
end Go.Proofs.YtncmmnpdmfkehaaFmt
