/-
  DERIVED. GIVEN WITH THE SEED: THE CARDS: each row of YtjhflbfpdgciiaaFmtRows.lean that lists a variable, with what it lists TIED to the program's text (the seventh form; the later family's looks); each row that meets fmt, with fmt's text TOLD by the authors' own Lean function (tested against real Go, not proved from fmt's source: count such statements apart). THE CARD IS WHAT COUNTS. Prove the row's statement (the work); the ties are given (YtjhflbfpdgciiaaFmtTie.lean); close each card by the builder's one call (the guide's Derived/Test/ToyasCard.lean, 'card_holds'). Laid BY PROGRAM, IN A SANDBOX (cutbox-door.mjs). By AI agents, Wed Nov 11 2026. No macro, syntax, notation, axiom, sorry.
-/
import Derived.Test.YtjhflbfpdgciiaaFmtRows
import GoSem.ClaimSeven
namespace Go.Proofs.YtjhflbfpdgciiaaFmt
namespace Rows

/-- THE TOLD CARD OF 'n003_17.FnToIntRefusesNonIntegers'. -/
def fnToIntRefusesNonIntegersCard : Claim7 := { stood := { row := fnToIntRefusesNonIntegersRow, standIns := [], harness := (true, "e5bddfe6f72ebec118d1c7ea7a98b72472f9804851e5cdec081c42354a055250"), looks := true }, told := true, goes := false }
def FnToIntRefusesNonIntegersToldSaid : Prop := Claim7.holds Tryf.pinned (.plain (OpenSpec.ofChange fnToIntRefusesNonIntegersSpec)) fnToIntRefusesNonIntegersCard
/-- ITS FALSE NEIGHBOUR. Refute it at one input. -/
def FnToIntRefusesNonIntegersToldWrongFalsely : Prop := Claim7.holds Tryf.pinned (.plain (OpenSpec.ofChange fnToIntRefusesNonIntegersWrong)) fnToIntRefusesNonIntegersCard

/-- THE TOLD CARD OF 'n003_17.FnToIntIntegerKindsAgree'. -/
def fnToIntIntegerKindsAgreeCard : Claim7 := { stood := { row := fnToIntIntegerKindsAgreeRow, standIns := [], harness := (true, "e5bddfe6f72ebec118d1c7ea7a98b72472f9804851e5cdec081c42354a055250"), looks := true }, told := true, goes := false }
def FnToIntIntegerKindsAgreeToldSaid : Prop := Claim7.holds Tryf.pinned (.plain (OpenSpec.ofChange fnToIntIntegerKindsAgreeSpec)) fnToIntIntegerKindsAgreeCard
/-- ITS FALSE NEIGHBOUR. Refute it at one input. -/
def FnToIntIntegerKindsAgreeToldWrongFalsely : Prop := Claim7.holds Tryf.pinned (.plain (OpenSpec.ofChange fnToIntIntegerKindsAgreeWrong)) fnToIntIntegerKindsAgreeCard
end Rows
end Go.Proofs.YtjhflbfpdgciiaaFmt
