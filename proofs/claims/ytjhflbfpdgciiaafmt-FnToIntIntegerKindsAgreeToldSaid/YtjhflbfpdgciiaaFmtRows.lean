/-
  No cell of these rows narrows 'for every input' (looked for: loops, veiled, ifaces, maps, wideKeys, modest, calm, conditions, laid).
  DERIVED. THE GIVEN ROWS OF THIS SEAT. 2 by the template 'for every input the law returns true; each argument reads behind the call as it read before'; 0 by the template 'total and deterministic' (their statements: YtjhflbfpdgciiaaFmtTotals.lean).
  GIVEN WITH THE SEED: the statements are not yours to turn. If you find one false, say at which input.
  Laid BY PROGRAM, IN A SANDBOX (cutbox-rows.mjs): the forced cells as the released guide's own fill.sh prints them over the translation bde23194af2a2c60… (all of the seat's roots in one cut). By AI agents, Wed Nov 11 2026. No macro, syntax, notation, axiom, sorry.
-/
import Derived.Test.YtjhflbfpdgciiaaFmtChecked
import GoSem.Claim
import GoSem.ClaimJoined
import GoSem.ClaimMapViews
import Derived.JoinedTies
import Derived.KernelRfl
namespace Go.Proofs.YtjhflbfpdgciiaaFmt
/- THE CELL 'sum', in the pinned program and in every row, IS THE sha256 OF THE DUMP (.gsa) THAT YtjhflbfpdgciiaaFmtProg.lean LOADS. Nothing in Lean hashes anything: it is a label: what it is worth is what the hold of that sum in a sandbox is worth. -/
noncomputable def Tryf.pinned : Pinned := { name := "ytjhflbfpdgciiaafmt", sum := "bde23194af2a2c60a292d08eadbe757818d3ed76f38d7a7835fa3943958743f8", checked := Tryf.checked }
namespace Rows
def none {H : Type} : Left H := { results := [], args := [] }

/-- 'n003_17.FnToIntRefusesNonIntegers': WHATEVER THE INPUT: true; the input reads as it did. -/
def fnToIntRefusesNonIntegersSpec : ChangeSpec := { name := "fnToIntRefusesNonIntegers", fn := fun _ => fun
  | [d1, d2, d3] => { results := [.lit (.bool true)], args := [d1, d2, d3] }
  | _ => none }
def fnToIntRefusesNonIntegersRow : OpenClaim := { program := "ytjhflbfpdgciiaafmt", sum := "bde23194af2a2c60a292d08eadbe757818d3ed76f38d7a7835fa3943958743f8", func := "github.com/expr-lang/expr/n003_17.FnToIntRefusesNonIntegers", spec := "fnToIntRefusesNonIntegers", stops := ["fmt.errorf"], inPlace := ["fmt.errorf"], apart := false }
/-- NO THEOREM (fmt's text is open here; it may be false): for the released tool's asking of the row's closed facts alone. THE STATEMENT IS 'FnToIntRefusesNonIntegersToldSaid' (YtjhflbfpdgciiaaFmtCards.lean). -/
def FnToIntRefusesNonIntegersFormAsk : Prop := fnToIntRefusesNonIntegersRow.holds Tryf.pinned (OpenSpec.ofChange fnToIntRefusesNonIntegersSpec)

/-- ITS FALSE NEIGHBOUR: 'it returns false'. Refute it at one input. -/
def fnToIntRefusesNonIntegersWrong : ChangeSpec := { name := "fnToIntRefusesNonIntegers", fn := fun _ => fun
  | [d1, d2, d3] => { results := [.lit (.bool false)], args := [d1, d2, d3] }
  | _ => none }
def FnToIntRefusesNonIntegersWrongFormAsk : Prop := fnToIntRefusesNonIntegersRow.holds Tryf.pinned (OpenSpec.ofChange fnToIntRefusesNonIntegersWrong)

/-- 'n003_17.FnToIntIntegerKindsAgree': WHATEVER THE INPUT: true; the input reads as it did. -/
def fnToIntIntegerKindsAgreeSpec : ChangeSpec := { name := "fnToIntIntegerKindsAgree", fn := fun _ => fun
  | [d1, d2] => { results := [.lit (.bool true)], args := [d1, d2] }
  | _ => none }
def fnToIntIntegerKindsAgreeRow : OpenClaim := { program := "ytjhflbfpdgciiaafmt", sum := "bde23194af2a2c60a292d08eadbe757818d3ed76f38d7a7835fa3943958743f8", func := "github.com/expr-lang/expr/n003_17.FnToIntIntegerKindsAgree", spec := "fnToIntIntegerKindsAgree", stops := ["fmt.errorf"], inPlace := ["fmt.errorf"], apart := false }
/-- NO THEOREM (fmt's text is open here; it may be false): for the released tool's asking of the row's closed facts alone. THE STATEMENT IS 'FnToIntIntegerKindsAgreeToldSaid' (YtjhflbfpdgciiaaFmtCards.lean). -/
def FnToIntIntegerKindsAgreeFormAsk : Prop := fnToIntIntegerKindsAgreeRow.holds Tryf.pinned (OpenSpec.ofChange fnToIntIntegerKindsAgreeSpec)

/-- ITS FALSE NEIGHBOUR: 'it returns false'. Refute it at one input. -/
def fnToIntIntegerKindsAgreeWrong : ChangeSpec := { name := "fnToIntIntegerKindsAgree", fn := fun _ => fun
  | [d1, d2] => { results := [.lit (.bool false)], args := [d1, d2] }
  | _ => none }
def FnToIntIntegerKindsAgreeWrongFormAsk : Prop := fnToIntIntegerKindsAgreeRow.holds Tryf.pinned (OpenSpec.ofChange fnToIntIntegerKindsAgreeWrong)

end Rows
end Go.Proofs.YtjhflbfpdgciiaaFmt
