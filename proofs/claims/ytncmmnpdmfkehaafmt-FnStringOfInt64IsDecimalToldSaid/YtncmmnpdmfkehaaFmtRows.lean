/-
  No cell of these rows narrows 'for every input' (looked for: loops, veiled, ifaces, maps, wideKeys, modest, calm, conditions, laid).
  DERIVED. THE GIVEN ROWS OF THIS SEAT. 2 by the template 'for every input the law returns true; each argument reads behind the call as it read before'; 0 by the template 'total and deterministic' (their statements: YtncmmnpdmfkehaaFmtTotals.lean).
  GIVEN WITH THE SEED: the statements are not yours to turn. If you find one false, say at which input.
  Laid BY PROGRAM, IN A SANDBOX (cutbox-rows.mjs): the forced cells as the released guide's own fill.sh prints them over the translation e2731fef797942c6… (all of the seat's roots in one cut). By AI agents, Wed Nov 11 2026. No macro, syntax, notation, axiom, sorry.
-/
import Derived.Test.YtncmmnpdmfkehaaFmtChecked
import GoSem.Claim
import GoSem.ClaimJoined
import GoSem.ClaimMapViews
import Derived.JoinedTies
import Derived.KernelRfl
namespace Go.Proofs.YtncmmnpdmfkehaaFmt
/- THE CELL 'sum', in the pinned program and in every row, IS THE sha256 OF THE DUMP (.gsa) THAT YtncmmnpdmfkehaaFmtProg.lean LOADS. Nothing in Lean hashes anything: it is a label: what it is worth is what the hold of that sum in a sandbox is worth. -/
noncomputable def Tryf.pinned : Pinned := { name := "ytncmmnpdmfkehaafmt", sum := "e2731fef797942c6ed970d2b13d03d346b18290b1cf35ac5205694ac0f4da9d2", checked := Tryf.checked }
namespace Rows
def none {H : Type} : Left H := { results := [], args := [] }

/-- 'n003_27.FnStringOfInt64IsDecimal': WHATEVER THE INPUT: true; the input reads as it did. -/
def fnStringOfInt64IsDecimalSpec : ChangeSpec := { name := "fnStringOfInt64IsDecimal", fn := fun _ => fun
  | [d] => { results := [.lit (.bool true)], args := [d] }
  | _ => none }
def fnStringOfInt64IsDecimalRow : OpenClaim := { program := "ytncmmnpdmfkehaafmt", sum := "e2731fef797942c6ed970d2b13d03d346b18290b1cf35ac5205694ac0f4da9d2", func := "github.com/expr-lang/expr/n003_27.FnStringOfInt64IsDecimal", spec := "fnStringOfInt64IsDecimal", stops := ["fmt.Sprintf"], inPlace := ["fmt.Sprintf"], apart := false }
/-- NO THEOREM (fmt's text is open here; it may be false): for the released tool's asking of the row's closed facts alone. THE STATEMENT IS 'FnStringOfInt64IsDecimalToldSaid' (YtncmmnpdmfkehaaFmtCards.lean). -/
def FnStringOfInt64IsDecimalFormAsk : Prop := fnStringOfInt64IsDecimalRow.holds Tryf.pinned (OpenSpec.ofChange fnStringOfInt64IsDecimalSpec)

/-- ITS FALSE NEIGHBOUR: 'it returns false'. Refute it at one input. -/
def fnStringOfInt64IsDecimalWrong : ChangeSpec := { name := "fnStringOfInt64IsDecimal", fn := fun _ => fun
  | [d] => { results := [.lit (.bool false)], args := [d] }
  | _ => none }
def FnStringOfInt64IsDecimalWrongFormAsk : Prop := fnStringOfInt64IsDecimalRow.holds Tryf.pinned (OpenSpec.ofChange fnStringOfInt64IsDecimalWrong)

/-- 'n003_27.FnStringIdentityOnTextAndBool': WHATEVER THE INPUT: true; the input reads as it did. -/
def fnStringIdentityOnTextAndBoolSpec : ChangeSpec := { name := "fnStringIdentityOnTextAndBool", fn := fun _ => fun
  | [d1, d2] => { results := [.lit (.bool true)], args := [d1, d2] }
  | _ => none }
def fnStringIdentityOnTextAndBoolRow : OpenClaim := { program := "ytncmmnpdmfkehaafmt", sum := "e2731fef797942c6ed970d2b13d03d346b18290b1cf35ac5205694ac0f4da9d2", func := "github.com/expr-lang/expr/n003_27.FnStringIdentityOnTextAndBool", spec := "fnStringIdentityOnTextAndBool", stops := ["fmt.Sprintf"], inPlace := ["fmt.Sprintf"], apart := false }
/-- NO THEOREM (fmt's text is open here; it may be false): for the released tool's asking of the row's closed facts alone. THE STATEMENT IS 'FnStringIdentityOnTextAndBoolToldSaid' (YtncmmnpdmfkehaaFmtCards.lean). -/
def FnStringIdentityOnTextAndBoolFormAsk : Prop := fnStringIdentityOnTextAndBoolRow.holds Tryf.pinned (OpenSpec.ofChange fnStringIdentityOnTextAndBoolSpec)

/-- ITS FALSE NEIGHBOUR: 'it returns false'. Refute it at one input. -/
def fnStringIdentityOnTextAndBoolWrong : ChangeSpec := { name := "fnStringIdentityOnTextAndBool", fn := fun _ => fun
  | [d1, d2] => { results := [.lit (.bool false)], args := [d1, d2] }
  | _ => none }
def FnStringIdentityOnTextAndBoolWrongFormAsk : Prop := fnStringIdentityOnTextAndBoolRow.holds Tryf.pinned (OpenSpec.ofChange fnStringIdentityOnTextAndBoolWrong)

end Rows
end Go.Proofs.YtncmmnpdmfkehaaFmt
