/-
  No cell of these rows narrows 'for every input' (looked for: loops, veiled, ifaces, maps, wideKeys, modest, calm, conditions, laid).
  DERIVED. THE GIVEN ROWS OF THIS SEAT. 3 by the template 'for every input the law returns true; each argument reads behind the call as it read before'; 0 by the template 'total and deterministic' (their statements: YtncmmnpdmfkehaaTotals.lean).
  GIVEN WITH THE SEED: the statements are not yours to turn. If you find one false, say at which input.
  Laid BY PROGRAM, IN A SANDBOX (cutbox-rows.mjs): the forced cells as the released guide's own fill.sh prints them over the translation 9c91c044154f3221… (all of the seat's roots in one cut). By AI agents, Wed Nov 11 2026. No macro, syntax, notation, axiom, sorry.
-/
import Derived.Test.YtncmmnpdmfkehaaChecked
import GoSem.Claim
import GoSem.ClaimJoined
import GoSem.ClaimMapViews
import Derived.JoinedTies
import Derived.KernelRfl
namespace Go.Proofs.Ytncmmnpdmfkehaa
/- THE CELL 'sum', in the pinned program and in every row, IS THE sha256 OF THE DUMP (.gsa) THAT YtncmmnpdmfkehaaProg.lean LOADS. Nothing in Lean hashes anything: it is a label: what it is worth is what the hold of that sum in a sandbox is worth. -/
noncomputable def Try.pinned : Pinned := { name := "ytncmmnpdmfkehaa", sum := "9c91c044154f322147244c4d228816dd199305b4864c1a3e273d8c64b6405d1f", checked := Try.checked }
namespace Rows
def none {H : Type} : Left H := { results := [], args := [] }

/-- 'n003_7.FnCombinedOperatorSpellingAgnostic': WHATEVER THE INPUT: true; the input reads as it did. -/
def fnCombinedOperatorSpellingAgnosticSpec : ChangeSpec := { name := "fnCombinedOperatorSpellingAgnostic", fn := fun _ => fun
  | [d] => { results := [.lit (.bool true)], args := [d] }
  | _ => none }
def fnCombinedOperatorSpellingAgnosticRow : OpenClaim := { program := "ytncmmnpdmfkehaa", sum := "9c91c044154f322147244c4d228816dd199305b4864c1a3e273d8c64b6405d1f", func := "github.com/expr-lang/expr/n003_7.FnCombinedOperatorSpellingAgnostic", spec := "fnCombinedOperatorSpellingAgnostic", apart := false }
def FnCombinedOperatorSpellingAgnosticSaid : Prop := fnCombinedOperatorSpellingAgnosticRow.holds Try.pinned (OpenSpec.ofChange fnCombinedOperatorSpellingAgnosticSpec)

/-- ITS FALSE NEIGHBOUR: 'it returns false'. Refute it at one input. -/
def fnCombinedOperatorSpellingAgnosticWrong : ChangeSpec := { name := "fnCombinedOperatorSpellingAgnostic", fn := fun _ => fun
  | [d] => { results := [.lit (.bool false)], args := [d] }
  | _ => none }
def FnCombinedOperatorSpellingAgnosticWrongFalsely : Prop := fnCombinedOperatorSpellingAgnosticRow.holds Try.pinned (OpenSpec.ofChange fnCombinedOperatorSpellingAgnosticWrong)

/-- 'n003_7.FnCombinedOperatorResultShape': WHATEVER THE INPUT: true; the input reads as it did. -/
def fnCombinedOperatorResultShapeSpec : ChangeSpec := { name := "fnCombinedOperatorResultShape", fn := fun _ => fun
  | [d1, d2] => { results := [.lit (.bool true)], args := [d1, d2] }
  | _ => none }
def fnCombinedOperatorResultShapeRow : OpenClaim := { program := "ytncmmnpdmfkehaa", sum := "9c91c044154f322147244c4d228816dd199305b4864c1a3e273d8c64b6405d1f", func := "github.com/expr-lang/expr/n003_7.FnCombinedOperatorResultShape", spec := "fnCombinedOperatorResultShape", apart := false }
def FnCombinedOperatorResultShapeSaid : Prop := fnCombinedOperatorResultShapeRow.holds Try.pinned (OpenSpec.ofChange fnCombinedOperatorResultShapeSpec)

/-- ITS FALSE NEIGHBOUR: 'it returns false'. Refute it at one input. -/
def fnCombinedOperatorResultShapeWrong : ChangeSpec := { name := "fnCombinedOperatorResultShape", fn := fun _ => fun
  | [d1, d2] => { results := [.lit (.bool false)], args := [d1, d2] }
  | _ => none }
def FnCombinedOperatorResultShapeWrongFalsely : Prop := fnCombinedOperatorResultShapeRow.holds Try.pinned (OpenSpec.ofChange fnCombinedOperatorResultShapeWrong)

/-- 'n003_7.FnCombinedOperatorFusesQuantifiers': WHATEVER THE INPUT: true; the input reads as it did. -/
def fnCombinedOperatorFusesQuantifiersSpec : ChangeSpec := { name := "fnCombinedOperatorFusesQuantifiers", fn := fun _ => fun
  | [d1, d2, d3, d4] => { results := [.lit (.bool true)], args := [d1, d2, d3, d4] }
  | _ => none }
def fnCombinedOperatorFusesQuantifiersRow : OpenClaim := { program := "ytncmmnpdmfkehaa", sum := "9c91c044154f322147244c4d228816dd199305b4864c1a3e273d8c64b6405d1f", func := "github.com/expr-lang/expr/n003_7.FnCombinedOperatorFusesQuantifiers", spec := "fnCombinedOperatorFusesQuantifiers", apart := false }
def FnCombinedOperatorFusesQuantifiersSaid : Prop := fnCombinedOperatorFusesQuantifiersRow.holds Try.pinned (OpenSpec.ofChange fnCombinedOperatorFusesQuantifiersSpec)

/-- ITS FALSE NEIGHBOUR: 'it returns false'. Refute it at one input. -/
def fnCombinedOperatorFusesQuantifiersWrong : ChangeSpec := { name := "fnCombinedOperatorFusesQuantifiers", fn := fun _ => fun
  | [d1, d2, d3, d4] => { results := [.lit (.bool false)], args := [d1, d2, d3, d4] }
  | _ => none }
def FnCombinedOperatorFusesQuantifiersWrongFalsely : Prop := fnCombinedOperatorFusesQuantifiersRow.holds Try.pinned (OpenSpec.ofChange fnCombinedOperatorFusesQuantifiersWrong)

/- THE SECOND FORM. 'bulk': how many values and letters a reading holds, each counted each time it is reached (what is shared counts as often as it is met; a slice's spare places count too). A statement '..UptoSaid' is the law's where the arguments, and the package variables that the reading takes, are together of bulk at most 1048576: NARROWER than '..Said'. Prove '..Said' where nothing that the law and all that it calls make is longer than what came in: it says more and counts as full. Else prove '..UptoSaid'. A law counts once. -/
mutual
def uptoBulk {H : Type} : DataW H → Nat
  | .lit (.string bytes) => bytes.length + 1
  | .lit _ => 1
  | .nil => 1
  | .ptr d => uptoBulk d + 1
  | .slice elems spare => uptoBulkAll elems + uptoBulkAll spare + 1
  | .agg parts => uptoBulkAll parts + 1
  | .iface _ d => uptoBulk d + 1
  | .map entries => uptoBulkEntries entries + 1
  | .held _ => 1
def uptoBulkAll {H : Type} : List (DataW H) → Nat
  | [] => 0
  | d :: r => uptoBulk d + uptoBulkAll r
def uptoBulkEntries {H : Type} : List (Lit × DataW H) → Nat
  | [] => 0
  | x :: r => uptoBulkEntry x + uptoBulkEntries r
def uptoBulkEntry {H : Type} : Lit × DataW H → Nat
  | (.string bytes, d) => bytes.length + uptoBulk d + 1
  | (_, d) => uptoBulk d + 1
 end
def uptoSmall : (H : Type) → List (DataW H) → Bool := fun _ ds => decide (uptoBulkAll ds ≤ 1048576)
def OpenSpec.upto (s : _root_.Go.ChangeSpec) : _root_.Go.OpenSpec := { _root_.Go.OpenSpec.ofChange s with cond := some uptoSmall }

/-- 'n003_7.FnCombinedOperatorSpellingAgnostic', WHERE WHAT IT READS IS OF BULK AT MOST 1048576: true; the input reads as it did. -/
def fnCombinedOperatorSpellingAgnosticUptoRow : OpenClaim := { program := "ytncmmnpdmfkehaa", sum := "9c91c044154f322147244c4d228816dd199305b4864c1a3e273d8c64b6405d1f", func := "github.com/expr-lang/expr/n003_7.FnCombinedOperatorSpellingAgnostic", spec := "fnCombinedOperatorSpellingAgnostic", apart := false, narrowed := true }
def FnCombinedOperatorSpellingAgnosticUptoSaid : Prop := fnCombinedOperatorSpellingAgnosticUptoRow.holds Try.pinned (OpenSpec.upto fnCombinedOperatorSpellingAgnosticSpec)

/-- 'n003_7.FnCombinedOperatorResultShape', WHERE WHAT IT READS IS OF BULK AT MOST 1048576: true; the input reads as it did. -/
def fnCombinedOperatorResultShapeUptoRow : OpenClaim := { program := "ytncmmnpdmfkehaa", sum := "9c91c044154f322147244c4d228816dd199305b4864c1a3e273d8c64b6405d1f", func := "github.com/expr-lang/expr/n003_7.FnCombinedOperatorResultShape", spec := "fnCombinedOperatorResultShape", apart := false, narrowed := true }
def FnCombinedOperatorResultShapeUptoSaid : Prop := fnCombinedOperatorResultShapeUptoRow.holds Try.pinned (OpenSpec.upto fnCombinedOperatorResultShapeSpec)

/-- 'n003_7.FnCombinedOperatorFusesQuantifiers', WHERE WHAT IT READS IS OF BULK AT MOST 1048576: true; the input reads as it did. -/
def fnCombinedOperatorFusesQuantifiersUptoRow : OpenClaim := { program := "ytncmmnpdmfkehaa", sum := "9c91c044154f322147244c4d228816dd199305b4864c1a3e273d8c64b6405d1f", func := "github.com/expr-lang/expr/n003_7.FnCombinedOperatorFusesQuantifiers", spec := "fnCombinedOperatorFusesQuantifiers", apart := false, narrowed := true }
def FnCombinedOperatorFusesQuantifiersUptoSaid : Prop := fnCombinedOperatorFusesQuantifiersUptoRow.holds Try.pinned (OpenSpec.upto fnCombinedOperatorFusesQuantifiersSpec)

end Rows
end Go.Proofs.Ytncmmnpdmfkehaa
