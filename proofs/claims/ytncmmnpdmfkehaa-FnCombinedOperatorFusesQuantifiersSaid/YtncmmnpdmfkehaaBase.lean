/- Shared words of this seat's walks: what a slice argument is told by. No statement is proved here. -/
import Derived.Test.YtncmmnpdmfkehaaRows
import Derived.WalkKit
import Derived.WalkLawsBesides
import Derived.WalkSpells
import Derived.Below
namespace Go.Proofs.Ytncmmnpdmfkehaa
open Go.RowKit

/-- a slice of bools that came in: nil, or a row of 'cap' bools of which 'len' are its elements -/
def IsBools (w : World) (a : Option Addr) (len cap : Nat) (B : Nat → Bool) : Prop :=
  (a = none ∧ len = 0 ∧ cap = 0) ∨ ∃ x, a = some x ∧ len ≤ cap ∧ cap ≤ maxLen ∧ ∀ i, i < cap → w.cell? (x.add i) = some (.bool (B i))

theorem str_ext {s : ByteArray} {l : List UInt8} (h : s.toList = l) : s = ⟨l.toArray⟩ := by
  subst h
  cases s with | mk d => simp [ByteArray.toList_eq]
end Go.Proofs.Ytncmmnpdmfkehaa
