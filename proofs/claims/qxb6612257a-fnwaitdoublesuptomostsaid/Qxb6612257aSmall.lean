/-
  CONTAINERS WHOSE SLICES ARE SHORT.
-/
import Derived.Test.Qxb6612257aData
namespace Go.Proofs.Qxb6612257a
def SmallR (r : Rule) : Prop := ∀ c, r.codes = some c → c.vals.length ≤ 1048576
def SmallC (c : Cont) : Prop := c.rules.length ≤ 1048576 ∧ ∀ i, i < c.rules.length → SmallR (c.rules.getD i .zero)
def SmallCs (cs : List Cont) : Prop := cs.length ≤ 1048576 ∧ ∀ i, i < cs.length → SmallC (cs.getD i .zero)
end Go.Proofs.Qxb6612257a
