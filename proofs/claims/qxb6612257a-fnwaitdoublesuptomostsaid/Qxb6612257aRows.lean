/-
  No cell of these rows narrows 'for every input' (looked for: loops, veiled, ifaces, maps, wideKeys, modest, calm, conditions, laid).
  DERIVED. THE GIVEN ROWS OF THIS SEAT. 1 by the template 'for every input the law returns true; each argument reads behind the call as it read before'; 0 by the template 'total and deterministic' (their statements: Qxb6612257aTotals.lean).
  GIVEN WITH THE SEED: the statements are not yours to turn. If you find one false, say at which input.
  Laid BY PROGRAM, IN A SANDBOX (cutbox-rows.mjs): the forced cells as the released guide's own fill.sh prints them over the translation 31848b8b91c4f548… (all of the seat's roots in one cut). By AI agents, Wed Nov 11 2026. No macro, syntax, notation, axiom, sorry.
-/
import Derived.Test.Qxb6612257aChecked
import GoSem.Claim
import GoSem.ClaimJoined
import GoSem.ClaimMapViews
import Derived.JoinedTies
import Derived.KernelRfl
namespace Go.Proofs.Qxb6612257a
/- THE CELL 'sum', in the pinned program and in every row, IS THE sha256 OF THE DUMP (.gsa) THAT Qxb6612257aProg.lean LOADS. Nothing in Lean hashes anything: it is a label: what it is worth is what the hold of that sum in a sandbox is worth. -/
noncomputable def Try.pinned : Pinned := { name := "qxb6612257a", sum := "31848b8b91c4f54865db79784c7b65c754c00c69241dc8885ed9892cc22811b1", checked := Try.checked }
namespace Rows
def none {H : Type} : Left H := { results := [], args := [] }

/-- 'zzlaws_pkg_agent_b1.FnWaitDoublesUpToMost': WHATEVER THE INPUT: true; the input reads as it did. -/
def fnWaitDoublesUpToMostSpec : ChangeSpec := { name := "fnWaitDoublesUpToMost", fn := fun _ => fun
  | [d1, d2, d3, d4, d5, d6, d7, d8, d9, d10] => { results := [.lit (.bool true)], args := [d1, d2, d3, d4, d5, d6, d7, d8, d9, d10] }
  | _ => none }
def fnWaitDoublesUpToMostRow : OpenClaim := { program := "qxb6612257a", sum := "31848b8b91c4f54865db79784c7b65c754c00c69241dc8885ed9892cc22811b1", func := "example.com/rekindle/rekindle/zzlaws_pkg_agent_b1.FnWaitDoublesUpToMost", spec := "fnWaitDoublesUpToMost", apart := false }
def FnWaitDoublesUpToMostSaid : Prop := fnWaitDoublesUpToMostRow.holds Try.pinned (OpenSpec.ofChange fnWaitDoublesUpToMostSpec)

/-- ITS FALSE NEIGHBOUR: 'it returns false'. Refute it at one input. -/
def fnWaitDoublesUpToMostWrong : ChangeSpec := { name := "fnWaitDoublesUpToMost", fn := fun _ => fun
  | [d1, d2, d3, d4, d5, d6, d7, d8, d9, d10] => { results := [.lit (.bool false)], args := [d1, d2, d3, d4, d5, d6, d7, d8, d9, d10] }
  | _ => none }
def FnWaitDoublesUpToMostWrongFalsely : Prop := fnWaitDoublesUpToMostRow.holds Try.pinned (OpenSpec.ofChange fnWaitDoublesUpToMostWrong)

end Rows
end Go.Proofs.Qxb6612257a
