/-
  No cell of these rows narrows 'for every input' (looked for: loops, veiled, ifaces, maps, wideKeys, modest, calm, conditions, laid).
  DERIVED. THE GIVEN ROWS OF THIS SEAT. 2 by the template 'for every input the law returns true; each argument reads behind the call as it read before'; 0 by the template 'total and deterministic' (their statements: Qxb6612361aTotals.lean).
  GIVEN WITH THE SEED: the statements are not yours to turn. If you find one false, say at which input.
  Laid BY PROGRAM, IN A SANDBOX (cutbox-rows.mjs): the forced cells as the released guide's own fill.sh prints them over the translation 32506939320d9441… (all of the seat's roots in one cut). By AI agents, Wed Nov 11 2026. No macro, syntax, notation, axiom, sorry.
-/
import Derived.Test.Qxb6612361aChecked
import GoSem.Claim
import GoSem.ClaimJoined
import GoSem.ClaimMapViews
import Derived.JoinedTies
import Derived.KernelRfl
namespace Go.Proofs.Qxb6612361a
/- THE CELL 'sum', in the pinned program and in every row, IS THE sha256 OF THE DUMP (.gsa) THAT Qxb6612361aProg.lean LOADS. Nothing in Lean hashes anything: it is a label: what it is worth is what the hold of that sum in a sandbox is worth. -/
noncomputable def Try.pinned : Pinned := { name := "qxb6612361a", sum := "32506939320d94415f5159f3c4beced8777d9a454cc36adb59f2eb7f3c4c595c", checked := Try.checked }
namespace Rows
def none {H : Type} : Left H := { results := [], args := [] }

/-- 'zzlaws_root_b1.FnAppendZerosExact': WHATEVER THE INPUT: true; the input reads as it did. -/
def fnAppendZerosExactSpec : ChangeSpec := { name := "fnAppendZerosExact", fn := fun _ => fun
  | [d1, d2] => { results := [.lit (.bool true)], args := [d1, d2] }
  | _ => none }
def fnAppendZerosExactRow : OpenClaim := { program := "qxb6612361a", sum := "32506939320d94415f5159f3c4beced8777d9a454cc36adb59f2eb7f3c4c595c", func := "example.com/tenure/tenure/zzlaws_root_b1.FnAppendZerosExact", spec := "fnAppendZerosExact", apart := false }
def FnAppendZerosExactSaid : Prop := fnAppendZerosExactRow.holds Try.pinned (OpenSpec.ofChange fnAppendZerosExactSpec)

/-- ITS FALSE NEIGHBOUR: 'it returns false'. Refute it at one input. -/
def fnAppendZerosExactWrong : ChangeSpec := { name := "fnAppendZerosExact", fn := fun _ => fun
  | [d1, d2] => { results := [.lit (.bool false)], args := [d1, d2] }
  | _ => none }
def FnAppendZerosExactWrongFalsely : Prop := fnAppendZerosExactRow.holds Try.pinned (OpenSpec.ofChange fnAppendZerosExactWrong)

/-- 'zzlaws_root_b1.FnAppendZerosAdditive': WHATEVER THE INPUT: true; the input reads as it did. -/
def fnAppendZerosAdditiveSpec : ChangeSpec := { name := "fnAppendZerosAdditive", fn := fun _ => fun
  | [d1, d2, d3] => { results := [.lit (.bool true)], args := [d1, d2, d3] }
  | _ => none }
def fnAppendZerosAdditiveRow : OpenClaim := { program := "qxb6612361a", sum := "32506939320d94415f5159f3c4beced8777d9a454cc36adb59f2eb7f3c4c595c", func := "example.com/tenure/tenure/zzlaws_root_b1.FnAppendZerosAdditive", spec := "fnAppendZerosAdditive", apart := false }
def FnAppendZerosAdditiveSaid : Prop := fnAppendZerosAdditiveRow.holds Try.pinned (OpenSpec.ofChange fnAppendZerosAdditiveSpec)

/-- ITS FALSE NEIGHBOUR: 'it returns false'. Refute it at one input. -/
def fnAppendZerosAdditiveWrong : ChangeSpec := { name := "fnAppendZerosAdditive", fn := fun _ => fun
  | [d1, d2, d3] => { results := [.lit (.bool false)], args := [d1, d2, d3] }
  | _ => none }
def FnAppendZerosAdditiveWrongFalsely : Prop := fnAppendZerosAdditiveRow.holds Try.pinned (OpenSpec.ofChange fnAppendZerosAdditiveWrong)

end Rows
end Go.Proofs.Qxb6612361a
