/-
  No cell of these rows narrows 'for every input' (looked for: loops, veiled, ifaces, maps, wideKeys, modest, calm, conditions, laid).
  DERIVED. THE GIVEN ROWS OF THIS SEAT. 2 by the template 'for every input the law returns true; each argument reads behind the call as it read before'; 0 by the template 'total and deterministic' (their statements: Qxb6612284aTotals.lean).
  GIVEN WITH THE SEED: the statements are not yours to turn. If you find one false, say at which input.
  Laid BY PROGRAM, IN A SANDBOX (cutbox-rows.mjs): the forced cells as the released guide's own fill.sh prints them over the translation eebc39c94ee71b78… (all of the seat's roots in one cut). By AI agents, Wed Nov 11 2026. No macro, syntax, notation, axiom, sorry.
-/
import Derived.Test.Qxb6612284aChecked
import GoSem.Claim
import GoSem.ClaimJoined
import GoSem.ClaimMapViews
import Derived.JoinedTies
import Derived.KernelRfl
namespace Go.Proofs.Qxb6612284a
/- THE CELL 'sum', in the pinned program and in every row, IS THE sha256 OF THE DUMP (.gsa) THAT Qxb6612284aProg.lean LOADS. Nothing in Lean hashes anything: it is a label: what it is worth is what the hold of that sum in a sandbox is worth. -/
noncomputable def Try.pinned : Pinned := { name := "qxb6612284a", sum := "eebc39c94ee71b78549c5692d8d7b1505c70147fb635038546bb34ce8dd001f2", checked := Try.checked }
namespace Rows
def none {H : Type} : Left H := { results := [], args := [] }

/-- 'zzlaws_internal_state_b1.FnCompareKeysIsByteOrder': WHATEVER THE INPUT: true; the input reads as it did. -/
def fnCompareKeysIsByteOrderSpec : ChangeSpec := { name := "fnCompareKeysIsByteOrder", fn := fun _ => fun
  | [d1, d2, d3, d4, d5, d6] => { results := [.lit (.bool true)], args := [d1, d2, d3, d4, d5, d6] }
  | _ => none }
def fnCompareKeysIsByteOrderRow : OpenClaim := { program := "qxb6612284a", sum := "eebc39c94ee71b78549c5692d8d7b1505c70147fb635038546bb34ce8dd001f2", func := "example.com/keylatch/keylatch/zzlaws_internal_state_b1.FnCompareKeysIsByteOrder", spec := "fnCompareKeysIsByteOrder", inPlace := ["internal/bytealg.abigen_runtime_cmpstring"], apart := false }
def FnCompareKeysIsByteOrderSaid : Prop := fnCompareKeysIsByteOrderRow.holds Try.pinned (OpenSpec.ofChange fnCompareKeysIsByteOrderSpec)

/-- ITS FALSE NEIGHBOUR: 'it returns false'. Refute it at one input. -/
def fnCompareKeysIsByteOrderWrong : ChangeSpec := { name := "fnCompareKeysIsByteOrder", fn := fun _ => fun
  | [d1, d2, d3, d4, d5, d6] => { results := [.lit (.bool false)], args := [d1, d2, d3, d4, d5, d6] }
  | _ => none }
def FnCompareKeysIsByteOrderWrongFalsely : Prop := fnCompareKeysIsByteOrderRow.holds Try.pinned (OpenSpec.ofChange fnCompareKeysIsByteOrderWrong)

/-- 'zzlaws_internal_state_b1.FnCompareKeysAntisymmetricOnKeysAlone': WHATEVER THE INPUT: true; the input reads as it did. -/
def fnCompareKeysAntisymmetricOnKeysAloneSpec : ChangeSpec := { name := "fnCompareKeysAntisymmetricOnKeysAlone", fn := fun _ => fun
  | [d1, d2, d3, d4, d5, d6] => { results := [.lit (.bool true)], args := [d1, d2, d3, d4, d5, d6] }
  | _ => none }
def fnCompareKeysAntisymmetricOnKeysAloneRow : OpenClaim := { program := "qxb6612284a", sum := "eebc39c94ee71b78549c5692d8d7b1505c70147fb635038546bb34ce8dd001f2", func := "example.com/keylatch/keylatch/zzlaws_internal_state_b1.FnCompareKeysAntisymmetricOnKeysAlone", spec := "fnCompareKeysAntisymmetricOnKeysAlone", inPlace := ["internal/bytealg.abigen_runtime_cmpstring"], apart := false }
def FnCompareKeysAntisymmetricOnKeysAloneSaid : Prop := fnCompareKeysAntisymmetricOnKeysAloneRow.holds Try.pinned (OpenSpec.ofChange fnCompareKeysAntisymmetricOnKeysAloneSpec)

/-- ITS FALSE NEIGHBOUR: 'it returns false'. Refute it at one input. -/
def fnCompareKeysAntisymmetricOnKeysAloneWrong : ChangeSpec := { name := "fnCompareKeysAntisymmetricOnKeysAlone", fn := fun _ => fun
  | [d1, d2, d3, d4, d5, d6] => { results := [.lit (.bool false)], args := [d1, d2, d3, d4, d5, d6] }
  | _ => none }
def FnCompareKeysAntisymmetricOnKeysAloneWrongFalsely : Prop := fnCompareKeysAntisymmetricOnKeysAloneRow.holds Try.pinned (OpenSpec.ofChange fnCompareKeysAntisymmetricOnKeysAloneWrong)

end Rows
end Go.Proofs.Qxb6612284a
