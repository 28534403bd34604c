/-
  No cell of these rows narrows 'for every input' (looked for: loops, veiled, ifaces, maps, wideKeys, modest, calm, conditions, laid).
  DERIVED. THE GIVEN ROWS OF THIS SEAT. 1 by the template 'for every input the law returns true; each argument reads behind the call as it read before'; 0 by the template 'total and deterministic' (their statements: Qxb6612361aFmtTotals.lean).
  GIVEN WITH THE SEED: the statements are not yours to turn. If you find one false, say at which input.
  Laid BY PROGRAM, IN A SANDBOX (cutbox-rows.mjs): the forced cells as the released guide's own fill.sh prints them over the translation c4877399c9cdcb22… (all of the seat's roots in one cut). By AI agents, Wed Nov 11 2026. No macro, syntax, notation, axiom, sorry.
-/
import Derived.Test.Qxb6612361aFmtChecked
import GoSem.Claim
import GoSem.ClaimJoined
import GoSem.ClaimMapViews
import Derived.JoinedTies
import Derived.KernelRfl
namespace Go.Proofs.Qxb6612361aFmt
/- THE CELL 'sum', in the pinned program and in every row, IS THE sha256 OF THE DUMP (.gsa) THAT Qxb6612361aFmtProg.lean LOADS. Nothing in Lean hashes anything: it is a label: what it is worth is what the hold of that sum in a sandbox is worth. -/
noncomputable def Tryf.pinned : Pinned := { name := "qxb6612361afmt", sum := "c4877399c9cdcb2292cc448d4c0743f8366cb1586d77cea70892c01e52d7ab16", checked := Tryf.checked }
namespace Rows
def none {H : Type} : Left H := { results := [], args := [] }

/-- 'zzlaws_root_b1.FnViewErrorTextRoundTrip': WHATEVER THE INPUT: true; the input reads as it did. -/
def fnViewErrorTextRoundTripSpec : ChangeSpec := { name := "fnViewErrorTextRoundTrip", fn := fun _ => fun
  | [d1, d2] => { results := [.lit (.bool true)], args := [d1, d2] }
  | _ => none }
def fnViewErrorTextRoundTripRow : OpenClaim := { program := "qxb6612361afmt", sum := "c4877399c9cdcb2292cc448d4c0743f8366cb1586d77cea70892c01e52d7ab16", func := "example.com/tenure/tenure/zzlaws_root_b1.FnViewErrorTextRoundTrip", spec := "fnViewErrorTextRoundTrip", stops := ["fmt.Sprintf, its operands' methods called"], inPlace := ["fmt.Sprintf"], unfollowed := true, recurses := true, apart := false }
/-- NO THEOREM (fmt's text is open here; it may be false): for the released tool's asking of the row's closed facts alone. THE STATEMENT IS 'FnViewErrorTextRoundTripToldSaid' (Qxb6612361aFmtCards.lean). -/
def FnViewErrorTextRoundTripFormAsk : Prop := fnViewErrorTextRoundTripRow.holds Tryf.pinned (OpenSpec.ofChange fnViewErrorTextRoundTripSpec)

/-- ITS FALSE NEIGHBOUR: 'it returns false'. Refute it at one input. -/
def fnViewErrorTextRoundTripWrong : ChangeSpec := { name := "fnViewErrorTextRoundTrip", fn := fun _ => fun
  | [d1, d2] => { results := [.lit (.bool false)], args := [d1, d2] }
  | _ => none }
def FnViewErrorTextRoundTripWrongFormAsk : Prop := fnViewErrorTextRoundTripRow.holds Tryf.pinned (OpenSpec.ofChange fnViewErrorTextRoundTripWrong)

end Rows
end Go.Proofs.Qxb6612361aFmt
