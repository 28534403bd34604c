/-
  DERIVED. GIVEN WITH THE SEED: THE CARDS: each row of Qxb6612361aFmtRows.lean that lists a variable, with what it lists TIED to the program's text (the seventh form; the later family's looks); each row that meets fmt, with fmt's text TOLD by the authors' own Lean function (tested against real Go, not proved from fmt's source: count such statements apart). THE CARD IS WHAT COUNTS. Prove the row's statement (the work); the ties are given (Qxb6612361aFmtTie.lean); close each card by the builder's one call (the guide's Derived/Test/ToyasCard.lean, 'card_holds'). Laid BY PROGRAM, IN A SANDBOX (cutbox-door.mjs). By AI agents, Wed Nov 11 2026. No macro, syntax, notation, axiom, sorry.
-/
import Derived.Test.Qxb6612361aFmtRows
import GoSem.ClaimSeven
namespace Go.Proofs.Qxb6612361aFmt
namespace Rows

/-- THE TOLD CARD OF 'zzlaws_root_b1.FnViewErrorTextRoundTrip'. -/
def fnViewErrorTextRoundTripCard : Claim7 := { stood := { row := fnViewErrorTextRoundTripRow, standIns := [], harness := (true, "a27d80dcc57d9230d549e2a01d9cd0f06f93470dcc775523a2ad3c0e45bbd49f"), looks := false }, told := true, goes := false }
def FnViewErrorTextRoundTripToldSaid : Prop := Claim7.holds Tryf.pinned (.plain (OpenSpec.ofChange fnViewErrorTextRoundTripSpec)) fnViewErrorTextRoundTripCard
/-- ITS FALSE NEIGHBOUR. Refute it at one input. -/
def FnViewErrorTextRoundTripToldWrongFalsely : Prop := Claim7.holds Tryf.pinned (.plain (OpenSpec.ofChange fnViewErrorTextRoundTripWrong)) fnViewErrorTextRoundTripCard
end Rows
end Go.Proofs.Qxb6612361aFmt
