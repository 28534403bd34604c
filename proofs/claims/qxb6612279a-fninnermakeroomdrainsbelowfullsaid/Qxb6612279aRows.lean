/-
  No cell of these rows narrows 'for every input' (looked for: loops, veiled, ifaces, maps, wideKeys, modest, calm, conditions, laid).
  DERIVED. THE GIVEN ROWS OF THIS SEAT. 8 by the template 'for every input the law returns true; each argument reads behind the call as it read before'; 0 by the template 'total and deterministic' (their statements: Qxb6612279aTotals.lean).
  GIVEN WITH THE SEED: the statements are not yours to turn. If you find one false, say at which input.
  Laid BY PROGRAM, IN A SANDBOX (cutbox-rows.mjs): the forced cells as the released guide's own fill.sh prints them over the translation 9cd50ddc2ee3bfbe… (all of the seat's roots in one cut). By AI agents, Wed Nov 11 2026. No macro, syntax, notation, axiom, sorry.
-/
import Derived.Test.Qxb6612279aChecked
import GoSem.Claim
import GoSem.ClaimJoined
import GoSem.ClaimMapViews
import Derived.JoinedTies
import Derived.KernelRfl
namespace Go.Proofs.Qxb6612279a
/- THE CELL 'sum', in the pinned program and in every row, IS THE sha256 OF THE DUMP (.gsa) THAT Qxb6612279aProg.lean LOADS. Nothing in Lean hashes anything: it is a label: what it is worth is what the hold of that sum in a sandbox is worth. -/
noncomputable def Try.pinned : Pinned := { name := "qxb6612279a", sum := "9cd50ddc2ee3bfbe891069215609a0c26ec9ab025f7eaf35fedcd34629c9c674", checked := Try.checked }
namespace Rows
def none {H : Type} : Left H := { results := [], args := [] }

/-- 'zzlaws_root_b1.FnRunLenIsLongestKeptPrefix': WHATEVER THE INPUT: true; the input reads as it did. -/
def fnRunLenIsLongestKeptPrefixSpec : ChangeSpec := { name := "fnRunLenIsLongestKeptPrefix", fn := fun _ => fun
  | [d1, d2] => { results := [.lit (.bool true)], args := [d1, d2] }
  | _ => none }
def fnRunLenIsLongestKeptPrefixRow : OpenClaim := { program := "qxb6612279a", sum := "9cd50ddc2ee3bfbe891069215609a0c26ec9ab025f7eaf35fedcd34629c9c674", func := "example.com/notes-on-nodes/notes-on-nodes/zzlaws_root_b1.FnRunLenIsLongestKeptPrefix", spec := "fnRunLenIsLongestKeptPrefix", unfollowed := true, recurses := true, apart := false }
def FnRunLenIsLongestKeptPrefixSaid : Prop := fnRunLenIsLongestKeptPrefixRow.holds Try.pinned (OpenSpec.ofChange fnRunLenIsLongestKeptPrefixSpec)

/-- ITS FALSE NEIGHBOUR: 'it returns false'. Refute it at one input. -/
def fnRunLenIsLongestKeptPrefixWrong : ChangeSpec := { name := "fnRunLenIsLongestKeptPrefix", fn := fun _ => fun
  | [d1, d2] => { results := [.lit (.bool false)], args := [d1, d2] }
  | _ => none }
def FnRunLenIsLongestKeptPrefixWrongFalsely : Prop := fnRunLenIsLongestKeptPrefixRow.holds Try.pinned (OpenSpec.ofChange fnRunLenIsLongestKeptPrefixWrong)

/-- 'zzlaws_root_b1.FnRunLenOfBothIsLeastOfEach': WHATEVER THE INPUT: true; the input reads as it did. -/
def fnRunLenOfBothIsLeastOfEachSpec : ChangeSpec := { name := "fnRunLenOfBothIsLeastOfEach", fn := fun _ => fun
  | [d1, d2, d3] => { results := [.lit (.bool true)], args := [d1, d2, d3] }
  | _ => none }
def fnRunLenOfBothIsLeastOfEachRow : OpenClaim := { program := "qxb6612279a", sum := "9cd50ddc2ee3bfbe891069215609a0c26ec9ab025f7eaf35fedcd34629c9c674", func := "example.com/notes-on-nodes/notes-on-nodes/zzlaws_root_b1.FnRunLenOfBothIsLeastOfEach", spec := "fnRunLenOfBothIsLeastOfEach", unfollowed := true, recurses := true, apart := false }
def FnRunLenOfBothIsLeastOfEachSaid : Prop := fnRunLenOfBothIsLeastOfEachRow.holds Try.pinned (OpenSpec.ofChange fnRunLenOfBothIsLeastOfEachSpec)

/-- ITS FALSE NEIGHBOUR: 'it returns false'. Refute it at one input. -/
def fnRunLenOfBothIsLeastOfEachWrong : ChangeSpec := { name := "fnRunLenOfBothIsLeastOfEach", fn := fun _ => fun
  | [d1, d2, d3] => { results := [.lit (.bool false)], args := [d1, d2, d3] }
  | _ => none }
def FnRunLenOfBothIsLeastOfEachWrongFalsely : Prop := fnRunLenOfBothIsLeastOfEachRow.holds Try.pinned (OpenSpec.ofChange fnRunLenOfBothIsLeastOfEachWrong)

/-- 'zzlaws_root_b1.FnBufferHoldsWhatIsNotWrittenOut': WHATEVER THE INPUT: true; the input reads as it did. -/
def fnBufferHoldsWhatIsNotWrittenOutSpec : ChangeSpec := { name := "fnBufferHoldsWhatIsNotWrittenOut", fn := fun _ => fun
  | [d1, d2, d3] => { results := [.lit (.bool true)], args := [d1, d2, d3] }
  | _ => none }
def fnBufferHoldsWhatIsNotWrittenOutRow : OpenClaim := { program := "qxb6612279a", sum := "9cd50ddc2ee3bfbe891069215609a0c26ec9ab025f7eaf35fedcd34629c9c674", func := "example.com/notes-on-nodes/notes-on-nodes/zzlaws_root_b1.FnBufferHoldsWhatIsNotWrittenOut", spec := "fnBufferHoldsWhatIsNotWrittenOut", unfollowed := true, recurses := true, apart := false }
def FnBufferHoldsWhatIsNotWrittenOutSaid : Prop := fnBufferHoldsWhatIsNotWrittenOutRow.holds Try.pinned (OpenSpec.ofChange fnBufferHoldsWhatIsNotWrittenOutSpec)

/-- ITS FALSE NEIGHBOUR: 'it returns false'. Refute it at one input. -/
def fnBufferHoldsWhatIsNotWrittenOutWrong : ChangeSpec := { name := "fnBufferHoldsWhatIsNotWrittenOut", fn := fun _ => fun
  | [d1, d2, d3] => { results := [.lit (.bool false)], args := [d1, d2, d3] }
  | _ => none }
def FnBufferHoldsWhatIsNotWrittenOutWrongFalsely : Prop := fnBufferHoldsWhatIsNotWrittenOutRow.holds Try.pinned (OpenSpec.ofChange fnBufferHoldsWhatIsNotWrittenOutWrong)

/-- 'zzlaws_root_b1.FnBufferAgreesWithMakeRoomOnceFull': WHATEVER THE INPUT: true; the input reads as it did. -/
def fnBufferAgreesWithMakeRoomOnceFullSpec : ChangeSpec := { name := "fnBufferAgreesWithMakeRoomOnceFull", fn := fun _ => fun
  | [d1, d2] => { results := [.lit (.bool true)], args := [d1, d2] }
  | _ => none }
def fnBufferAgreesWithMakeRoomOnceFullRow : OpenClaim := { program := "qxb6612279a", sum := "9cd50ddc2ee3bfbe891069215609a0c26ec9ab025f7eaf35fedcd34629c9c674", func := "example.com/notes-on-nodes/notes-on-nodes/zzlaws_root_b1.FnBufferAgreesWithMakeRoomOnceFull", spec := "fnBufferAgreesWithMakeRoomOnceFull", unfollowed := true, recurses := true, apart := false }
def FnBufferAgreesWithMakeRoomOnceFullSaid : Prop := fnBufferAgreesWithMakeRoomOnceFullRow.holds Try.pinned (OpenSpec.ofChange fnBufferAgreesWithMakeRoomOnceFullSpec)

/-- ITS FALSE NEIGHBOUR: 'it returns false'. Refute it at one input. -/
def fnBufferAgreesWithMakeRoomOnceFullWrong : ChangeSpec := { name := "fnBufferAgreesWithMakeRoomOnceFull", fn := fun _ => fun
  | [d1, d2] => { results := [.lit (.bool false)], args := [d1, d2] }
  | _ => none }
def FnBufferAgreesWithMakeRoomOnceFullWrongFalsely : Prop := fnBufferAgreesWithMakeRoomOnceFullRow.holds Try.pinned (OpenSpec.ofChange fnBufferAgreesWithMakeRoomOnceFullWrong)

/-- 'zzlaws_root_b1.FnMakeRoomWritesCompleteItemsKeepsOpenOne': WHATEVER THE INPUT: true; the input reads as it did. -/
def fnMakeRoomWritesCompleteItemsKeepsOpenOneSpec : ChangeSpec := { name := "fnMakeRoomWritesCompleteItemsKeepsOpenOne", fn := fun _ => fun
  | [d1, d2] => { results := [.lit (.bool true)], args := [d1, d2] }
  | _ => none }
def fnMakeRoomWritesCompleteItemsKeepsOpenOneRow : OpenClaim := { program := "qxb6612279a", sum := "9cd50ddc2ee3bfbe891069215609a0c26ec9ab025f7eaf35fedcd34629c9c674", func := "example.com/notes-on-nodes/notes-on-nodes/zzlaws_root_b1.FnMakeRoomWritesCompleteItemsKeepsOpenOne", spec := "fnMakeRoomWritesCompleteItemsKeepsOpenOne", unfollowed := true, recurses := true, apart := false }
def FnMakeRoomWritesCompleteItemsKeepsOpenOneSaid : Prop := fnMakeRoomWritesCompleteItemsKeepsOpenOneRow.holds Try.pinned (OpenSpec.ofChange fnMakeRoomWritesCompleteItemsKeepsOpenOneSpec)

/-- ITS FALSE NEIGHBOUR: 'it returns false'. Refute it at one input. -/
def fnMakeRoomWritesCompleteItemsKeepsOpenOneWrong : ChangeSpec := { name := "fnMakeRoomWritesCompleteItemsKeepsOpenOne", fn := fun _ => fun
  | [d1, d2] => { results := [.lit (.bool false)], args := [d1, d2] }
  | _ => none }
def FnMakeRoomWritesCompleteItemsKeepsOpenOneWrongFalsely : Prop := fnMakeRoomWritesCompleteItemsKeepsOpenOneRow.holds Try.pinned (OpenSpec.ofChange fnMakeRoomWritesCompleteItemsKeepsOpenOneWrong)

/-- 'zzlaws_root_b1.FnMakeRoomAfterFailureKeepsCompleteItemsOnly': WHATEVER THE INPUT: true; the input reads as it did. -/
def fnMakeRoomAfterFailureKeepsCompleteItemsOnlySpec : ChangeSpec := { name := "fnMakeRoomAfterFailureKeepsCompleteItemsOnly", fn := fun _ => fun
  | [d1, d2] => { results := [.lit (.bool true)], args := [d1, d2] }
  | _ => none }
def fnMakeRoomAfterFailureKeepsCompleteItemsOnlyRow : OpenClaim := { program := "qxb6612279a", sum := "9cd50ddc2ee3bfbe891069215609a0c26ec9ab025f7eaf35fedcd34629c9c674", func := "example.com/notes-on-nodes/notes-on-nodes/zzlaws_root_b1.FnMakeRoomAfterFailureKeepsCompleteItemsOnly", spec := "fnMakeRoomAfterFailureKeepsCompleteItemsOnly", unfollowed := true, recurses := true, apart := false }
def FnMakeRoomAfterFailureKeepsCompleteItemsOnlySaid : Prop := fnMakeRoomAfterFailureKeepsCompleteItemsOnlyRow.holds Try.pinned (OpenSpec.ofChange fnMakeRoomAfterFailureKeepsCompleteItemsOnlySpec)

/-- ITS FALSE NEIGHBOUR: 'it returns false'. Refute it at one input. -/
def fnMakeRoomAfterFailureKeepsCompleteItemsOnlyWrong : ChangeSpec := { name := "fnMakeRoomAfterFailureKeepsCompleteItemsOnly", fn := fun _ => fun
  | [d1, d2] => { results := [.lit (.bool false)], args := [d1, d2] }
  | _ => none }
def FnMakeRoomAfterFailureKeepsCompleteItemsOnlyWrongFalsely : Prop := fnMakeRoomAfterFailureKeepsCompleteItemsOnlyRow.holds Try.pinned (OpenSpec.ofChange fnMakeRoomAfterFailureKeepsCompleteItemsOnlyWrong)

/-- 'zzlaws_root_b1.FnInnerMakeRoomExactWhereFull': WHATEVER THE INPUT: true; the input reads as it did. -/
def fnInnerMakeRoomExactWhereFullSpec : ChangeSpec := { name := "fnInnerMakeRoomExactWhereFull", fn := fun _ => fun
  | [d1, d2, d3] => { results := [.lit (.bool true)], args := [d1, d2, d3] }
  | _ => none }
def fnInnerMakeRoomExactWhereFullRow : OpenClaim := { program := "qxb6612279a", sum := "9cd50ddc2ee3bfbe891069215609a0c26ec9ab025f7eaf35fedcd34629c9c674", func := "example.com/notes-on-nodes/notes-on-nodes/zzlaws_root_b1.FnInnerMakeRoomExactWhereFull", spec := "fnInnerMakeRoomExactWhereFull", unfollowed := true, recurses := true, apart := false }
def FnInnerMakeRoomExactWhereFullSaid : Prop := fnInnerMakeRoomExactWhereFullRow.holds Try.pinned (OpenSpec.ofChange fnInnerMakeRoomExactWhereFullSpec)

/-- ITS FALSE NEIGHBOUR: 'it returns false'. Refute it at one input. -/
def fnInnerMakeRoomExactWhereFullWrong : ChangeSpec := { name := "fnInnerMakeRoomExactWhereFull", fn := fun _ => fun
  | [d1, d2, d3] => { results := [.lit (.bool false)], args := [d1, d2, d3] }
  | _ => none }
def FnInnerMakeRoomExactWhereFullWrongFalsely : Prop := fnInnerMakeRoomExactWhereFullRow.holds Try.pinned (OpenSpec.ofChange fnInnerMakeRoomExactWhereFullWrong)

/-- 'zzlaws_root_b1.FnInnerMakeRoomDrainsBelowFull': WHATEVER THE INPUT: true; the input reads as it did. -/
def fnInnerMakeRoomDrainsBelowFullSpec : ChangeSpec := { name := "fnInnerMakeRoomDrainsBelowFull", fn := fun _ => fun
  | [d1, d2] => { results := [.lit (.bool true)], args := [d1, d2] }
  | _ => none }
def fnInnerMakeRoomDrainsBelowFullRow : OpenClaim := { program := "qxb6612279a", sum := "9cd50ddc2ee3bfbe891069215609a0c26ec9ab025f7eaf35fedcd34629c9c674", func := "example.com/notes-on-nodes/notes-on-nodes/zzlaws_root_b1.FnInnerMakeRoomDrainsBelowFull", spec := "fnInnerMakeRoomDrainsBelowFull", unfollowed := true, recurses := true, apart := false }
def FnInnerMakeRoomDrainsBelowFullSaid : Prop := fnInnerMakeRoomDrainsBelowFullRow.holds Try.pinned (OpenSpec.ofChange fnInnerMakeRoomDrainsBelowFullSpec)

/-- ITS FALSE NEIGHBOUR: 'it returns false'. Refute it at one input. -/
def fnInnerMakeRoomDrainsBelowFullWrong : ChangeSpec := { name := "fnInnerMakeRoomDrainsBelowFull", fn := fun _ => fun
  | [d1, d2] => { results := [.lit (.bool false)], args := [d1, d2] }
  | _ => none }
def FnInnerMakeRoomDrainsBelowFullWrongFalsely : Prop := fnInnerMakeRoomDrainsBelowFullRow.holds Try.pinned (OpenSpec.ofChange fnInnerMakeRoomDrainsBelowFullWrong)

end Rows
end Go.Proofs.Qxb6612279a
