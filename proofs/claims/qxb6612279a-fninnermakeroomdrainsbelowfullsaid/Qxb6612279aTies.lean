/-
  THE ROW's CLOSED FACTS, ONE BY ONE. The head of the cut bears 807 signs: the kernel's own reckoning of its 'toList' outgrows the memory lid; by 'String.toList_ofList' it does not.
-/
import Derived.Test.Qxb6612279aRows
import Derived.KernelRfl
import Derived.JoinedOf
namespace Go.Proofs.Qxb6612279a
set_option linter.unusedVariables false
set_option maxRecDepth 100000

/-- The cut's head, sign by sign. -/
def headSigns : List Char := ['h', 'a', 'r', 'n', 'e', 's', 's', ' ', '5', '2', '1', 'f', 'f', 'f', 'd', 'a', '2', 'f', 'e', '3', 'e', 'c', '5', '7', 'b', 'e', '9', '4', '6', 'f', '5', '2', 'b', 'c', '4', 'c', '2', '9', '5', '4', '9', '5', '3', 'c', 'd', '4', 'd', '8', '3', '6', 'c', 'd', '1', 'a', '5', 'a', 'b', '5', '3', 'e', '0', 'a', '9', '7', 'c', 'd', '4', 'f', '3', 'e', 'a', 'c', ' ', 'c', 'u', 't', ' ', 'a', 't', ' ', 'e', 'x', 'a', 'm', 'p', 'l', 'e', '.', 'c', 'o', 'm', '/', 'n', 'o', 't', 'e', 's', '-', 'o', 'n', '-', 'n', 'o', 'd', 'e', 's', '/', 'n', 'o', 't', 'e', 's', '-', 'o', 'n', '-', 'n', 'o', 'd', 'e', 's', '/', 'z', 'z', 'l', 'a', 'w', 's', '_', 'r', 'o', 'o', 't', '_', 'b', '1', '.', 'F', 'n', 'R', 'u', 'n', 'L', 'e', 'n', 'I', 's', 'L', 'o', 'n', 'g', 'e', 's', 't', 'K', 'e', 'p', 't', 'P', 'r', 'e', 'f', 'i', 'x', ' ', 'e', 'x', 'a', 'm', 'p', 'l', 'e', '.', 'c', 'o', 'm', '/', 'n', 'o', 't', 'e', 's', '-', 'o', 'n', '-', 'n', 'o', 'd', 'e', 's', '/', 'n', 'o', 't', 'e', 's', '-', 'o', 'n', '-', 'n', 'o', 'd', 'e', 's', '/', 'z', 'z', 'l', 'a', 'w', 's', '_', 'r', 'o', 'o', 't', '_', 'b', '1', '.', 'F', 'n', 'R', 'u', 'n', 'L', 'e', 'n', 'O', 'f', 'B', 'o', 't', 'h', 'I', 's', 'L', 'e', 'a', 's', 't', 'O', 'f', 'E', 'a', 'c', 'h', ' ', 'e', 'x', 'a', 'm', 'p', 'l', 'e', '.', 'c', 'o', 'm', '/', 'n', 'o', 't', 'e', 's', '-', 'o', 'n', '-', 'n', 'o', 'd', 'e', 's', '/', 'n', 'o', 't', 'e', 's', '-', 'o', 'n', '-', 'n', 'o', 'd', 'e', 's', '/', 'z', 'z', 'l', 'a', 'w', 's', '_', 'r', 'o', 'o', 't', '_', 'b', '1', '.', 'F', 'n', 'B', 'u', 'f', 'f', 'e', 'r', 'H', 'o', 'l', 'd', 's', 'W', 'h', 'a', 't', 'I', 's', 'N', 'o', 't', 'W', 'r', 'i', 't', 't', 'e', 'n', 'O', 'u', 't', ' ', 'e', 'x', 'a', 'm', 'p', 'l', 'e', '.', 'c', 'o', 'm', '/', 'n', 'o', 't', 'e', 's', '-', 'o', 'n', '-', 'n', 'o', 'd', 'e', 's', '/', 'n', 'o', 't', 'e', 's', '-', 'o', 'n', '-', 'n', 'o', 'd', 'e', 's', '/', 'z', 'z', 'l', 'a', 'w', 's', '_', 'r', 'o', 'o', 't', '_', 'b', '1', '.', 'F', 'n', 'B', 'u', 'f', 'f', 'e', 'r', 'A', 'g', 'r', 'e', 'e', 's', 'W', 'i', 't', 'h', 'M', 'a', 'k', 'e', 'R', 'o', 'o', 'm', 'O', 'n', 'c', 'e', 'F', 'u', 'l', 'l', ' ', 'e', 'x', 'a', 'm', 'p', 'l', 'e', '.', 'c', 'o', 'm', '/', 'n', 'o', 't', 'e', 's', '-', 'o', 'n', '-', 'n', 'o', 'd', 'e', 's', '/', 'n', 'o', 't', 'e', 's', '-', 'o', 'n', '-', 'n', 'o', 'd', 'e', 's', '/', 'z', 'z', 'l', 'a', 'w', 's', '_', 'r', 'o', 'o', 't', '_', 'b', '1', '.', 'F', 'n', 'M', 'a', 'k', 'e', 'R', 'o', 'o', 'm', 'W', 'r', 'i', 't', 'e', 's', 'C', 'o', 'm', 'p', 'l', 'e', 't', 'e', 'I', 't', 'e', 'm', 's', 'K', 'e', 'e', 'p', 's', 'O', 'p', 'e', 'n', 'O', 'n', 'e', ' ', 'e', 'x', 'a', 'm', 'p', 'l', 'e', '.', 'c', 'o', 'm', '/', 'n', 'o', 't', 'e', 's', '-', 'o', 'n', '-', 'n', 'o', 'd', 'e', 's', '/', 'n', 'o', 't', 'e', 's', '-', 'o', 'n', '-', 'n', 'o', 'd', 'e', 's', '/', 'z', 'z', 'l', 'a', 'w', 's', '_', 'r', 'o', 'o', 't', '_', 'b', '1', '.', 'F', 'n', 'M', 'a', 'k', 'e', 'R', 'o', 'o', 'm', 'A', 'f', 't', 'e', 'r', 'F', 'a', 'i', 'l', 'u', 'r', 'e', 'K', 'e', 'e', 'p', 's', 'C', 'o', 'm', 'p', 'l', 'e', 't', 'e', 'I', 't', 'e', 'm', 's', 'O', 'n', 'l', 'y', ' ', 'e', 'x', 'a', 'm', 'p', 'l', 'e', '.', 'c', 'o', 'm', '/', 'n', 'o', 't', 'e', 's', '-', 'o', 'n', '-', 'n', 'o', 'd', 'e', 's', '/', 'n', 'o', 't', 'e', 's', '-', 'o', 'n', '-', 'n', 'o', 'd', 'e', 's', '/', 'z', 'z', 'l', 'a', 'w', 's', '_', 'r', 'o', 'o', 't', '_', 'b', '1', '.', 'F', 'n', 'I', 'n', 'n', 'e', 'r', 'M', 'a', 'k', 'e', 'R', 'o', 'o', 'm', 'E', 'x', 'a', 'c', 't', 'W', 'h', 'e', 'r', 'e', 'F', 'u', 'l', 'l', ' ', 'e', 'x', 'a', 'm', 'p', 'l', 'e', '.', 'c', 'o', 'm', '/', 'n', 'o', 't', 'e', 's', '-', 'o', 'n', '-', 'n', 'o', 'd', 'e', 's', '/', 'n', 'o', 't', 'e', 's', '-', 'o', 'n', '-', 'n', 'o', 'd', 'e', 's', '/', 'z', 'z', 'l', 'a', 'w', 's', '_', 'r', 'o', 'o', 't', '_', 'b', '1', '.', 'F', 'n', 'I', 'n', 'n', 'e', 'r', 'M', 'a', 'k', 'e', 'R', 'o', 'o', 'm', 'D', 'r', 'a', 'i', 'n', 's', 'B', 'e', 'l', 'o', 'w', 'F', 'u', 'l', 'l']
theorem head_string : Try.pinned.checked.prog.initOrder = String.ofList headSigns := by kernel_rfl
theorem head_list : Try.pinned.checked.prog.initOrder.toList = headSigns := by rw [head_string, String.toList_ofList]
/-- The words behind the harness's sum: 'cut' is the first. -/
def headRest : List (List Char) := (behindMainWord (wordsSigns headSigns)).tail
theorem head_words : behindMainWord (wordsSigns Try.pinned.checked.prog.initOrder.toList) = "cut".toList :: headRest := by rw [head_list]; kernel_rfl

theorem strip_cut (r : List (List Char)) : stripLifts liftWords ("cut".toList :: r) = ([], "cut".toList :: r) := by rfl
theorem make_of {P : Program} {r : List (List Char)} (h : behindMainWord (wordsSigns P.initOrder.toList) = "cut".toList :: r) : P.make = some .cut := by
  unfold Program.make
  rw [h]
  rfl
theorem lifts_of {P : Program} {r : List (List Char)} (h : behindMainWord (wordsSigns P.initOrder.toList) = "cut".toList :: r) : P.headLifts = [] := by
  unfold Program.headLifts
  rw [h, strip_cut]
  rfl
theorem final_of {P : Program} {r : List (List Char)} (h : behindMainWord (wordsSigns P.initOrder.toList) = "cut".toList :: r) : P.liftsFinal = false := by
  unfold Program.liftsFinal
  rw [lifts_of h, h]
  rfl
theorem enter_of {P : Program} {r : List (List Char)} (h : behindMainWord (wordsSigns P.initOrder.toList) = "cut".toList :: r) (h1 : P.laysLater = false) (h2 : P.bearsReflect = false) (h3 : P.doorFits [] = true) : P.mayEnter = true := by
  unfold Program.mayEnter
  rw [h]
  simp only [strip_cut, h1, h2, h3]
  rfl
theorem may_enter : Try.pinned.checked.prog.mayEnter = true := enter_of head_words (by kernel_rfl) (by kernel_rfl) (by kernel_rfl)
theorem lifts_final : Try.pinned.checked.prog.liftsFinal = false := final_of head_words
theorem made : Try.pinned.checked.prog.make = some .cut := make_of head_words
theorem lifted_of {l x : Bool} (h : x = false) (k : l = false) : (l == x) = true := by rw [h, k]; rfl
theorem made_of {x : Option Make} {m : Make} (h : x = some .cut) (k : m = .cut) : (x == some m) = true := by rw [h, k]; rfl
theorem j1 : (Rows.fnInnerMakeRoomDrainsBelowFullRow.wf (OpenSpec.ofChange Rows.fnInnerMakeRoomDrainsBelowFullSpec)) = true := by kernel_rfl
theorem j2 : (laidOutB Try.pinned.checked.prog) = true := by kernel_rfl
theorem j3 : (mapsRowed Try.pinned.checked.prog) = true := by kernel_rfl
theorem j4 : (Try.f10.params.all (Try.pinned.checked.prog.readableRec ·)) = true := by kernel_rfl
theorem j5 : (namedTie Try.pinned.checked.prog Rows.fnInnerMakeRoomDrainsBelowFullRow.named Rows.fnInnerMakeRoomDrainsBelowFullSpec.vars) = true := by kernel_rfl
theorem j6 : (Rows.fnInnerMakeRoomDrainsBelowFullRow.stops == []) = true := by kernel_rfl
theorem j7 : (Try.pinned.checked.prog.stops == []) = true := by kernel_rfl
theorem j8 : (Rows.fnInnerMakeRoomDrainsBelowFullRow.knobs == []) = true := by kernel_rfl
theorem j9 : (Try.pinned.checked.prog.stopKnobs == []) = true := by kernel_rfl
theorem j10 : (Rows.fnInnerMakeRoomDrainsBelowFullRow.inPlace == Try.pinned.checked.prog.inPlace 10) = true := by kernel_rfl
theorem j11 : (Rows.fnInnerMakeRoomDrainsBelowFullRow.unfollowed == Try.pinned.checked.prog.unfollowed 10) = true := by kernel_rfl
theorem j12 : (Rows.fnInnerMakeRoomDrainsBelowFullRow.recurses == Try.pinned.checked.prog.recurses 10) = true := by kernel_rfl
theorem j13 : (Rows.fnInnerMakeRoomDrainsBelowFullRow.named == Try.pinned.checked.prog.varsNamed 10) = true := by kernel_rfl
theorem j14 : (Rows.fnInnerMakeRoomDrainsBelowFullRow.maps == (Try.f10.params.toList ++ Rows.fnInnerMakeRoomDrainsBelowFullSpec.plain.varTypes Try.pinned.checked.prog).any (Try.pinned.checked.prog.mapsRec ·)) = true := by kernel_rfl
theorem j15 : (Rows.fnInnerMakeRoomDrainsBelowFullRow.ifaces == (Try.f10.params.toList ++ Rows.fnInnerMakeRoomDrainsBelowFullSpec.plain.varTypes Try.pinned.checked.prog).any (Try.pinned.checked.prog.ifacesRec ·)) = true := by kernel_rfl
theorem j16 : (Rows.fnInnerMakeRoomDrainsBelowFullRow.mapsOut == Try.pinned.checked.prog.mapsAmong Try.f10.resultTypes.toList) = true := by kernel_rfl
theorem j17 : (Rows.fnInnerMakeRoomDrainsBelowFullRow.loops == (Try.f10.params.toList ++ Rows.fnInnerMakeRoomDrainsBelowFullSpec.plain.varTypes Try.pinned.checked.prog).any (Try.pinned.checked.prog.loopsFrom ·)) = true := by kernel_rfl
theorem j18 : (Rows.fnInnerMakeRoomDrainsBelowFullRow.wideKeys == (Try.f10.params.toList ++ Rows.fnInnerMakeRoomDrainsBelowFullSpec.plain.varTypes Try.pinned.checked.prog ++ Try.f10.resultTypes.toList).any (Try.pinned.checked.prog.wideKeysFrom ·)) = true := by kernel_rfl
theorem j19 : (Rows.fnInnerMakeRoomDrainsBelowFullSpec.vars.all (Try.pinned.checked.prog.varReadable ·)) = true := by kernel_rfl
theorem j20 : (Try.f10.resultTypes.all (fun t => Try.pinned.checked.prog.readableRec t && decide (t < Try.pinned.checked.prog.types.size))) = true := by kernel_rfl
theorem j21 : (Rows.fnInnerMakeRoomDrainsBelowFullRow.ifacesOut == Try.f10.resultTypes.toList.any (Try.pinned.checked.prog.ifacesRec ·)) = true := by kernel_rfl
theorem j22 : (Rows.fnInnerMakeRoomDrainsBelowFullRow.loopsOut == Try.f10.resultTypes.toList.any (Try.pinned.checked.prog.loopsFrom ·)) = true := by kernel_rfl
theorem j23 : (Rows.fnInnerMakeRoomDrainsBelowFullRow.plainKeys == Try.pinned.checked.prog.plainKeys) = true := by kernel_rfl
theorem j24 : (Rows.fnInnerMakeRoomDrainsBelowFullRow.shortTexts.isNone) = true := by kernel_rfl
theorem j25 : (Try.pinned.checked.prog.stopsHeard) = true := by kernel_rfl
theorem j26 : (Try.pinned.checked.prog.mayEnter) = true := may_enter
theorem j27 : (Rows.fnInnerMakeRoomDrainsBelowFullRow.lifted == Try.pinned.checked.prog.liftsFinal) = true := lifted_of lifts_final (by kernel_rfl)
theorem j28 : (Try.pinned.checked.prog.make == some Rows.fnInnerMakeRoomDrainsBelowFullRow.make) = true := made_of made (by kernel_rfl)
theorem j29 : (Rows.fnInnerMakeRoomDrainsBelowFullRow.kinds == (if Rows.fnInnerMakeRoomDrainsBelowFullRow.domain.isEmpty then [] else Try.f10.params.toList.map fun t => match Try.pinned.checked.prog.underlying t with | some (.int k) => some k | _ => none)) = true := by kernel_rfl
theorem j30 : (Rows.fnInnerMakeRoomDrainsBelowFullRow.pinned == Rows.fnInnerMakeRoomDrainsBelowFullRow.pinnedBy) = true := by kernel_rfl
theorem j31 : (Rows.fnInnerMakeRoomDrainsBelowFullRow.veiled == (Try.f10.params.toList ++ Rows.fnInnerMakeRoomDrainsBelowFullSpec.plain.varTypes Try.pinned.checked.prog ++ Try.f10.resultTypes.toList).any (Try.pinned.checked.prog.veiledRec ·)) = true := by kernel_rfl
theorem j32 : (Rows.fnInnerMakeRoomDrainsBelowFullRow.veiledFits Try.pinned.checked.prog Try.f10.params.toList (Try.f10.params.toList ++ Rows.fnInnerMakeRoomDrainsBelowFullSpec.plain.varTypes Try.pinned.checked.prog ++ Try.f10.resultTypes.toList)) = true := by kernel_rfl
theorem and2 {a b : Bool} (h : a = true) (k : b = true) : (a && b) = true := by rw [h, k]; rfl
theorem closed : joinedFacts Try.pinned.checked.prog 10 Try.f10 Rows.fnInnerMakeRoomDrainsBelowFullSpec Rows.fnInnerMakeRoomDrainsBelowFullRow = true := by
  unfold joinedFacts
  exact (and2 (and2 (and2 (and2 (and2 (and2 (and2 (and2 (and2 (and2 (and2 (and2 (and2 (and2 (and2 (and2 (and2 (and2 (and2 (and2 (and2 (and2 (and2 (and2 (and2 (and2 (and2 (and2 (and2 (and2 (and2 j1 j2) j3) j4) j5) j6) j7) j8) j9) j10) j11) j12) j13) j14) j15) j16) j17) j18) j19) j20) j21) j22) j23) j24) j25) j26) j27) j28) j29) j30) j31) j32)
end Go.Proofs.Qxb6612279a
