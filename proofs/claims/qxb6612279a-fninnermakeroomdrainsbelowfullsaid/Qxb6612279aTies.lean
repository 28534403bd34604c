/-
  THE ROW's CLOSED FACTS, ONE BY ONE. The head of the cut bears 807 signs: the kernel's own reckoning of its 'toList' outgrows the memory lid; by 'String.toList_ofList' it does not.
-/
import Derived.Test.Qxb6612279aRows
import Derived.KernelRfl
import Derived.JoinedOf
namespace Go.Proofs.Qxb6612279a
set_option linter.unusedVariables false
set_option maxRecDepth 100000

/-- The cut's head, sign by sign (by their numbers). -/
def headSigns : List Char := [104, 97, 114, 110, 101, 115, 115, 32, 53, 50, 49, 102, 102, 102, 100, 97, 50, 102, 101, 51, 101, 99, 53, 55, 98, 101, 57, 52, 54, 102, 53, 50, 98, 99, 52, 99, 50, 57, 53, 52, 57, 53, 51, 99, 100, 52, 100, 56, 51, 54, 99, 100, 49, 97, 53, 97, 98, 53, 51, 101, 48, 97, 57, 55, 99, 100, 52, 102, 51, 101, 97, 99, 32, 99, 117, 116, 32, 97, 116, 32, 101, 120, 97, 109, 112, 108, 101, 46, 99, 111, 109, 47, 110, 111, 116, 101, 115, 45, 111, 110, 45, 110, 111, 100, 101, 115, 47, 110, 111, 116, 101, 115, 45, 111, 110, 45, 110, 111, 100, 101, 115, 47, 122, 122, 108, 97, 119, 115, 95, 114, 111, 111, 116, 95, 98, 49, 46, 70, 110, 82, 117, 110, 76, 101, 110, 73, 115, 76, 111, 110, 103, 101, 115, 116, 75, 101, 112, 116, 80, 114, 101, 102, 105, 120, 32, 101, 120, 97, 109, 112, 108, 101, 46, 99, 111, 109, 47, 110, 111, 116, 101, 115, 45, 111, 110, 45, 110, 111, 100, 101, 115, 47, 110, 111, 116, 101, 115, 45, 111, 110, 45, 110, 111, 100, 101, 115, 47, 122, 122, 108, 97, 119, 115, 95, 114, 111, 111, 116, 95, 98, 49, 46, 70, 110, 82, 117, 110, 76, 101, 110, 79, 102, 66, 111, 116, 104, 73, 115, 76, 101, 97, 115, 116, 79, 102, 69, 97, 99, 104, 32, 101, 120, 97, 109, 112, 108, 101, 46, 99, 111, 109, 47, 110, 111, 116, 101, 115, 45, 111, 110, 45, 110, 111, 100, 101, 115, 47, 110, 111, 116, 101, 115, 45, 111, 110, 45, 110, 111, 100, 101, 115, 47, 122, 122, 108, 97, 119, 115, 95, 114, 111, 111, 116, 95, 98, 49, 46, 70, 110, 66, 117, 102, 102, 101, 114, 72, 111, 108, 100, 115, 87, 104, 97, 116, 73, 115, 78, 111, 116, 87, 114, 105, 116, 116, 101, 110, 79, 117, 116, 32, 101, 120, 97, 109, 112, 108, 101, 46, 99, 111, 109, 47, 110, 111, 116, 101, 115, 45, 111, 110, 45, 110, 111, 100, 101, 115, 47, 110, 111, 116, 101, 115, 45, 111, 110, 45, 110, 111, 100, 101, 115, 47, 122, 122, 108, 97, 119, 115, 95, 114, 111, 111, 116, 95, 98, 49, 46, 70, 110, 66, 117, 102, 102, 101, 114, 65, 103, 114, 101, 101, 115, 87, 105, 116, 104, 77, 97, 107, 101, 82, 111, 111, 109, 79, 110, 99, 101, 70, 117, 108, 108, 32, 101, 120, 97, 109, 112, 108, 101, 46, 99, 111, 109, 47, 110, 111, 116, 101, 115, 45, 111, 110, 45, 110, 111, 100, 101, 115, 47, 110, 111, 116, 101, 115, 45, 111, 110, 45, 110, 111, 100, 101, 115, 47, 122, 122, 108, 97, 119, 115, 95, 114, 111, 111, 116, 95, 98, 49, 46, 70, 110, 77, 97, 107, 101, 82, 111, 111, 109, 87, 114, 105, 116, 101, 115, 67, 111, 109, 112, 108, 101, 116, 101, 73, 116, 101, 109, 115, 75, 101, 101, 112, 115, 79, 112, 101, 110, 79, 110, 101, 32, 101, 120, 97, 109, 112, 108, 101, 46, 99, 111, 109, 47, 110, 111, 116, 101, 115, 45, 111, 110, 45, 110, 111, 100, 101, 115, 47, 110, 111, 116, 101, 115, 45, 111, 110, 45, 110, 111, 100, 101, 115, 47, 122, 122, 108, 97, 119, 115, 95, 114, 111, 111, 116, 95, 98, 49, 46, 70, 110, 77, 97, 107, 101, 82, 111, 111, 109, 65, 102, 116, 101, 114, 70, 97, 105, 108, 117, 114, 101, 75, 101, 101, 112, 115, 67, 111, 109, 112, 108, 101, 116, 101, 73, 116, 101, 109, 115, 79, 110, 108, 121, 32, 101, 120, 97, 109, 112, 108, 101, 46, 99, 111, 109, 47, 110, 111, 116, 101, 115, 45, 111, 110, 45, 110, 111, 100, 101, 115, 47, 110, 111, 116, 101, 115, 45, 111, 110, 45, 110, 111, 100, 101, 115, 47, 122, 122, 108, 97, 119, 115, 95, 114, 111, 111, 116, 95, 98, 49, 46, 70, 110, 73, 110, 110, 101, 114, 77, 97, 107, 101, 82, 111, 111, 109, 69, 120, 97, 99, 116, 87, 104, 101, 114, 101, 70, 117, 108, 108, 32, 101, 120, 97, 109, 112, 108, 101, 46, 99, 111, 109, 47, 110, 111, 116, 101, 115, 45, 111, 110, 45, 110, 111, 100, 101, 115, 47, 110, 111, 116, 101, 115, 45, 111, 110, 45, 110, 111, 100, 101, 115, 47, 122, 122, 108, 97, 119, 115, 95, 114, 111, 111, 116, 95, 98, 49, 46, 70, 110, 73, 110, 110, 101, 114, 77, 97, 107, 101, 82, 111, 111, 109, 68, 114, 97, 105, 110, 115, 66, 101, 108, 111, 119, 70, 117, 108, 108].map Char.ofNat
theorem head_string : Try.pinned.checked.prog.initOrder = String.ofList headSigns := by kernel_rfl
theorem head_list : Try.pinned.checked.prog.initOrder.toList = headSigns := by rw [head_string, String.toList_ofList]
/-- The words behind the harness's sum: 'cut' is the first. -/
def headRest : List (List Char) := (behindMainWord (wordsSigns headSigns)).tail
theorem head_words : behindMainWord (wordsSigns Try.pinned.checked.prog.initOrder.toList) = "cut".toList :: headRest := by rw [head_list]; kernel_rfl

theorem strip_cut (r : List (List Char)) : stripLifts liftWords ("cut".toList :: r) = ([], "cut".toList :: r) := by rfl
theorem make_of {P : Program} {r : List (List Char)} (h : behindMainWord (wordsSigns P.initOrder.toList) = "cut".toList :: r) : P.make = some .cut := by
  unfold Program.make
  rw [h]
  rfl
theorem lifts_of {P : Program} {r : List (List Char)} (h : behindMainWord (wordsSigns P.initOrder.toList) = "cut".toList :: r) : P.headLifts = [] := by
  unfold Program.headLifts
  rw [h, strip_cut]
  rfl
theorem final_of {P : Program} {r : List (List Char)} (h : behindMainWord (wordsSigns P.initOrder.toList) = "cut".toList :: r) : P.liftsFinal = false := by
  unfold Program.liftsFinal
  rw [lifts_of h, h]
  rfl
theorem enter_of {P : Program} {r : List (List Char)} (h : behindMainWord (wordsSigns P.initOrder.toList) = "cut".toList :: r) (h1 : P.laysLater = false) (h2 : P.bearsReflect = false) (h3 : P.doorFits [] = true) : P.mayEnter = true := by
  unfold Program.mayEnter
  rw [h]
  simp only [strip_cut, h1, h2, h3]
  rfl
theorem may_enter : Try.pinned.checked.prog.mayEnter = true := enter_of head_words (by kernel_rfl) (by kernel_rfl) (by kernel_rfl)
theorem lifts_final : Try.pinned.checked.prog.liftsFinal = false := final_of head_words
theorem made : Try.pinned.checked.prog.make = some .cut := make_of head_words
theorem lifted_of {l x : Bool} (h : x = false) (k : l = false) : (l == x) = true := by rw [h, k]; rfl
theorem made_of {x : Option Make} {m : Make} (h : x = some .cut) (k : m = .cut) : (x == some m) = true := by rw [h, k]; rfl
theorem j1 : (Rows.fnInnerMakeRoomDrainsBelowFullRow.wf (OpenSpec.ofChange Rows.fnInnerMakeRoomDrainsBelowFullSpec)) = true := by kernel_rfl
theorem j2 : (laidOutB Try.pinned.checked.prog) = true := by kernel_rfl
theorem j3 : (mapsRowed Try.pinned.checked.prog) = true := by kernel_rfl
theorem j4 : (Try.f10.params.all (Try.pinned.checked.prog.readableRec ·)) = true := by kernel_rfl
theorem j5 : (namedTie Try.pinned.checked.prog Rows.fnInnerMakeRoomDrainsBelowFullRow.named Rows.fnInnerMakeRoomDrainsBelowFullSpec.vars) = true := by kernel_rfl
theorem j6 : (Rows.fnInnerMakeRoomDrainsBelowFullRow.stops == []) = true := by kernel_rfl
theorem j7 : (Try.pinned.checked.prog.stops == []) = true := by kernel_rfl
theorem j8 : (Rows.fnInnerMakeRoomDrainsBelowFullRow.knobs == []) = true := by kernel_rfl
theorem j9 : (Try.pinned.checked.prog.stopKnobs == []) = true := by kernel_rfl
theorem j10 : (Rows.fnInnerMakeRoomDrainsBelowFullRow.inPlace == Try.pinned.checked.prog.inPlace 10) = true := by kernel_rfl
theorem j11 : (Rows.fnInnerMakeRoomDrainsBelowFullRow.unfollowed == Try.pinned.checked.prog.unfollowed 10) = true := by kernel_rfl
theorem j12 : (Rows.fnInnerMakeRoomDrainsBelowFullRow.recurses == Try.pinned.checked.prog.recurses 10) = true := by kernel_rfl
theorem j13 : (Rows.fnInnerMakeRoomDrainsBelowFullRow.named == Try.pinned.checked.prog.varsNamed 10) = true := by kernel_rfl
theorem j14 : (Rows.fnInnerMakeRoomDrainsBelowFullRow.maps == (Try.f10.params.toList ++ Rows.fnInnerMakeRoomDrainsBelowFullSpec.plain.varTypes Try.pinned.checked.prog).any (Try.pinned.checked.prog.mapsRec ·)) = true := by kernel_rfl
theorem j15 : (Rows.fnInnerMakeRoomDrainsBelowFullRow.ifaces == (Try.f10.params.toList ++ Rows.fnInnerMakeRoomDrainsBelowFullSpec.plain.varTypes Try.pinned.checked.prog).any (Try.pinned.checked.prog.ifacesRec ·)) = true := by kernel_rfl
theorem j16 : (Rows.fnInnerMakeRoomDrainsBelowFullRow.mapsOut == Try.pinned.checked.prog.mapsAmong Try.f10.resultTypes.toList) = true := by kernel_rfl
theorem j17 : (Rows.fnInnerMakeRoomDrainsBelowFullRow.loops == (Try.f10.params.toList ++ Rows.fnInnerMakeRoomDrainsBelowFullSpec.plain.varTypes Try.pinned.checked.prog).any (Try.pinned.checked.prog.loopsFrom ·)) = true := by kernel_rfl
theorem j18 : (Rows.fnInnerMakeRoomDrainsBelowFullRow.wideKeys == (Try.f10.params.toList ++ Rows.fnInnerMakeRoomDrainsBelowFullSpec.plain.varTypes Try.pinned.checked.prog ++ Try.f10.resultTypes.toList).any (Try.pinned.checked.prog.wideKeysFrom ·)) = true := by kernel_rfl
theorem j19 : (Rows.fnInnerMakeRoomDrainsBelowFullSpec.vars.all (Try.pinned.checked.prog.varReadable ·)) = true := by kernel_rfl
theorem j20 : (Try.f10.resultTypes.all (fun t => Try.pinned.checked.prog.readableRec t && decide (t < Try.pinned.checked.prog.types.size))) = true := by kernel_rfl
theorem j21 : (Rows.fnInnerMakeRoomDrainsBelowFullRow.ifacesOut == Try.f10.resultTypes.toList.any (Try.pinned.checked.prog.ifacesRec ·)) = true := by kernel_rfl
theorem j22 : (Rows.fnInnerMakeRoomDrainsBelowFullRow.loopsOut == Try.f10.resultTypes.toList.any (Try.pinned.checked.prog.loopsFrom ·)) = true := by kernel_rfl
theorem j23 : (Rows.fnInnerMakeRoomDrainsBelowFullRow.plainKeys == Try.pinned.checked.prog.plainKeys) = true := by kernel_rfl
theorem j24 : (Rows.fnInnerMakeRoomDrainsBelowFullRow.shortTexts.isNone) = true := by kernel_rfl
theorem j25 : (Try.pinned.checked.prog.stopsHeard) = true := by kernel_rfl
theorem j26 : (Try.pinned.checked.prog.mayEnter) = true := may_enter
theorem j27 : (Rows.fnInnerMakeRoomDrainsBelowFullRow.lifted == Try.pinned.checked.prog.liftsFinal) = true := lifted_of lifts_final (by kernel_rfl)
theorem j28 : (Try.pinned.checked.prog.make == some Rows.fnInnerMakeRoomDrainsBelowFullRow.make) = true := made_of made (by kernel_rfl)
theorem j29 : (Rows.fnInnerMakeRoomDrainsBelowFullRow.kinds == (if Rows.fnInnerMakeRoomDrainsBelowFullRow.domain.isEmpty then [] else Try.f10.params.toList.map fun t => match Try.pinned.checked.prog.underlying t with | some (.int k) => some k | _ => none)) = true := by kernel_rfl
theorem j30 : (Rows.fnInnerMakeRoomDrainsBelowFullRow.pinned == Rows.fnInnerMakeRoomDrainsBelowFullRow.pinnedBy) = true := by kernel_rfl
theorem j31 : (Rows.fnInnerMakeRoomDrainsBelowFullRow.veiled == (Try.f10.params.toList ++ Rows.fnInnerMakeRoomDrainsBelowFullSpec.plain.varTypes Try.pinned.checked.prog ++ Try.f10.resultTypes.toList).any (Try.pinned.checked.prog.veiledRec ·)) = true := by kernel_rfl
theorem j32 : (Rows.fnInnerMakeRoomDrainsBelowFullRow.veiledFits Try.pinned.checked.prog Try.f10.params.toList (Try.f10.params.toList ++ Rows.fnInnerMakeRoomDrainsBelowFullSpec.plain.varTypes Try.pinned.checked.prog ++ Try.f10.resultTypes.toList)) = true := by kernel_rfl
theorem and2 {a b : Bool} (h : a = true) (k : b = true) : (a && b) = true := by rw [h, k]; rfl
theorem closed : joinedFacts Try.pinned.checked.prog 10 Try.f10 Rows.fnInnerMakeRoomDrainsBelowFullSpec Rows.fnInnerMakeRoomDrainsBelowFullRow = true := by
  unfold joinedFacts
  exact (and2 (and2 (and2 (and2 (and2 (and2 (and2 (and2 (and2 (and2 (and2 (and2 (and2 (and2 (and2 (and2 (and2 (and2 (and2 (and2 (and2 (and2 (and2 (and2 (and2 (and2 (and2 (and2 (and2 (and2 (and2 j1 j2) j3) j4) j5) j6) j7) j8) j9) j10) j11) j12) j13) j14) j15) j16) j17) j18) j19) j20) j21) j22) j23) j24) j25) j26) j27) j28) j29) j30) j31) j32)
end Go.Proofs.Qxb6612279a
