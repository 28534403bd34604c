/-
  writeFull (33), makeRoom (35), ZZmakeRoom (28), Buffer (16) in the joint state.
-/
import Derived.Test.Qxb6612279aState
namespace Go.Proofs.Qxb6612279a
open Go.RowKit
set_option linter.unusedVariables false
set_option linter.unusedSimpArgs false

theorem whole_no {w : World} {base ib sk r cap : Nat} {B O : List Value} (hSt : St w base ib sk r cap (-1) B O) :
    Calls Try.prog 39 #[.pointer (some ⟨ib, 0, none⟩)] w fun e w' => e = .returned (.bool false) ∧ w' = w := by
  obtain ⟨-, -, c2, -⟩ := hSt.item.cells
  clear hSt
  go_enter Try.func39, Try.ntmps39
  go_wp2
  go_ret
  exact ⟨rfl, rfl⟩

theorem full_whole {w : World} {base ib sk r cap : Nat} {B O : List Value} (n : Nat) (hSt : St w base ib sk r cap (n : Int) B O) (hn : n ≤ B.length) (hlim : O.length + n ≤ 4194304) :
    Calls Try.prog 33 #[.pointer (some ⟨ib, 0, none⟩)] w fun e w' => e = .returned (.tuple #[]) ∧ St w' base ib sk r cap (-1) (B.drop n) (O ++ B.take n) ∧ Below base w w' := by
  have H := hide (whole_ok n hSt hn hlim)
  clear hSt
  go_enter Try.func33, Try.ntmps33
  go_wp2_with (go_at_call 39; refine H.out.mono ?_; rintro e w1 ⟨rfl, hs, hb⟩; have HS := hide hs; have HB := hide hb; clear hs hb)
  go_end0
  exact ⟨rfl, HS.out, HB.out⟩

theorem full_part {w : World} {base ib sk r cap : Nat} {B O : List Value} (hSt : St w base ib sk r cap (-1) B O) (hlim : O.length + B.length ≤ 4194304) :
    Calls Try.prog 33 #[.pointer (some ⟨ib, 0, none⟩)] w fun e w' => e = .returned (.tuple #[]) ∧ St w' base ib sk r cap (-1) [] (O ++ B) ∧ Below base w w' := by
  have H := hide (whole_no hSt)
  have H2 := hide (part_ok hSt hlim)
  clear hSt
  go_enter Try.func33, Try.ntmps33
  go_wp2_with (first
    | (go_at_call 39; refine H.out.mono ?_; rintro e w1 ⟨rfl, rfl⟩)
    | (go_at_call 40; refine H2.out.mono ?_; rintro e w2 ⟨rfl, hs, hb⟩; have HS := hide hs; have HB := hide hb; clear hs hb))
  go_end0
  exact ⟨rfl, HS.out, HB.out⟩
end Go.Proofs.Qxb6612279a
