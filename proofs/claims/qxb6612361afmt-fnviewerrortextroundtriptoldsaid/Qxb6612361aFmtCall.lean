/-
  THE WALKS OF ZZViewErrorText, errors.New, (*ViewError).Error OVER fmt.Sprintf's STOP: FOR EVERY F.
-/
import Derived.Test.Qxb6612361aFmtFacts
import Derived.WalkKit
import Derived.WalkSpells
import Derived.ProofKit
import Derived.Below
import Derived.Deep.RegionHeld3
import Derived.BigQuiet
import Derived.Stop.Texts
import Derived.Deep.Draws
namespace Go.Proofs.Qxb6612361aFmt
open Go.ChangeShapes Go.WideShapes Go.ChangeAt Go.RowKit
open Go.Extern.Stop Go.Stop Go.Extern
set_option linter.unusedVariables false
attribute [local go_sem] Tryf.call8 Tryf.guard Tryf.fmt0 Tryf.fmt0r Tryf.act2_100 Tryf.op2_100 Tryf.act32_118
theorem hide {p : Prop} (h : p) : Hid p := h
/-- WHAT fmt IS ASKED. -/
def reading (t : Int) (msg : List UInt8) : List (List UInt8) :=
  [[118, 105, 101, 119, 32, 97, 116, 32, 37, 100, 58, 32, 37, 118], Tryf.shape2, digits 8 (t % 18446744073709551616).toNat, Tryf.plain32, msg]

set_option maxRecDepth 100000 in
set_option maxHeartbeats 1600000 in
theorem error7 (F : Interp) (t : Int) (msg : ByteArray) (b c : Nat) (w : World) (hF : F.answers w.tape) (h0 : w.cell? ⟨b, 0, none⟩ = some (.int .i64 t)) (h1 : w.cell? ⟨b, 1, none⟩ = some (.iface 32 (.pointer (some ⟨c, 0, none⟩)))) (h2 : w.cell? ⟨c, 0, none⟩ = some (.string msg))
    (hb : b < w.heap.size) (hc : c < w.heap.size) :
    Calls Tryf.prog 7 #[.pointer (some ⟨b, 0, none⟩)] w fun e w' => e = .returned (.string (FmtStop.textOf (F "fmt.Sprintf" (reading t msg.data.toList) 0))) ∧ Below w.heap.size w w' := by
  have hF' := answers_open hF
  have hop := fun (o : Obj) => Tryf.opPlain32_118 "fmt.Sprintf" ⟨c, 0, none⟩ msg (w.alloc o).drew (cell_later (((Below.refl _ w).alloc (Nat.le_refl _) o).drew) h2)
  go_enter Tryf.func7, Tryf.ntmps7
  go_wp2
  go_region_with (refine rows_value Tryf.nextTurns (v := .string (FmtStop.textOf (F "fmt.Sprintf" (reading t msg.data.toList) 0))) (w' := ((w.alloc (.cells #[.iface 2 (.int .i64 t), .iface 32 (.pointer (some ⟨c, 0, none⟩))] 20)).drew).drew) (by go_simp; rfl) ?_)
  all_goals go_wp2
  all_goals go_ret
  all_goals exact ⟨rfl, (((Below.refl _ w).alloc (Nat.le_refl _) _).drew).drew⟩

set_option maxRecDepth 100000 in
set_option maxHeartbeats 1600000 in
theorem view5 (F : Interp) (t : Int) (msg : ByteArray) (w : World) (hF : F.answers w.tape) :
    Calls Tryf.prog 5 #[.int .i64 t, .string msg] w fun e w' => e = .returned (.string (FmtStop.textOf (F "fmt.Sprintf" (reading t msg.data.toList) 0))) ∧ Below w.heap.size w w' := by
  have h7 := hide (error7 F t msg (w.heap.size + 1) w.heap.size ((w.alloc (.cells #[.string msg] 34)).alloc (.cells #[.int .i64 t, .iface 32 (.pointer (some ⟨w.heap.size, 0, none⟩))] 30)) hF (by simp) (by simp) (by simp) (by simp) (by simp; omega))
  have HF := hide hF
  clear hF
  go_enter Tryf.func5, Tryf.ntmps5
  go_wp2_with (first | (go_at_call 7; refine h7.out.mono ?_; rintro e w' ⟨rfl, hb⟩) | go_in)
  go_ret
  exact ⟨rfl, (((Below.refl _ w).alloc (Nat.le_refl _) _).alloc (by simp) _).trans (hb.mono (by simp; omega))⟩

def Answers (e : Ending) : Prop := e = .returned (.bool true) ∨ e = .returned (.bool false)
theorem bound4 (t : Int) (msg : ByteArray) (hn : msg.size ≤ maxLen) (w : World) :
    Calls Tryf.prog 4 #[.int .i64 t, .string msg] w fun e w' => Answers e ∧ w' = w := by
  simp only [maxLen] at hn
  go_enter Tryf.func4, Tryf.ntmps4
  go_wp2
  all_goals go_ret
  all_goals first | exact ⟨.inl rfl, rfl⟩ | exact ⟨.inr rfl, rfl⟩
end Go.Proofs.Qxb6612361aFmt
