/-
  writeWhole (39): the sink takes the complete items, then wrote (41).
-/
import Derived.Test.Qxb6612279aNew
import Derived.Deep.RegionWith
namespace Go.Proofs.Qxb6612279a
open Go.RowKit
set_option linter.unusedVariables false
set_option linter.unusedSimpArgs false
theorem method_w (a : Addr) (w : World) : (method 199 67 (.agg #[.iface 29 (.pointer (some a))]) "Write").run Try.prog w = .ok (59, .pointer (some a)) w := by kernel_rfl
set_option maxHeartbeats 6400000 in
set_option maxRecDepth 100000 in
theorem whole_walk (ib sk r h L cap : Nat) (w : World) (Q : World → Prop) (P2 : World → Prop)
    (c0 : w.cell? ⟨ib, 0, none⟩ = some (.iface 67 (.agg #[.iface 29 (.pointer (some ⟨sk, 0, none⟩))]))) (c1 : w.cell? ⟨ib, 1, none⟩ = some (.slice (some ⟨r, 0, none⟩) L cap)) (c2 : w.cell? ⟨ib, 2, none⟩ = some (.int .i64 (h : Int)))
    (hh : h ≤ L) (hL : L ≤ cap) (hcm : cap ≤ 9223372036854775807) (hhc : h ≤ cap)
    (HW : Hid (Calls Try.prog 59 #[.pointer (some ⟨sk, 0, none⟩), .slice (some ⟨r, 0, none⟩) h cap] w.drew fun e w' => e = .returned (.tuple #[.int .i64 (h : Int), .nilIface]) ∧ w'.cell? ⟨ib, 2, none⟩ = some (.int .i64 (h : Int)) ∧ Q w'))
    (HR : Hid (∀ w', Q w' → Calls Try.prog 41 #[.pointer (some ⟨ib, 0, none⟩), .int .i64 (h : Int), .nilIface] w' fun e w'' => e = .returned (.tuple #[]) ∧ P2 w'')) :
    Calls Try.prog 39 #[.pointer (some ⟨ib, 0, none⟩)] w fun e w' => e = .returned (.bool true) ∧ P2 w' := by
  have hm := method_w
  go_enter Try.func39, Try.ntmps39
  go_wp2
  go_region_with (go_at_call 59; refine HW.out.mono ?_; rintro e w1 ⟨rfl, k2, hq⟩; have HQ := hide hq; clear hq)
  all_goals (
    go_wp2_with (go_at_call 41; refine (HR.out _ HQ.out).mono ?_; rintro e w2 ⟨rfl, hp⟩)
    go_ret
    exact ⟨rfl, hp⟩)
end Go.Proofs.Qxb6612279a
