/-
  writePart (40) and (plainWriter).WritePart (66): the sink takes all that is held, then wrote (41).
-/
import Derived.Test.Qxb6612279aNew
import Derived.Deep.RegionWith
namespace Go.Proofs.Qxb6612279a
open Go.RowKit
set_option linter.unusedVariables false
set_option linter.unusedSimpArgs false
theorem method_part (a : Addr) (w : World) : (method 199 67 (.agg #[.iface 29 (.pointer (some a))]) "WritePart").run Try.prog w = .ok (66, .agg #[.iface 29 (.pointer (some a))]) w := by kernel_rfl
theorem method_buf (a : Addr) (w : World) : (method 199 29 (.pointer (some a)) "Write").run Try.prog w = .ok (59, .pointer (some a)) w := by kernel_rfl

set_option maxHeartbeats 3200000 in
theorem part66 (sk r n cap : Nat) (w : World) (Q : World → Prop)
    (HW : Hid (Calls Try.prog 59 #[.pointer (some ⟨sk, 0, none⟩), .slice (some ⟨r, 0, none⟩) n cap] (w.alloc (.cells #[.iface 29 (.pointer (some ⟨sk, 0, none⟩))] 67)) fun e w' => e = .returned (.tuple #[.int .i64 (n : Int), .nilIface]) ∧ Q w')) :
    Calls Try.prog 66 #[.agg #[.iface 29 (.pointer (some ⟨sk, 0, none⟩))], .slice (some ⟨r, 0, none⟩) n cap] w fun e w' => e = .returned (.tuple #[.int .i64 (n : Int), .nilIface]) ∧ Q w' := by
  have hm := method_buf
  go_enter Try.func66, Try.ntmps66
  go_wp2_with (go_at_call 59; refine HW.out.mono ?_; rintro e w1 ⟨rfl, hq⟩)
  go_ret2
  exact ⟨rfl, hq⟩

set_option maxHeartbeats 6400000 in
set_option maxRecDepth 100000 in
theorem part_walk (ib sk r L cap : Nat) (w : World) (Q : World → Prop) (P2 : World → Prop)
    (c0 : w.cell? ⟨ib, 0, none⟩ = some (.iface 67 (.agg #[.iface 29 (.pointer (some ⟨sk, 0, none⟩))]))) (c1 : w.cell? ⟨ib, 1, none⟩ = some (.slice (some ⟨r, 0, none⟩) L cap))
    (HW : Hid (Calls Try.prog 66 #[.agg #[.iface 29 (.pointer (some ⟨sk, 0, none⟩))], .slice (some ⟨r, 0, none⟩) L cap] w.drew fun e w' => e = .returned (.tuple #[.int .i64 (L : Int), .nilIface]) ∧ w'.cell? ⟨ib, 1, none⟩ = some (.slice (some ⟨r, 0, none⟩) L cap) ∧ Q w'))
    (HR : Hid (∀ w', Q w' → Calls Try.prog 41 #[.pointer (some ⟨ib, 0, none⟩), .int .i64 (L : Int), .nilIface] w' fun e w'' => e = .returned (.tuple #[]) ∧ P2 w'')) :
    Calls Try.prog 40 #[.pointer (some ⟨ib, 0, none⟩)] w fun e w' => e = .returned (.tuple #[]) ∧ P2 w' := by
  have hm := method_part
  go_enter Try.func40, Try.ntmps40
  go_wp2
  go_region_with (go_at_call 66; refine HW.out.mono ?_; rintro e w1 ⟨rfl, k1, hq⟩; have HQ := hide hq; clear hq)
  all_goals (
    go_wp2_with (go_at_call 41; refine (HR.out _ HQ.out).mono ?_; rintro e w2 ⟨rfl, hp⟩)
    go_end0
    exact ⟨rfl, hp⟩)
end Go.Proofs.Qxb6612279a
