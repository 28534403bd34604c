/-
  NewItemBuffer (38) and ZZNewToBuffer (32): an empty sink, an ItemBuffer over it.
-/
import Derived.Test.Qxb6612279aItem
import Derived.Stop.Asserts
namespace Go.Proofs.Qxb6612279a
open Go.RowKit
set_option linter.unusedVariables false
set_option linter.unusedSimpArgs false
/-- The destination: a plainWriter over the sink. -/
def dst (sk : Nat) : Value := .iface 67 (.agg #[.iface 29 (.pointer (some ⟨sk, 0, none⟩))])
theorem assert_no (a : Addr) (w : World) : (Instr.typeAssert (.iface 29 (.pointer (some a))) 64 49 true).run Try.prog w = .ok (.tuple #[.nilIface, .bool false]) w :=
  run_typeAssert_lacksB Try.underlying49 (by kernel_rfl) (by kernel_rfl) _ _ _
theorem make_room (w : World) :
    (Instr.makeSlice 22 (.int .i64 0) (.int .i64 66560)).run Try.prog w = .ok (.slice (some ⟨w.heap.size, 0, none⟩) 0 66560) (w.alloc (.cells (madeCells #[.int .u8 0] 66560) 5)) := by
  have hh : (Try.prog.info? 5).map (fun i => (i.zero, i.size, i.bytes)) = some (some (.int .u8 0), 1, 1) := by kernel_rfl
  obtain ⟨i, hi, hzz⟩ := Option.map_eq_some_iff.1 hh
  simp only [Prod.mk.injEq] at hzz
  obtain ⟨hz, hs, hb⟩ := hzz
  have hr := run_make (P := Try.prog) w 22 5 i (.int .u8 0) Try.underlying22 hi hz .i64 .i64 0 66560 (by omega) (by omega) (by rw [hb]; decide) (by decide)
  simp only [hs, Nat.mul_one] at hr
  exact hr

set_option maxHeartbeats 1600000 in
theorem new38 (sk : Nat) (w : World) : Calls Try.prog 38 #[.iface 29 (.pointer (some ⟨sk, 0, none⟩))] w fun e w' =>
    e = .returned (.agg #[dst sk, .slice (some ⟨w.heap.size + 1, 0, none⟩) 0 66560, .int .i64 (-1), .nilIface]) ∧
    w' = (w.alloc (.cells #[dst sk, .slice (some ⟨w.heap.size + 1, 0, none⟩) 0 66560, .int .i64 (-1), .nilIface] 51)).alloc (.cells (madeCells #[.int .u8 0] 66560) 5) := by
  have h1 := assert_no
  have h2 := make_room
  go_enter Try.func38, Try.ntmps38
  go_wp2
  refine bodyPost_ret (v := .agg #[dst sk, .slice (some ⟨w.heap.size + 1, 0, none⟩) 0 66560, .int .i64 (-1), .nilIface]) (by simp [results, Try.results38, go_sem, dst]) rfl ⟨rfl, ?_⟩
  simp [go_sem, dst]

/-- The state that a fresh pair is in. -/
def Fresh (w : World) (e : Ending) (w' : World) : Prop :=
  e = .returned (.tuple #[.pointer (some ⟨w.heap.size + 3, 0, none⟩), .pointer (some ⟨w.heap.size, 0, none⟩)]) ∧ Item w' (w.heap.size + 3) (dst w.heap.size) (w.heap.size + 2) 66560 (-1) [] ∧ Sink w' w.heap.size none 0 [] ∧ Below w.heap.size w w'

theorem fresh_end (w : World) (o1 : Obj) : Fresh w (.returned (.tuple #[.pointer (some ⟨w.heap.size + 3, 0, none⟩), .pointer (some ⟨w.heap.size, 0, none⟩)]))
    ((((w.alloc (.cells #[.slice none 0 0, .int .i64 0, .int .i8 0] 57)).alloc o1).alloc (.cells (madeCells #[.int .u8 0] 66560) 5)).alloc (.cells #[dst w.heap.size, .slice (some ⟨w.heap.size + 2, 0, none⟩) 0 66560, .int .i64 (-1), .nilIface] 51)) := by
  have hA := heap_new w (.cells #[.slice none 0 0, .int .i64 0, .int .i8 0] 57)
  obtain ⟨wa, ha⟩ : ∃ wa, wa = w.alloc (.cells #[.slice none 0 0, .int .i64 0, .int .i8 0] 57) := ⟨_, rfl⟩
  have sa : wa.heap.size = w.heap.size + 1 := by rw [ha]; simp
  obtain ⟨wb, hb⟩ : ∃ wb, wb = wa.alloc o1 := ⟨_, rfl⟩
  have sb : wb.heap.size = w.heap.size + 2 := by rw [hb]; simp [sa]
  have hC := heap_new wb (.cells (madeCells #[.int .u8 0] 66560) 5)
  obtain ⟨wc, hc⟩ : ∃ wc, wc = wb.alloc (.cells (madeCells #[.int .u8 0] 66560) 5) := ⟨_, rfl⟩
  have sc : wc.heap.size = w.heap.size + 3 := by rw [hc]; simp [sb]
  have hD := heap_new wc (.cells #[dst w.heap.size, .slice (some ⟨w.heap.size + 2, 0, none⟩) 0 66560, .int .i64 (-1), .nilIface] 51)
  rw [← ha, ← hb, ← hc]
  rw [← hc] at hC
  rw [← ha] at hA
  rw [sb] at hC
  rw [sc] at hD
  refine ⟨rfl, ⟨hD, by simp, madeCells #[.int .u8 0] 66560, ?_, size_madeCells _ _, by simp, by simp [maxLen], by simp, by omega⟩, ⟨⟨0, ?_⟩, by simp, .inl ⟨rfl, rfl, rfl⟩⟩, ?_⟩
  · rw [Below.heap_alloc _ _ _ (by omega)]; exact hC
  · rw [Below.heap_alloc _ _ _ (by omega), hc, Below.heap_alloc _ _ _ (by omega), hb, Below.heap_alloc _ _ _ (by omega)]; exact hA
  · rw [hc, hb, ha]
    exact ((((Below.refl _ w).alloc (Nat.le_refl _) _).alloc (by simp) _).alloc (by simp; omega) _).alloc (by simp; omega) _

set_option maxHeartbeats 1600000 in
theorem new32 (w : World) : Calls Try.prog 32 #[] w (Fresh w) := by
  have h38 := new38 w.heap.size (w.alloc (.cells #[.slice none 0 0, .int .i64 0, .int .i8 0] 57))
  unfold dst at h38
  have H38 := hide h38
  clear h38
  go_enter Try.func32, Try.ntmps32
  go_wp2_with (go_at_call 38; refine H38.out.mono ?_; rintro e w' ⟨rfl, rfl⟩)
  go_ret2
  exact fresh_end w _
end Go.Proofs.Qxb6612279a
