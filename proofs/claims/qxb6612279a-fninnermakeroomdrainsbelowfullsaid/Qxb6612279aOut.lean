/-
  (*bytes.Buffer).Bytes (34) and ZZWritten (18): the sink's bytes.
-/
import Derived.Test.Qxb6612279aApp
namespace Go.Proofs.Qxb6612279a
open Go.RowKit
set_option linter.unusedVariables false
set_option linter.unusedSimpArgs false

def Out (a : Option Addr) (l cap : Nat) (w : World) (e : Ending) (w' : World) : Prop := e = .returned (.slice a l cap) ∧ w'.heap = w.heap ∧ Below w.heap.size w w'
set_option maxHeartbeats 1600000 in
theorem bytes_nil {w : World} {sk : Nat} (c0 : w.cell? ⟨sk, 0, none⟩ = some (.slice none 0 0)) (c1 : w.cell? ⟨sk, 1, none⟩ = some (.int .i64 0)) :
    Calls Try.prog 34 #[.pointer (some ⟨sk, 0, none⟩)] w (Out none 0 0 w) := by
  go_enter Try.func34, Try.ntmps34
  go_wp2
  go_quiet (fail)
  go_wp2
  go_ret
  exact ⟨rfl, rfl, ⟨rfl, rfl, rfl, Nat.le_refl _, fun _ _ => rfl⟩⟩
set_option maxHeartbeats 1600000 in
theorem bytes_row {w : World} {sk g l cap : Nat} (c0 : w.cell? ⟨sk, 0, none⟩ = some (.slice (some ⟨g, 0, none⟩) l cap)) (c1 : w.cell? ⟨sk, 1, none⟩ = some (.int .i64 0)) (hl : l ≤ cap) (h1 : 1 ≤ l) (hcm : cap ≤ 9223372036854775807) :
    Calls Try.prog 34 #[.pointer (some ⟨sk, 0, none⟩)] w (Out (some ⟨g, 0, none⟩) l cap w) := by
  have hc : ¬ cap = 0 := by omega
  go_enter Try.func34, Try.ntmps34
  go_wp2
  go_quiet (fail)
  go_wp2
  go_ret
  exact ⟨rfl, rfl, ⟨rfl, rfl, rfl, Nat.le_refl _, fun _ _ => rfl⟩⟩
theorem bytes_ok {w : World} {sk : Nat} {ao : Option Addr} {cap : Nat} {O : List Value} (hS : Sink w sk ao cap O) : Calls Try.prog 34 #[.pointer (some ⟨sk, 0, none⟩)] w (Out ao O.length cap w) := by
  obtain ⟨⟨lr, hbk⟩, -, h⟩ := hS
  have c0 : w.cell? ⟨sk, 0, none⟩ = some (.slice ao O.length cap) := by rw [Lib.cell_of_heap hbk]; rfl
  have c1 : w.cell? ⟨sk, 1, none⟩ = some (.int .i64 0) := by rw [Lib.cell_of_heap hbk]; rfl
  rcases h with ⟨rfl, rfl, rfl⟩ | ⟨g, cur, rfl, -, -, h1, h2, -, -, h3⟩
  · exact bytes_nil c0 c1
  · exact bytes_row c0 c1 h1 h3 (by simp only [maxLen] at h2; omega)
theorem written_ok {w : World} {sk : Nat} {ao : Option Addr} {cap : Nat} {O : List Value} (hS : Sink w sk ao cap O) : Calls Try.prog 18 #[.pointer (some ⟨sk, 0, none⟩)] w (Out ao O.length cap w) := by
  have H := hide (bytes_ok hS)
  clear hS
  go_enter Try.func18, Try.ntmps18
  go_wp2_with (go_at_call 34; refine H.out.mono ?_; rintro e w' ⟨rfl, h1, h2⟩; have H1 := hide h1; have H2 := hide h2; clear h1 h2)
  go_ret
  exact ⟨rfl, H1.out, H2.out⟩
theorem Sink.has {w : World} {sk : Nat} {ao : Option Addr} {cap : Nat} {O : List Value} (hS : Sink w sk ao cap O) : Has w.heap.size w ao O.length O := by
  obtain ⟨-, h1, h⟩ := hS
  rcases h with ⟨rfl, rfl, rfl⟩ | ⟨g, cur, rfl, h2, -, -, -, htk, -⟩
  · exact ⟨rfl, fun _ => rfl, (fun x hx => by cases hx), h1⟩
  · refine ⟨rfl, by simp, fun x hx j v hj => ?_, h1⟩
    cases hx
    exact ⟨Lib.cells_of_row h2 O.length j v (by rw [htk]; exact hj), Lib.lt_of_heap h2⟩
end Go.Proofs.Qxb6612279a
