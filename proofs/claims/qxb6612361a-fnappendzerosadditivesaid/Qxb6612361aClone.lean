/-
  'zzb1CloneBytes' (function 6): a nil slice stays nil; else a new row of the call's own, with the same bytes and no spare room.
-/
import Derived.Test.Qxb6612361aBase
namespace Go.Proofs.Qxb6612361a
open Go.RowKit
set_option linter.unusedVariables false
set_option linter.unusedSimpArgs false

theorem make_bytes (n : Nat) (h : n ≤ 1048576) (w : World) :
    (Instr.makeSlice 22 (.int .i64 (n : Int)) (.int .i64 (n : Int))).run Try.prog w = .ok (.slice (some ⟨w.heap.size, 0, none⟩) n n) (w.alloc (.cells (madeCells #[.int .u8 0] n) 5)) := by
  obtain ⟨i, hi, hz, hs, hb⟩ := Try.info5
  have hb' : (i.bytes : Int) * (n : Int) ≤ 281474976710656 := by rw [hb]; omega
  have hr := run_make (P := Try.prog) w 22 5 i (.int .u8 0) Try.underlying22 hi hz .i64 .i64 n n (by omega) (Int.le_refl _) hb' (by omega)
  simp only [Int.toNat_natCast, hs, Nat.mul_one] at hr
  exact hr

/-- A row of bytes at block g whose first k cells are written. -/
def RowAt (g : Nat) (xs : List Int) (n k : Nat) (W : World) : Prop := ∃ arr : Array Value, W.heap[g]? = some (.cells arr 5 (0, 0)) ∧ arr.size = n ∧ ∀ j, j < k → arr[j]? = some (.int .u8 (xs.getD j 0))
theorem RowAt.start (w : World) (xs : List Int) (n : Nat) : RowAt w.heap.size xs n 0 (w.alloc (.cells (madeCells #[.int .u8 0] n) 5)) :=
  ⟨madeCells #[.int .u8 0] n, show (w.heap.push _)[w.heap.size]? = _ from by simp, size_madeCells _ _, fun j hj => absurd hj (Nat.not_lt_zero _)⟩
theorem RowAt.cell {g n k : Nat} {xs : List Int} {W : World} (h : RowAt g xs n k W) {j : Nat} (hj : j < n) : ∃ u, W.cell? ⟨g, j, none⟩ = some u := by
  obtain ⟨arr, h1, h2, h3⟩ := h
  exact ⟨arr[j]'(by omega), by simp [World.cell?, h1, h2, hj]⟩
theorem RowAt.frozen {g n k : Nat} {xs : List Int} {W : World} (h : RowAt g xs n k W) (j : Nat) : W.frozen? ⟨g, j, none⟩ = false := by
  obtain ⟨arr, h1, h2, h3⟩ := h
  simp [World.frozen?, h1]
theorem RowAt.step {g n k : Nat} {xs : List Int} {W : World} (h : RowAt g xs n k W) (hk : k < n) : RowAt g xs n (k + 1) (W.setCell ⟨g, k, none⟩ (.int .u8 (xs.getD k 0))) := by
  obtain ⟨arr, h1, h2, h3⟩ := h
  refine ⟨arr.setIfInBounds k (.int .u8 (xs.getD k 0)), ?_, by simp [h2], fun j hj => ?_⟩
  · rw [setCell_eq_setRow W g k arr 5 (0, 0) _ h1]
    exact setRow_heap W g arr _ 5 _ h1
  · by_cases e : k = j
    · subst e; rw [Array.getElem?_setIfInBounds_self_of_lt (by omega)]
    · rw [Array.getElem?_setIfInBounds_ne e]; exact h3 j (by omega)
theorem RowAt.own {g n : Nat} {xs : List Int} {W : World} (h : RowAt g xs n n W) (hx : n ≤ xs.length) (hn : n ≤ 1048576) {base : Nat} (hb : base ≤ g) : Own W base (some ⟨g, 0, none⟩) n n ((xs.take n).map (Value.int .u8)) := by
  obtain ⟨arr, h1, h2, h3⟩ := h
  refine ⟨by simp; omega, .inr ⟨g, n, arr, rfl, hb, h1, Nat.le_refl _, by simp [maxLen]; omega, by omega, ?_⟩⟩
  apply List.ext_getElem?
  intro j
  by_cases hj : j < n
  · rw [List.getElem?_take_of_lt (by omega), Array.getElem?_toList, h3 j hj]
    simp [List.getElem?_take, hj, List.getD, List.getElem?_eq_getElem (show j < xs.length by omega)]
  · rw [List.getElem?_eq_none (by simp; omega), List.getElem?_eq_none (by simp; omega)]

set_option maxHeartbeats 4000000 in
theorem clone_nil (w : World) : Calls Try.prog 6 #[.slice none 0 0] w fun e w' => e = .returned (.slice none 0 0) ∧ w' = w := by
  have hnil := fun (w : World) => Lib.run_eql_slice_nil (P := Try.prog) w 22 5 none 0 0 0 0 Try.underlying22
  go_enter Try.func6, Try.ntmps6
  go_wp2
  go_ret
  exact ⟨rfl, rfl⟩

set_option maxHeartbeats 4000000 in
set_option maxRecDepth 100000 in
theorem clone_row (x : Addr) (n cap : Nat) (xs : List Int) (hl : n ≤ cap) (hz : xs.length = cap) (hn : n ≤ 1048576) (w : World) (hc : ∀ i, i < xs.length → w.cell? (x.add i) = some (.int .u8 (xs.getD i 0))) :
    Calls Try.prog 6 #[.slice (some x) n cap] w fun e w' => e = .returned (.slice (some ⟨w.heap.size, 0, none⟩) n n) ∧ Own w' w.heap.size (some ⟨w.heap.size, 0, none⟩) n n ((xs.take n).map (Value.int .u8)) ∧ Below w.heap.size w w' := by
  have hmk := make_bytes n hn
  have hnil := fun (w : World) => Lib.run_eql_slice_nil (P := Try.prog) w 22 5 (some x) n cap 0 0 Try.underlying22
  have HC := hide hc
  clear hc
  go_enter Try.func6, Try.ntmps6
  go_wp2
  go_loopw [4] (fun i wi => ∃ k : Nat, k ≤ n ∧ i = .int .i64 k ∧ RowAt w.heap.size xs n k wi ∧ Below w.heap.size w wi) (fun i _ => n - (intOf i).toNat)
  case atStart => exact ⟨0, Nat.zero_le _, rfl, RowAt.start w xs n, (Below.refl _ _).alloc (Nat.le_refl _) _⟩
  case round =>
    obtain ⟨k, hk, rfl, hrow, hbel⟩ := hrel
    by_cases hlt : k < n
    · obtain ⟨u, hu⟩ := hrow.cell hlt
      have hfr := hrow.frozen k
      have hsrc : wr.cell? (x.add k) = some (.int .u8 (xs.getD k 0)) := (hbel.cell (World.block_lt_of_cell? w _ (HC.out k (by omega)))).trans (HC.out k (by omega))
      have HR := hide hrow
      have HB := hide hbel
      clear hrow hbel
      go_wp2
      exact ⟨⟨k + 1, by omega, by simp, HR.out.step hlt, HB.out.setCell (Nat.le_refl _) _⟩, by simp [intOf]; omega⟩
    · obtain rfl : k = n := by omega
      have HR := hide hrow
      have HB := hide hbel
      clear hrow hbel
      go_wp2
      go_ret
      exact ⟨rfl, HR.out.own (by omega) hn (Nat.le_refl _), HB.out⟩
end Go.Proofs.Qxb6612361a
