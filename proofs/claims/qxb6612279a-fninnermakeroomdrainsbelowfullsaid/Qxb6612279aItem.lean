/-
  THE ItemBuffer: its state, and 'wrote' (function 41) after a write that did not fail.
-/
import Derived.Test.Qxb6612279aSink
import Derived.BigRegion
import Derived.RegionTactic
namespace Go.Proofs.Qxb6612279a
open Go.RowKit
set_option linter.unusedVariables false
set_option linter.unusedSimpArgs false

/-- The ItemBuffer in block ib: its destination D, its row r (capacity cap, the bytes B), 'whole' = h, no error. -/
def Item (w : World) (ib : Nat) (D : Value) (r cap : Nat) (h : Int) (B : List Value) : Prop :=
  w.heap[ib]? = some (.cells #[D, .slice (some ⟨r, 0, none⟩) B.length cap, .int .i64 h, .nilIface] 51 (0, 0)) ∧ (∀ v ∈ B, v.oneCell' = true) ∧
  ∃ cur, w.heap[r]? = some (.cells cur 5 (0, 0)) ∧ cur.size = cap ∧ B.length ≤ cap ∧ cap ≤ maxLen ∧ cur.toList.take B.length = B ∧ r ≠ ib

set_option maxHeartbeats 6400000 in
set_option maxRecDepth 100000 in
theorem wrote_walk (ib r n L cap : Nat) (D : Value) (z : Int) (w W1 W2 : World)
    (hbk : w.heap[ib]? = some (.cells #[D, .slice (some ⟨r, 0, none⟩) L cap, .int .i64 z, .nilIface] 51 (0, 0))) (hW1 : W1 = w.setCell ⟨ib, 2, none⟩ (.int .i64 (-1)))
    (hn : n ≤ L) (hL : L ≤ cap) (hcm : cap ≤ 9223372036854775807) (hnc : n < cap)
    (hcp : (Builtin.copy_ #[22, 22] 3 #[.slice (some ⟨r, 0, none⟩) L cap, .slice (some ⟨r, n, none⟩) (L - n) (cap - n)]).run Try.prog W1.drew = .ok (goInt ((L - n : Nat) : Int)) W2)
    (hi : W2.heap[ib]? = some (.cells #[D, .slice (some ⟨r, 0, none⟩) L cap, .int .i64 (-1), .nilIface] 51 (0, 0))) :
    Calls Try.prog 41 #[.pointer (some ⟨ib, 0, none⟩), .int .i64 (n : Int), .nilIface] w fun e w' => e = .returned (.tuple #[]) ∧ w' = W2.setCell ⟨ib, 1, none⟩ (.slice (some ⟨r, 0, none⟩) (L - n) cap) := by
  have c2 : w.cell? ⟨ib, 2, none⟩ = some (.int .i64 z) := by rw [Lib.cell_of_heap hbk]; rfl
  have f2 : w.frozen? ⟨ib, 2, none⟩ = false := Lib.frozen_of_heap hbk 2
  have hbk1 : W1.heap[ib]? = some (.cells #[D, .slice (some ⟨r, 0, none⟩) L cap, .int .i64 (-1), .nilIface] 51 (0, 0)) := by
    have := Lib.heap_setCell_same (i := 2) hbk (.int .i64 (-1))
    rw [hW1, this]; simp
  have d1 : W1.cell? ⟨ib, 1, none⟩ = some (.slice (some ⟨r, 0, none⟩) L cap) := by rw [Lib.cell_of_heap hbk1]; rfl
  have e1 : W2.cell? ⟨ib, 1, none⟩ = some (.slice (some ⟨r, 0, none⟩) L cap) := by rw [Lib.cell_of_heap hi]; rfl
  have e1f : W2.frozen? ⟨ib, 1, none⟩ = false := Lib.frozen_of_heap hi 1
  clear hbk hbk1 hi
  go_enter Try.func41, Try.ntmps41
  go_wp2
  rw [← hW1]
  clear hW1
  go_region
  all_goals (go_end0; exact ⟨rfl, rfl⟩)

set_option maxHeartbeats 6400000 in
set_option maxRecDepth 100000 in
theorem wrote_walk_all (ib r L : Nat) (D : Value) (z : Int) (w W1 : World)
    (hbk : w.heap[ib]? = some (.cells #[D, .slice (some ⟨r, 0, none⟩) L L, .int .i64 z, .nilIface] 51 (0, 0))) (hW1 : W1 = w.setCell ⟨ib, 2, none⟩ (.int .i64 (-1)))
    (hcm : L ≤ 9223372036854775807)
    (hcp : ∀ d a c W, (Builtin.copy_ #[22, 22] 3 #[.slice d L L, .slice a 0 c]).run Try.prog W = .ok (goInt 0) W) :
    Calls Try.prog 41 #[.pointer (some ⟨ib, 0, none⟩), .int .i64 (L : Int), .nilIface] w fun e w' => e = .returned (.tuple #[]) ∧ w' = W1.drew.setCell ⟨ib, 1, none⟩ (.slice (some ⟨r, 0, none⟩) 0 L) := by
  have c2 : w.cell? ⟨ib, 2, none⟩ = some (.int .i64 z) := by rw [Lib.cell_of_heap hbk]; rfl
  have f2 : w.frozen? ⟨ib, 2, none⟩ = false := Lib.frozen_of_heap hbk 2
  have hbk1 : W1.heap[ib]? = some (.cells #[D, .slice (some ⟨r, 0, none⟩) L L, .int .i64 (-1), .nilIface] 51 (0, 0)) := by
    have := Lib.heap_setCell_same (i := 2) hbk (.int .i64 (-1))
    rw [hW1, this]; simp
  have d1 : W1.cell? ⟨ib, 1, none⟩ = some (.slice (some ⟨r, 0, none⟩) L L) := by rw [Lib.cell_of_heap hbk1]; rfl
  have e1f : W1.frozen? ⟨ib, 1, none⟩ = false := Lib.frozen_of_heap hbk1 1
  clear hbk hbk1
  go_enter Try.func41, Try.ntmps41
  go_wp2
  rw [← hW1]
  clear hW1
  go_region
  all_goals (go_end0; exact ⟨rfl, rfl⟩)

def WroteItem (ib : Nat) (D : Value) (r cap : Nat) (B : List Value) (w : World) (e : Ending) (w' : World) : Prop :=
  e = .returned (.tuple #[]) ∧ Item w' ib D r cap (-1) B ∧ Touch ib (some r) w w'
theorem wrote_ok {w : World} {ib r cap : Nat} {D : Value} {h : Int} {B : List Value} (hI : Item w ib D r cap h B) (n : Nat) (hn : n ≤ B.length) :
    Calls Try.prog 41 #[.pointer (some ⟨ib, 0, none⟩), .int .i64 (n : Int), .nilIface] w (WroteItem ib D r cap (B.drop n) w) := by
  obtain ⟨hbk, h1, cur, hr, hcs, hlc, hcm, htk, hrb⟩ := hI
  have hT1 : Touch ib (some r) w (w.setCell ⟨ib, 2, none⟩ (.int .i64 (-1))) := (Touch.refl ib (some r) w).setB 2 _
  have hbk1 := Lib.heap_setCell_same (i := 2) hbk (.int .i64 (-1))
  have hr1 := setCell_row (i := 2) (v := .int .i64 (-1)) hrb hr
  have hdr : ∀ v ∈ B.drop n, v.oneCell' = true := fun v hv => h1 v (List.mem_of_mem_drop hv)
  by_cases hnc : n < cap
  · have hcells : ∀ j v, (B.drop n)[j]? = some v → (w.setCell ⟨ib, 2, none⟩ (.int .i64 (-1))).drew.cell? ((⟨r, n, none⟩ : Addr).add j) = some v := by
      intro j v hj
      rw [List.getElem?_drop] at hj
      rw [Lib.addr_add]
      show (w.setCell ⟨ib, 2, none⟩ (.int .i64 (-1))).cell? ⟨r, n + j, none⟩ = some v
      rw [Lib.cell_of_heap hr1]
      have hlt : n + j < B.length := (List.getElem?_eq_some_iff.1 hj).1
      rw [← htk, List.getElem?_take_of_lt hlt] at hj
      simpa using hj
    have hcp := run_copy_row (P := Try.prog) (w.setCell ⟨ib, 2, none⟩ (.int .i64 (-1))).drew 22 22 3 5 r 0 B.length cap ⟨r, n, none⟩ (B.length - n) (cap - n) cur 5 (B.drop n) Try.underlying22 Try.size5 hr1
      (by rw [List.length_drop]; exact (Nat.min_eq_left (Nat.sub_le _ _)).symm) hcells (by rw [List.length_drop]; omega) hdr
    rw [List.length_drop] at hcp
    refine (wrote_walk ib r n B.length cap D h w _ _ hbk rfl hn hlc (by simpa [maxLen] using hcm) hnc hcp ?_).mono ?_
    · rw [setRow_other _ _ _ _ (Ne.symm hrb)]
      show (w.setCell ⟨ib, 2, none⟩ (.int .i64 (-1))).heap[ib]? = _
      rw [hbk1]; simp
    · rintro e w' ⟨rfl, rfl⟩
      refine ⟨rfl, ⟨?_, hdr, (cur.toList.take 0 ++ B.drop n ++ cur.toList.drop (0 + (B.length - n))).toArray, ?_, ?_, ?_, hcm, ?_, hrb⟩, ?_⟩
      · have hb2 : ((w.setCell ⟨ib, 2, none⟩ (.int .i64 (-1))).drew.setRow r (cur.toList.take 0 ++ B.drop n ++ cur.toList.drop (0 + (B.length - n))).toArray).heap[ib]? = some (.cells #[D, .slice (some ⟨r, 0, none⟩) B.length cap, .int .i64 (-1), .nilIface] 51 (0, 0)) := by
          rw [setRow_other _ _ _ _ (Ne.symm hrb)]
          show (w.setCell ⟨ib, 2, none⟩ (.int .i64 (-1))).heap[ib]? = _
          rw [hbk1]; simp
        have := Lib.heap_setCell_same (i := 1) hb2 (.slice (some ⟨r, 0, none⟩) (B.length - n) cap)
        rw [this]; simp
      · exact setCell_row hrb (setRow_heap _ r cur _ 5 (0, 0) hr1)
      · simp; omega
      · rw [List.length_drop]; omega
      · simp
      · exact (touch_setRow (b := ib) (r := some r) (w' := (w.setCell ⟨ib, 2, none⟩ (.int .i64 (-1))).drew) ⟨hT1.os, hT1.tape, hT1.output, hT1.size, hT1.block⟩ (.inl rfl) _).setB 1 _
  · obtain rfl : n = B.length := by omega
    obtain rfl : cap = B.length := by omega
    refine (wrote_walk_all ib r B.length D h w _ hbk rfl (by simpa [maxLen] using hcm) (fun d a c W => run_copy_none W 22 22 3 5 d a _ _ 0 c Try.underlying22 Try.size5 (by simp))).mono ?_
    rintro e w' ⟨rfl, rfl⟩
    refine ⟨rfl, ⟨?_, hdr, cur, ?_, hcs, by simp, hcm, by simp, hrb⟩, ?_⟩
    · have hb2 : ((w.setCell ⟨ib, 2, none⟩ (.int .i64 (-1))).drew).heap[ib]? = some (.cells #[D, .slice (some ⟨r, 0, none⟩) B.length B.length, .int .i64 (-1), .nilIface] 51 (0, 0)) := by
        show (w.setCell ⟨ib, 2, none⟩ (.int .i64 (-1))).heap[ib]? = _
        rw [hbk1]; simp
      have := Lib.heap_setCell_same (i := 1) hb2 (.slice (some ⟨r, 0, none⟩) 0 B.length)
      rw [this]; simp
    · exact setCell_row hrb hr1
    · exact (show Touch ib (some r) w (w.setCell ⟨ib, 2, none⟩ (.int .i64 (-1))).drew from ⟨hT1.os, hT1.tape, hT1.output, hT1.size, hT1.block⟩).setB 1 _
end Go.Proofs.Qxb6612279a
