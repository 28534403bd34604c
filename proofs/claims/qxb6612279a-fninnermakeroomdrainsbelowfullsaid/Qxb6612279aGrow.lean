/-
  (*bytes.Buffer).grow AT THIS DUMP, WHERE THERE IS NO ROOM: THE NEW ROW IS A NEW BLOCK (the shelf's contract does not say that), and of what was there only the Buffer's own block is written.
-/
import Derived.Test.Qxb6612279aRows
import Derived.Test.Qxb6612279aShelf
import Derived.WalkKit
import Derived.WalkSpells
import Derived.ProofKit
import Derived.Below
import Derived.BigQuiet
import Derived.Deep.RegionWith
import Derived.Deep.Draws
import Derived.Lib.BufferMore
import Derived.Lib.Walk
import Derived.Laws.MakeOwn
namespace Go.Proofs.Qxb6612279a
open Go.RowKit
set_option linter.unusedVariables false
set_option linter.unusedSimpArgs false
theorem hide {p : Prop} (h : p) : Hid p := h

/-- Block b holds a bytes.Buffer: its slice, nothing read. -/
def Buf (w : World) (b : Nat) (ao : Option Addr) (l cap : Nat) : Prop := ∃ lr : Int, w.heap[b]? = some (.cells #[.slice ao l cap, .int .i64 0, .int .i8 lr] 57 (0, 0))
/-- Of what was there when the call began only block b (and the row r) may have been written. -/
structure Touch (b : Nat) (r : Option Nat) (w w' : World) : Prop where
  os : w'.os = w.os
  tape : w'.tape = w.tape
  output : w'.output = w.output
  size : w.heap.size ≤ w'.heap.size
  block : ∀ k, k < w.heap.size → k ≠ b → some k ≠ r → w'.heap[k]? = w.heap[k]?
theorem Touch.refl (b : Nat) (r : Option Nat) (w : World) : Touch b r w w := ⟨rfl, rfl, rfl, Nat.le_refl _, fun _ _ _ _ => rfl⟩
theorem Touch.trans {b : Nat} {r : Option Nat} {u v w : World} (h : Touch b r u v) (k : Touch b r v w) : Touch b r u w :=
  ⟨k.os.trans h.os, k.tape.trans h.tape, k.output.trans h.output, Nat.le_trans h.size k.size, fun i hi h1 h2 => (k.block i (Nat.lt_of_lt_of_le hi h.size) h1 h2).trans (h.block i hi h1 h2)⟩
theorem Touch.ofBelow {b : Nat} {r : Option Nat} {w w' : World} (h : Below w.heap.size w w') : Touch b r w w' := ⟨h.os, h.tape, h.output, h.size, fun k hk _ _ => h.block k hk⟩
theorem Touch.setB {b : Nat} {r : Option Nat} {w w' : World} (h : Touch b r w w') (i : Nat) (v : Value) : Touch b r w (w'.setCell ⟨b, i, none⟩ v) :=
  ⟨h.os, h.tape, h.output, by simpa [World.setCell] using h.size, fun k hk h1 h2 => (Below.heap_setCell w' ⟨b, i, none⟩ v k h1).trans (h.block k hk h1 h2)⟩
theorem Touch.drewN {b : Nat} {r : Option Nat} {w w' : World} (h : Touch b r w w') (n : Nat) : Touch b r w (w'.drewN n) := ⟨h.os, h.tape, h.output, h.size, h.block⟩
theorem Touch.weak {b : Nat} {w w' : World} (h : Touch b none w w') (r : Option Nat) : Touch b r w w' := ⟨h.os, h.tape, h.output, h.size, fun k hk h1 _ => h.block k hk h1 (by simp)⟩

/-- What grow leaves: a new row g, the old l bytes at its head, room for n more. -/
def Grown (b l n : Nat) (bs : List Value) (w : World) (e : Ending) (w' : World) : Prop :=
  e = .returned (.int .i64 (l : Int)) ∧ ∃ g cap cells, Buf w' b (some ⟨g, 0, none⟩) (l + n) cap ∧ w'.heap[g]? = some (.cells cells 5 (0, 0)) ∧ cells.size = cap ∧ cells.toList.take l = bs ∧ l + n ≤ cap ∧ cap ≤ maxLen ∧ w.heap.size ≤ g ∧ Touch b none w w'

theorem buf_end {b g l n cap2 : Nat} {lr : Int} {v : Value} {cells : Array Value} {w2 : World} (hbk : w2.heap[b]? = some (.cells #[v, .int .i64 0, .int .i8 lr] 57 (0, 0))) (hN : w2.heap[g]? = some (.cells cells 5 (0, 0))) (hgb : g ≠ b) (x y : Value) (hy : y = .slice (some ⟨g, 0, none⟩) (l + n) cap2) :
    Buf (((w2.setCell ⟨b, 0, none⟩ x).setCell ⟨b, 1, none⟩ (.int .i64 0)).setCell ⟨b, 0, none⟩ y) b (some ⟨g, 0, none⟩) (l + n) cap2 ∧
    (((w2.setCell ⟨b, 0, none⟩ x).setCell ⟨b, 1, none⟩ (.int .i64 0)).setCell ⟨b, 0, none⟩ y).heap[g]? = some (.cells cells 5 (0, 0)) := by
  subst hy
  refine ⟨⟨lr, ?_⟩, ?_⟩
  · have h1 := Lib.heap_setCell_same (i := 0) hbk x
    have h2 := Lib.heap_setCell_same (i := 1) h1 (.int .i64 0)
    have h3 := Lib.heap_setCell_same (i := 0) h2 (.slice (some ⟨g, 0, none⟩) (l + n) cap2)
    simpa using h3
  · rw [Below.heap_setCell _ _ _ _ hgb, Below.heap_setCell _ _ _ _ hgb, Below.heap_setCell _ _ _ _ hgb]; exact hN

theorem heap_new (w : World) (o : Obj) : (w.alloc o).heap[w.heap.size]? = some o := by
  show (w.heap.push o)[w.heap.size]? = _
  simp

theorem make_64 (n : Nat) (h : n ≤ 64) (w : World) :
    (Instr.makeSlice 22 (.int .i64 (n : Int)) (.int .i64 64)).run Try.prog w = .ok (.slice (some ⟨w.heap.size, 0, none⟩) n 64) (w.alloc (.cells (madeCells #[.int .u8 0] 64) 5)) := by
  have hh : (Try.prog.info? 5).map (fun i => (i.zero, i.size, i.bytes)) = some (some (.int .u8 0), 1, 1) := by kernel_rfl
  obtain ⟨i, hi, hzz⟩ := Option.map_eq_some_iff.1 hh
  simp only [Prod.mk.injEq] at hzz
  obtain ⟨hz, hs, hb⟩ := hzz
  have hr := run_make (P := Try.prog) w 22 5 i (.int .u8 0) Try.underlying22 hi hz .i64 .i64 n 64 (by omega) (by omega) (by rw [hb]; decide) (by decide)
  simp only [Int.toNat_natCast, hs, Nat.mul_one] at hr
  exact hr

set_option maxHeartbeats 12800000 in
set_option maxRecDepth 100000 in
theorem grow_nil_small (b n : Nat) (lr : Int) (w : World)
    (hbk : w.heap[b]? = some (.cells #[.slice none 0 0, .int .i64 0, .int .i8 lr] 57 (0, 0))) (hn1 : 1 ≤ n) (hn : n ≤ 64) :
    Calls Try.prog 61 #[.pointer (some ⟨b, 0, none⟩), .int .i64 (n : Int)] w (Grown b 0 n [] w) := by
  have hIs : Lib.IsBuffer 57 5 0 b [] w := ⟨Nat.zero_le _, _, _, hbk, World.ownsRow_nil _ _ _ _, by simp [Value.ownBlock]⟩
  have hnil : ∀ W, (binOp .eql 22 (.slice none 0 0) (.slice none 0 0)).run Try.prog W = .ok (.bool true) W := fun W => Lib.run_eql_slice_nil_nil W 0 0 Try.underlying22
  have hmk := make_64 n hn
  have HL := hide (Try.Buffer_Len 0 b [] w hIs)
  clear hIs
  go_enter Try.func61, Try.ntmps61
  go_wp2_with (go_at_call 62; refine HL.out.mono ?_)
  rintro e W0 ⟨rfl, k, hW0⟩
  have hbk0 : W0.heap[b]? = some (.cells #[.slice none 0 0, .int .i64 0, .int .i8 lr] 57 (0, 0)) := by rw [hW0]; exact hbk
  have c0 : W0.cell? ⟨b, 0, none⟩ = some (.slice none 0 0) := by rw [Lib.cell_of_heap hbk0]; rfl
  have c1 : W0.cell? ⟨b, 1, none⟩ = some (.int .i64 0) := by rw [Lib.cell_of_heap hbk0]; rfl
  have f0 : W0.frozen? ⟨b, 0, none⟩ = false := Lib.frozen_of_heap hbk0 0
  have hbW := Lib.lt_of_heap hbk0
  have hbW1 : b < W0.heap.size + 1 := by omega
  have HW0 := hide hW0
  have HBK0 := hide hbk0
  clear hW0 hbk hbk0
  have HTG := hide (Try.Buffer_tryGrow_none b none 0 0 n W0 c0 (Nat.le_refl _) (Nat.zero_le _) (by omega))
  go_wp2_with (go_at_call 60; refine HTG.out.mono ?_; rintro e w' ⟨rfl, rfl⟩)
  go_ret
  have hsz0 : w'.heap.size = w.heap.size := by rw [HW0.out]; rfl
  have hbk1 := Lib.heap_setCell_same (i := 0) HBK0.out (.slice (some ⟨w'.heap.size, 0, none⟩) n 64)
  have hsz1 : (w'.setCell ⟨b, 0, none⟩ (.slice (some ⟨w'.heap.size, 0, none⟩) n 64)).heap.size = w'.heap.size := by simp [World.setCell]
  have hT : Touch b none w (w'.setCell ⟨b, 0, none⟩ (.slice (some ⟨w'.heap.size, 0, none⟩) n 64)) := (show Touch b none w w' from by rw [HW0.out]; exact ⟨rfl, rfl, rfl, Nat.le_refl _, fun _ _ _ _ => rfl⟩).setB 0 _
  have hnew : ((w'.setCell ⟨b, 0, none⟩ (.slice (some ⟨w'.heap.size, 0, none⟩) n 64)).alloc (.cells (madeCells #[.int .u8 0] 64) 5)).heap[w'.heap.size]? = some (.cells (madeCells #[.int .u8 0] 64) 5 (0, 0)) := by
    have := heap_new (w'.setCell ⟨b, 0, none⟩ (.slice (some ⟨w'.heap.size, 0, none⟩) n 64)) (.cells (madeCells #[.int .u8 0] 64) 5)
    rwa [hsz1] at this
  refine ⟨rfl, w'.heap.size, 64, madeCells #[.int .u8 0] 64, ⟨lr, ?_⟩, hnew, size_madeCells _ _, by simp, by omega, by simp [maxLen], by omega, hT.trans (Touch.ofBelow ((Below.refl _ _).alloc (Nat.le_refl _) _))⟩
  rw [Below.heap_alloc _ _ _ (by omega), hbk1]
  simp

set_option maxHeartbeats 12800000 in
set_option maxRecDepth 100000 in
theorem grow_row (b g l cap n : Nat) (lr : Int) (cur : Array Value) (bs : List Value) (w : World)
    (hbk : w.heap[b]? = some (.cells #[.slice (some ⟨g, 0, none⟩) l cap, .int .i64 0, .int .i8 lr] 57 (0, 0)))
    (hl : bs.length = l) (hg : w.heap[g]? = some (.cells cur 5 (0, 0))) (hlc : l ≤ cap) (hcm : cap ≤ maxLen) (hcs : cur.size = cap) (htake : cur.toList.take l = bs) (hgb : g ≠ b)
    (h1 : ∀ v ∈ bs, v.oneCell' = true) (hl1 : 1 ≤ l) (hn : 1 ≤ n) (hroom : cap - l < n) (hlim : l + n ≤ 140737488355328) :
    Calls Try.prog 61 #[.pointer (some ⟨b, 0, none⟩), .int .i64 (n : Int)] w (Grown b l n bs w) := by
  have hIs : Lib.IsBuffer 57 5 0 b bs w := ⟨Nat.zero_le _, _, _, hbk, ⟨by rw [hl, Nat.mul_one], .inr ⟨g, cap, cur, by rw [hl], Nat.zero_le _, hg, by omega, hcm, by omega, by rw [hl, Nat.mul_one]; exact htake⟩⟩, by simp [Value.ownBlock]; exact hgb⟩
  have hnil : ∀ W, (binOp .eql 22 (.slice (some ⟨g, 0, none⟩) l cap) (.slice none 0 0)).run Try.prog W = .ok (.bool false) W := fun W => Lib.run_eql_slice_some_nil W _ _ _ Try.underlying22
  have HL := hide (Try.Buffer_Len 0 b bs w hIs)
  have HTK := hide htake
  clear hIs
  go_enter Try.func61, Try.ntmps61
  go_wp2_with (go_at_call 62; refine HL.out.mono ?_)
  rintro e W0 ⟨rfl, k, hW0⟩
  rw [hl]
  have hbk0 : W0.heap[b]? = some (.cells #[.slice (some ⟨g, 0, none⟩) l cap, .int .i64 0, .int .i8 lr] 57 (0, 0)) := by rw [hW0]; exact hbk
  have hg0 : W0.heap[g]? = some (.cells cur 5 (0, 0)) := by rw [hW0]; exact hg
  have c0 : W0.cell? ⟨b, 0, none⟩ = some (.slice (some ⟨g, 0, none⟩) l cap) := by rw [Lib.cell_of_heap hbk0]; rfl
  have c1 : W0.cell? ⟨b, 1, none⟩ = some (.int .i64 0) := by rw [Lib.cell_of_heap hbk0]; rfl
  have f0 : W0.frozen? ⟨b, 0, none⟩ = false := Lib.frozen_of_heap hbk0 0
  have f1 : W0.frozen? ⟨b, 1, none⟩ = false := Lib.frozen_of_heap hbk0 1
  have HW0 := hide hW0
  have HG0 := hide hg0
  have HBK0 := hide hbk0
  clear hW0 hbk hg hbk0 hg0 htake
  have hcm' := hcm
  unfold maxLen at hcm'
  have HTG := hide (Try.Buffer_tryGrow_none b _ l cap n W0 c0 hlc hcm hroom)
  go_wp2_with (go_at_call 60; refine HTG.out.mono ?_; rintro e w' ⟨rfl, rfl⟩)
  have hc2 : cap ≤ 140737488355328 := by omega
  have h1' : ∀ v ∈ cur.toList.take l, v.oneCell' = true := by rw [HTK.out]; exact h1
  have hbW := Lib.lt_of_heap HBK0.out
  have hwn : IntKind.i64.wrap (n : Int) = n := by rw [IntKind.wrap_i64]; omega
  go_region_with (
      go_at_call 63
      refine (Try.bytes_growSlice_row g l cap n cur _ ?_ hcs hlc hn hlim hc2 h1').mono ?_
      exact HG0.out
      rintro e w2 ⟨cap2, cells, rfl, hN, hcsz, htk, hcap2, hcm2, hbel⟩
      have hbk2 : w2.heap[b]? = some (.cells #[.slice (some ⟨g, 0, none⟩) l cap, .int .i64 0, .int .i8 lr] 57 (0, 0)) := (hbel.block b hbW).trans HBK0.out
      have d0 : w2.cell? ⟨b, 0, none⟩ = some (.slice (some ⟨g, 0, none⟩) l cap) := by rw [Lib.cell_of_heap hbk2]; rfl
      have d1 : w2.cell? ⟨b, 1, none⟩ = some (.int .i64 0) := by rw [Lib.cell_of_heap hbk2]; rfl
      have e0 : w2.frozen? ⟨b, 0, none⟩ = false := Lib.frozen_of_heap hbk2 0
      have e1 : w2.frozen? ⟨b, 1, none⟩ = false := Lib.frozen_of_heap hbk2 1)
  all_goals (
    go_wp2
    go_ret
    have hsz0 : w'.heap.size = w.heap.size := by rw [HW0.out]; rfl
    have ht : Touch b none w w2 := (show Touch b none w w'.drew from by rw [HW0.out]; exact ⟨rfl, rfl, rfl, Nat.le_refl _, fun _ _ _ _ => rfl⟩).trans (Touch.ofBelow hbel)
    obtain ⟨q1, q2⟩ := buf_end hbk2 hN (show w'.heap.size ≠ b by omega) (.slice (some ⟨w'.heap.size, 0, none⟩) l cap2) _ rfl
    exact ⟨rfl, w'.heap.size, cap2, cells, q1, q2, hcsz, htk.trans HTK.out, hcap2, hcm2, by omega, ((ht.setB 0 _).setB 1 _).setB 0 _⟩)

set_option maxHeartbeats 12800000 in
set_option maxRecDepth 100000 in
theorem grow_nil_big (b n : Nat) (lr : Int) (w : World)
    (hbk : w.heap[b]? = some (.cells #[.slice none 0 0, .int .i64 0, .int .i8 lr] 57 (0, 0))) (hn : 64 < n) (hlim : n ≤ 140737488355328) :
    Calls Try.prog 61 #[.pointer (some ⟨b, 0, none⟩), .int .i64 (n : Int)] w (Grown b 0 n [] w) := by
  have hIs : Lib.IsBuffer 57 5 0 b [] w := ⟨Nat.zero_le _, _, _, hbk, World.ownsRow_nil _ _ _ _, by simp [Value.ownBlock]⟩
  have hnil : ∀ W, (binOp .eql 22 (.slice none 0 0) (.slice none 0 0)).run Try.prog W = .ok (.bool true) W := fun W => Lib.run_eql_slice_nil_nil W 0 0 Try.underlying22
  have HL := hide (Try.Buffer_Len 0 b [] w hIs)
  clear hIs
  have k1 : w.cell? ⟨b, 1, none⟩ = some (.int .i64 0) := by rw [Lib.cell_of_heap hbk]; rfl
  go_enter Try.func61, Try.ntmps61
  go_wp2_with (go_at_call 62; refine HL.out.mono ?_)
  rintro e W0 ⟨rfl, k, hW0⟩
  have hbk0 : W0.heap[b]? = some (.cells #[.slice none 0 0, .int .i64 0, .int .i8 lr] 57 (0, 0)) := by rw [hW0]; exact hbk
  have c0 : W0.cell? ⟨b, 0, none⟩ = some (.slice none 0 0) := by rw [Lib.cell_of_heap hbk0]; rfl
  have c1 : W0.cell? ⟨b, 1, none⟩ = some (.int .i64 0) := by rw [Lib.cell_of_heap hbk0]; rfl
  have f0 : W0.frozen? ⟨b, 0, none⟩ = false := Lib.frozen_of_heap hbk0 0
  have f1 : W0.frozen? ⟨b, 1, none⟩ = false := Lib.frozen_of_heap hbk0 1
  have HW0 := hide hW0
  have HBK0 := hide hbk0
  clear hW0 hbk hbk0 k1
  have HTG := hide (Try.Buffer_tryGrow_none b none 0 0 n W0 c0 (Nat.le_refl _) (Nat.zero_le _) (by omega))
  go_wp2_with (go_at_call 60; refine HTG.out.mono ?_; rintro e w' ⟨rfl, rfl⟩)
  have hbW := Lib.lt_of_heap HBK0.out
  have hwn : IntKind.i64.wrap (n : Int) = n := by rw [IntKind.wrap_i64]; omega
  go_region_with (
      go_at_call 63
      refine (Try.bytes_growSlice_nil n _ (by omega) hlim).mono ?_
      rintro e w2 ⟨cap2, cells, rfl, hN, hcsz, hcap2, hcm2, hbel⟩
      have hbk2 : w2.heap[b]? = some (.cells #[.slice none 0 0, .int .i64 0, .int .i8 lr] 57 (0, 0)) := (hbel.block b hbW).trans HBK0.out
      have d0 : w2.cell? ⟨b, 0, none⟩ = some (.slice none 0 0) := by rw [Lib.cell_of_heap hbk2]; rfl
      have d1 : w2.cell? ⟨b, 1, none⟩ = some (.int .i64 0) := by rw [Lib.cell_of_heap hbk2]; rfl
      have e0 : w2.frozen? ⟨b, 0, none⟩ = false := Lib.frozen_of_heap hbk2 0
      have e1 : w2.frozen? ⟨b, 1, none⟩ = false := Lib.frozen_of_heap hbk2 1)
  all_goals (
    unfold maxLen at hcm2
    go_wp2
    go_ret
    have hsz0 : w'.heap.size = w.heap.size := by rw [HW0.out]; rfl
    have ht : Touch b none w w2 := (show Touch b none w w'.drew from by rw [HW0.out]; exact ⟨rfl, rfl, rfl, Nat.le_refl _, fun _ _ _ _ => rfl⟩).trans (Touch.ofBelow hbel)
    obtain ⟨q1, q2⟩ := buf_end (l := 0) (n := n) (cap2 := cap2) hbk2 hN (show w'.heap.size ≠ b by omega) (.slice (some ⟨w'.heap.size, 0, none⟩) 0 cap2) (.slice (some ⟨w'.heap.size, 0, none⟩) n cap2) (by simp)
    exact ⟨rfl, w'.heap.size, cap2, cells, q1, q2, hcsz, by simp, by omega, by simp [maxLen]; omega, by omega, ((ht.setB 0 _).setB 1 _).setB 0 _⟩)

end Go.Proofs.Qxb6612279a
