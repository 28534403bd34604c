/-
  (*bytes.Buffer).Write AT THIS DUMP: the sink's bytes and p's behind them; of what was there only the sink's own block and its own row may be written.
-/
import Derived.Test.Qxb6612279aGrow
import Derived.Laws.CopyRow
import Derived.Laws.IdiomCopy
namespace Go.Proofs.Qxb6612279a
open Go.RowKit
set_option linter.unusedVariables false
set_option linter.unusedSimpArgs false

def blk : Option Addr → Option Nat
  | some a => some a.block
  | none => none
/-- The sink: block b, the bytes O (as cells). -/
def Sink (w : World) (b : Nat) (ao : Option Addr) (cap : Nat) (O : List Value) : Prop :=
  Buf w b ao O.length cap ∧ (∀ v ∈ O, v.oneCell' = true) ∧
  ((ao = none ∧ O = [] ∧ cap = 0) ∨ ∃ g cur, ao = some ⟨g, 0, none⟩ ∧ w.heap[g]? = some (.cells cur 5 (0, 0)) ∧ cur.size = cap ∧ O.length ≤ cap ∧ cap ≤ maxLen ∧ cur.toList.take O.length = O ∧ g ≠ b ∧ 1 ≤ O.length)
def Wrote (b : Nat) (ao : Option Addr) (n : Nat) (O cs : List Value) (w : World) (e : Ending) (w' : World) : Prop :=
  e = .returned (.tuple #[.int .i64 (n : Int), .nilIface]) ∧ ∃ ao' cap', Sink w' b ao' cap' (O ++ cs) ∧ Touch b (blk ao) w w' ∧ (blk ao' = blk ao ∨ ∃ g, blk ao' = some g ∧ w.heap.size ≤ g)

theorem Try.size5 : (Try.prog.info? 5).map (·.size) = some 1 := by kernel_rfl

/-- The row behind the copy. -/
theorem sink_end {b g l n cap : Nat} {O cs : List Value} {cur : Array Value} {W : World} (hB : Buf W b (some ⟨g, 0, none⟩) (l + n) cap) (hl : O.length = l) (hn : cs.length = n) (hg : W.heap[g]? = some (.cells cur 5 (0, 0))) (hcs : cur.size = cap)
    (htk : cur.toList.take l = O) (hr : l + n ≤ cap) (hcm : cap ≤ maxLen) (hgb : g ≠ b) (h1 : ∀ v ∈ O, v.oneCell' = true) (h2 : ∀ v ∈ cs, v.oneCell' = true) (hn1 : 1 ≤ n) :
    Sink (W.setRow g (cur.toList.take l ++ (cs ++ cur.toList.drop (l + n))).toArray) b (some ⟨g, 0, none⟩) cap (O ++ cs) := by
  obtain ⟨lr, hB⟩ := hB
  refine ⟨⟨lr, ?_⟩, ?_, .inr ⟨g, _, rfl, setRow_heap W g cur _ 5 (0, 0) hg, ?_, ?_, hcm, ?_, hgb, ?_⟩⟩
  · rw [setRow_other W g b _ (Ne.symm hgb), hB, List.length_append, hl, hn]
  · intro v hv
    rcases List.mem_append.1 hv with h | h
    · exact h1 v h
    · exact h2 v h
  · simp [hn]; omega
  · rw [List.length_append]; omega
  · show List.take (O ++ cs).length (cur.toList.take l ++ (cs ++ cur.toList.drop (l + n))) = O ++ cs
    rw [htk, ← List.append_assoc, List.take_left' rfl]
  · rw [List.length_append]; omega

theorem touch_setRow {b g : Nat} {r : Option Nat} {w w' : World} (h : Touch b r w w') (hg : some g = r ∨ w.heap.size ≤ g) (cs : Array Value) : Touch b r w (w'.setRow g cs) :=
  ⟨h.os, h.tape, h.output, by simpa [World.setRow] using h.size, fun k hk h1 h2 => (setRow_other w' g k cs (by rintro rfl; rcases hg with e | e; exact h2 e; omega)).trans (h.block k hk h1 h2)⟩

set_option maxHeartbeats 6400000 in
set_option maxRecDepth 100000 in
theorem write_room (b g n c cap : Nat) (lr : Int) (cur : Array Value) (O cs : List Value) (a : Addr) (w : World)
    (hbk : w.heap[b]? = some (.cells #[.slice (some ⟨g, 0, none⟩) O.length cap, .int .i64 0, .int .i8 lr] 57 (0, 0))) (hg : w.heap[g]? = some (.cells cur 5 (0, 0))) (hcs : cur.size = cap) (hlc : O.length ≤ cap) (hcm : cap ≤ maxLen) (htk : cur.toList.take O.length = O) (hgb : g ≠ b)
    (h1 : ∀ v ∈ O, v.oneCell' = true) (h2 : ∀ v ∈ cs, v.oneCell' = true) (hn : cs.length = n) (hn1 : 1 ≤ n) (hroom : n ≤ cap - O.length) (hab : a.block ≠ b) (hsrc : ∀ j v, cs[j]? = some v → w.cell? (a.add j) = some v) :
    Calls Try.prog 59 #[.pointer (some ⟨b, 0, none⟩), .slice (some a) n c] w (Wrote b (some ⟨g, 0, none⟩) n O cs w) := by
  obtain ⟨l, hl⟩ : ∃ l, O.length = l := ⟨_, rfl⟩
  rw [hl] at hbk hlc htk hroom
  have c2 : w.cell? ⟨b, 2, none⟩ = some (.int .i8 lr) := by rw [Lib.cell_of_heap hbk]; rfl
  have f2 : w.frozen? ⟨b, 2, none⟩ = false := Lib.frozen_of_heap hbk 2
  obtain ⟨w1, hw1⟩ : ∃ w1, w1 = w.setCell ⟨b, 2, none⟩ (.int .i8 0) := ⟨_, rfl⟩
  have hbk1 : w1.heap[b]? = some (.cells #[.slice (some ⟨g, 0, none⟩) l cap, .int .i64 0, .int .i8 0] 57 (0, 0)) := by
    have := Lib.heap_setCell_same (i := 2) hbk (.int .i8 0)
    rw [hw1, this]; simp
  have c0 : w1.cell? ⟨b, 0, none⟩ = some (.slice (some ⟨g, 0, none⟩) l cap) := by rw [Lib.cell_of_heap hbk1]; rfl
  have f0 : w1.frozen? ⟨b, 0, none⟩ = false := Lib.frozen_of_heap hbk1 0
  have HT := hide (Try.Buffer_tryGrow_room b (some ⟨g, 0, none⟩) l cap n w1 c0 f0 hlc hcm hroom)
  obtain ⟨w2, hw2⟩ : ∃ w2, w2 = w1.setCell ⟨b, 0, none⟩ (.slice (some ⟨g, 0, none⟩) (l + n) cap) := ⟨_, rfl⟩
  have hbk2 : w2.heap[b]? = some (.cells #[.slice (some ⟨g, 0, none⟩) (l + n) cap, .int .i64 0, .int .i8 0] 57 (0, 0)) := by
    have := Lib.heap_setCell_same (i := 0) hbk1 (.slice (some ⟨g, 0, none⟩) (l + n) cap)
    rw [hw2, this]; simp
  have d0 : w2.cell? ⟨b, 0, none⟩ = some (.slice (some ⟨g, 0, none⟩) (l + n) cap) := by rw [Lib.cell_of_heap hbk2]; rfl
  have hT2 : Touch b none w w2 := by rw [hw2, hw1]; exact ((Touch.refl b none w).setB 2 _).setB 0 _
  have hg2 : w2.heap[g]? = some (.cells cur 5 (0, 0)) := (hT2.block g (Lib.lt_of_heap hg) hgb (by simp)).trans hg
  have hsrc2 : ∀ j v, cs[j]? = some v → w2.cell? (a.add j) = some v := fun j v hj => by
    have h := hsrc j v hj
    have hlt := World.block_lt_of_cell? w _ h
    have hbl : (a.add j).block = a.block := Lib.block_add a j
    rw [World.cell?_of_block (w := w) (w' := w2) (hT2.block _ hlt (by rw [hbl]; exact hab) (by simp))]; exact h
  have hne : ¬ cap = l := by omega
  have hcp := run_copy_row (P := Try.prog) w2 22 22 3 5 g l n (cap - l) a n c cur 5 cs Try.underlying22 Try.size5 hg2 (by rw [hn]; exact (Nat.min_self n).symm) hsrc2 (by rw [hn]; omega) h2
  rw [hn] at hcp
  have HEND := hide (sink_end (O := O) ⟨0, hbk2⟩ hl hn hg2 hcs htk (by omega) hcm hgb h1 h2 hn1)
  have HT2 := hide hT2
  have hcm' := hcm
  unfold maxLen at hcm'
  have HW2 := hide hw2
  clear hbk hg hbk1 hbk2 hg2 hsrc hsrc2 hT2 hw2 htk h1 h2 hcm
  go_enter Try.func59, Try.ntmps59
  go_wp2_with (go_at_call 60; rw [← hw1]; refine HT.out.mono ?_; rintro e W ⟨rfl, hW⟩; rw [← HW2.out] at hW; subst hW)
  go_ret2
  exact ⟨rfl, some ⟨g, 0, none⟩, cap, HEND.out, touch_setRow (HT2.out.weak _) (.inl rfl) _, .inl rfl⟩

set_option maxHeartbeats 6400000 in
set_option maxRecDepth 100000 in
theorem write_grow (b n c l cap : Nat) (lr : Int) (ao : Option Addr) (O cs : List Value) (a : Addr) (w w1 : World)
    (hbk : w.heap[b]? = some (.cells #[.slice ao l cap, .int .i64 0, .int .i8 lr] 57 (0, 0))) (hw1 : w1 = w.setCell ⟨b, 2, none⟩ (.int .i8 0)) (hl : O.length = l) (hlc : l ≤ cap) (hcm : cap ≤ maxLen)
    (h1 : ∀ v ∈ O, v.oneCell' = true) (h2 : ∀ v ∈ cs, v.oneCell' = true) (hn : cs.length = n) (hn1 : 1 ≤ n) (hroom : cap - l < n) (hab : a.block ≠ b) (hsrc : ∀ j v, cs[j]? = some v → w.cell? (a.add j) = some v) (hsmall : l + n ≤ 140737488355328)
    (hG : Calls Try.prog 61 #[.pointer (some ⟨b, 0, none⟩), .int .i64 (n : Int)] w1 (Grown b l n O w1)) :
    Calls Try.prog 59 #[.pointer (some ⟨b, 0, none⟩), .slice (some a) n c] w (Wrote b ao n O cs w) := by
  have c2 : w.cell? ⟨b, 2, none⟩ = some (.int .i8 lr) := by rw [Lib.cell_of_heap hbk]; rfl
  have f2 : w.frozen? ⟨b, 2, none⟩ = false := Lib.frozen_of_heap hbk 2
  have hbk1 : w1.heap[b]? = some (.cells #[.slice ao l cap, .int .i64 0, .int .i8 0] 57 (0, 0)) := by
    have := Lib.heap_setCell_same (i := 2) hbk (.int .i8 0)
    rw [hw1, this]; simp
  have c0 : w1.cell? ⟨b, 0, none⟩ = some (.slice ao l cap) := by rw [Lib.cell_of_heap hbk1]; rfl
  have HT := hide (Try.Buffer_tryGrow_none b ao l cap n w1 c0 hlc hcm hroom)
  have HG := hide hG
  have hT1 : Touch b none w w1 := by rw [hw1]; exact (Touch.refl b none w).setB 2 _
  have HT1 := hide hT1
  have HS := hide hsrc
  have H1 := hide h1
  have H2 := hide h2
  have hbw : b < w.heap.size := Lib.lt_of_heap hbk
  clear hbk hbk1 hsrc hT1 h1 h2 hG c0
  go_enter Try.func59, Try.ntmps59
  go_wp2_with (go_at_call 60; rw [← hw1]; refine HT.out.mono ?_; rintro e W ⟨rfl, hW⟩; subst hW)
  go_wp2_with (go_at_call 61; rw [← hw1]; refine HG.out.mono ?_)
  rintro e W2 ⟨rfl, g, cap2, cells, ⟨lr2, hbk2⟩, hg2, hcs2, htk2, hr2, hcm2, hgw, hT2⟩
  have hT3 := HT1.out.trans hT2
  have hszw : w.heap.size ≤ g := Nat.le_trans HT1.out.size hgw
  have d0 : W2.cell? ⟨b, 0, none⟩ = some (.slice (some ⟨g, 0, none⟩) (l + n) cap2) := by rw [Lib.cell_of_heap hbk2]; rfl
  have hsrc2 : ∀ j v, cs[j]? = some v → W2.cell? (a.add j) = some v := fun j v hj => by
    have h := HS.out j v hj
    have hlt := World.block_lt_of_cell? w _ h
    have hbl : (a.add j).block = a.block := Lib.block_add a j
    rw [World.cell?_of_block (w := w) (w' := W2) (hT3.block _ hlt (by rw [hbl]; exact hab) (by simp))]; exact h
  have hne : ¬ cap2 = l := by omega
  have hcp := run_copy_row (P := Try.prog) W2 22 22 3 5 g l n (cap2 - l) a n c cells 5 cs Try.underlying22 Try.size5 hg2 (by rw [hn]; exact (Nat.min_self n).symm) hsrc2 (by rw [hn]; omega) H2.out
  rw [hn] at hcp
  have HEND := hide (sink_end (O := O) ⟨lr2, hbk2⟩ hl hn hg2 hcs2 htk2 hr2 hcm2 (by omega) H1.out H2.out hn1)
  have HT3 := hide hT3
  unfold maxLen at hcm2
  clear hbk2 hg2 hsrc2 hT2 hT3 htk2
  go_wp2
  go_ret2
  exact ⟨rfl, some ⟨g, 0, none⟩, cap2, HEND.out, touch_setRow (HT3.out.weak _) (.inr hszw) _, .inr ⟨g, rfl, hszw⟩⟩

set_option maxHeartbeats 6400000 in
set_option maxRecDepth 100000 in
theorem write_empty (b c cap : Nat) (lr : Int) (ao : Option Addr) (O : List Value) (a : Option Addr) (w : World)
    (hbk : w.heap[b]? = some (.cells #[.slice ao O.length cap, .int .i64 0, .int .i8 lr] 57 (0, 0))) (hlc : O.length ≤ cap) (hcm : cap ≤ maxLen) (hS : Sink w b ao cap O) :
    Calls Try.prog 59 #[.pointer (some ⟨b, 0, none⟩), .slice a 0 c] w (Wrote b ao 0 O [] w) := by
  obtain ⟨l, hl⟩ : ∃ l, O.length = l := ⟨_, rfl⟩
  rw [hl] at hbk hlc
  have c2 : w.cell? ⟨b, 2, none⟩ = some (.int .i8 lr) := by rw [Lib.cell_of_heap hbk]; rfl
  have f2 : w.frozen? ⟨b, 2, none⟩ = false := Lib.frozen_of_heap hbk 2
  obtain ⟨w1, hw1⟩ : ∃ w1, w1 = w.setCell ⟨b, 2, none⟩ (.int .i8 0) := ⟨_, rfl⟩
  have hbk1 : w1.heap[b]? = some (.cells #[.slice ao l cap, .int .i64 0, .int .i8 0] 57 (0, 0)) := by
    have := Lib.heap_setCell_same (i := 2) hbk (.int .i8 0)
    rw [hw1, this]; simp
  have c0 : w1.cell? ⟨b, 0, none⟩ = some (.slice ao l cap) := by rw [Lib.cell_of_heap hbk1]; rfl
  have f0 : w1.frozen? ⟨b, 0, none⟩ = false := Lib.frozen_of_heap hbk1 0
  have HT := hide (Try.Buffer_tryGrow_room b ao l cap 0 w1 c0 f0 hlc hcm (Nat.zero_le _))
  obtain ⟨w2, hw2⟩ : ∃ w2, w2 = w1.setCell ⟨b, 0, none⟩ (.slice ao (l + 0) cap) := ⟨_, rfl⟩
  have hbk2 : w2.heap[b]? = some (.cells #[.slice ao l cap, .int .i64 0, .int .i8 0] 57 (0, 0)) := by
    have := Lib.heap_setCell_same (i := 0) hbk1 (.slice ao (l + 0) cap)
    rw [hw2, this]; simp
  have d0 : w2.cell? ⟨b, 0, none⟩ = some (.slice ao l cap) := by rw [Lib.cell_of_heap hbk2]; rfl
  have hT2 : Touch b none w w2 := by rw [hw2, hw1]; exact ((Touch.refl b none w).setB 2 _).setB 0 _
  have hce : ∀ d dLen dCap W, (Builtin.copy_ #[22, 22] 3 #[.slice d dLen dCap, .slice a 0 c]).run Try.prog W = .ok (goInt 0) W := fun d dLen dCap W => run_copy_none W 22 22 3 5 d a dLen dCap 0 c Try.underlying22 Try.size5 (by simp)
  have HEND : Hid (Sink w2 b ao cap (O ++ [])) := by
    rw [List.append_nil]
    obtain ⟨-, h1, h2⟩ := hS
    refine ⟨⟨0, by rw [hl]; exact hbk2⟩, h1, ?_⟩
    rcases h2 with h | ⟨g, cur, e, hg, h3, h4, h5, h6, h7, h8⟩
    · exact .inl h
    · exact .inr ⟨g, cur, e, (hT2.block g (Lib.lt_of_heap hg) h7 (by simp)).trans hg, h3, h4, h5, h6, h7, h8⟩
  have HT2 := hide hT2
  have hcm' := hcm
  unfold maxLen at hcm'
  have HW2 := hide hw2
  clear hbk hbk1 hbk2 hT2 hw2 hS hcm c0 f0
  cases ao with
  | none =>
    go_enter Try.func59, Try.ntmps59
    go_wp2_with (go_at_call 60; rw [← hw1]; refine HT.out.mono ?_; rintro e W ⟨rfl, hW⟩; rw [← HW2.out] at hW; subst hW)
    all_goals go_ret2
    all_goals exact ⟨rfl, none, cap, HEND.out, HT2.out.weak _, .inl rfl⟩
  | some x =>
    go_enter Try.func59, Try.ntmps59
    go_wp2_with (go_at_call 60; rw [← hw1]; refine HT.out.mono ?_; rintro e W ⟨rfl, hW⟩; rw [← HW2.out] at hW; subst hW)
    all_goals go_ret2
    all_goals exact ⟨rfl, some x, cap, HEND.out, HT2.out.weak _, .inl rfl⟩

theorem setCell_row {w : World} {b g i : Nat} {v : Value} {cur : Array Value} (hgb : g ≠ b) (hg : w.heap[g]? = some (.cells cur 5 (0, 0))) : (w.setCell ⟨b, i, none⟩ v).heap[g]? = some (.cells cur 5 (0, 0)) :=
  (Below.heap_setCell w ⟨b, i, none⟩ v g hgb).trans hg

/-- Write, whatever the sink holds and whatever is written. -/
theorem write_ok {w : World} {b : Nat} {ao : Option Addr} {cap : Nat} {O : List Value} (hS : Sink w b ao cap O) (a : Option Addr) (n c : Nat) (cs : List Value) (hn : cs.length = n) (hnil : a = none → n = 0)
    (hsrc : ∀ x, a = some x → x.block ≠ b ∧ ∀ j v, cs[j]? = some v → w.cell? (x.add j) = some v) (h2 : ∀ v ∈ cs, v.oneCell' = true) (hlim : O.length + n ≤ 4194304) :
    Calls Try.prog 59 #[.pointer (some ⟨b, 0, none⟩), .slice a n c] w (Wrote b ao n O cs w) := by
  have hS' := hS
  obtain ⟨⟨lr, hbk⟩, h1, hrow⟩ := hS
  by_cases hn0 : n = 0
  · subst hn0
    have : cs = [] := List.eq_nil_of_length_eq_zero hn
    subst this
    rcases hrow with ⟨rfl, rfl, rfl⟩ | ⟨g, cur, rfl, hg, hcs, hlc, hcm, htk, hgb, hl1⟩
    · exact write_empty b c 0 lr none [] a w hbk (Nat.zero_le _) (Nat.zero_le _) hS'
    · exact write_empty b c cap lr _ O a w hbk hlc hcm hS'
  · cases a with
    | none => exact absurd (hnil rfl) hn0
    | some x =>
      obtain ⟨hxb, hx⟩ := hsrc x rfl
      have hbk1 := Lib.heap_setCell_same (i := 2) hbk (.int .i8 0)
      rcases hrow with ⟨rfl, rfl, rfl⟩ | ⟨g, cur, rfl, hg, hcs, hlc, hcm, htk, hgb, hl1⟩
      · refine write_grow b n c 0 0 lr none [] cs x w _ hbk rfl rfl (Nat.le_refl _) (Nat.zero_le _) h1 h2 hn (by omega) (by omega) hxb hx (by omega) ?_
        have hbk1' : (w.setCell ⟨b, 2, none⟩ (.int .i8 0)).heap[b]? = some (.cells #[.slice none 0 0, .int .i64 0, .int .i8 0] 57 (0, 0)) := by rw [hbk1]; simp
        by_cases h64 : n ≤ 64
        · exact grow_nil_small b n 0 _ hbk1' (by omega) h64
        · exact grow_nil_big b n 0 _ hbk1' (by omega) (by omega)
      · by_cases hroom : n ≤ cap - O.length
        · exact write_room b g n c cap lr cur O cs x w hbk hg hcs hlc hcm htk hgb h1 h2 hn (by omega) hroom hxb hx
        · refine write_grow b n c O.length cap lr _ O cs x w _ hbk rfl rfl hlc hcm h1 h2 hn (by omega) (by omega) hxb hx (by omega) ?_
          have hbk1' : (w.setCell ⟨b, 2, none⟩ (.int .i8 0)).heap[b]? = some (.cells #[.slice (some ⟨g, 0, none⟩) O.length cap, .int .i64 0, .int .i8 0] 57 (0, 0)) := by rw [hbk1]; simp
          exact grow_row b g O.length cap n 0 cur O _ hbk1' rfl (setCell_row hgb hg) hlc hcm hcs htk hgb h1 hl1 (by omega) (by omega) (by omega)
end Go.Proofs.Qxb6612279a
