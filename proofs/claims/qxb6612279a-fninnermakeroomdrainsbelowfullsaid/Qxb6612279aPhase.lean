/-
  THE LOOP's ROUNDS, WHAT FOLLOWS THE LOOP, THE WHOLE LAW.
-/
import Derived.Test.Qxb6612279aLaw
import Derived.Test.Qxb6612279aStart
import Derived.Test.Qxb6612279aOut
namespace Go.Proofs.Qxb6612279a
open Go.RowKit
set_option linter.unusedVariables false
set_option linter.unusedSimpArgs false

/-- Ahead of the loop's test: k calls of makeRoom have been made, 'buf' holds L bytes. -/
def Ph (W P : List Value) (base ib sk : Nat) (w0 : World) (k : Nat) (w : World) (r cap L : Nat) : Prop :=
  Below base w0 w ∧ ∃ r0 cap0 h B0 B O, L = B.length ∧ St w base ib sk r0 cap0 h B0 O ∧ Row w r cap B ∧ Off w base ib sk r O ∧ O ++ B = W ++ P ∧
    ((h = (W.length : Int) ∧ W.length < 65536 ∧ k = 0 ∧ B = W ++ P ∧ O = []) ∨
     (h = -1 ∧ B = P ∧ O = W ∧ ((65536 ≤ W.length ∧ k = 0) ∨ (W.length < 65536 ∧ k = 1 ∧ 65536 ≤ W.length + P.length))) ∨
     (h = -1 ∧ B = [] ∧ 65536 ≤ P.length ∧ ((65536 ≤ W.length ∧ k = 1) ∨ (W.length < 65536 ∧ k = 2))))

def want (n m : Nat) : Nat := if n < 65536 then (if n + m < 65536 then 0 else if m < 65536 then 1 else 2) else (if m < 65536 then 0 else 1)

theorem ph_step {W P : List Value} {base ib sk : Nat} {w0 : World} (hW : W.length ≤ 524288) (hP : P.length ≤ 524288) {k : Nat} {w : World} {r cap L : Nat} (h : Ph W P base ib sk w0 k w r cap L) (hL : 65536 ≤ L) :
    k ≤ 1 ∧ Calls Try.prog 28 #[.pointer (some ⟨ib, 0, none⟩), .slice (some ⟨r, 0, none⟩) L cap] w fun e w' => ∃ L', e = .returned (.slice (some ⟨r, 0, none⟩) L' cap) ∧ Ph W P base ib sk w0 (k + 1) w' r cap L' := by
  obtain ⟨hB, r0, cap0, hh, B0, B, O, rfl, hSt, hR, hO, hsum, hc⟩ := h
  rcases hc with ⟨rfl, h1, rfl, rfl, rfl⟩ | ⟨rfl, rfl, rfl, h2⟩ | ⟨rfl, rfl, h1, h2⟩
  · refine ⟨by omega, (zz_room (room_whole W.length hSt hR hO (by simp) (by simp; omega))).mono ?_⟩
    rintro e w' ⟨rfl, hs, hb⟩
    rw [List.drop_left, List.take_left, List.nil_append] at hs
    rw [List.drop_left]
    exact ⟨P.length, rfl, hB.trans hb, _, _, _, _, P, W, rfl, hs, hs.row, hs.off, rfl, .inr (.inl ⟨rfl, rfl, rfl, .inr ⟨h1, rfl, by rw [← List.length_append]; exact hL⟩⟩)⟩
  · refine ⟨by omega, (zz_room (room_part hSt hR hO (by omega))).mono ?_⟩
    rintro e w' ⟨rfl, hs, hb⟩
    exact ⟨0, rfl, hB.trans hb, _, _, _, _, [], O ++ B, rfl, hs, hs.row, hs.off, by simp, .inr (.inr ⟨rfl, rfl, hL, by omega⟩)⟩
  · simp at hL

theorem ph_want {W P : List Value} {base ib sk : Nat} {w0 : World} {k : Nat} {w : World} {r cap L : Nat} (h : Ph W P base ib sk w0 k w r cap L) (hL : L < 65536) : k = want W.length P.length := by
  obtain ⟨hB, r0, cap0, hh, B0, B, O, rfl, hSt, hR, hO, hsum, hc⟩ := h
  unfold want
  rcases hc with ⟨rfl, h1, rfl, rfl, rfl⟩ | ⟨rfl, rfl, rfl, h2 | h2⟩ | ⟨rfl, rfl, h1, h2 | h2⟩
  · rw [List.length_append] at hL
    rw [if_pos h1, if_pos hL]
  · rw [if_neg (by omega), if_pos hL]; exact h2.2
  · rw [if_pos h2.1, if_neg (by omega), if_pos hL]; exact h2.2.1
  · rw [if_neg (by omega), if_neg (by omega)]; exact h2.2
  · rw [if_pos h2.1, if_neg (by omega), if_neg (by omega)]; exact h2.2

theorem Row.below {w w' : World} {r cap : Nat} {B : List Value} (h : Row w r cap B) (hb : Below w.heap.size w w') : Row w' r cap B := by
  have hlt := h.lt
  obtain ⟨h1, cur, h2, h3⟩ := h
  exact ⟨h1, cur, (hb.block r hlt).trans h2, h3⟩
theorem Row.ints {w : World} {g cap : Nat} {I : List Int} (h : Row w g cap (I.map (Value.int .u8))) : ∀ j u, I[j]? = some u → w.cell? ⟨g, j, none⟩ = some (.int .u8 u) := by
  intro j u hj
  have := (h.has.cell _ rfl j (.int .u8 u) (by simp [hj])).1
  rw [Lib.addr_add, Nat.zero_add] at this
  exact this

theorem ph_tail {I J : List Int} {base ib sk : Nat} {w0 : World} (hI : I.length ≤ 524288) (hJ : J.length ≤ 524288) {a b : Option Addr} {c d : Nat} (hA : Has base w0 a I.length (I.map (Value.int .u8))) (hBb : Has base w0 b J.length (J.map (Value.int .u8)))
    {k : Nat} {w : World} {r cap L : Nat} (h : Ph (I.map (Value.int .u8)) (J.map (Value.int .u8)) base ib sk w0 k w r cap L) : Tail a b I.length J.length c d sk base w0 r cap L w := by
  obtain ⟨hB, r0, cap0, hh, B0, B, O, rfl, hSt, hR, hO, hsum, -⟩ := h
  have hbase := hSt.size
  obtain ⟨ao, capS, hS, -⟩ := hO.sink
  have hlen : O.length + B.length = I.length + J.length := by rw [← List.length_append, hsum]; simp
  refine (written_ok hS).mono ?_
  rintro e w1 ⟨rfl, -, hb1⟩
  refine ⟨ao, O.length, capS, rfl, ?_⟩
  refine (cat_ok (hS.has.below hb1) (hR.has.below hb1) (by omega) (by omega) hb1.size capS cap).mono ?_
  rintro e w2 ⟨g, rfl, hR2, hb2⟩
  refine ⟨g, _, rfl, ?_⟩
  have hB2 : Below base w0 w2 := (hB.trans (hb1.mono hbase)).trans (hb2.mono (Nat.le_trans hbase hb1.size))
  have hbase2 : base ≤ w2.heap.size := Nat.le_trans hbase (Nat.le_trans hb1.size hb2.size)
  refine (cat_ok (hA.below hB2) (hBb.below hB2) (by omega) (by omega) hbase2 c d).mono ?_
  rintro e w3 ⟨g', rfl, hR3, hb3⟩
  refine ⟨g', _, rfl, ?_⟩
  rw [hlen, hsum] at hR2
  rw [hlen]
  have hR2' := hR2.below hb3
  rw [← List.map_append] at hR2' hR3
  refine (eq_ok g g' (I.length + J.length) _ _ (I ++ J) (by simp) (by omega) w3 hR2'.ints hR3.ints).mono ?_
  rintro e w4 ⟨rfl, hb4⟩
  exact ⟨rfl, (hB2.trans (hb3.mono hbase2)).trans (hb4.mono (Nat.le_trans hbase2 hb3.size))⟩

/-- The lengths within the law's own bound. -/
theorem law_small {I J : List Int} {w : World} {a b : Option Addr} (c d : Nat) (hI : I.length ≤ 524288) (hJ : J.length ≤ 524288) (hA : Has w.heap.size w a I.length (I.map (Value.int .u8))) (hB : Has w.heap.size w b J.length (J.map (Value.int .u8))) :
    Calls Try.prog 10 #[.slice a I.length c, .slice b J.length d] w fun e w' => e = .returned (.bool true) ∧ Below w.heap.size w w' := by
  have hWl : (I.map (Value.int .u8)).length = I.length := by simp
  have hPl : (J.map (Value.int .u8)).length = J.length := by simp
  have H29 := hide (bound29 a b I.length J.length c d (by simp [maxLen]; omega) (by simp [maxLen]; omega) w)
  have HP : Hid (∀ k w1 r cap L, Ph (I.map (Value.int .u8)) (J.map (Value.int .u8)) w.heap.size (w.heap.size + 3) w.heap.size w k w1 r cap L → 65536 ≤ L → k ≤ 1 ∧ Calls Try.prog 28 #[.pointer (some ⟨w.heap.size + 3, 0, none⟩), .slice (some ⟨r, 0, none⟩) L cap] w1 fun e w' => ∃ L', e = .returned (.slice (some ⟨r, 0, none⟩) L' cap) ∧ Ph (I.map (Value.int .u8)) (J.map (Value.int .u8)) w.heap.size (w.heap.size + 3) w.heap.size w (k + 1) w' r cap L') :=
    fun k w1 r cap L h hL => ph_step (by rw [hWl]; exact hI) (by rw [hPl]; exact hJ) h hL
  have HE : Hid (∀ k w1 r cap L, Ph (I.map (Value.int .u8)) (J.map (Value.int .u8)) w.heap.size (w.heap.size + 3) w.heap.size w k w1 r cap L → L < 65536 → k = want I.length J.length ∧ Tail a b I.length J.length c d w.heap.size w.heap.size w r cap L w1) :=
    fun k w1 r cap L h hL => ⟨by have := ph_want h hL; rw [hWl, hPl] at this; exact this, ph_tail hI hJ hA hB h⟩
  have H15 : Hid (Calls Try.prog 15 #[.slice a I.length c] w fun e w' => e = .returned (.tuple #[.pointer (some ⟨w.heap.size + 3, 0, none⟩), .pointer (some ⟨w.heap.size, 0, none⟩), .bool true]) ∧
      (∃ r cap h B O, St w' w.heap.size (w.heap.size + 3) w.heap.size r cap h B O ∧ Below w.heap.size w w' ∧ (((I.map (Value.int .u8)).length < 65536 ∧ h = ((I.map (Value.int .u8)).length : Int) ∧ B = I.map (Value.int .u8) ∧ O = []) ∨ (65536 ≤ (I.map (Value.int .u8)).length ∧ h = -1 ∧ B = [] ∧ O = I.map (Value.int .u8))))) := by
    refine (start_ok hA (Nat.le_refl _) (by omega)).mono ?_
    rintro e w' ⟨r, cap, h, B, O, rfl, hs⟩
    exact ⟨rfl, r, cap, h, B, O, hs⟩
  have HAp : Hid (∀ w1, (∃ r cap h B O, St w1 w.heap.size (w.heap.size + 3) w.heap.size r cap h B O ∧ Below w.heap.size w w1 ∧ (((I.map (Value.int .u8)).length < 65536 ∧ h = ((I.map (Value.int .u8)).length : Int) ∧ B = I.map (Value.int .u8) ∧ O = []) ∨ (65536 ≤ (I.map (Value.int .u8)).length ∧ h = -1 ∧ B = [] ∧ O = I.map (Value.int .u8)))) →
      ∃ r0 L0 cap0, w1.cell? ⟨w.heap.size + 3, 1, none⟩ = some (.slice (some ⟨r0, 0, none⟩) L0 cap0) ∧ ∃ r cap L w2, (Builtin.append_ #[22, 22] 22 #[.slice (some ⟨r0, 0, none⟩) L0 cap0, .slice b J.length d]).run Try.prog w1 = .ok (.slice (some ⟨r, 0, none⟩) L cap) w2 ∧ Ph (I.map (Value.int .u8)) (J.map (Value.int .u8)) w.heap.size (w.heap.size + 3) w.heap.size w 0 w2 r cap L) := by
    rintro w1 ⟨r, cap, h, B, O, hSt, hb, hc⟩
    have hBl : B.length ≤ 524288 := by
      rcases hc with ⟨-, -, rfl, -⟩ | ⟨-, -, rfl, -⟩
      · rw [hWl]; exact hI
      · simp
    obtain ⟨r', cap', w2, e, hR, hO, hSt2, hb2⟩ := st_app hSt (c := d) (hB.below hb) (by omega)
    refine ⟨r, B.length, cap, hSt.item.cells.2.1, r', cap', _, w2, e, hb.trans hb2, r, cap, h, B, B ++ J.map (Value.int .u8), O, by simp, hSt2, hR, hO, ?_, ?_⟩
    · rcases hc with ⟨-, -, rfl, rfl⟩ | ⟨-, -, rfl, rfl⟩ <;> simp
    · rcases hc with ⟨h1, h2, rfl, rfl⟩ | ⟨h1, h2, rfl, rfl⟩
      · exact .inl ⟨h2, h1, rfl, rfl, rfl⟩
      · exact .inr (.inl ⟨h2, by simp, rfl, .inl ⟨h1, rfl⟩⟩)
  have hn : (I.length : Int) ≤ 524288 := by omega
  have hm : (J.length : Int) ≤ 524288 := by omega
  by_cases hF : I.length < 65536
  · refine law_walk a b a I.length J.length c d I.length c (w.heap.size + 3) w.heap.size (want I.length J.length) w.heap.size (.slice none 0 0) w _ _ hn hm hn ?_ H29 (hide (after_small a I.length c hF w)) H15 HAp HP HE (Below.refl _ _)
    unfold want
    rw [if_pos hF]
    by_cases h1 : I.length + J.length < 65536
    · rw [if_pos h1]; exact .inl ⟨rfl, by omega⟩
    · rw [if_neg h1]
      by_cases h2 : J.length < 65536
      · rw [if_pos h2]; exact .inr (.inr (.inl ⟨rfl, by omega, by omega, by omega⟩))
      · rw [if_neg h2]; exact .inr (.inr (.inr ⟨rfl, by omega, by omega, by omega⟩))
  · refine law_walk a b none I.length J.length c d 0 0 (w.heap.size + 3) w.heap.size (want I.length J.length) w.heap.size (.slice a I.length c) w _ _ hn hm (by omega) ?_ H29 (hide (after_big a I.length c (by omega) w)) H15 HAp HP HE (Below.refl _ _)
    unfold want
    rw [if_neg hF]
    by_cases h2 : J.length < 65536
    · rw [if_pos h2]; exact .inl ⟨rfl, by omega⟩
    · rw [if_neg h2]; exact .inr (.inl ⟨rfl, by omega, by omega⟩)

set_option maxHeartbeats 1600000 in
theorem law_big (a b : Option Addr) (n m c d : Nat) (w : World) (hn : n ≤ maxLen) (hm : m ≤ maxLen) (hbig : (524288 < (n : Int)) ∨ ((n : Int) ≤ 524288 ∧ 524288 < (m : Int))) :
    Calls Try.prog 10 #[.slice a n c, .slice b m d] w fun e w' => e = .returned (.bool true) ∧ Below w.heap.size w w' := by
  have H29 := hide (bound29 a b n m c d hn hm w)
  clear hn hm
  rcases hbig with h1 | ⟨h1, h2⟩
  all_goals (
    go_enter Try.func10, Try.ntmps10
    go_wp2_with (go_at_call 29; refine H29.out.mono ?_; rintro e w' ⟨(rfl | rfl), rfl⟩)
    all_goals go_ret
    all_goals exact ⟨rfl, Below.refl _ _⟩)
end Go.Proofs.Qxb6612279a
