/-
  Done (17), zzStart (15).
-/
import Derived.Test.Qxb6612279aRoom
namespace Go.Proofs.Qxb6612279a
open Go.RowKit
set_option linter.unusedVariables false
set_option linter.unusedSimpArgs false

def Done (base ib sk r cap : Nat) (h : Int) (B O : List Value) (w : World) (e : Ending) (w' : World) : Prop := e = .returned .nilIface ∧ St w' base ib sk r cap h B O ∧ Below base w w'
set_option maxHeartbeats 3200000 in
theorem done_small {w : World} {base ib sk r0 cap0 r cap : Nat} {h : Int} {B0 B O : List Value} (hSt : St w base ib sk r0 cap0 h B0 O) (hR : Row w r cap B) (hO : Off w base ib sk r O) (hF : B.length < 65536) :
    Calls Try.prog 17 #[.pointer (some ⟨ib, 0, none⟩), .slice (some ⟨r, 0, none⟩) B.length cap, .bool true] w (Done base ib sk r cap (B.length : Int) B O w) := by
  obtain ⟨c0, c1, c2, c3⟩ := hSt.item.cells
  have f1 := st_frozen hSt 1
  have f2 := st_frozen hSt 2
  obtain ⟨hs1, hb1⟩ := st_store hSt hR hO
  obtain ⟨hs2, hb2⟩ := st_whole hs1 (B.length : Int)
  have HS2 := hide hs2
  have HB2 := hide (hb1.trans hb2)
  clear hSt hR hO hs1 hb1 hs2 hb2 c0
  obtain ⟨L, hL⟩ : ∃ L, B.length = L := ⟨_, rfl⟩
  rw [hL] at HS2 HB2 hF ⊢
  clear hL
  have h1 : ¬ (65536 ≤ (L : Int)) := by omega
  clear hF
  go_enter Try.func17, Try.ntmps17
  go_wp2
  go_ret
  exact ⟨rfl, HS2.out, HB2.out⟩
set_option maxHeartbeats 3200000 in
theorem done_big {w : World} {base ib sk r0 cap0 r cap : Nat} {h : Int} {B0 B O : List Value} (hSt : St w base ib sk r0 cap0 h B0 O) (hR : Row w r cap B) (hO : Off w base ib sk r O) (hF : 65536 ≤ B.length) (hlim : O.length + B.length ≤ 4194304) :
    Calls Try.prog 17 #[.pointer (some ⟨ib, 0, none⟩), .slice (some ⟨r, 0, none⟩) B.length cap, .bool true] w (Done base ib sk r cap (-1) [] (O ++ B) w) := by
  obtain ⟨c0, c1, c2, c3⟩ := hSt.item.cells
  have f1 := st_frozen hSt 1
  have f2 := st_frozen hSt 2
  obtain ⟨hs1, hb1⟩ := st_store hSt hR hO
  obtain ⟨hs2, hb2⟩ := st_whole hs1 (B.length : Int)
  have HF := hide (full_whole B.length hs2 (Nat.le_refl _) hlim)
  rw [List.take_of_length_le (Nat.le_refl _), List.drop_of_length_le (Nat.le_refl _)] at HF
  have HB2 := hide (hb1.trans hb2)
  clear hSt hR hO hs1 hb1 hs2 hb2 c0
  obtain ⟨L, hL⟩ : ∃ L, B.length = L := ⟨_, rfl⟩
  rw [hL] at HF HB2 hF ⊢
  clear hL
  have h1 : 65536 ≤ (L : Int) := by omega
  clear hF
  go_enter Try.func17, Try.ntmps17
  go_wp2_with (go_at_call 33; refine HF.out.mono ?_; rintro e w2 ⟨rfl, hs3, hb3⟩; have k3 := hs3.item.cells.2.2.2; have HS3 := hide hs3; have HB3 := hide hb3; clear hs3 hb3)
  go_ret
  exact ⟨rfl, HS3.out, HB2.out.trans HB3.out⟩

/-- What zzStart leaves. -/
def Began (W : List Value) (w : World) (e : Ending) (w' : World) : Prop :=
  ∃ r cap h B O, e = .returned (.tuple #[.pointer (some ⟨w.heap.size + 3, 0, none⟩), .pointer (some ⟨w.heap.size, 0, none⟩), .bool true]) ∧ St w' w.heap.size (w.heap.size + 3) w.heap.size r cap h B O ∧ Below w.heap.size w w' ∧
    ((W.length < 65536 ∧ h = (W.length : Int) ∧ B = W ∧ O = []) ∨ (65536 ≤ W.length ∧ h = -1 ∧ B = [] ∧ O = W))

set_option maxHeartbeats 3200000 in
theorem start_walk {w : World} {a : Option Addr} {n c N ib sk r0 cap0 : Nat} {Q1 Q : World → Prop}
    (HN : Hid (Calls Try.prog 32 #[] w fun e w' => e = .returned (.tuple #[.pointer (some ⟨ib, 0, none⟩), .pointer (some ⟨sk, 0, none⟩)]) ∧ Q1 w'))
    (HS : Hid (∀ w1, Q1 w1 → w1.cell? ⟨ib, 1, none⟩ = some (.slice (some ⟨r0, 0, none⟩) 0 cap0) ∧ ∃ r cap w2, (Builtin.append_ #[22, 22] 22 #[.slice (some ⟨r0, 0, none⟩) 0 cap0, .slice a n c]).run Try.prog w1 = .ok (.slice (some ⟨r, 0, none⟩) N cap) w2 ∧
      Calls Try.prog 17 #[.pointer (some ⟨ib, 0, none⟩), .slice (some ⟨r, 0, none⟩) N cap, .bool true] w2 fun e w' => e = .returned .nilIface ∧ Q w')) :
    Calls Try.prog 15 #[.slice a n c] w fun e w' => e = .returned (.tuple #[.pointer (some ⟨ib, 0, none⟩), .pointer (some ⟨sk, 0, none⟩), .bool true]) ∧ Q w' := by
  go_enter Try.func15, Try.ntmps15
  go_wp2_with (go_at_call 32; refine HN.out.mono ?_; rintro e w1 ⟨rfl, hq1⟩; obtain ⟨k1, r, cap, w2, hA, hD⟩ := HS.out _ hq1; have HB := hide (buffer16 k1); have HA := hide hA; have HD := hide hD; clear hq1 k1 hA hD)
  go_wp2_with (first
    | (go_at_call 16; refine HB.out.mono ?_; rintro e w' ⟨rfl, rfl⟩)
    | (go_at_call 17; refine HD.out.mono ?_; rintro e w' ⟨rfl, hq⟩; have HQ := hide hq; clear hq)
    | (at_builtin; refine wpList_append_run rfl (.tmp 15) (.tmp 16) 22 22 22 rfl rfl _ _ _ _ rfl rfl HA.out ?_))
  refine bodyPost_ret (v := .tuple #[.pointer (some ⟨ib, 0, none⟩), .pointer (some ⟨sk, 0, none⟩), .bool true]) (by simp [results, Try.results15, go_sem]) rfl ⟨rfl, HQ.out⟩

theorem start_ok {base : Nat} {w : World} {a : Option Addr} {n c : Nat} {W : List Value} (hH : Has base w a n W) (hb : base ≤ w.heap.size) (hlim : n ≤ 2097152) : Calls Try.prog 15 #[.slice a n c] w (Began W w) := by
  have hl : W.length = n := hH.len
  refine (start_walk (N := n) (ib := w.heap.size + 3) (sk := w.heap.size) (r0 := w.heap.size + 2) (cap0 := 66560) (Q1 := fun w1 => St w1 w.heap.size (w.heap.size + 3) w.heap.size (w.heap.size + 2) 66560 (-1) [] [] ∧ Below w.heap.size w w1)
    (Q := fun w' => ∃ r cap h B O, St w' w.heap.size (w.heap.size + 3) w.heap.size r cap h B O ∧ Below w.heap.size w w' ∧ ((W.length < 65536 ∧ h = (W.length : Int) ∧ B = W ∧ O = []) ∨ (65536 ≤ W.length ∧ h = -1 ∧ B = [] ∧ O = W))) (hide ?_) (hide ?_)).mono ?_
  · refine (new32 w).mono ?_
    rintro e w' ⟨rfl, hI, hS, hB⟩
    exact ⟨rfl, ⟨hI, ⟨none, 0, hS, by simp [blk], by simp [blk], by simp [blk]⟩, by omega, by omega, by omega, by omega, by omega⟩, hB⟩
  · rintro w1 ⟨hSt, hB1⟩
    refine ⟨hSt.item.cells.2.1, ?_⟩
    obtain ⟨r, cap, w2, e, hR, hO, hSt2, hB2⟩ := st_app hSt (c := c) ((hH.mono hb).below hB1) (by simp; omega)
    rw [List.length_nil, Nat.zero_add] at e
    rw [List.nil_append] at hR
    refine ⟨r, cap, w2, e, ?_⟩
    by_cases hF : W.length < 65536
    · have := done_small hSt2 hR hO hF
      rw [hl] at this
      refine this.mono ?_
      rintro e w' ⟨rfl, hs, hb3⟩
      exact ⟨rfl, r, cap, _, _, _, hs, (hB1.trans hB2).trans hb3, .inl ⟨hF, by rw [hl], rfl, rfl⟩⟩
    · have := done_big hSt2 hR hO (by omega) (by simp; omega)
      rw [hl] at this
      refine this.mono ?_
      rintro e w' ⟨rfl, hs, hb3⟩
      exact ⟨rfl, r, cap, _, _, _, hs, (hB1.trans hB2).trans hb3, .inr ⟨by omega, rfl, rfl, by simp⟩⟩
  · rintro e w' ⟨rfl, r, cap, h, B, O, h1⟩
    exact ⟨r, cap, h, B, O, rfl, h1⟩
end Go.Proofs.Qxb6612279a
