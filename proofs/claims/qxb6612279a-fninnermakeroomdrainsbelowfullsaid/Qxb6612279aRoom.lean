/-
  THE STORE OF buf, makeRoom (35), ZZmakeRoom (28), Buffer (16), Done (17) in the joint state.
-/
import Derived.Test.Qxb6612279aFull
import Derived.Test.Qxb6612279aApp
namespace Go.Proofs.Qxb6612279a
open Go.RowKit
set_option linter.unusedVariables false
set_option linter.unusedSimpArgs false

/-- The row r lies apart from the ItemBuffer's block, the sink's and the sink's row. -/
structure Off (w : World) (base ib sk r : Nat) (O : List Value) : Prop where
  rib : r ≠ ib
  rsk : r ≠ sk
  br : base ≤ r
  sink : Apart w base ib sk r O
theorem Item.toRow {w : World} {ib r cap : Nat} {D : Value} {h : Int} {B : List Value} (hI : Item w ib D r cap h B) : Row w r cap B := by
  obtain ⟨-, a2, cur, h1, h2, h3, h4, h5, -⟩ := hI
  exact ⟨a2, cur, h1, h2, h3, h4, h5⟩
theorem Item.apart {w : World} {ib r cap : Nat} {D : Value} {h : Int} {B : List Value} (hI : Item w ib D r cap h B) : r ≠ ib := by
  obtain ⟨-, a2, cur, h1, h2, h3, h4, h5, h6⟩ := hI
  exact h6
theorem St.row {w : World} {base ib sk r cap : Nat} {h : Int} {B O : List Value} (hSt : St w base ib sk r cap h B O) : Row w r cap B := hSt.item.toRow
theorem St.off {w : World} {base ib sk r cap : Nat} {h : Int} {B O : List Value} (hSt : St w base ib sk r cap h B O) : Off w base ib sk r O := ⟨hSt.item.apart, hSt.rsk, hSt.br, hSt.sink⟩
theorem St.size {w : World} {base ib sk r cap : Nat} {h : Int} {B O : List Value} (hSt : St w base ib sk r cap h B O) : base ≤ w.heap.size := Nat.le_trans hSt.bib (Nat.le_of_lt hSt.item.lt.1)

theorem st_store {w : World} {base ib sk r0 cap0 r cap : Nat} {h : Int} {B0 B O : List Value} (hSt : St w base ib sk r0 cap0 h B0 O) (hR : Row w r cap B) (hO : Off w base ib sk r O) :
    St (w.setCell ⟨ib, 1, none⟩ (.slice (some ⟨r, 0, none⟩) B.length cap)) base ib sk r cap h B O ∧ Below base w (w.setCell ⟨ib, 1, none⟩ (.slice (some ⟨r, 0, none⟩) B.length cap)) := by
  obtain ⟨hbk, -⟩ := hSt.item
  obtain ⟨h1, cur, hr, hcs, hlc, hcm, htk⟩ := hR
  obtain ⟨ao, capS, hS, k1, k2, k3⟩ := hO.sink
  have hT : Touch ib none w (w.setCell ⟨ib, 1, none⟩ (.slice (some ⟨r, 0, none⟩) B.length cap)) := (Touch.refl ib none w).setB 1 _
  refine ⟨⟨⟨?_, h1, cur, setCell_row hO.rib hr, hcs, hlc, hcm, htk, hO.rib⟩, ⟨ao, capS, hS.touch hT (Ne.symm hSt.ibsk) (by simp) k1 (fun hne => hne), k1, k2, k3⟩, hSt.ibsk, hO.rsk, hSt.bib, hSt.bsk, hO.br⟩, (Below.refl base w).setCell hSt.bib _⟩
  have := Lib.heap_setCell_same (i := 1) hbk (.slice (some ⟨r, 0, none⟩) B.length cap)
  rw [this]; simp

/-- 'whole' is set. -/
theorem st_whole {w : World} {base ib sk r cap : Nat} {h : Int} {B O : List Value} (hSt : St w base ib sk r cap h B O) (z : Int) :
    St (w.setCell ⟨ib, 2, none⟩ (.int .i64 z)) base ib sk r cap z B O ∧ Below base w (w.setCell ⟨ib, 2, none⟩ (.int .i64 z)) := by
  obtain ⟨hbk, h1, cur, hr, hcs, hlc, hcm, htk, hrb⟩ := hSt.item
  obtain ⟨ao, capS, hS, k1, k2, k3⟩ := hSt.sink
  have hT : Touch ib none w (w.setCell ⟨ib, 2, none⟩ (.int .i64 z)) := (Touch.refl ib none w).setB 2 _
  refine ⟨⟨⟨?_, h1, cur, setCell_row hrb hr, hcs, hlc, hcm, htk, hrb⟩, ⟨ao, capS, hS.touch hT (Ne.symm hSt.ibsk) (by simp) k1 (fun hne => hne), k1, k2, k3⟩, hSt.ibsk, hSt.rsk, hSt.bib, hSt.bsk, hSt.br⟩, (Below.refl base w).setCell hSt.bib _⟩
  have := Lib.heap_setCell_same (i := 2) hbk (.int .i64 z)
  rw [this]; simp

theorem st_frozen {w : World} {base ib sk r cap : Nat} {h : Int} {B O : List Value} (hSt : St w base ib sk r cap h B O) (i : Nat) : w.frozen? ⟨ib, i, none⟩ = false := by
  obtain ⟨hbk, -⟩ := hSt.item
  exact Lib.frozen_of_heap hbk i

/-- append in the joint state. -/
theorem st_app {w : World} {base ib sk r cap : Nat} {h : Int} {B O : List Value} (hSt : St w base ib sk r cap h B O) {a : Option Addr} {n c : Nat} {cs : List Value} (hH : Has base w a n cs) (hlim : B.length + n ≤ 4194304) :
    ∃ r' cap' w', (Builtin.append_ #[22, 22] 22 #[.slice (some ⟨r, 0, none⟩) B.length cap, .slice a n c]).run Try.prog w = .ok (.slice (some ⟨r', 0, none⟩) (B.length + n) cap') w' ∧ Row w' r' cap' (B ++ cs) ∧ Off w' base ib sk r' O ∧ St w' base ib sk r cap h B O ∧ Below base w w' := by
  obtain ⟨r', cap', w', e, hR, hR0, hT, hor⟩ := app_ok hSt.row (c := c) hH hlim
  have hlt := hSt.item.lt
  have hrib := hSt.item.apart
  have hbase := hSt.size
  obtain ⟨hbk, -⟩ := hSt.item
  obtain ⟨ao, capS, hS, k1, k2, k3⟩ := hSt.sink
  have hS' : Sink w' sk ao capS O := hS.touch hT (Ne.symm hSt.rsk) (by simp) k2 (fun hne => hne)
  obtain ⟨b1, cur, b2, b3, b4, b5, b6⟩ := hR0
  have hl2 := hS.lt
  refine ⟨r', cap', w', e, hR, ⟨?_, ?_, ?_, ao, capS, hS', k1, ?_, k3⟩, ⟨⟨(hT.block ib hlt.1 (Ne.symm hrib) (by simp)).trans hbk, b1, cur, b2, b3, b4, b5, b6, hrib⟩, ⟨ao, capS, hS', k1, k2, k3⟩, hSt.ibsk, hSt.rsk, hSt.bib, hSt.bsk, hSt.br⟩, hT.under hSt.br hbase⟩
  · rcases hor with ⟨rfl, -⟩ | ⟨rfl, -⟩
    · exact hrib
    · omega
  · rcases hor with ⟨rfl, -⟩ | ⟨rfl, -⟩
    · exact hSt.rsk
    · omega
  · rcases hor with ⟨rfl, -⟩ | ⟨rfl, -⟩
    · exact hSt.br
    · exact hbase
  · rcases hor with ⟨rfl, -⟩ | ⟨rfl, -⟩
    · exact k2
    · intro e2
      have := hl2.2 _ e2
      omega

/-! ### The Go functions -/
def Room (base ib sk r cap : Nat) (B O : List Value) (w : World) (e : Ending) (w' : World) : Prop :=
  e = .returned (.slice (some ⟨r, 0, none⟩) B.length cap) ∧ St w' base ib sk r cap (-1) B O ∧ Below base w w'

set_option maxHeartbeats 3200000 in
theorem room_walk {w : World} {base ib sk r0 cap0 r cap : Nat} {h : Int} {B0 B O B2 O2 : List Value} (hSt : St w base ib sk r0 cap0 h B0 O) (hR : Row w r cap B) (hO : Off w base ib sk r O)
    (HF : Hid (∀ w1, St w1 base ib sk r cap h B O → Calls Try.prog 33 #[.pointer (some ⟨ib, 0, none⟩)] w1 fun e w' => e = .returned (.tuple #[]) ∧ St w' base ib sk r cap (-1) B2 O2 ∧ Below base w1 w')) :
    Calls Try.prog 35 #[.pointer (some ⟨ib, 0, none⟩), .slice (some ⟨r, 0, none⟩) B.length cap] w (Room base ib sk r cap B2 O2 w) := by
  obtain ⟨c0, c1, c2, c3⟩ := hSt.item.cells
  have f1 := st_frozen hSt 1
  obtain ⟨hs1, hb1⟩ := st_store hSt hR hO
  have HS1 := hide hs1
  have HB1 := hide hb1
  clear hSt hR hO hs1 hb1 c0 c2
  obtain ⟨L, hL⟩ : ∃ L, B.length = L := ⟨_, rfl⟩
  rw [hL] at HS1 HB1 ⊢
  clear hL
  go_enter Try.func35, Try.ntmps35
  go_wp2_with (go_at_call 33; refine (HF.out _ HS1.out).mono ?_; rintro e w2 ⟨rfl, hs2, hb2⟩; have k1 := hs2.item.cells.2.1; have HS2 := hide hs2; have HB2 := hide hb2; clear hs2 hb2)
  go_ret
  exact ⟨rfl, HS2.out, HB1.out.trans HB2.out⟩

theorem room_whole {w : World} {base ib sk r0 cap0 r cap : Nat} {B0 B O : List Value} (n : Nat) (hSt : St w base ib sk r0 cap0 (n : Int) B0 O) (hR : Row w r cap B) (hO : Off w base ib sk r O) (hn : n ≤ B.length) (hlim : O.length + n ≤ 4194304) :
    Calls Try.prog 35 #[.pointer (some ⟨ib, 0, none⟩), .slice (some ⟨r, 0, none⟩) B.length cap] w (Room base ib sk r cap (B.drop n) (O ++ B.take n) w) :=
  room_walk hSt hR hO (hide fun w1 h1 => full_whole n h1 hn hlim)
theorem room_part {w : World} {base ib sk r0 cap0 r cap : Nat} {B0 B O : List Value} (hSt : St w base ib sk r0 cap0 (-1) B0 O) (hR : Row w r cap B) (hO : Off w base ib sk r O) (hlim : O.length + B.length ≤ 4194304) :
    Calls Try.prog 35 #[.pointer (some ⟨ib, 0, none⟩), .slice (some ⟨r, 0, none⟩) B.length cap] w (Room base ib sk r cap [] (O ++ B) w) :=
  room_walk hSt hR hO (hide fun w1 h1 => full_part h1 hlim)

theorem zz_room {w w0 : World} {v x : Value} {base ib sk r cap : Nat} {B O : List Value} (HF : Calls Try.prog 35 #[v, x] w (Room base ib sk r cap B O w0)) : Calls Try.prog 28 #[v, x] w (Room base ib sk r cap B O w0) := by
  have H := hide HF
  clear HF
  go_enter Try.func28, Try.ntmps28
  go_wp2_with (go_at_call 35; refine H.out.mono ?_; rintro e w' ⟨rfl, hq⟩; have HQ := hide hq; clear hq)
  go_ret
  exact ⟨rfl, HQ.out⟩

theorem buffer16 {w : World} {ib : Nat} {v : Value} (c1 : w.cell? ⟨ib, 1, none⟩ = some v) : Calls Try.prog 16 #[.pointer (some ⟨ib, 0, none⟩)] w fun e w' => e = .returned v ∧ w' = w := by
  go_enter Try.func16, Try.ntmps16
  go_wp2
  go_ret
  exact ⟨rfl, rfl⟩
end Go.Proofs.Qxb6612279a
