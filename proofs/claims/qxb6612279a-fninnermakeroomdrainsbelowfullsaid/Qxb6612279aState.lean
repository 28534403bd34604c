/-
  THE JOINT STATE OF THE ItemBuffer AND ITS SINK; writeWhole, writePart, writeFull by it.
-/
import Derived.Test.Qxb6612279aWhole
import Derived.Test.Qxb6612279aPart
namespace Go.Proofs.Qxb6612279a
open Go.RowKit
set_option linter.unusedVariables false
set_option linter.unusedSimpArgs false

/-- The sink beside an ItemBuffer in block ib with the row r. -/
def Apart (w : World) (base ib sk r : Nat) (O : List Value) : Prop := ∃ ao capS, Sink w sk ao capS O ∧ blk ao ≠ some ib ∧ blk ao ≠ some r ∧ ∀ g, blk ao = some g → base ≤ g
structure St (w : World) (base ib sk r cap : Nat) (h : Int) (B O : List Value) : Prop where
  item : Item w ib (dst sk) r cap h B
  sink : Apart w base ib sk r O
  ibsk : ib ≠ sk
  rsk : r ≠ sk
  bib : base ≤ ib
  bsk : base ≤ sk
  br : base ≤ r

theorem Item.lt {w : World} {ib r cap : Nat} {D : Value} {h : Int} {B : List Value} (hI : Item w ib D r cap h B) : ib < w.heap.size ∧ r < w.heap.size := by
  obtain ⟨h1, -, cur, h2, -⟩ := hI
  exact ⟨Lib.lt_of_heap h1, Lib.lt_of_heap h2⟩
theorem Item.touch {w w' : World} {b : Nat} {x : Option Nat} {ib r cap : Nat} {D : Value} {h : Int} {B : List Value} (hI : Item w ib D r cap h B) (hT : Touch b x w w') (h1 : ib ≠ b) (h2 : some ib ≠ x) (h3 : r ≠ b) (h4 : some r ≠ x) : Item w' ib D r cap h B := by
  have hlt := hI.lt
  obtain ⟨a1, a2, cur, a3, a4⟩ := hI
  exact ⟨(hT.block ib hlt.1 h1 h2).trans a1, a2, cur, (hT.block r hlt.2 h3 h4).trans a3, a4⟩
theorem Sink.lt {w : World} {b : Nat} {ao : Option Addr} {cap : Nat} {O : List Value} (hS : Sink w b ao cap O) : b < w.heap.size ∧ ∀ g, blk ao = some g → g < w.heap.size := by
  obtain ⟨⟨lr, hb⟩, -, h⟩ := hS
  refine ⟨Lib.lt_of_heap hb, fun g hg => ?_⟩
  rcases h with ⟨rfl, -⟩ | ⟨g', cur, rfl, hg', -⟩
  · cases hg
  · cases hg; exact Lib.lt_of_heap hg'
theorem Sink.touch {w w' : World} {c : Nat} {x : Option Nat} {b : Nat} {ao : Option Addr} {cap : Nat} {O : List Value} (hS : Sink w b ao cap O) (hT : Touch c x w w') (h1 : b ≠ c) (h2 : some b ≠ x) (h3 : blk ao ≠ some c) (h4 : blk ao ≠ none → blk ao ≠ x) : Sink w' b ao cap O := by
  have hlt := hS.lt
  obtain ⟨⟨lr, hb⟩, a2, h⟩ := hS
  refine ⟨⟨lr, (hT.block b hlt.1 h1 h2).trans hb⟩, a2, ?_⟩
  rcases h with h | ⟨g, cur, rfl, hg, a3⟩
  · exact .inl h
  · exact .inr ⟨g, cur, rfl, (hT.block g (Lib.lt_of_heap hg) (fun e => h3 (by rw [← e]; rfl)) (h4 (by simp [blk]))).trans hg, a3⟩
theorem Touch.below {b : Nat} {x : Option Nat} {w w' : World} (hT : Touch b x w w') {base : Nat} (hb : base ≤ b) (hx : ∀ g, x = some g → base ≤ g) (hbase : base ≤ w.heap.size) : Below base w w' :=
  ⟨hT.os, hT.tape, hT.output, hT.size, fun k hk => hT.block k (by omega) (by omega) (fun e => by have := hx k e.symm; omega)⟩

/-- The sink has taken cs: the ItemBuffer is as it was. -/
theorem took {w w' : World} {base ib sk r cap : Nat} {h : Int} {B O cs : List Value} {ao : Option Addr} {n : Nat} {e : Ending} (hSt : St w base ib sk r cap h B O) {capS : Nat} (hS : Sink w sk ao capS O) (h1 : blk ao ≠ some ib) (h2 : blk ao ≠ some r) (h3 : ∀ g, blk ao = some g → base ≤ g)
    (hW : Wrote sk ao n O cs w e w') : St w' base ib sk r cap h B (O ++ cs) ∧ Below base w w' := by
  obtain ⟨-, ao', cap', hS', hT, hor⟩ := hW
  have hlt := hSt.item.lt
  have hbase : base ≤ w.heap.size := Nat.le_trans hSt.bib (Nat.le_of_lt hlt.1)
  refine ⟨⟨hSt.item.touch hT hSt.ibsk (Ne.symm h1) hSt.rsk (Ne.symm h2), ⟨ao', cap', hS', ?_, ?_, ?_⟩, hSt.ibsk, hSt.rsk, hSt.bib, hSt.bsk, hSt.br⟩, hT.below hSt.bsk h3 hbase⟩
  · rcases hor with e | ⟨g, e, hg⟩
    · rw [e]; exact h1
    · rw [e]; intro e2; cases e2; omega
  · rcases hor with e | ⟨g, e, hg⟩
    · rw [e]; exact h2
    · rw [e]; intro e2; cases e2; omega
  · rcases hor with e | ⟨g, e, hg⟩
    · rw [e]; exact h3
    · intro g' e2; rw [e] at e2; cases e2; omega

/-- The ItemBuffer has dropped its first n bytes: the sink is as it was. -/
theorem dropped {w w' : World} {base ib sk r cap n : Nat} {h : Int} {B O : List Value} {e : Ending} (hSt : St w base ib sk r cap h B O) (hW : WroteItem ib (dst sk) r cap (B.drop n) w e w') :
    St w' base ib sk r cap (-1) (B.drop n) O ∧ Below base w w' := by
  obtain ⟨-, hI, hT⟩ := hW
  have hlt := hSt.item.lt
  have hbase : base ≤ w.heap.size := Nat.le_trans hSt.bib (Nat.le_of_lt hlt.1)
  obtain ⟨ao, capS, hS, h1, h2, h3⟩ := hSt.sink
  exact ⟨⟨hI, ⟨ao, capS, hS.touch hT (Ne.symm hSt.ibsk) (by simp; exact Ne.symm hSt.rsk) h1 (fun _ => h2), h1, h2, h3⟩, hSt.ibsk, hSt.rsk, hSt.bib, hSt.bsk, hSt.br⟩, hT.below hSt.bib (by intro g e; cases e; exact hSt.br) hbase⟩

theorem St.drew {w : World} {base ib sk r cap : Nat} {h : Int} {B O : List Value} (hSt : St w base ib sk r cap h B O) : St w.drew base ib sk r cap h B O :=
  ⟨hSt.item, hSt.sink, hSt.ibsk, hSt.rsk, hSt.bib, hSt.bsk, hSt.br⟩

theorem Item.cells {w : World} {ib r cap : Nat} {D : Value} {h : Int} {B : List Value} (hI : Item w ib D r cap h B) : w.cell? ⟨ib, 0, none⟩ = some D ∧ w.cell? ⟨ib, 1, none⟩ = some (.slice (some ⟨r, 0, none⟩) B.length cap) ∧ w.cell? ⟨ib, 2, none⟩ = some (.int .i64 h) ∧ w.cell? ⟨ib, 3, none⟩ = some .nilIface := by
  obtain ⟨h1, -⟩ := hI
  refine ⟨?_, ?_, ?_, ?_⟩ <;> rw [Lib.cell_of_heap h1] <;> rfl
theorem Item.row {w : World} {ib r cap : Nat} {D : Value} {h : Int} {B : List Value} (hI : Item w ib D r cap h B) : (∀ j v, B[j]? = some v → w.cell? ((⟨r, 0, none⟩ : Addr).add j) = some v) ∧ B.length ≤ cap ∧ cap ≤ maxLen ∧ ∀ v ∈ B, v.oneCell' = true := by
  obtain ⟨-, a2, cur, hr, -, hlc, hcm, htk, -⟩ := hI
  refine ⟨fun j v hj => ?_, hlc, hcm, a2⟩
  exact Lib.cells_of_row hr B.length j v (by rw [htk]; exact hj)

/-- Write through the sink, in the joint state. -/
theorem write_st {w : World} {base ib sk r cap : Nat} {h : Int} {B O : List Value} (hSt : St w base ib sk r cap h B O) (n : Nat) (hn : n ≤ B.length) (hlim : O.length + n ≤ 4194304) :
    Calls Try.prog 59 #[.pointer (some ⟨sk, 0, none⟩), .slice (some ⟨r, 0, none⟩) n cap] w fun e w' => e = .returned (.tuple #[.int .i64 (n : Int), .nilIface]) ∧ St w' base ib sk r cap h B (O ++ B.take n) ∧ Below base w w' := by
  obtain ⟨ao, capS, hS, h1, h2, h3⟩ := hSt.sink
  obtain ⟨hrow, hlc, hcm, ho⟩ := hSt.item.row
  refine (write_ok hS (some ⟨r, 0, none⟩) n cap (B.take n) (by rw [List.length_take]; omega) (by simp) ?_ (fun v hv => ho v (List.mem_of_mem_take hv)) hlim).mono ?_
  · intro x hx
    cases hx
    refine ⟨hSt.rsk, fun j v hj => hrow j v ?_⟩
    have hlt : j < n := by have := (List.getElem?_eq_some_iff.1 hj).1; rw [List.length_take] at this; omega
    rwa [List.getElem?_take_of_lt hlt] at hj
  · intro e w' hW
    exact ⟨hW.1, took hSt hS h1 h2 h3 hW⟩

/-- writeWhole where an item has completed. -/
theorem whole_ok {w : World} {base ib sk r cap : Nat} {B O : List Value} (n : Nat) (hSt : St w base ib sk r cap (n : Int) B O) (hn : n ≤ B.length) (hlim : O.length + n ≤ 4194304) :
    Calls Try.prog 39 #[.pointer (some ⟨ib, 0, none⟩)] w fun e w' => e = .returned (.bool true) ∧ St w' base ib sk r cap (-1) (B.drop n) (O ++ B.take n) ∧ Below base w w' := by
  obtain ⟨c0, c1, c2, -⟩ := hSt.item.cells
  obtain ⟨-, hlc, hcm, -⟩ := hSt.item.row
  unfold maxLen at hcm
  refine whole_walk ib sk r n B.length cap w (fun w' => St w' base ib sk r cap (n : Int) B (O ++ B.take n) ∧ Below base w w') (fun w' => St w' base ib sk r cap (-1) (B.drop n) (O ++ B.take n) ∧ Below base w w') c0 c1 c2 hn hlc (by omega) (by omega) ?_ ?_
  · refine (write_st hSt.drew n hn hlim).mono ?_
    rintro e w' ⟨he, hs, hb⟩
    exact ⟨he, hs.item.cells.2.2.1, hs, (Below.refl base w).drew.trans hb⟩
  · rintro w' ⟨hs, hb⟩
    refine (wrote_ok hs.item n hn).mono ?_
    intro e w'' hW
    have := dropped hs hW
    exact ⟨hW.1, this.1, hb.trans this.2⟩

theorem St.below {w w' : World} {base ib sk r cap : Nat} {h : Int} {B O : List Value} (hSt : St w base ib sk r cap h B O) (hb : Below w.heap.size w w') : St w' base ib sk r cap h B O := by
  have hT : Touch w.heap.size none w w' := Touch.ofBelow hb
  have hlt := hSt.item.lt
  obtain ⟨ao, capS, hS, h1, h2, h3⟩ := hSt.sink
  have hl2 := hS.lt
  refine ⟨hSt.item.touch hT (by omega) (by simp) (by omega) (by simp), ⟨ao, capS, hS.touch hT (by omega) (by simp) (fun e => ?_) (fun hne => hne), h1, h2, h3⟩, hSt.ibsk, hSt.rsk, hSt.bib, hSt.bsk, hSt.br⟩
  have := hl2.2 _ e
  omega

/-- writePart. -/
theorem part_ok {w : World} {base ib sk r cap : Nat} {h : Int} {B O : List Value} (hSt : St w base ib sk r cap h B O) (hlim : O.length + B.length ≤ 4194304) :
    Calls Try.prog 40 #[.pointer (some ⟨ib, 0, none⟩)] w fun e w' => e = .returned (.tuple #[]) ∧ St w' base ib sk r cap (-1) [] (O ++ B) ∧ Below base w w' := by
  obtain ⟨c0, c1, -, -⟩ := hSt.item.cells
  have hlt := hSt.item.lt
  have hbase : base ≤ w.heap.size := Nat.le_trans hSt.bib (Nat.le_of_lt hlt.1)
  refine part_walk ib sk r B.length cap w (fun w' => St w' base ib sk r cap h B (O ++ B) ∧ Below base w w') (fun w' => St w' base ib sk r cap (-1) [] (O ++ B) ∧ Below base w w') c0 c1 ?_ ?_
  · refine (part66 sk r B.length cap w.drew (fun w' => St w' base ib sk r cap h B (O ++ B) ∧ Below base w w') ?_).mono ?_
    · have hA : Below w.drew.heap.size w.drew (w.drew.alloc (.cells #[.iface 29 (.pointer (some ⟨sk, 0, none⟩))] 67)) := (Below.refl _ _).alloc (Nat.le_refl _) _
      refine (write_st (hSt.drew.below hA) B.length (Nat.le_refl _) hlim).mono ?_
      rintro e w' ⟨he, hs, hb⟩
      rw [List.take_of_length_le (Nat.le_refl _)] at hs
      exact ⟨he, hs, ((Below.refl base w).drew.trans (hA.mono hbase)).trans hb⟩
    · rintro e w' ⟨he, hs, hb⟩
      exact ⟨he, hs.item.cells.2.1, hs, hb⟩
  · rintro w' ⟨hs, hb⟩
    refine (wrote_ok hs.item B.length (Nat.le_refl _)).mono ?_
    intro e w'' hW
    have := dropped hs hW
    rw [List.drop_of_length_le (Nat.le_refl _)] at this
    exact ⟨hW.1, this.1, hb.trans this.2⟩
end Go.Proofs.Qxb6612279a
