import Derived.Test.Qxb6612257aConvS
namespace Go.Proofs.Qxb6612257a
open Go.RowKit
set_option linter.unusedVariables false
set_option linter.unusedSimpArgs false

theorem ContsS.slice {S : Nat → Prop} {w : World} {v : Value} {rs : List Cont} (h : ContsS S w v rs) : ∃ a cap, v = .slice a rs.length cap := by
  obtain ⟨a, cap, h, _⟩ := h; exact ⟨a, cap, h⟩
def SpecPost (pol : ByteArray) (cs : List Cont) (w : World) (e : Ending) (w' : World) : Prop :=
  ∃ a1 n1 c1 a2 n2 c2, e = .returned (.agg #[.string pol, .slice a1 n1 c1, .slice a2 n2 c2]) ∧ ContsS (From w.heap.size w') w' (.slice a1 n1 c1) cs ∧ Below w.heap.size w w'
def StatusPost (w : World) (e : Ending) (w' : World) : Prop :=
  ∃ a1 n1 c1 a2 n2 c2, e = .returned (.agg #[.slice a1 n1 c1, .slice a2 n2 c2]) ∧ Below w.heap.size w w'

theorem three {W : World} {b : Nat} {x y z : Value} {T : TypeId} (h : Blk W b #[x, y, z] T) : W.cell? ⟨b, 0, none⟩ = some x ∧ W.cell? ⟨b, 1, none⟩ = some y ∧ W.cell? ⟨b, 2, none⟩ = some z ∧ W.frozen? ⟨b, 0, none⟩ = false ∧ W.frozen? ⟨b, 1, none⟩ = false ∧ W.frozen? ⟨b, 2, none⟩ = false :=
  ⟨h.cell 0, h.cell 1, h.cell 2, h.frozen 0, h.frozen 1, h.frozen 2⟩
theorem two {W : World} {b : Nat} {x y : Value} {T : TypeId} (h : Blk W b #[x, y] T) : W.cell? ⟨b, 0, none⟩ = some x ∧ W.cell? ⟨b, 1, none⟩ = some y ∧ W.frozen? ⟨b, 0, none⟩ = false ∧ W.frozen? ⟨b, 1, none⟩ = false :=
  ⟨h.cell 0, h.cell 1, h.frozen 0, h.frozen 1⟩

set_option maxRecDepth 100000 in
set_option maxHeartbeats 1000000 in
theorem zzSpec_any (pol : ByteArray) (v1 v2 : Value) (c1 c2 : List Cont) (B : Nat) (w : World) (hB : B ≤ w.heap.size) (h1 : IsConts B w v1 c1) (h2 : IsConts B w v2 c2) (hs1 : SmallCs c1) (hs2 : SmallCs c2) :
    Calls Try.prog 7 #[.string pol, v1, v2] w (SpecPost pol c1 w) := by
  have H1 := hide h1
  have H2 := hide h2
  have HS1 := hide hs1
  have HS2 := hide hs2
  clear h1 h2 hs1 hs2
  go_enter Try.func7, Try.ntmps7
  go_wp2_with fail
  obtain ⟨W0, hW0⟩ : ∃ W0, W0 = (w.alloc (.cells #[.string ⟨#[]⟩, .slice none 0 0, .slice none 0 0] 31)).alloc (.cells #[.string pol, .slice none 0 0, .slice none 0 0] 31) := ⟨_, rfl⟩
  rw [← hW0]
  have hr0 : Blk W0 w.heap.size #[.string ⟨#[]⟩, .slice none 0 0, .slice none 0 0] 31 := by rw [hW0]; exact (Blk.new _ _ _).alloc _
  have hs0 : Blk W0 (w.heap.size + 1) #[.string pol, .slice none 0 0, .slice none 0 0] 31 := by rw [hW0]; exact Blk.new' _ _ (by simp)
  have hb0 : Below w.heap.size w W0 := by rw [hW0]; exact below_alloc (below_alloc (Below.refl _ _) _) _
  clear hW0
  have hz0 := hs0.lt
  refine (zzConvContainers_any c1 v1 B W0 (Nat.le_trans hB hb0.size) (H1.out.keep (hb0.mono hB) (Nat.le_refl _)) HS1.out).mono ?_
  rintro e w1 ⟨x1, rfl, hx1, hb1⟩
  obtain ⟨a1, p1, rfl⟩ := hx1.slice
  have hr1 := hr0.below hb1 hr0.lt
  have hs1 := hs0.below hb1 hs0.lt
  have hbw1 := hb0.trans (hb1.mono hb0.size)
  obtain ⟨s0, s1, s2, f0, f1, f2⟩ := three hs1
  have HR1 := hide hr1
  have HS1' := hide hs1
  have HX1 := hide hx1
  have HB1 := hide hbw1
  have hz1 := hs1.lt
  have HBB := hide hb1
  clear hr0 hs0 hb0 hr1 hs1 hx1 hb1 hbw1
  go_wp2_with fail
  clear s0 s1 s2 f0 f1 f2
  have hset : Below w.heap.size w (w1.setCell ⟨w.heap.size + 1, 1, none⟩ (.slice a1 c1.length p1)) := HB1.out.setCell (by show _ ≤ w.heap.size + 1; omega) _
  have hsz : (w1.setCell ⟨w.heap.size + 1, 1, none⟩ (.slice a1 c1.length p1)).heap.size = w1.heap.size := by simp
  refine (zzConvContainers_any c2 v2 B _ (Nat.le_trans hB hset.size) (H2.out.keep (hset.mono hB) (Nat.le_refl _)) HS2.out).mono ?_
  rintro e w2 ⟨x2, rfl, hx2, hb2⟩
  obtain ⟨a2, p2, rfl⟩ := hx2.slice
  have hr2 := (HR1.out.setOther (a := ⟨w.heap.size + 1, 1, none⟩) (by show w.heap.size ≠ w.heap.size + 1; omega) (.slice a1 c1.length p1)).below hb2 (by rw [hsz]; exact HR1.out.lt)
  have hs2 := (HS1'.out.set 1 (.slice a1 c1.length p1)).below hb2 (by rw [hsz]; exact hz1)
  obtain ⟨s0, s1, s2, f0, f1, f2⟩ := three hs2
  obtain ⟨r0, r1, r2, g0, g1, g2⟩ := three hr2
  have hX : ContsS (From W0.heap.size w1) w2 (.slice a1 c1.length p1) c1 :=
    HX1.out.keep ((Same.setCell (a := ⟨w.heap.size + 1, 1, none⟩) _ fun k hk => by have := hk.1; show k ≠ w.heap.size + 1; omega).trans (Same.of_below hb2 fun k hk => by rw [hsz]; exact hk.2)) (fun _ h => h)
  have hbe := hset.trans (hb2.mono hset.size)
  have hz2 : w1.heap.size ≤ w2.heap.size := by rw [← hsz]; exact hb2.size
  have HX2 := hide hX
  have HBE := hide hbe
  clear hr2 hs2 hX hbe hx2 hb2 hset hsz
  go_wp2
  refine bodyPost_ret (v := .agg #[.string pol, .slice a1 c1.length p1, .slice a2 c2.length p2]) (by simp [results, Try.results7, go_sem, r0, r1, r2]) rfl ⟨_, _, _, _, _, _, rfl, ?_, ?_⟩
  · refine HX2.out.keep ?_ (From.mono (by omega) (by simp; exact hz2))
    have ne0 : ∀ k, From W0.heap.size w1 k → k ≠ w.heap.size := fun k hk => by have := hk.1; omega
    have ne1 : ∀ k, From W0.heap.size w1 k → k ≠ w.heap.size + 1 := fun k hk => by have := hk.1; omega
    exact (((Same.setCell (a := ⟨_, _, _⟩) _ ne1).trans (Same.setCell (a := ⟨_, _, _⟩) _ ne0)).trans (Same.setCell (a := ⟨_, _, _⟩) _ ne0)).trans (Same.setCell (a := ⟨_, _, _⟩) _ ne0)
  · exact (((HBE.out.setCell (p := ⟨_, _, _⟩) (by show _ ≤ w.heap.size + 1; omega) _).setCell (p := ⟨_, _, _⟩) (Nat.le_refl _) _).setCell (p := ⟨_, _, _⟩) (Nat.le_refl _) _).setCell (p := ⟨_, _, _⟩) (Nat.le_refl _) _

set_option maxRecDepth 100000 in
set_option maxHeartbeats 1000000 in
theorem zzStatus_any (v1 v2 : Value) (n1 n2 : Nat) (B : Nat) (w : World) (hB : B ≤ w.heap.size) (h1 : IsStats B w v1 n1) (h2 : IsStats B w v2 n2) (hs1 : n1 ≤ 1048576) (hs2 : n2 ≤ 1048576) :
    Calls Try.prog 8 #[v1, v2] w (StatusPost w) := by
  have H1 := hide h1
  have H2 := hide h2
  clear h1 h2
  go_enter Try.func8, Try.ntmps8
  go_wp2_with fail
  obtain ⟨W0, hW0⟩ : ∃ W0, W0 = (w.alloc (.cells #[.slice none 0 0, .slice none 0 0] 35)).alloc (.cells #[.slice none 0 0, .slice none 0 0] 35) := ⟨_, rfl⟩
  rw [← hW0]
  have hr0 : Blk W0 w.heap.size #[.slice none 0 0, .slice none 0 0] 35 := by rw [hW0]; exact (Blk.new _ _ _).alloc _
  have hs0 : Blk W0 (w.heap.size + 1) #[.slice none 0 0, .slice none 0 0] 35 := by rw [hW0]; exact Blk.new' _ _ (by simp)
  have hb0 : Below w.heap.size w W0 := by rw [hW0]; exact below_alloc (below_alloc (Below.refl _ _) _) _
  clear hW0
  refine (zzConvStatuses_any n1 v1 B W0 (Nat.le_trans hB hb0.size) (H1.out.keep (hb0.mono hB) (Nat.le_refl _)) hs1).mono ?_
  rintro e w1 ⟨a1, m1, p1, rfl, hb1⟩
  have hr1 := hr0.below hb1 hr0.lt
  have hs1 := hs0.below hb1 hs0.lt
  have hbw1 := hb0.trans (hb1.mono hb0.size)
  obtain ⟨s0, s1, f0, f1⟩ := two hs1
  have HR1 := hide hr1
  have HS1' := hide hs1
  have HB1 := hide hbw1
  have hz1 := hs1.lt
  clear hr0 hs0 hb0 hr1 hs1 hb1 hbw1
  go_wp2_with fail
  clear s0 s1 f0 f1
  have hset : Below w.heap.size w (w1.setCell ⟨w.heap.size + 1, 0, none⟩ (.slice a1 m1 p1)) := HB1.out.setCell (by show _ ≤ w.heap.size + 1; omega) _
  have hsz : (w1.setCell ⟨w.heap.size + 1, 0, none⟩ (.slice a1 m1 p1)).heap.size = w1.heap.size := by simp
  refine (zzConvStatuses_any n2 v2 B _ (Nat.le_trans hB hset.size) (H2.out.keep (hset.mono hB) (Nat.le_refl _)) hs2).mono ?_
  rintro e w2 ⟨a2, m2, p2, rfl, hb2⟩
  have hr2 := (HR1.out.setOther (a := ⟨w.heap.size + 1, 0, none⟩) (by show w.heap.size ≠ w.heap.size + 1; omega) (.slice a1 m1 p1)).below hb2 (by rw [hsz]; exact HR1.out.lt)
  have hs2 := (HS1'.out.set 0 (.slice a1 m1 p1)).below hb2 (by rw [hsz]; exact hz1)
  obtain ⟨s0, s1, f0, f1⟩ := two hs2
  obtain ⟨r0, r1, g0, g1⟩ := two hr2
  have hbe := hset.trans (hb2.mono hset.size)
  have HBE := hide hbe
  clear hr2 hs2 hbe hb2 hset hsz
  go_wp2
  refine bodyPost_ret (v := .agg #[.slice a1 m1 p1, .slice a2 m2 p2]) (by simp [results, Try.results8, go_sem, r0, r1]) rfl ⟨_, _, _, _, _, _, rfl, ?_⟩
  exact ((HBE.out.setCell (p := ⟨_, _, _⟩) (by show _ ≤ w.heap.size + 1; omega) _).setCell (p := ⟨_, _, _⟩) (Nat.le_refl _) _).setCell (p := ⟨_, _, _⟩) (Nat.le_refl _) _
end Go.Proofs.Qxb6612257a
