import Derived.Test.Qxb6612257aSpec
namespace Go.Proofs.Qxb6612257a
open Go.RowKit
set_option linter.unusedVariables false
set_option linter.unusedSimpArgs false
def PodPost (pol : ByteArray) (x1 : Value) (since : Int) (w : World) (e : Ending) (w' : World) : Prop :=
  ∃ p t0 t1 t2 t3 x2 x3 x4, e = .returned (.pointer (some ⟨p, 0, none⟩)) ∧ w.heap.size ≤ p ∧ Blk w' p #[t0, t1, t2, t3, .string pol, x1, x2, x3, x4, .int .u64 (since % 1000000000), .int .i64 (since / 1000000000), .pointer none] 69 ∧ Below w.heap.size w w'
theorem five_below {b : Nat} {y0 y1 y2 z0 z1 : Value} {W w1 : World} (hb : Below W.heap.size W w1) (hlt : b + 1 < W.heap.size)
    (h : W.cell? ⟨b, 0, none⟩ = some y0 ∧ W.cell? ⟨b, 1, none⟩ = some y1 ∧ W.cell? ⟨b, 2, none⟩ = some y2 ∧ W.cell? ⟨b + 1, 0, none⟩ = some z0 ∧ W.cell? ⟨b + 1, 1, none⟩ = some z1) :
    w1.cell? ⟨b, 0, none⟩ = some y0 ∧ w1.cell? ⟨b, 1, none⟩ = some y1 ∧ w1.cell? ⟨b, 2, none⟩ = some y2 ∧ w1.cell? ⟨b + 1, 0, none⟩ = some z0 ∧ w1.cell? ⟨b + 1, 1, none⟩ = some z1 := by
  obtain ⟨h0, h1, h2, h3, h4⟩ := h
  refine ⟨?_, ?_, ?_, ?_, ?_⟩
  · rw [hb.cell (p := ⟨b, 0, none⟩) (show b < _ by omega)]; exact h0
  · rw [hb.cell (p := ⟨b, 1, none⟩) (show b < _ by omega)]; exact h1
  · rw [hb.cell (p := ⟨b, 2, none⟩) (show b < _ by omega)]; exact h2
  · rw [hb.cell (p := ⟨b + 1, 0, none⟩) hlt]; exact h3
  · rw [hb.cell (p := ⟨b + 1, 1, none⟩) hlt]; exact h4

set_option maxRecDepth 100000 in
set_option maxHeartbeats 1000000 in
theorem newPod_any (s0 s1 s2 s3 pol : ByteArray) (a1 a2 a3 a4 : Option Addr) (n1 c1 n2 c2 n3 c3 n4 c4 : Nat) (since : Int) (w : World) (hd0 : -9223372036854775808 ≤ since) (hd1 : since ≤ 9223372036854775807) :
    Calls Try.prog 6 #[.string s0, .string s1, .string s2, .string s3, .agg #[.string pol, .slice a1 n1 c1, .slice a2 n2 c2], .agg #[.slice a3 n3 c3, .slice a4 n4 c4], .int .i64 since] w (PodPost pol (.slice a1 n1 c1) since w) := by
  have hT : Hid (∀ W, Calls Try.prog 14 #[.int .i64 since] W fun e w' => e = .returned (.agg #[.int .u64 (since % 1000000000), .int .i64 (since / 1000000000), .pointer none]) ∧ Below W.heap.size W w') := fun W => timeAt_any since W hd0 hd1
  obtain ⟨m, hm⟩ : ∃ m, m = since % 1000000000 := ⟨_, rfl⟩
  obtain ⟨q, hq⟩ : ∃ m, m = since / 1000000000 := ⟨_, rfl⟩
  unfold PodPost
  rw [← hm, ← hq] at hT ⊢
  clear hm hq hd0 hd1
  go_enter Try.func6, Try.ntmps6
  go_wp2_with fail

  obtain ⟨W, hW⟩ : ∃ W, W = (w.alloc (.cells #[.string pol, .slice a1 n1 c1, .slice a2 n2 c2] 31)).alloc (.cells #[.slice a3 n3 c3, .slice a4 n4 c4] 35) := ⟨_, rfl⟩
  rw [← hW]
  obtain ⟨k0, k1, k2, k3, k4⟩ : W.cell? ⟨w.heap.size, 0, none⟩ = some (.string pol) ∧ W.cell? ⟨w.heap.size, 1, none⟩ = some (.slice a1 n1 c1) ∧ W.cell? ⟨w.heap.size, 2, none⟩ = some (.slice a2 n2 c2) ∧ W.cell? ⟨w.heap.size + 1, 0, none⟩ = some (.slice a3 n3 c3) ∧ W.cell? ⟨w.heap.size + 1, 1, none⟩ = some (.slice a4 n4 c4) := by
    rw [hW]; refine ⟨?_, ?_, ?_, ?_, ?_⟩ <;> simp [go_sem]
  have hlt : w.heap.size + 1 < W.heap.size := by rw [hW]; simp
  have hlt0 : w.heap.size < W.heap.size := by omega
  have hbe : Below w.heap.size w W := by rw [hW]; exact below_alloc (below_alloc (Below.refl _ _) _) _
  have HBE := hide hbe
  clear hW hbe
  go_region_held3 (fun w' => w'.cell? ⟨w.heap.size, 0, none⟩ = some (.string pol) ∧ w'.cell? ⟨w.heap.size, 1, none⟩ = some (.slice a1 n1 c1) ∧ w'.cell? ⟨w.heap.size, 2, none⟩ = some (.slice a2 n2 c2) ∧ w'.cell? ⟨w.heap.size + 1, 0, none⟩ = some (.slice a3 n3 c3) ∧ w'.cell? ⟨w.heap.size + 1, 1, none⟩ = some (.slice a4 n4 c4) ∧ w.heap.size < w'.heap.size ∧ w.heap.size + 1 < w'.heap.size) (simp [*, go_sem])
    (first
      | (go_at_call 14; refine (hT.out _).mono ?_; rintro e w5 ⟨rfl, hb5⟩; obtain ⟨k0, k1, k2, k3, k4⟩ := five_below (b := w.heap.size) (y0 := .string pol) (y1 := .slice a1 n1 c1) (y2 := .slice a2 n2 c2) (z0 := .slice a3 n3 c3) (z1 := .slice a4 n4 c4) hb5 (by simpa using hlt) (by simp [*, go_sem]); have hz5 : w.heap.size < w5.heap.size := (by have := hb5.size; simp at this; omega); have hz6 : w.heap.size + 1 < w5.heap.size := (by have := hb5.size; simp at this; omega); have HB5 := hide hb5; clear hb5))
  go_wp2
  go_ret
  exact ⟨w5.heap.size, _, _, _, _, _, _, _, rfl, by omega, Blk.new _ _ _, below_alloc (HBE.out.drew.trans (HB5.out.mono HBE.out.size)) _⟩
end Go.Proofs.Qxb6612257a
