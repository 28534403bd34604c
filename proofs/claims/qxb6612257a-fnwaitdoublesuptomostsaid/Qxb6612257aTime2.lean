import Derived.Test.Qxb6612257aTime
import Derived.Deep.DeepCutAuto
import Derived.Deep.RegionHeld3
namespace Go.Proofs.Qxb6612257a
open Go.RowKit
set_option linter.unusedVariables false
set_option linter.unusedSimpArgs false
set_option maxRecDepth 100000 in
set_option maxHeartbeats 1000000 in
theorem timeAt_any (d : Int) (w : World) (hd0 : -9223372036854775808 ≤ d) (hd1 : d ≤ 9223372036854775807) :
    Calls Try.prog 14 #[.int .i64 d] w fun e w' => e = .returned (tns d) ∧ Below w.heap.size w w' := by
  go_enter Try.func14, Try.ntmps14
  go_wp2_with fail
  refine (add_any 0 d _ (by decide) (by decide) hd0 hd1).mono ?_
  rintro e w1 ⟨rfl, hb⟩
  obtain ⟨c0, c1, c2⟩ : w1.cell? ⟨w.heap.size, 0, none⟩ = some (.int .u64 0) ∧ w1.cell? ⟨w.heap.size, 1, none⟩ = some (.int .i64 0) ∧ w1.cell? ⟨w.heap.size, 2, none⟩ = some (.pointer none) := by
    refine ⟨?_, ?_, ?_⟩ <;> (rw [hb.cell (by simp)]; simp [go_sem])
  obtain ⟨f0, f1, f2⟩ : w1.frozen? ⟨w.heap.size, 0, none⟩ = false ∧ w1.frozen? ⟨w.heap.size, 1, none⟩ = false ∧ w1.frozen? ⟨w.heap.size, 2, none⟩ = false := by
    refine ⟨?_, ?_, ?_⟩ <;> (rw [hb.frozen (by simp)]; simp [go_sem])
  rw [Int.zero_add]
  unfold tns
  go_wp2
  refine bodyPost_ret (v := .agg #[.int .u64 (d % 1000000000), .int .i64 (d / 1000000000), .pointer none]) (by simp [results, Try.results14, go_sem, c0, c1, c2]) rfl ⟨rfl, ?_⟩
  have hb' : Below w.heap.size w w1 := (belowA (Below.refl _ _) _).trans (hb.mono (by simp))
  exact ((hb'.setCell (p := ⟨_, _, _⟩) (Nat.le_refl _) _).setCell (p := ⟨_, _, _⟩) (Nat.le_refl _) _).setCell (p := ⟨_, _, _⟩) (Nat.le_refl _) _
set_option maxHeartbeats 400000 in
theorem isZero_any (T : Int) (w : World) (h : T ≠ 0) :
    Calls Try.prog 26 #[tns T] w fun e w' => e = .returned (.bool false) ∧ Below w.heap.size w w' := by
  unfold tns
  by_cases h1 : T % 1000000000 = 0
  · have e1 : (T % 1000000000 == 0) = true := by simp [h1]
    have e2 : (T / 1000000000 == 0) = false := by simp; omega
    generalize T % 1000000000 = a at *
    generalize T / 1000000000 = b at *
    go_enter Try.func26, Try.ntmps26
    go_wp2
    go_ret
    exact ⟨rfl, belowA (Below.refl _ _) _⟩
  · have e1 : (T % 1000000000 == 0) = false := by simp [h1]
    generalize T % 1000000000 = a at *
    generalize T / 1000000000 = b at *
    go_enter Try.func26, Try.ntmps26
    go_wp2
    go_ret
    exact ⟨rfl, belowA (Below.refl _ _) _⟩
set_option maxHeartbeats 400000 in
theorem equal_any (T : Int) (w : World) :
    Calls Try.prog 38 #[tns T, tns T] w fun e w' => e = .returned (.bool true) ∧ Below w.heap.size w w' := by
  unfold tns
  obtain ⟨a, ha⟩ : ∃ a, a = T % 1000000000 := ⟨_, rfl⟩
  obtain ⟨b, hb⟩ : ∃ a, a = T / 1000000000 := ⟨_, rfl⟩
  rw [← ha, ← hb]
  have h0 : 0 ≤ a := by omega
  have h1 : a < 1073741824 := by omega
  clear ha hb
  have hm := wall_both a a h0 h1 h0 h1
  go_enter Try.func38, Try.ntmps38
  go_wp2_with fail
  refine (sec_any _ _ a b _ h0 h1 (by simp [go_sem]) (by simp [go_sem])).mono ?_
  rintro e w1 ⟨rfl, hw1⟩
  subst hw1
  go_wp2_with fail
  refine (sec_any _ _ a b _ h0 h1 (by simp [go_sem]) (by simp [go_sem])).mono ?_
  rintro e w1 ⟨rfl, hw1⟩
  subst hw1
  go_wp2_with fail
  refine (nsec_any _ _ a _ h0 h1 (by simp [go_sem])).mono ?_
  rintro e w1 ⟨rfl, hw1⟩
  subst hw1
  go_wp2_with fail
  refine (nsec_any _ _ a _ h0 h1 (by simp [go_sem])).mono ?_
  rintro e w1 ⟨rfl, hw1⟩
  subst hw1
  go_wp2
  go_ret
  exact ⟨rfl, belowA (belowA (Below.refl _ _) _) _⟩

/-- Two times in the boxes b, b + 1. -/
theorem two_below {b : Nat} {a1 b1 a2 b2 : Int} {W w1 : World} (hb : Below W.heap.size W w1) (hlt : b + 1 < W.heap.size)
    (h : W.cell? ⟨b, 0, none⟩ = some (.int .u64 a1) ∧ W.cell? ⟨b, 1, none⟩ = some (.int .i64 b1) ∧ W.cell? ⟨b, 2, none⟩ = some (.pointer none) ∧ W.cell? ⟨b + 1, 0, none⟩ = some (.int .u64 a2) ∧ W.cell? ⟨b + 1, 1, none⟩ = some (.int .i64 b2) ∧ W.cell? ⟨b + 1, 2, none⟩ = some (.pointer none)) :
    w1.cell? ⟨b, 0, none⟩ = some (.int .u64 a1) ∧ w1.cell? ⟨b, 1, none⟩ = some (.int .i64 b1) ∧ w1.cell? ⟨b, 2, none⟩ = some (.pointer none) ∧ w1.cell? ⟨b + 1, 0, none⟩ = some (.int .u64 a2) ∧ w1.cell? ⟨b + 1, 1, none⟩ = some (.int .i64 b2) ∧ w1.cell? ⟨b + 1, 2, none⟩ = some (.pointer none) := by
  obtain ⟨h0, h1, h2, h3, h4, h5⟩ := h
  refine ⟨?_, ?_, ?_, ?_, ?_, ?_⟩
  · rw [hb.cell (p := ⟨b, 0, none⟩) (show b < _ by omega)]; exact h0
  · rw [hb.cell (p := ⟨b, 1, none⟩) (show b < _ by omega)]; exact h1
  · rw [hb.cell (p := ⟨b, 2, none⟩) (show b < _ by omega)]; exact h2
  · rw [hb.cell (p := ⟨b + 1, 0, none⟩) hlt]; exact h3
  · rw [hb.cell (p := ⟨b + 1, 1, none⟩) hlt]; exact h4
  · rw [hb.cell (p := ⟨b + 1, 2, none⟩) hlt]; exact h5

set_option maxRecDepth 100000 in
set_option maxHeartbeats 1000000 in
theorem sub_t1 (a1 b1 a2 b2 : Int) (w : World) (h10 : 0 ≤ a1) (h11 : a1 < 1000000000) (h20 : 0 ≤ a2) (h21 : a2 < 1000000000) (hb0 : -9000000000 ≤ b1 - b2) (hb1 : b1 - b2 ≤ 9000000001)
    (hAdd : Hid (∀ W, Calls Try.prog 21 #[.agg #[.int .u64 a2, .int .i64 b2, .pointer none], .int .i64 ((b1 - b2) * 1000000000 + (a1 - a2))] W fun e w' => e = .returned (.agg #[.int .u64 a1, .int .i64 b1, .pointer none]) ∧ Below W.heap.size W w'))
    (hEq : Hid (∀ W, Calls Try.prog 38 #[.agg #[.int .u64 a1, .int .i64 b1, .pointer none], .agg #[.int .u64 a1, .int .i64 b1, .pointer none]] W fun e w' => e = .returned (.bool true) ∧ Below W.heap.size W w')) :
    Calls Try.prog 27 #[.agg #[.int .u64 a1, .int .i64 b1, .pointer none], .agg #[.int .u64 a2, .int .i64 b2, .pointer none]] w fun e w' => e = .returned (.int .i64 ((b1 - b2) * 1000000000 + (a1 - a2))) ∧ Below w.heap.size w w' := by
  have g1 : a1 < 1073741824 := by omega
  have g2 : a2 < 1073741824 := by omega
  have hm := wall_both a1 a2 h10 g1 h20 g2
  go_enter Try.func27, Try.ntmps27
  go_wp2_with fail
  refine (sec_any _ _ a1 b1 _ h10 g1 (by simp [go_sem]) (by simp [go_sem])).mono ?_
  rintro e w1 ⟨rfl, hw1⟩
  subst hw1
  go_wp2_with fail
  refine (sec_any _ _ a2 b2 _ h20 g2 (by simp [go_sem]) (by simp [go_sem])).mono ?_
  rintro e w1 ⟨rfl, hw1⟩
  subst hw1
  go_wp2_with fail
  refine (nsec_any _ _ a1 _ h10 g1 (by simp [go_sem])).mono ?_
  rintro e w1 ⟨rfl, hw1⟩
  subst hw1
  go_wp2_with fail
  refine (nsec_any _ _ a2 _ h20 g2 (by simp [go_sem])).mono ?_
  rintro e w1 ⟨rfl, hw1⟩
  subst hw1
  go_wp2_with fail
  obtain ⟨W, hW⟩ : ∃ W, W = (w.alloc (.cells #[.int .u64 a1, .int .i64 b1, .pointer none] 66)).alloc (.cells #[.int .u64 a2, .int .i64 b2, .pointer none] 66) := ⟨_, rfl⟩
  rw [← hW]
  have hcells : W.cell? ⟨w.heap.size, 0, none⟩ = some (.int .u64 a1) ∧ W.cell? ⟨w.heap.size, 1, none⟩ = some (.int .i64 b1) ∧ W.cell? ⟨w.heap.size, 2, none⟩ = some (.pointer none) ∧ W.cell? ⟨w.heap.size + 1, 0, none⟩ = some (.int .u64 a2) ∧ W.cell? ⟨w.heap.size + 1, 1, none⟩ = some (.int .i64 b2) ∧ W.cell? ⟨w.heap.size + 1, 2, none⟩ = some (.pointer none) := by
    rw [hW]; refine ⟨?_, ?_, ?_, ?_, ?_, ?_⟩ <;> simp [go_sem]
  have hlt : w.heap.size + 1 < W.heap.size := by rw [hW]; simp
  have hbe : Below w.heap.size w W := by rw [hW]; exact belowA (belowA (Below.refl _ _) _) _
  have HBE := hide hbe
  clear hW hm hbe
  obtain ⟨k0, k1, k2, k3, k4, k5⟩ := hcells
  go_region_held3 (fun w' => w'.cell? ⟨w.heap.size, 0, none⟩ = some (.int .u64 a1) ∧ w'.cell? ⟨w.heap.size, 1, none⟩ = some (.int .i64 b1) ∧ w'.cell? ⟨w.heap.size, 2, none⟩ = some (.pointer none) ∧ w'.cell? ⟨w.heap.size + 1, 0, none⟩ = some (.int .u64 a2) ∧ w'.cell? ⟨w.heap.size + 1, 1, none⟩ = some (.int .i64 b2) ∧ w'.cell? ⟨w.heap.size + 1, 2, none⟩ = some (.pointer none)) (simp [*, go_sem])
    (first
      | (go_at_call 21; refine (hAdd.out _).mono ?_; rintro e w5 ⟨rfl, hb5⟩; obtain ⟨k0, k1, k2, k3, k4, k5⟩ := two_below (b := w.heap.size) (a1 := a1) (b1 := b1) (a2 := a2) (b2 := b2) hb5 (by simpa using hlt) (by simp [*, go_sem]); have HB5 := hide hb5; clear hb5)
      | (go_at_call 38; refine (hEq.out _).mono ?_; rintro e w6 ⟨rfl, hb6⟩; obtain ⟨k0, k1, k2, k3, k4, k5⟩ := two_below (b := w.heap.size) (a1 := a1) (b1 := b1) (a2 := a2) (b2 := b2) hb6 (by have := HB5.out.size; simp at this; omega) (by simp [*, go_sem]); have HB6 := hide hb6; clear hb6))
  go_wp2
  go_ret
  refine ⟨rfl, ?_⟩
  have h5 := HB5.out
  have h6 := HB6.out
  exact (HBE.out.drew.trans (h5.mono HBE.out.size)).trans (h6.mono (Nat.le_trans HBE.out.size h5.size))

theorem sub_any (T U : Int) (w : World) (hT0 : -9223372036854775808 ≤ T) (hT1 : T ≤ 9223372036854775807) (hU0 : -9223372036854775808 ≤ U) (hU1 : U ≤ 9223372036854775807) (h0 : 0 ≤ T - U) (h1 : T - U ≤ 9000000000000000000) :
    Calls Try.prog 27 #[tns T, tns U] w fun e w' => e = .returned (.int .i64 (T - U)) ∧ Below w.heap.size w w' := by
  have e : (T / 1000000000 - U / 1000000000) * 1000000000 + (T % 1000000000 - U % 1000000000) = T - U := by omega
  have := sub_t1 (T % 1000000000) (T / 1000000000) (U % 1000000000) (U / 1000000000) w (by omega) (by omega) (by omega) (by omega) (by omega) (by omega)
    (fun W => by rw [e]; have := add_any U (T - U) W hU0 hU1 (by omega) (by omega); rw [show U + (T - U) = T by omega] at this; exact this) (fun W => equal_any T W)
  rw [e] at this
  exact this
end Go.Proofs.Qxb6612257a
