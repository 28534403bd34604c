/-
  THE WALKS OF package time's functions on times without a monotonic clock: nsec, sec, addSec, Add.
-/
import Derived.Test.Qxb6612257aTimeLaw
import Derived.Test.Qxb6612257aData
import Derived.Test.Qxb6612257aProg
import Derived.WalkLawsBesides
namespace Go.Proofs.Qxb6612257a
open Go.RowKit
set_option linter.unusedVariables false
set_option linter.unusedSimpArgs false
set_option maxHeartbeats 400000 in
theorem nsec_any (b o : Nat) (n : Int) (w : World) (h0 : 0 ≤ n) (h1 : n < 1073741824) (hc : w.cell? ⟨b, o, none⟩ = some (.int .u64 n)) :
    Calls Try.prog 29 #[.pointer (some ⟨b, o, none⟩)] w fun e w' => e = .returned (.int .i32 n) ∧ w' = w := by
  have hm := wall_mask n h0 h1
  go_enter Try.func29, Try.ntmps29
  go_wp2
  go_ret
  exact ⟨rfl, rfl⟩
set_option maxHeartbeats 400000 in
theorem sec_any (b o : Nat) (n x : Int) (w : World) (h0 : 0 ≤ n) (h1 : n < 1073741824) (hc : w.cell? ⟨b, o, none⟩ = some (.int .u64 n)) (hx : w.cell? ⟨b, o + 1, none⟩ = some (.int .i64 x)) :
    Calls Try.prog 37 #[.pointer (some ⟨b, o, none⟩)] w fun e w' => e = .returned (.int .i64 x) ∧ w' = w := by
  have hm := wall_mono n h0 h1
  go_enter Try.func37, Try.ntmps37
  go_wp2
  go_ret
  exact ⟨rfl, rfl⟩

/-- The world behind addSec: the time's second cell alone has turned. -/
theorem addSec_any (b o : Nat) (n x d : Int) (w : World) (h0 : 0 ≤ n) (h1 : n < 1073741824) (hx0 : -4611686018427387904 ≤ x) (hx1 : x ≤ 4611686018427387904) (hd0 : -4611686018427387000 ≤ d) (hd1 : d ≤ 4611686018427387000) (hc : w.cell? ⟨b, o, none⟩ = some (.int .u64 n)) (hx : w.cell? ⟨b, o + 1, none⟩ = some (.int .i64 x)) (hf : w.frozen? ⟨b, o + 1, none⟩ = false) :
    Calls Try.prog 30 #[.pointer (some ⟨b, o, none⟩), .int .i64 d] w fun e w' => e = .returned (.tuple #[]) ∧ w' = w.setCell ⟨b, o + 1, none⟩ (.int .i64 (x + d)) := by
  have hm := wall_mono n h0 h1
  by_cases hp : 0 < d
  · have e1 : decide (x < x + d) = true := by simp; omega
    have e2 : decide (0 < d) = true := by simp; omega
    go_enter Try.func30, Try.ntmps30
    go_wp2
    go_end0
    exact ⟨rfl, rfl⟩
  · have e1 : decide (x < x + d) = false := by simp; omega
    have e2 : decide (0 < d) = false := by simp; omega
    go_enter Try.func30, Try.ntmps30
    go_wp2
    go_end0
    exact ⟨rfl, rfl⟩

theorem belowA {w w' : World} (h : Below w.heap.size w w') (o : Obj) : Below w.heap.size w (w'.alloc o) := h.alloc h.size o

set_option maxRecDepth 100000 in
set_option maxHeartbeats 1000000 in
theorem add_t1 (n x d q r N X : Int) (l : Option Addr) (w : World) (h0 : 0 ≤ n) (h1 : n < 1000000000) (hx0 : -4611686018427387904 ≤ x) (hx1 : x ≤ 4611686018427387904) (hd0 : -9223372036854775808 ≤ d) (hd1 : d ≤ 9223372036854775807)
    (hq : d.tdiv 1000000000 = q) (hr : d.tmod 1000000000 = r) (hq0 : -9223372037 ≤ q) (hq1 : q ≤ 9223372037) (hr0 : -1000000000 < r) (hr1 : r < 1000000000) (hN0 : 0 ≤ N) (hN1 : N < 1000000000) (hT : Hid (X * 1000000000 + N = (x + q) * 1000000000 + (n + r))) :
    Calls Try.prog 21 #[.agg #[.int .u64 n, .int .i64 x, .pointer l], .int .i64 d] w fun e w' => e = .returned (.agg #[.int .u64 N, .int .i64 X, .pointer l]) ∧ Below w.heap.size w w' := by
  have hc := wall_clear n h0 (by omega)
  have g1 : n < 1073741824 := by omega
  have hT' := hT.out
  by_cases c1 : 1000000000 ≤ n + r
  · obtain rfl : N = n + r - 1000000000 := by omega
    obtain rfl : X = x + (q + 1) := by omega
    clear hT'
    have ho := wall_set (n + r - 1000000000) (by omega) (by omega)
    have hm := wall_mono (n + r - 1000000000) (by omega) (by omega)
    go_enter Try.func21, Try.ntmps21
    go_wp2_with fail
    refine (nsec_any _ _ n _ h0 g1 (by simp [go_sem])).mono ?_
    rintro e w1 ⟨rfl, hw1⟩
    subst hw1
    go_wp2_with fail
    refine (addSec_any _ _ (n + r - 1000000000) x (q + 1) _ (by omega) (by omega) hx0 hx1 (by omega) (by omega) (by simp [go_sem]) (by simp [go_sem]) (by simp [go_sem])).mono ?_
    rintro e w1 ⟨rfl, hw1⟩
    subst hw1
    go_wp2
    refine bodyPost_ret (v := .agg #[.int .u64 (n + r - 1000000000), .int .i64 (x + (q + 1)), .pointer l]) (by simp [results, Try.results21, go_sem]) rfl ⟨?_, ?_⟩
    · congr 5 <;> omega
    · repeat (first | exact Below.refl _ _ | refine belowA ?_ _)
  · by_cases c2 : n + r < 0
    · obtain rfl : N = n + r + 1000000000 := by omega
      obtain rfl : X = x + (q - 1) := by omega
      clear hT'
      have ho := wall_set (n + r + 1000000000) (by omega) (by omega)
      have hm := wall_mono (n + r + 1000000000) (by omega) (by omega)
      go_enter Try.func21, Try.ntmps21
      go_wp2_with fail
      refine (nsec_any _ _ n _ h0 g1 (by simp [go_sem])).mono ?_
      rintro e w1 ⟨rfl, hw1⟩
      subst hw1
      go_wp2_with fail
      refine (addSec_any _ _ (n + r + 1000000000) x (q - 1) _ (by omega) (by omega) hx0 hx1 (by omega) (by omega) (by simp [go_sem]) (by simp [go_sem]) (by simp [go_sem])).mono ?_
      rintro e w1 ⟨rfl, hw1⟩
      subst hw1
      go_wp2
      refine bodyPost_ret (v := .agg #[.int .u64 (n + r + 1000000000), .int .i64 (x + (q - 1)), .pointer l]) (by simp [results, Try.results21, go_sem]) rfl ⟨?_, ?_⟩
      · congr 5 <;> omega
      · repeat (first | exact Below.refl _ _ | refine belowA ?_ _)
    · obtain rfl : N = n + r := by omega
      obtain rfl : X = x + q := by omega
      clear hT'
      have ho := wall_set (n + r) (by omega) (by omega)
      have hm := wall_mono (n + r) (by omega) (by omega)
      go_enter Try.func21, Try.ntmps21
      go_wp2_with fail
      refine (nsec_any _ _ n _ h0 g1 (by simp [go_sem])).mono ?_
      rintro e w1 ⟨rfl, hw1⟩
      subst hw1
      go_wp2_with fail
      refine (addSec_any _ _ (n + r) x (q) _ (by omega) (by omega) hx0 hx1 (by omega) (by omega) (by simp [go_sem]) (by simp [go_sem]) (by simp [go_sem])).mono ?_
      rintro e w1 ⟨rfl, hw1⟩
      subst hw1
      go_wp2
      refine bodyPost_ret (v := .agg #[.int .u64 (n + r), .int .i64 (x + (q)), .pointer l]) (by simp [results, Try.results21, go_sem]) rfl ⟨?_, ?_⟩
      · congr 5 <;> omega
      · repeat (first | exact Below.refl _ _ | refine belowA ?_ _)

/-- A time that is T nanoseconds from the zero time. -/
def tns (T : Int) : Value := .agg #[.int .u64 (T % 1000000000), .int .i64 (T / 1000000000), .pointer none]
theorem add_any (T d : Int) (w : World) (hT0 : -9223372036854775808 ≤ T) (hT1 : T ≤ 9223372036854775807) (hd0 : -9223372036854775808 ≤ d) (hd1 : d ≤ 9223372036854775807) :
    Calls Try.prog 21 #[tns T, .int .i64 d] w fun e w' => e = .returned (tns (T + d)) ∧ Below w.heap.size w w' := by
  have hdm := Int.mul_tdiv_add_tmod d 1000000000
  have hm : -1000000000 < d.tmod 1000000000 ∧ d.tmod 1000000000 < 1000000000 := by
    rcases Int.le_total 0 d with h | h
    · have := Int.tmod_nonneg 1000000000 h
      have := Int.tmod_lt_of_pos d (show (0 : Int) < 1000000000 by decide)
      omega
    · have h1 := Int.tmod_nonneg 1000000000 (show (0 : Int) ≤ -d by omega)
      have h2 := Int.tmod_lt_of_pos (-d) (show (0 : Int) < 1000000000 by decide)
      rw [Int.neg_tmod] at h1 h2
      omega
  unfold tns
  refine add_t1 (T % 1000000000) (T / 1000000000) d (d.tdiv 1000000000) (d.tmod 1000000000) _ _ none w (by omega) (by omega) (by omega) (by omega) hd0 hd1 rfl rfl (by omega) (by omega) hm.1 hm.2 (by omega) (by omega) ?_
  show (T + d) / 1000000000 * 1000000000 + (T + d) % 1000000000 = _
  omega
end Go.Proofs.Qxb6612257a
