/-
  zzCat (20), zzEq (19), zzAfterFirst (22), the bound on the lengths (29).
-/
import Derived.Test.Qxb6612279aApp
namespace Go.Proofs.Qxb6612279a
open Go.RowKit
set_option linter.unusedVariables false
set_option linter.unusedSimpArgs false

theorem make_cap (n : Nat) (h : n ≤ 4194304) (w : World) :
    (Instr.makeSlice 22 (.int .i64 0) (.int .i64 (n : Int))).run Try.prog w = .ok (.slice (some ⟨w.heap.size, 0, none⟩) 0 n) (w.alloc (.cells (madeCells #[.int .u8 0] n) 5)) := by
  obtain ⟨i, hi, hz, hs, hb⟩ := Try.info5
  have hr := run_make (P := Try.prog) w 22 5 i (.int .u8 0) Try.underlying22 hi hz .i64 .i64 0 n (by omega) (by omega) (by rw [hb]; omega) (by omega)
  simp only [Int.toNat_natCast, hs, Nat.mul_one] at hr
  exact hr

set_option maxHeartbeats 1600000 in
theorem cat_walk (a b : Option Addr) (n m c d g N : Nat) (w w1 w2 w3 : World) (hn : n ≤ 2097152) (hm : m ≤ 2097152)
    (hmk : (Instr.makeSlice 22 (.int .i64 0) (.int .i64 ((n : Int) + (m : Int)))).run Try.prog w = .ok (.slice (some ⟨g, 0, none⟩) 0 N) w1)
    (h1 : Hid ((Builtin.append_ #[22, 22] 22 #[.slice (some ⟨g, 0, none⟩) 0 N, .slice a n c]).run Try.prog w1 = .ok (.slice (some ⟨g, 0, none⟩) n N) w2))
    (h2 : Hid ((Builtin.append_ #[22, 22] 22 #[.slice (some ⟨g, 0, none⟩) n N, .slice b m d]).run Try.prog w2 = .ok (.slice (some ⟨g, 0, none⟩) (n + m) N) w3)) :
    Calls Try.prog 20 #[.slice a n c, .slice b m d] w fun e w' => e = .returned (.slice (some ⟨g, 0, none⟩) (n + m) N) ∧ w' = w3 := by
  go_enter Try.func20, Try.ntmps20
  go_wp2_with (first
    | (at_builtin; refine wpList_append_run rfl (.tmp 12) (.tmp 13) 22 22 22 rfl rfl _ _ _ _ rfl rfl h1.out ?_)
    | (at_builtin; refine wpList_append_run rfl (.tmp 15) (.tmp 16) 22 22 22 rfl rfl _ _ _ _ rfl rfl h2.out ?_))
  go_ret
  exact ⟨rfl, rfl⟩

def Cat (n m : Nat) (cs ds : List Value) (w : World) (e : Ending) (w' : World) : Prop := ∃ g, e = .returned (.slice (some ⟨g, 0, none⟩) (n + m) (n + m)) ∧ Row w' g (n + m) (cs ++ ds) ∧ Below w.heap.size w w'
theorem cat_ok {base : Nat} {w : World} {a b : Option Addr} {n m : Nat} {cs ds : List Value} (hA : Has base w a n cs) (hB : Has base w b m ds) (hn : n ≤ 2097152) (hm : m ≤ 2097152) (hb : base ≤ w.heap.size) (c d : Nat) :
    Calls Try.prog 20 #[.slice a n c, .slice b m d] w (Cat n m cs ds w) := by
  have hmk := make_cap (n + m) (by omega) w
  have hbel1 : Below w.heap.size w (w.alloc (.cells (madeCells #[.int .u8 0] (n + m)) 5)) := (Below.refl _ _).alloc (Nat.le_refl _) _
  have hR : Row (w.alloc (.cells (madeCells #[.int .u8 0] (n + m)) 5)) w.heap.size (n + m) [] := ⟨by simp, _, heap_new w _, size_madeCells _ _, Nat.zero_le _, by simp [maxLen]; omega, by simp⟩
  obtain ⟨r1, c1, w2, e1, hR1, -, hT1, h1⟩ := app_ok hR (c := c) (hA.below (hbel1.mono hb)) (by simp; omega)
  obtain ⟨rfl, rfl⟩ : r1 = w.heap.size ∧ c1 = n + m := by
    rcases h1 with h | ⟨-, h⟩
    · exact h
    · simp at h
      omega
  have hbel2 := hbel1.trans (hT1.under (Nat.le_refl _) (by simp))
  obtain ⟨r2, c2, w3, e2, hR2, -, hT2, h2⟩ := app_ok hR1 (c := d) (hB.below (hbel2.mono hb)) (by simp [hA.len]; omega)
  have hlen : ([] ++ cs).length = n := by simp [hA.len]
  rw [hlen] at e2 h2
  obtain ⟨rfl, rfl⟩ : r2 = w.heap.size ∧ c2 = n + m := by
    rcases h2 with h | ⟨-, h⟩
    · exact h
    · omega
  rw [List.length_nil, Nat.zero_add] at e1
  refine (cat_walk a b n m c d _ _ w _ _ _ hn hm (by simpa using hmk) (hide e1) (hide e2)).mono ?_
  rintro e w' ⟨rfl, rfl⟩
  exact ⟨_, rfl, by simpa using hR2, hbel2.trans (hT2.under (Nat.le_refl _) hbel2.size)⟩

theorem below_drewN {B : Nat} {a w : World} (h : Below B a w) (n : Nat) : Below B a (w.drewN n) := ⟨h.os, h.tape, h.output, h.size, h.block⟩
/-- The same memory. -/
def Reads (W w : World) : Prop := ∀ a, w.cell? a = W.cell? a
theorem Reads.refl (W : World) : Reads W W := fun _ => rfl
theorem Reads.drewN {W w : World} (h : Reads W w) (n : Nat) : Reads W (w.drewN n) := h

set_option maxHeartbeats 4000000 in
set_option maxRecDepth 100000 in
theorem eq_ok (g1 g2 n c1 c2 : Nat) (L : List Int) (hL : L.length = n) (hn : n ≤ 4194304) (w : World)
    (h1 : ∀ j u, L[j]? = some u → w.cell? ⟨g1, j, none⟩ = some (.int .u8 u)) (h2 : ∀ j u, L[j]? = some u → w.cell? ⟨g2, j, none⟩ = some (.int .u8 u)) :
    Calls Try.prog 19 #[.slice (some ⟨g1, 0, none⟩) n c1, .slice (some ⟨g2, 0, none⟩) n c2] w fun e w' => e = .returned (.bool true) ∧ Below w.heap.size w w' := by
  have H1 := hide h1
  have H2 := hide h2
  have HL := hide hL
  clear h1 h2 hL
  go_enter Try.func19, Try.ntmps19
  go_wp2
  go_loopw [5] (fun i wi => ∃ k : Nat, k ≤ n ∧ i = .int .i64 k ∧ Reads w wi ∧ Below w.heap.size w wi) (fun i _ => n - (intOf i).toNat)
  case atStart => exact ⟨0, Nat.zero_le _, rfl, Reads.refl _, Below.refl _ _⟩
  case round =>
    obtain ⟨k, hk, rfl, hrd, hbel⟩ := hrel
    have HB := hide hbel
    have HRD := hide hrd
    clear hbel hrd
    by_cases hlt : k < n
    · obtain ⟨u, hu⟩ : ∃ u, L[k]? = some u := ⟨_, List.getElem?_eq_getElem (by have := HL.out; omega)⟩
      have hc1 := H1.out k u hu
      have hc2 := H2.out k u hu
      rw [← HRD.out] at hc1 hc2
      clear hu
      go_wp2
      go_quiet (fail)
      go_wp2
      exact ⟨⟨k + 1, by omega, by simp, HRD.out.drewN _, below_drewN HB.out _⟩, by simp [intOf]; omega⟩
    · obtain rfl : k = n := by omega
      go_wp2
      go_ret
      exact ⟨rfl, HB.out⟩

def Answers (e : Ending) : Prop := e = .returned (.bool true) ∨ e = .returned (.bool false)
set_option maxHeartbeats 1600000 in
theorem bound29 (a b : Option Addr) (n m c d : Nat) (hn : n ≤ maxLen) (hm : m ≤ maxLen) (w : World) :
    Calls Try.prog 29 #[.slice a n c, .slice b m d] w fun e w' => Answers e ∧ w' = w := by
  simp only [maxLen] at hn hm
  go_enter Try.func29, Try.ntmps29
  go_wp2
  all_goals go_ret
  all_goals first | exact ⟨.inl rfl, rfl⟩ | exact ⟨.inr rfl, rfl⟩

theorem after_small (a : Option Addr) (n c : Nat) (hn : n < 65536) (w : World) :
    Calls Try.prog 22 #[.slice a n c] w fun e w' => e = .returned (.tuple #[.slice a n c, .slice none 0 0]) ∧ w' = w := by
  have h1 : ¬ (65536 ≤ (n : Int)) := by omega
  clear hn
  go_enter Try.func22, Try.ntmps22
  go_wp2
  go_ret2
  exact ⟨rfl, rfl⟩
theorem after_big (a : Option Addr) (n c : Nat) (hn : 65536 ≤ n) (w : World) :
    Calls Try.prog 22 #[.slice a n c] w fun e w' => e = .returned (.tuple #[.slice none 0 0, .slice a n c]) ∧ w' = w := by
  have h1 : 65536 ≤ (n : Int) := by omega
  clear hn
  go_enter Try.func22, Try.ntmps22
  go_wp2
  go_ret2
  exact ⟨rfl, rfl⟩
end Go.Proofs.Qxb6612279a
