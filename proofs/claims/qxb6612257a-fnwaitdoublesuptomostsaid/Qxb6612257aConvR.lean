import Derived.Test.Qxb6612257aDataS
import Derived.Test.Qxb6612257aProg
import Derived.WalkLawsBesides
namespace Go.Proofs.Qxb6612257a
open Go.RowKit
set_option linter.unusedVariables false
theorem below_alloc {w w' : World} (h : Below w.heap.size w w') (o : Obj) : Below w.heap.size w (w'.alloc o) := h.alloc h.size o
def ConvRulePost (act : ByteArray) (cd : Option Codes) (w : World) (e : Ending) (w' : World) : Prop :=
  ∃ q, e = .returned (.agg #[.string act, .pointer q]) ∧ PtrCS (From w.heap.size w') w' (.pointer q) cd ∧ Below w.heap.size w w'
set_option maxRecDepth 100000 in
set_option maxHeartbeats 1000000 in
theorem zzConvRule_none (act : ByteArray) (w : World)  :
    Calls Try.prog 32 #[.agg #[.string act, .pointer none]] w (ConvRulePost act none w) := by
  go_enter Try.func32, Try.ntmps32
  go_wp2
  refine bodyPost_ret (v := .agg #[.string act, .pointer none]) (by simp [results, Try.results32, go_sem]) rfl ⟨none, rfl, rfl, ?_⟩
  exact (((Below.refl _ _).alloc (Nat.le_refl _) _).alloc (by simp) _).alloc (by simp; omega) _

theorem run_make_gen {P : Program} (t e : TypeId) (z : Value) (sz bytes : Nat) (ht : P.underlying t = some (.slice e)) (hinfo : (P.info? e).map (fun i => (i.zero, i.size, i.bytes)) = some (some z, sz, bytes)) (n : Nat) (hn : bytes * n ≤ 281474976710656) (h63 : n ≤ 9223372036854775807) (w : World) :
    (Instr.makeSlice t (.int .i64 (n : Int)) (.int .i64 (n : Int))).run P w = .ok (.slice (some ⟨w.heap.size, 0, none⟩) n n) (w.alloc (.cells (madeCells z.cells (n * sz)) e)) := by
  obtain ⟨i, hi, hzz⟩ := Option.map_eq_some_iff.1 hinfo
  simp only [Prod.mk.injEq] at hzz
  obtain ⟨hz, hs, hb⟩ := hzz
  have hb' : (i.bytes : Int) * (n : Int) ≤ 281474976710656 := by
    have h : ((i.bytes * n : Nat) : Int) ≤ 281474976710656 := by rw [hb]; omega
    rwa [Int.natCast_mul] at h
  have hr := run_make (P := P) w t e i z ht hi hz .i64 .i64 n n (by omega) (Int.le_refl _) hb' (by omega)
  simp only [Int.toNat_natCast, hs] at hr
  exact hr
theorem Try.info21 : (Try.prog.info? 21).map (fun i => (i.zero, i.size, i.bytes)) = some (some (.int .i32 0), 1, 4) := by kernel_rfl

/-- A row of int32 whose first k cells are copied. -/
def RowTo (xs : List Int) (k : Nat) (arr : Array Value) : Prop := arr.size = xs.length ∧ (∀ j, j < xs.length → ∃ z, arr[j]? = some (.int .i32 z)) ∧ ∀ j, j < k → arr[j]? = some (.int .i32 (xs.getD j 0))
theorem RowTo.start (xs : List Int) : RowTo xs 0 (madeCells #[.int .i32 0] xs.length) :=
  ⟨size_madeCells _ _, fun j hj => ⟨0, by simp [madeCells, hj, Nat.mod_one]⟩, fun j hj => absurd hj (Nat.not_lt_zero _)⟩
theorem RowTo.step {xs : List Int} {k : Nat} {arr : Array Value} {x : Int} (h : RowTo xs k arr) (hk : k < xs.length) (hx : x = xs.getD k 0) : RowTo xs (k + 1) (arr.setIfInBounds k (.int .i32 x)) := by
  obtain ⟨h1, h2, h3⟩ := h
  subst hx
  refine ⟨by simp [h1], fun j hj => ?_, fun j hj => ?_⟩
  · by_cases e : k = j
    · subst e; exact ⟨_, by rw [Array.getElem?_setIfInBounds_self_of_lt (by omega)]⟩
    · rw [Array.getElem?_setIfInBounds_ne e]; exact h2 j hj
  · by_cases e : k = j
    · subst e; rw [Array.getElem?_setIfInBounds_self_of_lt (by omega)]
    · rw [Array.getElem?_setIfInBounds_ne e]; exact h3 j (by omega)

set_option maxRecDepth 100000 in
set_option maxHeartbeats 1000000 in
theorem zzConvRule_some (act : ByteArray) (c : Codes) (b f : Nat) (a : Option Addr) (cap B : Nat) (w : World) (hB : B ≤ w.heap.size) (hb : b < B) (h0 : w.cell? ⟨b, f, none⟩ = some (.string c.op)) (h1 : w.cell? ⟨b, f + 1, none⟩ = some (.slice a c.vals.length cap)) (hl : c.vals.length ≤ cap) (hm : c.vals.length ≤ 1048576)
     (hc : ∀ i, i < c.vals.length → ∃ b o, a = some ⟨b, o, none⟩ ∧ b < B ∧ w.cell? ⟨b, o + i, none⟩ = some (.int .i32 (c.vals.getD i 0))) :
    Calls Try.prog 32 #[.agg #[.string act, .pointer (some ⟨b, f, none⟩)]] w (ConvRulePost act (some c) w) := by
  have hbw : b < w.heap.size := Nat.lt_of_lt_of_le hb hB
  have hbw1 : b < w.heap.size + 1 := by omega
  have hbw2 : b < w.heap.size + 1 + 1 := by omega
  have hbw3 : b < w.heap.size + 1 + 1 + 1 := by omega
  have hbw4 : b < w.heap.size + 1 + 1 + 1 + 1 := by omega
  have HC := hide hc
  clear hc
  have hmk := run_make_gen (P := Try.prog) 47 21 (.int .i32 0) 1 4 Try.underlying47 Try.info21 c.vals.length (by omega) (by omega)
  cases a with
  | none =>
    have hz : c.vals.length = 0 := by
      by_cases hp : 0 < c.vals.length
      · obtain ⟨b, o, e, _⟩ := HC.out 0 hp
        cases e
      · omega
    have HZ := hide hz
    clear hz
    go_enter Try.func32, Try.ntmps32
    go_wp2
    refine bodyPost_ret (v := .agg #[.string act, .pointer (some ⟨w.heap.size + 1 + 1 + 1, 0, none⟩)]) (by simp [results, Try.results32, go_sem]) rfl ⟨_, rfl, ⟨w.heap.size + 1 + 1 + 1, 0, .slice none 0 0, rfl, ⟨by omega, by simp⟩, by simp [go_sem], by simp [go_sem], ?_⟩, ?_⟩
    · have hz := HZ.out
      refine ⟨none, 0, ?_, by omega, Nat.zero_le _, fun i hi => by omega⟩
      rw [HZ.out]
    · repeat (first | exact Below.refl _ _ | refine below_alloc ?_ _)
  | some a =>
    go_enter Try.func32, Try.ntmps32
    go_wp2
    go_loopw [6] (fun i wr => ∃ (k : Nat) (arr : Array Value), k ≤ c.vals.length ∧ i = .int .i64 k ∧ RowTo c.vals k arr ∧
      wr = ((((w.alloc (.cells #[.string act, .pointer (some ⟨b, f, none⟩)] 46)).alloc (.cells #[.string ⟨#[]⟩, .pointer none] 102)).alloc (.cells #[.string act, .pointer none] 102)).alloc (.cells #[.string c.op, .slice none 0 0] 127)).alloc (.cells arr 21)) (fun i _ => c.vals.length - (intOf i).toNat)
    case atStart => exact ⟨0, _, Nat.zero_le _, rfl, RowTo.start _, rfl⟩
    case round =>
      obtain ⟨k, arr, hk, rfl, hrow, rfl⟩ := hrel
      have HD := hide hrow
      by_cases hlt : k < c.vals.length
      · obtain ⟨b4, o4, e4, hb4, g0⟩ := HC.out k hlt
        obtain rfl : a = ⟨b4, o4, none⟩ := by simpa using e4
        clear e4
        obtain ⟨x, hx⟩ : ∃ x, x = c.vals.getD k 0 := ⟨_, rfl⟩
        rw [← hx] at g0
        have HX := hide hx
        clear hx
        obtain ⟨z, hz⟩ := hrow.2.1 k hlt
        have hk' : k < arr.size := by have := hrow.1; omega
        clear hrow HC
        have hb40 : b4 < w.heap.size := by omega
        have hb41 : b4 < w.heap.size + 1 := by omega
        have hb42 : b4 < w.heap.size + 1 + 1 := by omega
        have hb43 : b4 < w.heap.size + 1 + 1 + 1 := by omega
        have hb44 : b4 < w.heap.size + 1 + 1 + 1 + 1 := by omega
        go_wp2
        go_roundw
        case rel => exact ⟨k + 1, _, by omega, by go_num, HD.out.step hlt HX.out, rfl⟩
        case measure => simp [intOf]; omega
      · clear hrow
        go_wp2
        obtain rfl : k = c.vals.length := by omega
        refine bodyPost_ret (v := .agg #[.string act, .pointer (some ⟨w.heap.size + 1 + 1 + 1, 0, none⟩)]) (by simp [results, Try.results32, go_sem]) rfl ⟨_, rfl, ⟨w.heap.size + 1 + 1 + 1, 0, .slice (some ⟨w.heap.size + 1 + 1 + 1 + 1, 0, none⟩) c.vals.length c.vals.length, rfl, ⟨by omega, by simp⟩, by simp [go_sem], by simp [go_sem], ?_⟩, ?_⟩
        · refine ⟨_, _, rfl, Nat.le_refl _, by unfold maxLen; omega, fun i hi => ⟨_, _, rfl, ⟨by omega, by simp⟩, ?_⟩⟩
          have := HD.out.2.2 i hi
          simp [go_sem]
          simpa using this
        · repeat (first | exact Below.refl _ _ | refine below_alloc ?_ _)

/-- zzConvRule: a copy, in new memory. -/
theorem zzConvRule_any (act : ByteArray) (q : Option Addr) (cd : Option Codes) (B : Nat) (w : World) (hB : B ≤ w.heap.size) (h : PtrC B w (.pointer q) cd) (hs : ∀ c, cd = some c → c.vals.length ≤ 1048576) :
    Calls Try.prog 32 #[.agg #[.string act, .pointer q]] w (ConvRulePost act cd w) := by
  rcases h.cases with ⟨rfl, rfl⟩ | ⟨c, b, f, a, cap, rfl, rfl, hb, h0, h1, hl, hm, hc⟩
  · exact zzConvRule_none act w
  · exact zzConvRule_some act c b f a cap B w hB hb h0 h1 hl (hs c rfl) hc
end Go.Proofs.Qxb6612257a
