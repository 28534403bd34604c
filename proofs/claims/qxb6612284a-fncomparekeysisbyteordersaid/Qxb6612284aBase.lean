/-
  SHARED BY THE TWO LAWS: the library's comparison, the two project functions over it, the bound on the lengths, and the copy of an argument into a new row.
-/
import Derived.Test.Qxb6612284aRows
import Derived.WalkKit
import Derived.ProofKit
import Derived.Below
import Derived.Lib.Bytealg
import Derived.Lib.Walk
import Derived.Laws.MakeOwn
import Derived.Laws.CopyRow
import Derived.Laws.IdiomCopy
namespace Go.Proofs.Qxb6612284a
open Go.RowKit
set_option linter.unusedVariables false
set_option linter.unusedSimpArgs false

set_option maxHeartbeats 1000000 in
set_option maxRecDepth 100000 in
theorem compareString_ok (a b : ByteArray) (w : World) :
    Calls Try.prog 11 #[.string a, .string b] w fun e w' => e = .returned (.int .i64 (Lib.compareBytes a.data.toList b.data.toList)) ∧ w' = w := by
  go_enter Try.func11, Try.ntmps11
  go_wp2
  rw [run_callFunc_extern Try.func12 (by kernel_rfl) (by kernel_rfl) (by kernel_rfl) (e := Extern.BytealgCompare.compare) (by kernel_rfl), Lib.run_compareString]
  simp only [Result.andThen]
  rw [Oper.upon_value]
  go_wp2
  go_ret
  exact ⟨rfl, rfl⟩

set_option maxHeartbeats 1000000 in
theorem compare_ok (a b : ByteArray) (w : World) :
    Calls Try.prog 10 #[.string a, .string b] w fun e w' => e = .returned (.int .i64 (Lib.compareBytes a.data.toList b.data.toList)) ∧ w' = w := by
  go_enter Try.func10, Try.ntmps10
  go_wp2_with (go_at_call 11; refine (compareString_ok _ _ _).mono ?_; rintro e w' ⟨rfl, rfl⟩)
  go_ret
  exact ⟨rfl, rfl⟩

set_option maxHeartbeats 1000000 in
theorem compareKeys_ok (a b : ByteArray) (u v u' v' u'' v'' : Value) (w : World) :
    Calls Try.prog 9 #[.agg #[.string a, u, u', u''], .agg #[.string b, v, v', v'']] w fun e w' => e = .returned (.int .i64 (Lib.compareBytes a.data.toList b.data.toList)) ∧ Below w.heap.size w w' := by
  go_enter Try.func9, Try.ntmps9
  go_wp2_with (go_at_call 10; refine (compare_ok _ _ _).mono ?_; rintro e w' ⟨rfl, rfl⟩)
  go_ret
  exact ⟨rfl, ((Below.refl _ _).alloc (Nat.le_refl _) _).alloc (by simp) _⟩

set_option maxHeartbeats 1000000 in
theorem zz_ok (a b : ByteArray) (p q : Option Addr) (l c l' c' : Nat) (x y : Bool) (w : World) :
    Calls Try.prog 6 #[.string a, .slice p l c, .bool x, .string b, .slice q l' c', .bool y] w fun e w' => e = .returned (.int .i64 (Lib.compareBytes a.data.toList b.data.toList)) ∧ Below w.heap.size w w' := by
  go_enter Try.func6, Try.ntmps6
  go_wp2_with (go_at_call 9; refine (compareKeys_ok _ _ _ _ _ _ _ _ _).mono ?_; rintro e w' ⟨rfl, hb⟩)
  go_ret
  exact ⟨rfl, hb⟩

/-- The bound on the lengths: it answers one of the two, and writes nothing. -/
def Answers (e : Ending) : Prop := e = .returned (.bool true) ∨ e = .returned (.bool false)
theorem Answers.t : Answers (.returned (.bool true)) := .inl rfl
theorem Answers.f : Answers (.returned (.bool false)) := .inr rfl

set_option maxHeartbeats 4000000 in
theorem bound8 (a b : ByteArray) (p q : Option Addr) (l c l' c' : Nat) (x y : Bool) (w : World) (ha : a.size ≤ maxLen) (hb : b.size ≤ maxLen) (hl : l ≤ maxLen) (hl' : l' ≤ maxLen) :
    Calls Try.prog 8 #[.string a, .slice p l c, .bool x, .string b, .slice q l' c', .bool y] w fun e w' => Answers e ∧ w' = w := by
  simp only [maxLen] at ha hb hl hl'
  go_enter Try.func8, Try.ntmps8
  go_wp2
  all_goals go_ret
  all_goals first | exact ⟨.t, rfl⟩ | exact ⟨.f, rfl⟩

set_option maxHeartbeats 4000000 in
theorem bound5 (a b : ByteArray) (p q : Option Addr) (l c l' c' : Nat) (x y : Bool) (w : World) (ha : a.size ≤ maxLen) (hb : b.size ≤ maxLen) (hl : l ≤ maxLen) (hl' : l' ≤ maxLen) :
    Calls Try.prog 5 #[.string a, .slice p l c, .bool x, .string b, .slice q l' c', .bool y] w fun e w' => Answers e ∧ w' = w := by
  simp only [maxLen] at ha hb hl hl'
  go_enter Try.func5, Try.ntmps5
  go_wp2
  all_goals go_ret
  all_goals first | exact ⟨.t, rfl⟩ | exact ⟨.f, rfl⟩

/-! ### The copy of a byte slice into a new row of its own -/
theorem Try.info5 : (Try.prog.info? 5).map (fun i => (i.zero, i.size, i.bytes)) = some (some (.int .u8 0), 1, 1) := by kernel_rfl
theorem Try.size5 : (Try.prog.info? 5).map (·.size) = some 1 := by kernel_rfl

theorem make_bytes (n : Nat) (h : n ≤ 1048576) (w : World) :
    (Instr.makeSlice 22 (.int .i64 (n : Int)) (.int .i64 (n : Int))).run Try.prog w = .ok (.slice (some ⟨w.heap.size, 0, none⟩) n n) (w.alloc (.cells (madeCells #[.int .u8 0] n) 5)) := by
  obtain ⟨i, hi, hzz⟩ := Option.map_eq_some_iff.1 Try.info5
  simp only [Prod.mk.injEq] at hzz
  obtain ⟨hz, hs, hb⟩ := hzz
  have hb' : (i.bytes : Int) * (n : Int) ≤ 281474976710656 := by rw [hb]; omega
  have hr := run_make (P := Try.prog) w 22 5 i (.int .u8 0) Try.underlying22 hi hz .i64 .i64 n n (by omega) (Int.le_refl _) hb' (by omega)
  simp only [Int.toNat_natCast, hs, Nat.mul_one] at hr
  exact hr

theorem below_setRow {B : Nat} {a w : World} (h : Below B a w) {g : Nat} (hg : B ≤ g) (cs : Array Value) : Below B a (w.setRow g cs) :=
  h.trans ⟨rfl, rfl, rfl, by simp [World.setRow], fun k hk => setRow_other _ _ _ _ (by omega)⟩

theorem copy_new (x : Addr) (len cap : Nat) (zs : List Int) (hl : len ≤ cap) (hz : zs.length = cap) (W : World) (hc : ∀ i, i < zs.length → W.cell? (x.add i) = some (.int .u8 (zs.getD i 0))) :
    ∃ W', (∀ ty, (Builtin.copy_ #[22, 22] ty #[.slice (some ⟨W.heap.size, 0, none⟩) len len, .slice (some x) len cap]).run Try.prog (W.alloc (.cells (madeCells #[.int .u8 0] len) 5)) = .ok (goInt len) W') ∧ Below W.heap.size W W' := by
  have hlen : ((zs.take len).map fun z => Value.int .u8 z).length = len := by simp; omega
  have hsrc : ∀ j v, ((zs.take len).map fun z => Value.int .u8 z)[j]? = some v → (W.alloc (.cells (madeCells #[.int .u8 0] len) 5)).cell? (x.add j) = some v := fun j v hj => by
    have hj' : j < len := by rw [← hlen]; exact (List.getElem?_eq_some_iff.1 hj).1
    have h1 := hc j (by omega)
    have hb : (x.add j).block < W.heap.size := World.block_lt_of_cell? W _ h1
    have e : (W.alloc (.cells (madeCells #[.int .u8 0] len) 5)).cell? (x.add j) = W.cell? (x.add j) :=
      ((Below.refl W.heap.size W).alloc (Nat.le_refl _) _).cell hb
    rw [e, h1, ← hj]
    simp [List.getElem?_take, hj', List.getD, List.getElem?_eq_getElem (show j < zs.length by omega)]
  refine ⟨(W.alloc (.cells (madeCells #[.int .u8 0] len) 5)).setRow W.heap.size ((madeCells #[.int .u8 0] len).toList.take 0 ++ ((zs.take len).map fun z => Value.int .u8 z) ++ (madeCells #[.int .u8 0] len).toList.drop (0 + ((zs.take len).map fun z => Value.int .u8 z).length)).toArray, fun ty => ?_, ?_⟩
  · have := run_copy_row (P := Try.prog) (W.alloc (.cells (madeCells #[.int .u8 0] len) 5)) 22 22 ty 5 W.heap.size 0 len len x len cap (madeCells #[.int .u8 0] len) 5 ((zs.take len).map fun z => Value.int .u8 z)
      Try.underlying22 Try.size5 (show (W.heap.push _)[W.heap.size]? = _ from by simp) (by rw [hlen]; simp) hsrc (by rw [hlen, size_madeCells]; omega) (by intro v hv; obtain ⟨z, _, rfl⟩ := List.mem_map.1 hv; rfl)
    rw [this, hlen]
  · exact below_setRow ((Below.refl _ _).alloc (Nat.le_refl _) _) (Nat.le_refl _) _

/-! ### The plain law of the comparison -/
theorem compareBytes_sign : ∀ a b : List UInt8, -1 ≤ Lib.compareBytes a b ∧ Lib.compareBytes a b ≤ 1
  | [], [] => by simp [Lib.compareBytes]
  | [], _ :: _ => by simp [Lib.compareBytes]
  | _ :: _, [] => by simp [Lib.compareBytes]
  | x :: a, y :: b => by
    have ih := compareBytes_sign a b
    unfold Lib.compareBytes
    split
    · simp
    · split
      · simp
      · exact ih
theorem compareBytes_swap : ∀ a b : List UInt8, Lib.compareBytes b a = - Lib.compareBytes a b
  | [], [] => by simp [Lib.compareBytes]
  | [], _ :: _ => by simp [Lib.compareBytes]
  | _ :: _, [] => by simp [Lib.compareBytes]
  | x :: a, y :: b => by
    have ih := compareBytes_swap a b
    unfold Lib.compareBytes
    by_cases h1 : x < y
    · have h2 : ¬ y < x := fun h => UInt8.lt_irrefl x (UInt8.lt_trans h1 h)
      simp [h1, h2]
    · by_cases h2 : y < x
      · simp [h1, h2]
      · simp [h1, h2, ih]
theorem compareBytes_zero : ∀ a b : List UInt8, Lib.compareBytes a b = 0 ↔ a = b
  | [], [] => by simp [Lib.compareBytes]
  | [], _ :: _ => by simp [Lib.compareBytes]
  | _ :: _, [] => by simp [Lib.compareBytes]
  | x :: a, y :: b => by
    have ih := compareBytes_zero a b
    unfold Lib.compareBytes
    by_cases h1 : x < y
    · have h2 : x ≠ y := fun h => UInt8.lt_irrefl x (h ▸ h1)
      simp [h1, h2]
    · by_cases h2 : y < x
      · have h3 : x ≠ y := fun h => UInt8.lt_irrefl x (h ▸ h2)
        simp [h1, h2, h3]
      · have h3 : x = y := UInt8.le_antisymm (UInt8.not_lt.1 h2) (UInt8.not_lt.1 h1)
        simp [h1, h2, h3, ih]

end Go.Proofs.Qxb6612284a
