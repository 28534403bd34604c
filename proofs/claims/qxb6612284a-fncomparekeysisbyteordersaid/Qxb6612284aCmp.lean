/-
  'zzByteCompare' (function 7): its answer is the library's comparison.
-/
import Derived.Test.Qxb6612284aBase
import Derived.WalkSpells
import Derived.BigQuiet
import Derived.Lib.Strings
namespace Go.Proofs.Qxb6612284a
open Go.RowKit
set_option linter.unusedVariables false
set_option linter.unusedSimpArgs false
theorem hideB {p : Prop} (h : p) : Hid p := h

theorem below_drewN {B : Nat} {a w : World} (h : Below B a w) (n : Nat) : Below B a (w.drewN n) := ⟨h.os, h.tape, h.output, h.size, h.block⟩

theorem drop_at (a : ByteArray) (k : Nat) (h : k < a.size) : a.data.toList.drop k = a[k] :: a.data.toList.drop (k + 1) := by
  have hl : k < a.data.toList.length := by simpa using h
  rw [List.drop_eq_getElem_cons hl]
  rfl

/-- What the loop knows: k places are equal. -/
def Same (a b : ByteArray) (k : Nat) : Prop := Lib.compareBytes (a.data.toList.drop k) (b.data.toList.drop k) = Lib.compareBytes a.data.toList b.data.toList
theorem Same.start (a b : ByteArray) : Same a b 0 := rfl
theorem Same.less {a b : ByteArray} {k : Nat} (h : Same a b k) (ha : k < a.size) (hb : k < b.size) (hl : a[k].toNat < b[k].toNat) : Lib.compareBytes a.data.toList b.data.toList = -1 := by
  unfold Same at h
  rw [← h, drop_at a k ha, drop_at b k hb]
  have : a[k] < b[k] := hl
  simp [Lib.compareBytes, this]
theorem Same.more {a b : ByteArray} {k : Nat} (h : Same a b k) (ha : k < a.size) (hb : k < b.size) (hl : b[k].toNat < a[k].toNat) : Lib.compareBytes a.data.toList b.data.toList = 1 := by
  unfold Same at h
  rw [← h, drop_at a k ha, drop_at b k hb]
  have h1 : b[k] < a[k] := hl
  have h2 : ¬ a[k] < b[k] := fun h => UInt8.lt_irrefl _ (UInt8.lt_trans h1 h)
  simp [Lib.compareBytes, h1, h2]
theorem Same.step {a b : ByteArray} {k : Nat} (h : Same a b k) (ha : k < a.size) (hb : k < b.size) (h1 : ¬ a[k].toNat < b[k].toNat) (h2 : ¬ b[k].toNat < a[k].toNat) : Same a b (k + 1) := by
  unfold Same at h ⊢
  rw [← h, drop_at a k ha, drop_at b k hb]
  have h1 : ¬ a[k] < b[k] := h1
  have h2 : ¬ b[k] < a[k] := h2
  conv => rhs; unfold Lib.compareBytes
  simp [h1, h2]
theorem Same.endLess {a b : ByteArray} {k : Nat} (h : Same a b k) (ha : k = a.size) (hb : k < b.size) : Lib.compareBytes a.data.toList b.data.toList = -1 := by
  unfold Same at h
  rw [← h, drop_at b k hb, List.drop_of_length_le (by simp; omega)]
  rfl
theorem Same.endMore {a b : ByteArray} {k : Nat} (h : Same a b k) (ha : k < a.size) (hb : k = b.size) : Lib.compareBytes a.data.toList b.data.toList = 1 := by
  unfold Same at h
  rw [← h, drop_at a k ha, List.drop_of_length_le (l := b.data.toList) (by simp; omega)]
  rfl
theorem Same.endEven {a b : ByteArray} {k : Nat} (h : Same a b k) (ha : k = a.size) (hb : k = b.size) : Lib.compareBytes a.data.toList b.data.toList = 0 := by
  unfold Same at h
  rw [← h, List.drop_of_length_le (l := b.data.toList) (by simp; omega), List.drop_of_length_le (l := a.data.toList) (by simp; omega)]
  rfl

set_option maxHeartbeats 8000000 in
set_option maxRecDepth 100000 in
theorem cmp_short (a b : ByteArray) (w : World) (ha : a.size ≤ 262144) (hb : b.size ≤ 262144) (hab : b.size < a.size) :
    Calls Try.prog 7 #[.string a, .string b] w fun e w' => e = .returned (.int .i64 (Lib.compareBytes a.data.toList b.data.toList)) ∧ Below w.heap.size w w' := by
  go_enter Try.func7, Try.ntmps7
  go_wp2
  go_loopw [6] (fun i wi => ∃ k : Nat, k ≤ b.size ∧ i = .int .i64 k ∧ Same a b k ∧ Below w.heap.size w wi) (fun i _ => b.size - (intOf i).toNat)
  case atStart => exact ⟨0, Nat.zero_le _, rfl, Same.start a b, Below.refl _ _⟩
  case round =>
    obtain ⟨k, hk, rfl, hrel, hbel⟩ := hrel
    have HR := hideB hrel
    have HBL := hideB hbel
    clear hrel hbel
    by_cases hlt : k < b.size
    · have hlta : k < a.size := by omega
      have hltb : k < b.size := by omega
      by_cases h1 : a[k].toNat < b[k].toNat
      · have hres := HR.out.less hlta hltb h1
        go_wp2
        go_quiet (fail)
        go_wp2
        go_ret
        exact ⟨by rw [hres]; rfl, below_drewN HBL.out _⟩
      · by_cases h2 : b[k].toNat < a[k].toNat
        · have hres := HR.out.more hlta hltb h2
          go_wp2
          go_quiet (fail)
          go_wp2
          go_quiet (fail)
          go_wp2
          go_ret
          exact ⟨by rw [hres]; rfl, below_drewN (below_drewN HBL.out _) _⟩
        · have hst := hideB (HR.out.step hlta hltb h1 h2)
          go_wp2
          go_quiet (fail)
          go_wp2
          go_quiet (fail)
          go_wp2
          exact ⟨⟨k + 1, by omega, by simp, hst.out, below_drewN HBL.out _⟩, by simp [intOf]; omega⟩
    · have hke : k = b.size := by omega
      have hres := HR.out.endMore (by omega) (by omega)
      go_wp2
      go_ret
      exact ⟨by rw [hres]; rfl, HBL.out⟩

set_option maxHeartbeats 8000000 in
set_option maxRecDepth 100000 in
theorem cmp_long (a b : ByteArray) (w : World) (ha : a.size ≤ 262144) (hb : b.size ≤ 262144) (hab : a.size ≤ b.size) :
    Calls Try.prog 7 #[.string a, .string b] w fun e w' => e = .returned (.int .i64 (Lib.compareBytes a.data.toList b.data.toList)) ∧ Below w.heap.size w w' := by
  go_enter Try.func7, Try.ntmps7
  go_wp2
  go_loopw [6] (fun i wi => ∃ k : Nat, k ≤ a.size ∧ i = .int .i64 k ∧ Same a b k ∧ Below w.heap.size w wi) (fun i _ => a.size - (intOf i).toNat)
  case atStart => exact ⟨0, Nat.zero_le _, rfl, Same.start a b, Below.refl _ _⟩
  case round =>
    obtain ⟨k, hk, rfl, hrel, hbel⟩ := hrel
    have HR := hideB hrel
    have HBL := hideB hbel
    clear hrel hbel
    by_cases hlt : k < a.size
    · have hlta : k < a.size := by omega
      have hltb : k < b.size := by omega
      by_cases h1 : a[k].toNat < b[k].toNat
      · have hres := HR.out.less hlta hltb h1
        go_wp2
        go_quiet (fail)
        go_wp2
        go_ret
        exact ⟨by rw [hres]; rfl, below_drewN HBL.out _⟩
      · by_cases h2 : b[k].toNat < a[k].toNat
        · have hres := HR.out.more hlta hltb h2
          go_wp2
          go_quiet (fail)
          go_wp2
          go_quiet (fail)
          go_wp2
          go_ret
          exact ⟨by rw [hres]; rfl, below_drewN (below_drewN HBL.out _) _⟩
        · have hst := hideB (HR.out.step hlta hltb h1 h2)
          go_wp2
          go_quiet (fail)
          go_wp2
          go_quiet (fail)
          go_wp2
          exact ⟨⟨k + 1, by omega, by simp, hst.out, below_drewN HBL.out _⟩, by simp [intOf]; omega⟩
    · have hke : k = a.size := by omega
      by_cases hl : a.size < b.size
      · have hres := HR.out.endLess (by omega) (by omega)
        go_wp2
        go_ret
        exact ⟨by rw [hres]; rfl, HBL.out⟩
      · have hres := HR.out.endEven (by omega) (by omega)
        go_wp2
        go_ret
        exact ⟨by rw [hres]; rfl, HBL.out⟩

theorem zzByteCompare_ok (a b : ByteArray) (w : World) (ha : a.size ≤ 262144) (hb : b.size ≤ 262144) :
    Calls Try.prog 7 #[.string a, .string b] w fun e w' => e = .returned (.int .i64 (Lib.compareBytes a.data.toList b.data.toList)) ∧ Below w.heap.size w w' := by
  by_cases h : b.size < a.size
  · exact cmp_short a b w ha hb h
  · exact cmp_long a b w ha hb (by omega)

end Go.Proofs.Qxb6612284a
