/-
  THE PLAIN DATA OF THE LAW (containers, rules, statuses) AND WHAT IT MEANS THAT A VALUE LEADS TO SUCH DATA IN A WORLD, below block number B. No program in sight.
-/
import Derived.WalkKit
import Derived.WalkSpells
namespace Go.Proofs.Qxb6612257a
open Go.RowKit

theorem hide {p : Prop} (h : p) : Hid p := h

structure Codes where
  op : ByteArray
  vals : List Int
structure Rule where
  action : ByteArray
  codes : Option Codes
structure Cont where
  name : ByteArray
  policy : Option ByteArray
  rules : List Rule
  probe : Option (Option ByteArray)

def Rule.zero : Rule := ⟨ByteArray.empty, none⟩
def Cont.zero : Cont := ⟨ByteArray.empty, none, [], none⟩

/-- A pointer to a string, or nil. -/
def PtrS (B : Nat) (w : World) (v : Value) : Option ByteArray → Prop
  | none => v = .pointer none
  | some s => ∃ b o, v = .pointer (some ⟨b, o, none⟩) ∧ b < B ∧ w.cell? ⟨b, o, none⟩ = some (.string s)

/-- A slice of int32. -/
def IsInts (B : Nat) (w : World) (v : Value) (xs : List Int) : Prop :=
  ∃ a cap, v = .slice a xs.length cap ∧ xs.length ≤ cap ∧ cap ≤ maxLen ∧ ∀ i, i < xs.length → ∃ b o, a = some ⟨b, o, none⟩ ∧ b < B ∧ w.cell? ⟨b, o + i, none⟩ = some (.int .i32 (xs.getD i 0))

/-- A pointer to exit codes, or nil. -/
def PtrC (B : Nat) (w : World) (v : Value) : Option Codes → Prop
  | none => v = .pointer none
  | some c => ∃ b o vs, v = .pointer (some ⟨b, o, none⟩) ∧ b < B ∧ w.cell? ⟨b, o, none⟩ = some (.string c.op) ∧ w.cell? ⟨b, o + 1, none⟩ = some vs ∧ IsInts B w vs c.vals

/-- A slice of rules. -/
def IsRules (B : Nat) (w : World) (v : Value) (rs : List Rule) : Prop :=
  ∃ a cap, v = .slice a rs.length cap ∧ rs.length ≤ cap ∧ cap ≤ maxLen ∧
    ∀ i, i < rs.length → ∃ b o pv, a = some ⟨b, o, none⟩ ∧ b < B ∧ w.cell? ⟨b, o + i * 2, none⟩ = some (.string (rs.getD i .zero).action) ∧ w.cell? ⟨b, o + i * 2 + 1, none⟩ = some pv ∧ PtrC B w pv (rs.getD i .zero).codes

/-- A pointer to a probe's GET, or nil. -/
def PtrG (B : Nat) (w : World) (v : Value) : Option ByteArray → Prop
  | none => v = .pointer none
  | some s => ∃ b o, v = .pointer (some ⟨b, o, none⟩) ∧ b < B ∧ w.cell? ⟨b, o, none⟩ = some (.string s)

/-- A pointer to a probe, or nil. -/
def PtrP (B : Nat) (w : World) (v : Value) : Option (Option ByteArray) → Prop
  | none => v = .pointer none
  | some g => ∃ b o gv n, v = .pointer (some ⟨b, o, none⟩) ∧ b < B ∧ w.cell? ⟨b, o, none⟩ = some gv ∧ w.cell? ⟨b, o + 1, none⟩ = some (.int .i32 n) ∧ PtrG B w gv g

/-- The four cells of a container. -/
def IsCont (B : Nat) (w : World) (v0 v1 v2 v3 : Value) (c : Cont) : Prop :=
  v0 = .string c.name ∧ PtrS B w v1 c.policy ∧ IsRules B w v2 c.rules ∧ PtrP B w v3 c.probe

/-- A slice of containers. -/
def IsConts (B : Nat) (w : World) (v : Value) (cs : List Cont) : Prop :=
  ∃ a cap, v = .slice a cs.length cap ∧ cs.length ≤ cap ∧ cap ≤ maxLen ∧
    ∀ i, i < cs.length → ∃ b o v0 v1 v2 v3, a = some ⟨b, o, none⟩ ∧ b < B ∧ w.cell? ⟨b, o + i * 4, none⟩ = some v0 ∧ w.cell? ⟨b, o + i * 4 + 1, none⟩ = some v1 ∧ w.cell? ⟨b, o + i * 4 + 2, none⟩ = some v2 ∧ w.cell? ⟨b, o + i * 4 + 3, none⟩ = some v3 ∧
      IsCont B w v0 v1 v2 v3 (cs.getD i .zero)

/-- nil, or a pointer to one int64 -/
def PtrRun (B : Nat) (w : World) (v : Value) : Prop :=
  v = .pointer none ∨ ∃ b o n, v = .pointer (some ⟨b, o, none⟩) ∧ b < B ∧ w.cell? ⟨b, o, none⟩ = some (.int .i64 n) ∧ -9223372036854775808 ≤ n ∧ n ≤ 9223372036854775807
/-- nil, or a pointer to an int32 and an int64 -/
def PtrTerm (B : Nat) (w : World) (v : Value) : Prop :=
  v = .pointer none ∨ ∃ b o c n, v = .pointer (some ⟨b, o, none⟩) ∧ b < B ∧ w.cell? ⟨b, o, none⟩ = some (.int .i32 c) ∧ w.cell? ⟨b, o + 1, none⟩ = some (.int .i64 n) ∧ -9223372036854775808 ≤ n ∧ n ≤ 9223372036854775807
/-- nil, or a pointer to a bool -/
def PtrB (B : Nat) (w : World) (v : Value) : Prop :=
  v = .pointer none ∨ ∃ b o x, v = .pointer (some ⟨b, o, none⟩) ∧ b < B ∧ w.cell? ⟨b, o, none⟩ = some (.bool x)

/-- A slice of n statuses. -/
def IsStats (B : Nat) (w : World) (v : Value) (n : Nat) : Prop :=
  ∃ a cap, v = .slice a n cap ∧ n ≤ cap ∧ cap ≤ maxLen ∧
    ∀ i, i < n → ∃ b o s v1 v2 v3, a = some ⟨b, o, none⟩ ∧ b < B ∧ w.cell? ⟨b, o + i * 4, none⟩ = some (.string s) ∧ w.cell? ⟨b, o + i * 4 + 1, none⟩ = some v1 ∧ w.cell? ⟨b, o + i * 4 + 2, none⟩ = some v2 ∧ w.cell? ⟨b, o + i * 4 + 3, none⟩ = some v3 ∧
      PtrRun B w v1 ∧ PtrTerm B w v2 ∧ PtrB B w v3

/-! ### What is below B stays as it was -/
section
variable {B B' : Nat} {w w' : World}

theorem PtrS.keep (h : Below B w w') (hB : B ≤ B') {v : Value} {o : Option ByteArray} (p : PtrS B w v o) : PtrS B' w' v o := by
  cases o with
  | none => exact p
  | some s => obtain ⟨b, o, rfl, hb, hc⟩ := p; exact ⟨b, o, rfl, Nat.lt_of_lt_of_le hb hB, by rw [h.cell (p := ⟨b, o, none⟩) hb]; exact hc⟩
theorem PtrG.keep (h : Below B w w') (hB : B ≤ B') {v : Value} {o : Option ByteArray} (p : PtrG B w v o) : PtrG B' w' v o := by
  cases o with
  | none => exact p
  | some s => obtain ⟨b, o, rfl, hb, hc⟩ := p; exact ⟨b, o, rfl, Nat.lt_of_lt_of_le hb hB, by rw [h.cell (p := ⟨b, o, none⟩) hb]; exact hc⟩
theorem IsInts.keep (h : Below B w w') (hB : B ≤ B') {v : Value} {xs : List Int} (p : IsInts B w v xs) : IsInts B' w' v xs := by
  obtain ⟨a, cap, rfl, hl, hm, hc⟩ := p
  refine ⟨a, cap, rfl, hl, hm, fun i hi => ?_⟩
  obtain ⟨b, o, rfl, hb, h0⟩ := hc i hi
  exact ⟨b, o, rfl, Nat.lt_of_lt_of_le hb hB, by rw [h.cell (p := ⟨b, o + i, none⟩) hb]; exact h0⟩
theorem PtrC.keep (h : Below B w w') (hB : B ≤ B') {v : Value} {o : Option Codes} (p : PtrC B w v o) : PtrC B' w' v o := by
  cases o with
  | none => exact p
  | some s =>
    obtain ⟨b, o, vs, rfl, hb, h0, h1, hi⟩ := p
    exact ⟨b, o, vs, rfl, Nat.lt_of_lt_of_le hb hB, by rw [h.cell (p := ⟨b, o, none⟩) hb]; exact h0, by rw [h.cell (p := ⟨b, o + 1, none⟩) hb]; exact h1, hi.keep h hB⟩
theorem IsRules.keep (h : Below B w w') (hB : B ≤ B') {v : Value} {xs : List Rule} (p : IsRules B w v xs) : IsRules B' w' v xs := by
  obtain ⟨a, cap, rfl, hl, hm, hc⟩ := p
  refine ⟨a, cap, rfl, hl, hm, fun i hi => ?_⟩
  obtain ⟨b, o, pv, rfl, hb, h0, h1, h2⟩ := hc i hi
  exact ⟨b, o, pv, rfl, Nat.lt_of_lt_of_le hb hB, by rw [h.cell (p := ⟨b, o + i * 2, none⟩) hb]; exact h0, by rw [h.cell (p := ⟨b, o + i * 2 + 1, none⟩) hb]; exact h1, h2.keep h hB⟩
theorem PtrP.keep (h : Below B w w') (hB : B ≤ B') {v : Value} {o : Option (Option ByteArray)} (p : PtrP B w v o) : PtrP B' w' v o := by
  cases o with
  | none => exact p
  | some s =>
    obtain ⟨b, o, gv, n, rfl, hb, h0, h1, hg⟩ := p
    exact ⟨b, o, gv, n, rfl, Nat.lt_of_lt_of_le hb hB, by rw [h.cell (p := ⟨b, o, none⟩) hb]; exact h0, by rw [h.cell (p := ⟨b, o + 1, none⟩) hb]; exact h1, hg.keep h hB⟩
theorem IsCont.keep (h : Below B w w') (hB : B ≤ B') {v0 v1 v2 v3 : Value} {c : Cont} (p : IsCont B w v0 v1 v2 v3 c) : IsCont B' w' v0 v1 v2 v3 c :=
  ⟨p.1, p.2.1.keep h hB, p.2.2.1.keep h hB, p.2.2.2.keep h hB⟩
theorem IsConts.keep (h : Below B w w') (hB : B ≤ B') {v : Value} {xs : List Cont} (p : IsConts B w v xs) : IsConts B' w' v xs := by
  obtain ⟨a, cap, rfl, hl, hm, hc⟩ := p
  refine ⟨a, cap, rfl, hl, hm, fun i hi => ?_⟩
  obtain ⟨b, o, v0, v1, v2, v3, rfl, hb, h0, h1, h2, h3, h4⟩ := hc i hi
  exact ⟨b, o, v0, v1, v2, v3, rfl, Nat.lt_of_lt_of_le hb hB, by rw [h.cell (p := ⟨b, o + i * 4, none⟩) hb]; exact h0, by rw [h.cell (p := ⟨b, o + i * 4 + 1, none⟩) hb]; exact h1, by rw [h.cell (p := ⟨b, o + i * 4 + 2, none⟩) hb]; exact h2,
    by rw [h.cell (p := ⟨b, o + i * 4 + 3, none⟩) hb]; exact h3, h4.keep h hB⟩
theorem PtrRun.keep (h : Below B w w') (hB : B ≤ B') {v : Value} (p : PtrRun B w v) : PtrRun B' w' v := by
  rcases p with p | ⟨b, o, n, rfl, hb, hc, h1, h2⟩
  · exact .inl p
  · exact .inr ⟨b, o, n, rfl, Nat.lt_of_lt_of_le hb hB, by rw [h.cell (p := ⟨b, o, none⟩) hb]; exact hc, h1, h2⟩
theorem PtrTerm.keep (h : Below B w w') (hB : B ≤ B') {v : Value} (p : PtrTerm B w v) : PtrTerm B' w' v := by
  rcases p with p | ⟨b, o, c, n, rfl, hb, hc, hd, h1, h2⟩
  · exact .inl p
  · exact .inr ⟨b, o, c, n, rfl, Nat.lt_of_lt_of_le hb hB, by rw [h.cell (p := ⟨b, o, none⟩) hb]; exact hc, by rw [h.cell (p := ⟨b, o + 1, none⟩) hb]; exact hd, h1, h2⟩
theorem PtrB.keep (h : Below B w w') (hB : B ≤ B') {v : Value} (p : PtrB B w v) : PtrB B' w' v := by
  rcases p with p | ⟨b, o, n, rfl, hb, hc⟩
  · exact .inl p
  · exact .inr ⟨b, o, n, rfl, Nat.lt_of_lt_of_le hb hB, by rw [h.cell (p := ⟨b, o, none⟩) hb]; exact hc⟩
theorem IsStats.keep (h : Below B w w') (hB : B ≤ B') {v : Value} {n : Nat} (p : IsStats B w v n) : IsStats B' w' v n := by
  obtain ⟨a, cap, rfl, hl, hm, hc⟩ := p
  refine ⟨a, cap, rfl, hl, hm, fun i hi => ?_⟩
  obtain ⟨b, o, v0, v1, v2, v3, rfl, hb, h0, h1, h2, h3, k1, k2, k3⟩ := hc i hi
  exact ⟨b, o, v0, v1, v2, v3, rfl, Nat.lt_of_lt_of_le hb hB, by rw [h.cell (p := ⟨b, o + i * 4, none⟩) hb]; exact h0, by rw [h.cell (p := ⟨b, o + i * 4 + 1, none⟩) hb]; exact h1, by rw [h.cell (p := ⟨b, o + i * 4 + 2, none⟩) hb]; exact h2,
    by rw [h.cell (p := ⟨b, o + i * 4 + 3, none⟩) hb]; exact h3, k1.keep h hB, k2.keep h hB, k3.keep h hB⟩
end

/-! ### A pointer is nil or it is not -/
theorem PtrS.ptr {B : Nat} {w : World} {v : Value} {o : Option ByteArray} (p : PtrS B w v o) : ∃ q, v = .pointer q := by
  cases o with
  | none => exact ⟨_, p⟩
  | some s => obtain ⟨b, f, h1, h2, h3⟩ := p; exact ⟨_, h1⟩
theorem PtrS.cases {B : Nat} {w : World} {q : Option Addr} {o : Option ByteArray} (p : PtrS B w (.pointer q) o) : (q = none ∧ o = none) ∨ ∃ s b f, o = some s ∧ q = some ⟨b, f, none⟩ ∧ b < B ∧ w.cell? ⟨b, f, none⟩ = some (.string s) := by
  cases o with
  | none => exact .inl ⟨by simpa [PtrS] using p, rfl⟩
  | some s => obtain ⟨b, f, h1, h2, h3⟩ := p; exact .inr ⟨s, b, f, rfl, by simpa using h1, h2, h3⟩
theorem PtrP.ptr {B : Nat} {w : World} {v : Value} {o : Option (Option ByteArray)} (p : PtrP B w v o) : ∃ q, v = .pointer q := by
  cases o with
  | none => exact ⟨_, p⟩
  | some s => obtain ⟨b, f, gv, n, h1, _⟩ := p; exact ⟨_, h1⟩
theorem PtrP.cases {B : Nat} {w : World} {q : Option Addr} {o : Option (Option ByteArray)} (p : PtrP B w (.pointer q) o) : (q = none ∧ o = none) ∨ (∃ b f n, o = some none ∧ q = some ⟨b, f, none⟩ ∧ b < B ∧ w.cell? ⟨b, f, none⟩ = some (.pointer none) ∧ w.cell? ⟨b, f + 1, none⟩ = some (.int .i32 n)) ∨
    ∃ b f n s b' f', o = some (some s) ∧ q = some ⟨b, f, none⟩ ∧ b < B ∧ w.cell? ⟨b, f, none⟩ = some (.pointer (some ⟨b', f', none⟩)) ∧ w.cell? ⟨b, f + 1, none⟩ = some (.int .i32 n) ∧ b' < B ∧ w.cell? ⟨b', f', none⟩ = some (.string s) := by
  cases o with
  | none => exact .inl ⟨by simpa [PtrP] using p, rfl⟩
  | some g =>
    obtain ⟨b, f, gv, n, h1, h2, h3, h4, h5⟩ := p
    have h1' : q = some ⟨b, f, none⟩ := by simpa using h1
    cases g with
    | none => obtain rfl : gv = .pointer none := h5; exact .inr (.inl ⟨b, f, n, rfl, h1', h2, h3, h4⟩)
    | some s => obtain ⟨b', f', rfl, k2, k3⟩ := h5; exact .inr (.inr ⟨b, f, n, s, b', f', rfl, h1', h2, h3, h4, k2, k3⟩)
theorem PtrC.ptr {B : Nat} {w : World} {v : Value} {o : Option Codes} (p : PtrC B w v o) : ∃ q, v = .pointer q := by
  cases o with
  | none => exact ⟨_, p⟩
  | some s => obtain ⟨b, f, vs, h1, _⟩ := p; exact ⟨_, h1⟩
theorem PtrC.cases {B : Nat} {w : World} {q : Option Addr} {o : Option Codes} (p : PtrC B w (.pointer q) o) : (q = none ∧ o = none) ∨ ∃ c b f a cap, o = some c ∧ q = some ⟨b, f, none⟩ ∧ b < B ∧ w.cell? ⟨b, f, none⟩ = some (.string c.op) ∧ w.cell? ⟨b, f + 1, none⟩ = some (.slice a c.vals.length cap) ∧ c.vals.length ≤ cap ∧ cap ≤ maxLen ∧
     ∀ i, i < c.vals.length → ∃ b o, a = some ⟨b, o, none⟩ ∧ b < B ∧ w.cell? ⟨b, o + i, none⟩ = some (.int .i32 (c.vals.getD i 0)) := by
  cases o with
  | none => exact .inl ⟨by simpa [PtrC] using p, rfl⟩
  | some s => obtain ⟨b, f, vs, h1, h2, h3, h4, a, cap, rfl, h6, h7, h8⟩ := p; exact .inr ⟨s, b, f, a, cap, rfl, by simpa using h1, h2, h3, h4, h6, h7, h8⟩

/-- Behind a box of four cells. -/
theorem box4 {w wi : World} {v0 v1 v2 v3 : Value} {T : TypeId} (h : Below (w.heap.size + 1) (w.alloc (.cells #[v0, v1, v2, v3] T)) wi) :
    wi.cell? ⟨w.heap.size, 0, none⟩ = some v0 ∧ wi.cell? ⟨w.heap.size, 1, none⟩ = some v1 ∧ wi.cell? ⟨w.heap.size, 2, none⟩ = some v2 ∧ wi.cell? ⟨w.heap.size, 3, none⟩ = some v3 ∧ Below w.heap.size w wi ∧ w.heap.size + 1 ≤ wi.heap.size := by
  refine ⟨?_, ?_, ?_, ?_, ((Below.refl _ _).alloc (Nat.le_refl _) _).trans (h.mono (by omega)), by have := h.size; simpa using this⟩ <;> (rw [h.cell (by simp)]; simp [go_sem])
end Go.Proofs.Qxb6612257a
