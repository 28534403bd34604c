/-
  THE SAME DATA, all blocks in a set S of block numbers: for what the call itself makes.
-/
import Derived.Test.Qxb6612257aData
namespace Go.Proofs.Qxb6612257a
open Go.RowKit

def PtrSS (S : Nat → Prop) (w : World) (v : Value) : Option ByteArray → Prop
  | none => v = .pointer none
  | some s => ∃ b o, v = .pointer (some ⟨b, o, none⟩) ∧ S b ∧ w.cell? ⟨b, o, none⟩ = some (.string s)
def IntsS (S : Nat → Prop) (w : World) (v : Value) (xs : List Int) : Prop :=
  ∃ a cap, v = .slice a xs.length cap ∧ xs.length ≤ cap ∧ cap ≤ maxLen ∧ ∀ i, i < xs.length → ∃ b o, a = some ⟨b, o, none⟩ ∧ S b ∧ w.cell? ⟨b, o + i, none⟩ = some (.int .i32 (xs.getD i 0))
def PtrCS (S : Nat → Prop) (w : World) (v : Value) : Option Codes → Prop
  | none => v = .pointer none
  | some c => ∃ b o vs, v = .pointer (some ⟨b, o, none⟩) ∧ S b ∧ w.cell? ⟨b, o, none⟩ = some (.string c.op) ∧ w.cell? ⟨b, o + 1, none⟩ = some vs ∧ IntsS S w vs c.vals
def RulesS (S : Nat → Prop) (w : World) (v : Value) (rs : List Rule) : Prop :=
  ∃ a cap, v = .slice a rs.length cap ∧ rs.length ≤ cap ∧ cap ≤ maxLen ∧
    ∀ i, i < rs.length → ∃ b o pv, a = some ⟨b, o, none⟩ ∧ S b ∧ w.cell? ⟨b, o + i * 2, none⟩ = some (.string (rs.getD i .zero).action) ∧ w.cell? ⟨b, o + i * 2 + 1, none⟩ = some pv ∧ PtrCS S w pv (rs.getD i .zero).codes
def PtrGS (S : Nat → Prop) (w : World) (v : Value) : Option ByteArray → Prop
  | none => v = .pointer none
  | some s => ∃ b o, v = .pointer (some ⟨b, o, none⟩) ∧ S b ∧ w.cell? ⟨b, o, none⟩ = some (.string s)
def PtrPS (S : Nat → Prop) (w : World) (v : Value) : Option (Option ByteArray) → Prop
  | none => v = .pointer none
  | some g => ∃ b o gv n, v = .pointer (some ⟨b, o, none⟩) ∧ S b ∧ w.cell? ⟨b, o, none⟩ = some gv ∧ w.cell? ⟨b, o + 1, none⟩ = some (.int .i32 n) ∧ PtrGS S w gv g
def ContS (S : Nat → Prop) (w : World) (v0 v1 v2 v3 : Value) (c : Cont) : Prop :=
  v0 = .string c.name ∧ PtrSS S w v1 c.policy ∧ RulesS S w v2 c.rules ∧ PtrPS S w v3 c.probe
def ContsS (S : Nat → Prop) (w : World) (v : Value) (cs : List Cont) : Prop :=
  ∃ a cap, v = .slice a cs.length cap ∧ cs.length ≤ cap ∧ cap ≤ maxLen ∧
    ∀ i, i < cs.length → ∃ b o v0 v1 v2 v3, a = some ⟨b, o, none⟩ ∧ S b ∧ w.cell? ⟨b, o + i * 4, none⟩ = some v0 ∧ w.cell? ⟨b, o + i * 4 + 1, none⟩ = some v1 ∧ w.cell? ⟨b, o + i * 4 + 2, none⟩ = some v2 ∧ w.cell? ⟨b, o + i * 4 + 3, none⟩ = some v3 ∧
      ContS S w v0 v1 v2 v3 (cs.getD i .zero)

section
variable {S S' : Nat → Prop} {w w' : World}
/-- Blocks of S are as they were. -/
def Same (S : Nat → Prop) (w w' : World) : Prop := ∀ k, S k → w'.heap[k]? = w.heap[k]?
theorem Same.cell (h : Same S w w') {b o : Nat} (hb : S b) : w'.cell? ⟨b, o, none⟩ = w.cell? ⟨b, o, none⟩ := World.cell?_of_block (w := w) (a := ⟨b, o, none⟩) (h b hb)
theorem Same.of_below {B : Nat} (h : Below B w w') (hS : ∀ k, S k → k < B) : Same S w w' := fun k hk => h.block k (hS k hk)
theorem Same.setCell {a : Addr} (v : Value) (h : ∀ k, S k → k ≠ a.block) : Same S w (w.setCell a v) := fun k hk => Below.heap_setCell _ _ _ _ (h k hk)
theorem Same.trans {w'' : World} (h : Same S w w') (h' : Same S w' w'') : Same S w w'' := fun k hk => (h' k hk).trans (h k hk)

theorem PtrSS.keep (h : Same S w w') (hS : ∀ k, S k → S' k) {v : Value} {o : Option ByteArray} (p : PtrSS S w v o) : PtrSS S' w' v o := by
  cases o with
  | none => exact p
  | some s => obtain ⟨b, o, rfl, hb, hc⟩ := p; exact ⟨b, o, rfl, hS _ hb, by rw [h.cell hb]; exact hc⟩
theorem PtrGS.keep (h : Same S w w') (hS : ∀ k, S k → S' k) {v : Value} {o : Option ByteArray} (p : PtrGS S w v o) : PtrGS S' w' v o := by
  cases o with
  | none => exact p
  | some s => obtain ⟨b, o, rfl, hb, hc⟩ := p; exact ⟨b, o, rfl, hS _ hb, by rw [h.cell hb]; exact hc⟩
theorem IntsS.keep (h : Same S w w') (hS : ∀ k, S k → S' k) {v : Value} {xs : List Int} (p : IntsS S w v xs) : IntsS S' w' v xs := by
  obtain ⟨a, cap, rfl, hl, hm, hc⟩ := p
  refine ⟨a, cap, rfl, hl, hm, fun i hi => ?_⟩
  obtain ⟨b, o, rfl, hb, h0⟩ := hc i hi
  exact ⟨b, o, rfl, hS _ hb, by rw [h.cell hb]; exact h0⟩
theorem PtrCS.keep (h : Same S w w') (hS : ∀ k, S k → S' k) {v : Value} {o : Option Codes} (p : PtrCS S w v o) : PtrCS S' w' v o := by
  cases o with
  | none => exact p
  | some s =>
    obtain ⟨b, o, vs, rfl, hb, h0, h1, hi⟩ := p
    exact ⟨b, o, vs, rfl, hS _ hb, by rw [h.cell hb]; exact h0, by rw [h.cell hb]; exact h1, hi.keep h hS⟩
theorem RulesS.keep (h : Same S w w') (hS : ∀ k, S k → S' k) {v : Value} {xs : List Rule} (p : RulesS S w v xs) : RulesS S' w' v xs := by
  obtain ⟨a, cap, rfl, hl, hm, hc⟩ := p
  refine ⟨a, cap, rfl, hl, hm, fun i hi => ?_⟩
  obtain ⟨b, o, pv, rfl, hb, h0, h1, h2⟩ := hc i hi
  exact ⟨b, o, pv, rfl, hS _ hb, by rw [h.cell hb]; exact h0, by rw [h.cell hb]; exact h1, h2.keep h hS⟩
theorem PtrPS.keep (h : Same S w w') (hS : ∀ k, S k → S' k) {v : Value} {o : Option (Option ByteArray)} (p : PtrPS S w v o) : PtrPS S' w' v o := by
  cases o with
  | none => exact p
  | some s =>
    obtain ⟨b, o, gv, n, rfl, hb, h0, h1, hg⟩ := p
    exact ⟨b, o, gv, n, rfl, hS _ hb, by rw [h.cell hb]; exact h0, by rw [h.cell hb]; exact h1, hg.keep h hS⟩
theorem ContS.keep (h : Same S w w') (hS : ∀ k, S k → S' k) {v0 v1 v2 v3 : Value} {c : Cont} (p : ContS S w v0 v1 v2 v3 c) : ContS S' w' v0 v1 v2 v3 c :=
  ⟨p.1, p.2.1.keep h hS, p.2.2.1.keep h hS, p.2.2.2.keep h hS⟩
theorem ContsS.keep (h : Same S w w') (hS : ∀ k, S k → S' k) {v : Value} {xs : List Cont} (p : ContsS S w v xs) : ContsS S' w' v xs := by
  obtain ⟨a, cap, rfl, hl, hm, hc⟩ := p
  refine ⟨a, cap, rfl, hl, hm, fun i hi => ?_⟩
  obtain ⟨b, o, v0, v1, v2, v3, rfl, hb, h0, h1, h2, h3, h4⟩ := hc i hi
  exact ⟨b, o, v0, v1, v2, v3, rfl, hS _ hb, by rw [h.cell hb]; exact h0, by rw [h.cell hb]; exact h1, by rw [h.cell hb]; exact h2,
    by rw [h.cell hb]; exact h3, h4.keep h hS⟩
end

/-! ### Down to the plain predicates -/
section
variable {S : Nat → Prop} {B : Nat} {w : World}
theorem PtrSS.down (hS : ∀ k, S k → k < B) {v : Value} {o : Option ByteArray} (p : PtrSS S w v o) : PtrS B w v o := by
  cases o with
  | none => exact p
  | some s => obtain ⟨b, o, rfl, hb, hc⟩ := p; exact ⟨b, o, rfl, hS _ hb, hc⟩
theorem PtrGS.down (hS : ∀ k, S k → k < B) {v : Value} {o : Option ByteArray} (p : PtrGS S w v o) : PtrG B w v o := by
  cases o with
  | none => exact p
  | some s => obtain ⟨b, o, rfl, hb, hc⟩ := p; exact ⟨b, o, rfl, hS _ hb, hc⟩
theorem IntsS.down (hS : ∀ k, S k → k < B) {v : Value} {xs : List Int} (p : IntsS S w v xs) : IsInts B w v xs := by
  obtain ⟨a, cap, rfl, hl, hm, hc⟩ := p
  refine ⟨a, cap, rfl, hl, hm, fun i hi => ?_⟩
  obtain ⟨b, o, rfl, hb, h0⟩ := hc i hi
  exact ⟨b, o, rfl, hS _ hb, h0⟩
theorem PtrCS.down (hS : ∀ k, S k → k < B) {v : Value} {o : Option Codes} (p : PtrCS S w v o) : PtrC B w v o := by
  cases o with
  | none => exact p
  | some s =>
    obtain ⟨b, o, vs, rfl, hb, h0, h1, hi⟩ := p
    exact ⟨b, o, vs, rfl, hS _ hb, h0, h1, hi.down hS⟩
theorem RulesS.down (hS : ∀ k, S k → k < B) {v : Value} {xs : List Rule} (p : RulesS S w v xs) : IsRules B w v xs := by
  obtain ⟨a, cap, rfl, hl, hm, hc⟩ := p
  refine ⟨a, cap, rfl, hl, hm, fun i hi => ?_⟩
  obtain ⟨b, o, pv, rfl, hb, h0, h1, h2⟩ := hc i hi
  exact ⟨b, o, pv, rfl, hS _ hb, h0, h1, h2.down hS⟩
theorem PtrPS.down (hS : ∀ k, S k → k < B) {v : Value} {o : Option (Option ByteArray)} (p : PtrPS S w v o) : PtrP B w v o := by
  cases o with
  | none => exact p
  | some s =>
    obtain ⟨b, o, gv, n, rfl, hb, h0, h1, hg⟩ := p
    exact ⟨b, o, gv, n, rfl, hS _ hb, h0, h1, hg.down hS⟩
theorem ContsS.down (hS : ∀ k, S k → k < B) {v : Value} {xs : List Cont} (p : ContsS S w v xs) : IsConts B w v xs := by
  obtain ⟨a, cap, rfl, hl, hm, hc⟩ := p
  refine ⟨a, cap, rfl, hl, hm, fun i hi => ?_⟩
  obtain ⟨b, o, v0, v1, v2, v3, rfl, hb, h0, h1, h2, h3, h4⟩ := hc i hi
  exact ⟨b, o, v0, v1, v2, v3, rfl, hS _ hb, h0, h1, h2, h3, h4.1, h4.2.1.down hS, h4.2.2.1.down hS, h4.2.2.2.down hS⟩
end

/-- The blocks from lo on that are there. -/
def From (lo : Nat) (w : World) (b : Nat) : Prop := lo ≤ b ∧ b < w.heap.size

/-! ### A block of cells -/
def Blk (w : World) (b : Nat) (arr : Array Value) (T : TypeId) : Prop := w.heap[b]? = some (.cells arr T (0, 0))
section
variable {w w' : World} {b : Nat} {arr : Array Value} {T : TypeId}
theorem Blk.cell (h : Blk w b arr T) (j : Nat) : w.cell? ⟨b, j, none⟩ = arr[j]? := by
  unfold Blk at h
  simp [World.cell?, h]
theorem Blk.frozen (h : Blk w b arr T) (j : Nat) : w.frozen? ⟨b, j, none⟩ = false := by
  unfold Blk at h
  simp [World.frozen?, h]
theorem Blk.lt (h : Blk w b arr T) : b < w.heap.size := by
  unfold Blk at h
  exact (Array.getElem?_eq_some_iff.1 h).1
theorem Blk.set (h : Blk w b arr T) (j : Nat) (v : Value) : Blk (w.setCell ⟨b, j, none⟩ v) b (arr.setIfInBounds j v) T := by
  have hl := h.lt
  unfold Blk at h ⊢
  simp only [World.setCell, Array.getElem?_modify, if_true, h]
  simp
theorem Blk.setOther (h : Blk w b arr T) {a : Addr} (ha : b ≠ a.block) (v : Value) : Blk (w.setCell a v) b arr T := by
  unfold Blk at h ⊢
  rw [Below.heap_setCell _ _ _ _ ha]; exact h
theorem Blk.alloc (h : Blk w b arr T) (o : Obj) : Blk (w.alloc o) b arr T := by
  have hl := h.lt
  unfold Blk at h ⊢
  rw [Below.heap_alloc _ _ _ hl]; exact h
theorem Blk.new (w : World) (arr : Array Value) (T : TypeId) : Blk (w.alloc (.cells arr T)) w.heap.size arr T := by
  unfold Blk
  show (w.heap.push _)[w.heap.size]? = _
  simp
theorem Blk.below {B : Nat} (h : Blk w b arr T) (hb : Below B w w') (hB : b < B) : Blk w' b arr T := by
  unfold Blk at h ⊢
  rw [hb.block b hB]; exact h
end
end Go.Proofs.Qxb6612257a
