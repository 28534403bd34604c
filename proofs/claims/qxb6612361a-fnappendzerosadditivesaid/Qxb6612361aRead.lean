/-
  Both laws' common ground: what a row of the call's own reads as; the clone whatever came in.
-/
import Derived.Test.Qxb6612361aClone
import Derived.OpenShut
import Derived.ChangeOld
import Derived.Deep.Draws
namespace Go.Proofs.Qxb6612361a
open Go.ChangeShapes Go.WideShapes Go.ChangeAt Go.RowKit
set_option linter.unusedVariables false
set_option linter.unusedSimpArgs false
theorem below_drewN {B : Nat} {a w : World} (h : Below B a w) (n : Nat) : Below B a (w.drewN n) := ⟨h.os, h.tape, h.output, h.size, h.block⟩
/-- The same memory. -/
def Reads (W w : World) : Prop := ∀ a, w.cell? a = W.cell? a
theorem Reads.refl (W : World) : Reads W W := fun _ => rfl
theorem Reads.drewN {W w : World} (h : Reads W w) (n : Nat) : Reads W (w.drewN n) := h
theorem Own.at {W : World} {base : Nat} {a : Option Addr} {n cap : Nat} {xs : List Value} (h : Own W base a n cap xs) {j : Nat} {u : Value} (hj : xs[j]? = some u) : ∃ g, a = some ⟨g, 0, none⟩ ∧ W.cell? ⟨g, j, none⟩ = some u := by
  have hl : xs.length = n := by simpa using h.1
  have hjn : j < n := by rw [← hl]; exact (List.getElem?_eq_some_iff.1 hj).1
  rcases h.2 with ⟨e, h0⟩ | ⟨g, c, cur, e, hb, hg, hnc, hcm, hcs, htake⟩
  · omega
  · obtain ⟨rfl, -⟩ : a = some ⟨g, 0, none⟩ ∧ cap = c := by simpa using e
    refine ⟨g, rfl, ?_⟩
    have := h.cells (g := g) rfl j u hj
    rw [Addr.add_lit] at this
    simpa using this

/-- The clone, whatever came in. -/
def Cloned (n : Nat) (L : List Int) (w : World) (e : Ending) (w' : World) : Prop := ∃ b, e = .returned (.slice b n n) ∧ Own w' w.heap.size b n n (L.map (Value.int .u8)) ∧ Below w.heap.size w w'
theorem clone_any (a : Option Addr) (n cap : Nat) (xs : List Int) (hn : n ≤ 1048576) (w : World)
    (h : (a = none ∧ n = 0 ∧ cap = 0 ∧ xs = []) ∨ ∃ x, a = some x ∧ n ≤ cap ∧ cap ≤ maxLen ∧ xs.length = cap ∧ (∀ i, i < xs.length → w.cell? (x.add i) = some (.int .u8 (xs.getD i 0))) ∧ ∀ n ∈ xs, (Lit.int .u8 n).wf = true) :
    Calls Try.prog 6 #[.slice a n cap] w (Cloned n (xs.take n) w) := by
  rcases h with ⟨rfl, rfl, rfl, rfl⟩ | ⟨x, rfl, hl, hm, hz, hc, -⟩
  · refine (clone_nil w).mono ?_
    rintro e w' ⟨rfl, rfl⟩
    exact ⟨none, rfl, World.ownsRow_nil _ _ _ _, Below.refl _ _⟩
  · refine (clone_row x n cap xs hl hz hn w hc).mono ?_
    rintro e w' ⟨rfl, h1, h2⟩
    exact ⟨_, rfl, h1, h2⟩

end Go.Proofs.Qxb6612361a
