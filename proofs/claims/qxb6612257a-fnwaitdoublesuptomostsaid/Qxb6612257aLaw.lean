/-
  THE PLAIN LAW: what the Go text reckons of containers and rules. No program in sight.
-/
import Derived.Test.Qxb6612257aData
namespace Go.Proofs.Qxb6612257a

/-- Is the container a sidecar of policy Always whose startup probe asks the barrier? -/
def isBar (c : Cont) : Bool :=
  match c.policy, c.probe with
  | some s, some (some t) => s.toList == [65, 108, 119, 97, 121, 115] && t.toList == [47, 98, 97, 114, 114, 105, 101, 114, 45, 105, 115, 45, 108, 105, 102, 116, 101, 100]
  | _, _ => false
/-- Is 1 among the exit codes? -/
def listed (xs : List Int) : Bool := xs.any (· == 1)
/-- Does the rule take in exit code 1? -/
def hits (r : Rule) : Bool :=
  match r.codes with
  | none => false
  | some c => if c.op.toList == [73, 110] then listed c.vals else if c.op.toList == [78, 111, 116, 73, 110] then !listed c.vals else false
/-- The first of the rules that takes in exit code 1 says RestartAllContainers. -/
def wholeOf : List Rule → Bool
  | [] => false
  | r :: rs => if hits r then r.action.toList == [82, 101, 115, 116, 97, 114, 116, 65, 108, 108, 67, 111, 110, 116, 97, 105, 110, 101, 114, 115] else wholeOf rs
/-- Just one barrier sidecar, which restarts alone. -/
def alone (cs : List Cont) : Bool :=
  match cs.filter isBar with
  | [c] => !wholeOf c.rules
  | _ => false

theorem listed_take_succ (xs : List Int) (k : Nat) (h : k < xs.length) : listed (xs.take (k + 1)) = (listed (xs.take k) || xs.getD k 0 == 1) := by
  unfold listed
  rw [List.take_succ_eq_append_getElem h, List.any_append]
  simp [List.getD, h]
theorem listed_all {xs : List Int} {k : Nat} (h : xs.length ≤ k) : listed (xs.take k) = listed xs := by rw [List.take_of_length_le h]

/-- How many of the first k are barrier sidecars. -/
def cnt (cs : List Cont) (k : Nat) : Nat := ((cs.take k).filter isBar).length
theorem cnt_zero (cs : List Cont) : cnt cs 0 = 0 := by simp [cnt]
theorem cnt_succ (cs : List Cont) (k : Nat) (h : k < cs.length) : cnt cs (k + 1) = cnt cs k + if isBar (cs.getD k .zero) then 1 else 0 := by
  unfold cnt
  rw [List.take_succ_eq_append_getElem h, List.filter_append, List.length_append]
  have : cs.getD k .zero = cs[k] := by simp [List.getD, h]
  rw [this]
  by_cases hb : isBar cs[k] = true
  · simp [hb]
  · simp [hb]
theorem cnt_le (cs : List Cont) (k : Nat) : cnt cs k ≤ k := by
  unfold cnt
  exact Nat.le_trans (List.length_filter_le _ _) (List.length_take_le _ _)
theorem cnt_all {cs : List Cont} {k : Nat} (h : cs.length ≤ k) : cnt cs k = (cs.filter isBar).length := by
  unfold cnt
  rw [List.take_of_length_le h]
theorem alone_of_not {cs : List Cont} (h : (cs.filter isBar).length ≠ 1) : alone cs = false := by
  unfold alone
  generalize cs.filter isBar = l at *
  match l, h with
  | [], _ => rfl
  | [c], h => simp at h
  | _ :: _ :: _, _ => rfl
/-- Where just one is, and i is one, it is that one. -/
theorem alone_at {cs : List Cont} {i : Nat} (h : (cs.filter isBar).length = 1) (hi : i < cs.length) (hb : isBar (cs.getD i .zero) = true) : alone cs = !wholeOf (cs.getD i .zero).rules := by
  unfold alone
  have hm : cs.getD i .zero ∈ cs.filter isBar := by
    rw [List.mem_filter]
    refine ⟨?_, hb⟩
    have : cs.getD i .zero = cs[i] := by simp [List.getD, hi]
    rw [this]; exact List.getElem_mem hi
  generalize cs.filter isBar = l at *
  match l, h, hm with
  | [c], _, hm => rw [List.mem_singleton.1 hm]

/-- None of the first k rules takes it in. -/
def noHit (rs : List Rule) (k : Nat) : Prop := ∀ j, j < k → hits (rs.getD j .zero) = false
theorem noHit.zero (rs : List Rule) : noHit rs 0 := fun _ h => absurd h (Nat.not_lt_zero _)
theorem noHit.succ {rs : List Rule} {k : Nat} (h : noHit rs k) (h' : hits (rs.getD k .zero) = false) : noHit rs (k + 1) := fun j hj => by
  by_cases e : j = k
  · subst e; exact h'
  · exact h j (by omega)
theorem wholeOf_none : ∀ {rs : List Rule} {k : Nat}, noHit rs k → rs.length ≤ k → wholeOf rs = false
  | [], _, _, _ => rfl
  | r :: rs, k, h, hk => by
    have h0 : hits r = false := h 0 (by simp at hk; omega)
    simp only [wholeOf, h0]
    exact wholeOf_none (k := k - 1) (fun j hj => by have := h (j + 1) (by omega); simpa using this) (by simp at hk; omega)
theorem wholeOf_at : ∀ {rs : List Rule} {k : Nat}, noHit rs k → k < rs.length → hits (rs.getD k .zero) = true →
    wholeOf rs = ((rs.getD k .zero).action.toList == [82, 101, 115, 116, 97, 114, 116, 65, 108, 108, 67, 111, 110, 116, 97, 105, 110, 101, 114, 115])
  | [], _, _, hk, _ => by simp at hk
  | r :: rs, 0, h, hk, hh => by
    have h0 : hits r = true := by simpa using hh
    simp [wholeOf, h0]
  | r :: rs, k + 1, h, hk, hh => by
    have h0 : hits r = false := h 0 (by omega)
    simp only [wholeOf, h0]
    have := wholeOf_at (rs := rs) (k := k) (fun j hj => by have := h (j + 1) (by omega); simpa using this) (by simp at hk; omega) (by simpa using hh)
    simpa using this
end Go.Proofs.Qxb6612257a
