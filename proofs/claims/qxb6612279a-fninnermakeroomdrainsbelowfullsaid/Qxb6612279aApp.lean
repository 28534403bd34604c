/-
  append TO A ROW OF THE CALL's OWN: in place, or a new block; the bytes that a slice holds; zzCat (20), zzEq (19).
-/
import Derived.Test.Qxb6612279aSink
import Derived.Deep.AppendSrc
namespace Go.Proofs.Qxb6612279a
open Go.RowKit
set_option linter.unusedVariables false
set_option linter.unusedSimpArgs false

theorem Touch.under {b : Nat} {w w' : World} (hT : Touch b none w w') {base : Nat} (hb : base ≤ b) (hbase : base ≤ w.heap.size) : Below base w w' :=
  ⟨hT.os, hT.tape, hT.output, hT.size, fun k hk => hT.block k (by omega) (by omega) (by simp)⟩

/-- The slice (a, n) holds the cells cs; where there are any, they lie below base. -/
structure Has (base : Nat) (w : World) (a : Option Addr) (n : Nat) (cs : List Value) : Prop where
  len : cs.length = n
  nil : a = none → n = 0
  cell : ∀ x, a = some x → ∀ j v, cs[j]? = some v → w.cell? (x.add j) = some v ∧ x.block < base
  one : ∀ v ∈ cs, v.oneCell' = true
theorem Has.below {base : Nat} {w w' : World} {a : Option Addr} {n : Nat} {cs : List Value} (h : Has base w a n cs) (hb : Below base w w') : Has base w' a n cs :=
  ⟨h.len, h.nil, fun x hx j v hj => ⟨by rw [hb.cell (by rw [Lib.block_add]; exact (h.cell x hx j v hj).2)]; exact (h.cell x hx j v hj).1, (h.cell x hx j v hj).2⟩, h.one⟩
theorem Has.mono {base base' : Nat} {w : World} {a : Option Addr} {n : Nat} {cs : List Value} (h : Has base w a n cs) (hb : base ≤ base') : Has base' w a n cs :=
  ⟨h.len, h.nil, fun x hx j v hj => ⟨(h.cell x hx j v hj).1, Nat.lt_of_lt_of_le (h.cell x hx j v hj).2 hb⟩, h.one⟩

/-- The row r: capacity cap, at its head the bytes B. -/
def Row (w : World) (r cap : Nat) (B : List Value) : Prop :=
  (∀ v ∈ B, v.oneCell' = true) ∧ ∃ cur, w.heap[r]? = some (.cells cur 5 (0, 0)) ∧ cur.size = cap ∧ B.length ≤ cap ∧ cap ≤ maxLen ∧ cur.toList.take B.length = B
theorem Row.lt {w : World} {r cap : Nat} {B : List Value} (h : Row w r cap B) : r < w.heap.size := by
  obtain ⟨-, cur, h, -⟩ := h
  exact Lib.lt_of_heap h
theorem Row.has {w : World} {r cap : Nat} {B : List Value} (h : Row w r cap B) : Has w.heap.size w (some ⟨r, 0, none⟩) B.length B := by
  obtain ⟨h1, cur, h, -, -, -, htk⟩ := h
  refine ⟨rfl, by simp, fun x hx j v hj => ?_, h1⟩
  cases hx
  exact ⟨Lib.cells_of_row h B.length j v (by rw [htk]; exact hj), Lib.lt_of_heap h⟩

theorem Try.info5 : ∃ i, Try.prog.info? 5 = some i ∧ i.zero = some (.int .u8 0) ∧ i.size = 1 ∧ i.bytes = 1 := by
  have h : (Try.prog.info? 5).map (fun i => (i.zero, i.size, i.bytes)) = some (some (.int .u8 0), 1, 1) := by kernel_rfl
  obtain ⟨i, hi, hz⟩ := Option.map_eq_some_iff.1 h
  simp only [Prod.mk.injEq] at hz
  exact ⟨i, hi, hz.1, hz.2.1, hz.2.2⟩
theorem Has.src {base : Nat} {w : World} {a : Option Addr} {n : Nat} {cs : List Value} (h : Has base w a n cs) (c : Nat) : Src Try.prog 1 22 (.slice a n c) n cs w := by
  cases a with
  | none =>
    obtain rfl := h.nil rfl
    obtain rfl : cs = [] := List.eq_nil_of_length_eq_zero h.len
    exact Src.ofNil w Try.underlying22 c
  | some x => exact Src.ofSlice w Try.underlying22 x n c cs (by rw [h.len, Nat.mul_one]) (fun j u hu => (h.cell x rfl j u hu).1) h.one

theorem run_append_in (w : World) (g L cap : Nat) (cur : Array Value) (hg : w.heap[g]? = some (.cells cur 5 (0, 0))) (hcs : cur.size = cap) (x : Value) (n : Nat) (cs : List Value) (hs : Src Try.prog 1 22 x n cs w) (hroom : L + n ≤ cap) :
    (Builtin.append_ #[22, 22] 22 #[.slice (some ⟨g, 0, none⟩) L cap, x]).run Try.prog w = .ok (.slice (some ⟨g, 0, none⟩) (L + n) cap) (w.setRow g (cur.toList.take L ++ cs ++ cur.toList.drop (L + n)).toArray) := by
  obtain ⟨i, hi, hz, hsz, hby⟩ := Try.info5
  have hl : cs.length = n := by simpa using hs.newsLen
  have hst := run_storeCells_at Try.prog g L 5 cs 0 cur w hg (by simp [hl, hcs]; exact hroom) hs.one
  simp only [Nat.add_zero, hl] at hst
  rcases hs.kind with ⟨e', hk⟩ | hk <;> simp [Builtin.append_, run_underlying Try.underlying22, run_underlying hk, sizeOf, typeInfo, hi, hsz, hs.len, hroom, hs.cells, Addr.add_lit, hst]

/-- append: in place where there is room, else a new block. -/
theorem app_ok {w : World} {r cap base : Nat} {B : List Value} (hR : Row w r cap B) {a : Option Addr} {n c : Nat} {cs : List Value} (hH : Has base w a n cs) (hlim : B.length + n ≤ 4194304) :
    ∃ r' cap' w', (Builtin.append_ #[22, 22] 22 #[.slice (some ⟨r, 0, none⟩) B.length cap, .slice a n c]).run Try.prog w = .ok (.slice (some ⟨r', 0, none⟩) (B.length + n) cap') w' ∧ Row w' r' cap' (B ++ cs) ∧ Row w' r cap B ∧ Touch r none w w' ∧
      ((r' = r ∧ cap' = cap) ∨ (r' = w.heap.size ∧ cap < B.length + n)) := by
  obtain ⟨h1, cur, hg, hcs, hlc, hcm, htk⟩ := hR
  have hl : cs.length = n := hH.len
  have hone : ∀ v ∈ B ++ cs, v.oneCell' = true := by
    intro v hv
    rcases List.mem_append.1 hv with h | h
    · exact h1 v h
    · exact hH.one v h
  by_cases hroom : B.length + n ≤ cap
  · have hr := run_append_in w r B.length cap cur hg hcs (.slice a n c) n cs (hH.src c) hroom
    have hh := setRow_heap w r cur (cur.toList.take B.length ++ cs ++ cur.toList.drop (B.length + n)).toArray 5 (0, 0) hg
    have hsz : (cur.toList.take B.length ++ cs ++ cur.toList.drop (B.length + n)).toArray.size = cap := by simp [hl]; omega
    refine ⟨r, cap, _, hr, ⟨hone, _, hh, hsz, by rw [List.length_append, hl]; exact hroom, hcm, ?_⟩, ⟨h1, _, hh, hsz, hlc, hcm, ?_⟩, ?_, .inl ⟨rfl, rfl⟩⟩
    · show List.take (B ++ cs).length (cur.toList.take B.length ++ cs ++ cur.toList.drop (B.length + n)) = B ++ cs
      rw [htk, List.take_left' rfl]
    · show List.take B.length (cur.toList.take B.length ++ cs ++ cur.toList.drop (B.length + n)) = B
      rw [htk, List.append_assoc, List.take_left' rfl]
    · exact ⟨rfl, rfl, rfl, by simp [World.setRow], fun k hk h1 _ => setRow_other w r k _ h1⟩
  · obtain ⟨i, hi, hz, hsz, hby⟩ := Try.info5
    have hold : (Builtin.firstCells i.size B.length (.slice (some ⟨r, 0, none⟩) B.length cap)).run Try.prog w.drew = .ok B.toArray w.drew := by
      refine run_firstCells_some w.drew i.size B.length ⟨r, 0, none⟩ B.length cap B (by rw [hsz]; omega) (fun j u hu => ?_)
      exact Lib.cells_of_row (w := w) hg B.length j u (by rw [htk]; exact hu)
    have hr := run_append_grow_src (P := Try.prog) w 22 22 22 5 i (.int .u8 0) Try.underlying22 hi hz (some ⟨r, 0, none⟩) B.length cap B hold (.slice a n c) n cs (by rw [hsz]; exact hH.src c) (by omega) (by omega) (by rw [hby]; exact growslice_fits (by omega) (by omega))
    have hge := grownCap_ge w (B.length + n) cap 5
    have hnew : ∀ o : Obj, (w.drew.alloc o).heap[w.heap.size]? = some o := fun o => heap_new w.drew o
    refine ⟨_, _, _, hr, ⟨hone, _, hnew _, ?_, by rw [List.length_append, hl]; exact hge, grownCap_le_maxLen _ _ _ _ (by simp [maxLen]; omega), ?_⟩, ⟨h1, cur, ?_, hcs, hlc, hcm, htk⟩, ?_, .inr ⟨rfl, by omega⟩⟩
    · simp [size_zeroCells, hl, Value.cells]; omega
    · simp only [Array.toList_append]
      rw [List.take_append_of_le_length (by simp)]
      show List.take (B ++ cs).length (B ++ cs) = B ++ cs
      exact List.take_of_length_le (Nat.le_refl _)
    · rw [Below.heap_alloc w.drew _ r (Lib.lt_of_heap hg)]; exact hg
    · exact ⟨rfl, rfl, rfl, by simp, fun k hk _ _ => Below.heap_alloc w.drew _ k hk⟩

/-- One append whose answer is known, for the walk. -/
theorem wpList_append_run {P : Program} {w : World} {ops : Array Oper} {rest : List Oper} {o : Oper} {a : Act} {Q : Exit → Act → World → Prop} (hgd : o.guard = none) (sl x : Operand) (t u ty : TypeId)
    (ho : o.op = .call { callee := .builtin .append, args := #[sl, x], argTypes := #[t, u] }) (hty : o.type = ty)
    (v y v' : Value) (w' : World) (hs : a.eval sl = v) (hx : a.eval x = y) (hr : (Builtin.append_ #[t, u] ty #[v, y]).run P w = .ok v' w')
    (h : wpList P ops Q rest (a.put o.dst v') w') : wpList P ops Q (o :: rest) a w := by
  refine wpList_plain hgd fun K hK => ?_
  subst hty
  unfold Oper.wp execOp
  simp only [ho, resolve, invoke, builtin, Sem.run_bind, Sem.run_pure, Result.andThen_ok, List.map_toArray, List.map_cons, List.map_nil, hs, hx, hr]
  exact hK _ _ h
end Go.Proofs.Qxb6612279a
