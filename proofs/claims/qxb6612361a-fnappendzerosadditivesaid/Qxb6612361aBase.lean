/-
  SHARED BY THE TWO LAWS: the clone of a byte slice, the append of zeros (to a row with no spare room: the row itself is not written; to any row of the call's own), the bounds on the lengths.
-/
import Derived.Test.Qxb6612361aRows
import Derived.WalkKit
import Derived.ProofKit
import Derived.Below
import Derived.Lib.AppendStr
import Derived.WalkSpells
import Derived.BigQuiet
import Derived.Deep.AppendSrc
import Derived.Laws.MakeOwn
namespace Go.Proofs.Qxb6612361a
open Go.RowKit
set_option linter.unusedVariables false
set_option linter.unusedSimpArgs false
theorem hide {p : Prop} (h : p) : Hid p := h

/-- The Go text's constant. -/
def zeros : ByteArray := ⟨#[48, 48, 48, 48, 48, 48, 48, 48, 48, 48, 48, 48, 48, 48, 48, 48, 48, 48, 48, 48, 48, 48, 48, 48, 48, 48, 48, 48, 48, 48, 48, 48, 48, 48, 48, 48, 48, 48, 48, 48, 48, 48, 48, 48, 48, 48, 48, 48, 48, 48, 48, 48, 48, 48, 48, 48, 48, 48, 48, 48, 48, 48, 48, 48, 48, 48, 48, 48, 48, 48, 48, 48, 48, 48, 48, 48, 48]⟩
theorem zeros_data : zeros.data.toList = List.replicate 77 48 := by decide
theorem zeros_size (m : Nat) (hm : m ≤ 77) : (zeros.extract 0 m).size = m := by
  have h : zeros.size = 77 := by decide
  simp [h]; omega
/-- n cells, each the digit 0. -/
def zs (n : Nat) : List Value := List.replicate n (.int .u8 48)
theorem zeros_cells (m : Nat) (hm : m ≤ 77) : Lib.strCells (zeros.extract 0 m) = zs m := by
  have h : (zeros.extract 0 m).data.toList = List.replicate m 48 := by
    rw [ByteArray.data_extract, Array.toList_extract, zeros_data]
    rw [List.extract_eq_take_drop, List.drop_zero, Nat.sub_zero, List.take_replicate, Nat.min_eq_left hm]
  unfold Lib.strCells zs
  rw [h, List.map_replicate]
  rfl

/-- A row of the call's own: n bytes, the cells xs. -/
def Own (w : World) (base : Nat) (a : Option Addr) (n cap : Nat) (xs : List Value) : Prop := w.ownsRow base 5 1 (.slice a n cap) n xs
def blk (a : Option Addr) : Option Nat := (Value.slice a 0 0).ownBlock
theorem blk_eq (a : Option Addr) (n c : Nat) : (Value.slice a n c).ownBlock = blk a := by cases a <;> rfl

theorem Try.info5 : ∃ i, Try.prog.info? 5 = some i ∧ i.zero = some (.int .u8 0) ∧ i.size = 1 ∧ i.bytes = 1 := by
  have h : (Try.prog.info? 5).map (fun i => (i.zero, i.size, i.bytes)) = some (some (.int .u8 0), 1, 1) := by kernel_rfl
  obtain ⟨i, hi, hz⟩ := Option.map_eq_some_iff.1 h
  simp only [Prod.mk.injEq] at hz
  exact ⟨i, hi, hz.1, hz.2.1, hz.2.2⟩

theorem own_append {w : World} {base : Nat} {a : Option Addr} {n cap : Nat} {xs : List Value} (h : Own w base a n cap xs) (hb : base ≤ w.heap.size) (hn : n ≤ 2097152) (s : ByteArray) (hs : s.size ≤ 77) :
    ∃ a' cap' w', (Builtin.append_ #[22, 9] 22 #[.slice a n cap, .string s]).run Try.prog w = .ok (.slice a' (n + s.size) cap') w' ∧ Own w' base a' (n + s.size) cap' (xs ++ Lib.strCells s) ∧ w.grownBy w' (blk a) := by
  obtain ⟨i, hi, hz, hsz, hby⟩ := Try.info5
  obtain ⟨v', w', hr, ho, hg, _⟩ := Lib.run_append_own_string (P := Try.prog) w base 22 9 22 5 i Try.underlying22 Try.underlying9 hi hz hsz hby _ n xs h s (by simp [maxLen]; omega) (by omega) hb
  rw [blk_eq] at hg
  obtain ⟨h1, h2⟩ := ho
  rcases h2 with ⟨rfl, h0⟩ | ⟨g, c, cur, rfl, h3⟩
  · exact ⟨none, 0, w', by rw [hr, h0], ⟨h1, .inl ⟨by rw [h0], h0⟩⟩, hg⟩
  · exact ⟨_, c, w', hr, ⟨h1, .inr ⟨g, c, cur, rfl, h3⟩⟩, hg⟩

/-- No spare room: the row itself is not written. -/
theorem tight_append {w : World} {base : Nat} {a : Option Addr} {n : Nat} {xs : List Value} (h : Own w base a n n xs) (hb : base ≤ w.heap.size) (hn : n ≤ 2097152) (s : ByteArray) (hs : s.size ≤ 77) :
    ∃ a' cap' w', (Builtin.append_ #[22, 9] 22 #[.slice a n n, .string s]).run Try.prog w = .ok (.slice a' (n + s.size) cap') w' ∧ Own w' base a' (n + s.size) cap' (xs ++ Lib.strCells s) ∧ w.grownBy w' none ∧ ((s.size = 0 ∧ a' = a ∧ cap' = n ∧ w' = w) ∨ blk a' = some w.heap.size) := by
  obtain ⟨i, hi, hz, hsz, hby⟩ := Try.info5
  by_cases h0 : s.size = 0
  · have hs0 : Lib.strCells s = [] := List.eq_nil_of_length_eq_zero (by rw [Lib.strCells_length, h0])
    have hf := Lib.run_firstCells_string (P := Try.prog) w 1 s
    rw [hs0, h0] at hf
    refine ⟨a, n, w, ?_, by rw [h0, hs0, List.append_nil]; exact h, ⟨rfl, rfl, rfl, Nat.le_refl _, fun _ _ _ => rfl⟩, .inl ⟨h0, rfl, rfl, rfl⟩⟩
    cases a with
    | none =>
      simp [Builtin.append_, run_underlying Try.underlying22, run_underlying Try.underlying9, sizeOf, typeInfo, hi, hz, hsz, Builtin.lenOf, h0, hf, storeCells]
    | some x =>
      simp [Builtin.append_, run_underlying Try.underlying22, run_underlying Try.underlying9, sizeOf, typeInfo, hi, hz, hsz, Builtin.lenOf, h0, hf, storeCells]
  · have hS : Src Try.prog i.size 9 (.string s) s.size (Go.byteCells s) w := by rw [hsz]; exact Src.ofString w Try.underlying9 s
    have hxl : xs.length = n := by simpa using h.1
    have hold : (Builtin.firstCells i.size n (.slice a n n)).run Try.prog w.drew = .ok xs.toArray w.drew := by
      rcases h.2 with ⟨e, hn0⟩ | ⟨g, c, cur, e, hbg, hg, hnc, hcm, hcs, htake⟩
      · obtain ⟨rfl, _, _⟩ : a = none ∧ n = 0 ∧ n = 0 := by simpa using e
        have : xs = [] := List.eq_nil_of_length_eq_zero (by omega)
        rw [this]
        exact run_firstCells_none w.drew i.size n n n
      · obtain ⟨rfl, -, rfl⟩ : a = some ⟨g, 0, none⟩ ∧ n = n ∧ n = c := by simpa using e
        refine run_firstCells_some w.drew i.size n ⟨g, 0, none⟩ n n xs (by rw [hsz]; omega) (fun j u hu => ?_)
        exact h.cells (g := g) rfl j u hu
    have hr := run_append_grow_src (P := Try.prog) w 22 9 22 5 i (.int .u8 0) Try.underlying22 hi hz a n n xs hold (.string s) s.size (Go.byteCells s) hS (by omega) (by omega) (by rw [hby]; exact growslice_fits (by omega) (by omega))
    refine ⟨_, _, _, hr, ⟨by simp [hxl, Lib.strCells_length], .inr ⟨_, _, _, rfl, hb, heap_alloc_new w.drew _, grownCap_ge _ _ _ _, grownCap_le_maxLen _ _ _ _ (by simp [maxLen]; omega), ?_, ?_⟩⟩, ⟨rfl, rfl, rfl, by simp, fun k hk _ => Below.heap_alloc w.drew _ k hk⟩, .inr rfl⟩
    · have hge := grownCap_ge w (n + s.size) n 5
      simp [size_zeroCells, hxl, byteCells_length, Value.cells]; omega
    · have hl : (xs ++ Go.byteCells s).length = n + s.size := by rw [List.length_append, hxl, byteCells_length]
      simp only [Array.toList_append, Nat.mul_one]
      rw [List.take_append_of_le_length (by simpa using Nat.le_of_eq hl.symm)]
      show List.take (n + s.size) (xs ++ Go.byteCells s) = xs ++ Lib.strCells s
      rw [List.take_of_length_le (by omega)]
      rfl

/-! ### The Go functions -/
def Appended (base : Nat) (a : Option Addr) (n m : Nat) (xs : List Value) (w : World) (e : Ending) (w' : World) : Prop :=
  ∃ a' cap', e = .returned (.slice a' (n + m) cap') ∧ Own w' base a' (n + m) cap' (xs ++ zs m) ∧ w.grownBy w' (blk a)
def AppendedTight (base : Nat) (a : Option Addr) (n m : Nat) (xs : List Value) (w : World) (e : Ending) (w' : World) : Prop :=
  ∃ a' cap', e = .returned (.slice a' (n + m) cap') ∧ Own w' base a' (n + m) cap' (xs ++ zs m) ∧ w.grownBy w' none ∧ ((m = 0 ∧ a' = a ∧ cap' = n ∧ w' = w) ∨ blk a' = some w.heap.size)

/-- One append whose answer is known, for the walk. -/
theorem wpList_append_run {P : Program} {w : World} {ops : Array Oper} {rest : List Oper} {o : Oper} {a : Act} {Q : Exit → Act → World → Prop} (hgd : o.guard = none) (sl x : Operand) (t u ty : TypeId)
    (ho : o.op = .call { callee := .builtin .append, args := #[sl, x], argTypes := #[t, u] }) (hty : o.type = ty)
    (v y v' : Value) (w' : World) (hs : a.eval sl = v) (hx : a.eval x = y) (hr : (Builtin.append_ #[t, u] ty #[v, y]).run P w = .ok v' w')
    (h : wpList P ops Q rest (a.put o.dst v') w') : wpList P ops Q (o :: rest) a w := by
  refine wpList_plain hgd fun K hK => ?_
  subst hty
  unfold Oper.wp execOp
  simp only [ho, resolve, invoke, builtin, Sem.run_bind, Sem.run_pure, Result.andThen_ok, List.map_toArray, List.map_cons, List.map_nil, hs, hx, hr]
  exact hK _ _ h

set_option maxHeartbeats 4000000 in
set_option maxRecDepth 100000 in
theorem append9 (a : Option Addr) (n cap m : Nat) (hm : m ≤ 77) (w : World) (a' : Option Addr) (n' cap' : Nat) (W' : World)
    (happ : (Builtin.append_ #[22, 9] 22 #[.slice a n cap, .string (zeros.extract 0 m)]).run Try.prog w = .ok (.slice a' n' cap') W') :
    Calls Try.prog 9 #[.slice a n cap, .int .i64 (m : Int)] w fun e w' => e = .returned (.slice a' n' cap') ∧ w' = W' := by
  go_enter Try.func9, Try.ntmps9
  go_wp2_with (at_builtin; refine wpList_append_run rfl (.tmp 5) (.tmp 7) 22 9 22 rfl rfl _ _ _ _ rfl rfl happ ?_)
  go_ret
  exact ⟨rfl, rfl⟩

theorem append7 (a : Option Addr) (n cap m : Nat) (hm : m ≤ 77) (w : World) (a' : Option Addr) (n' cap' : Nat) (W' : World)
    (happ : (Builtin.append_ #[22, 9] 22 #[.slice a n cap, .string (zeros.extract 0 m)]).run Try.prog w = .ok (.slice a' n' cap') W') :
    Calls Try.prog 7 #[.slice a n cap, .int .i64 (m : Int)] w fun e w' => e = .returned (.slice a' n' cap') ∧ w' = W' := by
  have h9 := hide (append9 a n cap m hm w a' n' cap' W' happ)
  clear happ
  go_enter Try.func7, Try.ntmps7
  go_wp2_with (go_at_call 9; refine h9.out.mono ?_; rintro e w' ⟨rfl, rfl⟩)
  go_ret
  exact ⟨rfl, rfl⟩

theorem appendZeros_own {w : World} {base : Nat} {a : Option Addr} {n cap : Nat} {xs : List Value} (h : Own w base a n cap xs) (hb : base ≤ w.heap.size) (hn : n ≤ 2097152) (m : Nat) (hm : m ≤ 77) :
    Calls Try.prog 7 #[.slice a n cap, .int .i64 (m : Int)] w (Appended base a n m xs w) := by
  obtain ⟨a', cap', w', hr, ho, hg⟩ := own_append h hb hn (zeros.extract 0 m) (by rw [zeros_size m hm]; exact hm)
  refine (append7 a n cap m hm w _ _ _ _ hr).mono ?_
  rintro e w'' ⟨rfl, rfl⟩
  rw [zeros_size m hm, zeros_cells m hm] at ho
  exact ⟨a', cap', by rw [zeros_size m hm], ho, hg⟩

theorem appendZeros_tight {w : World} {base : Nat} {a : Option Addr} {n : Nat} {xs : List Value} (h : Own w base a n n xs) (hb : base ≤ w.heap.size) (hn : n ≤ 2097152) (m : Nat) (hm : m ≤ 77) :
    Calls Try.prog 7 #[.slice a n n, .int .i64 (m : Int)] w (AppendedTight base a n m xs w) := by
  obtain ⟨a', cap', w', hr, ho, hg, hx⟩ := tight_append h hb hn (zeros.extract 0 m) (by rw [zeros_size m hm]; exact hm)
  refine (append7 a n n m hm w _ _ _ _ hr).mono ?_
  rintro e w'' ⟨rfl, rfl⟩
  rw [zeros_size m hm, zeros_cells m hm] at ho
  rw [zeros_size m hm] at hx
  exact ⟨a', cap', by rw [zeros_size m hm], ho, hg, hx⟩

def Answers (e : Ending) : Prop := e = .returned (.bool true) ∨ e = .returned (.bool false)
theorem bound5 (a : Option Addr) (n c : Nat) (m : Int) (hn : n ≤ maxLen) (w : World) :
    Calls Try.prog 5 #[.slice a n c, .int .i64 m] w fun e w' => Answers e ∧ w' = w := by
  simp only [maxLen] at hn
  go_enter Try.func5, Try.ntmps5
  go_wp2
  all_goals go_ret
  all_goals first | exact ⟨.inl rfl, rfl⟩ | exact ⟨.inr rfl, rfl⟩
theorem bound8 (a : Option Addr) (n c : Nat) (m k : Int) (hn : n ≤ maxLen) (w : World) :
    Calls Try.prog 8 #[.slice a n c, .int .i64 m, .int .i64 k] w fun e w' => Answers e ∧ w' = w := by
  simp only [maxLen] at hn
  go_enter Try.func8, Try.ntmps8
  go_wp2
  all_goals go_ret
  all_goals first | exact ⟨.inl rfl, rfl⟩ | exact ⟨.inr rfl, rfl⟩

end Go.Proofs.Qxb6612361a
