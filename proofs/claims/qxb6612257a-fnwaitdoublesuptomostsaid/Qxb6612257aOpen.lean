import Derived.Test.Qxb6612257aProg
import Derived.Test.Qxb6612257aData
import Derived.Deep.Slices
import Derived.KernelRfl
import Derived.ChangeOld
import Derived.OpenShut
namespace Go.Proofs.Qxb6612257a
open Go.RowKit
set_option linter.unusedVariables false
set_option linter.unusedSimpArgs false

section
variable {H : Type} {enc : TypeId × Value → H} {w : World} {base : Nat} {spare : Nat → Bool} {held : Bool}

theorem list1 {cs : List Value} (h : cs.length = 1) : ∃ c0, cs = [c0] := List.length_eq_one_iff.1 h
theorem list2 {cs : List Value} (h : cs.length = 2) : ∃ c0 c1, cs = [c0, c1] := by
  cases cs with
  | nil => simp at h
  | cons c0 l => obtain ⟨c1, rfl⟩ := list1 (cs := l) (by simpa using h); exact ⟨c0, c1, rfl⟩
theorem list4 {cs : List Value} (h : cs.length = 4) : ∃ c0 c1 c2 c3, cs = [c0, c1, c2, c3] := by
  cases cs with
  | nil => simp at h
  | cons c0 l =>
    cases l with
    | nil => simp at h
    | cons c1 l => obtain ⟨c2, c3, rfl⟩ := list2 (cs := l) (by simpa using h); exact ⟨c0, c1, c2, c3, rfl⟩
theorem cells_at {a : Addr} {n : Nat} {cs : List Value} (h : w.cells? base a n = some cs) (hn : 0 < n) :
    ∃ b o, a = ⟨b, o, none⟩ ∧ b < w.heap.size ∧ cs.length = n ∧ ∀ i, i < n → w.cell? ⟨b, o + i, none⟩ = cs[i]? := by
  have hb := World.cells?_block h hn
  obtain ⟨_, hl, hc⟩ := World.cells?_some h
  obtain ⟨b, o, spot⟩ := a
  have h0 := hc 0 hn
  rw [List.getElem?_eq_getElem (by omega)] at h0
  have hspot : spot = none := by simpa [Addr.add] using World.cell?_spot h0
  subst hspot
  refine ⟨b, o, rfl, hb, hl, fun i hi => ?_⟩
  have := hc i hi
  by_cases e : i = 0
  · subst e; simpa [Addr.add] using this
  · simpa [Addr.add, e] using this

theorem field_at {P : Program} {fuel : Nat} {t : TypeId} {cs : List Value} {x : DataW H × List MemPlace} {fs : Array Field} (ht : P.underlying t = some (.struct fs)) (h : DataW.trod enc P w base spare held fuel t cs = some x) (i : Nat) (f : Field) (hf : fs[i]? = some f) :
    cs.length = P.cellsOf t ∧ ∃ n y, DataW.trod enc P w base spare held n f.type ((cs.drop f.offset).take (P.cellsOf f.type)) = some y := by
  obtain ⟨xs, n, _, _, hl, hlen, hx⟩ := DataW.trod_struct ht h
  have hi : i < xs.length := by
    rw [hlen]
    exact (Array.getElem?_eq_some_iff.1 hf).1
  refine ⟨hl, n, xs[i], ?_⟩
  rw [hx i f hf, List.getElem?_eq_getElem hi]

/-- The elements of a slice, by index. -/
theorem elems_at {P : Program} {fuel : Nat} {t e : TypeId} {cs : List Value} {x : DataW H × List MemPlace} {sz : Nat} (ht : P.underlying t = some (.slice e)) (hs : P.cellsOf e = sz) (hz : 0 < sz) (h : DataW.trod enc P w base spare held fuel t cs = some x) :
    ∃ a len cap, cs = [.slice a len cap] ∧ len ≤ cap ∧ cap ≤ maxLen ∧ ∀ i, i < len → ∃ b o cs' n y, a = some ⟨b, o, none⟩ ∧ b < w.heap.size ∧ cs'.length = sz ∧ (∀ j, j < sz → w.cell? ⟨b, o + i * sz + j, none⟩ = cs'[j]?) ∧ DataW.trod enc P w base spare held n e cs' = some y := by
  rcases Deep.open_slice ht h with ⟨rfl, _⟩ | ⟨a, len, cap, m, n, D, Pl, rfl, _, hl, hm, hmm, _, hx⟩
  · exact ⟨none, 0, 0, rfl, Nat.le_refl _, Nat.zero_le _, fun i hi => absurd hi (Nat.not_lt_zero _)⟩
  · refine ⟨some a, len, cap, rfl, hl, hm, fun i hi => ?_⟩
    have hlm : len ≤ m := by rw [hmm]; split <;> omega
    rw [hs] at hx
    obtain ⟨c0, h0, _⟩ := hx 0 (by omega)
    obtain ⟨b, o, e0, hb, _, _⟩ := cells_at h0 hz
    have ea : a = ⟨b, o, none⟩ := by simpa [Addr.add] using e0
    subst ea
    obtain ⟨ci, h1, h2⟩ := hx i (by omega)
    obtain ⟨b', o', e1, hb', hl', hc'⟩ := cells_at h1 hz
    have e2 : b' = b ∧ o' = o + i * sz := by
      by_cases hi0 : i * sz = 0
      · rw [hi0] at e1; simp [Addr.add] at e1; omega
      · simp [Addr.add, hi0] at e1; omega
    obtain ⟨rfl, rfl⟩ := e2
    exact ⟨b', o, ci, n, _, rfl, hb', hl', hc', h2⟩

theorem c9 : Try.prog.cellsOf 9 = 1 := by kernel_rfl
theorem c39 : Try.prog.cellsOf 39 = 1 := by kernel_rfl
theorem c40 : Try.prog.cellsOf 40 = 1 := by kernel_rfl
theorem c41 : Try.prog.cellsOf 41 = 1 := by kernel_rfl
theorem c43 : Try.prog.cellsOf 43 = 4 := by kernel_rfl
theorem c44 : Try.prog.cellsOf 44 = 1 := by kernel_rfl
theorem c46 : Try.prog.cellsOf 46 = 2 := by kernel_rfl
theorem c47 : Try.prog.cellsOf 47 = 1 := by kernel_rfl
theorem c49 : Try.prog.cellsOf 49 = 2 := by kernel_rfl
theorem c50 : Try.prog.cellsOf 50 = 1 := by kernel_rfl
theorem c52 : Try.prog.cellsOf 52 = 2 := by kernel_rfl
theorem c54 : Try.prog.cellsOf 54 = 1 := by kernel_rfl
theorem c21 : Try.prog.cellsOf 21 = 1 := by kernel_rfl
theorem c2 : Try.prog.cellsOf 2 = 1 := by kernel_rfl
theorem c4 : Try.prog.cellsOf 4 = 1 := by kernel_rfl
theorem c55 : Try.prog.cellsOf 55 = 1 := by kernel_rfl
theorem c56 : Try.prog.cellsOf 56 = 1 := by kernel_rfl
theorem c57 : Try.prog.cellsOf 57 = 1 := by kernel_rfl
theorem c59 : Try.prog.cellsOf 59 = 4 := by kernel_rfl
theorem c112 : Try.prog.cellsOf 112 = 1 := by kernel_rfl
theorem c116 : Try.prog.cellsOf 116 = 2 := by kernel_rfl

theorem open_ptrS {fuel : Nat} {cs : List Value} {x : DataW H × List MemPlace} (h : DataW.trod enc Try.prog w base spare held fuel 39 cs = some x) : ∃ v o, cs = [v] ∧ PtrS w.heap.size w v o := by
  rcases DataW.trod_pointer Try.underlying39 h with ⟨rfl, _⟩ | ⟨a, cs', y, n, _, rfl, _, hc, hy⟩
  · exact ⟨_, none, rfl, rfl⟩
  · rw [c9] at hc
    obtain ⟨b, o, rfl, hb, hl, hx⟩ := cells_at hc (by decide)
    obtain ⟨s, rfl, _, _⟩ := DataW.trod_string Try.underlying9 hy
    exact ⟨_, some s, rfl, b, o, rfl, hb, by simpa using hx 0 (by decide)⟩
theorem open_ptrG {fuel : Nat} {cs : List Value} {x : DataW H × List MemPlace} (h : DataW.trod enc Try.prog w base spare held fuel 50 cs = some x) : ∃ v o, cs = [v] ∧ PtrG w.heap.size w v o := by
  rcases DataW.trod_pointer Try.underlying50 h with ⟨rfl, _⟩ | ⟨a, cs', y, n, _, rfl, _, hc, hy⟩
  · exact ⟨_, none, rfl, rfl⟩
  · rw [c54] at hc
    obtain ⟨b, o, rfl, hb, hl, hx⟩ := cells_at hc (by decide)
    obtain ⟨_, m, z, hz⟩ := field_at Try.underlying54 hy 0 _ rfl
    obtain ⟨s, e, _, _⟩ := DataW.trod_string Try.underlying9 hz
    obtain ⟨c0, rfl⟩ := list1 hl
    have e' : c0 = .string s := by simpa [c9] using e
    subst e'
    exact ⟨_, some s, rfl, b, o, rfl, hb, by simpa using hx 0 (by decide)⟩
theorem open_ptrP {fuel : Nat} {cs : List Value} {x : DataW H × List MemPlace} (h : DataW.trod enc Try.prog w base spare held fuel 41 cs = some x) : ∃ v o, cs = [v] ∧ PtrP w.heap.size w v o := by
  rcases DataW.trod_pointer Try.underlying41 h with ⟨rfl, _⟩ | ⟨a, cs', y, n, _, rfl, _, hc, hy⟩
  · exact ⟨_, none, rfl, rfl⟩
  · rw [c52] at hc
    obtain ⟨b, o, rfl, hb, hl, hx⟩ := cells_at hc (by decide)
    obtain ⟨_, m, z, hz⟩ := field_at Try.underlying52 hy 0 _ rfl
    obtain ⟨_, m1, z1, hz1⟩ := field_at Try.underlying52 hy 1 _ rfl
    obtain ⟨k, e1, _, _⟩ := DataW.trod_int Try.underlying21 hz1
    obtain ⟨gv, g, e, hg⟩ := open_ptrG hz
    obtain ⟨c0, c1, rfl⟩ := list2 hl
    have e' : c0 = gv := by simpa [c50] using e
    have e1' : c1 = .int .i32 k := by simpa [c21] using e1
    subst e' e1'
    exact ⟨_, some g, rfl, b, o, _, k, rfl, hb, by simpa using hx 0 (by decide), by simpa using hx 1 (by decide), hg⟩
theorem open_ints47 {fuel : Nat} {cs : List Value} {x : DataW H × List MemPlace} (h : DataW.trod enc Try.prog w base spare held fuel 47 cs = some x) : ∃ v xs, cs = [v] ∧ IsInts w.heap.size w v xs := by
  obtain ⟨a, len, cap, rfl, hl, hm, hx⟩ := elems_at Try.underlying47 c21 (by decide) h
  obtain ⟨f, hf⟩ := Deep.choose_lt (α := Int) (n := len) (p := fun i z => ∃ b o, a = some ⟨b, o, none⟩ ∧ b < w.heap.size ∧ w.cell? ⟨b, o + i, none⟩ = some (.int .i32 z)) (fun i hi => by
    obtain ⟨b, o, cs', n, y, rfl, hb, hl', hc, hy⟩ := hx i hi
    obtain ⟨k, rfl, _, _⟩ := DataW.trod_int Try.underlying21 hy
    exact ⟨k, b, o, rfl, hb, by simpa using hc 0 (by decide)⟩)
  refine ⟨_, (List.range len).map f, rfl, a, cap, by simp, by simpa using hl, hm, fun i hi => ?_⟩
  have hi' : i < len := by simpa using hi
  obtain ⟨b, o, ea, hb, hc⟩ := hf i hi'
  exact ⟨b, o, ea, hb, by simpa [List.getD, hi'] using hc⟩
theorem open_ptrC {fuel : Nat} {cs : List Value} {x : DataW H × List MemPlace} (h : DataW.trod enc Try.prog w base spare held fuel 44 cs = some x) : ∃ v o, cs = [v] ∧ PtrC w.heap.size w v o := by
  rcases DataW.trod_pointer Try.underlying44 h with ⟨rfl, _⟩ | ⟨a, cs', y, n, _, rfl, _, hc, hy⟩
  · exact ⟨_, none, rfl, rfl⟩
  · rw [c49] at hc
    obtain ⟨b, o, rfl, hb, hl, hx⟩ := cells_at hc (by decide)
    obtain ⟨_, m, z, hz⟩ := field_at Try.underlying49 hy 0 _ rfl
    obtain ⟨_, m1, z1, hz1⟩ := field_at Try.underlying49 hy 1 _ rfl
    obtain ⟨s, e, _, _⟩ := DataW.trod_string Try.underlying9 hz
    obtain ⟨vs, xs, e1, hi⟩ := open_ints47 hz1
    obtain ⟨c0, c1, rfl⟩ := list2 hl
    have e' : c0 = .string s := by simpa [c9] using e
    have e1' : c1 = vs := by simpa [c47] using e1
    subst e' e1'
    exact ⟨_, some ⟨s, xs⟩, rfl, b, o, _, rfl, hb, by simpa using hx 0 (by decide), by simpa using hx 1 (by decide), hi⟩
theorem open_rules {fuel : Nat} {cs : List Value} {x : DataW H × List MemPlace} (h : DataW.trod enc Try.prog w base spare held fuel 40 cs = some x) : ∃ v rs, cs = [v] ∧ IsRules w.heap.size w v rs := by
  obtain ⟨a, len, cap, rfl, hl, hm, hx⟩ := elems_at Try.underlying40 c46 (by decide) h
  have : Inhabited Rule := ⟨.zero⟩
  obtain ⟨f, hf⟩ := Deep.choose_lt (α := Rule) (n := len) (p := fun i r => ∃ b o pv, a = some ⟨b, o, none⟩ ∧ b < w.heap.size ∧ w.cell? ⟨b, o + i * 2, none⟩ = some (.string r.action) ∧ w.cell? ⟨b, o + i * 2 + 1, none⟩ = some pv ∧ PtrC w.heap.size w pv r.codes) (fun i hi => by
    obtain ⟨b, o, cs', n, y, rfl, hb, hl', hc, hy⟩ := hx i hi
    obtain ⟨_, m, z, hz⟩ := field_at Try.underlying46 hy 0 _ rfl
    obtain ⟨_, m1, z1, hz1⟩ := field_at Try.underlying46 hy 1 _ rfl
    obtain ⟨s, e, _, _⟩ := DataW.trod_string Try.underlying9 hz
    obtain ⟨vs, cd, e1, hi⟩ := open_ptrC hz1
    obtain ⟨c0, c1, rfl⟩ := list2 hl'
    have e' : c0 = .string s := by simpa [c9] using e
    have e1' : c1 = vs := by simpa [c44] using e1
    subst e' e1'
    exact ⟨⟨s, cd⟩, b, o, _, rfl, hb, by simpa using hc 0 (by decide), by simpa using hc 1 (by decide), hi⟩)
  refine ⟨_, (List.range len).map f, rfl, a, cap, by simp, by simpa using hl, hm, fun i hi => ?_⟩
  have hi' : i < len := by simpa using hi
  obtain ⟨b, o, pv, ea, hb, hc, hd, he⟩ := hf i hi'
  have eg : ((List.range len).map f).getD i .zero = f i := by simp [List.getD, hi']
  rw [eg]
  exact ⟨b, o, pv, ea, hb, hc, hd, he⟩
theorem open_conts {fuel : Nat} {cs : List Value} {x : DataW H × List MemPlace} (h : DataW.trod enc Try.prog w base spare held fuel 23 cs = some x) : ∃ v rs, cs = [v] ∧ IsConts w.heap.size w v rs := by
  obtain ⟨a, len, cap, rfl, hl, hm, hx⟩ := elems_at Try.underlying23 c43 (by decide) h
  have : Inhabited Cont := ⟨.zero⟩
  obtain ⟨f, hf⟩ := Deep.choose_lt (α := Cont) (n := len) (p := fun i c => ∃ b o v0 v1 v2 v3, a = some ⟨b, o, none⟩ ∧ b < w.heap.size ∧ w.cell? ⟨b, o + i * 4, none⟩ = some v0 ∧ w.cell? ⟨b, o + i * 4 + 1, none⟩ = some v1 ∧ w.cell? ⟨b, o + i * 4 + 2, none⟩ = some v2 ∧ w.cell? ⟨b, o + i * 4 + 3, none⟩ = some v3 ∧ IsCont w.heap.size w v0 v1 v2 v3 c) (fun i hi => by
    obtain ⟨b, o, cs', n, y, rfl, hb, hl', hc, hy⟩ := hx i hi
    obtain ⟨_, m, z, hz⟩ := field_at Try.underlying43 hy 0 _ rfl
    obtain ⟨_, m1, z1, hz1⟩ := field_at Try.underlying43 hy 1 _ rfl
    obtain ⟨_, m2, z2, hz2⟩ := field_at Try.underlying43 hy 2 _ rfl
    obtain ⟨_, m3, z3, hz3⟩ := field_at Try.underlying43 hy 3 _ rfl
    obtain ⟨s, e, _, _⟩ := DataW.trod_string Try.underlying9 hz
    obtain ⟨v1, po, e1, h1⟩ := open_ptrS hz1
    obtain ⟨v2, rs, e2, h2⟩ := open_rules hz2
    obtain ⟨v3, pb, e3, h3⟩ := open_ptrP hz3
    obtain ⟨c0, c1, c2, c3, rfl⟩ := list4 hl'
    have e' : c0 = .string s := by simpa [c9] using e
    have e1' : c1 = v1 := by simpa [c39] using e1
    have e2' : c2 = v2 := by simpa [c40] using e2
    have e3' : c3 = v3 := by simpa [c41] using e3
    subst e' e1' e2' e3'
    exact ⟨⟨s, po, rs, pb⟩, b, o, _, _, _, _, rfl, hb, by simpa using hc 0 (by decide), by simpa using hc 1 (by decide), by simpa using hc 2 (by decide), by simpa using hc 3 (by decide), rfl, h1, h2, h3⟩)
  refine ⟨_, (List.range len).map f, rfl, a, cap, by simp, by simpa using hl, hm, fun i hi => ?_⟩
  have hi' : i < len := by simpa using hi
  obtain ⟨b, o, v0, v1, v2, v3, ea, hb, hc⟩ := hf i hi'
  have eg : ((List.range len).map f).getD i .zero = f i := by simp [List.getD, hi']
  rw [eg]
  exact ⟨b, o, v0, v1, v2, v3, ea, hb, hc⟩
theorem open_run {fuel : Nat} {cs : List Value} {x : DataW H × List MemPlace} (h : DataW.trod enc Try.prog w base spare held fuel 55 cs = some x) : ∃ v, cs = [v] ∧ PtrRun w.heap.size w v := by
  rcases DataW.trod_pointer Try.underlying55 h with ⟨rfl, _⟩ | ⟨a, cs', y, n, _, rfl, _, hc, hy⟩
  · exact ⟨_, rfl, .inl rfl⟩
  · rw [c112] at hc
    obtain ⟨b, o, rfl, hb, hl, hx⟩ := cells_at hc (by decide)
    obtain ⟨_, m, z, hz⟩ := field_at Try.underlying112 hy 0 _ rfl
    obtain ⟨k, e, _, hw⟩ := DataW.trod_int Try.underlying2 hz
    obtain ⟨c0, rfl⟩ := list1 hl
    have e' : c0 = .int .i64 k := by simpa [c2] using e
    subst e'
    exact ⟨_, rfl, .inr ⟨b, o, k, rfl, hb, by simpa using hx 0 (by decide), bounds_i64 hw⟩⟩
theorem open_term {fuel : Nat} {cs : List Value} {x : DataW H × List MemPlace} (h : DataW.trod enc Try.prog w base spare held fuel 56 cs = some x) : ∃ v, cs = [v] ∧ PtrTerm w.heap.size w v := by
  rcases DataW.trod_pointer Try.underlying56 h with ⟨rfl, _⟩ | ⟨a, cs', y, n, _, rfl, _, hc, hy⟩
  · exact ⟨_, rfl, .inl rfl⟩
  · rw [c116] at hc
    obtain ⟨b, o, rfl, hb, hl, hx⟩ := cells_at hc (by decide)
    obtain ⟨_, m, z, hz⟩ := field_at Try.underlying116 hy 0 _ rfl
    obtain ⟨_, m1, z1, hz1⟩ := field_at Try.underlying116 hy 1 _ rfl
    obtain ⟨k, e, _, _⟩ := DataW.trod_int Try.underlying21 hz
    obtain ⟨k1, e1, _, hw⟩ := DataW.trod_int Try.underlying2 hz1
    obtain ⟨c0, c1, rfl⟩ := list2 hl
    have e' : c0 = .int .i32 k := by simpa [c21] using e
    have e1' : c1 = .int .i64 k1 := by simpa [c2] using e1
    subst e' e1'
    exact ⟨_, rfl, .inr ⟨b, o, k, k1, rfl, hb, by simpa using hx 0 (by decide), by simpa using hx 1 (by decide), bounds_i64 hw⟩⟩
theorem open_ptrB {fuel : Nat} {cs : List Value} {x : DataW H × List MemPlace} (h : DataW.trod enc Try.prog w base spare held fuel 57 cs = some x) : ∃ v, cs = [v] ∧ PtrB w.heap.size w v := by
  rcases DataW.trod_pointer Try.underlying57 h with ⟨rfl, _⟩ | ⟨a, cs', y, n, _, rfl, _, hc, hy⟩
  · exact ⟨_, rfl, .inl rfl⟩
  · rw [c4] at hc
    obtain ⟨b, o, rfl, hb, hl, hx⟩ := cells_at hc (by decide)
    obtain ⟨k, rfl, _⟩ := DataW.trod_bool Try.underlying4 hy
    exact ⟨_, rfl, .inr ⟨b, o, k, rfl, hb, by simpa using hx 0 (by decide)⟩⟩
theorem open_stats {fuel : Nat} {cs : List Value} {x : DataW H × List MemPlace} (h : DataW.trod enc Try.prog w base spare held fuel 24 cs = some x) : ∃ v n, cs = [v] ∧ IsStats w.heap.size w v n := by
  obtain ⟨a, len, cap, rfl, hl, hm, hx⟩ := elems_at Try.underlying24 c59 (by decide) h
  refine ⟨_, len, rfl, a, cap, rfl, hl, hm, fun i hi => ?_⟩
  obtain ⟨b, o, cs', n, y, rfl, hb, hl', hc, hy⟩ := hx i hi
  obtain ⟨_, m, z, hz⟩ := field_at Try.underlying59 hy 0 _ rfl
  obtain ⟨_, m1, z1, hz1⟩ := field_at Try.underlying59 hy 1 _ rfl
  obtain ⟨_, m2, z2, hz2⟩ := field_at Try.underlying59 hy 2 _ rfl
  obtain ⟨_, m3, z3, hz3⟩ := field_at Try.underlying59 hy 3 _ rfl
  obtain ⟨s, e, _, _⟩ := DataW.trod_string Try.underlying9 hz
  obtain ⟨v1, e1, h1⟩ := open_run hz1
  obtain ⟨v2, e2, h2⟩ := open_term hz2
  obtain ⟨v3, e3, h3⟩ := open_ptrB hz3
  obtain ⟨c0, c1, c2, c3, rfl⟩ := list4 hl'
  have e' : c0 = .string s := by simpa [c9] using e
  have e1' : c1 = v1 := by simpa [c55] using e1
  have e2' : c2 = v2 := by simpa [c56] using e2
  have e3' : c3 = v3 := by simpa [c57] using e3
  subst e' e1' e2' e3'
  exact ⟨b, o, s, _, _, _, rfl, hb, by simpa using hc 0 (by decide), by simpa using hc 1 (by decide), by simpa using hc 2 (by decide), by simpa using hc 3 (by decide), h1, h2, h3⟩
end
end Go.Proofs.Qxb6612257a
