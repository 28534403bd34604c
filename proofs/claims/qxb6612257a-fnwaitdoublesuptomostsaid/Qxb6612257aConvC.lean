import Derived.Test.Qxb6612257aConvR
import Derived.Deep.DeepCutAuto
namespace Go.Proofs.Qxb6612257a
open Go.RowKit
set_option linter.unusedVariables false
set_option linter.unusedSimpArgs false

/-- The four cells of the container that was handed over; the result's; those of 'out'. -/
structure CState (w : World) (c0 c1 c2 c3 o0 o1 o2 o3 : Value) (wx : World) : Prop where
  box : Blk wx w.heap.size #[c0, c1, c2, c3] 43
  res : Blk wx (w.heap.size + 1) #[.string ⟨#[]⟩, .pointer none, .slice none 0 0, .pointer none] 82
  out : Blk wx (w.heap.size + 1 + 1) #[o0, o1, o2, o3] 82
  bel : Below w.heap.size w wx
def ConvContPost (c : Cont) (w : World) (e : Ending) (w' : World) : Prop :=
  ∃ v0 v1 v2 v3, e = .returned (.agg #[v0, v1, v2, v3]) ∧ ContS (From w.heap.size w') w' v0 v1 v2 v3 c ∧ Below w.heap.size w w'

theorem Blk.new' {w : World} {b : Nat} (arr : Array Value) (T : TypeId) (h : b = w.heap.size) : Blk (w.alloc (.cells arr T)) b arr T := by
  subst h; exact Blk.new w arr T

def RowOk (rs : List Rule) (k : Nat) (r : Nat) (wi : World) : Prop :=
  ∃ arr, Blk wi r arr 102 ∧ arr.size = rs.length * 2 ∧ ∀ j, j < k → ∃ q, arr[j * 2]? = some (.string (rs.getD j .zero).action) ∧ arr[j * 2 + 1]? = some (.pointer q) ∧ PtrCS (From (r + 1) wi) wi (.pointer q) (rs.getD j .zero).codes
theorem From.mono {lo lo' : Nat} {w w' : World} (h : lo' ≤ lo) (h' : w.heap.size ≤ w'.heap.size) : ∀ k, From lo w k → From lo' w' k := fun k hk => ⟨Nat.le_trans h hk.1, Nat.lt_of_lt_of_le hk.2 h'⟩
theorem RowOk.start {rs : List Rule} {r : Nat} {w : World} (z : Array Value) (hr : r = w.heap.size) : RowOk rs 0 r (w.alloc (.cells (madeCells z (rs.length * 2)) 102)) :=
  ⟨_, Blk.new' _ _ hr, size_madeCells _ _, fun j hj => absurd hj (Nat.not_lt_zero _)⟩
theorem RowOk.lt {rs : List Rule} {k r : Nat} {w : World} (h : RowOk rs k r w) : r < w.heap.size := by
  obtain ⟨arr, hb, _⟩ := h; exact hb.lt
theorem RowOk.below {rs : List Rule} {k r : Nat} {w w1 : World} (h : RowOk rs k r w) (hb : Below w.heap.size w w1) : RowOk rs k r w1 := by
  obtain ⟨arr, h1, h2, h3⟩ := h
  refine ⟨arr, h1.below hb h1.lt, h2, fun j hj => ?_⟩
  obtain ⟨q, e1, e2, e3⟩ := h3 j hj
  exact ⟨q, e1, e2, e3.keep (Same.of_below hb fun k hk => hk.2) (From.mono (Nat.le_refl _) hb.size)⟩
theorem RowOk.step {rs : List Rule} {k r : Nat} {w1 : World} {q : Option Addr} {act : ByteArray} (h : RowOk rs k r w1) (hk : k < rs.length) (ha : act = (rs.getD k .zero).action)
    (hq : PtrCS (From (r + 1) w1) w1 (.pointer q) (rs.getD k .zero).codes) : RowOk rs (k + 1) r ((w1.setCell ⟨r, k * 2, none⟩ (.string act)).setCell ⟨r, k * 2 + 1, none⟩ (.pointer q)) := by
  obtain ⟨arr, h1, h2, h3⟩ := h
  have hsame : Same (From (r + 1) w1) w1 ((w1.setCell ⟨r, k * 2, none⟩ (.string act)).setCell ⟨r, k * 2 + 1, none⟩ (.pointer q)) :=
    (Same.setCell _ fun k hk => by have := hk.1; show k ≠ r; omega).trans (Same.setCell _ fun k hk => by have := hk.1; show k ≠ r; omega)
  have hS : ∀ b, From (r + 1) w1 b → From (r + 1) ((w1.setCell ⟨r, k * 2, none⟩ (.string act)).setCell ⟨r, k * 2 + 1, none⟩ (.pointer q)) b := fun b hb => ⟨hb.1, by simpa using hb.2⟩
  refine ⟨_, (h1.set _ _).set _ _, by simp [h2], fun j hj => ?_⟩
  by_cases e : j = k
  · subst e
    refine ⟨q, ?_, ?_, hq.keep hsame hS⟩
    · rw [Array.getElem?_setIfInBounds_ne (by omega), Array.getElem?_setIfInBounds_self_of_lt (by omega), ha]
    · rw [Array.getElem?_setIfInBounds_self_of_lt (by simp; omega)]
  · obtain ⟨q', e1, e2, e3⟩ := h3 j (by omega)
    refine ⟨q', ?_, ?_, e3.keep hsame hS⟩
    · rw [Array.getElem?_setIfInBounds_ne (by omega), Array.getElem?_setIfInBounds_ne (by omega)]; exact e1
    · rw [Array.getElem?_setIfInBounds_ne (by omega), Array.getElem?_setIfInBounds_ne (by omega)]; exact e2
theorem RowOk.done {rs : List Rule} {r lo : Nat} {w : World} (h : RowOk rs rs.length r w) (hm : rs.length ≤ 1048576) (hr : lo ≤ r) : RulesS (From lo w) w (.slice (some ⟨r, 0, none⟩) rs.length rs.length) rs := by
  obtain ⟨arr, h1, h2, h3⟩ := h
  refine ⟨_, _, rfl, Nat.le_refl _, by unfold maxLen; omega, fun i hi => ?_⟩
  obtain ⟨q, e1, e2, e3⟩ := h3 i hi
  refine ⟨r, 0, _, rfl, ⟨hr, h1.lt⟩, ?_, ?_, e3.keep (fun _ _ => rfl) (From.mono (by omega) (Nat.le_refl _))⟩
  · rw [h1.cell, Nat.zero_add]; exact e1
  · rw [h1.cell, Nat.zero_add]; exact e2
theorem RowOk.some {rs : List Rule} {k r : Nat} {w : World} (h : RowOk rs k r w) {j : Nat} (hj : j < rs.length) : (∃ x, w.cell? ⟨r, j * 2, none⟩ = some x) ∧ (∃ y, w.cell? ⟨r, j * 2 + 1, none⟩ = some y) ∧ w.frozen? ⟨r, j * 2, none⟩ = false ∧ w.frozen? ⟨r, j * 2 + 1, none⟩ = false := by
  obtain ⟨arr, h1, h2, h3⟩ := h
  refine ⟨⟨arr[j * 2]'(by omega), ?_⟩, ⟨arr[j * 2 + 1]'(by omega), ?_⟩, h1.frozen _, h1.frozen _⟩
  · rw [h1.cell, Array.getElem?_eq_getElem]
  · rw [h1.cell, Array.getElem?_eq_getElem]
theorem Try.info102 : (Try.prog.info? 102).map (fun i => (i.zero, i.size, i.bytes)) = some (some (.agg #[.string ⟨#[]⟩, .pointer none]), 2, 24) := by kernel_rfl

theorem CState.below {w w1 w2 : World} {c0 c1 c2 c3 o0 o1 o2 o3 : Value} (h : CState w c0 c1 c2 c3 o0 o1 o2 o3 w1) (hb : Below w1.heap.size w1 w2) : CState w c0 c1 c2 c3 o0 o1 o2 o3 w2 :=
  ⟨h.box.below hb h.box.lt, h.res.below hb h.res.lt, h.out.below hb h.out.lt, h.bel.trans (hb.mono h.bel.size)⟩
theorem CState.set {w w1 : World} {c0 c1 c2 c3 o0 o1 o2 o3 : Value} (h : CState w c0 c1 c2 c3 o0 o1 o2 o3 w1) {r j : Nat} (hr : w.heap.size + 1 + 1 < r) (v : Value) : CState w c0 c1 c2 c3 o0 o1 o2 o3 (w1.setCell ⟨r, j, none⟩ v) :=
  ⟨h.box.setOther (by show _ ≠ r; omega) v, h.res.setOther (by show _ ≠ r; omega) v, h.out.setOther (by show _ ≠ r; omega) v, h.bel.setCell (by show _ ≤ r; omega) v⟩
theorem CState.out2 {w w1 : World} {c0 c1 c2 c3 o0 o1 o2 o3 : Value} (h : CState w c0 c1 c2 c3 o0 o1 o2 o3 w1) (v : Value) : CState w c0 c1 c2 c3 o0 o1 v o3 (w1.setCell ⟨w.heap.size + 1 + 1, 2, none⟩ v) :=
  ⟨h.box.setOther (by show _ ≠ w.heap.size + 1 + 1; omega) v, h.res.setOther (by show _ ≠ w.heap.size + 1 + 1; omega) v, h.out.set 2 v, h.bel.setCell (by show _ ≤ w.heap.size + 1 + 1; omega) v⟩
theorem CState.out3 {w w1 : World} {c0 c1 c2 c3 o0 o1 o2 o3 : Value} (h : CState w c0 c1 c2 c3 o0 o1 o2 o3 w1) (v : Value) : CState w c0 c1 c2 c3 o0 o1 o2 v (w1.setCell ⟨w.heap.size + 1 + 1, 3, none⟩ v) :=
  ⟨h.box.setOther (by show _ ≠ w.heap.size + 1 + 1; omega) v, h.res.setOther (by show _ ≠ w.heap.size + 1 + 1; omega) v, h.out.set 3 v, h.bel.setCell (by show _ ≤ w.heap.size + 1 + 1; omega) v⟩
theorem CState.rcells {w w1 : World} {c0 c1 c2 c3 o0 o1 o2 o3 : Value} (h : CState w c0 c1 c2 c3 o0 o1 o2 o3 w1) :
    (w1.cell? ⟨w.heap.size + 1, 0, none⟩ = some (.string ⟨#[]⟩) ∧ w1.cell? ⟨w.heap.size + 1, 1, none⟩ = some (.pointer none) ∧ w1.cell? ⟨w.heap.size + 1, 2, none⟩ = some (.slice none 0 0) ∧ w1.cell? ⟨w.heap.size + 1, 3, none⟩ = some (.pointer none)) ∧
    (w1.frozen? ⟨w.heap.size + 1, 0, none⟩ = false ∧ w1.frozen? ⟨w.heap.size + 1, 1, none⟩ = false ∧ w1.frozen? ⟨w.heap.size + 1, 2, none⟩ = false ∧ w1.frozen? ⟨w.heap.size + 1, 3, none⟩ = false) :=
  ⟨⟨h.res.cell 0, h.res.cell 1, h.res.cell 2, h.res.cell 3⟩, h.res.frozen 0, h.res.frozen 1, h.res.frozen 2, h.res.frozen 3⟩
theorem RulesS.slice {S : Nat → Prop} {w : World} {v : Value} {rs : List Rule} (h : RulesS S w v rs) : ∃ a cap, v = .slice a rs.length cap := by
  obtain ⟨a, cap, h, _⟩ := h; exact ⟨a, cap, h⟩
theorem CState.cells {w w1 : World} {c0 c1 c2 c3 o0 o1 o2 o3 : Value} (h : CState w c0 c1 c2 c3 o0 o1 o2 o3 w1) :
    (w1.cell? ⟨w.heap.size, 0, none⟩ = some c0 ∧ w1.cell? ⟨w.heap.size, 1, none⟩ = some c1 ∧ w1.cell? ⟨w.heap.size, 2, none⟩ = some c2 ∧ w1.cell? ⟨w.heap.size, 3, none⟩ = some c3) ∧
    (w1.cell? ⟨w.heap.size + 1 + 1, 0, none⟩ = some o0 ∧ w1.cell? ⟨w.heap.size + 1 + 1, 1, none⟩ = some o1 ∧ w1.cell? ⟨w.heap.size + 1 + 1, 2, none⟩ = some o2 ∧ w1.cell? ⟨w.heap.size + 1 + 1, 3, none⟩ = some o3) ∧
    (w1.frozen? ⟨w.heap.size + 1 + 1, 2, none⟩ = false ∧ w1.frozen? ⟨w.heap.size + 1 + 1, 3, none⟩ = false) :=
  ⟨⟨h.box.cell 0, h.box.cell 1, h.box.cell 2, h.box.cell 3⟩, ⟨h.out.cell 0, h.out.cell 1, h.out.cell 2, h.out.cell 3⟩, h.out.frozen 2, h.out.frozen 3⟩

/-- The result laid into its box. -/
def put4 (wx : World) (R : Nat) (x0 x1 x2 x3 : Value) : World := (((wx.setCell ⟨R, 0, none⟩ x0).setCell ⟨R, 1, none⟩ x1).setCell ⟨R, 2, none⟩ x2).setCell ⟨R, 3, none⟩ x3
theorem put4_facts {w wx : World} {c0 c1 c2 c3 o0 o1 o2 o3 : Value} (h : CState w c0 c1 c2 c3 o0 o1 o2 o3 wx) (x0 x1 x2 x3 : Value) :
    Blk (put4 wx (w.heap.size + 1) x0 x1 x2 x3) (w.heap.size + 1) #[x0, x1, x2, x3] 82 ∧ Same (From (w.heap.size + 1 + 1 + 1) wx) wx (put4 wx (w.heap.size + 1) x0 x1 x2 x3) ∧ Below w.heap.size w (put4 wx (w.heap.size + 1) x0 x1 x2 x3) ∧ (put4 wx (w.heap.size + 1) x0 x1 x2 x3).heap.size = wx.heap.size := by
  unfold put4
  refine ⟨(((h.res.set 0 x0).set 1 x1).set 2 x2).set 3 x3, ?_, ?_, by simp⟩
  · have hne : ∀ k, From (w.heap.size + 1 + 1 + 1) wx k → k ≠ w.heap.size + 1 := fun k hk => by have := hk.1; omega
    exact (((Same.setCell _ hne).trans (Same.setCell _ hne)).trans (Same.setCell _ hne)).trans (Same.setCell _ hne)
  · have hle : w.heap.size ≤ w.heap.size + 1 := by omega
    exact (((h.bel.setCell (p := ⟨_, _, _⟩) hle _).setCell (p := ⟨_, _, _⟩) hle _).setCell (p := ⟨_, _, _⟩) hle _).setCell (p := ⟨_, _, _⟩) hle _

theorem end2 {w wc wx W : World} {c : Cont} {nm : ByteArray} {q2 a2 : Option Addr} {rs : List Rule} {cap2 : Nat} {n2 : Int} (hn : nm = c.name) (hr : rs = c.rules) (h3 : c.probe = some none)
    (hq : PtrSS (From (w.heap.size + 1 + 1 + 1) wc) wc (.pointer q2) c.policy) (hrr : RulesS (From (w.heap.size + 1 + 1 + 1) wc) wc (.slice a2 rs.length cap2) rs)
    (f0 : Same (From (w.heap.size + 1 + 1 + 1) wc) wc wx) (f2 : Same (From (w.heap.size + 1 + 1 + 1) wx) wx W) (f3 : Below w.heap.size w W) (f4 : W.heap.size = wx.heap.size) (f5 : wx.heap.size = wc.heap.size) (hl : w.heap.size + 1 + 1 < wc.heap.size) :
    ContS (From w.heap.size (W.alloc (.cells #[.pointer none, .int .i32 n2] 106))) (W.alloc (.cells #[.pointer none, .int .i32 n2] 106)) (.string nm) (.pointer q2) (.slice a2 rs.length cap2) (.pointer (some ⟨wc.heap.size, 0, none⟩)) c ∧ Below w.heap.size w (W.alloc (.cells #[.pointer none, .int .i32 n2] 106)) := by
  have hs : Same (From (w.heap.size + 1 + 1 + 1) wc) wc W := f0.trans fun k hk => f2 k ⟨hk.1, by rw [f5]; exact hk.2⟩
  have hs' : Same (From (w.heap.size + 1 + 1 + 1) wc) wc (W.alloc (.cells #[.pointer none, .int .i32 n2] 106)) := hs.trans fun k hk => Below.heap_alloc _ _ _ (by have := hk.2; omega)
  have hm : ∀ k, From (w.heap.size + 1 + 1 + 1) wc k → From w.heap.size (W.alloc (.cells #[.pointer none, .int .i32 n2] 106)) k := From.mono (by omega) (by simp; omega)
  have hb := Blk.new' (w := W) (b := wc.heap.size) #[.pointer none, .int .i32 n2] 106 (by omega)
  refine ⟨⟨by rw [hn], hq.keep hs' hm, by rw [← hr]; exact hrr.keep hs' hm, ?_⟩, below_alloc f3 _⟩
  rw [h3]
  exact ⟨wc.heap.size, 0, _, n2, rfl, ⟨by omega, by simp; omega⟩, hb.cell 0, hb.cell 1, rfl⟩
theorem end3 {w wc wx W : World} {c : Cont} {nm t2 : ByteArray} {q2 a2 : Option Addr} {rs : List Rule} {cap2 : Nat} {n2 : Int} (hn : nm = c.name) (hr : rs = c.rules) (h3 : c.probe = some (some t2))
    (hq : PtrSS (From (w.heap.size + 1 + 1 + 1) wc) wc (.pointer q2) c.policy) (hrr : RulesS (From (w.heap.size + 1 + 1 + 1) wc) wc (.slice a2 rs.length cap2) rs)
    (f0 : Same (From (w.heap.size + 1 + 1 + 1) wc) wc wx) (f2 : Same (From (w.heap.size + 1 + 1 + 1) wx) wx W) (f3 : Below w.heap.size w W) (f4 : W.heap.size = wx.heap.size) (f5 : wx.heap.size = wc.heap.size) (hl : w.heap.size + 1 + 1 < wc.heap.size) :
    ContS (From w.heap.size ((W.alloc (.cells #[.pointer (some ⟨wc.heap.size + 1, 0, none⟩), .int .i32 n2] 106)).alloc (.cells #[.string t2] 108))) ((W.alloc (.cells #[.pointer (some ⟨wc.heap.size + 1, 0, none⟩), .int .i32 n2] 106)).alloc (.cells #[.string t2] 108)) (.string nm) (.pointer q2) (.slice a2 rs.length cap2) (.pointer (some ⟨wc.heap.size, 0, none⟩)) c ∧
      Below w.heap.size w ((W.alloc (.cells #[.pointer (some ⟨wc.heap.size + 1, 0, none⟩), .int .i32 n2] 106)).alloc (.cells #[.string t2] 108)) := by
  have hs : Same (From (w.heap.size + 1 + 1 + 1) wc) wc W := f0.trans fun k hk => f2 k ⟨hk.1, by rw [f5]; exact hk.2⟩
  have hs' : Same (From (w.heap.size + 1 + 1 + 1) wc) wc ((W.alloc (.cells #[.pointer (some ⟨wc.heap.size + 1, 0, none⟩), .int .i32 n2] 106)).alloc (.cells #[.string t2] 108)) := (hs.trans fun k hk => Below.heap_alloc _ _ _ (by have := hk.2; omega)).trans fun k hk => Below.heap_alloc _ _ _ (by have := hk.2; simp; omega)
  have hm : ∀ k, From (w.heap.size + 1 + 1 + 1) wc k → From w.heap.size ((W.alloc (.cells #[.pointer (some ⟨wc.heap.size + 1, 0, none⟩), .int .i32 n2] 106)).alloc (.cells #[.string t2] 108)) k := From.mono (by omega) (by simp; omega)
  have hb := (Blk.new' (w := W) (b := wc.heap.size) #[.pointer (some ⟨wc.heap.size + 1, 0, none⟩), .int .i32 n2] 106 (by omega)).alloc (.cells #[.string t2] 108)
  have hc := Blk.new' (w := W.alloc (.cells #[.pointer (some ⟨wc.heap.size + 1, 0, none⟩), .int .i32 n2] 106)) (b := wc.heap.size + 1) #[.string t2] 108 (by simp; omega)
  refine ⟨⟨by rw [hn], hq.keep hs' hm, by rw [← hr]; exact hrr.keep hs' hm, ?_⟩, below_alloc (below_alloc f3 _) _⟩
  rw [h3]
  exact ⟨wc.heap.size, 0, _, n2, rfl, ⟨by omega, by simp; omega⟩, hb.cell 0, hb.cell 1, wc.heap.size + 1, 0, rfl, ⟨by omega, by simp; omega⟩, hc.cell 0⟩

set_option maxRecDepth 100000 in
set_option maxHeartbeats 1000000 in
theorem zzConvContainer_any (c : Cont) (p1 : Option Addr) (ar : Option Addr) (capr : Nat) (p3 : Option Addr) (B : Nat) (w : World) (hB : B ≤ w.heap.size) (h1 : PtrS B w (.pointer p1) c.policy)
    (hnr : c.rules.length ≤ capr) (hsm : c.rules.length ≤ 1048576) (hall : ∀ i, i < c.rules.length → ∀ cd, (c.rules.getD i .zero).codes = some cd → cd.vals.length ≤ 1048576)
    (hcr : ∀ i, i < c.rules.length → ∃ b o pv, ar = some ⟨b, o, none⟩ ∧ b < B ∧ w.cell? ⟨b, o + i * 2, none⟩ = some (.string (c.rules.getD i .zero).action) ∧ w.cell? ⟨b, o + i * 2 + 1, none⟩ = some pv ∧ PtrC B w pv (c.rules.getD i .zero).codes)
    (h3 : PtrP B w (.pointer p3) c.probe) :
    Calls Try.prog 22 #[.agg #[.string c.name, .pointer p1, .slice ar c.rules.length capr, .pointer p3]] w (ConvContPost c w) := by
  have H1 := hide h1
  have HR := hide hcr
  have HA := hide hall
  have H3 := hide h3
  clear h1 hcr h3 hall
  obtain ⟨nm, hnm⟩ : ∃ nm, nm = c.name := ⟨_, rfl⟩
  rw [← hnm]
  obtain ⟨rs, hrs⟩ : ∃ rs, rs = c.rules := ⟨_, rfl⟩
  rw [← hrs] at HR HA hnr hsm ⊢
  have HN := hide hnm
  have HRS := hide hrs
  clear hnm hrs
  go_enter Try.func22, Try.ntmps22
  go_upto_if 14 with fail
  go_cut [3] (fun s3 wx => s3 = .pointer (some ⟨w.heap.size + 1 + 1, 0, none⟩) ∧ ∃ q1, CState w (.string nm) (.pointer p1) (.slice ar rs.length capr) (.pointer p3) (.string nm) (.pointer q1) (.slice none 0 0) (.pointer none) wx ∧ PtrSS (From (w.heap.size + 1 + 1 + 1) wx) wx (.pointer q1) c.policy)
  case first =>
    rcases H1.out.cases with ⟨rfl, e1⟩ | ⟨s, b1, f1, e1, rfl, hb1, cp⟩
    · have E1 := hide e1
      clear e1
      go_wp2
      go_meet
      refine ⟨rfl, none, ⟨?_, ?_, ?_, ?_⟩, by rw [E1.out]; rfl⟩
      · repeat (first | exact Blk.new' _ _ (by simp only [World.size_alloc]) | refine Blk.alloc ?_ _)
      · repeat (first | exact Blk.new' _ _ (by simp only [World.size_alloc]) | refine Blk.alloc ?_ _)
      · repeat (first | exact Blk.new' _ _ (by simp only [World.size_alloc]) | refine Blk.alloc ?_ _)
      · repeat (first | exact Below.refl _ _ | refine below_alloc ?_ _)
    · have E1 := hide e1
      clear e1
      have k0 : b1 < w.heap.size := by omega
      have k1 : b1 < w.heap.size + 1 := by omega
      have k2 : b1 < w.heap.size + 1 + 1 := by omega
      go_wp2
      go_meet
      refine ⟨rfl, some ⟨w.heap.size + 1 + 1 + 1, 0, none⟩, ⟨?_, ?_, ?_, ?_⟩, ?_⟩
      · repeat (first | exact Blk.new' _ _ (by simp only [World.size_alloc]) | refine Blk.alloc ?_ _)
      · repeat (first | exact Blk.new' _ _ (by simp only [World.size_alloc]) | refine Blk.alloc ?_ _)
      · repeat (first | exact Blk.new' _ _ (by simp only [World.size_alloc]) | refine Blk.alloc ?_ _)
      · repeat (first | exact Below.refl _ _ | refine below_alloc ?_ _)
      · rw [E1.out]
        exact ⟨_, _, rfl, ⟨Nat.le_refl _, by simp⟩, by simp [go_sem]⟩
  case rest =>
    obtain ⟨rfl, q1, hst, hq1⟩ := hcut
    obtain ⟨⟨d0, d1, d2, d3⟩, -, -⟩ := hst.cells
    have HST := hide hst
    have HQ1 := hide hq1
    clear hst hq1
    go_upto_if 22 with fail
    clear d0 d1 d2 d3
    go_cut [3] (fun s3 wx => s3 = .pointer (some ⟨w.heap.size + 1 + 1, 0, none⟩) ∧ ∃ q1 v2, CState w (.string nm) (.pointer p1) (.slice ar rs.length capr) (.pointer p3) (.string nm) (.pointer q1) v2 (.pointer none) wx ∧ PtrSS (From (w.heap.size + 1 + 1 + 1) wx) wx (.pointer q1) c.policy ∧ RulesS (From (w.heap.size + 1 + 1 + 1) wx) wx v2 rs)
    case first =>
      cases ar with
      | none =>
        go_wp2
        go_meet
        have hz : rs.length = 0 := by
          by_cases hp : 0 < rs.length
          · obtain ⟨b, o, pv, e, _⟩ := HR.out 0 hp
            cases e
          · omega
        exact ⟨rfl, q1, .slice none 0 0, HST.out, HQ1.out, none, 0, by rw [hz], by omega, Nat.zero_le _, fun i hi => by omega⟩
      | some a =>
        have hmk := run_make_gen (P := Try.prog) 79 102 (.agg #[.string ⟨#[]⟩, .pointer none]) 2 24 Try.underlying79 Try.info102 rs.length (by omega) (by omega)
        obtain ⟨⟨d0, d1, d2, d3⟩, -, -⟩ := HST.out.cells
        go_wp2
        obtain ⟨W1, hW1⟩ : ∃ W1, W1 = wc.alloc (.cells (madeCells #[.string ⟨#[]⟩, .pointer none] (rs.length * 2)) 102) := ⟨_, rfl⟩
        have hb1 : Below wc.heap.size wc W1 := by rw [hW1]; exact below_alloc (Below.refl _ _) _
        have hrow : RowOk rs 0 wc.heap.size W1 := by rw [hW1]; exact RowOk.start _ rfl
        have hrlo : w.heap.size + 1 + 1 < wc.heap.size := HST.out.out.lt
        rw [← hW1]
        have hst1 := HST.out.below hb1
        have hq11 : PtrSS (From (w.heap.size + 1 + 1 + 1) wc) W1 (.pointer q1) c.policy := HQ1.out.keep (Same.of_below hb1 fun k hk => hk.2) (fun k hk => hk)
        clear hW1 hmk d0 d1 d2 d3
        have HB1 := hide hb1
        have HROW := hide hrow
        have HST1 := hide hst1
        have HQ11 := hide hq11
        clear hb1 hrow hst1 hq11
        go_loopw [6] (fun j wi => ∃ k : Nat, k ≤ rs.length ∧ j = .int .i64 k ∧ RowOk rs k wc.heap.size wi ∧ CState w (.string nm) (.pointer p1) (.slice (some a) rs.length capr) (.pointer p3) (.string nm) (.pointer q1) (.slice none 0 0) (.pointer none) wi ∧ PtrSS (From (w.heap.size + 1 + 1 + 1) wc) wi (.pointer q1) c.policy) (fun j _ => rs.length - (intOf j).toNat)
        case atStart => exact ⟨0, Nat.zero_le _, rfl, HROW.out, HST1.out, HQ11.out⟩
        case round =>
          obtain ⟨k, hk, rfl, hrow, hst, hq⟩ := hrel
          obtain ⟨⟨d0, d1, d2, d3⟩, ⟨o0, o1, o2, o3⟩, fo2, fo3⟩ := hst.cells
          have HRW := hide hrow
          have HSW := hide hst
          have HQW := hide hq
          have hwr := hrow.lt
          clear hrow hst hq HROW HST1 HQ11 HB1
          by_cases hlt : k < rs.length
          · obtain ⟨b4, o4, pv, e4, hb4, g0, g1, hpc⟩ := HR.out k hlt
            obtain rfl : a = ⟨b4, o4, none⟩ := by simpa using e4
            clear e4
            have hbw := HSW.out.bel
            have hpc := hpc.keep (hbw.mono hB) (Nat.le_trans hB hbw.size)
            have hb4' : b4 < w.heap.size := by omega
            rw [← hbw.cell (p := ⟨b4, o4 + k * 2, none⟩) hb4'] at g0
            rw [← hbw.cell (p := ⟨b4, o4 + k * 2 + 1, none⟩) hb4'] at g1
            obtain ⟨act, hact⟩ : ∃ act, act = (rs.getD k .zero).action := ⟨_, rfl⟩
            rw [← hact] at g0
            have HAC := hide hact
            obtain ⟨p4, rfl⟩ := hpc.ptr
            have HPC := hide hpc
            clear hact hpc hbw
            go_wp2_with fail
            refine (zzConvRule_any act p4 _ _ _ (Nat.le_refl _) HPC.out (HA.out k hlt)).mono ?_
            rintro e w1 ⟨q5, rfl, hq5, hbw1⟩
            have hrow1 := HRW.out.below hbw1
            obtain ⟨⟨x6, hx6⟩, ⟨y6, hy6⟩, hf6, hg6⟩ := hrow1.some hlt
            have hst1 := HSW.out.below hbw1
            have hq1' := HQW.out.keep (Same.of_below hbw1 fun k hk => Nat.lt_trans hk.2 (by omega)) (S' := From (w.heap.size + 1 + 1 + 1) wc) (fun k hk => hk)
            have hq5' : PtrCS (From (wc.heap.size + 1) w1) w1 (.pointer q5) (rs.getD k .zero).codes := hq5.keep (fun _ _ => rfl) (From.mono (by omega) (Nat.le_refl _))
            have HR1 := hide hrow1
            have HS1 := hide hst1
            have HQ1' := hide hq1'
            have HQ5 := hide hq5'
            clear hrow1 hst1 hq1' hq5' hq5 hbw1
            go_wp2
            have hend : RowOk rs (k + 1) wc.heap.size ((w1.setCell ⟨wc.heap.size, k * 2, none⟩ (.string act)).setCell ⟨wc.heap.size, k * 2 + 1, none⟩ (.pointer q5)) ∧
                CState w (.string nm) (.pointer p1) (.slice (some ⟨b4, o4, none⟩) rs.length capr) (.pointer p3) (.string nm) (.pointer q1) (.slice none 0 0) (.pointer none) ((w1.setCell ⟨wc.heap.size, k * 2, none⟩ (.string act)).setCell ⟨wc.heap.size, k * 2 + 1, none⟩ (.pointer q5)) ∧
                PtrSS (From (w.heap.size + 1 + 1 + 1) wc) ((w1.setCell ⟨wc.heap.size, k * 2, none⟩ (.string act)).setCell ⟨wc.heap.size, k * 2 + 1, none⟩ (.pointer q5)) (.pointer q1) c.policy :=
              ⟨HR1.out.step hlt HAC.out HQ5.out, (HS1.out.set hrlo _).set hrlo _, HQ1'.out.keep ((Same.setCell _ fun k hk => Nat.ne_of_lt hk.2).trans (Same.setCell _ fun k hk => Nat.ne_of_lt hk.2)) (fun k hk => hk)⟩
            go_roundw
            case rel => (repeat apply Exists.intro); exact ⟨⟨k + 1, by omega, by go_num, hend⟩, rfl⟩
            case measure => simp [intOf]; omega
          · obtain rfl : k = rs.length := by omega
            go_wp2
            have hrl := (HRW.out.done hsm (lo := w.heap.size + 1 + 1 + 1) (by omega)).keep (Same.setCell (a := ⟨w.heap.size + 1 + 1, 2, none⟩) (.slice (some ⟨wc.heap.size, 0, none⟩) rs.length rs.length) fun k hk => by have := hk.1; show k ≠ w.heap.size + 1 + 1; omega)
              (S' := From (w.heap.size + 1 + 1 + 1) (wr.setCell ⟨w.heap.size + 1 + 1, 2, none⟩ (.slice (some ⟨wc.heap.size, 0, none⟩) rs.length rs.length))) (fun k hk => ⟨hk.1, by simpa using hk.2⟩)
            have hql := HQW.out.keep (Same.setCell (a := ⟨w.heap.size + 1 + 1, 2, none⟩) (.slice (some ⟨wc.heap.size, 0, none⟩) rs.length rs.length) fun k hk => by have := hk.1; show k ≠ w.heap.size + 1 + 1; omega)
              (S' := From (w.heap.size + 1 + 1 + 1) (wr.setCell ⟨w.heap.size + 1 + 1, 2, none⟩ (.slice (some ⟨wc.heap.size, 0, none⟩) rs.length rs.length))) (fun k hk => ⟨hk.1, by have := hk.2; simp; omega⟩)
            go_meet
            exact ⟨rfl, q1, _, HSW.out.out2 _, hql, hrl⟩
    case rest =>
      clear HST HQ1 HR HA
      obtain ⟨rfl, q2, v2, hst, hq2, hr2⟩ := hcut
      obtain ⟨⟨d0, d1, d2, d3⟩, ⟨o0, o1, o2, o3⟩, fo2, fo3⟩ := hst.cells
      obtain ⟨⟨r0, r1, r2, r3⟩, s0, s1, s2, s3⟩ := hst.rcells
      obtain ⟨a2, cap2, rfl⟩ := hr2.slice
      have HST := hide hst
      have HQ2 := hide hq2
      have HR2 := hide hr2
      have hbw := hst.bel
      have h3' := H3.out.keep (hbw.mono hB) (Nat.le_trans hB hbw.size)
      have hl := hst.out.lt
      have hl0 : w.heap.size < wc.heap.size := by omega
      have hl1 : w.heap.size + 1 < wc.heap.size := by omega
      have hl2 : w.heap.size + 1 < wc.heap.size + 1 := by omega
      clear hst hq2 hr2 H3 hbw
      rcases h3'.cases with ⟨rfl, e3⟩ | ⟨b2, f2, n2, e3, rfl, hb2, cq, cn⟩ | ⟨b2, f2, n2, t2, b3, f3, e3, rfl, hb2, cq, cn, hb3, cg⟩
      · have E3 := hide e3
        clear e3 h3'
        go_wp2
        refine bodyPost_ret (v := .agg #[.string nm, .pointer q2, .slice a2 rs.length cap2, .pointer none]) (by simp [results, Try.results22, go_sem, r0, r1, r2, r3]) rfl ⟨_, _, _, _, rfl, ?_⟩
        obtain ⟨f1, f2, f3, f4⟩ := put4_facts HST.out (.string nm) (.pointer q2) (.slice a2 rs.length cap2) (.pointer none)
        show ContS (From w.heap.size (put4 wc (w.heap.size + 1) (.string nm) (.pointer q2) (.slice a2 rs.length cap2) (.pointer none))) (put4 wc (w.heap.size + 1) (.string nm) (.pointer q2) (.slice a2 rs.length cap2) (.pointer none)) _ _ _ _ c ∧ Below w.heap.size w (put4 wc (w.heap.size + 1) (.string nm) (.pointer q2) (.slice a2 rs.length cap2) (.pointer none))
        generalize put4 wc (w.heap.size + 1) (.string nm) (.pointer q2) (.slice a2 rs.length cap2) (.pointer none) = W at *
        refine ⟨⟨by rw [HN.out], HQ2.out.keep f2 (From.mono (by omega) (by omega)), by rw [← HRS.out]; exact HR2.out.keep f2 (From.mono (by omega) (by omega)), by rw [E3.out]; rfl⟩, f3⟩
      · have E3 := hide e3
        clear e3 h3'
        go_wp2
        refine bodyPost_ret (v := .agg #[.string nm, .pointer q2, .slice a2 rs.length cap2, .pointer (some ⟨wc.heap.size, 0, none⟩)]) (by simp [results, Try.results22, go_sem, r0, r1, r2, r3, hl1, hl2]) rfl ⟨_, _, _, _, rfl, ?_⟩
        obtain ⟨f1, f2, f3, f4⟩ := put4_facts (HST.out.out3 (.pointer (some ⟨wc.heap.size, 0, none⟩))) (.string nm) (.pointer q2) (.slice a2 rs.length cap2) (.pointer (some ⟨wc.heap.size, 0, none⟩))
        have f0 : Same (From (w.heap.size + 1 + 1 + 1) wc) wc (wc.setCell ⟨w.heap.size + 1 + 1, 3, none⟩ (.pointer (some ⟨wc.heap.size, 0, none⟩))) := Same.setCell _ fun k hk => by have := hk.1; show k ≠ w.heap.size + 1 + 1; omega
        show ContS (From w.heap.size ((put4 (wc.setCell ⟨w.heap.size + 1 + 1, 3, none⟩ (.pointer (some ⟨wc.heap.size, 0, none⟩))) (w.heap.size + 1) (.string nm) (.pointer q2) (.slice a2 rs.length cap2) (.pointer (some ⟨wc.heap.size, 0, none⟩))).alloc (.cells #[.pointer none, .int .i32 n2] 106))) ((put4 (wc.setCell ⟨w.heap.size + 1 + 1, 3, none⟩ (.pointer (some ⟨wc.heap.size, 0, none⟩))) (w.heap.size + 1) (.string nm) (.pointer q2) (.slice a2 rs.length cap2) (.pointer (some ⟨wc.heap.size, 0, none⟩))).alloc (.cells #[.pointer none, .int .i32 n2] 106)) _ _ _ _ c ∧ Below w.heap.size w ((put4 (wc.setCell ⟨w.heap.size + 1 + 1, 3, none⟩ (.pointer (some ⟨wc.heap.size, 0, none⟩))) (w.heap.size + 1) (.string nm) (.pointer q2) (.slice a2 rs.length cap2) (.pointer (some ⟨wc.heap.size, 0, none⟩))).alloc (.cells #[.pointer none, .int .i32 n2] 106))
        exact end2 HN.out HRS.out E3.out HQ2.out HR2.out f0 f2 f3 f4 (by simp) hl
      · have E3 := hide e3
        clear e3 h3'
        go_wp2
        refine bodyPost_ret (v := .agg #[.string nm, .pointer q2, .slice a2 rs.length cap2, .pointer (some ⟨wc.heap.size, 0, none⟩)]) (by simp [results, Try.results22, go_sem, r0, r1, r2, r3, hl1, hl2]) rfl ⟨_, _, _, _, rfl, ?_⟩
        obtain ⟨f1, f2, f3, f4⟩ := put4_facts (HST.out.out3 (.pointer (some ⟨wc.heap.size, 0, none⟩))) (.string nm) (.pointer q2) (.slice a2 rs.length cap2) (.pointer (some ⟨wc.heap.size, 0, none⟩))
        have f0 : Same (From (w.heap.size + 1 + 1 + 1) wc) wc (wc.setCell ⟨w.heap.size + 1 + 1, 3, none⟩ (.pointer (some ⟨wc.heap.size, 0, none⟩))) := Same.setCell _ fun k hk => by have := hk.1; show k ≠ w.heap.size + 1 + 1; omega
        exact end3 HN.out HRS.out E3.out HQ2.out HR2.out f0 f2 f3 f4 (by simp) hl
end Go.Proofs.Qxb6612257a
