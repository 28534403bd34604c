import Derived.Test.Qxb6612257aConvCs
import Derived.Test.Qxb6612257aTime2
namespace Go.Proofs.Qxb6612257a
open Go.RowKit
set_option linter.unusedVariables false
set_option linter.unusedSimpArgs false

structure SState (w : World) (s : ByteArray) (p1 p2 p3 : Option Addr) (wx : World) : Prop where
  box : Blk wx w.heap.size #[.string s, .pointer p1, .pointer p2, .pointer p3] 59
  res : Blk wx (w.heap.size + 1) #[.string ⟨#[]⟩, .pointer none, .pointer none, .pointer none] 89
  out : ∃ q1 q2 q3, Blk wx (w.heap.size + 1 + 1) #[.string s, .pointer q1, .pointer q2, .pointer q3] 89
  bel : Below w.heap.size w wx
def ConvStatPost (w : World) (e : Ending) (w' : World) : Prop :=
  ∃ s q1 q2 q3, e = .returned (.agg #[.string s, .pointer q1, .pointer q2, .pointer q3]) ∧ Below w.heap.size w w'
theorem PtrRun.ptr {B : Nat} {w : World} {v : Value} (p : PtrRun B w v) : ∃ q, v = .pointer q := by
  rcases p with p | ⟨b, o, n, p, _⟩ <;> exact ⟨_, p⟩
theorem PtrTerm.ptr {B : Nat} {w : World} {v : Value} (p : PtrTerm B w v) : ∃ q, v = .pointer q := by
  rcases p with p | ⟨b, o, c, n, p, _⟩ <;> exact ⟨_, p⟩
theorem PtrB.ptr {B : Nat} {w : World} {v : Value} (p : PtrB B w v) : ∃ q, v = .pointer q := by
  rcases p with p | ⟨b, o, n, p, _⟩ <;> exact ⟨_, p⟩
theorem PtrRun.cases {B : Nat} {w : World} {q : Option Addr} (p : PtrRun B w (.pointer q)) : q = none ∨ ∃ b o n, q = some ⟨b, o, none⟩ ∧ b < B ∧ w.cell? ⟨b, o, none⟩ = some (.int .i64 n) ∧ -9223372036854775808 ≤ n ∧ n ≤ 9223372036854775807 := by
  rcases p with p | ⟨b, o, n, p, h⟩
  · exact .inl (by simpa using p)
  · exact .inr ⟨b, o, n, by simpa using p, h⟩
theorem PtrTerm.cases {B : Nat} {w : World} {q : Option Addr} (p : PtrTerm B w (.pointer q)) : q = none ∨ ∃ b o c n, q = some ⟨b, o, none⟩ ∧ b < B ∧ w.cell? ⟨b, o, none⟩ = some (.int .i32 c) ∧ w.cell? ⟨b, o + 1, none⟩ = some (.int .i64 n) ∧ -9223372036854775808 ≤ n ∧ n ≤ 9223372036854775807 := by
  rcases p with p | ⟨b, o, c, n, p, h⟩
  · exact .inl (by simpa using p)
  · exact .inr ⟨b, o, c, n, by simpa using p, h⟩
theorem PtrB.cases {B : Nat} {w : World} {q : Option Addr} (p : PtrB B w (.pointer q)) : q = none ∨ ∃ b o x, q = some ⟨b, o, none⟩ ∧ b < B ∧ w.cell? ⟨b, o, none⟩ = some (.bool x) := by
  rcases p with p | ⟨b, o, n, p, h⟩
  · exact .inl (by simpa using p)
  · exact .inr ⟨b, o, n, by simpa using p, h⟩
theorem SState.cells {w w1 : World} {s : ByteArray} {p1 p2 p3 : Option Addr} (h : SState w s p1 p2 p3 w1) :
    (w1.cell? ⟨w.heap.size, 0, none⟩ = some (.string s) ∧ w1.cell? ⟨w.heap.size, 1, none⟩ = some (.pointer p1) ∧ w1.cell? ⟨w.heap.size, 2, none⟩ = some (.pointer p2) ∧ w1.cell? ⟨w.heap.size, 3, none⟩ = some (.pointer p3)) ∧
    (∃ q1 q2 q3, w1.cell? ⟨w.heap.size + 1 + 1, 0, none⟩ = some (.string s) ∧ w1.cell? ⟨w.heap.size + 1 + 1, 1, none⟩ = some (.pointer q1) ∧ w1.cell? ⟨w.heap.size + 1 + 1, 2, none⟩ = some (.pointer q2) ∧ w1.cell? ⟨w.heap.size + 1 + 1, 3, none⟩ = some (.pointer q3)) ∧
    (w1.frozen? ⟨w.heap.size + 1 + 1, 1, none⟩ = false ∧ w1.frozen? ⟨w.heap.size + 1 + 1, 2, none⟩ = false ∧ w1.frozen? ⟨w.heap.size + 1 + 1, 3, none⟩ = false) ∧
    (w1.cell? ⟨w.heap.size + 1, 0, none⟩ = some (.string ⟨#[]⟩) ∧ w1.cell? ⟨w.heap.size + 1, 1, none⟩ = some (.pointer none) ∧ w1.cell? ⟨w.heap.size + 1, 2, none⟩ = some (.pointer none) ∧ w1.cell? ⟨w.heap.size + 1, 3, none⟩ = some (.pointer none)) ∧
    (w1.frozen? ⟨w.heap.size + 1, 0, none⟩ = false ∧ w1.frozen? ⟨w.heap.size + 1, 1, none⟩ = false ∧ w1.frozen? ⟨w.heap.size + 1, 2, none⟩ = false ∧ w1.frozen? ⟨w.heap.size + 1, 3, none⟩ = false) := by
  obtain ⟨q1, q2, q3, ho⟩ := h.out
  exact ⟨⟨h.box.cell 0, h.box.cell 1, h.box.cell 2, h.box.cell 3⟩, ⟨q1, q2, q3, ho.cell 0, ho.cell 1, ho.cell 2, ho.cell 3⟩, ⟨ho.frozen 1, ho.frozen 2, ho.frozen 3⟩, ⟨h.res.cell 0, h.res.cell 1, h.res.cell 2, h.res.cell 3⟩, h.res.frozen 0, h.res.frozen 1, h.res.frozen 2, h.res.frozen 3⟩

theorem SState.below {w w1 w2 : World} {s : ByteArray} {p1 p2 p3 : Option Addr} (h : SState w s p1 p2 p3 w1) (hb : Below w1.heap.size w1 w2) : SState w s p1 p2 p3 w2 := by
  obtain ⟨q1, q2, q3, ho⟩ := h.out
  exact ⟨h.box.below hb h.box.lt, h.res.below hb h.res.lt, ⟨q1, q2, q3, ho.below hb ho.lt⟩, h.bel.trans (hb.mono h.bel.size)⟩
theorem SState.set {w w1 : World} {s : ByteArray} {p1 p2 p3 : Option Addr} (h : SState w s p1 p2 p3 w1) {r j : Nat} (hr : w.heap.size + 1 + 1 < r) (v : Value) : SState w s p1 p2 p3 (w1.setCell ⟨r, j, none⟩ v) := by
  obtain ⟨q1, q2, q3, ho⟩ := h.out
  exact ⟨h.box.setOther (by show _ ≠ r; omega) v, h.res.setOther (by show _ ≠ r; omega) v, ⟨q1, q2, q3, ho.setOther (by show _ ≠ r; omega) v⟩, h.bel.setCell (by show _ ≤ r; omega) v⟩
theorem SState.out1 {w w1 : World} {s : ByteArray} {p1 p2 p3 : Option Addr} (h : SState w s p1 p2 p3 w1) (q : Option Addr) : SState w s p1 p2 p3 (w1.setCell ⟨w.heap.size + 1 + 1, 1, none⟩ (.pointer q)) := by
  obtain ⟨q1, q2, q3, ho⟩ := h.out
  exact ⟨h.box.setOther (by show _ ≠ w.heap.size + 1 + 1; omega) _, h.res.setOther (by show _ ≠ w.heap.size + 1 + 1; omega) _, ⟨q, q2, q3, ho.set 1 _⟩, h.bel.setCell (by show _ ≤ w.heap.size + 1 + 1; omega) _⟩
theorem SState.out2 {w w1 : World} {s : ByteArray} {p1 p2 p3 : Option Addr} (h : SState w s p1 p2 p3 w1) (q : Option Addr) : SState w s p1 p2 p3 (w1.setCell ⟨w.heap.size + 1 + 1, 2, none⟩ (.pointer q)) := by
  obtain ⟨q1, q2, q3, ho⟩ := h.out
  exact ⟨h.box.setOther (by show _ ≠ w.heap.size + 1 + 1; omega) _, h.res.setOther (by show _ ≠ w.heap.size + 1 + 1; omega) _, ⟨q1, q, q3, ho.set 2 _⟩, h.bel.setCell (by show _ ≤ w.heap.size + 1 + 1; omega) _⟩
theorem SState.out3 {w w1 : World} {s : ByteArray} {p1 p2 p3 : Option Addr} (h : SState w s p1 p2 p3 w1) (q : Option Addr) : SState w s p1 p2 p3 (w1.setCell ⟨w.heap.size + 1 + 1, 3, none⟩ (.pointer q)) := by
  obtain ⟨q1, q2, q3, ho⟩ := h.out
  exact ⟨h.box.setOther (by show _ ≠ w.heap.size + 1 + 1; omega) _, h.res.setOther (by show _ ≠ w.heap.size + 1 + 1; omega) _, ⟨q1, q2, q, ho.set 3 _⟩, h.bel.setCell (by show _ ≤ w.heap.size + 1 + 1; omega) _⟩
theorem SState.alloc {w w1 : World} {s : ByteArray} {p1 p2 p3 : Option Addr} (h : SState w s p1 p2 p3 w1) (o : Obj) : SState w s p1 p2 p3 (w1.alloc o) := h.below (below_alloc (Below.refl _ _) o)

set_option maxRecDepth 100000 in
set_option maxHeartbeats 1000000 in
theorem zzConvStatus_any (s : ByteArray) (p1 p2 p3 : Option Addr) (B : Nat) (w : World) (hB : B ≤ w.heap.size) (h1 : PtrRun B w (.pointer p1)) (h2 : PtrTerm B w (.pointer p2)) (h3 : PtrB B w (.pointer p3)) :
    Calls Try.prog 23 #[.agg #[.string s, .pointer p1, .pointer p2, .pointer p3]] w (ConvStatPost w) := by
  have H1 := hide h1
  have H2 := hide h2
  have H3 := hide h3
  clear h1 h2 h3
  go_enter Try.func23, Try.ntmps23
  go_upto_if 12 with fail
  obtain ⟨W0, hW0⟩ : ∃ W0, W0 = ((w.alloc (.cells #[.string s, .pointer p1, .pointer p2, .pointer p3] 59)).alloc (.cells #[.string ⟨#[]⟩, .pointer none, .pointer none, .pointer none] 89)).alloc (.cells #[.string s, .pointer none, .pointer none, .pointer none] 89) := ⟨_, rfl⟩
  rw [← hW0]
  have hst : SState w s p1 p2 p3 W0 := by
    rw [hW0]
    refine ⟨?_, ?_, ⟨none, none, none, ?_⟩, ?_⟩
    · repeat (first | exact Blk.new' _ _ (by simp only [World.size_alloc]) | refine Blk.alloc ?_ _)
    · repeat (first | exact Blk.new' _ _ (by simp only [World.size_alloc]) | refine Blk.alloc ?_ _)
    · repeat (first | exact Blk.new' _ _ (by simp only [World.size_alloc]) | refine Blk.alloc ?_ _)
    · repeat (first | exact Below.refl _ _ | refine below_alloc ?_ _)
  clear hW0
  have HST := hide hst
  clear hst
  go_cut [3] (fun s3 wx => s3 = .pointer (some ⟨w.heap.size + 1 + 1, 0, none⟩) ∧ SState w s p1 p2 p3 wx)
  case first =>
    have h1 := H1.out.keep (HST.out.bel.mono hB) (Nat.le_trans hB HST.out.bel.size)
    obtain ⟨⟨d0, d1, d2, d3⟩, ⟨q1, q2, q3, o0, o1, o2, o3⟩, ⟨f1, f2, f3⟩, -, -⟩ := HST.out.cells
    obtain ⟨-, -, ⟨q1', q2', q3', hob⟩, -⟩ := HST.out
    have hl := hob.lt
    have hl0 : w.heap.size < W0.heap.size := by omega
    clear hob q1' q2' q3'
    rcases h1.cases with rfl | ⟨b1, g1, n1, rfl, hb1, cp, hn0, hn1⟩
    · go_wp2
      go_meet
      exact ⟨rfl, HST.out⟩
    · clear h1
      go_wp2_with fail
      refine (timeAt_any n1 _ hn0 hn1).mono ?_
      rintro e w1 ⟨rfl, hb⟩
      have hr : Blk w1 W0.heap.size #[.int .u64 0, .int .i64 0, .pointer none] 110 := (Blk.new _ _ _).below hb (by simp)
      have hs1 := (HST.out.alloc _).below hb
      obtain ⟨⟨d0, d1, d2, d3⟩, ⟨q1, q2, q3, o0, o1, o2, o3⟩, ⟨f1, f2, f3⟩, -, -⟩ := hs1.cells
      have r0 := hr.cell 0
      have r1 := hr.cell 1
      have r2 := hr.cell 2
      have z0 := hr.frozen 0
      have z1 := hr.frozen 1
      have z2 := hr.frozen 2
      simp at r0 r1 r2
      have hl1 := hs1.box.lt
      have HS1 := hide hs1
      clear hs1 hr hb
      unfold tns
      go_wp2
      go_meet
      exact ⟨rfl, (((HS1.out.set hl _).set hl _).set hl _).out1 _⟩
  case rest =>
    clear HST
    obtain ⟨rfl, hst⟩ := hcut
    have HST := hide hst
    obtain ⟨⟨d0, d1, d2, d3⟩, ⟨q1, q2, q3, o0, o1, o2, o3⟩, ⟨f1, f2, f3⟩, -, -⟩ := hst.cells
    clear hst
    go_upto_if 24 with fail
    clear d0 d1 d2 d3 o0 o1 o2 o3 f1 f2 f3
    go_cut [3] (fun s3 wx => s3 = .pointer (some ⟨w.heap.size + 1 + 1, 0, none⟩) ∧ SState w s p1 p2 p3 wx)
    case first =>
      have h2 := H2.out.keep (HST.out.bel.mono hB) (Nat.le_trans hB HST.out.bel.size)
      obtain ⟨⟨d0, d1, d2, d3⟩, ⟨q1, q2, q3, o0, o1, o2, o3⟩, ⟨f1, f2, f3⟩, -, -⟩ := HST.out.cells
      obtain ⟨-, -, ⟨q1', q2', q3', hob⟩, -⟩ := HST.out
      have hl := hob.lt
      have hl0 : w.heap.size < wc.heap.size := by omega
      clear hob q1' q2' q3'
      rcases h2.cases with rfl | ⟨b1, g1, c1, n1, rfl, hb1, cp, cn, hn0, hn1⟩
      · go_wp2
        go_meet
        exact ⟨rfl, HST.out⟩
      · clear h2
        go_wp2_with fail
        refine (timeAt_any n1 _ hn0 hn1).mono ?_
        rintro e w1 ⟨rfl, hb⟩
        have hr : Blk w1 wc.heap.size #[.int .i32 c1, .int .u64 0, .int .i64 0, .pointer none] 114 := (Blk.new _ _ _).below hb (by simp)
        have hs1 := (HST.out.alloc _).below hb
        obtain ⟨⟨d0, d1, d2, d3⟩, ⟨q1, q2, q3, o0, o1, o2, o3⟩, ⟨f1, f2, f3⟩, -, -⟩ := hs1.cells
        have r0 := hr.cell 1
        have r1 := hr.cell 2
        have r2 := hr.cell 3
        have z0 := hr.frozen 1
        have z1 := hr.frozen 2
        have z2 := hr.frozen 3
        simp at r0 r1 r2
        have HS1 := hide hs1
        clear hs1 hr hb
        unfold tns
        go_wp2
        go_meet
        exact ⟨rfl, (((HS1.out.set hl _).set hl _).set hl _).out2 _⟩
    case rest =>
      clear HST
      obtain ⟨rfl, hst⟩ := hcut
      have h3 := H3.out.keep (hst.bel.mono hB) (Nat.le_trans hB hst.bel.size)
      have HST := hide hst
      obtain ⟨⟨d0, d1, d2, d3⟩, ⟨q1, q2, q3, o0, o1, o2, o3⟩, ⟨f1, f2, f3⟩, ⟨r0, r1, r2, r3⟩, z0, z1, z2, z3⟩ := hst.cells
      obtain ⟨-, -, ⟨q1', q2', q3', hob⟩, -⟩ := hst
      have hl := hob.lt
      have hl0 : w.heap.size < wc.heap.size := by omega
      have hl1 : w.heap.size + 1 < wc.heap.size := by omega
      clear hob q1' q2' q3'
      have hle : w.heap.size ≤ w.heap.size + 1 := by omega
      rcases h3.cases with rfl | ⟨b1, g1, x1, rfl, hb1, cp⟩
      · clear h3
        go_wp2
        refine bodyPost_ret (v := .agg #[.string s, .pointer q1, .pointer q2, .pointer q3]) (by simp [results, Try.results23, go_sem, r0, r1, r2, r3]) rfl ⟨_, _, _, _, rfl, ?_⟩
        exact (((HST.out.bel.setCell (p := ⟨_, _, _⟩) hle _).setCell (p := ⟨_, _, _⟩) hle _).setCell (p := ⟨_, _, _⟩) hle _).setCell (p := ⟨_, _, _⟩) hle _
      · clear h3
        go_wp2
        refine bodyPost_ret (v := .agg #[.string s, .pointer q1, .pointer q2, .pointer (some ⟨wc.heap.size, 0, none⟩)]) (by simp [results, Try.results23, go_sem, r0, r1, r2, r3, hl1]) rfl ⟨_, _, _, _, rfl, ?_⟩
        exact below_alloc (((((HST.out.bel.setCell (p := ⟨_, _, _⟩) (by show _ ≤ w.heap.size + 1 + 1; omega) _).setCell (p := ⟨_, _, _⟩) hle _).setCell (p := ⟨_, _, _⟩) hle _).setCell (p := ⟨_, _, _⟩) hle _).setCell (p := ⟨_, _, _⟩) hle _) _

theorem Try.info89 : (Try.prog.info? 89).map (fun i => (i.zero, i.size, i.bytes)) = some (some (.agg #[.string ⟨#[]⟩, .pointer none, .pointer none, .pointer none]), 4, 40) := by kernel_rfl
/-- A row of n statuses. -/
def RowS (n r : Nat) (wi : World) : Prop := ∃ arr, Blk wi r arr 89 ∧ arr.size = n * 4
theorem RowS.lt {n r : Nat} {w : World} (h : RowS n r w) : r < w.heap.size := by
  obtain ⟨arr, hb, _⟩ := h; exact hb.lt
theorem RowS.below {n r : Nat} {w w1 : World} (h : RowS n r w) (hb : Below w.heap.size w w1) : RowS n r w1 := by
  obtain ⟨arr, h1, h2⟩ := h
  exact ⟨arr, h1.below hb h1.lt, h2⟩
theorem RowS.step {n k r : Nat} {w1 : World} {x0 x1 x2 x3 : Value} (h : RowS n r w1) : RowS n r (putAt4 w1 r k x0 x1 x2 x3) := by
  obtain ⟨arr, h1, h2⟩ := h
  exact ⟨_, (((h1.set _ _).set _ _).set _ _).set _ _, by simp [h2]⟩
theorem RowS.some {n r : Nat} {w : World} (h : RowS n r w) {j : Nat} (hj : j < n) : (∃ x, w.cell? ⟨r, j * 4, none⟩ = some x) ∧ (∃ x, w.cell? ⟨r, j * 4 + 1, none⟩ = some x) ∧ (∃ x, w.cell? ⟨r, j * 4 + 2, none⟩ = some x) ∧ (∃ x, w.cell? ⟨r, j * 4 + 3, none⟩ = some x) ∧
    w.frozen? ⟨r, j * 4, none⟩ = false ∧ w.frozen? ⟨r, j * 4 + 1, none⟩ = false ∧ w.frozen? ⟨r, j * 4 + 2, none⟩ = false ∧ w.frozen? ⟨r, j * 4 + 3, none⟩ = false := by
  obtain ⟨arr, h1, h2⟩ := h
  refine ⟨⟨arr[j * 4]'(by omega), ?_⟩, ⟨arr[j * 4 + 1]'(by omega), ?_⟩, ⟨arr[j * 4 + 2]'(by omega), ?_⟩, ⟨arr[j * 4 + 3]'(by omega), ?_⟩, h1.frozen _, h1.frozen _, h1.frozen _, h1.frozen _⟩
  all_goals rw [h1.cell, Array.getElem?_eq_getElem]
def ConvStatsPost (w : World) (e : Ending) (w' : World) : Prop :=
  ∃ a n cap, e = .returned (.slice a n cap) ∧ Below w.heap.size w w'

set_option maxRecDepth 100000 in
set_option maxHeartbeats 1000000 in
theorem zzConvStatuses_any (n : Nat) (v : Value) (B : Nat) (w : World) (hB : B ≤ w.heap.size) (h : IsStats B w v n) (hs : n ≤ 1048576) :
    Calls Try.prog 16 #[v] w (ConvStatsPost w) := by
  obtain ⟨a, cap, rfl, hn, hm, hc⟩ := h
  have HC := hide hc
  clear hc hm
  cases a with
  | none =>
    have hnil := fun (w : World) => Lib.run_eql_slice_nil (P := Try.prog) w 24 59 none n cap 0 0 Try.underlying24
    go_enter Try.func16, Try.ntmps16
    go_wp2
    go_ret
    exact ⟨none, 0, 0, rfl, Below.refl _ _⟩
  | some a =>
    have hmk := run_make_gen (P := Try.prog) 33 89 (.agg #[.string ⟨#[]⟩, .pointer none, .pointer none, .pointer none]) 4 40 Try.underlying33 Try.info89 n (by omega) (by omega)
    have hnil := fun (w : World) => Lib.run_eql_slice_nil (P := Try.prog) w 24 59 (some a) n cap 0 0 Try.underlying24
    go_enter Try.func16, Try.ntmps16
    go_wp2
    clear hmk hnil
    go_loopw [4] (fun i wi => ∃ k : Nat, k ≤ n ∧ i = .int .i64 k ∧ RowS n w.heap.size wi ∧ Below w.heap.size w wi) (fun i _ => n - (intOf i).toNat)
    case atStart => exact ⟨0, Nat.zero_le _, rfl, ⟨_, Blk.new _ _ _, size_madeCells _ _⟩, below_alloc (Below.refl _ _) _⟩
    case round =>
      obtain ⟨k, hk, rfl, hrow, hbel⟩ := hrel
      have HRW := hide hrow
      have hwr := hrow.lt
      clear hrow
      by_cases hlt : k < n
      · obtain ⟨b, o, s, v1, v2, v3, e4, hb, c0, c1, c2, c3, h1, h2, h3⟩ := HC.out k hlt
        obtain rfl : a = ⟨b, o, none⟩ := by simpa using e4
        clear e4
        have hb' : b < w.heap.size := by omega
        have h1 := h1.keep (hbel.mono hB) (Nat.le_trans hB hbel.size)
        have h2 := h2.keep (hbel.mono hB) (Nat.le_trans hB hbel.size)
        have h3 := h3.keep (hbel.mono hB) (Nat.le_trans hB hbel.size)
        rw [← hbel.cell (p := ⟨b, o + k * 4, none⟩) hb'] at c0
        rw [← hbel.cell (p := ⟨b, o + k * 4 + 1, none⟩) hb'] at c1
        rw [← hbel.cell (p := ⟨b, o + k * 4 + 2, none⟩) hb'] at c2
        rw [← hbel.cell (p := ⟨b, o + k * 4 + 3, none⟩) hb'] at c3
        obtain ⟨p1, rfl⟩ := h1.ptr
        obtain ⟨p2, rfl⟩ := h2.ptr
        obtain ⟨p3, rfl⟩ := h3.ptr
        have H1 := hide h1
        have H2 := hide h2
        have H3 := hide h3
        have HBEL := hide hbel
        clear h1 h2 h3 hbel
        go_wp2_with fail
        refine (zzConvStatus_any s p1 p2 p3 _ _ (Nat.le_refl _) H1.out H2.out H3.out).mono ?_
        rintro e w1 ⟨t, q1, q2, q3, rfl, hbw1⟩
        have hrow1 := HRW.out.below hbw1
        obtain ⟨⟨y0, hy0⟩, ⟨y1, hy1⟩, ⟨y2, hy2⟩, ⟨y3, hy3⟩, z0, z1, z2, z3⟩ := hrow1.some hlt
        have hend : RowS n w.heap.size (putAt4 w1 w.heap.size k (.string t) (.pointer q1) (.pointer q2) (.pointer q3)) := hrow1.step
        have hbe := HBEL.out.trans (hbw1.mono HBEL.out.size)
        have hbe' : Below w.heap.size w (putAt4 w1 w.heap.size k (.string t) (.pointer q1) (.pointer q2) (.pointer q3)) :=
          (((hbe.setCell (p := ⟨_, _, _⟩) (Nat.le_refl _) _).setCell (p := ⟨_, _, _⟩) (Nat.le_refl _) _).setCell (p := ⟨_, _, _⟩) (Nat.le_refl _) _).setCell (p := ⟨_, _, _⟩) (Nat.le_refl _) _
        have HEND := hide hend
        have HBE := hide hbe'
        clear hend hbe hbe' hrow1 hbw1
        go_wp2
        go_roundw
        case rel => first | exact ⟨k + 1, by omega, by go_num, HEND.out, HBE.out⟩ | ((repeat apply Exists.intro); exact ⟨⟨k + 1, by omega, by go_num, HEND.out, HBE.out⟩, rfl⟩)
        case measure => simp [intOf]; omega
      · go_wp2
        go_ret
        exact ⟨_, _, _, rfl, hbel⟩
end Go.Proofs.Qxb6612257a
