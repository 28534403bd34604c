import Derived.Test.Qxb6612257aConvC
import Derived.Test.Qxb6612257aSmall
namespace Go.Proofs.Qxb6612257a
open Go.RowKit
set_option linter.unusedVariables false
set_option linter.unusedSimpArgs false

theorem Try.info82 : (Try.prog.info? 82).map (fun i => (i.zero, i.size, i.bytes)) = some (some (.agg #[.string ⟨#[]⟩, .pointer none, .slice none 0 0, .pointer none]), 4, 56) := by kernel_rfl

def RowC (cs : List Cont) (k : Nat) (r : Nat) (wi : World) : Prop :=
  ∃ arr, Blk wi r arr 82 ∧ arr.size = cs.length * 4 ∧ ∀ j, j < k → ∃ v0 v1 v2 v3, arr[j * 4]? = some v0 ∧ arr[j * 4 + 1]? = some v1 ∧ arr[j * 4 + 2]? = some v2 ∧ arr[j * 4 + 3]? = some v3 ∧ ContS (From (r + 1) wi) wi v0 v1 v2 v3 (cs.getD j .zero)
theorem RowC.start {cs : List Cont} {r : Nat} {w : World} (z : Array Value) (hr : r = w.heap.size) : RowC cs 0 r (w.alloc (.cells (madeCells z (cs.length * 4)) 82)) :=
  ⟨_, Blk.new' _ _ hr, size_madeCells _ _, fun j hj => absurd hj (Nat.not_lt_zero _)⟩
theorem RowC.lt {rs : List Cont} {k r : Nat} {w : World} (h : RowC rs k r w) : r < w.heap.size := by
  obtain ⟨arr, hb, _⟩ := h; exact hb.lt
theorem RowC.below {rs : List Cont} {k r : Nat} {w w1 : World} (h : RowC rs k r w) (hb : Below w.heap.size w w1) : RowC rs k r w1 := by
  obtain ⟨arr, h1, h2, h3⟩ := h
  refine ⟨arr, h1.below hb h1.lt, h2, fun j hj => ?_⟩
  obtain ⟨v0, v1, v2, v3, e0, e1, e2, e3, e4⟩ := h3 j hj
  exact ⟨v0, v1, v2, v3, e0, e1, e2, e3, e4.keep (Same.of_below hb fun k hk => hk.2) (From.mono (Nat.le_refl _) hb.size)⟩
def putAt4 (w : World) (r k : Nat) (x0 x1 x2 x3 : Value) : World := (((w.setCell ⟨r, k * 4, none⟩ x0).setCell ⟨r, k * 4 + 1, none⟩ x1).setCell ⟨r, k * 4 + 2, none⟩ x2).setCell ⟨r, k * 4 + 3, none⟩ x3
theorem RowC.step {rs : List Cont} {k r : Nat} {w1 : World} {x0 x1 x2 x3 : Value} (h : RowC rs k r w1) (hk : k < rs.length)
    (hq : ContS (From (r + 1) w1) w1 x0 x1 x2 x3 (rs.getD k .zero)) : RowC rs (k + 1) r (putAt4 w1 r k x0 x1 x2 x3) := by
  obtain ⟨arr, h1, h2, h3⟩ := h
  have hne : ∀ b, From (r + 1) w1 b → b ≠ r := fun b hb => by have := hb.1; omega
  have hsame : Same (From (r + 1) w1) w1 (putAt4 w1 r k x0 x1 x2 x3) :=
    (((Same.setCell _ hne).trans (Same.setCell _ hne)).trans (Same.setCell _ hne)).trans (Same.setCell _ hne)
  have hS : ∀ b, From (r + 1) w1 b → From (r + 1) (putAt4 w1 r k x0 x1 x2 x3) b := fun b hb => ⟨hb.1, by simpa [putAt4] using hb.2⟩
  refine ⟨_, (((h1.set _ _).set _ _).set _ _).set _ _, by simp [h2], fun j hj => ?_⟩
  by_cases e : j = k
  · subst e
    refine ⟨x0, x1, x2, x3, ?_, ?_, ?_, ?_, hq.keep hsame hS⟩
    · rw [Array.getElem?_setIfInBounds_ne (by omega), Array.getElem?_setIfInBounds_ne (by omega), Array.getElem?_setIfInBounds_ne (by omega), Array.getElem?_setIfInBounds_self_of_lt (by omega)]
    · rw [Array.getElem?_setIfInBounds_ne (by omega), Array.getElem?_setIfInBounds_ne (by omega), Array.getElem?_setIfInBounds_self_of_lt (by simp; omega)]
    · rw [Array.getElem?_setIfInBounds_ne (by omega), Array.getElem?_setIfInBounds_self_of_lt (by simp; omega)]
    · rw [Array.getElem?_setIfInBounds_self_of_lt (by simp; omega)]
  · obtain ⟨v0, v1, v2, v3, e0, e1, e2, e3, e4⟩ := h3 j (by omega)
    refine ⟨v0, v1, v2, v3, ?_, ?_, ?_, ?_, e4.keep hsame hS⟩
    all_goals
      rw [Array.getElem?_setIfInBounds_ne (by omega), Array.getElem?_setIfInBounds_ne (by omega), Array.getElem?_setIfInBounds_ne (by omega), Array.getElem?_setIfInBounds_ne (by omega)]
      assumption
theorem RowC.done {rs : List Cont} {r lo : Nat} {w : World} (h : RowC rs rs.length r w) (hm : rs.length ≤ 1048576) (hr : lo ≤ r) : ContsS (From lo w) w (.slice (some ⟨r, 0, none⟩) rs.length rs.length) rs := by
  obtain ⟨arr, h1, h2, h3⟩ := h
  refine ⟨_, _, rfl, Nat.le_refl _, by unfold maxLen; omega, fun i hi => ?_⟩
  obtain ⟨v0, v1, v2, v3, e0, e1, e2, e3, e4⟩ := h3 i hi
  refine ⟨r, 0, v0, v1, v2, v3, rfl, ⟨hr, h1.lt⟩, ?_, ?_, ?_, ?_, e4.keep (fun _ _ => rfl) (From.mono (by omega) (Nat.le_refl _))⟩
  all_goals
    rw [h1.cell, Nat.zero_add]
    assumption
theorem RowC.some {rs : List Cont} {k r : Nat} {w : World} (h : RowC rs k r w) {j : Nat} (hj : j < rs.length) : (∃ x, w.cell? ⟨r, j * 4, none⟩ = some x) ∧ (∃ x, w.cell? ⟨r, j * 4 + 1, none⟩ = some x) ∧ (∃ x, w.cell? ⟨r, j * 4 + 2, none⟩ = some x) ∧ (∃ x, w.cell? ⟨r, j * 4 + 3, none⟩ = some x) ∧
    w.frozen? ⟨r, j * 4, none⟩ = false ∧ w.frozen? ⟨r, j * 4 + 1, none⟩ = false ∧ w.frozen? ⟨r, j * 4 + 2, none⟩ = false ∧ w.frozen? ⟨r, j * 4 + 3, none⟩ = false := by
  obtain ⟨arr, h1, h2, h3⟩ := h
  refine ⟨⟨arr[j * 4]'(by omega), ?_⟩, ⟨arr[j * 4 + 1]'(by omega), ?_⟩, ⟨arr[j * 4 + 2]'(by omega), ?_⟩, ⟨arr[j * 4 + 3]'(by omega), ?_⟩, h1.frozen _, h1.frozen _, h1.frozen _, h1.frozen _⟩
  all_goals rw [h1.cell, Array.getElem?_eq_getElem]
theorem PtrSS.ptr {S : Nat → Prop} {w : World} {v : Value} {o : Option ByteArray} (p : PtrSS S w v o) : ∃ q, v = .pointer q := by
  cases o with
  | none => exact ⟨_, p⟩
  | some s => obtain ⟨b, f, h1, h2, h3⟩ := p; exact ⟨_, h1⟩
theorem PtrPS.ptr {S : Nat → Prop} {w : World} {v : Value} {o : Option (Option ByteArray)} (p : PtrPS S w v o) : ∃ q, v = .pointer q := by
  cases o with
  | none => exact ⟨_, p⟩
  | some s => obtain ⟨b, f, gv, n, h1, _⟩ := p; exact ⟨_, h1⟩

def ConvContsPost (cs : List Cont) (w : World) (e : Ending) (w' : World) : Prop :=
  ∃ v, e = .returned v ∧ ContsS (From w.heap.size w') w' v cs ∧ Below w.heap.size w w'

set_option maxRecDepth 100000 in
set_option maxHeartbeats 1000000 in
theorem zzConvContainers_any (cs : List Cont) (v : Value) (B : Nat) (w : World) (hB : B ≤ w.heap.size) (h : IsConts B w v cs) (hs : SmallCs cs) :
    Calls Try.prog 15 #[v] w (ConvContsPost cs w) := by
  obtain ⟨a, cap, rfl, hn, hm, hc⟩ := h
  obtain ⟨hsl, hsc⟩ := hs
  have HC := hide hc
  have HSC := hide hsc
  clear hc hsc hm
  cases a with
  | none =>
    have hz : cs.length = 0 := by
      by_cases hp : 0 < cs.length
      · obtain ⟨b, o, _, _, _, _, e, _⟩ := HC.out 0 hp
        cases e
      · omega
    have HZ := hide hz
    clear hz
    have hnil := fun (w : World) => Lib.run_eql_slice_nil (P := Try.prog) w 23 43 none cs.length cap 0 0 Try.underlying23
    go_enter Try.func15, Try.ntmps15
    go_wp2
    go_ret
    have hz := HZ.out
    exact ⟨.slice none 0 0, rfl, ⟨none, 0, by rw [hz], by omega, Nat.zero_le _, fun i hi => by omega⟩, Below.refl _ _⟩
  | some a =>
    have hmk := run_make_gen (P := Try.prog) 29 82 (.agg #[.string ⟨#[]⟩, .pointer none, .slice none 0 0, .pointer none]) 4 56 Try.underlying29 Try.info82 cs.length (by omega) (by omega)
    have hnil := fun (w : World) => Lib.run_eql_slice_nil (P := Try.prog) w 23 43 (some a) cs.length cap 0 0 Try.underlying23
    go_enter Try.func15, Try.ntmps15
    go_wp2
    clear hmk hnil
    go_loopw [4] (fun i wi => ∃ k : Nat, k ≤ cs.length ∧ i = .int .i64 k ∧ RowC cs k w.heap.size wi ∧ Below w.heap.size w wi) (fun i _ => cs.length - (intOf i).toNat)
    case atStart => exact ⟨0, Nat.zero_le _, rfl, RowC.start _ rfl, below_alloc (Below.refl _ _) _⟩
    case round =>
      obtain ⟨k, hk, rfl, hrow, hbel⟩ := hrel
      have HRW := hide hrow
      have hwr := hrow.lt
      clear hrow
      by_cases hlt : k < cs.length
      · obtain ⟨b, o, v0, v1, v2, v3, e4, hb, c0, c1, c2, c3, hcont⟩ := HC.out k hlt
        obtain rfl : a = ⟨b, o, none⟩ := by simpa using e4
        clear e4
        have hb' : b < w.heap.size := by omega
        obtain ⟨rfl, hp, hr, hq⟩ := hcont.keep (hbel.mono hB) (Nat.le_trans hB hbel.size)
        rw [← hbel.cell (p := ⟨b, o + k * 4, none⟩) hb'] at c0
        rw [← hbel.cell (p := ⟨b, o + k * 4 + 1, none⟩) hb'] at c1
        rw [← hbel.cell (p := ⟨b, o + k * 4 + 2, none⟩) hb'] at c2
        rw [← hbel.cell (p := ⟨b, o + k * 4 + 3, none⟩) hb'] at c3
        obtain ⟨ar, capr, rfl, hnr, hmr, hcr⟩ := hr
        obtain ⟨p3, rfl⟩ := hq.ptr
        obtain ⟨p1, rfl⟩ := hp.ptr
        obtain ⟨co, hco⟩ : ∃ co, co = cs.getD k .zero := ⟨_, rfl⟩
        rw [← hco] at hcr hq hp c0 c2 hnr
        obtain ⟨hs1, hs2⟩ := HSC.out k hlt
        rw [← hco] at hs1 hs2
        have HCO := hide hco
        have HP := hide hp
        have HCR := hide hcr
        have HQ := hide hq
        have HS2 := hide hs2
        have HBEL := hide hbel
        clear hco hcont hp hcr hq hs2 hbel
        go_wp2_with fail
        refine (zzConvContainer_any co p1 ar capr p3 _ _ (Nat.le_refl _) HP.out hnr hs1 HS2.out HCR.out HQ.out).mono ?_
        rintro e w1 ⟨x0, x1, x2, x3, rfl, hx, hbw1⟩
        have hrow1 := HRW.out.below hbw1
        obtain ⟨⟨y0, hy0⟩, ⟨y1, hy1⟩, ⟨y2, hy2⟩, ⟨y3, hy3⟩, z0, z1, z2, z3⟩ := hrow1.some hlt
        have hx' : ContS (From (w.heap.size + 1) w1) w1 x0 x1 x2 x3 (cs.getD k .zero) := by rw [← HCO.out]; exact hx.keep (fun _ _ => rfl) (From.mono (by omega) (Nat.le_refl _))
        obtain ⟨a2, cap2, rfl⟩ := hx.2.2.1.slice
        obtain ⟨q1, rfl⟩ := hx.2.1.ptr
        obtain ⟨q3, rfl⟩ := hx.2.2.2.ptr
        obtain rfl := hx.1
        have hend := hrow1.step hlt hx'
        have hbe := HBEL.out.trans (hbw1.mono HBEL.out.size)
        have hbe' : Below w.heap.size w (putAt4 w1 w.heap.size k (.string co.name) (.pointer q1) (.slice a2 co.rules.length cap2) (.pointer q3)) :=
          (((hbe.setCell (p := ⟨_, _, _⟩) (Nat.le_refl _) _).setCell (p := ⟨_, _, _⟩) (Nat.le_refl _) _).setCell (p := ⟨_, _, _⟩) (Nat.le_refl _) _).setCell (p := ⟨_, _, _⟩) (Nat.le_refl _) _
        have HEND := hide hend
        have HBE := hide hbe'
        clear hend hbe hbe' hx hx' hrow1 hbw1
        go_wp2
        go_roundw
        case rel => first | exact ⟨k + 1, by omega, by go_num, HEND.out, HBE.out⟩ | ((repeat apply Exists.intro); exact ⟨⟨k + 1, by omega, by go_num, HEND.out, HBE.out⟩, rfl⟩)
        case measure => simp [intOf]; omega
      · obtain rfl : k = cs.length := by omega
        go_wp2
        go_ret
        exact ⟨_, rfl, HRW.out.done hsl (Nat.le_refl _), hbel⟩
end Go.Proofs.Qxb6612257a
