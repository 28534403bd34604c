import Derived.Test.Qxb6612257aPod
import Derived.Test.Qxb6612257aLaw
namespace Go.Proofs.Qxb6612257a
open Go.RowKit
set_option linter.unusedVariables false
set_option linter.unusedSimpArgs false
def BoolPost (x : Bool) (w : World) (e : Ending) (w' : World) : Prop := e = .returned (.bool x) ∧ Below w.heap.size w w'
theorem BoolPost.mk {x y : Bool} {w w' : World} (h : y = x) (hb : Below w.heap.size w w') : BoolPost x w (.returned (.bool y)) w' := ⟨by rw [h], hb⟩

set_option maxHeartbeats 400000 in
theorem bar_any (c : Cont) (p1 ar p3 : Option Addr) (n capr : Nat) (B : Nat) (w : World) (hB : B ≤ w.heap.size) (h1 : PtrS B w (.pointer p1) c.policy) (h3 : PtrP B w (.pointer p3) c.probe) :
    Calls Try.prog 17 #[.agg #[.string c.name, .pointer p1, .slice ar n capr, .pointer p3]] w (BoolPost (isBar c) w) := by
  rcases h1.cases with ⟨rfl, e1⟩ | ⟨s, b1, f1, e1, rfl, hb1, cp⟩
  · have hv : false = isBar c := by simp [isBar, e1]
    have HV := hide hv
    clear h1 h3 e1 hv
    go_enter Try.func17, Try.ntmps17
    go_wp2
    go_ret
    exact BoolPost.mk HV.out (below_alloc (Below.refl _ _) _)
  · have k1 : b1 < w.heap.size := by omega
    cases hs : (s.toList == [65, 108, 119, 97, 121, 115]) with
    | false =>
      have hv : false = isBar c := by
        rw [isBar, e1]
        rcases h3.cases with ⟨_, e3⟩ | ⟨b2, f2, n2, e3, _⟩ | ⟨b2, f2, n2, t2, b3, f3, e3, _⟩ <;> simp only [e3, hs, Bool.false_and]
      have HV := hide hv
      clear h1 h3 e1 hv
      go_enter Try.func17, Try.ntmps17
      go_wp2
      go_ret
      exact BoolPost.mk HV.out (below_alloc (Below.refl _ _) _)
    | true =>
      rcases h3.cases with ⟨rfl, e3⟩ | ⟨b2, f2, n2, e3, rfl, hb2, cq, cn⟩ | ⟨b2, f2, n2, t2, b3, f3, e3, rfl, hb2, cq, cn, hb3, cg⟩
      · have hv : false = isBar c := by simp [isBar, e1, e3]
        have HV := hide hv
        clear h1 h3 e1 e3 hv
        go_enter Try.func17, Try.ntmps17
        go_wp2
        go_ret
        exact BoolPost.mk HV.out (below_alloc (Below.refl _ _) _)
      · have k2 : b2 < w.heap.size := by omega
        have hv : false = isBar c := by simp [isBar, e1, e3]
        have HV := hide hv
        clear h1 h3 e1 e3 hv
        go_enter Try.func17, Try.ntmps17
        go_wp2
        go_ret
        exact BoolPost.mk HV.out (below_alloc (Below.refl _ _) _)
      · have k2 : b2 < w.heap.size := by omega
        have k3 : b3 < w.heap.size := by omega
        have hv : (t2.toList == [47, 98, 97, 114, 114, 105, 101, 114, 45, 105, 115, 45, 108, 105, 102, 116, 101, 100]) = isBar c := by simp only [isBar, e1, e3, hs, Bool.true_and]
        have HV := hide hv
        clear h1 h3 e1 e3 hv
        go_enter Try.func17, Try.ntmps17
        go_wp2
        go_ret
        exact BoolPost.mk HV.out (below_alloc (Below.refl _ _) _)

set_option maxHeartbeats 400000 in
theorem hit_any (r : Rule) (q : Option Addr) (B : Nat) (w : World) (hB : B ≤ w.heap.size) (h : PtrC B w (.pointer q) r.codes) :
    Calls Try.prog 18 #[.agg #[.string r.action, .pointer q]] w (BoolPost (hits r) w) := by
  rcases h.cases with ⟨rfl, e1⟩ | ⟨c, b, f, a, cap, e1, rfl, hb, h0, h1, hl, hm, hc⟩
  · have hv : false = hits r := by simp [hits, e1]
    have HV := hide hv
    clear h e1 hv
    go_enter Try.func18, Try.ntmps18
    go_wp2
    go_ret
    exact BoolPost.mk HV.out (below_alloc (Below.refl _ _) _)
  · have k1 : b < w.heap.size := by omega
    have HV := hide e1
    have HC := hide hc
    unfold maxLen at hm
    clear h e1 hc
    go_enter Try.func18, Try.ntmps18
    go_wp2
    go_loop [3, 4] (fun l i => ∃ k : Nat, k ≤ c.vals.length ∧ i = .int .i64 k ∧ l = .bool (listed (c.vals.take k))) (fun _ i => c.vals.length - (intOf i).toNat)
    case atStart => exact ⟨0, Nat.zero_le _, rfl, rfl⟩
    case round =>
      obtain ⟨k, hk, rfl, rfl⟩ := hrel
      by_cases hlt : k < c.vals.length
      · obtain ⟨b4, o4, rfl, hb4, g0⟩ := HC.out k hlt
        have k4 : b4 < w.heap.size := by omega
        have hsn := hide (listed_take_succ c.vals k hlt)
        generalize c.vals.getD k 0 = x at *
        cases hx : (x == 1) with
        | true =>
          go_wp2
          go_round
          case rel => exact ⟨k + 1, by omega, by go_num, by rw [hsn.out, hx]; simp⟩
          case measure => simp [intOf]; omega
        | false =>
          go_wp2
          go_round
          case rel => exact ⟨k + 1, by omega, by go_num, by rw [hsn.out, hx]; simp⟩
          case measure => simp [intOf]; omega
      · have hla := listed_all (xs := c.vals) (k := k) (by omega)
        rw [hla]
        clear hla
        have hv : hits r = if c.op.toList == [73, 110] then listed c.vals else if c.op.toList == [78, 111, 116, 73, 110] then !listed c.vals else false := by simp only [hits, HV.out]
        have HV2 := hide hv
        clear hv HV
        generalize listed c.vals = lv at *
        cases ho : (c.op.toList == [73, 110]) with
        | true =>
          go_wp2
          go_ret
          exact BoolPost.mk (by rw [HV2.out, ho]; rfl) (below_alloc (Below.refl _ _) _)
        | false =>
          cases ho2 : (c.op.toList == [78, 111, 116, 73, 110]) with
          | true =>
            go_wp2
            go_ret
            exact BoolPost.mk (by rw [HV2.out, ho, ho2]; rfl) (below_alloc (Below.refl _ _) _)
          | false =>
            go_wp2
            go_ret
            exact BoolPost.mk (by rw [HV2.out, ho, ho2]; rfl) (below_alloc (Below.refl _ _) _)
end Go.Proofs.Qxb6612257a
