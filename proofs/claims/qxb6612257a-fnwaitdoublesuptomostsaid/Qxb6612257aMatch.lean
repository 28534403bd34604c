import Derived.Test.Qxb6612257aAlone
namespace Go.Proofs.Qxb6612257a
open Go.RowKit
set_option linter.unusedVariables false
set_option linter.unusedSimpArgs false

theorem listed_hit {xs : List Int} {k : Nat} (h : k < xs.length) (h1 : xs.getD k 0 = 1) : listed xs = true := by
  unfold listed
  rw [List.any_eq_true]
  have : xs.getD k 0 = xs[k] := by simp [List.getD, h]
  exact ⟨xs[k], List.getElem_mem h, by rw [← this, h1]; rfl⟩

set_option maxHeartbeats 400000 in
theorem sidecar_any (c : Cont) (b o : Nat) (p1 : Option Addr) (B : Nat) (w : World) (hp : w.cell? ⟨b, o + 1, none⟩ = some (.pointer p1)) (h1 : PtrS B w (.pointer p1) c.policy) :
    Calls Try.prog 33 #[.pointer (some ⟨b, o, none⟩)] w fun e w' => e = .returned (.bool (match c.policy with | some s => s.toList == [65, 108, 119, 97, 121, 115] | none => false)) ∧ w' = w := by
  rcases h1.cases with ⟨rfl, e1⟩ | ⟨s, b1, f1, e1, rfl, hb1, cp⟩
  · rw [e1]
    clear h1 e1
    go_enter Try.func33, Try.ntmps33
    go_wp2
    go_ret
    exact ⟨rfl, rfl⟩
  · rw [e1]
    clear h1 e1
    go_enter Try.func33, Try.ntmps33
    go_wp2
    go_ret
    exact ⟨rfl, rfl⟩

set_option maxHeartbeats 400000 in
theorem policy_any (c : Cont) (s pol : ByteArray) (b o : Nat) (b1 f1 : Nat) (w : World) (hp : w.cell? ⟨b, o + 1, none⟩ = some (.pointer (some ⟨b1, f1, none⟩))) (h1 : w.cell? ⟨b1, f1, none⟩ = some (.string s)) :
    Calls Try.prog 35 #[.pointer (some ⟨b, o, none⟩), .string pol] w fun e w' => e = .returned (.string s) ∧ w' = w := by
  go_enter Try.func35, Try.ntmps35
  go_wp2
  go_ret
  exact ⟨rfl, rfl⟩

set_option maxHeartbeats 1000000 in
theorem matches_any (r : Rule) (q : Option Addr) (B : Nat) (w : World) (hB : B ≤ w.heap.size) (h : PtrC B w (.pointer q) r.codes) :
    Calls Try.prog 40 #[.agg #[.string r.action, .pointer q], .int .i32 1] w (BoolPost (hits r) w) := by
  rcases h.cases with ⟨rfl, e1⟩ | ⟨c, b, f, a, cap, e1, rfl, hb, h0, h1, hl, hm, hc⟩
  · have hv : false = hits r := by simp [hits, e1]
    have HV := hide hv
    clear h e1 hv
    go_enter Try.func40, Try.ntmps40
    go_wp2
    go_ret
    exact BoolPost.mk HV.out (below_alloc (Below.refl _ _) _)
  · have k1 : b < w.heap.size := by omega
    have hv : hits r = if c.op.toList == [73, 110] then listed c.vals else if c.op.toList == [78, 111, 116, 73, 110] then !listed c.vals else false := by simp only [hits, e1]
    have HV := hide hv
    have HC := hide hc
    unfold maxLen at hm
    clear h e1 hc hv
    go_enter Try.func40, Try.ntmps40
    go_wp2
    go_loop [5, 7, 17] (fun l x i => ∃ k : Nat, k ≤ c.vals.length ∧ i = .int .i64 k ∧ l = .bool false ∧ listed (c.vals.take k) = false) (fun _ _ i => c.vals.length - (intOf i).toNat)
    case atStart => exact ⟨0, Nat.zero_le _, rfl, rfl, rfl⟩
    case round =>
      obtain ⟨k, hk, rfl, rfl, hno⟩ := hrel
      have HNO := hide hno
      clear hno
      by_cases hlt : k < c.vals.length
      · obtain ⟨b4, o4, rfl, hb4, g0⟩ := HC.out k hlt
        have k4 : b4 < w.heap.size := by omega
        have hsn := hide (listed_take_succ c.vals k hlt)
        obtain ⟨x, hx⟩ : ∃ x, x = c.vals.getD k 0 := ⟨_, rfl⟩
        rw [← hx] at g0 hsn
        have HX := hide hx
        clear hx
        cases hx : (x == 1) with
        | true =>
          have hli : listed c.vals = true := listed_hit hlt (by rw [← HX.out]; simpa using hx)
          rw [hli] at HV
          clear hli
          cases ho : (c.op.toList == [73, 110]) with
          | true =>
            go_wp2
            go_ret
            exact BoolPost.mk (by rw [HV.out, ho]; rfl) (below_alloc (Below.refl _ _) _)
          | false =>
            cases ho2 : (c.op.toList == [78, 111, 116, 73, 110]) with
            | true =>
              go_wp2
              go_ret
              exact BoolPost.mk (by rw [HV.out, ho, ho2]; rfl) (below_alloc (Below.refl _ _) _)
            | false =>
              go_wp2
              go_ret
              exact BoolPost.mk (by rw [HV.out, ho, ho2]; rfl) (below_alloc (Below.refl _ _) _)
        | false =>
          go_wp2
          go_round
          case rel => exact ⟨k + 1, by omega, by go_num, rfl, by rw [hsn.out, hx, HNO.out]; rfl⟩
          case measure => simp [intOf]; omega
      · have hla := listed_all (xs := c.vals) (k := k) (by omega)
        rw [HNO.out] at hla
        rw [← hla] at HV
        clear hla
        cases ho : (c.op.toList == [73, 110]) with
        | true =>
          go_wp2
          go_ret
          exact BoolPost.mk (by rw [HV.out, ho]; rfl) (below_alloc (Below.refl _ _) _)
        | false =>
          cases ho2 : (c.op.toList == [78, 111, 116, 73, 110]) with
          | true =>
            go_wp2
            go_ret
            exact BoolPost.mk (by rw [HV.out, ho, ho2]; rfl) (below_alloc (Below.refl _ _) _)
          | false =>
            go_wp2
            go_ret
            exact BoolPost.mk (by rw [HV.out, ho, ho2]; rfl) (below_alloc (Below.refl _ _) _)
end Go.Proofs.Qxb6612257a
