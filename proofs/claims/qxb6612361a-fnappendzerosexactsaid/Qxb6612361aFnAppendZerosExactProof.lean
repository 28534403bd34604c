/-
  'Rows.FnAppendZerosExactSaid': the walk of the law, laid into the given shell of the proof.
-/
import Derived.Test.Qxb6612361aRows
import Derived.Test.Qxb6612361aRead
import Derived.WalkKit
import Derived.ProofKit
import Derived.OpenShut
import Derived.ShutString
import Derived.ChangeOld
import Derived.Below
namespace Go.Proofs.Qxb6612361a.fnAppendZerosExact
open Go.ChangeShapes Go.WideShapes Go.ChangeAt Go.RowKit
open Go.ChangeMaps (open_string shut_string)
set_option linter.unusedVariables false

theorem own : ownKnob Try.prog.godebug = none := by kernel_rfl
theorem laidOut : laidOutB Try.prog = true := by kernel_rfl

/-- WHAT THE WALK IS TOLD OF A SLICE OF INTEGERS THAT CAME IN: it is nil; or it leads to a row of 'cap' cells, the numbers 'zs' (the first 'len' are its elements, the rest its spare room), each fitting its kind. -/
def IsRow (k : IntKind) (w : World) (a : Option Addr) (len cap : Nat) (zs : List Int) : Prop :=
  (a = none ∧ len = 0 ∧ cap = 0 ∧ zs = []) ∨
  ∃ x, a = some x ∧ len ≤ cap ∧ cap ≤ maxLen ∧ zs.length = cap ∧ (∀ i, i < zs.length → w.cell? (x.add i) = some (.int k (zs.getD i 0))) ∧ ∀ n ∈ zs, (Lit.int k n).wf = true

/-! ### STEP 1: THE WALK: the Go text returns true and writes nothing that was there. -/
set_option maxHeartbeats 4000000 in
theorem exact_big (a0 : Option Addr) (len0 cap0 : Nat) (a1 : Int) (w : World) (h0 : len0 ≤ maxLen) (hbig : 1048576 < len0 ∨ a1 < 0 ∨ 77 < a1) :
    Calls Try.prog 3 #[.slice a0 len0 cap0, .int .i64 a1] w fun e w' => e = .returned (.bool true) ∧ Below w.heap.size w w' := by
  have hB := hide (bound5 a0 len0 cap0 a1 h0 w)
  simp only [maxLen] at h0
  go_enter Try.func3, Try.ntmps3
  go_wp2_with (go_at_call 5; refine hB.out.mono ?_; rintro e w' ⟨rfl | rfl, rfl⟩)
  all_goals first | omega | (go_ret; exact ⟨rfl, Below.refl _ _⟩)

set_option maxHeartbeats 8000000 in
set_option maxRecDepth 100000 in
theorem exact_small (a0 : Option Addr) (n cap0 : Nat) (L : List Int) (m : Nat) (w : World) (hn : n ≤ 1048576) (hm : m ≤ 77) (hL : L.length = n) (hcl : Calls Try.prog 6 #[.slice a0 n cap0] w (Cloned n L w)) :
    Calls Try.prog 3 #[.slice a0 n cap0, .int .i64 (m : Int)] w fun e w' => e = .returned (.bool true) ∧ Below w.heap.size w w' := by
  have hB := hide (bound5 a0 n cap0 m (by simp [maxLen]; omega) w)
  have HCL := hide hcl
  have HL := hide hL
  clear hcl hL
  go_enter Try.func3, Try.ntmps3
  go_wp2_with (first
    | (go_at_call 5; refine hB.out.mono ?_; rintro e wz ⟨rfl | rfl, rfl⟩)
    | (go_at_call 6; refine HCL.out.mono ?_; rintro e W1 ⟨b, rfl, hown1, hbel1⟩; have HO1 := hide hown1; have HB1 := hide hbel1; clear hown1 hbel1)
    | (go_at_call 7; refine (appendZeros_tight HO1.out HB1.out.size (by omega) m hm).mono ?_; rintro e W2 ⟨g, cg, rfl, hown2, hgr2, -⟩; have HO2 := hide hown2; have HO1' := hide (HO1.out.kept hgr2 (by rw [blk_eq]; cases b; exact .inl rfl; exact .inr (by simp [blk, Value.ownBlock]))); have HB2 := hide (HB1.out.grown hgr2 HB1.out.size (by intro k hk; cases hk)); clear hown2 hgr2))
  · go_loopw [6] (fun i wi => ∃ k : Nat, k ≤ n ∧ i = .int .i64 k ∧ Reads W2 wi ∧ Below wz.heap.size wz wi) (fun i _ => n - (intOf i).toNat)
    case atStart => exact ⟨0, Nat.zero_le _, rfl, Reads.refl _, HB2.out⟩
    case round =>
      obtain ⟨k, hk, rfl, hrd, hbel⟩ := hrel
      have HB3 := hide hbel
      have HRD := hide hrd
      clear hbel hrd
      by_cases hlt : k < n
      · obtain ⟨u, hu⟩ : ∃ u, L[k]? = some u := ⟨_, List.getElem?_eq_getElem (by have := HL.out; omega)⟩
        obtain ⟨gb, rfl, hc1⟩ := Own.at HO1'.out (j := k) (u := .int .u8 u) (by simp [hu])
        obtain ⟨gg, rfl, hc2⟩ := Own.at HO2.out (j := k) (u := .int .u8 u) (by rw [List.getElem?_append_left (by simp; have := HL.out; omega)]; simp [hu])
        rw [← HRD.out] at hc1 hc2
        clear hu
        go_wp2
        go_quiet (fail)
        go_wp2
        exact ⟨⟨k + 1, by omega, by simp, HRD.out.drewN _, below_drewN HB3.out _⟩, by simp [intOf]; omega⟩
      · obtain rfl : k = n := by omega
        go_wp2
        go_loopw [7] (fun i wi => ∃ j : Nat, k ≤ j ∧ j ≤ k + m ∧ i = .int .i64 j ∧ Reads W2 wi ∧ Below wz.heap.size wz wi) (fun i _ => k + m - (intOf i).toNat)
        case atStart => exact ⟨k, Nat.le_refl _, by omega, rfl, HRD.out, HB3.out⟩
        case round =>
          obtain ⟨j, hj1, hj2, rfl, hrd, hbel⟩ := hrel
          have HB4 := hide hbel
          have HRD2 := hide hrd
          clear hbel hrd
          by_cases hlt2 : j < k + m
          · obtain ⟨gg, rfl, hc2⟩ := Own.at HO2.out (j := j) (u := .int .u8 48) (by
              have := HL.out
              rw [List.getElem?_append_right (by simp; omega)]
              simp [zs, List.getElem?_replicate]; omega)
            rw [← HRD2.out] at hc2
            go_wp2
            exact ⟨⟨j + 1, by omega, by omega, by simp, HRD2.out, HB4.out⟩, by simp [intOf]; omega⟩
          · have : j = k + m := by omega
            go_wp2
            go_ret
            exact ⟨rfl, HB4.out⟩
  · go_ret
    exact ⟨rfl, Below.refl _ _⟩

theorem walk (a0 : Option Addr) (len0 cap0 : Nat) (z0 : List Int) (a1 : Int) (w : World) (w0 : IsRow .u8 w a0 len0 cap0 z0) (w1 : (Lit.int .i64 a1).wf = true) :
    Calls Try.prog 3 #[.slice a0 len0 cap0, .int .i64 a1] w fun e w' => e = .returned (.bool true) ∧ Below w.heap.size w w' := by
  have h0 : len0 ≤ maxLen := by
    rcases w0 with ⟨-, rfl, -, -⟩ | ⟨_, _, h, h', _⟩
    · exact Nat.zero_le _
    · exact Nat.le_trans h h'
  by_cases hb : 1048576 < len0 ∨ a1 < 0 ∨ 77 < a1
  · exact exact_big a0 len0 cap0 a1 w h0 hb
  · obtain ⟨m, rfl⟩ : ∃ m : Nat, a1 = (m : Int) := ⟨a1.toNat, by omega⟩
    have hL : (z0.take len0).length = len0 := by
      rcases w0 with ⟨-, rfl, -, rfl⟩ | ⟨_, _, h, _, h', _⟩
      · rfl
      · rw [List.length_take]; omega
    exact exact_small a0 len0 cap0 (z0.take len0) m w (by omega) (by omega) hL (clone_any a0 len0 cap0 z0 (by omega) w w0)

/-! ### THE ROW's STEP: WRITTEN OUT: LEAVE IT -/
set_option maxRecDepth 100000 in
theorem lifted (os : Os) (started : os.Started) (H : Type) (enc : TypeId × Value → H) :
    ReturnsInHanded {} Try.checked os 3 .any (Rows.fnAppendZerosExactSpec.pre6 enc Try.prog Try.f3 Rows.fnAppendZerosExactRow.domain false) (Rows.fnAppendZerosExactSpec.post enc Try.prog Try.f3 false true false false) := by
  refine returnsInHanded_of_change (C := Try.checked) own started (by kernel_rfl) Try.func3
    (ChangeSpec.witness6 (enc := enc) (C := Try.checked) false ⟨#[], #[.slice none 0 0, .int .i64 0], []⟩ 8 (by kernel_rfl) (by kernel_rfl) (by kernel_rfl) (by kernel_rfl)) ?_
  intro W base args ds gs before hval0 hW hcnd _
  have hval : ∀ (j : Nat) t v, Try.f3.params[j]? = some t → args[j]? = some v → Value.okWide Try.prog W .any base t v := hval0
  have hW' := hW
  obtain ⟨p, q, hA0, hV, rfl, hfz, hnd⟩ := hW
  have hA : DataW.TrodAll enc Try.prog W 0 (fun _ => true) true Try.f3.params.toList args.toList ds p := hA0
  rw [Try.params3] at hA hval
  obtain ⟨v0, vs0, d0, ds0, p0, q0, hargs, rfl, rfl, h0, r0⟩ := trodAll_cons hA
  obtain ⟨v1, vs1, d1, ds1, p1, q1, rfl, rfl, rfl, h1, r1⟩ := trodAll_cons r0
  obtain ⟨rfl, rfl, rfl⟩ := trodAll_nil r1
  obtain rfl : args = #[v0, v1] := by cases args; simp_all
  obtain ⟨rfl, rfl⟩ := trodVars_none hV
  obtain ⟨a0, len0, cap0, rfl⟩ := okWide_slice Try.underlying22 (hval 0 22 v0 rfl rfl)
  have k0 := h0
  have lt0 : ∀ x ∈ p0, x.block < W.heap.size := by obtain ⟨m, hm⟩ := k0; exact DataW.trod_lt m _ _ _ hm
  obtain ⟨z0, w0⟩ : ∃ zs, IsRow .u8 W a0 len0 cap0 zs := by
    obtain ⟨fuel, hf⟩ := h0
    rcases open_ints Try.underlying22 Try.underlying5 (by kernel_rfl) hf with ⟨hcs, _⟩ | ⟨x, l, c, zs, hcs, _, hl, hm, hz, _, hcell, hwz⟩
    · simp [Value.cells] at hcs
      obtain ⟨rfl, rfl, rfl⟩ := hcs
      exact ⟨[], .inl ⟨rfl, rfl, rfl, rfl⟩⟩
    · simp [Value.cells] at hcs
      obtain ⟨rfl, rfl, rfl⟩ := hcs
      exact ⟨zs, .inr ⟨_, rfl, hl, hm, by simpa using hz, hcell, hwz⟩⟩
  obtain ⟨a1, rfl, rfl, rfl, w1⟩ := open_int Try.underlying3 (hval 1 3 v1 rfl rfl) h1
  clear hA0 hval0
  refine (walk a0 len0 cap0 z0 a1 W w0 w1).mono fun e W' ⟨he, bel⟩ => ?_
  subst he
  exact ⟨_, rfl, _, _, _, [], _, [], hW', trodAll_mk1 (shut_bool Try.underlying4 _), (trodAll_cons_mk (Below.trod laidOut (by kernel_rfl) (of_decide_eq_true (by kernel_rfl)) k0 bel lt0) (trodAll_cons_mk (shut_int Try.underlying3 w1) trodAll_mk0)), rfl, bel.frame _, fun h => by cases h⟩

theorem over : Rows.fnAppendZerosExactRow.holds Try.pinned (OpenSpec.ofChange Rows.fnAppendZerosExactSpec) :=
  OpenClaim.holds_of_wide 3 Try.f3 rfl rfl rfl rfl rfl rfl rfl ⟨rfl, rfl, rfl, rfl, rfl⟩ rfl rfl rfl rfl rfl (by kernel_rfl) Try.func3 (by kernel_rfl)
    (of_decide_eq_true (by kernel_rfl)) (by unfold Func.isWrapper; first | (rw [if_pos (by decide +kernel)]; kernel_rfl) | (rw [if_neg (by decide +kernel)]; exact ⟨rfl, rfl⟩))
    (fun os started H enc _ => lifted os started H enc)

/-- ████ THE STATEMENT ████ -/
theorem proved : Rows.FnAppendZerosExactSaid := over
#print axioms proved
end Go.Proofs.Qxb6612361a.fnAppendZerosExact
