import Derived.Test.Qxb6612257aRows
import Derived.Test.Qxb6612257aMain
import Derived.Test.Qxb6612257aOpen
import Derived.WalkKit
import Derived.ProofKit
import Derived.OpenShut
import Derived.ShutString
import Derived.ChangeOld
import Derived.Below
namespace Go.Proofs.Qxb6612257a
open Go.ChangeShapes Go.WideShapes Go.ChangeAt Go.RowKit
open Go.ChangeMaps (open_string shut_string)
set_option linter.unusedVariables false

theorem own : ownKnob Try.prog.godebug = none := by kernel_rfl
theorem laidOut : laidOutB Try.prog = true := by kernel_rfl

theorem okWide_array {P : Program} {W : World} {r : Reach} {b0 n : Nat} {t e : TypeId} {v : Value} (hs : P.underlying t = some (.array n e)) (hv : Value.okWide P W r b0 t v) : ∃ cs, v = .agg cs ∧ cs.size = P.cellsOf t := by
  unfold Value.okWide at hv
  rw [hs] at hv
  obtain ⟨cs, h1, h2, _⟩ := hv
  exact ⟨cs, h1, h2⟩

set_option maxRecDepth 100000 in
theorem open_ids {H : Type} {enc : TypeId × Value → H} {W : World} {base b0 : Nat} {spare : Nat → Bool} {held : Bool} {v : Value} {d : DataW H} {p : List MemPlace} (hv : Value.okWide Try.prog W .any b0 22 v) (h : DataW.Trod enc Try.prog W base spare held 22 v d p) :
    ∃ s0 s1 s2 s3, v = .agg #[.string s0, .string s1, .string s2, .string s3] := by
  obtain ⟨cs, rfl, hsz⟩ := okWide_array Try.underlying22 hv
  obtain ⟨fuel, hf⟩ := h
  obtain ⟨xs, m, _, _, hl, hxl, hx⟩ := DataW.trod_array Try.underlying22 hf
  have hsz' : cs.size = 4 := hsz.trans (by kernel_rfl)
  obtain ⟨c0, c1, c2', c3, e⟩ := list4 (cs := cs.toList) (by simpa using hsz')
  have ec : cs = #[c0, c1, c2', c3] := by rw [← Array.toArray_toList (xs := cs), e]
  subst ec
  have rd : ∀ i, i < 4 → ∃ s : ByteArray, [c0, c1, c2', c3][i]? = some (.string s) := by
    intro i hi
    have h1 := hx i hi
    rw [List.getElem?_eq_getElem (by omega), c9] at h1
    obtain ⟨s, e, _, _⟩ := DataW.trod_string Try.underlying9 h1
    refine ⟨s, ?_⟩
    rcases (show i = 0 ∨ i = 1 ∨ i = 2 ∨ i = 3 by omega) with rfl | rfl | rfl | rfl <;> simpa [Value.cells] using e
  obtain ⟨s0, e0⟩ := rd 0 (by decide)
  obtain ⟨s1, e1⟩ := rd 1 (by decide)
  obtain ⟨s2, e2⟩ := rd 2 (by decide)
  obtain ⟨s3, e3⟩ := rd 3 (by decide)
  simp at e0 e1 e2 e3
  subst e0 e1 e2 e3
  exact ⟨s0, s1, s2, s3, rfl⟩

set_option maxRecDepth 100000 in
/-- A slice of containers that came in. -/
theorem open_conts' {H : Type} {enc : TypeId × Value → H} {W : World} {base b0 : Nat} {spare : Nat → Bool} {held : Bool} {v : Value} {d : DataW H} {p : List MemPlace} (hv : Value.okWide Try.prog W .any b0 23 v) (h : DataW.Trod enc Try.prog W base spare held 23 v d p) :
    ∃ cs, IsConts W.heap.size W v cs := by
  obtain ⟨a, len, cap, rfl⟩ := okWide_slice Try.underlying23 hv
  obtain ⟨fuel, hf⟩ := h
  obtain ⟨v', rs, e, hc⟩ := open_conts hf
  simp [Value.cells] at e
  subst e
  exact ⟨rs, hc⟩
set_option maxRecDepth 100000 in
theorem open_stats' {H : Type} {enc : TypeId × Value → H} {W : World} {base b0 : Nat} {spare : Nat → Bool} {held : Bool} {v : Value} {d : DataW H} {p : List MemPlace} (hv : Value.okWide Try.prog W .any b0 24 v) (h : DataW.Trod enc Try.prog W base spare held 24 v d p) :
    ∃ n, IsStats W.heap.size W v n := by
  obtain ⟨a, len, cap, rfl⟩ := okWide_slice Try.underlying24 hv
  obtain ⟨fuel, hf⟩ := h
  obtain ⟨v', n, e, hc⟩ := open_stats hf
  simp [Value.cells] at e
  subst e
  exact ⟨n, hc⟩

set_option maxRecDepth 100000 in
theorem lifted (os : Os) (started : os.Started) (H : Type) (enc : TypeId × Value → H) :
    ReturnsInHanded {} Try.checked os 3 .any (Rows.fnWaitDoublesUpToMostSpec.pre6 enc Try.prog Try.f3 Rows.fnWaitDoublesUpToMostRow.domain false) (Rows.fnWaitDoublesUpToMostSpec.post enc Try.prog Try.f3 false true false false) := by
  refine returnsInHanded_of_change (C := Try.checked) own started (by kernel_rfl) Try.func3
    (ChangeSpec.witness6 (enc := enc) (C := Try.checked) false ⟨#[], #[.int .i64 0, .int .i64 0, .agg #[.string ⟨#[]⟩, .string ⟨#[]⟩, .string ⟨#[]⟩, .string ⟨#[]⟩], .string ⟨#[]⟩, .slice none 0 0, .slice none 0 0, .slice none 0 0, .slice none 0 0, .int .i64 0, .int .i64 0], []⟩ 8 (by kernel_rfl) (by kernel_rfl) (by kernel_rfl) (by kernel_rfl)) ?_
  intro W base args ds gs before hval0 hW hcnd _
  have hval : ∀ (j : Nat) t v, Try.f3.params[j]? = some t → args[j]? = some v → Value.okWide Try.prog W .any base t v := hval0
  have hW' := hW
  obtain ⟨p, q, hA0, hV, rfl, hfz, hnd⟩ := hW
  have hA : DataW.TrodAll enc Try.prog W 0 (fun _ => true) true Try.f3.params.toList args.toList ds p := hA0
  rw [Try.params3] at hA hval
  obtain ⟨v0, vs0, d0, ds0, p0, q0, hargs, rfl, rfl, h0, r0⟩ := trodAll_cons hA
  obtain ⟨v1, vs1, d1, ds1, p1, q1, rfl, rfl, rfl, h1, r1⟩ := trodAll_cons r0
  obtain ⟨v2, vs2, d2, ds2, p2, q2, rfl, rfl, rfl, h2, r2⟩ := trodAll_cons r1
  obtain ⟨v3, vs3, d3, ds3, p3, q3, rfl, rfl, rfl, h3, r3⟩ := trodAll_cons r2
  obtain ⟨v4, vs4, d4, ds4, p4, q4, rfl, rfl, rfl, h4, r4⟩ := trodAll_cons r3
  obtain ⟨v5, vs5, d5, ds5, p5, q5, rfl, rfl, rfl, h5, r5⟩ := trodAll_cons r4
  obtain ⟨v6, vs6, d6, ds6, p6, q6, rfl, rfl, rfl, h6, r6⟩ := trodAll_cons r5
  obtain ⟨v7, vs7, d7, ds7, p7, q7, rfl, rfl, rfl, h7, r7⟩ := trodAll_cons r6
  obtain ⟨v8, vs8, d8, ds8, p8, q8, rfl, rfl, rfl, h8, r8⟩ := trodAll_cons r7
  obtain ⟨v9, vs9, d9, ds9, p9, q9, rfl, rfl, rfl, h9, r9⟩ := trodAll_cons r8
  obtain ⟨rfl, rfl, rfl⟩ := trodAll_nil r9
  obtain rfl : args = #[v0, v1, v2, v3, v4, v5, v6, v7, v8, v9] := by cases args; simp_all
  obtain ⟨rfl, rfl⟩ := trodVars_none hV
  have lt : ∀ {t v d p}, DataW.Trod enc Try.prog W 0 (fun _ => true) true t v d p → ∀ x ∈ p, x.block < W.heap.size := by
    rintro t v d p ⟨m, hm⟩; exact DataW.trod_lt m _ _ _ hm
  obtain ⟨a0, rfl, rfl, rfl, w0⟩ := open_int Try.underlying2 (hval 0 2 v0 rfl rfl) h0
  obtain ⟨a1, rfl, rfl, rfl, w1⟩ := open_int Try.underlying2 (hval 1 2 v1 rfl rfl) h1
  obtain ⟨s0, s1, s2, s3, rfl⟩ := open_ids (hval 2 22 v2 rfl rfl) h2
  obtain ⟨pol, rfl, rfl, rfl, wp⟩ := open_string Try.underlying9 (hval 3 9 v3 rfl rfl) h3
  obtain ⟨c4', i4⟩ := open_conts' (hval 4 23 v4 rfl rfl) h4
  obtain ⟨c5', i5⟩ := open_conts' (hval 5 23 v5 rfl rfl) h5
  obtain ⟨n6, i6⟩ := open_stats' (hval 6 24 v6 rfl rfl) h6
  obtain ⟨n7, i7⟩ := open_stats' (hval 7 24 v7 rfl rfl) h7
  obtain ⟨a8, rfl, rfl, rfl, w8⟩ := open_int Try.underlying2 (hval 8 2 v8 rfl rfl) h8
  obtain ⟨a9, rfl, rfl, rfl, w9⟩ := open_int Try.underlying3 (hval 9 3 v9 rfl rfl) h9
  clear hA0 hval0
  refine (main_any a0 a1 s0 s1 s2 s3 pol v4 v5 v6 v7 c4' c5' n6 n7 a8 a9 W i4 i5 i6 i7).mono fun e W' ⟨he, bel⟩ => ?_
  subst he
  exact ⟨_, rfl, _, _, _, [], _, [], hW', trodAll_mk1 (shut_bool Try.underlying4 _),
    (trodAll_cons_mk (shut_int Try.underlying2 w0) (trodAll_cons_mk (shut_int Try.underlying2 w1)
      (trodAll_cons_mk (Below.trod laidOut (by kernel_rfl) (of_decide_eq_true (by kernel_rfl)) h2 bel (lt h2))
      (trodAll_cons_mk (shut_string Try.underlying9 wp)
      (trodAll_cons_mk (Below.trod laidOut (by kernel_rfl) (of_decide_eq_true (by kernel_rfl)) h4 bel (lt h4))
      (trodAll_cons_mk (Below.trod laidOut (by kernel_rfl) (of_decide_eq_true (by kernel_rfl)) h5 bel (lt h5))
      (trodAll_cons_mk (Below.trod laidOut (by kernel_rfl) (of_decide_eq_true (by kernel_rfl)) h6 bel (lt h6))
      (trodAll_cons_mk (Below.trod laidOut (by kernel_rfl) (of_decide_eq_true (by kernel_rfl)) h7 bel (lt h7))
      (trodAll_cons_mk (shut_int Try.underlying2 w8) (trodAll_cons_mk (shut_int Try.underlying3 w9) trodAll_mk0)))))))))), rfl, bel.frame _, fun h => by cases h⟩

theorem over : Rows.fnWaitDoublesUpToMostRow.holds Try.pinned (OpenSpec.ofChange Rows.fnWaitDoublesUpToMostSpec) :=
  OpenClaim.holds_of_wide 3 Try.f3 rfl rfl rfl rfl rfl rfl rfl ⟨rfl, rfl, rfl, rfl, rfl⟩ rfl rfl rfl rfl rfl (by kernel_rfl) Try.func3 (by kernel_rfl)
    (of_decide_eq_true (by kernel_rfl)) (by unfold Func.isWrapper; first | (rw [if_pos (by decide +kernel)]; kernel_rfl) | (rw [if_neg (by decide +kernel)]; exact ⟨rfl, rfl⟩))
    (fun os started H enc _ => lifted os started H enc)

/-- THE STATEMENT. -/
theorem proved : Rows.FnWaitDoublesUpToMostSaid := over
#print axioms proved
end Go.Proofs.Qxb6612257a
