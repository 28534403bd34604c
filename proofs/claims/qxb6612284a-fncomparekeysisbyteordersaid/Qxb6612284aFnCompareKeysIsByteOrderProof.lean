/-
  'Rows.FnCompareKeysIsByteOrderSaid': the walk of the law, laid into the given shell of the proof.
-/
import Derived.Test.Qxb6612284aRows
import Derived.Test.Qxb6612284aBase
import Derived.Test.Qxb6612284aCmp
import Derived.WalkSpells
import Derived.WalkKit
import Derived.ProofKit
import Derived.OpenShut
import Derived.ShutString
import Derived.ChangeOld
import Derived.Below
namespace Go.Proofs.Qxb6612284a.fnCompareKeysIsByteOrder
open Go.ChangeShapes Go.WideShapes Go.ChangeAt Go.RowKit
open Go.ChangeMaps (open_string shut_string)
set_option linter.unusedVariables false

theorem own : ownKnob Try.prog.godebug = none := by kernel_rfl
theorem laidOut : laidOutB Try.prog = true := by kernel_rfl

/-- WHAT THE WALK IS TOLD OF A SLICE OF INTEGERS THAT CAME IN: it is nil; or it leads to a row of 'cap' cells, the numbers 'zs' (the first 'len' are its elements, the rest its spare room), each fitting its kind. -/
def IsRow (k : IntKind) (w : World) (a : Option Addr) (len cap : Nat) (zs : List Int) : Prop :=
  (a = none ∧ len = 0 ∧ cap = 0 ∧ zs = []) ∨
  ∃ x, a = some x ∧ len ≤ cap ∧ cap ≤ maxLen ∧ zs.length = cap ∧ (∀ i, i < zs.length → w.cell? (x.add i) = some (.int k (zs.getD i 0))) ∧ ∀ n ∈ zs, (Lit.int k n).wf = true

/-! ### STEP 1: THE WALK: the Go text returns true and writes nothing that was there. -/
theorem hide {p : Prop} (h : p) : Hid p := h

set_option maxHeartbeats 4000000 in
set_option maxRecDepth 100000 in
theorem walk_big (a0 : ByteArray) (a1 : Option Addr) (len1 cap1 : Nat) (a2 : Bool) (a3 : ByteArray) (a4 : Option Addr) (len4 cap4 : Nat) (a5 : Bool) (w : World) (w0 : a0.size ≤ maxLen) (w1 : len1 ≤ maxLen) (w3 : a3.size ≤ maxLen) (w4 : len4 ≤ maxLen)
    (hbig : 262144 < a0.size ∨ 262144 < len1 ∨ 262144 < a3.size ∨ 262144 < len4) :
    Calls Try.prog 3 #[.string a0, .slice a1 len1 cap1, .bool a2, .string a3, .slice a4 len4 cap4, .bool a5] w fun e w' => e = .returned (.bool true) ∧ Below w.heap.size w w' := by
  have hB := bound5 a0 a3 a1 a4 len1 cap1 len4 cap4 a2 a5 w w0 w3 w1 w4
  simp only [maxLen] at w0 w3 w1 w4
  go_enter Try.func3, Try.ntmps3
  go_wp2_with (go_at_call 5; refine hB.mono ?_; rintro e w' ⟨rfl | rfl, rfl⟩)
  all_goals first | omega | (go_ret; exact ⟨rfl, Below.refl _ _⟩)

set_option maxHeartbeats 8000000 in
set_option maxRecDepth 100000 in
theorem walk_small (a0 : ByteArray) (a1 : Option Addr) (len1 cap1 : Nat) (z1 : List Int) (a2 : Bool) (a3 : ByteArray) (a4 : Option Addr) (len4 cap4 : Nat) (z4 : List Int) (a5 : Bool) (w : World) (w0 : a0.size ≤ 262144) (l1 : len1 ≤ 262144) (w1 : IsRow .u8 w a1 len1 cap1 z1) (w3 : a3.size ≤ 262144) (l4 : len4 ≤ 262144) (w4 : IsRow .u8 w a4 len4 cap4 z4) :
    Calls Try.prog 3 #[.string a0, .slice a1 len1 cap1, .bool a2, .string a3, .slice a4 len4 cap4, .bool a5] w fun e w' => e = .returned (.bool true) ∧ Below w.heap.size w w' := by
  have hneq := fun (w : World) (a : Option Addr) (n c : Nat) => run_neq_slice_nil_any (P := Try.prog) w 22 5 a n c 0 0 Try.underlying22
  have hB := hide (bound5 a0 a3 a1 a4 len1 cap1 len4 cap4 a2 a5 w (by simp [maxLen]; omega) (by simp [maxLen]; omega) (by simp [maxLen]; omega) (by simp [maxLen]; omega))
  have hmk1 := make_bytes len1 (by omega)
  have hmk4 := make_bytes len4 (by omega)
  rcases w1 with ⟨rfl, rfl, rfl, rfl⟩ | ⟨x1, rfl, hl1, hm1, hz1, hc1, -⟩
  · rcases w4 with ⟨rfl, rfl, rfl, rfl⟩ | ⟨x4, rfl, hl4, hm4, hz4, hc4, -⟩
    · have hbel := Below.refl w.heap.size w
      go_enter Try.func3, Try.ntmps3
      go_wp2_with (first | (go_at_call 5; refine hB.out.mono ?_; rintro e _ ⟨rfl | rfl, rfl⟩) | ((first | (go_at_call 6; refine (zz_ok _ _ _ _ _ _ _ _ _ _ _).mono ?_) | (go_at_call 7; refine (zzByteCompare_ok _ _ _ w0 w3).mono ?_)); rintro e w' ⟨rfl, hb⟩; replace hbel := hbel.trans (hb.mono hbel.size)))
      all_goals go_ret
      all_goals exact ⟨rfl, hbel⟩
    · obtain ⟨W1, hcp, hb0⟩ := copy_new x4 len4 cap4 z4 hl4 hz4 w hc4
      clear hc4
      have hbel := Below.refl w.heap.size w
      go_enter Try.func3, Try.ntmps3
      go_wp2_with (first | (go_at_call 5; refine hB.out.mono ?_; rintro e _ ⟨rfl | rfl, rfl⟩) | ((first | (go_at_call 6; refine (zz_ok _ _ _ _ _ _ _ _ _ _ _).mono ?_) | (go_at_call 7; refine (zzByteCompare_ok _ _ _ w0 w3).mono ?_)); rintro e w' ⟨rfl, hb⟩; replace hb0 := hb0.trans (hb.mono hb0.size)))
      all_goals go_ret
      all_goals first | exact ⟨rfl, hb0⟩ | exact ⟨rfl, hbel⟩
  · obtain ⟨W1, hcp1, hb1⟩ := copy_new x1 len1 cap1 z1 hl1 hz1 w hc1
    clear hc1
    rcases w4 with ⟨rfl, rfl, rfl, rfl⟩ | ⟨x4, rfl, hl4, hm4, hz4, hc4, -⟩
    · have hbel := Below.refl w.heap.size w
      go_enter Try.func3, Try.ntmps3
      go_wp2_with (first | (go_at_call 5; refine hB.out.mono ?_; rintro e _ ⟨rfl | rfl, rfl⟩) | ((first | (go_at_call 6; refine (zz_ok _ _ _ _ _ _ _ _ _ _ _).mono ?_) | (go_at_call 7; refine (zzByteCompare_ok _ _ _ w0 w3).mono ?_)); rintro e w' ⟨rfl, hb⟩; replace hb1 := hb1.trans (hb.mono hb1.size)))
      all_goals go_ret
      all_goals first | exact ⟨rfl, hb1⟩ | exact ⟨rfl, hbel⟩
    · obtain ⟨W2, hcp4, hb4⟩ := copy_new x4 len4 cap4 z4 hl4 hz4 W1 (fun i hi => (hb1.cell (World.block_lt_of_cell? w _ (hc4 i hi))).trans (hc4 i hi))
      clear hc4
      replace hb4 := hb1.trans (hb4.mono hb1.size)
      have hbel := Below.refl w.heap.size w
      go_enter Try.func3, Try.ntmps3
      go_wp2_with (first | (go_at_call 5; refine hB.out.mono ?_; rintro e _ ⟨rfl | rfl, rfl⟩) | ((first | (go_at_call 6; refine (zz_ok _ _ _ _ _ _ _ _ _ _ _).mono ?_) | (go_at_call 7; refine (zzByteCompare_ok _ _ _ w0 w3).mono ?_)); rintro e w' ⟨rfl, hb⟩; replace hb4 := hb4.trans (hb.mono hb4.size)))
      all_goals go_ret
      all_goals first | exact ⟨rfl, hb4⟩ | exact ⟨rfl, hbel⟩


theorem walk (a0 : ByteArray) (a1 : Option Addr) (len1 cap1 : Nat) (z1 : List Int) (a2 : Bool) (a3 : ByteArray) (a4 : Option Addr) (len4 cap4 : Nat) (z4 : List Int) (a5 : Bool) (w : World) (w0 : a0.size ≤ maxLen) (w1 : IsRow .u8 w a1 len1 cap1 z1) (w3 : a3.size ≤ maxLen) (w4 : IsRow .u8 w a4 len4 cap4 z4) :
    Calls Try.prog 3 #[.string a0, .slice a1 len1 cap1, .bool a2, .string a3, .slice a4 len4 cap4, .bool a5] w fun e w' => e = .returned (.bool true) ∧ Below w.heap.size w w' := by
  have h1 : len1 ≤ maxLen := by
    rcases w1 with ⟨-, rfl, -, -⟩ | ⟨_, _, h, h', _⟩
    · exact Nat.zero_le _
    · exact Nat.le_trans h h'
  have h4 : len4 ≤ maxLen := by
    rcases w4 with ⟨-, rfl, -, -⟩ | ⟨_, _, h, h', _⟩
    · exact Nat.zero_le _
    · exact Nat.le_trans h h'
  by_cases hb : 262144 < a0.size ∨ 262144 < len1 ∨ 262144 < a3.size ∨ 262144 < len4
  · exact walk_big a0 a1 len1 cap1 a2 a3 a4 len4 cap4 a5 w w0 h1 w3 h4 hb
  · exact walk_small a0 a1 len1 cap1 z1 a2 a3 a4 len4 cap4 z4 a5 w (by omega) (by omega) w1 (by omega) (by omega) w4

/-! ### THE ROW's STEP: WRITTEN OUT: LEAVE IT -/
set_option maxRecDepth 100000 in
theorem lifted (os : Os) (started : os.Started) (H : Type) (enc : TypeId × Value → H) :
    ReturnsInHanded {} Try.checked os 3 .any (Rows.fnCompareKeysIsByteOrderSpec.pre6 enc Try.prog Try.f3 Rows.fnCompareKeysIsByteOrderRow.domain false) (Rows.fnCompareKeysIsByteOrderSpec.post enc Try.prog Try.f3 false true false false) := by
  refine returnsInHanded_of_change (C := Try.checked) own started (by kernel_rfl) Try.func3
    (ChangeSpec.witness6 (enc := enc) (C := Try.checked) false ⟨#[], #[.string ByteArray.empty, .slice none 0 0, .bool false, .string ByteArray.empty, .slice none 0 0, .bool false], []⟩ 8 (by kernel_rfl) (by kernel_rfl) (by kernel_rfl) (by kernel_rfl)) ?_
  intro W base args ds gs before hval0 hW hcnd _
  have hval : ∀ (j : Nat) t v, Try.f3.params[j]? = some t → args[j]? = some v → Value.okWide Try.prog W .any base t v := hval0
  have hW' := hW
  obtain ⟨p, q, hA0, hV, rfl, hfz, hnd⟩ := hW
  have hA : DataW.TrodAll enc Try.prog W 0 (fun _ => true) true Try.f3.params.toList args.toList ds p := hA0
  rw [Try.params3] at hA hval
  obtain ⟨v0, vs0, d0, ds0, p0, q0, hargs, rfl, rfl, h0, r0⟩ := trodAll_cons hA
  obtain ⟨v1, vs1, d1, ds1, p1, q1, rfl, rfl, rfl, h1, r1⟩ := trodAll_cons r0
  obtain ⟨v2, vs2, d2, ds2, p2, q2, rfl, rfl, rfl, h2, r2⟩ := trodAll_cons r1
  obtain ⟨v3, vs3, d3, ds3, p3, q3, rfl, rfl, rfl, h3, r3⟩ := trodAll_cons r2
  obtain ⟨v4, vs4, d4, ds4, p4, q4, rfl, rfl, rfl, h4, r4⟩ := trodAll_cons r3
  obtain ⟨v5, vs5, d5, ds5, p5, q5, rfl, rfl, rfl, h5, r5⟩ := trodAll_cons r4
  obtain ⟨rfl, rfl, rfl⟩ := trodAll_nil r5
  obtain rfl : args = #[v0, v1, v2, v3, v4, v5] := by cases args; simp_all
  obtain ⟨rfl, rfl⟩ := trodVars_none hV
  obtain ⟨a0, rfl, rfl, rfl, w0⟩ := open_string Try.underlying9 (hval 0 9 v0 rfl rfl) h0
  obtain ⟨a1, len1, cap1, rfl⟩ := okWide_slice Try.underlying22 (hval 1 22 v1 rfl rfl)
  have k1 := h1
  have lt1 : ∀ x ∈ p1, x.block < W.heap.size := by obtain ⟨m, hm⟩ := k1; exact DataW.trod_lt m _ _ _ hm
  obtain ⟨z1, w1⟩ : ∃ zs, IsRow .u8 W a1 len1 cap1 zs := by
    obtain ⟨fuel, hf⟩ := h1
    rcases open_ints Try.underlying22 Try.underlying5 (by kernel_rfl) hf with ⟨hcs, _⟩ | ⟨x, l, c, zs, hcs, _, hl, hm, hz, _, hcell, hwz⟩
    · simp [Value.cells] at hcs
      obtain ⟨rfl, rfl, rfl⟩ := hcs
      exact ⟨[], .inl ⟨rfl, rfl, rfl, rfl⟩⟩
    · simp [Value.cells] at hcs
      obtain ⟨rfl, rfl, rfl⟩ := hcs
      exact ⟨zs, .inr ⟨_, rfl, hl, hm, by simpa using hz, hcell, hwz⟩⟩
  obtain ⟨a2, rfl, rfl, rfl⟩ := open_bool Try.underlying4 (hval 2 4 v2 rfl rfl) h2
  obtain ⟨a3, rfl, rfl, rfl, w3⟩ := open_string Try.underlying9 (hval 3 9 v3 rfl rfl) h3
  obtain ⟨a4, len4, cap4, rfl⟩ := okWide_slice Try.underlying22 (hval 4 22 v4 rfl rfl)
  have k4 := h4
  have lt4 : ∀ x ∈ p4, x.block < W.heap.size := by obtain ⟨m, hm⟩ := k4; exact DataW.trod_lt m _ _ _ hm
  obtain ⟨z4, w4⟩ : ∃ zs, IsRow .u8 W a4 len4 cap4 zs := by
    obtain ⟨fuel, hf⟩ := h4
    rcases open_ints Try.underlying22 Try.underlying5 (by kernel_rfl) hf with ⟨hcs, _⟩ | ⟨x, l, c, zs, hcs, _, hl, hm, hz, _, hcell, hwz⟩
    · simp [Value.cells] at hcs
      obtain ⟨rfl, rfl, rfl⟩ := hcs
      exact ⟨[], .inl ⟨rfl, rfl, rfl, rfl⟩⟩
    · simp [Value.cells] at hcs
      obtain ⟨rfl, rfl, rfl⟩ := hcs
      exact ⟨zs, .inr ⟨_, rfl, hl, hm, by simpa using hz, hcell, hwz⟩⟩
  obtain ⟨a5, rfl, rfl, rfl⟩ := open_bool Try.underlying4 (hval 5 4 v5 rfl rfl) h5
  clear hA0 hval0
  refine (walk a0 a1 len1 cap1 z1 a2 a3 a4 len4 cap4 z4 a5 W w0 w1 w3 w4).mono fun e W' ⟨he, bel⟩ => ?_
  subst he
  exact ⟨_, rfl, _, _, _, [], _, [], hW', trodAll_mk1 (shut_bool Try.underlying4 _), (trodAll_cons_mk (shut_string Try.underlying9 w0) (trodAll_cons_mk (Below.trod laidOut (by kernel_rfl) (of_decide_eq_true (by kernel_rfl)) k1 bel lt1) (trodAll_cons_mk (shut_bool Try.underlying4 _) (trodAll_cons_mk (shut_string Try.underlying9 w3) (trodAll_cons_mk (Below.trod laidOut (by kernel_rfl) (of_decide_eq_true (by kernel_rfl)) k4 bel lt4) (trodAll_cons_mk (shut_bool Try.underlying4 _) trodAll_mk0)))))), rfl, bel.frame _, fun h => by cases h⟩

theorem over : Rows.fnCompareKeysIsByteOrderRow.holds Try.pinned (OpenSpec.ofChange Rows.fnCompareKeysIsByteOrderSpec) :=
  OpenClaim.holds_of_wide 3 Try.f3 rfl rfl rfl rfl rfl rfl rfl ⟨rfl, rfl, rfl, rfl, rfl⟩ rfl rfl rfl rfl rfl (by kernel_rfl) Try.func3 (by kernel_rfl)
    (of_decide_eq_true (by kernel_rfl)) (by unfold Func.isWrapper; first | (rw [if_pos (by decide +kernel)]; kernel_rfl) | (rw [if_neg (by decide +kernel)]; exact ⟨rfl, rfl⟩))
    (fun os started H enc _ => lifted os started H enc)

/-- ████ THE STATEMENT ████ -/
theorem proved : Rows.FnCompareKeysIsByteOrderSaid := over
#print axioms proved
end Go.Proofs.Qxb6612284a.fnCompareKeysIsByteOrder
