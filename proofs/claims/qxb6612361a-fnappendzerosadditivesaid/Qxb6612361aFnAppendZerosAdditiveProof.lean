/-
  'Rows.FnAppendZerosAdditiveSaid': the walk of the law, laid into the given shell of the proof.
-/
import Derived.Test.Qxb6612361aRows
import Derived.Test.Qxb6612361aRead
import Derived.WalkKit
import Derived.ProofKit
import Derived.OpenShut
import Derived.ShutString
import Derived.ChangeOld
import Derived.Below
namespace Go.Proofs.Qxb6612361a.fnAppendZerosAdditive
open Go.ChangeShapes Go.WideShapes Go.ChangeAt Go.RowKit
open Go.ChangeMaps (open_string shut_string)
set_option linter.unusedVariables false
set_option linter.unusedSimpArgs false

theorem own : ownKnob Try.prog.godebug = none := by kernel_rfl
theorem laidOut : laidOutB Try.prog = true := by kernel_rfl

/-- WHAT THE WALK IS TOLD OF A SLICE OF INTEGERS THAT CAME IN: it is nil; or it leads to a row of 'cap' cells, the numbers 'zs' (the first 'len' are its elements, the rest its spare room), each fitting its kind. -/
def IsRow (k : IntKind) (w : World) (a : Option Addr) (len cap : Nat) (zs : List Int) : Prop :=
  (a = none ∧ len = 0 ∧ cap = 0 ∧ zs = []) ∨
  ∃ x, a = some x ∧ len ≤ cap ∧ cap ≤ maxLen ∧ zs.length = cap ∧ (∀ i, i < zs.length → w.cell? (x.add i) = some (.int k (zs.getD i 0))) ∧ ∀ n ∈ zs, (Lit.int k n).wf = true

/-! ### STEP 1: THE WALK: the Go text returns true and writes nothing that was there. -/
theorem zs_add (m k : Nat) : zs m ++ zs k = zs (m + k) := by simp [zs, List.replicate_append_replicate]
theorem cells_at (L : List Int) (m j : Nat) (h : j < L.length + m) : ∃ u, (L.map (Value.int .u8) ++ zs m)[j]? = some (.int .u8 u) := by
  by_cases hj : j < L.length
  · exact ⟨L[j], by rw [List.getElem?_append_left (by simpa using hj)]; simp [hj]⟩
  · exact ⟨48, by rw [List.getElem?_append_right (by simp; omega)]; simp [zs, List.getElem?_replicate]; omega⟩

def Second (base : Nat) (b : Option Addr) (n m k : Nat) (X : List Value) (w : World) (e : Ending) (w' : World) : Prop :=
  ∃ g c, e = .returned (.slice g (n + m + k) c) ∧ Own w' base g (n + m + k) c (X ++ zs (m + k)) ∧ Own w' base b n n X ∧ Below base w w'
theorem own_kept_none {W W' : World} {base : Nat} {a : Option Addr} {n c : Nat} {X : List Value} (h : Own W base a n c X) (hg : W.grownBy W' none) : Own W' base a n c X :=
  World.ownsRow.kept h hg (by rw [blk_eq]; cases a; exact .inl rfl; exact .inr (by simp [blk, Value.ownBlock]))
theorem second_ok {W1 W2 : World} {base : Nat} {b g1 : Option Addr} {n m c1 : Nat} {X : List Value} (h1 : Own W1 base b n n X) (h2 : Own W2 base g1 (n + m) c1 (X ++ zs m)) (hg : W1.grownBy W2 none)
    (hx : (m = 0 ∧ g1 = b ∧ c1 = n ∧ W2 = W1) ∨ blk g1 = some W1.heap.size) (hb : base ≤ W1.heap.size) (hn : n ≤ 1048576) (hm : m ≤ 77) (k : Nat) (hk : k ≤ 77) :
    Calls Try.prog 7 #[.slice g1 (n + m) c1, .int .i64 (k : Int)] W2 (Second base b n m k X W2) := by
  rcases hx with ⟨rfl, rfl, rfl, rfl⟩ | hx
  · refine (appendZeros_tight h1 hb (by omega) k hk).mono ?_
    rintro e W3 ⟨g, c, rfl, ho, hgr, -⟩
    refine ⟨g, c, rfl, ?_, own_kept_none h1 hgr, (Below.refl _ _).grown hgr hb (by intro k hk; cases hk)⟩
    simpa using ho
  · have hb2 : base ≤ W2.heap.size := Nat.le_trans hb hg.size
    refine (appendZeros_own h2 hb2 (by omega) k hk).mono ?_
    rintro e W3 ⟨g, c, rfl, ho, hgr⟩
    rw [hx] at hgr
    have hb' : Own W2 base b n n X := own_kept_none h1 hg
    refine ⟨g, c, rfl, by rw [← zs_add, ← List.append_assoc]; exact ho, World.ownsRow.kept hb' hgr ?_, (Below.refl _ _).grown hgr hb2 (by intro j hj; cases hj; exact hb)⟩
    rw [blk_eq]
    have hlt := World.ownsRow.lt h1
    rw [blk_eq] at hlt
    cases hbb : blk b with
    | none => exact .inl rfl
    | some q => exact .inr (fun e => by cases e; have := (hlt _ hbb).2; omega)

def Third (wz : World) (b g : Option Addr) (n m k c : Nat) (X : List Value) (e : Ending) (w' : World) : Prop :=
  ∃ g3 c3, e = .returned (.slice g3 (n + (m + k)) c3) ∧ Own w' wz.heap.size g3 (n + (m + k)) c3 (X ++ zs (m + k)) ∧ Own w' wz.heap.size g (n + m + k) c (X ++ zs (m + k)) ∧ Own w' wz.heap.size b n n X ∧ Below wz.heap.size wz w'
theorem third_ok {wz W3 : World} {b g : Option Addr} {n c : Nat} {X : List Value} {m k : Nat} (hb : Below wz.heap.size wz W3) (hn : n ≤ 1048576)
    (h : Own W3 wz.heap.size g (n + m + k) c (X ++ zs (m + k)) ∧ Own W3 wz.heap.size b n n X) (m' k' : Nat) (hmk : m' + k' ≤ 77) (hm : m' = m := by rfl) (hk : k' = k := by rfl) :
    Calls Try.prog 7 #[.slice b n n, .int .i64 ((m : Int) + (k : Int))] W3 (Third wz b g n m k c X) := by
  subst hm hk
  obtain ⟨h2, h1⟩ := h
  have hc := appendZeros_tight h1 hb.size (by omega) (m' + k') hmk
  rw [Int.natCast_add] at hc
  refine hc.mono ?_
  rintro e W4 ⟨g3, c3, rfl, ho, hgr, -⟩
  exact ⟨g3, c3, rfl, ho, own_kept_none h2 hgr, own_kept_none h1 hgr, hb.grown hgr hb.size (by intro j hj; cases hj)⟩

set_option maxHeartbeats 4000000 in
theorem add_big (a0 : Option Addr) (len0 cap0 : Nat) (a1 a2 : Int) (w : World) (h0 : len0 ≤ maxLen) (h1 : -9223372036854775808 ≤ a1 ∧ a1 ≤ 9223372036854775807) (h2 : -9223372036854775808 ≤ a2 ∧ a2 ≤ 9223372036854775807) (hbig : 1048576 < len0 ∨ a1 < 0 ∨ a2 < 0 ∨ 77 < a1 ∨ 77 < a2 ∨ 77 < a1 + a2) :
    Calls Try.prog 4 #[.slice a0 len0 cap0, .int .i64 a1, .int .i64 a2] w fun e w' => e = .returned (.bool true) ∧ Below w.heap.size w w' := by
  have hB := hide (bound8 a0 len0 cap0 a1 a2 h0 w)
  simp only [maxLen] at h0
  go_enter Try.func4, Try.ntmps4
  go_wp2_with (go_at_call 8; refine hB.out.mono ?_; rintro e w' ⟨rfl | rfl, rfl⟩)
  all_goals first | omega | (go_ret; exact ⟨rfl, Below.refl _ _⟩)

set_option maxHeartbeats 8000000 in
set_option maxRecDepth 100000 in
theorem add_small (a0 : Option Addr) (n cap0 : Nat) (L : List Int) (m k : Nat) (w : World) (hn : n ≤ 1048576) (hmk : m + k ≤ 77) (hL : L.length = n) (hcl : Calls Try.prog 6 #[.slice a0 n cap0] w (Cloned n L w)) :
    Calls Try.prog 4 #[.slice a0 n cap0, .int .i64 (m : Int), .int .i64 (k : Int)] w fun e w' => e = .returned (.bool true) ∧ Below w.heap.size w w' := by
  have hB := hide (bound8 a0 n cap0 m k (by simp [maxLen]; omega) w)
  have HCL := hide hcl
  have HL := hide hL
  have hmi : (m : Int) + (k : Int) ≤ 77 := by omega
  clear hcl hL
  go_enter Try.func4, Try.ntmps4
  go_wp2_with (first
    | (go_at_call 8; refine hB.out.mono ?_; rintro e wz ⟨rfl | rfl, rfl⟩)
    | (go_at_call 6; refine HCL.out.mono ?_; rintro e W1 ⟨b, rfl, hown1, hbel1⟩; have HO1 := hide hown1; have HB1 := hide hbel1; clear hown1 hbel1)
    | (go_at_call 7; refine (third_ok HB3.out hn HO3.out m k hmk).mono ?_; rintro e W4 ⟨g3, c3, rfl, hown4, hownt, hownb, hbel4⟩; have HO4 := hide hown4; have HOT := hide hownt; have HOB := hide hownb; have HB4 := hide hbel4; clear hown4 hownt hownb hbel4)
    | (go_at_call 7; refine (second_ok HO1.out HO2.out HG2.out HX2.out HB1.out.size hn (by omega) k (by omega)).mono ?_; rintro e W3 ⟨g2, c2, rfl, hown3, hownb3, hbel3⟩; have HO3 := hide (And.intro hown3 hownb3); have HB3 := hide ((HB1.out.grown HG2.out HB1.out.size (by intro k hk; cases hk)).trans hbel3); clear hown3 hownb3 hbel3)
    | (go_at_call 7; refine (appendZeros_tight HO1.out HB1.out.size (by omega) m (by omega)).mono ?_; rintro e W2 ⟨g1, c1, rfl, hown2, hgr2, hx2⟩; have HO2 := hide hown2; have HG2 := hide hgr2; have HX2 := hide hx2; clear hown2 hgr2 hx2))
  · go_loopw [10] (fun i wi => ∃ q : Nat, q ≤ n + m + k ∧ i = .int .i64 q ∧ Reads W4 wi ∧ Below wz.heap.size wz wi) (fun i _ => n + m + k - (intOf i).toNat)
    case atStart => exact ⟨0, Nat.zero_le _, rfl, Reads.refl _, HB4.out⟩
    case round =>
      obtain ⟨q, hq, rfl, hrd, hbel⟩ := hrel
      have HB5 := hide hbel
      have HRD := hide hrd
      clear hbel hrd
      by_cases hlt : q < n + m + k
      · obtain ⟨u, hu⟩ := cells_at L (m + k) q (by have := HL.out; omega)
        obtain ⟨gb, rfl, hc1⟩ := Own.at HO4.out hu
        obtain ⟨gg, rfl, hc2⟩ := Own.at HOT.out hu
        rw [← HRD.out] at hc1 hc2
        clear hu
        go_wp2
        go_quiet (fail)
        go_wp2
        exact ⟨⟨q + 1, by omega, by simp, HRD.out.drewN _, below_drewN HB5.out _⟩, by simp [intOf]; omega⟩
      · have hqe : q = n + m + k := by omega
        go_wp2
        go_loopw [11] (fun i wi => ∃ j : Nat, j ≤ n ∧ i = .int .i64 j ∧ Reads W4 wi ∧ Below wz.heap.size wz wi) (fun i _ => n - (intOf i).toNat)
        case atStart => exact ⟨0, Nat.zero_le _, rfl, HRD.out, HB5.out⟩
        case round =>
          obtain ⟨j, hj, rfl, hrd, hbel⟩ := hrel
          have HB6 := hide hbel
          have HRD2 := hide hrd
          clear hbel hrd
          by_cases hlt2 : j < n
          · obtain ⟨u, hu⟩ : ∃ u, L[j]? = some u := ⟨_, List.getElem?_eq_getElem (by have := HL.out; omega)⟩
            obtain ⟨gb, rfl, hc1⟩ := Own.at HOB.out (j := j) (u := .int .u8 u) (by simp [hu])
            obtain ⟨gg, rfl, hc2⟩ := Own.at HO4.out (j := j) (u := .int .u8 u) (by rw [List.getElem?_append_left (by simp; have := HL.out; omega)]; simp [hu])
            rw [← HRD2.out] at hc1 hc2
            clear hu
            go_wp2
            go_quiet (fail)
            go_wp2
            exact ⟨⟨j + 1, by omega, by simp, HRD2.out.drewN _, below_drewN HB6.out _⟩, by simp [intOf]; omega⟩
          · have : j = n := by omega
            go_wp2
            go_ret
            exact ⟨rfl, HB6.out⟩
  · go_ret
    exact ⟨rfl, Below.refl _ _⟩

theorem walk (a0 : Option Addr) (len0 cap0 : Nat) (z0 : List Int) (a1 : Int) (a2 : Int) (w : World) (w0 : IsRow .u8 w a0 len0 cap0 z0) (w1 : (Lit.int .i64 a1).wf = true) (w2 : (Lit.int .i64 a2).wf = true) :
    Calls Try.prog 4 #[.slice a0 len0 cap0, .int .i64 a1, .int .i64 a2] w fun e w' => e = .returned (.bool true) ∧ Below w.heap.size w w' := by
  have h0 : len0 ≤ maxLen := by
    rcases w0 with ⟨-, rfl, -, -⟩ | ⟨_, _, h, h', _⟩
    · exact Nat.zero_le _
    · exact Nat.le_trans h h'
  have e0 : IntKind.i64.min = -9223372036854775808 := by decide
  have h1 : -9223372036854775808 ≤ a1 ∧ a1 ≤ 9223372036854775807 := by simpa [Lit.wf, e0] using w1
  have h2 : -9223372036854775808 ≤ a2 ∧ a2 ≤ 9223372036854775807 := by simpa [Lit.wf, e0] using w2
  by_cases hb : 1048576 < len0 ∨ a1 < 0 ∨ a2 < 0 ∨ 77 < a1 ∨ 77 < a2 ∨ 77 < a1 + a2
  · exact add_big a0 len0 cap0 a1 a2 w h0 h1 h2 hb
  · obtain ⟨m, rfl⟩ : ∃ m : Nat, a1 = (m : Int) := ⟨a1.toNat, by omega⟩
    obtain ⟨k, rfl⟩ : ∃ k : Nat, a2 = (k : Int) := ⟨a2.toNat, by omega⟩
    have hL : (z0.take len0).length = len0 := by
      rcases w0 with ⟨-, rfl, -, rfl⟩ | ⟨_, _, h, _, h', _⟩
      · rfl
      · rw [List.length_take]; omega
    exact add_small a0 len0 cap0 (z0.take len0) m k w (by omega) (by omega) hL (clone_any a0 len0 cap0 z0 (by omega) w w0)

/-! ### THE ROW's STEP: WRITTEN OUT: LEAVE IT -/
set_option maxRecDepth 100000 in
theorem lifted (os : Os) (started : os.Started) (H : Type) (enc : TypeId × Value → H) :
    ReturnsInHanded {} Try.checked os 4 .any (Rows.fnAppendZerosAdditiveSpec.pre6 enc Try.prog Try.f4 Rows.fnAppendZerosAdditiveRow.domain false) (Rows.fnAppendZerosAdditiveSpec.post enc Try.prog Try.f4 false true false false) := by
  refine returnsInHanded_of_change (C := Try.checked) own started (by kernel_rfl) Try.func4
    (ChangeSpec.witness6 (enc := enc) (C := Try.checked) false ⟨#[], #[.slice none 0 0, .int .i64 0, .int .i64 0], []⟩ 8 (by kernel_rfl) (by kernel_rfl) (by kernel_rfl) (by kernel_rfl)) ?_
  intro W base args ds gs before hval0 hW hcnd _
  have hval : ∀ (j : Nat) t v, Try.f4.params[j]? = some t → args[j]? = some v → Value.okWide Try.prog W .any base t v := hval0
  have hW' := hW
  obtain ⟨p, q, hA0, hV, rfl, hfz, hnd⟩ := hW
  have hA : DataW.TrodAll enc Try.prog W 0 (fun _ => true) true Try.f4.params.toList args.toList ds p := hA0
  rw [Try.params4] at hA hval
  obtain ⟨v0, vs0, d0, ds0, p0, q0, hargs, rfl, rfl, h0, r0⟩ := trodAll_cons hA
  obtain ⟨v1, vs1, d1, ds1, p1, q1, rfl, rfl, rfl, h1, r1⟩ := trodAll_cons r0
  obtain ⟨v2, vs2, d2, ds2, p2, q2, rfl, rfl, rfl, h2, r2⟩ := trodAll_cons r1
  obtain ⟨rfl, rfl, rfl⟩ := trodAll_nil r2
  obtain rfl : args = #[v0, v1, v2] := by cases args; simp_all
  obtain ⟨rfl, rfl⟩ := trodVars_none hV
  obtain ⟨a0, len0, cap0, rfl⟩ := okWide_slice Try.underlying22 (hval 0 22 v0 rfl rfl)
  have k0 := h0
  have lt0 : ∀ x ∈ p0, x.block < W.heap.size := by obtain ⟨m, hm⟩ := k0; exact DataW.trod_lt m _ _ _ hm
  obtain ⟨z0, w0⟩ : ∃ zs, IsRow .u8 W a0 len0 cap0 zs := by
    obtain ⟨fuel, hf⟩ := h0
    rcases open_ints Try.underlying22 Try.underlying5 (by kernel_rfl) hf with ⟨hcs, _⟩ | ⟨x, l, c, zs, hcs, _, hl, hm, hz, _, hcell, hwz⟩
    · simp [Value.cells] at hcs
      obtain ⟨rfl, rfl, rfl⟩ := hcs
      exact ⟨[], .inl ⟨rfl, rfl, rfl, rfl⟩⟩
    · simp [Value.cells] at hcs
      obtain ⟨rfl, rfl, rfl⟩ := hcs
      exact ⟨zs, .inr ⟨_, rfl, hl, hm, by simpa using hz, hcell, hwz⟩⟩
  obtain ⟨a1, rfl, rfl, rfl, w1⟩ := open_int Try.underlying3 (hval 1 3 v1 rfl rfl) h1
  obtain ⟨a2, rfl, rfl, rfl, w2⟩ := open_int Try.underlying3 (hval 2 3 v2 rfl rfl) h2
  clear hA0 hval0
  refine (walk a0 len0 cap0 z0 a1 a2 W w0 w1 w2).mono fun e W' ⟨he, bel⟩ => ?_
  subst he
  exact ⟨_, rfl, _, _, _, [], _, [], hW', trodAll_mk1 (shut_bool Try.underlying4 _), (trodAll_cons_mk (Below.trod laidOut (by kernel_rfl) (of_decide_eq_true (by kernel_rfl)) k0 bel lt0) (trodAll_cons_mk (shut_int Try.underlying3 w1) (trodAll_cons_mk (shut_int Try.underlying3 w2) trodAll_mk0))), rfl, bel.frame _, fun h => by cases h⟩

theorem over : Rows.fnAppendZerosAdditiveRow.holds Try.pinned (OpenSpec.ofChange Rows.fnAppendZerosAdditiveSpec) :=
  OpenClaim.holds_of_wide 4 Try.f4 rfl rfl rfl rfl rfl rfl rfl ⟨rfl, rfl, rfl, rfl, rfl⟩ rfl rfl rfl rfl rfl (by kernel_rfl) Try.func4 (by kernel_rfl)
    (of_decide_eq_true (by kernel_rfl)) (by unfold Func.isWrapper; first | (rw [if_pos (by decide +kernel)]; kernel_rfl) | (rw [if_neg (by decide +kernel)]; exact ⟨rfl, rfl⟩))
    (fun os started H enc _ => lifted os started H enc)

/-- ████ THE STATEMENT ████ -/
theorem proved : Rows.FnAppendZerosAdditiveSaid := over
#print axioms proved
end Go.Proofs.Qxb6612361a.fnAppendZerosAdditive
