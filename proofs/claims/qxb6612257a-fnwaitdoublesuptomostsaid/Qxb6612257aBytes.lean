/-
  zzBytes_FnWaitDoublesUpToMost: it returns a bool; where it says yes every slice is short. A frame of 573 slots: each piece a lemma of its own ('as_aux_lemma').
-/
import Derived.Test.Qxb6612257aSmall
import Derived.Test.Qxb6612257aProg
import Derived.WalkLawsBesides
import Derived.Deep.DeepCutAuto
namespace Go.Proofs.Qxb6612257a
open Go.RowKit
set_option linter.unusedVariables false
set_option linter.unusedSimpArgs false
/-- The first k containers are small. -/
def Upto (cs : List Cont) (k : Nat) : Prop := ∀ j, j < k → SmallC (cs.getD j .zero)
def UptoR (rs : List Rule) (k : Nat) : Prop := ∀ j, j < k → SmallR (rs.getD j .zero)
theorem Upto.zero (cs : List Cont) : Upto cs 0 := fun _ h => absurd h (Nat.not_lt_zero _)
theorem UptoR.zero (cs : List Rule) : UptoR cs 0 := fun _ h => absurd h (Nat.not_lt_zero _)
theorem Upto.succ {cs : List Cont} {k : Nat} (h : Upto cs k) (h' : SmallC (cs.getD k .zero)) : Upto cs (k + 1) := fun j hj => by
  by_cases e : j = k
  · subst e; exact h'
  · exact h j (by omega)
theorem UptoR.none {rs : List Rule} {k : Nat} (h : UptoR rs k) (h' : (rs.getD k .zero).codes = none) : UptoR rs (k + 1) := fun j hj => by
  by_cases e : j = k
  · subst e; intro c hc; rw [h'] at hc; cases hc
  · exact h j (by omega)
theorem UptoR.some {rs : List Rule} {k : Nat} {c : Codes} (h : UptoR rs k) (h' : (rs.getD k .zero).codes = some c) (hl : c.vals.length ≤ 1048576) : UptoR rs (k + 1) := fun j hj => by
  by_cases e : j = k
  · subst e; intro c hc; rw [h'] at hc; cases hc; exact hl
  · exact h j (by omega)
theorem Upto.all {cs : List Cont} {k : Nat} (h : Upto cs k) (hk : cs.length ≤ k) : ∀ i, i < cs.length → SmallC (cs.getD i .zero) := fun i hi => h i (by omega)
theorem UptoR.all {rs : List Rule} {k : Nat} (h : UptoR rs k) (hk : rs.length ≤ k) : ∀ i, i < rs.length → SmallR (rs.getD i .zero) := fun i hi => h i (by omega)
theorem SmallC.mk {c : Cont} (h : c.rules.length ≤ 1048576) (h' : ∀ i, i < c.rules.length → SmallR (c.rules.getD i .zero)) : SmallC c := ⟨h, h'⟩
def BytesPost (c2 c3 : List Cont) (n4 n5 : Nat) (w : World) (e : Ending) (w' : World) : Prop :=
  (∃ b, e = .returned (.bool b) ∧ (b = true → SmallCs c2 ∧ SmallCs c3 ∧ n4 ≤ 1048576 ∧ n5 ≤ 1048576)) ∧ Below w.heap.size w w'
theorem BytesPost.no {c2 c3 : List Cont} {n4 n5 : Nat} {w w' : World} (h : Below w.heap.size w w') : BytesPost c2 c3 n4 n5 w (.returned (.bool false)) w' := ⟨⟨false, rfl, nofun⟩, h⟩
set_option maxRecDepth 100000 in
set_option maxHeartbeats 40000000 in
theorem zzBytes_any (l m : Int) (s0 s1 s2 s3 pol : ByteArray) (v2 v3 v4 v5 : Value) (c2 c3 : List Cont) (n4 n5 : Nat) (si st : Int) (B : Nat) (w : World) (hB : B ≤ w.heap.size) (h2 : IsConts B w v2 c2) (h3 : IsConts B w v3 c3) (h4 : IsStats B w v4 n4) (h5 : IsStats B w v5 n5) :
    Calls Try.prog 4 #[.int .i64 l, .int .i64 m, .agg #[.string s0, .string s1, .string s2, .string s3], .string pol, v2, v3, v4, v5, .int .i64 si, .int .i64 st] w (BytesPost c2 c3 n4 n5 w) := by
  have hb1 : Below w.heap.size w (w.alloc (.cells #[.string s0, .string s1, .string s2, .string s3] 22)) := (Below.refl _ _).alloc (Nat.le_refl _) _
  have hid : ∀ k, k < 4 → ∃ s, (w.alloc (.cells #[.string s0, .string s1, .string s2, .string s3] 22)).cell? ⟨w.heap.size, k, none⟩ = some (.string s) := by
    intro k hk
    rcases (show k = 0 ∨ k = 1 ∨ k = 2 ∨ k = 3 by omega) with rfl | rfl | rfl | rfl
    · exact ⟨s0, by simp [go_sem]⟩
    · exact ⟨s1, by simp [go_sem]⟩
    · exact ⟨s2, by simp [go_sem]⟩
    · exact ⟨s3, by simp [go_sem]⟩
  have h2 := h2.keep (hb1.mono hB) (Nat.le_refl _)
  have h3 := h3.keep (hb1.mono hB) (Nat.le_refl _)
  have h4 := h4.keep (hb1.mono hB) (Nat.le_refl _)
  have h5 := h5.keep (hb1.mono hB) (Nat.le_refl _)
  obtain ⟨a2, cap2, rfl, hn2, hm2, hc2⟩ := h2
  obtain ⟨a3, cap3, rfl, hn3, hm3, hc3⟩ := h3
  obtain ⟨a4, cap4, rfl, hn4, hm4, hc4⟩ := h4
  obtain ⟨a5, cap5, rfl, hn5, hm5, hc5⟩ := h5
  unfold maxLen at hm2 hm3 hm4 hm5
  have H2 := hide hc2
  have H3 := hide hc3
  have H4 := hide hc4
  have H5 := hide hc5
  have HI := hide hid
  have HB := hide hb1
  clear hc2 hc3 hc4 hc5 h2 h3 h4 h5 hid hb1
  go_enter Try.func4, Try.ntmps4
  go_wp2_with fail
  generalize (w.alloc (.cells #[.string s0, .string s1, .string s2, .string s3] 22)) = w1 at *
  go_loop [21, 22] (fun t i => ∃ (k : Nat) (z : Int), k ≤ 4 ∧ 0 ≤ z ∧ z ≤ 1048576 ∧ i = .int .i64 k ∧ t = .int .i64 z) (fun _ i => 4 - (intOf i).toNat)
  case atStart => exact ⟨0, _, Nat.zero_le _, Int.le_refl _, by decide, rfl, rfl⟩
  case round =>
    obtain ⟨k, z, hk, hz0, hz1, rfl, rfl⟩ := hrel
    by_cases hlt : k < 4
    · obtain ⟨s, hs⟩ := HI.out k hlt
      go_wp2
      all_goals try (go_ret; exact BytesPost.no HB.out)
      go_round
      case rel => exact ⟨k + 1, _, by omega, by omega, by omega, by go_num, rfl⟩
      case measure => simp [intOf]; omega
    · clear HI
      go_wp2
      all_goals try (go_ret; exact BytesPost.no HB.out)
      clear hlt hk
      go_loop [21, 23] (fun t i => ∃ (k : Nat) (z : Int), k ≤ c2.length ∧ 0 ≤ z ∧ z ≤ 1048576 ∧ i = .int .i64 k ∧ t = .int .i64 z ∧ Upto c2 k) (fun _ i => c2.length - (intOf i).toNat)
      case atStart => exact ⟨0, _, Nat.zero_le _, by omega, by omega, rfl, rfl, Upto.zero _⟩
      case round =>
        obtain ⟨k, z, hk, hz0, hz1, rfl, rfl, hsm⟩ := hrel
        by_cases hlt : k < c2.length
        · as_aux_lemma =>
            obtain ⟨b, o, x0, x1, x2, x3, rfl, hb, d0, d1, d2, d3, hcont⟩ := H2.out k hlt
            obtain ⟨rfl, hp, hr, hq⟩ := hcont
            obtain ⟨ar, capr, rfl, hnr, hmr, hcr⟩ := hr
            have HR := hide hcr
            obtain ⟨p3, rfl⟩ := hq.ptr
            have HQ := hide hq
            have HS := hide hsm
            obtain ⟨p1, rfl⟩ := hp.ptr
            clear hcr hq hsm H2 H3 H4 H5
            obtain ⟨co, hco⟩ : ∃ co, co = c2.getD k .zero := ⟨_, rfl⟩
            rw [← hco] at HR HQ hp d0 d2 hnr
            have HCO := hide hco
            clear hco
            obtain ⟨rs, hrs⟩ : ∃ rs, rs = co.rules := ⟨_, rfl⟩
            rw [← hrs] at HR d2 hnr
            have HRS := hide hrs
            clear hrs
            obtain ⟨nm, hnm⟩ : ∃ nm, nm = co.name := ⟨_, rfl⟩
            rw [← hnm] at d0
            clear hnm
            unfold maxLen at hmr
            have HP := hide hp
            clear hp
            go_upto_if 92 with fail
            all_goals try (go_ret; exact BytesPost.no HB.out)
            go_cut [21] (fun t wx => ∃ z : Int, 0 ≤ z ∧ z ≤ 1048576 ∧ t = .int .i64 z ∧ wx = w1)
            case first =>
              as_aux_lemma =>
                rcases HP.out.cases with ⟨rfl, -⟩ | ⟨s, b1, f1, -, rfl, hb1, cp⟩
                all_goals go_wp2
                all_goals try (go_ret; exact BytesPost.no HB.out)
                all_goals (go_meet; exact ⟨_, by omega, by omega, rfl, rfl⟩)
            case rest =>
              obtain ⟨z, hz0, hz1, rfl, rfl⟩ := hcut
              go_wp2
              all_goals try (go_ret; exact BytesPost.no HB.out)
              go_loop [21, 24] (fun t j => ∃ (q : Nat) (z : Int), q ≤ rs.length ∧ 0 ≤ z ∧ z ≤ 1048576 ∧ j = .int .i64 q ∧ t = .int .i64 z ∧ UptoR rs q) (fun _ j => rs.length - (intOf j).toNat)
              case atStart => exact ⟨0, _, Nat.zero_le _, by omega, by omega, rfl, rfl, UptoR.zero _⟩
              case round =>
                obtain ⟨q, z, hq, hz0, hz1, rfl, rfl, hsr⟩ := hrel
                by_cases hlq : q < rs.length
                · obtain ⟨b4, o4, pv, rfl, hb4, g0, g1, hpc⟩ := HR.out q hlq
                  obtain ⟨p4, rfl⟩ := hpc.ptr
                  clear HR HQ
                  have HSR := hide hsr
                  clear hsr
                  rcases hpc.cases with ⟨rfl, e5⟩ | ⟨c5, b5, f5, a5, cap5', e5, rfl, hb5, y0, y1, hy1, hy2, -⟩
                  · as_aux_lemma =>
                      clear hpc
                      have HE := hide e5
                      clear e5
                      generalize (rs.getD q .zero).action = act at *
                      go_wp2
                      all_goals try (go_ret; exact BytesPost.no HB.out)
                      go_round
                      case rel => exact ⟨q + 1, _, by omega, by omega, by omega, by go_num, rfl, HSR.out.none HE.out⟩
                      case measure => simp [intOf]; omega
                  · as_aux_lemma =>
                      clear hpc
                      have HE := hide e5
                      clear e5
                      generalize (rs.getD q .zero).action = act at *
                      unfold maxLen at hy2
                      go_wp2
                      all_goals try (go_ret; exact BytesPost.no HB.out)
                      go_round
                      case rel => exact ⟨q + 1, _, by omega, by omega, by omega, by go_num, rfl, HSR.out.some HE.out (by omega)⟩
                      case measure => simp [intOf]; omega
                · have HSR := hide (hsr.all (by omega))
                  clear HR hsr
                  rcases HQ.out.cases with ⟨rfl, -⟩ | ⟨b2, f2, n2, -, rfl, hb2, cq, -⟩ | ⟨b2, f2, n2, s2, b3, f3, -, rfl, hb2, cq, -, hb3, cg⟩
                  all_goals
                    as_aux_lemma =>
                      clear HQ
                      go_wp2
                      all_goals try (go_ret; exact BytesPost.no HB.out)
                      all_goals
                        go_round
                        case rel => exact ⟨k + 1, _, by omega, by omega, by omega, by go_num, rfl, HS.out.succ (HCO.out ▸ SmallC.mk (HRS.out ▸ (by omega)) (HRS.out ▸ HSR.out))⟩
                        case measure => simp [intOf]; omega
        · as_aux_lemma =>
            have S2 := hide (hsm.all (by omega))
            clear hsm
            go_wp2
            all_goals try (go_ret; exact BytesPost.no HB.out)
            clear hlt hk
            go_loop [21, 25] (fun t i => ∃ (k : Nat) (z : Int), k ≤ c3.length ∧ 0 ≤ z ∧ z ≤ 1048576 ∧ i = .int .i64 k ∧ t = .int .i64 z ∧ Upto c3 k) (fun _ i => c3.length - (intOf i).toNat)
            case atStart => exact ⟨0, _, Nat.zero_le _, by omega, by omega, rfl, rfl, Upto.zero _⟩
            case round =>
              obtain ⟨k, z, hk, hz0, hz1, rfl, rfl, hsm⟩ := hrel
              by_cases hlt : k < c3.length
              · as_aux_lemma =>
                  obtain ⟨b, o, x0, x1, x2, x3, rfl, hb, d0, d1, d2, d3, hcont⟩ := H3.out k hlt
                  obtain ⟨rfl, hp, hr, hq⟩ := hcont
                  obtain ⟨ar, capr, rfl, hnr, hmr, hcr⟩ := hr
                  have HR := hide hcr
                  obtain ⟨p3, rfl⟩ := hq.ptr
                  have HQ := hide hq
                  have HS := hide hsm
                  obtain ⟨p1, rfl⟩ := hp.ptr
                  clear hcr hq hsm H2 H3 H4 H5
                  obtain ⟨co, hco⟩ : ∃ co, co = c3.getD k .zero := ⟨_, rfl⟩
                  rw [← hco] at HR HQ hp d0 d2 hnr
                  have HCO := hide hco
                  clear hco
                  obtain ⟨rs, hrs⟩ : ∃ rs, rs = co.rules := ⟨_, rfl⟩
                  rw [← hrs] at HR d2 hnr
                  have HRS := hide hrs
                  clear hrs
                  obtain ⟨nm, hnm⟩ : ∃ nm, nm = co.name := ⟨_, rfl⟩
                  rw [← hnm] at d0
                  clear hnm
                  unfold maxLen at hmr
                  have HP := hide hp
                  clear hp
                  go_upto_if 319 with fail
                  all_goals try (go_ret; exact BytesPost.no HB.out)
                  go_cut [21] (fun t wx => ∃ z : Int, 0 ≤ z ∧ z ≤ 1048576 ∧ t = .int .i64 z ∧ wx = w1)
                  case first =>
                    as_aux_lemma =>
                      rcases HP.out.cases with ⟨rfl, -⟩ | ⟨s, b1, f1, -, rfl, hb1, cp⟩
                      all_goals go_wp2
                      all_goals try (go_ret; exact BytesPost.no HB.out)
                      all_goals (go_meet; exact ⟨_, by omega, by omega, rfl, rfl⟩)
                  case rest =>
                    obtain ⟨z, hz0, hz1, rfl, rfl⟩ := hcut
                    go_wp2
                    all_goals try (go_ret; exact BytesPost.no HB.out)
                    go_loop [21, 26] (fun t j => ∃ (q : Nat) (z : Int), q ≤ rs.length ∧ 0 ≤ z ∧ z ≤ 1048576 ∧ j = .int .i64 q ∧ t = .int .i64 z ∧ UptoR rs q) (fun _ j => rs.length - (intOf j).toNat)
                    case atStart => exact ⟨0, _, Nat.zero_le _, by omega, by omega, rfl, rfl, UptoR.zero _⟩
                    case round =>
                      obtain ⟨q, z, hq, hz0, hz1, rfl, rfl, hsr⟩ := hrel
                      by_cases hlq : q < rs.length
                      · obtain ⟨b4, o4, pv, rfl, hb4, g0, g1, hpc⟩ := HR.out q hlq
                        obtain ⟨p4, rfl⟩ := hpc.ptr
                        clear HR HQ
                        have HSR := hide hsr
                        clear hsr
                        rcases hpc.cases with ⟨rfl, e5⟩ | ⟨c5, b5, f5, a5, cap5', e5, rfl, hb5, y0, y1, hy1, hy2, -⟩
                        · as_aux_lemma =>
                            clear hpc
                            have HE := hide e5
                            clear e5
                            generalize (rs.getD q .zero).action = act at *
                            go_wp2
                            all_goals try (go_ret; exact BytesPost.no HB.out)
                            go_round
                            case rel => exact ⟨q + 1, _, by omega, by omega, by omega, by go_num, rfl, HSR.out.none HE.out⟩
                            case measure => simp [intOf]; omega
                        · as_aux_lemma =>
                            clear hpc
                            have HE := hide e5
                            clear e5
                            generalize (rs.getD q .zero).action = act at *
                            unfold maxLen at hy2
                            go_wp2
                            all_goals try (go_ret; exact BytesPost.no HB.out)
                            go_round
                            case rel => exact ⟨q + 1, _, by omega, by omega, by omega, by go_num, rfl, HSR.out.some HE.out (by omega)⟩
                            case measure => simp [intOf]; omega
                      · have HSR := hide (hsr.all (by omega))
                        clear HR hsr
                        rcases HQ.out.cases with ⟨rfl, -⟩ | ⟨b2, f2, n2, -, rfl, hb2, cq, -⟩ | ⟨b2, f2, n2, s2, b3, f3, -, rfl, hb2, cq, -, hb3, cg⟩
                        all_goals
                          as_aux_lemma =>
                            clear HQ
                            go_wp2
                            all_goals try (go_ret; exact BytesPost.no HB.out)
                            all_goals
                              go_round
                              case rel => exact ⟨k + 1, _, by omega, by omega, by omega, by go_num, rfl, HS.out.succ (HCO.out ▸ SmallC.mk (HRS.out ▸ (by omega)) (HRS.out ▸ HSR.out))⟩
                              case measure => simp [intOf]; omega
              · as_aux_lemma =>
                  have S3 := hide (hsm.all (by omega))
                  clear hsm
                  go_wp2
                  all_goals try (go_ret; exact BytesPost.no HB.out)
                  clear hlt hk
                  go_loop [21, 27] (fun t i => ∃ (k : Nat) (z : Int), k ≤ n4 ∧ 0 ≤ z ∧ z ≤ 1048576 ∧ i = .int .i64 k ∧ t = .int .i64 z) (fun _ i => n4 - (intOf i).toNat)
                  case atStart => exact ⟨0, _, Nat.zero_le _, by omega, by omega, rfl, rfl⟩
                  case round =>
                    obtain ⟨k, z, hk, hz0, hz1, rfl, rfl⟩ := hrel
                    by_cases hlt : k < n4
                    · as_aux_lemma =>
                        obtain ⟨b, o, s, x1, x2, x3, rfl, hb, d0, -⟩ := H4.out k hlt
                        clear H2 H3 H4 H5
                        go_wp2
                        all_goals try (go_ret; exact BytesPost.no HB.out)
                        go_round
                        case rel => exact ⟨k + 1, _, by omega, by omega, by omega, by go_num, rfl⟩
                        case measure => simp [intOf]; omega
                    · as_aux_lemma =>
                        go_wp2
                        all_goals try (go_ret; exact BytesPost.no HB.out)
                        clear hlt hk
                        go_loop [21, 28] (fun t i => ∃ (k : Nat) (z : Int), k ≤ n5 ∧ 0 ≤ z ∧ z ≤ 1048576 ∧ i = .int .i64 k ∧ t = .int .i64 z) (fun _ i => n5 - (intOf i).toNat)
                        case atStart => exact ⟨0, _, Nat.zero_le _, by omega, by omega, rfl, rfl⟩
                        case round =>
                          obtain ⟨k, z, hk, hz0, hz1, rfl, rfl⟩ := hrel
                          by_cases hlt : k < n5
                          · as_aux_lemma =>
                              obtain ⟨b, o, s, x1, x2, x3, rfl, hb, d0, -⟩ := H5.out k hlt
                              clear H2 H3 H4 H5
                              go_wp2
                              all_goals try (go_ret; exact BytesPost.no HB.out)
                              go_round
                              case rel => exact ⟨k + 1, _, by omega, by omega, by omega, by go_num, rfl⟩
                              case measure => simp [intOf]; omega
                          · as_aux_lemma =>
                              go_wp2
                              all_goals try (go_ret; exact BytesPost.no HB.out)
                              go_ret
                              exact ⟨⟨true, rfl, fun _ => ⟨⟨by omega, S2.out⟩, ⟨by omega, S3.out⟩, by omega, by omega⟩⟩, HB.out⟩
end Go.Proofs.Qxb6612257a
