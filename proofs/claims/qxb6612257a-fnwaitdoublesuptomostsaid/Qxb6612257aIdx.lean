import Derived.Test.Qxb6612257aExit
namespace Go.Proofs.Qxb6612257a
open Go.RowKit
set_option linter.unusedVariables false
set_option linter.unusedSimpArgs false

def isAlways (o : Option ByteArray) : Bool := match o with | some s => s.toList == [65, 108, 119, 97, 121, 115] | none => false
theorem sidecar2 (c : Cont) (b o : Nat) (p1 : Option Addr) (B : Nat) (w : World) (hp : w.cell? ⟨b, o + 1, none⟩ = some (.pointer p1)) (h1 : PtrS B w (.pointer p1) c.policy) :
    Calls Try.prog 33 #[.pointer (some ⟨b, o, none⟩)] w fun e w' => e = .returned (.bool (isAlways c.policy)) ∧ w' = w := sidecar_any c b o p1 B w hp h1

/-- What SidecarIndex answers. -/
def IdxPost (cs : List Cont) (w : World) (e : Ending) (w' : World) : Prop :=
  w' = w ∧ (((cs.filter isBar).length ≠ 1 ∧ e = .returned (.int .i64 (-1))) ∨ ((cs.filter isBar).length = 1 ∧ ∃ i : Nat, i < cs.length ∧ isBar (cs.getD i .zero) = true ∧ e = .returned (.int .i64 i)))

/-- The last barrier sidecar among the first k. -/
def Own (cs : List Cont) (k : Nat) (own : Int) : Prop := 0 < cnt cs k → ∃ i : Nat, i < k ∧ own = i ∧ isBar (cs.getD i .zero) = true
theorem Own.zero (cs : List Cont) (own : Int) : Own cs 0 own := fun h => by rw [cnt_zero] at h; omega
theorem Own.hit {cs : List Cont} {k : Nat} (h : isBar (cs.getD k .zero) = true) : Own cs (k + 1) k := fun _ => ⟨k, by omega, rfl, h⟩
theorem Own.miss {cs : List Cont} {k : Nat} {own : Int} (h : Own cs k own) (hk : k < cs.length) (h' : isBar (cs.getD k .zero) = false) : Own cs (k + 1) own := fun hp => by
  rw [cnt_succ cs k hk, h'] at hp
  obtain ⟨i, hi, ho, hb⟩ := h (by simpa using hp)
  exact ⟨i, by omega, ho, hb⟩

set_option maxRecDepth 100000 in
set_option maxHeartbeats 1000000 in
theorem sidecarIndex_any (cs : List Cont) (p o : Nat) (a : Option Addr) (cap : Nat) (w : World) (hm : cap ≤ maxLen) (hn : cs.length ≤ cap) (hsl : w.cell? ⟨p, o + 1, none⟩ = some (.slice a cs.length cap))
    (hc : ∀ i, i < cs.length → ∃ b o v0 v1 v2 v3, a = some ⟨b, o, none⟩ ∧ b < w.heap.size ∧ w.cell? ⟨b, o + i * 4, none⟩ = some v0 ∧ w.cell? ⟨b, o + i * 4 + 1, none⟩ = some v1 ∧ w.cell? ⟨b, o + i * 4 + 2, none⟩ = some v2 ∧ w.cell? ⟨b, o + i * 4 + 3, none⟩ = some v3 ∧ IsCont w.heap.size w v0 v1 v2 v3 (cs.getD i .zero)) :
    Calls Try.prog 24 #[.pointer (some ⟨p, o, none⟩)] w (IdxPost cs w) := by
  unfold maxLen at hm
  have HC := hide hc
  clear hc
  go_enter Try.func24, Try.ntmps24
  go_wp2
  go_loop [3, 4, 5, 6, 7, 13] (fun own found i5 c6 p7 i => ∃ (k : Nat) (ow : Int), k ≤ cs.length ∧ i = .int .i64 k ∧ found = .int .i64 (cnt cs k) ∧ own = .int .i64 ow ∧ Own cs k ow) (fun _ _ _ _ _ i => cs.length - (intOf i).toNat)
  case atStart => exact ⟨0, _, Nat.zero_le _, rfl, by rw [cnt_zero]; rfl, rfl, Own.zero _ _⟩
  case round =>
    obtain ⟨k, ow, hk, rfl, rfl, rfl, hown⟩ := hrel
    have hcl := cnt_le cs k
    have HOWN := hide hown
    clear hown
    by_cases hlt : k < cs.length
    · obtain ⟨b, o', p1, ar, capr, p3, rfl, hb, c0, c1, c2, c3, hp, hq, -⟩ := cont_at (Nat.le_refl _) (Below.refl _ w) HC.out hlt
      have HS := hide (cnt_succ cs k hlt)
      obtain ⟨co, hco⟩ : ∃ co, co = cs.getD k .zero := ⟨_, rfl⟩
      rw [← hco] at hp hq c0 c2 HS
      have HCO := hide hco
      have HP := hide hp
      clear hco hp
      cases hbar : isBar co with
      | true =>
        obtain ⟨s, t, e1, e3, hs, ht⟩ : ∃ s t, co.policy = some s ∧ co.probe = some (some t) ∧ (s.toList == [65, 108, 119, 97, 121, 115]) = true ∧ (t.toList == [47, 98, 97, 114, 114, 105, 101, 114, 45, 105, 115, 45, 108, 105, 102, 116, 101, 100]) = true := by
          unfold isBar at hbar
          split at hbar
          · rename_i s t e1 e3
            rw [Bool.and_eq_true] at hbar
            exact ⟨s, t, e1, e3, hbar.1, hbar.2⟩
          · cases hbar
        have HBAR := hide hbar
        rw [hbar] at HS
        clear hbar
        rcases hq.cases with ⟨rfl, e4⟩ | ⟨b2, f2, n2, e4, rfl, hb2, cq, cn⟩ | ⟨b2, f2, n2, t2, b3, f3, e4, rfl, hb2, cq, cn, hb3, cg⟩
        · rw [e3] at e4; cases e4
        · rw [e3] at e4; cases e4
        · rw [e3] at e4
          obtain rfl : t = t2 := by simpa using e4
          have hsc := sidecar2 co b (o' + k * 4) p1 w.heap.size w c1 HP.out
          have hal : isAlways co.policy = true := by rw [e1]; exact hs
          rw [hal] at hsc
          have HSC := hide hsc
          clear hsc e1 e3 e4 hs hq hal
          go_wp2_with fail
          refine HSC.out.mono ?_
          rintro e w2 ⟨rfl, hw2⟩
          subst hw2
          go_wp2
          go_round
          case rel => exact ⟨k + 1, _, by omega, by go_num, by rw [HS.out]; simp, rfl, Own.hit (by rw [← HCO.out]; exact HBAR.out)⟩
          case measure => simp [intOf]; omega
      | false =>
        have HBAR := hide hbar
        rw [hbar] at HS
        have hmiss : Own cs (k + 1) ow := HOWN.out.miss hlt (by rw [← HCO.out]; exact hbar)
        have HMISS := hide hmiss
        have hsc := sidecar2 co b (o' + k * 4) p1 w.heap.size w c1 HP.out
        clear hmiss
        unfold isBar at hbar
        cases hsb : isAlways co.policy with
        | false =>
          rw [hsb] at hsc
          have HSC := hide hsc
          clear hsc hbar hq
          go_wp2_with fail
          refine HSC.out.mono ?_
          rintro e w2 ⟨rfl, hw2⟩
          subst hw2
          clear hsb
          go_wp2
          go_round
          case rel => exact ⟨k + 1, _, by omega, by go_num, by rw [HS.out]; simp, rfl, HMISS.out⟩
          case measure => simp [intOf]; omega
        | true =>
          rw [hsb] at hsc
          have HSC := hide hsc
          clear hsc
          rcases hq.cases with ⟨rfl, e4⟩ | ⟨b2, f2, n2, e4, rfl, hb2, cq, cn⟩ | ⟨b2, f2, n2, t2, b3, f3, e4, rfl, hb2, cq, cn, hb3, cg⟩
          · clear hq e4 hbar hsb
            go_wp2_with fail
            refine HSC.out.mono ?_
            rintro e w2 ⟨rfl, hw2⟩
            subst hw2
            go_wp2
            go_round
            case rel => exact ⟨k + 1, _, by omega, by go_num, by rw [HS.out]; simp, rfl, HMISS.out⟩
            case measure => simp [intOf]; omega
          · clear hq e4 hbar hsb
            go_wp2_with fail
            refine HSC.out.mono ?_
            rintro e w2 ⟨rfl, hw2⟩
            subst hw2
            go_wp2
            go_round
            case rel => exact ⟨k + 1, _, by omega, by go_num, by rw [HS.out]; simp, rfl, HMISS.out⟩
            case measure => simp [intOf]; omega
          · have ht : (t2.toList == [47, 98, 97, 114, 114, 105, 101, 114, 45, 105, 115, 45, 108, 105, 102, 116, 101, 100]) = false := by
              rw [e4] at hbar
              cases hpo : co.policy with
              | none => rw [hpo] at hsb; cases hsb
              | some s =>
                rw [hpo] at hsb hbar
                have hsb' : (s.toList == [65, 108, 119, 97, 121, 115]) = true := hsb
                have hbar' : (s.toList == [65, 108, 119, 97, 121, 115] && t2.toList == [47, 98, 97, 114, 114, 105, 101, 114, 45, 105, 115, 45, 108, 105, 102, 116, 101, 100]) = false := hbar
                rw [hsb', Bool.true_and] at hbar'
                exact hbar'
            clear hq e4 hbar hsb
            go_wp2_with fail
            refine HSC.out.mono ?_
            rintro e w2 ⟨rfl, hw2⟩
            subst hw2
            go_wp2
            go_round
            case rel => exact ⟨k + 1, _, by omega, by go_num, by rw [HS.out]; simp, rfl, HMISS.out⟩
            case measure => simp [intOf]; omega
    · have hall := cnt_all (cs := cs) (k := k) (by omega)
      have hcl' := hcl
      rw [hall]
      rw [hall] at hcl
      by_cases h1 : (cs.filter isBar).length = 1
      · have hO := HOWN.out (by omega)
        have h1b : (((cs.filter isBar).length : Int) != 1) = false := by simp [h1]
        have H1 := hide h1
        have HO := hide hO
        rw [h1] at hcl ⊢
        clear h1 h1b hall hO hcl'
        go_wp2
        go_ret
        obtain ⟨i, hi, rfl, hb⟩ := HO.out
        exact ⟨rfl, .inr ⟨H1.out, i, by omega, hb, rfl⟩⟩
      · have h1b : (((cs.filter isBar).length : Int) != 1) = true := by simp; omega
        have H1 := hide h1
        clear h1 hall hcl'
        go_wp2
        go_ret
        exact ⟨rfl, .inl ⟨H1.out, rfl⟩⟩
end Go.Proofs.Qxb6612257a
