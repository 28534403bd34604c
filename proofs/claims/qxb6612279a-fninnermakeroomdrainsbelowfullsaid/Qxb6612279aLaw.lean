/-
  THE LAW's WALK (10), over contracts.
-/
import Derived.Test.Qxb6612279aApp
import Derived.Test.Qxb6612279aRoom
import Derived.Test.Qxb6612279aCat
namespace Go.Proofs.Qxb6612279a
open Go.RowKit
set_option linter.unusedVariables false
set_option linter.unusedSimpArgs false

/-- What follows the loop: the sink's bytes, the two joined slices, the comparison. -/
def Tail (a b : Option Addr) (n m c d sk : Nat) (base : Nat) (w0 : World) (r cap L : Nat) (w : World) : Prop :=
  Calls Try.prog 18 #[.pointer (some ⟨sk, 0, none⟩)] w fun e w1 => ∃ ao lO capS, e = .returned (.slice ao lO capS) ∧
    Calls Try.prog 20 #[.slice ao lO capS, .slice (some ⟨r, 0, none⟩) L cap] w1 fun e w2 => ∃ g N, e = .returned (.slice (some ⟨g, 0, none⟩) N N) ∧
      Calls Try.prog 20 #[.slice a n c, .slice b m d] w2 fun e w3 => ∃ g' N', e = .returned (.slice (some ⟨g', 0, none⟩) N' N') ∧
        Calls Try.prog 19 #[.slice (some ⟨g, 0, none⟩) N N, .slice (some ⟨g', 0, none⟩) N' N'] w3 fun e w4 => e = .returned (.bool true) ∧ Below base w0 w4

set_option maxHeartbeats 12800000 in
set_option maxRecDepth 100000 in
theorem law_walk (a b ah : Option Addr) (n m c d nh ch ib sk want base : Nat) (x2 : Value) (w : World) (Q1 : World → Prop) (Ph : Nat → World → Nat → Nat → Nat → Prop)
    (hn : (n : Int) ≤ 524288) (hm : (m : Int) ≤ 524288) (hnh : (nh : Int) ≤ 524288)
    (hcase : (want = 0 ∧ ¬ 65536 ≤ (nh : Int) + (m : Int)) ∨ (want = 1 ∧ 65536 ≤ (nh : Int) + (m : Int) ∧ ¬ (n : Int) < 65536) ∨ (want = 1 ∧ 65536 ≤ (nh : Int) + (m : Int) ∧ (n : Int) < 65536 ∧ ¬ 65536 ≤ (m : Int)) ∨ (want = 2 ∧ 65536 ≤ (nh : Int) + (m : Int) ∧ (n : Int) < 65536 ∧ 65536 ≤ (m : Int)))
    (H29 : Hid (Calls Try.prog 29 #[.slice a n c, .slice b m d] w fun e w' => Answers e ∧ w' = w))
    (H22 : Hid (Calls Try.prog 22 #[.slice a n c] w fun e w' => e = .returned (.tuple #[.slice ah nh ch, x2]) ∧ w' = w))
    (H15 : Hid (Calls Try.prog 15 #[.slice a n c] w fun e w' => e = .returned (.tuple #[.pointer (some ⟨ib, 0, none⟩), .pointer (some ⟨sk, 0, none⟩), .bool true]) ∧ Q1 w'))
    (HA : Hid (∀ w1, Q1 w1 → ∃ r0 L0 cap0, w1.cell? ⟨ib, 1, none⟩ = some (.slice (some ⟨r0, 0, none⟩) L0 cap0) ∧ ∃ r cap L w2, (Builtin.append_ #[22, 22] 22 #[.slice (some ⟨r0, 0, none⟩) L0 cap0, .slice b m d]).run Try.prog w1 = .ok (.slice (some ⟨r, 0, none⟩) L cap) w2 ∧ Ph 0 w2 r cap L))
    (HP : Hid (∀ k w1 r cap L, Ph k w1 r cap L → 65536 ≤ L → k ≤ 1 ∧ Calls Try.prog 28 #[.pointer (some ⟨ib, 0, none⟩), .slice (some ⟨r, 0, none⟩) L cap] w1 fun e w' => ∃ L', e = .returned (.slice (some ⟨r, 0, none⟩) L' cap) ∧ Ph (k + 1) w' r cap L'))
    (HE : Hid (∀ k w1 r cap L, Ph k w1 r cap L → L < 65536 → k = want ∧ Tail a b n m c d sk base w r cap L w1))
    (hB : Below base w w) :
    Calls Try.prog 10 #[.slice a n c, .slice b m d] w fun e w' => e = .returned (.bool true) ∧ Below base w w' := by
  have HC := hide hcase
  clear hcase
  have HB := hide hB
  clear hB
  go_enter Try.func10, Try.ntmps10
  go_wp2_with (go_at_call 29; refine H29.out.mono ?_; rintro e w' ⟨(rfl | rfl), rfl⟩)
  · go_wp2_with (first
      | (go_at_call 22; refine H22.out.mono ?_; rintro e w2 ⟨rfl, rfl⟩)
      | (go_at_call 15; refine H15.out.mono ?_; rintro e w1 ⟨rfl, hq1⟩; obtain ⟨r0, L0, cap0, k1, r, cap, L, w3, hA, hPh⟩ := HA.out _ hq1; have HBU := hide (buffer16 k1); have HAP := hide hA; have HPH := hide hPh; clear hq1 k1 hA hPh)
      | (go_at_call 16; refine HBU.out.mono ?_; rintro e w4 ⟨rfl, rfl⟩)
      | (at_builtin; refine wpList_append_run rfl (.tmp 39) (.tmp 40) 22 22 22 rfl rfl _ _ _ _ rfl rfl HAP.out ?_))
    go_loopw [10, 11] (fun bf ci wi => ∃ k r cap L : Nat, bf = .slice (some ⟨r, 0, none⟩) L cap ∧ ci = .int .i64 k ∧ Ph k wi r cap L) (fun _ ci _ => 3 - (intOf ci).toNat)
    case atStart => exact ⟨0, r, cap, L, rfl, rfl, HPH.out⟩
    case round =>
      clear HPH HAP HBU HA
      obtain ⟨k, r, cap, L, rfl, rfl, hPh⟩ := hrel
      by_cases hLF : 65536 ≤ L
      · obtain ⟨hk, hcall⟩ := HP.out _ _ _ _ _ hPh hLF
        have HCALL := hide hcall
        have hk3 : (k : Int) < 3 := by omega
        have hL1 : 65536 ≤ (L : Int) := by omega
        clear hPh hcall hLF
        go_wp2_with (go_at_call 28; refine HCALL.out.mono ?_; rintro e w5 ⟨L5, rfl, hPh5⟩; have HPH5 := hide hPh5; clear hPh5)
        exact ⟨⟨k + 1, r, cap, L5, rfl, by simp, HPH5.out⟩, by simp [intOf]; omega⟩
      · obtain ⟨hk, htail⟩ := HE.out _ _ _ _ _ hPh (by omega)
        have HT := hide htail
        have hk3 : (k : Int) < 3 := by rcases HC.out with h | h | h | h <;> omega
        have hL1 : ¬ 65536 ≤ (L : Int) := by omega
        clear hPh htail hLF
        clear HP HE H29 H22 H15
        subst hk
        rcases HC.out with ⟨rfl, t1⟩ | ⟨rfl, t1, t2⟩ | ⟨rfl, t1, t2, t3⟩ | ⟨rfl, t1, t2, t3⟩
        · have u1 : (65536 ≤ (nh : Int) + (m : Int)) = False := by rw [eq_iff_iff, iff_false]; omega
          clear HC t1
          go_wp2_with (first
            | (go_at_call 18; refine HT.out.mono ?_; rintro e w5 ⟨ao, lO, capS, rfl, h20⟩; have H20 := hide h20; clear h20)
            | (go_at_call 20; refine H20b.out.mono ?_; rintro e w7 ⟨g', N', rfl, h19⟩; have H19 := hide h19; clear h19)
            | (go_at_call 20; refine H20.out.mono ?_; rintro e w6 ⟨g, N, rfl, h20b⟩; have H20b := hide h20b; clear h20b)
            | (go_at_call 19; refine H19.out.mono ?_; rintro e w8 ⟨rfl, hb8⟩; have HB8 := hide hb8; clear hb8))
          go_ret
          exact ⟨rfl, HB8.out⟩
        · have u2 : ((n : Int) < 65536) = False := by rw [eq_iff_iff, iff_false]; omega
          clear HC t2
          go_wp2_with (first
            | (go_at_call 18; refine HT.out.mono ?_; rintro e w5 ⟨ao, lO, capS, rfl, h20⟩; have H20 := hide h20; clear h20)
            | (go_at_call 20; refine H20b.out.mono ?_; rintro e w7 ⟨g', N', rfl, h19⟩; have H19 := hide h19; clear h19)
            | (go_at_call 20; refine H20.out.mono ?_; rintro e w6 ⟨g, N, rfl, h20b⟩; have H20b := hide h20b; clear h20b)
            | (go_at_call 19; refine H19.out.mono ?_; rintro e w8 ⟨rfl, hb8⟩; have HB8 := hide hb8; clear hb8))
          go_ret
          exact ⟨rfl, HB8.out⟩
        · have u3 : (65536 ≤ (m : Int)) = False := by rw [eq_iff_iff, iff_false]; omega
          clear HC t3
          go_wp2_with (first
            | (go_at_call 18; refine HT.out.mono ?_; rintro e w5 ⟨ao, lO, capS, rfl, h20⟩; have H20 := hide h20; clear h20)
            | (go_at_call 20; refine H20b.out.mono ?_; rintro e w7 ⟨g', N', rfl, h19⟩; have H19 := hide h19; clear h19)
            | (go_at_call 20; refine H20.out.mono ?_; rintro e w6 ⟨g, N, rfl, h20b⟩; have H20b := hide h20b; clear h20b)
            | (go_at_call 19; refine H19.out.mono ?_; rintro e w8 ⟨rfl, hb8⟩; have HB8 := hide hb8; clear hb8))
          go_ret
          exact ⟨rfl, HB8.out⟩
        · clear HC
          go_wp2_with (first
            | (go_at_call 18; refine HT.out.mono ?_; rintro e w5 ⟨ao, lO, capS, rfl, h20⟩; have H20 := hide h20; clear h20)
            | (go_at_call 20; refine H20b.out.mono ?_; rintro e w7 ⟨g', N', rfl, h19⟩; have H19 := hide h19; clear h19)
            | (go_at_call 20; refine H20.out.mono ?_; rintro e w6 ⟨g, N, rfl, h20b⟩; have H20b := hide h20b; clear h20b)
            | (go_at_call 19; refine H19.out.mono ?_; rintro e w8 ⟨rfl, hb8⟩; have HB8 := hide hb8; clear hb8))
          go_ret
          exact ⟨rfl, HB8.out⟩
  · go_ret
    exact ⟨rfl, HB.out⟩
end Go.Proofs.Qxb6612279a
