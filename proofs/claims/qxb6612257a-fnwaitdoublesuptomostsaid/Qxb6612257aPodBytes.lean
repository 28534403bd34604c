import Derived.Test.Qxb6612257aCountC
namespace Go.Proofs.Qxb6612257a
open Go.RowKit
set_option maxRecDepth 100000 in
set_option maxHeartbeats 1000000 in
theorem zzPodBytes_any (s0 s1 s2 s3 pol : ByteArray) (v2 v3 v4 v5 : Value) (c2 c3 : List Cont) (n4 n5 : Nat) (B : Nat) (w : World) (hB : B ≤ w.heap.size) (h2 : IsConts B w v2 c2) (h3 : IsConts B w v3 c3) (h4 : IsStats B w v4 n4) (h5 : IsStats B w v5 n5) :
    Calls Try.prog 5 #[.agg #[.string s0, .string s1, .string s2, .string s3], .string pol, v2, v3, v4, v5] w fun e w' => (∃ r, e = .returned (.int .i64 r)) ∧ Below w.heap.size w w' := by
  have H2 := hide h2
  have H3 := hide h3
  have H4 := hide h4
  have H5 := hide h5
  clear h2 h3 h4 h5
  go_enter Try.func5, Try.ntmps5
  go_wp2_with fail
  go_loop [13, 14] (fun t i => ∃ (k : Nat) (r : Int), k ≤ 4 ∧ i = .int .i64 k ∧ t = .int .i64 r) (fun _ i => 4 - (intOf i).toNat)
  case atStart => exact ⟨0, _, Nat.zero_le _, rfl, rfl⟩
  case round =>
    obtain ⟨k, r, hk, rfl, rfl⟩ := hrel
    by_cases hlt : k < 4
    · rcases (show k = 0 ∨ k = 1 ∨ k = 2 ∨ k = 3 by omega) with rfl | rfl | rfl | rfl
      all_goals
        go_wp2_with (go_at_call 11; refine (zzAdd_any _ _ _).mono ?_; rintro e w1 ⟨⟨r, rfl⟩, rfl⟩)
        go_round
        case rel => exact ⟨_, _, by decide, rfl, rfl⟩
        case measure => simp [intOf]
    · go_wp2_with (go_at_call 11; refine (zzAdd_any _ _ _).mono ?_; rintro e w1 ⟨⟨r, rfl⟩, rfl⟩)
      have hb1 : Below w.heap.size w (w.alloc (.cells #[.string s0, .string s1, .string s2, .string s3] 22)) := (Below.refl _ _).alloc (Nat.le_refl _) _
      generalize (w.alloc (.cells #[.string s0, .string s1, .string s2, .string s3] 22)) = w1 at *
      refine (zzContainersBytes_any _ _ c2 B _ (Nat.le_trans hB hb1.size) (H2.out.keep (hb1.mono hB) (Nat.le_refl _))).mono ?_
      rintro e w2 ⟨⟨r2, rfl⟩, hb2⟩
      have hb2 := hb1.trans (hb2.mono hb1.size)
      go_wp2_with fail
      refine (zzContainersBytes_any _ _ c3 B _ (Nat.le_trans hB hb2.size) (H3.out.keep (hb2.mono hB) (Nat.le_refl _))).mono ?_
      rintro e w3 ⟨⟨r3, rfl⟩, hb3⟩
      have hb3 := hb2.trans (hb3.mono hb2.size)
      go_wp2_with fail
      refine (zzStatusesBytes_any _ _ n4 B _ (H4.out.keep (hb3.mono hB) (Nat.le_refl _))).mono ?_
      rintro e w4 ⟨⟨r4, rfl⟩, rfl⟩
      go_wp2_with fail
      refine (zzStatusesBytes_any _ _ n5 B _ (H5.out.keep (hb3.mono hB) (Nat.le_refl _))).mono ?_
      rintro e w5 ⟨⟨r5, rfl⟩, rfl⟩
      go_wp2
      go_ret
      exact ⟨⟨_, rfl⟩, hb3⟩
end Go.Proofs.Qxb6612257a
