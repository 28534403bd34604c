/-
  THE WALKS OF THE FUNCTIONS THAT COUNT BYTES: zzAdd, zzAddWords, zzStatusesBytes, zzContainersBytes, zzPodBytes: each returns SOME int; nothing that was there turns.
-/
import Derived.Test.Qxb6612257aProg
import Derived.Test.Qxb6612257aData
import Derived.WalkLawsBesides
namespace Go.Proofs.Qxb6612257a
open Go.RowKit

set_option maxHeartbeats 400000 in
theorem zzAdd_any (t n : Int) (w : World) :
    Calls Try.prog 11 #[.int .i64 t, .int .i64 n] w fun e w' => (∃ r, e = .returned (.int .i64 r)) ∧ w' = w := by
  go_enter Try.func11, Try.ntmps11
  go_wp2
  all_goals (go_ret; exact ⟨⟨_, rfl⟩, rfl⟩)

set_option maxHeartbeats 400000 in
theorem zzAddWords_any (t n : Int) (w : World) :
    Calls Try.prog 20 #[.int .i64 t, .int .i64 n] w fun e w' => (∃ r, e = .returned (.int .i64 r)) ∧ w' = w := by
  go_enter Try.func20, Try.ntmps20
  go_wp2_with (go_at_call 11; refine (zzAdd_any _ _ _).mono ?_; rintro e w' ⟨⟨r, rfl⟩, rfl⟩)
  all_goals (go_ret; exact ⟨⟨_, rfl⟩, rfl⟩)

set_option maxHeartbeats 400000 in
theorem zzStatusesBytes_any (t : Int) (v : Value) (n B : Nat) (w : World) (h : IsStats B w v n) :
    Calls Try.prog 13 #[.int .i64 t, v] w fun e w' => (∃ r, e = .returned (.int .i64 r)) ∧ w' = w := by
  obtain ⟨a, cap, rfl, hn, hm, hc⟩ := h
  unfold maxLen at hm
  have HC := hide hc
  clear hc
  go_enter Try.func13, Try.ntmps13
  go_wp2_with (go_at_call 20; refine (zzAddWords_any _ _ _).mono ?_; rintro e w' ⟨⟨r, rfl⟩, rfl⟩)
  go_loop [0, 5] (fun t i => ∃ (k : Nat) (r : Int), k ≤ n ∧ i = .int .i64 k ∧ t = .int .i64 r) (fun _ i => n - (intOf i).toNat)
  case atStart => exact ⟨0, _, Nat.zero_le _, rfl, rfl⟩
  case round =>
    obtain ⟨k, r, hk, rfl, rfl⟩ := hrel
    by_cases hlt : k < n
    · obtain ⟨b, o, s, v1, v2, v3, rfl, -, c0, -⟩ := HC.out k hlt
      go_wp2_with (go_at_call 11; refine (zzAdd_any _ _ _).mono ?_; rintro e w' ⟨⟨r, rfl⟩, rfl⟩)
      · go_round
        case rel => exact ⟨k + 1, _, by omega, by go_num, rfl⟩
        case measure => simp [intOf]; omega
      · go_ret
        exact ⟨⟨_, rfl⟩, rfl⟩
    · go_wp2
      go_ret
      exact ⟨⟨_, rfl⟩, rfl⟩
end Go.Proofs.Qxb6612257a
