import Derived.Test.Qxb6612257aWait
namespace Go.Proofs.Qxb6612257a
open Go.RowKit
set_option linter.unusedVariables false
set_option linter.unusedSimpArgs false

set_option maxRecDepth 100000 in
set_option maxHeartbeats 1000000 in
theorem zzwait_any (least most T since : Int) (p : Nat) (pol : ByteArray) (a : Option Addr) (cap : Nat) (cs : List Cont) (w : World) (hpod : PodIn w p pol a cap cs since)
    (hT0 : -9223372036854775808 ≤ T) (hT1 : T ≤ 9223372036854775807) (hU0 : -9223372036854775808 ≤ since) (hU1 : since ≤ 9223372036854775807) (h0 : 0 ≤ T - since) (h1 : T - since ≤ 9000000000000000000) (hne : since ≠ 0) :
    Calls Try.prog 10 #[.int .i64 least, .int .i64 most, .pointer (some ⟨p, 0, none⟩), .int .i64 T] w fun e w' => e = .returned (.int .i64 (waits cs least most (T - since))) ∧ Below w.heap.size w w' := by
  have HP := hide hpod
  clear hpod
  go_enter Try.func10, Try.ntmps10
  go_wp2_with fail
  refine (timeAt_any T _ hT0 hT1).mono ?_
  rintro e w1 ⟨rfl, hb1⟩
  have HP1 := hide (HP.out.below hb1)
  have HB1 := hide hb1
  clear hb1 HP
  go_wp2_with fail
  refine (wait_any least most T since p pol a cap cs _ HP1.out hT0 hT1 hU0 hU1 h0 h1 hne).mono ?_
  rintro e w2 ⟨rfl, hb2⟩
  have HB2 := hide (HB1.out.trans (hb2.mono HB1.out.size))
  clear hb2
  go_wp2
  go_ret
  exact ⟨rfl, HB2.out⟩
end Go.Proofs.Qxb6612257a
