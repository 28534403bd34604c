import Derived.Test.Qxb6612257aMatch
namespace Go.Proofs.Qxb6612257a
open Go.RowKit
set_option linter.unusedVariables false
set_option linter.unusedSimpArgs false

def FirstPost (rs : List Rule) (w : World) (e : Ending) (w' : World) : Prop :=
  Below w.heap.size w w' ∧ ((e = .returned (.pointer none) ∧ noHit rs rs.length) ∨
    ∃ b o k, e = .returned (.pointer (some ⟨b, o + k * 2, none⟩)) ∧ k < rs.length ∧ noHit rs k ∧ hits (rs.getD k .zero) = true ∧ b < w.heap.size ∧ w.cell? ⟨b, o + k * 2, none⟩ = some (.string (rs.getD k .zero).action))

set_option maxHeartbeats 1000000 in
theorem firstMatch_any (rs : List Rule) (a : Option Addr) (cap : Nat) (w : World) (hm : cap ≤ maxLen) (hn : rs.length ≤ cap)
    (hcr : ∀ i, i < rs.length → ∃ b o pv, a = some ⟨b, o, none⟩ ∧ b < w.heap.size ∧ w.cell? ⟨b, o + i * 2, none⟩ = some (.string (rs.getD i .zero).action) ∧ w.cell? ⟨b, o + i * 2 + 1, none⟩ = some (.pointer pv) ∧ PtrC w.heap.size w (.pointer pv) (rs.getD i .zero).codes) :
    Calls Try.prog 34 #[.slice a rs.length cap, .int .i32 1] w (FirstPost rs w) := by
  have HR := hide hcr
  unfold maxLen at hm
  clear hcr
  go_enter Try.func34, Try.ntmps34
  go_wp2
  go_loopw [5, 8] (fun x i wi => ∃ q : Nat, q ≤ rs.length ∧ i = .int .i64 q ∧ noHit rs q ∧ Below w.heap.size w wi) (fun _ i _ => rs.length - (intOf i).toNat)
  case atStart => exact ⟨0, Nat.zero_le _, rfl, noHit.zero _, Below.refl _ _⟩
  case round =>
    obtain ⟨q, hq, rfl, hno, hbi⟩ := hrel
    have HNO := hide hno
    have HBI := hide hbi
    clear hno hbi
    by_cases hlq : q < rs.length
    · obtain ⟨b4, o4, p4, rfl, hb4, g0, g1, hpc⟩ := HR.out q hlq
      have HG0 := hide g0
      have hbw := HBI.out
      rw [← hbw.cell (p := ⟨b4, o4 + q * 2, none⟩) hb4] at g0
      rw [← hbw.cell (p := ⟨b4, o4 + q * 2 + 1, none⟩) hb4] at g1
      have HPC := hide (hpc.keep hbw hbw.size)
      clear hpc hbw
      obtain ⟨ru, hru⟩ : ∃ ru, ru = rs.getD q .zero := ⟨_, rfl⟩
      rw [← hru] at HPC g0
      have HRU := hide hru
      clear hru
      go_wp2_with fail
      refine (matches_any ru p4 _ _ (Nat.le_refl _) HPC.out).mono ?_
      rintro e w2 ⟨rfl, hb2⟩
      have HB2 := hide (HBI.out.trans (hb2.mono HBI.out.size))
      clear hb2 g0 g1
      cases hh : hits ru with
      | true =>
        go_wp2
        go_ret
        exact ⟨HB2.out, .inr ⟨b4, o4, q, rfl, hlq, HNO.out, by rw [← HRU.out]; exact hh, hb4, HG0.out⟩⟩
      | false =>
        go_wp2
        go_roundw
        case rel => first | exact ⟨q + 1, by omega, by go_num, HNO.out.succ (by rw [← HRU.out]; exact hh), HB2.out⟩ | ((repeat apply Exists.intro); exact ⟨⟨q + 1, by omega, by go_num, HNO.out.succ (by rw [← HRU.out]; exact hh), HB2.out⟩, rfl⟩)
        case measure => simp [intOf]; omega
    · obtain rfl : q = rs.length := by omega
      go_wp2
      go_ret
      exact ⟨HBI.out, .inl ⟨rfl, HNO.out⟩⟩

def ExitPost (rs : List Rule) (w : World) (e : Ending) (w' : World) : Prop :=
  ∃ s : ByteArray, e = .returned (.string s) ∧ (s.toList == [114, 101, 115, 116, 97, 114, 116, 32, 101, 118, 101, 114, 121, 32, 99, 111, 110, 116, 97, 105, 110, 101, 114, 32, 111, 102, 32, 116, 104, 101, 32, 112, 111, 100]) = wholeOf rs ∧ Below w.heap.size w w'

set_option maxHeartbeats 1000000 in
theorem onExit_any (rs : List Rule) (pol s : ByteArray) (b o b1 f1 : Nat) (a : Option Addr) (cap : Nat) (w : World) (hm : cap ≤ maxLen) (hn : rs.length ≤ cap) (hb : b < w.heap.size) (hb1 : b1 < w.heap.size)
    (hp : w.cell? ⟨b, o + 1, none⟩ = some (.pointer (some ⟨b1, f1, none⟩))) (h1 : w.cell? ⟨b1, f1, none⟩ = some (.string s)) (hs : (s.toList == [65, 108, 119, 97, 121, 115]) = true) (hr : w.cell? ⟨b, o + 2, none⟩ = some (.slice a rs.length cap))
    (hcr : ∀ i, i < rs.length → ∃ b o pv, a = some ⟨b, o, none⟩ ∧ b < w.heap.size ∧ w.cell? ⟨b, o + i * 2, none⟩ = some (.string (rs.getD i .zero).action) ∧ w.cell? ⟨b, o + i * 2 + 1, none⟩ = some (.pointer pv) ∧ PtrC w.heap.size w (.pointer pv) (rs.getD i .zero).codes) :
    Calls Try.prog 25 #[.pointer (some ⟨b, o, none⟩), .bool false, .string pol, .int .i32 1] w (ExitPost rs w) := by
  have HR := hide hcr
  clear hcr
  go_enter Try.func25, Try.ntmps25
  go_wp2_with fail
  refine (firstMatch_any rs a cap w hm hn HR.out).mono ?_
  rintro e w1 ⟨hb1', hc⟩
  rw [← hb1'.cell (p := ⟨b, o + 1, none⟩) hb] at hp
  rw [← hb1'.cell (p := ⟨b1, f1, none⟩) hb1] at h1
  have HB := hide hb1'
  clear hr
  rcases hc with ⟨rfl, hno⟩ | ⟨b2, o2, k, rfl, hk, hno, hh, hb2, g0⟩
  · have HV := hide (wholeOf_none hno (Nat.le_refl _))
    clear hno hb1'
    go_wp2_with fail
    refine (policy_any .zero s pol b o b1 f1 _ hp h1).mono ?_
    rintro e w2 ⟨rfl, hw2⟩
    subst hw2
    go_wp2
    go_ret
    exact ⟨_, rfl, by rw [HV.out]; decide +kernel, HB.out⟩
  · have HV := hide (wholeOf_at hno hk hh)
    rw [← hb1'.cell (p := ⟨b2, o2 + k * 2, none⟩) hb2] at g0
    clear hno hh hb1'
    generalize (rs.getD k .zero).action = act at *
    cases hact : (act.toList == [82, 101, 115, 116, 97, 114, 116]) with
    | true =>
      go_wp2_with fail
      go_ret
      refine ⟨_, rfl, ?_, HB.out⟩
      rw [HV.out, LawfulBEq.eq_of_beq hact]; decide +kernel
    | false =>
      cases hact2 : (act.toList == [82, 101, 115, 116, 97, 114, 116, 65, 108, 108, 67, 111, 110, 116, 97, 105, 110, 101, 114, 115]) with
      | true =>
        go_wp2_with fail
        go_ret
        refine ⟨_, rfl, ?_, HB.out⟩
        rw [HV.out, hact2]; decide +kernel
      | false =>
        go_wp2_with fail
        refine (policy_any .zero s pol b o b1 f1 _ hp h1).mono ?_
        rintro e w2 ⟨rfl, hw2⟩
        subst hw2
        go_wp2
        go_ret
        refine ⟨_, rfl, ?_, HB.out⟩
        rw [HV.out, hact2]; decide +kernel
end Go.Proofs.Qxb6612257a
