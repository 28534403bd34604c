import Derived.Test.Qxb6612257aCount
namespace Go.Proofs.Qxb6612257a
open Go.RowKit
set_option maxRecDepth 100000 in
set_option maxHeartbeats 1000000 in
theorem zzContainersBytes_any (t : Int) (v : Value) (cs : List Cont) (B : Nat) (w : World) (hB : B ≤ w.heap.size) (h : IsConts B w v cs) :
    Calls Try.prog 12 #[.int .i64 t, v] w fun e w' => (∃ r, e = .returned (.int .i64 r)) ∧ Below w.heap.size w w' := by
  obtain ⟨a, cap, rfl, hn, hm, hc⟩ := h
  unfold maxLen at hm
  have HC := hide hc
  clear hc
  go_enter Try.func12, Try.ntmps12
  go_wp2_with (go_at_call 20; refine (zzAddWords_any _ _ _).mono ?_; rintro e w' ⟨⟨r, rfl⟩, rfl⟩)
  go_loopw [0, 5] (fun t i wr => ∃ (k : Nat) (r : Int), k ≤ cs.length ∧ i = .int .i64 k ∧ t = .int .i64 r ∧ Below w'.heap.size w' wr) (fun _ i _ => cs.length - (intOf i).toNat)
  case atStart => exact ⟨0, _, Nat.zero_le _, rfl, rfl, Below.refl _ _⟩
  case round =>
    obtain ⟨k, r, hk, rfl, rfl, hbel⟩ := hrel
    by_cases hlt : k < cs.length
    · obtain ⟨b, o, v0, v1, v2, v3, rfl, hb, c0, c1, c2, c3, hcont⟩ := HC.out k hlt
      have hBr := Nat.le_trans hB hbel.size
      obtain ⟨rfl, hp, hr, hq⟩ := hcont.keep (hbel.mono hB) hBr
      rw [← hbel.cell (p := ⟨b, o + k * 4, none⟩) (Nat.lt_of_lt_of_le hb hB)] at c0
      rw [← hbel.cell (p := ⟨b, o + k * 4 + 1, none⟩) (Nat.lt_of_lt_of_le hb hB)] at c1
      rw [← hbel.cell (p := ⟨b, o + k * 4 + 2, none⟩) (Nat.lt_of_lt_of_le hb hB)] at c2
      rw [← hbel.cell (p := ⟨b, o + k * 4 + 3, none⟩) (Nat.lt_of_lt_of_le hb hB)] at c3
      obtain ⟨ar, capr, rfl, hnr, hmr, hcr⟩ := hr
      have HR := hide hcr
      clear hcr hcont
      generalize (cs.getD k .zero).rules = rs at *
      generalize (cs.getD k .zero).name = nm at *
      generalize (cs.getD k .zero).probe = pb at *
      unfold maxLen at hmr
      clear HC
      obtain ⟨p3, rfl⟩ := hq.ptr
      have HQ := hide hq
      clear hq
      obtain ⟨p1, rfl⟩ := hp.ptr
      rcases hp.cases with ⟨rfl, -⟩ | ⟨s, b1, f1, -, rfl, hb1, cp⟩
      all_goals
        clear hp
        go_wp2_with (first | (go_at_call 11; refine (zzAdd_any _ _ _).mono ?_; rintro e w1 ⟨⟨r, rfl⟩, rfl⟩) | (go_at_call 20; refine (zzAddWords_any _ _ _).mono ?_; rintro e w1 ⟨⟨r, rfl⟩, rfl⟩))
      all_goals try (go_ret; exact ⟨⟨_, rfl⟩, hbel⟩)
      all_goals
        generalize hW2 : wr.alloc _ = W2
        have HW := hide hW2
        clear hW2
        go_loopw [0, 7] (fun t j wi => ∃ (q : Nat) (r : Int), q ≤ rs.length ∧ j = .int .i64 q ∧ t = .int .i64 r ∧ Below (wr.heap.size + 1) W2 wi) (fun _ j _ => rs.length - (intOf j).toNat)
        case atStart => exact ⟨0, _, Nat.zero_le _, rfl, rfl, Below.refl _ _⟩
        case round =>
          obtain ⟨q, r, hq, rfl, rfl, hbi⟩ := hrel
          rw [← HW.out] at hbi
          obtain ⟨d0, d1, d2, d3, hbw, hsz⟩ := box4 hbi
          have hbe := hbel.trans (hbw.mono hbel.size)
          by_cases hlq : q < rs.length ∧ r ≤ 1048576
          · obtain ⟨hlq, hrl⟩ := hlq
            obtain ⟨b4, o4, pv, rfl, hb4, g0, g1, hpc⟩ := HR.out q hlq
            have hpc := hpc.keep hbw hbw.size
            rw [← hbw.cell (p := ⟨b4, o4 + q * 2, none⟩) hb4] at g0
            rw [← hbw.cell (p := ⟨b4, o4 + q * 2 + 1, none⟩) hb4] at g1
            generalize (rs.getD q .zero).action = act at *
            generalize (rs.getD q .zero).codes = cds at *
            obtain ⟨p4, rfl⟩ := hpc.ptr
            clear HR HQ
            have HB := hide hbi
            clear hbi
            rcases hpc.cases with ⟨rfl, -⟩ | ⟨c5, b5, f5, a5, cap5, -, rfl, hb5, x0, x1, hx1, hx2, -⟩
            all_goals
              clear hpc
              try unfold maxLen at hx2
              go_wp2_with (first | (go_at_call 11; refine (zzAdd_any _ _ _).mono ?_; rintro e w1 ⟨⟨r, rfl⟩, rfl⟩) | (go_at_call 20; refine (zzAddWords_any _ _ _).mono ?_; rintro e w1 ⟨⟨r, rfl⟩, rfl⟩))
              go_roundw
              case rel => exact ⟨q + 1, _, by omega, by go_num, rfl, by rw [← HW.out]; exact HB.out.alloc hsz _⟩
              case measure => simp [intOf]; omega
          · clear HR HW hbi
            have hq := HQ.out.keep hbw hbw.size
            clear HQ
            by_cases hlq' : q < rs.length
            all_goals rcases hq.cases with ⟨rfl, -⟩ | ⟨b2, f2, n2, -, rfl, hb2, cq, -⟩ | ⟨b2, f2, n2, s2, b3, f3, -, rfl, hb2, cq, -, hb3, cg⟩
            all_goals
              clear hq
              go_wp2_with (first | (go_at_call 11; refine (zzAdd_any _ _ _).mono ?_; rintro e w1 ⟨⟨r, rfl⟩, rfl⟩) | (go_at_call 20; refine (zzAddWords_any _ _ _).mono ?_; rintro e w1 ⟨⟨r, rfl⟩, rfl⟩))
              go_roundw
              case rel => exact ⟨k + 1, _, by omega, by go_num, rfl, hbe⟩
              case measure => simp [intOf]; omega
    · go_wp2
      go_ret
      exact ⟨⟨_, rfl⟩, hbel⟩
end Go.Proofs.Qxb6612257a
