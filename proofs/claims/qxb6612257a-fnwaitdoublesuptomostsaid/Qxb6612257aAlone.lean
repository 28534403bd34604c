import Derived.Test.Qxb6612257aReadZ
namespace Go.Proofs.Qxb6612257a
open Go.RowKit
set_option linter.unusedVariables false
set_option linter.unusedSimpArgs false

/-- What the walk wants of container k of a slice: its cells in the world at hand, the container's parts. -/
theorem cont_at {B : Nat} {w wr : World} {cs : List Cont} {a : Option Addr} (hB : B ≤ w.heap.size) (hbel : Below w.heap.size w wr)
    (hc : ∀ i, i < cs.length → ∃ b o v0 v1 v2 v3, a = some ⟨b, o, none⟩ ∧ b < B ∧ w.cell? ⟨b, o + i * 4, none⟩ = some v0 ∧ w.cell? ⟨b, o + i * 4 + 1, none⟩ = some v1 ∧ w.cell? ⟨b, o + i * 4 + 2, none⟩ = some v2 ∧ w.cell? ⟨b, o + i * 4 + 3, none⟩ = some v3 ∧ IsCont B w v0 v1 v2 v3 (cs.getD i .zero)) {k : Nat} (hk : k < cs.length) :
    ∃ b o p1 ar capr p3, a = some ⟨b, o, none⟩ ∧ b < wr.heap.size ∧ wr.cell? ⟨b, o + k * 4, none⟩ = some (.string (cs.getD k .zero).name) ∧ wr.cell? ⟨b, o + k * 4 + 1, none⟩ = some (.pointer p1) ∧ wr.cell? ⟨b, o + k * 4 + 2, none⟩ = some (.slice ar (cs.getD k .zero).rules.length capr) ∧ wr.cell? ⟨b, o + k * 4 + 3, none⟩ = some (.pointer p3) ∧
      PtrS wr.heap.size wr (.pointer p1) (cs.getD k .zero).policy ∧ PtrP wr.heap.size wr (.pointer p3) (cs.getD k .zero).probe ∧ capr ≤ maxLen ∧ (cs.getD k .zero).rules.length ≤ capr ∧
      ∀ i, i < (cs.getD k .zero).rules.length → ∃ b o pv, ar = some ⟨b, o, none⟩ ∧ b < wr.heap.size ∧ wr.cell? ⟨b, o + i * 2, none⟩ = some (.string ((cs.getD k .zero).rules.getD i .zero).action) ∧ wr.cell? ⟨b, o + i * 2 + 1, none⟩ = some (.pointer pv) ∧ PtrC wr.heap.size wr (.pointer pv) ((cs.getD k .zero).rules.getD i .zero).codes := by
  obtain ⟨b, o, v0, v1, v2, v3, rfl, hb, c0, c1, c2, c3, hcont⟩ := hc k hk
  obtain ⟨rfl, hp, hr, hq⟩ := hcont.keep (hbel.mono hB) (Nat.le_trans hB hbel.size)
  have hb' : b < w.heap.size := by omega
  rw [← hbel.cell (p := ⟨b, o + k * 4, none⟩) hb'] at c0
  rw [← hbel.cell (p := ⟨b, o + k * 4 + 1, none⟩) hb'] at c1
  rw [← hbel.cell (p := ⟨b, o + k * 4 + 2, none⟩) hb'] at c2
  rw [← hbel.cell (p := ⟨b, o + k * 4 + 3, none⟩) hb'] at c3
  obtain ⟨ar, capr, rfl, hnr, hmr, hcr⟩ := hr
  obtain ⟨p3, rfl⟩ := hq.ptr
  obtain ⟨p1, rfl⟩ := hp.ptr
  refine ⟨b, o, p1, ar, capr, p3, rfl, Nat.lt_of_lt_of_le hb' hbel.size, c0, c1, c2, c3, hp, hq, hmr, hnr, fun i hi => ?_⟩
  obtain ⟨b4, o4, pv, rfl, hb4, g0, g1, hpc⟩ := hcr i hi
  obtain ⟨p4, rfl⟩ := hpc.ptr
  exact ⟨b4, o4, p4, rfl, hb4, g0, g1, hpc⟩

set_option maxRecDepth 100000 in
set_option maxHeartbeats 1000000 in
theorem ownAlone_any (cs : List Cont) (v : Value) (B : Nat) (w : World) (hB : B ≤ w.heap.size) (h : IsConts B w v cs) :
    Calls Try.prog 9 #[v] w (BoolPost (alone cs) w) := by
  obtain ⟨a, cap, rfl, hn, hm, hc⟩ := h
  unfold maxLen at hm
  have HC := hide hc
  clear hc
  go_enter Try.func9, Try.ntmps9
  go_wp2
  go_loopw [3, 4] (fun t i wr => ∃ k : Nat, k ≤ cs.length ∧ i = .int .i64 k ∧ t = .int .i64 (cnt cs k) ∧ Below w.heap.size w wr) (fun _ i _ => cs.length - (intOf i).toNat)
  case atStart => exact ⟨0, Nat.zero_le _, rfl, by rw [cnt_zero]; rfl, Below.refl _ _⟩
  case round =>
    obtain ⟨k, hk, rfl, rfl, hbel⟩ := hrel
    have hcl := cnt_le cs k
    have HBEL := hide hbel
    clear hbel
    by_cases hlt : k < cs.length
    · obtain ⟨b, o, p1, ar, capr, p3, rfl, hb, c0, c1, c2, c3, hp, hq, -⟩ := cont_at hB HBEL.out HC.out hlt
      have HP := hide hp
      have HQ := hide hq
      have HS := hide (cnt_succ cs k hlt)
      clear hp hq
      generalize hco : cs.getD k .zero = co at *
      clear hco
      go_wp2_with fail
      refine (bar_any co p1 ar p3 _ capr _ _ (Nat.le_refl _) HP.out HQ.out).mono ?_
      rintro e w1 ⟨rfl, hb1⟩
      have HB1 := hide (HBEL.out.trans (hb1.mono HBEL.out.size))
      clear hb1
      cases hbar : isBar co with
      | true =>
        go_wp2
        go_roundw
        case rel => exact ⟨k + 1, by omega, by go_num, by rw [HS.out, hbar]; simp, HB1.out⟩
        case measure => simp [intOf]; omega
      | false =>
        go_wp2
        go_roundw
        case rel => exact ⟨k + 1, by omega, by go_num, by rw [HS.out, hbar]; simp, HB1.out⟩
        case measure => simp [intOf]; omega
    · have hall := cnt_all (cs := cs) (k := k) (by omega)
      rw [hall]
      rw [hall] at hcl
      clear hall
      by_cases h1 : (cs.filter isBar).length = 1
      · have H1 := hide h1
        have h1b : (((cs.filter isBar).length : Int) != 1) = false := by simp [h1]
        rw [h1] at hcl ⊢
        clear h1 h1b
        go_wp2
        go_loopw [5, 6, 7] (fun i r j wr => ∃ k : Nat, k ≤ cs.length ∧ i = .int .i64 k ∧ Below w.heap.size w wr ∧ cnt cs k = 0) (fun i _ _ _ => cs.length - (intOf i).toNat)
        case atStart => exact ⟨0, Nat.zero_le _, rfl, HBEL.out, cnt_zero _⟩
        case round =>
          clear HBEL
          obtain ⟨k2, hk2, rfl, hbel2, hno2⟩ := hrel
          have HNO2 := hide hno2
          clear hno2
          have HBEL := hide hbel2
          clear hbel2
          by_cases hlt2 : k2 < cs.length
          · obtain ⟨b, o, p1, ar, capr, p3, rfl, hb, c0, c1, c2, c3, hp, hq, hmr, hnr, hcr⟩ := cont_at hB HBEL.out HC.out hlt2
            have HP := hide hp
            have HQ := hide hq
            have HR := hide hcr
            unfold maxLen at hmr
            clear hp hq hcr
            obtain ⟨co, hco⟩ : ∃ co, co = cs.getD k2 .zero := ⟨_, rfl⟩
            rw [← hco] at HP HQ HR c0 c2 hnr
            have HCO := hide hco
            clear hco
            go_wp2_with fail
            refine (bar_any co p1 ar p3 _ capr _ _ (Nat.le_refl _) HP.out HQ.out).mono ?_
            rintro e w1 ⟨rfl, hb1⟩
            have HB1 := hide (HBEL.out.trans (hb1.mono HBEL.out.size))
            rw [← hb1.cell (p := ⟨b, o + k2 * 4 + 2, none⟩) hb] at c2
            have HBB := hide hb1
            clear hb1 c0 c1 c3
            cases hbar : isBar co with
            | false =>
              have HN3 : Hid (cnt cs (k2 + 1) = 0) := by
                show cnt cs (k2 + 1) = 0
                rw [cnt_succ cs k2 hlt2, HNO2.out, ← HCO.out, hbar]; rfl
              go_wp2
              go_roundw
              case rel => first | exact ⟨k2 + 1, by omega, by go_num, HB1.out, HN3.out⟩ | ((repeat apply Exists.intro); exact ⟨⟨k2 + 1, by omega, by go_num, HB1.out, HN3.out⟩, rfl⟩)
              case measure => simp [intOf]; omega
            | true =>
              have HV := hide (alone_at H1.out hlt2 (by rw [← HCO.out]; exact hbar))
              rw [← HCO.out] at HV
              go_wp2
              generalize hrs : co.rules = rs at *
              clear hrs
              go_loopw [7] (fun j wi => ∃ q : Nat, q ≤ rs.length ∧ j = .int .i64 q ∧ noHit rs q ∧ Below w1.heap.size w1 wi) (fun j _ => rs.length - (intOf j).toNat)
              case atStart => exact ⟨0, Nat.zero_le _, rfl, noHit.zero _, Below.refl _ _⟩
              case round =>
                obtain ⟨q, hq, rfl, hno, hbi⟩ := hrel
                have HNO := hide hno
                have HBI := hide hbi
                clear hno hbi
                by_cases hlq : q < rs.length
                · obtain ⟨b4, o4, p4, rfl, hb4, g0, g1, hpc⟩ := HR.out q hlq
                  have hbw := HBB.out.trans (HBI.out.mono HBB.out.size)
                  rw [← hbw.cell (p := ⟨b4, o4 + q * 2, none⟩) hb4] at g0
                  rw [← hbw.cell (p := ⟨b4, o4 + q * 2 + 1, none⟩) hb4] at g1
                  have HPC := hide (hpc.keep hbw hbw.size)
                  have hb4' : b4 < wr.heap.size := Nat.lt_of_lt_of_le hb4 hbw.size
                  clear hpc hbw
                  obtain ⟨ru, hru⟩ : ∃ ru, ru = rs.getD q .zero := ⟨_, rfl⟩
                  rw [← hru] at HPC g0
                  have HRU := hide hru
                  clear hru
                  go_wp2_with fail
                  refine (hit_any ru p4 _ _ (Nat.le_refl _) HPC.out).mono ?_
                  rintro e w2 ⟨rfl, hb2⟩
                  rw [← hb2.cell (p := ⟨b4, o4 + q * 2, none⟩) hb4'] at g0
                  have HB2 := hide hb2
                  clear hb2 g1
                  cases hh : hits ru with
                  | true =>
                    go_wp2
                    go_ret
                    refine BoolPost.mk ?_ ((HB1.out.trans (HBI.out.mono HB1.out.size)).trans (HB2.out.mono (Nat.le_trans HB1.out.size HBI.out.size)))
                    rw [HV.out, wholeOf_at HNO.out hlq (by rw [← HRU.out]; exact hh), ← HRU.out]
                  | false =>
                    go_wp2
                    go_roundw
                    case rel => exact ⟨q + 1, by omega, by go_num, HNO.out.succ (by rw [← HRU.out]; exact hh), HBI.out.trans (HB2.out.mono HBI.out.size)⟩
                    case measure => simp [intOf]; omega
                · go_wp2
                  go_ret
                  refine BoolPost.mk ?_ (HB1.out.trans (HBI.out.mono HB1.out.size))
                  rw [HV.out, wholeOf_none HNO.out (by omega)]; rfl
          · exfalso
            have hz := HNO2.out
            rw [cnt_all (cs := cs) (k := k2) (by omega), H1.out] at hz
            cases hz
      · have h1b : (((cs.filter isBar).length : Int) != 1) = true := by simp; omega
        have HV := hide (alone_of_not h1)
        clear h1
        go_wp2
        go_ret
        exact BoolPost.mk HV.out.symm HBEL.out
end Go.Proofs.Qxb6612257a
