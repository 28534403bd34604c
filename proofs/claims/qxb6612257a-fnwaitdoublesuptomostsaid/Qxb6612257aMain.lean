import Derived.Test.Qxb6612257aZwait
import Derived.Test.Qxb6612257aPodBytes
import Derived.Test.Qxb6612257aBytes
namespace Go.Proofs.Qxb6612257a
open Go.RowKit
set_option linter.unusedVariables false
set_option linter.unusedSimpArgs false

def TruePost (w : World) (e : Ending) (w' : World) : Prop := e = .returned (.bool true) ∧ Below w.heap.size w w'
theorem four_below {b : Nat} {y0 y1 y2 y3 : Value} {W w1 : World} (hb : Below W.heap.size W w1) (hlt : b < W.heap.size)
    (h : W.cell? ⟨b, 0, none⟩ = some y0 ∧ W.cell? ⟨b, 1, none⟩ = some y1 ∧ W.cell? ⟨b, 2, none⟩ = some y2 ∧ W.cell? ⟨b, 3, none⟩ = some y3) :
    w1.cell? ⟨b, 0, none⟩ = some y0 ∧ w1.cell? ⟨b, 1, none⟩ = some y1 ∧ w1.cell? ⟨b, 2, none⟩ = some y2 ∧ w1.cell? ⟨b, 3, none⟩ = some y3 := by
  obtain ⟨h0, h1, h2, h3⟩ := h
  refine ⟨?_, ?_, ?_, ?_⟩
  · rw [hb.cell (p := ⟨b, 0, none⟩) hlt]; exact h0
  · rw [hb.cell (p := ⟨b, 1, none⟩) hlt]; exact h1
  · rw [hb.cell (p := ⟨b, 2, none⟩) hlt]; exact h2
  · rw [hb.cell (p := ⟨b, 3, none⟩) hlt]; exact h3

theorem pod_in {w5 w6 w7 w : World} {p n1 p1 B : Nat} {a1 : Option Addr} {pol : ByteArray} {c2 : List Cont} {since : Int} {t0 t1 t2 t3 x2 x3 x4 : Value} (hX : ContsS (From B w5) w5 (.slice a1 n1 p1) c2)
    (hblk : Blk w7 p #[t0, t1, t2, t3, .string pol, .slice a1 n1 p1, x2, x3, x4, .int .u64 (since % 1000000000), .int .i64 (since / 1000000000), .pointer none] 69)
    (hb6 : Below w5.heap.size w5 w6) (hb7 : Below w6.heap.size w6 w7) (hb : Below w.heap.size w w6) :
    ∃ p' a cap, Value.pointer (some ⟨p, 0, none⟩) = Value.pointer (some ⟨p', 0, none⟩) ∧ PodIn w7 p' pol a cap c2 since ∧ Below w.heap.size w w7 := by
  have hb57 : Below w5.heap.size w5 w7 := hb6.trans (hb7.mono hb6.size)
  have hX7 : IsConts w7.heap.size w7 (.slice a1 n1 p1) c2 := ContsS.down (S := From B w7) (fun k hk => hk.2) (hX.keep (Same.of_below hb57 fun k hk => hk.2) (From.mono (Nat.le_refl _) hb57.size))
  obtain ⟨a', cap', e, hl, hm, hc⟩ := hX7
  obtain ⟨rfl, rfl, rfl⟩ : a1 = a' ∧ n1 = c2.length ∧ p1 = cap' := by simpa using e
  exact ⟨p, a1, p1, rfl, ⟨hblk.lt, hblk.cell 4, hblk.cell 5, hblk.cell 9, hblk.cell 10, hblk.cell 11, hm, hl, hc⟩, hb.trans (hb7.mono hb.size)⟩

set_option maxRecDepth 100000 in
set_option maxHeartbeats 2000000 in
theorem main_any (least most : Int) (s0 s1 s2 s3 pol : ByteArray) (v2 v3 v4 v5 : Value) (c2 c3 : List Cont) (n4 n5 : Nat) (since steps : Int) (w : World) (h2 : IsConts w.heap.size w v2 c2) (h3 : IsConts w.heap.size w v3 c3) (h4 : IsStats w.heap.size w v4 n4) (h5 : IsStats w.heap.size w v5 n5) :
    Calls Try.prog 3 #[.int .i64 least, .int .i64 most, .agg #[.string s0, .string s1, .string s2, .string s3], .string pol, v2, v3, v4, v5, .int .i64 since, .int .i64 steps] w (TruePost w) := by
  have H2 := hide h2
  have H3 := hide h3
  have H4 := hide h4
  have H5 := hide h5
  clear h2 h3 h4 h5
  go_enter Try.func3, Try.ntmps3
  go_wp2_with fail
  obtain ⟨W, hW⟩ : ∃ W, W = w.alloc (.cells #[.string s0, .string s1, .string s2, .string s3] 22) := ⟨_, rfl⟩
  rw [← hW]
  have hbe : Below w.heap.size w W := by rw [hW]; exact below_alloc (Below.refl _ _) _
  have hids : Blk W w.heap.size #[.string s0, .string s1, .string s2, .string s3] 22 := by rw [hW]; exact Blk.new _ _ _
  have HBE := hide hbe
  have HID := hide hids
  clear hW hbe hids
  refine (zzBytes_any least most s0 s1 s2 s3 pol v2 v3 v4 v5 c2 c3 n4 n5 since steps _ W HBE.out.size (H2.out.keep HBE.out (Nat.le_refl _)) (H3.out.keep HBE.out (Nat.le_refl _)) (H4.out.keep HBE.out (Nat.le_refl _)) (H5.out.keep HBE.out (Nat.le_refl _))).mono ?_
  rintro e w1 ⟨⟨b, rfl, hsm⟩, hb1⟩
  have hid1 := HID.out.below hb1 HID.out.lt
  have HB1 := hide (HBE.out.trans (hb1.mono HBE.out.size))
  have i0 := hid1.cell 0
  have i1 := hid1.cell 1
  have i2 := hid1.cell 2
  have i3 := hid1.cell 3
  simp at i0 i1 i2 i3
  have HID1 := hide hid1
  clear hb1 hid1 HID HBE
  cases b with
  | false =>
    clear hsm
    go_wp2
    go_ret
    exact ⟨rfl, HB1.out⟩
  | true =>
    obtain ⟨t2, t3, t4, t5⟩ := hsm rfl
    have T2 := hide t2
    have T3 := hide t3
    clear hsm t2 t3
    go_wp2_with fail
    refine (zzPodBytes_any s0 s1 s2 s3 pol v2 v3 v4 v5 c2 c3 n4 n5 _ w1 HB1.out.size (H2.out.keep HB1.out (Nat.le_refl _)) (H3.out.keep HB1.out (Nat.le_refl _)) (H4.out.keep HB1.out (Nat.le_refl _)) (H5.out.keep HB1.out (Nat.le_refl _))).mono ?_
    rintro e w2 ⟨⟨r, rfl⟩, hb2⟩
    have hid2 := HID1.out.below hb2 HID1.out.lt
    have HB2 := hide (HB1.out.trans (hb2.mono HB1.out.size))
    have j0 := hid2.cell 0
    have j1 := hid2.cell 1
    have j2 := hid2.cell 2
    have j3 := hid2.cell 3
    simp at j0 j1 j2 j3
    have hlt2 := hid2.lt
    clear hb2 hid2 i0 i1 i2 i3 HID1 HB1
    by_cases hr : 1048576 < r
    · go_wp2
      go_ret
      exact ⟨rfl, HB2.out⟩
    · by_cases g1 : steps < 1
      · go_wp2
        go_ret
        exact ⟨rfl, HB2.out⟩
      · by_cases g2 : 64 < steps
        · go_wp2
          go_ret
          exact ⟨rfl, HB2.out⟩
        · by_cases g3 : least < 1
          · go_wp2
            go_ret
            exact ⟨rfl, HB2.out⟩
          · by_cases g4 : most < least
            · go_wp2
              go_ret
              exact ⟨rfl, HB2.out⟩
            · by_cases g5 : 72057594037927936 < most
              · go_wp2
                go_ret
                exact ⟨rfl, HB2.out⟩
              · by_cases g6 : (since == 0) = true
                · go_wp2
                  go_ret
                  exact ⟨rfl, HB2.out⟩
                · have g6' : (since == 0) = false := by simpa using g6
                  clear g6
                  by_cases g7 : since < -2305843009213693952
                  · go_wp2
                    go_ret
                    exact ⟨rfl, HB2.out⟩
                  · by_cases g8 : 2305843009213693952 < since
                    · go_wp2
                      go_ret
                      exact ⟨rfl, HB2.out⟩
                    · go_wp2_with fail
                      have HSPEC : Hid (∀ W, Below w.heap.size w W → Calls Try.prog 7 #[.string pol, v2, v3] W (SpecPost pol c2 W)) := fun W hW => zzSpec_any pol v2 v3 c2 c3 w.heap.size W hW.size (H2.out.keep hW (Nat.le_refl _)) (H3.out.keep hW (Nat.le_refl _)) T2.out T3.out
                      have HSTAT : Hid (∀ W, Below w.heap.size w W → Calls Try.prog 8 #[v4, v5] W (StatusPost W)) := fun W hW => zzStatus_any v4 v5 n4 n5 w.heap.size W hW.size (H4.out.keep hW (Nat.le_refl _)) (H5.out.keep hW (Nat.le_refl _)) t4 t5
                      go_cut [21] (fun s21 wx => ∃ p a cap, s21 = .pointer (some ⟨p, 0, none⟩) ∧ PodIn wx p pol a cap c2 since ∧ Below w.heap.size w wx)
                      case first =>
                        go_region_held3 (fun w' => w'.cell? ⟨w.heap.size, 0, none⟩ = some (.string s0) ∧ w'.cell? ⟨w.heap.size, 1, none⟩ = some (.string s1) ∧ w'.cell? ⟨w.heap.size, 2, none⟩ = some (.string s2) ∧ w'.cell? ⟨w.heap.size, 3, none⟩ = some (.string s3)) (simp [*, go_sem])
                          (first
                            | (go_at_call 7; refine (HSPEC.out _ ?_).mono ?_; (exact HB2.out.drew); rintro e w5 ⟨a1, n1, p1, a2, n2, p2, rfl, hX, hb5⟩; obtain ⟨k0, k1, k2, k3⟩ := four_below (b := w.heap.size) (y0 := .string s0) (y1 := .string s1) (y2 := .string s2) (y3 := .string s3) hb5 (by simpa using hlt2) (by simp [*, go_sem]); have HB5 := hide (HB2.out.drew.trans (hb5.mono HB2.out.size)); have hlt5 : w.heap.size < w5.heap.size := (Nat.lt_of_lt_of_le (by simpa using hlt2) hb5.size); have HX := hide hX; clear hb5 hX)
                            | (go_at_call 8; refine (HSTAT.out _ ?_).mono ?_; (exact HB5.out); rintro e w6 ⟨a3, n3, p3, a4, n4', p4, rfl, hb6⟩; obtain ⟨k0, k1, k2, k3⟩ := four_below (b := w.heap.size) (y0 := .string s0) (y1 := .string s1) (y2 := .string s2) (y3 := .string s3) hb6 hlt5 (by simp [*, go_sem]); have HB56 := hide hb6; clear hb6)
                            | (go_at_call 6; refine (newPod_any s0 s1 s2 s3 pol a1 a2 a3 a4 n1 p1 n2 p2 n3 p3 n4' p4 since _ (by omega) (by omega)).mono ?_; rintro e w7 ⟨p, t0, t1, t2, t3, x2, x3, x4, rfl, hpl, hblk, hb7⟩; obtain ⟨k0, k1, k2, k3⟩ := four_below (b := w.heap.size) (y0 := .string s0) (y1 := .string s1) (y2 := .string s2) (y3 := .string s3) hb7 (Nat.lt_of_lt_of_le hlt5 HB56.out.size) (by simp [*, go_sem]); have HB67 := hide hb7; have HBLK := hide hblk; clear hb7 hblk))
                        go_wp2
                        go_meet
                        exact pod_in HX.out HBLK.out HB56.out HB67.out (HB5.out.trans (HB56.out.mono HB5.out.size))
                      case rest =>
                        clear HSPEC HSTAT j0 j1 j2 j3 HB2 H3 H4 H5 T2 T3
                        obtain ⟨p, a, cap, rfl, hpod, hbc⟩ := hcut
                        have HP := hide hpod
                        have HBC := hide hbc
                        clear hpod hbc
                        go_wp2_with fail
                        refine (ownAlone_any c2 v2 w.heap.size wc HBC.out.size (H2.out.keep HBC.out (Nat.le_refl _))).mono ?_
                        rintro e w3 ⟨rfl, hb3⟩
                        have HP3 := hide (HP.out.below hb3)
                        have HB3 := hide (HBC.out.trans (hb3.mono HBC.out.size))
                        clear hb3 HP HBC H2
                        have hne : since ≠ 0 := by simpa using g6'
                        have HNE := hide hne
                        clear hne
                        cases hal : alone c2 with
                        | true =>
                          go_wp2_with fail
                          go_loopw [23, 24, 25, 26, 27] (fun t ex i x y wr => ∃ (k : Nat) (e : Int), (k : Int) ≤ steps ∧ 1 ≤ e ∧ e ≤ most ∧ i = .int .i64 k ∧ ex = .int .i64 e ∧ t = .int .i64 (since + least) ∧ PodIn wr p pol a cap c2 since ∧ Below w.heap.size w wr) (fun _ _ i _ _ _ => steps.toNat - (intOf i).toNat)
                          case atStart => exact ⟨0, least, by omega, by omega, by omega, rfl, rfl, rfl, HP3.out, HB3.out⟩
                          case round =>
                            obtain ⟨k, ex, hk, he0, he1, rfl, rfl, rfl, hpod, hbel⟩ := hrel
                            have HPR := hide hpod
                            have HBR := hide hbel
                            clear hpod hbel
                            by_cases hlt : (k : Int) < steps
                            · go_wp2_with fail
                              refine (zzwait_any least most (since + least) since p pol a cap c2 _ HPR.out (by omega) (by omega) (by omega) (by omega) (by omega) (by omega) HNE.out).mono ?_
                              rintro e w4 ⟨rfl, hb4⟩
                              have hv : waits c2 least most (since + least - since) = 0 := by simp [waits, hal]
                              rw [hv]
                              have HP4 := hide (HPR.out.below hb4)
                              have HB4 := hide (HBR.out.trans (hb4.mono HBR.out.size))
                              clear hb4 hv
                              by_cases hm : most < 2 * ex
                              · go_wp2
                                go_roundw
                                case rel => first | exact ⟨k + 1, most, by omega, by omega, by omega, by go_num, rfl, by go_num, HP4.out, HB4.out⟩ | ((repeat apply Exists.intro); exact ⟨⟨k + 1, most, by omega, by omega, by omega, by go_num, rfl, by go_num, HP4.out, HB4.out⟩, rfl⟩)
                                case measure => simp [intOf]; omega
                              · go_wp2
                                go_roundw
                                case rel => first | exact ⟨k + 1, 2 * ex, by omega, by omega, by omega, by go_num, rfl, by go_num, HP4.out, HB4.out⟩ | ((repeat apply Exists.intro); exact ⟨⟨k + 1, 2 * ex, by omega, by omega, by omega, by go_num, rfl, by go_num, HP4.out, HB4.out⟩, rfl⟩)
                                case measure => simp [intOf]; omega
                            · go_wp2
                              go_ret
                              exact ⟨rfl, HBR.out⟩
                        | false =>
                          go_wp2_with fail
                          go_loopw [23, 24, 25, 26, 27] (fun t ex i x y wr => ∃ (k : Nat) (e el : Int), (k : Int) ≤ steps ∧ e = min el most ∧ least ≤ el ∧ el ≤ ((k : Int) + 1) * 72057594037927936 ∧ i = .int .i64 k ∧ ex = .int .i64 e ∧ t = .int .i64 (since + el) ∧ PodIn wr p pol a cap c2 since ∧ Below w.heap.size w wr) (fun _ _ i _ _ _ => steps.toNat - (intOf i).toNat)
                          case atStart => exact ⟨0, least, least, by omega, by omega, by omega, by omega, rfl, rfl, rfl, HP3.out, HB3.out⟩
                          case round =>
                            obtain ⟨k, ex, el, hk, he, he0, he1, rfl, rfl, rfl, hpod, hbel⟩ := hrel
                            have HPR := hide hpod
                            have HBR := hide hbel
                            have HE := hide he
                            have hx0 : 1 ≤ ex := by omega
                            have hx1 : ex ≤ most := by omega
                            have hx2 : ex ≤ el := by omega
                            clear hpod hbel he
                            by_cases hlt : (k : Int) < steps
                            · go_wp2_with fail
                              refine (zzwait_any least most (since + el) since p pol a cap c2 _ HPR.out (by omega) (by omega) (by omega) (by omega) (by omega) (by omega) HNE.out).mono ?_
                              rintro e w4 ⟨rfl, hb4⟩
                              have hv : waits c2 least most (since + el - since) = ex := by
                                have := HE.out
                                simp only [waits, hal]
                                simp
                                omega
                              rw [hv]
                              have HP4 := hide (HPR.out.below hb4)
                              have HB4 := hide (HBR.out.trans (hb4.mono HBR.out.size))
                              clear hb4 hv
                              have hee : (ex != ex) = false := by simp
                              by_cases hm : most < 2 * ex
                              · have HE1 : Hid (most = min (el + ex) most) := by show most = min (el + ex) most; have := HE.out; omega
                                go_wp2
                                go_roundw
                                case rel => first | exact ⟨k + 1, most, el + ex, by omega, HE1.out, by omega, by omega, by go_num, rfl, by go_num, HP4.out, HB4.out⟩ | ((repeat apply Exists.intro); exact ⟨⟨k + 1, most, el + ex, by omega, HE1.out, by omega, by omega, by go_num, rfl, by go_num, HP4.out, HB4.out⟩, rfl⟩)
                                case measure => simp [intOf]; omega
                              · have HE1 : Hid (2 * ex = min (el + ex) most) := by show 2 * ex = min (el + ex) most; have := HE.out; omega
                                go_wp2
                                go_roundw
                                case rel => first | exact ⟨k + 1, 2 * ex, el + ex, by omega, HE1.out, by omega, by omega, by go_num, rfl, by go_num, HP4.out, HB4.out⟩ | ((repeat apply Exists.intro); exact ⟨⟨k + 1, 2 * ex, el + ex, by omega, HE1.out, by omega, by omega, by go_num, rfl, by go_num, HP4.out, HB4.out⟩, rfl⟩)
                                case measure => simp [intOf]; omega
                            · go_wp2
                              go_ret
                              exact ⟨rfl, HBR.out⟩
end Go.Proofs.Qxb6612257a
